import PyProof.Rows.All
import Wide.All
import OpenK.AllK
import Wide.FinOn
import OpenK.ZRun
import PyProof.WalkLemmas
import KE.KSuperObj
import KE.KNest
import KE.KSortKey
import Lean
import PySem.Challenge.RW_mq0197_01
set_option maxRecDepth 100000
set_option Elab.async false
set_option autoImplicit false
set_option linter.all false
section
set_option genSizeOf false
set_option genInjectivity false
namespace Mine
open PySem PyProof.Rows
/-! another heap -/
noncomputable abbrev up (s : Shared) (h : Heap) (t : Nat) : Shared := { s with heap := h, toks := t }
/-! scalars and trees -/
inductive Sc where
  | none
  | bool (b : Bool)
  | int (i : Int)
  | flt (f : UInt64)
  | str (s : Str)
  deriving DecidableEq
inductive T where
  | sc (x : Sc)
  | tup (l : List Sc)
  | lst (l : List T)
  | rng (n : Nat)
  | mut (a : Addr)
inductive RS : Value → Sc → Prop
  | none : RS .none .none
  | bool (b : Bool) : RS (.bool b) (.bool b)
  | int (i : Int) (t : Tok) : RS (.int i t) (.int i)
  | flt (f : UInt64) (t : Tok) (ht : 0 < t) : RS (.float f t) (.flt f)
  | str (s : Str) (t : Tok) : RS (.str s t) (.str s)
inductive RT (Z : Addr → Prop) (h : Heap) : Value → T → Prop
  | sc {v : Value} {x : Sc} : RS v x → RT Z h v (.sc x)
  | tup {a : Addr} {vs : List Value} {l : List Sc} : h.IsTuple a vs.toArray → Paired RS vs l → RT Z h (.ref a) (.tup l)
  | lst {a : Addr} {vs : List Value} {l : List T} : ¬ Z a → h.PlainList a vs.toArray → Paired (RT Z h) vs l → l.length ≤ 4096 → RT Z h (.ref a) (.lst l)
  | rng {a : Addr} {n : Nat} {t u v : Tok} : IsRange h a 0 n 1 t u v → RT Z h (.ref a) (.rng n)
  | mut {a : Addr} : RT Z h (.ref a) (.mut a)
theorem rs_int {v : Value} {i : Int} (r : RS v (.int i)) : ∃ t, v = .int i t := by cases r; exact ⟨_, rfl⟩
theorem rs_flt {v : Value} {i : UInt64} (r : RS v (.flt i)) : ∃ t, v = .float i t := by cases r; exact ⟨_, rfl⟩
theorem rs_flt' {v : Value} {i : UInt64} (r : RS v (.flt i)) : ∃ t, v = .float i t ∧ 0 < t := by cases r with | flt _ t h => exact ⟨t, rfl, h⟩
theorem rs_str {v : Value} {i : Str} (r : RS v (.str i)) : ∃ t, v = .str i t := by cases r; exact ⟨_, rfl⟩
theorem rt_sc {Z : Addr → Prop} {h : Heap} {v : Value} {x : Sc} (r : RT Z h v (.sc x)) : RS v x := by cases r with | sc q => exact q
theorem rt_tup {Z : Addr → Prop} {h : Heap} {v : Value} {l : List Sc} (r : RT Z h v (.tup l)) : ∃ a vs, v = .ref a ∧ h.IsTuple a (List.toArray vs) ∧ Paired RS vs l := by cases r with | tup t q => exact ⟨_, _, rfl, t, q⟩
theorem rt_lst {Z : Addr → Prop} {h : Heap} {v : Value} {l : List T} (r : RT Z h v (.lst l)) : ∃ a vs, v = .ref a ∧ ¬ Z a ∧ h.PlainList a (List.toArray vs) ∧ Paired (RT Z h) vs l ∧ l.length ≤ 4096 := by cases r with | lst a b c d => exact ⟨_, _, rfl, a, b, c, d⟩
theorem rt_mut {Z : Addr → Prop} {h : Heap} {v : Value} {a : Addr} (r : RT Z h v (.mut a)) : v = .ref a := by cases r; rfl
theorem rt_rng {Z : Addr → Prop} {h : Heap} {v : Value} {n : Nat} (r : RT Z h v (.rng n)) : ∃ a t u x, v = .ref a ∧ IsRange h a 0 n 1 t u x := by cases r with | rng q => exact ⟨_, _, _, _, rfl, q⟩
theorem rs_bool {v : Value} {i : Bool} (r : RS v (.bool i)) : v = .bool i := by cases r; rfl
theorem rs_none {v : Value} (r : RS v .none) : v = .none := by cases r; rfl
/-- a frame's own object -/
noncomputable def FO (o : Obj) : Prop := (∃ es n, o.data = .dict es n) ∨ (∃ v, o.data = .cell v)
/-- what may turn -/
noncomputable def Soft (o : Obj) : Prop := FO o ∨ o.cls = .type "list" ∨ o.cls = .type "list_iterator" ∨ o.cls = .type "range_iterator"
/-- not one of the two code tables -/
noncomputable def NT (b : Addr) : Prop := b ≠ 16 ∧ b ≠ 54
theorem nt_hi {b : Addr} (hb : 100 ≤ b) : NT b := ⟨by intro e; rw [e] at hb; exact absurd hb (by decide), by intro e; rw [e] at hb; exact absurd hb (by decide)⟩
structure Keep (X : List Addr) (h h' : Heap) : Prop where
  size : h.objs.size ≤ h'.objs.size
  keep : ∀ b o, h.get? b = some o → NT b → (b ∈ X → ¬ FO o) → h'.get? b = some o
theorem Keep.refl (X : List Addr) (h : Heap) : Keep X h h := ⟨Nat.le_refl _, fun _ _ e _ _ => e⟩
theorem Keep.trans {X : List Addr} {h h₁ h₂ : Heap} (a : Keep X h h₁) (b : Keep X h₁ h₂) : Keep X h h₂ :=
  ⟨Nat.le_trans a.size b.size, fun c o e t x => b.keep c o (a.keep c o e t x) t x⟩
theorem Keep.weak {X : List Addr} {h h' : Heap} (a : Keep [] h h') : Keep X h h' := ⟨a.size, fun c o e t _ => a.keep c o e t (by simp)⟩
theorem Keep.all {X : List Addr} {h h' : Heap} (hs : h.objs.size ≤ h'.objs.size) (hk : ∀ b o, h.get? b = some o → h'.get? b = some o) : Keep X h h' :=
  ⟨hs, fun b o e _ _ => hk b o e⟩
theorem Keep.push {X : List Addr} (h : Heap) (o : Obj) : Keep X h (h.push o) := .all (by rw [Heap.size_push]; omega) fun _ _ e => Heap.get?_push_of_some o e
/-- an object that is newer than h turns -/
theorem Keep.newer {X : List Addr} {h h₁ h₂ : Heap} (k : Keep X h h₁) {a : Addr} (hs : Heap.SameBut a h₁ h₂) (ha : h.objs.size ≤ a) : Keep X h h₂ :=
  ⟨Nat.le_trans k.size (Nat.le_of_eq hs.1.symm), fun b o e t x => (hs.2 b (Nat.ne_of_lt (Nat.lt_of_lt_of_le (Heap.lt_size e) ha))).trans (k.keep b o e t x)⟩
theorem nt_of {h : Heap} {a : Addr} {o : Obj} {T : String} (g : h.get? a = some o) (hc : o.cls = .type T) {o1 o2 : Obj} (h1 : h.get? 16 = some o1) (c1 : o1.cls = .none) (h2 : h.get? 54 = some o2) (c2 : o2.cls = .none) : NT a :=
  ⟨fun e => (by subst e; rw [h1] at g; cases g; rw [c1] at hc; cases hc), fun e => (by subst e; rw [h2] at g; cases g; rw [c2] at hc; cases hc)⟩
theorem paired_mono {α β : Type} {F G : α → β → Prop} (hm : ∀ a b, F a b → G a b) {l₁ : List α} {l₂ : List β} (p : Paired F l₁ l₂) : Paired G l₁ l₂ := by
  induction p with
  | nil => exact .nil
  | cons a _ ih => exact .cons (hm _ _ a) ih
theorem paired_mono_mem {α β : Type} {F G : α → β → Prop} {l₁ : List α} {l₂ : List β} (hm : ∀ a b, b ∈ l₂ → F a b → G a b) (p : Paired F l₁ l₂) : Paired G l₁ l₂ := by
  induction p with
  | nil => exact .nil
  | cons a _ ih => exact .cons (hm _ _ (.head _) a) (ih fun a b m => hm a b (.tail _ m))
theorem paired_get {α β : Type} {F : α → β → Prop} {l₁ : List α} {l₂ : List β} (p : Paired F l₁ l₂) : ∀ {i : Nat} {b : β}, l₂[i]? = some b → ∃ a, l₁[i]? = some a ∧ F a b := by
  induction p with
  | nil => intro i b e; rw [List.getElem?_nil] at e; cases e
  | cons f _ ih =>
    intro i b e
    cases i with
    | zero => rw [List.getElem?_cons_zero] at e; cases e; exact ⟨_, rfl, f⟩
    | succ i => rw [List.getElem?_cons_succ] at e ⊢; exact ih e
theorem paired_cons_inv {α β : Type} {F : α → β → Prop} {l₁ : List α} {b : β} {l₂ : List β} (p : Paired F l₁ (b :: l₂)) : ∃ a l, l₁ = a :: l ∧ F a b ∧ Paired F l l₂ := by cases p with | cons a b => exact ⟨_, _, rfl, a, b⟩
theorem paired_nil_inv {α β : Type} {F : α → β → Prop} {l₁ : List α} (p : Paired F l₁ []) : l₁ = [] := by cases p; rfl
theorem paired_one {α β : Type} {F : α → β → Prop} {l₁ : List α} {b : β} (p : Paired F l₁ [b]) : ∃ a, l₁ = [a] ∧ F a b := by
  obtain ⟨a, l, rfl, f, q⟩ := paired_cons_inv p
  obtain rfl := paired_nil_inv q
  exact ⟨a, rfl, f⟩
theorem paired_len {α β : Type} {F : α → β → Prop} {l₁ : List α} {l₂ : List β} (p : Paired F l₁ l₂) : l₁.length = l₂.length := by
  induction p with
  | nil => rfl
  | cons _ _ ih => rw [List.length_cons, List.length_cons, ih]
theorem paired_app {α β : Type} {F : α → β → Prop} {m₁ : List α} {m₂ : List β} {l₁ : List α} {l₂ : List β} (p : Paired F l₁ l₂) (q : Paired F m₁ m₂) : Paired F (l₁ ++ m₁) (l₂ ++ m₂) := by
  induction p with
  | nil => exact q
  | cons g _ ih => exact .cons g ih
theorem paired_snoc {α β : Type} {F : α → β → Prop} {a : α} {b : β} {l₁ : List α} {l₂ : List β} (p : Paired F l₁ l₂) (f : F a b) : Paired F (l₁ ++ [a]) (l₂ ++ [b]) := paired_app p (.cons f .nil)
/-- the two tables are there -/
noncomputable def Tb (h : Heap) : Prop := ∃ o1 o2, h.get? 16 = some o1 ∧ h.get? 54 = some o2 ∧ o1.cls = .none ∧ o2.cls = .none
theorem Tb.nt {h : Heap} (t : Tb h) {a : Addr} {o : Obj} {T : String} (g : h.get? a = some o) (hc : o.cls = .type T) : NT a := by
  obtain ⟨o1, o2, g1, g2, c1, c2⟩ := t
  exact nt_of g hc g1 c1 g2 c2
theorem Keep.tuple {X : List Addr} {h h' : Heap} (e : Keep X h h') (tb : Tb h) {a : Addr} {its : Array Value} (t : h.IsTuple a its) : h'.IsTuple a its := by
  obtain ⟨o, ho, hc, n, hd⟩ := t
  refine ⟨o, e.keep a o ho (tb.nt ho hc) (fun _ f => ?_), hc, n, hd⟩
  rcases f with ⟨_, _, q⟩ | ⟨_, q⟩ <;> (rw [hd] at q; cases q)
theorem Keep.range {X : List Addr} {h h' : Heap} (e : Keep X h h') (tb : Tb h) {a : Addr} {x y z : Int} {t u v : Tok} (r : IsRange h a x y z t u v) : IsRange h' a x y z t u v :=
  e.keep a _ r (tb.nt r rfl) fun _ f => by rcases f with ⟨_, _, q⟩ | ⟨_, q⟩ <;> cases q
theorem Keep.plain {X : List Addr} {h h' : Heap} (e : Keep X h h') (tb : Tb h) {a : Addr} {its : Array Value} (t : h.PlainList a its) : h'.PlainList a its := by
  obtain ⟨n, ho⟩ := t
  exact ⟨n, e.keep a _ ho (tb.nt ho rfl) fun _ f => by rcases f with ⟨_, _, q⟩ | ⟨_, q⟩ <;> cases q⟩
theorem RT.gen {Z Z' : Addr → Prop} {h h' : Heap} (ht : ∀ a its, h.IsTuple a its → h'.IsTuple a its) (hr : ∀ a x y z t u v, IsRange h a x y z t u v → IsRange h' a x y z t u v) (hl : ∀ a its, ¬ Z a → h.PlainList a its → ¬ Z' a ∧ h'.PlainList a its) (x : T) : ∀ v : Value, RT Z h v x → RT Z' h' v x := by
  induction x using T.rec (motive_2 := fun l => ∀ x ∈ l, ∀ v, RT Z h v x → RT Z' h' v x) with
  | sc x => intro v r; exact .sc (rt_sc r)
  | tup l => intro v r; obtain ⟨a, vs, rfl, t, q⟩ := rt_tup r; exact .tup (ht _ _ t) q
  | lst l ih =>
    intro v r
    obtain ⟨a, vs, rfl, nz, p, q, z⟩ := rt_lst r
    obtain ⟨a, b⟩ := hl _ _ nz p
    exact .lst a b (paired_mono_mem (fun a b m r => ih b m a r) q) z
  | rng n => intro v r; obtain ⟨a, t, u, x, rfl, q⟩ := rt_rng r; exact .rng (hr _ _ _ _ _ _ _ q)
  | «mut» a => intro v r; cases rt_mut r; exact .mut
  | nil => rename_i hx v r; exact absurd hx List.not_mem_nil
  | cons x l i1 i2 =>
    rename_i y hy v r
    rcases List.mem_cons.mp hy with rfl | hy
    · exact i1 v r
    · exact i2 y hy v r
theorem RT.mono {Z : Addr → Prop} {X : List Addr} {h h' : Heap} (e : Keep X h h') (tb : Tb h) (x : T) (v : Value) (r : RT Z h v x) : RT Z h' v x :=
  RT.gen (fun _ _ t => e.tuple tb t) (fun _ _ _ _ _ _ _ r => e.range tb r) (fun _ _ nz p => ⟨nz, e.plain tb p⟩) x v r
/-! the tables' state -/
noncomputable def tabO (vs : Array Value) : Obj := { cls := .none, data := .fields vs }
noncomputable def Tabs (Good : Obj → Obj → List (Addr × Obj) → Prop) (h : Heap) : Prop := ∃ o1 o2 l, h.get? 16 = some o1 ∧ h.get? 54 = some o2 ∧ o1.cls = .none ∧ o2.cls = .none ∧ ¬ Soft o1 ∧ ¬ Soft o2 ∧
  (∀ p ∈ l, h.get? p.1 = some p.2 ∧ ¬ Soft p.2 ∧ NT p.1) ∧ ((o1 = tabO #[] ∧ o2 = tabO #[]) ∨ Good o1 o2 l)
theorem Tabs.tb {Good : Obj → Obj → List (Addr × Obj) → Prop} {h : Heap} (t : Tabs Good h) : Tb h := by
  obtain ⟨o1, o2, l, g1, g2, c1, c2, _⟩ := t
  exact ⟨o1, o2, g1, g2, c1, c2⟩
theorem Tabs.mono {Good : Obj → Obj → List (Addr × Obj) → Prop} {h h' : Heap} (t : Tabs Good h) (e1 : h'.get? 16 = h.get? 16) (e2 : h'.get? 54 = h.get? 54)
    (hk : ∀ c o, h.get? c = some o → ¬ Soft o → NT c → h'.get? c = some o) : Tabs Good h' := by
  obtain ⟨o1, o2, l, g1, g2, c1, c2, k1, k2, hl, hb⟩ := t
  exact ⟨o1, o2, l, e1.trans g1, e2.trans g2, c1, c2, k1, k2, fun p hp => ⟨hk _ _ (hl p hp).1 (hl p hp).2.1 (hl p hp).2.2, (hl p hp).2⟩, hb⟩
/-- what does not change in this development -/
structure Pm where
  H0 : Heap
  Good : Obj → Obj → List (Addr × Obj) → Prop
  mg : Str → Option Value
  mb : Str → Option Value
  hg : H0.Ns mainGlobals mg
  hb : H0.Ns builtinsNs mb
  lim : H0.NoLimit
  nb : NoneBooked H0
structure RB (P : Pm) (h : Heap) : Prop where
  base : ∀ b o, b < 100 → NT b → P.H0.get? b = some o → h.get? b = some o
  tabs : Tabs P.Good h
  big : 100 ≤ h.objs.size
/-- what is hidden stands already -/
noncomputable def Hz (Z : Addr → Prop) (h : Heap) : Prop := ∀ a, Z a → a < h.objs.size
theorem Hz.mono {Z : Addr → Prop} {h h' : Heap} (z : Hz Z h) (l : h.objs.size ≤ h'.objs.size) : Hz Z h' := fun a q => Nat.lt_of_lt_of_le (z a q) l
theorem Hz.new {Z : Addr → Prop} {h : Heap} (z : Hz Z h) : ¬ Z h.objs.size := fun q => Nat.lt_irrefl _ (z _ q)
noncomputable def MuOk (Z : Addr → Prop) (μ : Addr → Option (List T)) (h : Heap) : Prop := ∀ a l, μ a = some l → 100 ≤ a ∧ ∃ vs, h.PlainList a vs.toArray ∧ Paired (RT Z h) vs l ∧ l.length ≤ 4096
section
variable {P : Pm} {h h' : Heap}
theorem RB.tb (r : RB P h) : Tb h := r.tabs.tb
theorem RB.keeps (r : RB P h) (hs : h.objs.size ≤ h'.objs.size) (hk : ∀ b o, h.get? b = some o → h'.get? b = some o) : RB P h' := by
  refine ⟨fun b o l n e => hk _ _ (r.base b o l n e), ?_, Nat.le_trans r.big hs⟩
  obtain ⟨o1, o2, g1, g2, _⟩ := r.tb
  exact r.tabs.mono ((hk _ _ g1).trans g1.symm) ((hk _ _ g2).trans g2.symm) fun c o e _ _ => hk c o e
theorem RB.push (r : RB P h) (o : Obj) : RB P (h.push o) := r.keeps (by rw [Heap.size_push]; omega) fun _ _ e => Heap.get?_push_of_some o e
/-- something soft turns -/
theorem RB.ext (r : RB P h) {c : Addr} {o : Obj} (hs : Heap.ExtBut c h h') (hz : h.objs.size ≤ h'.objs.size) (hc : h.get? c = some o) (hl : Soft o) (hb : 100 ≤ c) : RB P h' := by
  refine ⟨fun b o' l n e => hs b o' (Nat.ne_of_lt (Nat.lt_of_lt_of_le l hb)) (r.base b o' l n e), ?_, Nat.le_trans r.big hz⟩
  obtain ⟨o1, o2, g1, g2, _⟩ := r.tb
  refine r.tabs.mono ((hs 16 _ (Nat.ne_of_lt (Nat.lt_of_lt_of_le (by decide : 16 < 100) hb)) g1).trans g1.symm) ((hs 54 _ (Nat.ne_of_lt (Nat.lt_of_lt_of_le (by decide : 54 < 100) hb)) g2).trans g2.symm) fun b o' e n _ => ?_
  refine hs b o' (fun q => ?_) e
  subst q
  rw [hc] at e
  cases e
  exact n hl
theorem RB.turn (r : RB P h) {c : Addr} {o : Obj} (hs : Heap.SameBut c h h') (hc : h.get? c = some o) (hl : Soft o) (hb : 100 ≤ c) : RB P h' := r.ext hs.extBut (Nat.le_of_eq hs.1.symm) hc hl hb
theorem ns_keeps {g : Heap} {a : Addr} {m : Str → Option Value} (n : g.Ns a m) (hk : ∀ o, g.get? a = some o → h.get? a = some o) : h.Ns a m := by
  obtain ⟨o, es, ep, e, r⟩ := n
  exact ⟨o, es, ep, hk o e, r⟩
theorem RB.glob (r : RB P h) : h.Ns mainGlobals P.mg := ns_keeps P.hg fun o e => r.base _ o (by decide) ⟨by decide, by decide⟩ e
theorem RB.blt (r : RB P h) : h.Ns builtinsNs P.mb := ns_keeps P.hb fun o e => r.base _ o (by decide) ⟨by decide, by decide⟩ e
theorem RB.nolimit (r : RB P h) : h.NoLimit := by
  obtain ⟨mc, n, e⟩ := P.lim
  exact ⟨mc, ns_keeps n fun o e => r.base _ o (by decide) ⟨by decide, by decide⟩ e, e⟩
theorem RB.booked (r : RB P h) : NoneBooked h := by
  obtain ⟨mc, n, e⟩ := P.nb
  exact ⟨mc, ns_keeps n fun o e => r.base _ o (by decide) ⟨by decide, by decide⟩ e, e⟩
theorem MuOk.mono {Z : Addr → Prop} {μ : Addr → Option (List T)} {X : List Addr} (m : MuOk Z μ h) (e : Keep X h h') (tb : Tb h) : MuOk Z μ h' := fun a l q => let ⟨b, vs, p, r, z⟩ := m a l q; ⟨b, vs, e.plain tb p, paired_mono (fun _ _ x => x.mono e tb) r, z⟩
end
/-! a frame -/
structure Fm where
  names : List (Str × NameKind)
  vars : List (Str × T)
structure FrmOk (Z : Addr → Prop) (env : Env) (fm : Fm) (h : Heap) : Prop where
  kind : env.scope.kind = .function
  names : env.scope.names = fm.names
  glob : env.globals = mainGlobals
  blt : env.builtins = builtinsNs
  hi : 100 ≤ env.locals
  loc : ∃ m, h.Ns env.locals m ∧ ∀ x y, fm.vars.lookup x = some y → fm.names.lookup x = some .local → ∃ v, m x = some v ∧ RT Z h v y
  cel : ∀ x, (fm.names.lookup x = some .cell ∨ fm.names.lookup x = some .free) → ∃ c ov, env.cells.lookup x = some c ∧ h.IsCell c ov ∧ 100 ≤ c ∧ ∀ y, fm.vars.lookup x = some y → ∃ v, ov = some v ∧ RT Z h v y
  inj : ∀ x y c, env.cells.lookup x = some c → env.cells.lookup y = some c → x = y
theorem Keep.ns {X : List Addr} {h h' : Heap} (e : Keep X h h') {a : Addr} {m : Str → Option Value} (n : h.Ns a m) (ha : 100 ≤ a) (hx : a ∉ X) : h'.Ns a m := by
  obtain ⟨o, es, ep, g, d, r⟩ := n
  exact ⟨o, es, ep, e.keep _ _ g (nt_hi ha) (fun q => absurd q hx), d, r⟩
theorem Keep.cell {X : List Addr} {h h' : Heap} (e : Keep X h h') {a : Addr} {v : Option Value} (n : h.IsCell a v) (ha : 100 ≤ a) (hx : a ∉ X) : h'.IsCell a v := by
  obtain ⟨o, g, d⟩ := n
  exact ⟨o, e.keep _ _ g (nt_hi ha) (fun q => absurd q hx), d⟩
theorem FrmOk.mono {Z : Addr → Prop} {env : Env} {fm : Fm} {h h' : Heap} (f : FrmOk Z env fm h) (e : Keep [] h h') (tb : Tb h) : FrmOk Z env fm h' := by
  refine ⟨f.kind, f.names, f.glob, f.blt, f.hi, ?_, ?_, f.inj⟩
  · obtain ⟨m, hn, hm⟩ := f.loc
    exact ⟨m, e.ns hn f.hi (by simp), fun x y a b => let ⟨v, p, q⟩ := hm x y a b; ⟨v, p, q.mono e tb⟩⟩
  · intro x k
    obtain ⟨c, ov, a, b, d, q⟩ := f.cel x k
    exact ⟨c, ov, a, e.cell b d (by simp), d, fun y z => let ⟨v, p, q⟩ := q y z; ⟨v, p, q.mono e tb⟩⟩
/-! the room that is left -/
noncomputable def Sl (k : Nat) (A : Around) : Prop := A.handled = none ∧ A.depth + k < 1000 ∧ A.units + 100 * k < 9900
theorem Sl.mono {k j : Nat} {A : Around} (s : Sl k A) (hj : j ≤ k) : Sl j A := ⟨s.1, by have := s.2.1; omega, by have := s.2.2; omega⟩
theorem Sl.in1 {k : Nat} {A : Around} (s : Sl (k + 1) A) : Sl k A.in1 := ⟨s.1, by have := s.2.1; show A.depth + k < 1000; omega, by have := s.2.2; show A.units + 1 + 100 * k < 9900; omega⟩
theorem Sl.deeper {k : Nat} {A : Around} (s : Sl (k + 1) A) (env : Env) : Sl k (A.deeper env) := ⟨s.1, by have := s.2.1; show A.depth + 1 + k < 1000; omega, by have := s.2.2; show A.units + 3 + 100 * k < 9900; omega⟩
theorem Sl.units {k : Nat} {A : Around} (s : Sl (k + 1) A) : A.units + 64 < cLine := by have := s.2.2; show A.units + 64 < 9900; omega
theorem Sl.unit {k : Nat} {A : Around} (s : Sl k A) : A.units < cLine := by have := s.2.2; show A.units < 9900; omega
theorem Sl.room {k : Nat} {A : Around} (s : Sl k A) : A.depth < recursionLimit := by have := s.2.1; show A.depth < 1000; omega
/-! judgements -/
noncomputable abbrev Mu := Addr → Option (List T)
section
variable (prog : Program) (w : World) (P : Pm) (A : Around)
/-- what a step leaves -/
noncomputable def Out (Z : Addr → Prop) (s : Shared) (r : T) (Q : Value → Shared → Prop) : Prop :=
  ∀ v h' tk, 0 < tk → Keep [] s.heap h' → RB P h' → RT Z h' v r → Q v (up s h' tk)
structure Pre (Z : Addr → Prop) (env : Env) (fm : Fm) (μ : Mu) (s : Shared) : Prop where
  rb : RB P s.heap
  ht : 0 < s.toks
  hz : Hz Z s.heap
  mo : MuOk Z μ s.heap
  fo : FrmOk Z env fm s.heap
noncomputable abbrev Ev (env : Env) (fm : Fm) (μ : Mu) (t : Sem Value) (r : T) : Prop :=
  ∀ {Z : Addr → Prop} (s : Shared) (Q : Value → Shared → Prop) (E : Value → Shared → Prop), Pre P Z env fm μ s → Out P Z s r Q → wpAny (model prog w) A t Q E s
noncomputable abbrev EvB (env : Env) (fm : Fm) (μ : Mu) (t : Sem Bool) (b : Bool) : Prop :=
  ∀ {Z : Addr → Prop} (s : Shared) (Q : Bool → Shared → Prop) (E : Value → Shared → Prop), Pre P Z env fm μ s →
    (∀ h' tk, 0 < tk → Keep [] s.heap h' → RB P h' → Q b (up s h' tk)) → wpAny (model prog w) A t Q E s
noncomputable abbrev EvL (env : Env) (fm : Fm) (μ : Mu) (t : Sem (List Value)) (r : List T) : Prop :=
  ∀ {Z : Addr → Prop} (s : Shared) (Q : List Value → Shared → Prop) (E : Value → Shared → Prop), Pre P Z env fm μ s →
    (∀ vs h' tk, 0 < tk → Keep [] s.heap h' → RB P h' → Paired (RT Z h') vs r → Q vs (up s h' tk)) → wpAny (model prog w) A t Q E s
noncomputable abbrev Op1 (μ : Mu) (f : Value → Sem Value) (a : T) (r : T) : Prop :=
  ∀ {Z : Addr → Prop} (s : Shared) (x : Value) (Q : Value → Shared → Prop) (E : Value → Shared → Prop), RB P s.heap → 0 < s.toks → MuOk Z μ s.heap → Hz Z s.heap → RT Z s.heap x a → Out P Z s r Q → wpAny (model prog w) A (f x) Q E s
noncomputable abbrev Op2 (μ : Mu) (f : Value → Value → Sem Value) (a b : T) (r : T) : Prop :=
  ∀ {Z : Addr → Prop} (s : Shared) (x y : Value) (Q : Value → Shared → Prop) (E : Value → Shared → Prop), RB P s.heap → 0 < s.toks → MuOk Z μ s.heap → Hz Z s.heap → RT Z s.heap x a → RT Z s.heap y b → Out P Z s r Q → wpAny (model prog w) A (f x y) Q E s
noncomputable abbrev OpL (μ : Mu) (f : List Value → Sem Value) (a : List T) (r : T) : Prop :=
  ∀ {Z : Addr → Prop} (s : Shared) (xs : List Value) (Q : Value → Shared → Prop) (E : Value → Shared → Prop), RB P s.heap → 0 < s.toks → MuOk Z μ s.heap → Hz Z s.heap → Paired (RT Z s.heap) xs a → Out P Z s r Q → wpAny (model prog w) A (f xs) Q E s
end
section
variable {prog : Program} {w : World} {P : Pm} {A : Around} {Z : Addr → Prop} {env : Env} {fm : Fm} {μ : Mu}
theorem Pre.next {s : Shared} (p : Pre P Z env fm μ s) {h' : Heap} {tk : Nat} (tp : 0 < tk) (e : Keep [] s.heap h') (rb : RB P h') : Pre P Z env fm μ (up s h' tk) :=
  ⟨rb, tp, p.hz.mono e.size, p.mo.mono e p.rb.tb, p.fo.mono e p.rb.tb⟩
/-- a value, nothing turns -/
theorem Out.here {s : Shared} {r : T} {Q : Value → Shared → Prop} (o : Out P Z s r Q) (rb : RB P s.heap) {v : Value} (rv : RT Z s.heap v r) (tk : Nat) (tp : 0 < tk) : Q v { s with toks := tk } :=
  o v s.heap tk tp (Keep.refl _ _) rb rv
theorem Out.same {s : Shared} {r : T} {Q : Value → Shared → Prop} (o : Out P Z s r Q) (rb : RB P s.heap) (ht : 0 < s.toks) {v : Value} (rv : RT Z s.heap v r) : Q v s := o.here rb rv s.toks ht
theorem Out.next {s : Shared} {h₁ : Heap} {t₁ : Nat} {r : T} {Q : Value → Shared → Prop} (o : Out P Z s r Q) (e : Keep [] s.heap h₁) : Out P Z (up s h₁ t₁) r Q :=
  fun v h' tk tp e' rb rv => o v h' tk tp (e.trans e') rb rv
/-- everything stands as it stood; a new object -/
theorem Out.push {s : Shared} {r : T} {Q : Value → Shared → Prop} (o : Out P Z s r Q) (rb : RB P s.heap) (ht : 0 < s.toks) {ob : Obj} (rv : RT Z (s.heap.push ob) (.ref s.heap.objs.size) r) (tk : Nat := s.toks) (tp : 0 < tk := by assumption) : Q (.ref s.heap.objs.size) (up s (s.heap.push ob) (tk)) :=
  o _ _ tk tp (Keep.push _ _) (rb.push _) rv
theorem rt_newList {h : Heap} {vs : List Value} {l : List T} {n : Nat} (tb : Tb h) (hz : Hz Z h) (hp : Paired (RT Z h) vs l) (hl : l.length ≤ 4096) : RT Z (h.push { cls := .type "list", data := .seq vs.toArray n }) (.ref h.objs.size) (.lst l) :=
  .lst hz.new ⟨n, Heap.get?_push_size _ rfl⟩ (paired_mono (fun a b r => RT.mono (Keep.push (X := []) _ _) tb b a r) hp) hl
theorem ev_int {i : Int} {k : Nat} {pos : Pos} : Ev prog w P A env fm μ (eval (.Constant (.int i) k pos) env) (.sc (.int i)) := fun s Q E p o => by
  show wpAny _ _ (mkInt i) _ _ _
  exact wpAny_mkInt (o.here p.rb (.sc (.int i _)) _ (Nat.succ_pos _))
theorem ev_flt {i : UInt64} {k : Nat} {pos : Pos} : Ev prog w P A env fm μ (eval (.Constant (.float i) k pos) env) (.sc (.flt i)) := fun s Q E p o =>
  wpAny_Constant_float (o.here p.rb (.sc (.flt i _ p.ht)) _ (Nat.succ_pos _))
theorem ev_str {i : Str} {k : Nat} {pos : Pos} : Ev prog w P A env fm μ (eval (.Constant (.str i) k pos) env) (.sc (.str i)) := fun s Q E p o =>
  Calls.Constant_str (o.here p.rb (.sc (.str i _)) _ (Nat.succ_pos _))
theorem ev_bool {i : Bool} {k : Nat} {pos : Pos} : Ev prog w P A env fm μ (eval (.Constant (.bool i) k pos) env) (.sc (.bool i)) := fun s Q E p o =>
  wpAny_pure (o.same p.rb p.ht (.sc (.bool i)))
theorem ev_none {k : Nat} {pos : Pos} : Ev prog w P A env fm μ (eval (.Constant .none k pos) env) (.sc .none) := fun s Q E p o =>
  wpAny_pure (o.same p.rb p.ht (.sc .none))
theorem ev_name {x : Str} {pos : Pos} {y : T} {k : NameKind} (hk : fm.names.lookup x = some k) (hk' : k = .local ∨ k = .cell ∨ k = .free) (hy : fm.vars.lookup x = some y)
    (h1 : (x == ("__debug__" : Str)) = false) (h2 : (x == ("__classdict__" : Str)) = false) : Ev prog w P A env fm μ (eval (.Name x pos) env) y := fun s Q E p o => by
  have f := p.fo
  have ek : env.kindOf x = some k := by unfold Env.kindOf; rw [f.names]; exact hk
  refine wpAny_Name ?_ h1
  rcases hk' with rfl | rfl | rfl
  · obtain ⟨m, hn, hm⟩ := f.loc
    obtain ⟨v, e, r⟩ := hm x y hy hk
    exact wpAny_loadName_local f.kind ek hn e (o.same p.rb p.ht r)
  · obtain ⟨c, ov, e, ic, _, hv⟩ := f.cel x (.inl hk)
    obtain ⟨v, rfl, r⟩ := hv y hy
    exact wpAny_loadName_cell f.kind ek e ic (o.same p.rb p.ht r)
  · obtain ⟨c, ov, e, ic, _, hv⟩ := f.cel x (.inr hk)
    obtain ⟨v, rfl, r⟩ := hv y hy
    exact wpAny_loadName_free f.kind ek e ic (o.same p.rb p.ht r) h2
/-- two trees and what is done with their values -/
theorem two {t₁ t₂ : Sem Value} {f : Value → Value → Sem Value} {a b r : T} (h1 : Ev prog w P A env fm μ t₁ a) (h2 : Ev prog w P A env fm μ t₂ b) (h3 : Op2 prog w P A μ f a b r)
    {s : Shared} {Q : Value → Shared → Prop} {E : Value → Shared → Prop} (p : Pre P Z env fm μ s) (o : Out P Z s r Q) :
    wpAny (model prog w) A t₁ (fun x s₁ => wpAny (model prog w) A t₂ (fun y s₂ => wpAny (model prog w) A (f x y) Q E s₂) E s₁) E s := by
  refine h1 s _ E p fun v h₁ tk₁ tp₁ e₁ rb₁ rv₁ => h2 _ _ E (p.next tp₁ e₁ rb₁) fun u h₂ tk₂ tp₂ e₂ rb₂ rv₂ => ?_
  exact h3 _ v u Q E rb₂ tp₂ ((p.next tp₁ e₁ rb₁).next tp₂ e₂ rb₂).mo ((p.next tp₁ e₁ rb₁).next tp₂ e₂ rb₂).hz (rv₁.mono e₂ rb₁.tb) rv₂ ((o.next (t₁ := tk₁) e₁).next (t₁ := tk₂) e₂)
theorem ev_binop {l r : Expr} {op : Operator} {pos : Pos} {a b c : T} (h1 : Ev prog w P A env fm μ (eval l env) a) (h2 : Ev prog w P A env fm μ (eval r env) b)
    (h3 : Op2 prog w P A μ (binaryOp op) a b c) : Ev prog w P A env fm μ (eval (.BinOp l op r pos) env) c := fun _ _ _ p o => wpAny_BinOp (two h1 h2 h3 p o)
theorem ev_compare {l r : Expr} {op : CmpOp} {pos : Pos} {a b c : T} (h1 : Ev prog w P A env fm μ (eval l env) a) (h2 : Ev prog w P A env fm μ (eval r env) b)
    (h3 : Op2 prog w P A μ (compareOp op) a b c) (hm : behindInMarks op r = false) : Ev prog w P A env fm μ (eval (.Compare l [op] [r] pos) env) c := fun _ _ _ p o => wpAny_Compare1 (two h1 h2 h3 p o) hm
theorem evb_compare {l r : Expr} {op : CmpOp} {pos : Pos} {wh : Sem Value} {a b : T} {c : Bool} (h1 : Ev prog w P A env fm μ (eval l env) a) (h2 : Ev prog w P A env fm μ (eval r env) b)
    (h3 : Op2 prog w P A μ (compareOp op) a b (.sc (.bool c))) (hm : behindInMarks op r = false) : EvB prog w P A env fm μ (isTrue (.Compare l [op] [r] pos) env wh) c := fun s Q E p o => by
  refine wpAny_isTrue_Compare1 (two (f := compareOp op) h1 h2 h3 p (Q := fun c s₃ => wpAny (model prog w) A (truthy c) Q E s₃) fun v h' tk tp e rb rv => ?_) hm
  cases rs_bool (rt_sc rv)
  exact wpAny_truthy_bool (o h' tk tp e rb)
/-- operations on scalars that turn nothing -/
theorem op2_sc {f : Value → Value → Sem Value} {x y r : Sc} (h : ∀ (s : Shared) (u v : Value) (Q : Value → Shared → Prop) (E : Value → Shared → Prop), RS u x → RS v y → s.heap.NoLimit → 0 < s.toks → (∀ z tk, 0 < tk → RS z r → Q z { s with toks := tk }) → wpAny (model prog w) A (f u v) Q E s) :
    Op2 prog w P A μ f (.sc x) (.sc y) (.sc r) := fun s u v Q E rb ht mo hz ru rv o => by
  exact h s u v Q E (rt_sc ru) (rt_sc rv) rb.nolimit ht fun z tk tp rz => o.here rb (.sc rz) tk tp
end
end Mine
end
section
namespace Mine
open PySem PyProof.Rows
/-- an answer with its proof, or none -/
inductive Res {α : Type} (p : α → Prop) where
  | ok (r : α) (h : p r)
  | no
namespace Res
noncomputable def bind {α β : Type} {p : α → Prop} {q : β → Prop} (x : Res p) (k : (r : α) → p r → Res q) : Res q := Res.rec k .no x
noncomputable def val {α : Type} {p : α → Prop} (x : Res p) : Option α := Res.rec (fun r _ => some r) none x
theorem get {α : Type} {p : α → Prop} {x : Res p} {r : α} (h : x.val = some r) : p r := by
  cases x with
  | ok a q => exact Option.some.inj h ▸ q
  | no => cases h
end Res
noncomputable def opt {α : Type} (o : Option α) : Res (fun r => o = some r) := Option.rec (motive := fun o => Res (fun r => o = some r)) .no (fun r => .ok r rfl) o
noncomputable def chkP (c : Prop) [d : Decidable c] : Res (fun _ : Unit => c) := Decidable.rec (motive := fun _ => Res (fun _ : Unit => c)) (fun _ => .no) (fun h => .ok () h) d
theorem chkP_pos {c : Prop} [d : Decidable c] (h : c) : chkP c = .ok () h := by
  unfold chkP
  cases d with
  | isTrue _ => rfl
  | isFalse n => exact absurd h n
noncomputable def BinK (op : Operator) (x y r : Sc) : Prop := ∀ {prog : Program} {w : World} {P : Pm} {A : Around} {μ : Mu}, A.handled = none → Op2 prog w P A μ (binaryOp op) (.sc x) (.sc y) (.sc r)
noncomputable def CmpK (op : CmpOp) (x y : Sc) (r : Bool) : Prop := ∀ {prog : Program} {w : World} {P : Pm} {A : Around} {μ : Mu}, Op2 prog w P A μ (compareOp op) (.sc x) (.sc y) (.sc (.bool r))
noncomputable def OutR (r : Sc) (s : Shared) (Q : Value → Shared → Prop) : Prop := ∀ z tk, 0 < tk → RS z r → Q z { s with toks := tk }
section
variable {op : Operator} {co : CmpOp} {a b : Int} {f e : UInt64} {r : Sc} {c : Bool}
theorem bII (h : ∀ {prog : Program} {w : World} {A : Around} (s : Shared) (t u : Tok) (Q : Value → Shared → Prop) (E : Value → Shared → Prop), A.handled = none → 0 < s.toks → OutR r s Q → wpAny (model prog w) A (binaryOp op (.int a t) (.int b u)) Q E s) : BinK op (.int a) (.int b) r := by
  intro prog w P A μ hA Z
  refine op2_sc fun s u v Q E ru rv nl ht o => ?_
  obtain ⟨t, rfl⟩ := rs_int ru
  obtain ⟨t', rfl⟩ := rs_int rv
  exact h s t t' Q E hA ht o
theorem bFF (h : ∀ {prog : Program} {w : World} {A : Around} (s : Shared) (t u : Tok) (Q : Value → Shared → Prop) (E : Value → Shared → Prop), A.handled = none → 0 < s.toks → OutR r s Q → wpAny (model prog w) A (binaryOp op (.float f t) (.float e u)) Q E s) : BinK op (.flt f) (.flt e) r := by
  intro prog w P A μ hA Z
  refine op2_sc fun s u v Q E ru rv nl ht o => ?_
  obtain ⟨t, rfl⟩ := rs_flt ru
  obtain ⟨t', rfl⟩ := rs_flt rv
  exact h s t t' Q E hA ht o
theorem bFI (h : ∀ {prog : Program} {w : World} {A : Around} (s : Shared) (t u : Tok) (Q : Value → Shared → Prop) (E : Value → Shared → Prop), A.handled = none → 0 < s.toks → OutR r s Q → wpAny (model prog w) A (binaryOp op (.float f t) (.int b u)) Q E s) : BinK op (.flt f) (.int b) r := by
  intro prog w P A μ hA Z
  refine op2_sc fun s u v Q E ru rv nl ht o => ?_
  obtain ⟨t, rfl⟩ := rs_flt ru
  obtain ⟨t', rfl⟩ := rs_int rv
  exact h s t t' Q E hA ht o
theorem cAny {x y : Sc} (h : ∀ {prog : Program} {w : World} {A : Around} (s : Shared) (u v : Value) (Q : Value → Shared → Prop) (E : Value → Shared → Prop), RS u x → RS v y → Q (.bool c) s → wpAny (model prog w) A (compareOp co u v) Q E s) : CmpK co x y c := by
  intro prog w P A μ Z
  exact op2_sc fun s u v Q E ru rv nl ht o => h s u v Q E ru rv (o _ s.toks ht (.bool _))
theorem cII (h : ∀ {prog : Program} {w : World} {A : Around} (s : Shared) (t u : Tok) (Q : Value → Shared → Prop) (E : Value → Shared → Prop), Q (.bool c) s → wpAny (model prog w) A (compareOp co (.int a t) (.int b u)) Q E s) : CmpK co (.int a) (.int b) c := by
  refine cAny fun s u v Q E ru rv o => ?_
  obtain ⟨t, rfl⟩ := rs_int ru
  obtain ⟨t', rfl⟩ := rs_int rv
  exact h s t t' Q E o
theorem cFF (h : ∀ {prog : Program} {w : World} {A : Around} (s : Shared) (t u : Tok) (Q : Value → Shared → Prop) (E : Value → Shared → Prop), Q (.bool c) s → wpAny (model prog w) A (compareOp co (.float f t) (.float e u)) Q E s) : CmpK co (.flt f) (.flt e) c := by
  refine cAny fun s u v Q E ru rv o => ?_
  obtain ⟨t, rfl⟩ := rs_flt ru
  obtain ⟨t', rfl⟩ := rs_flt rv
  exact h s t t' Q E o
end
theorem over_small {n : Int} (h : n.natAbs < 2 ^ 64) : ¬ PySem.Flt.Over n := by
  intro q
  have : (2 : Nat) ^ 64 ≤ 2 ^ 1024 - 2 ^ 970 := by decide +kernel
  exact absurd (Nat.lt_of_lt_of_le h this) (Nat.not_lt.mpr q)
theorem fits_small {n : Int} (h : n.natAbs < 2 ^ 64) : n.natAbs < 2 ^ 1023 := Nat.lt_of_lt_of_le h (by decide +kernel)
theorem bits_small {a : Int} (h : a.natAbs < 2 ^ 60) : Builtin.Int.intBits a ≤ 64 := by
  refine intBits_le_64 ?_ ?_
  · have : (2 : Nat) ^ 60 ≤ 2 ^ 64 := by decide
    omega
  · omega
noncomputable def bsI (op : Operator) (a b : Int) : Res (BinK op (.int a) (.int b)) := match op with
  | .Add => .ok (.int (a + b)) (bII fun _ _ _ _ _ _ _ o => PyProof.Rows.add_int (o _ _ (Nat.succ_pos _) (.int _ _)))
  | .Sub => .ok (.int (a - b)) (bII fun _ _ _ _ _ _ _ o => PyProof.Rows.sub_int (o _ _ (Nat.succ_pos _) (.int _ _)))
  | .Mult => (chkP (a.natAbs < 2 ^ 60)).bind fun _ h => .ok (.int (a * b)) (bII fun _ _ _ _ _ _ _ o => PyProof.Rows.mul_int (o _ _ (Nat.succ_pos _) (.int _ _)) (IntMulOk.of_left (bits_small h)))
  | .FloorDiv => (chkP (b ≠ 0 ∧ b.natAbs < 1073741824)).bind fun _ h => .ok (.int (a.fdiv b)) (bII fun _ _ _ _ _ _ _ o => PyProof.Rows.floordiv_int h.1 (o _ _ (Nat.succ_pos _) (.int _ _)) (.inl (PyProof.noPylong_small h.2)))
  | .Mod => (chkP (b ≠ 0)).bind fun _ h => .ok (.int (a.fmod b)) (bII fun _ _ _ _ _ _ _ o => PyProof.Rows.mod_int' h (o _ _ (Nat.succ_pos _) (.int _ _)))
  | .Div => (chkP (b ≠ 0 ∧ a.natAbs < 2 ^ 64)).bind fun _ h => .ok (.flt (Float64.ofFrac (decide (a < 0) != decide (b < 0)) a.natAbs b.natAbs)) (bII fun _ _ _ _ _ hA ht o => PySem.Flt.div_ii_fits hA (fits_small h.2) (fun q => absurd q h.1) fun _ _ => o _ _ (Nat.succ_pos _) (.flt _ _ ht))
  | _ => .no
noncomputable def bsF (op : Operator) (a b : UInt64) : Res (BinK op (.flt a) (.flt b)) := match op with
  | .Add => .ok (.flt (Float64.add a b)) (bFF fun _ _ _ _ _ _ ht o => PyProof.Rows.add_float (o _ _ (Nat.succ_pos _) (.flt _ _ ht)))
  | .Sub => .ok (.flt (Float64.sub a b)) (bFF fun _ _ _ _ _ _ ht o => PyProof.Rows.sub_float (o _ _ (Nat.succ_pos _) (.flt _ _ ht)))
  | .Mult => .ok (.flt (Float64.mul a b)) (bFF fun _ _ _ _ _ _ ht o => PyProof.Rows.mul_float (o _ _ (Nat.succ_pos _) (.flt _ _ ht)))
  | .Div => (chkP (Float64.isZero b = false)).bind fun _ h => .ok (.flt (Float64.div a b)) (bFF fun _ _ _ _ _ hA ht o => PyProof.Rows.truediv_float_or hA (fun q => absurd (h.symm.trans q) Bool.false_ne_true) fun _ => o _ _ (Nat.succ_pos _) (.flt _ _ ht))
  | .Mod => (chkP (Float64.isZero b = false)).bind fun _ h => .ok (.flt (Float64.divmod a b).2) (bFF fun _ _ _ _ _ hA ht o => PySem.Flt.mod_ff hA (fun q => absurd (h.symm.trans q) Bool.false_ne_true) fun _ => o _ _ (Nat.succ_pos _) (.flt _ _ ht))
  | _ => .no
noncomputable def bsM (op : Operator) (a : UInt64) (n : Int) : Res (BinK op (.flt a) (.int n)) := match op with
  | .Sub => (chkP (n.natAbs < 2 ^ 64)).bind fun _ h => .ok (.flt (Float64.sub a (Float64.ofInt n))) (bFI fun _ _ _ _ _ _ ht o => PyProof.Rows.sub_fi_fits (fits_small h) (o _ _ (Nat.succ_pos _) (.flt _ _ ht)))
  | .Mod => (chkP (n ≠ 0 ∧ n.natAbs < 2 ^ 64)).bind fun _ h => .ok (.flt (Float64.divmod a (Float64.ofInt n)).2) (bFI fun _ _ _ _ _ hA ht o => PySem.Flt.mod_fi hA (fun q => absurd q (over_small h.2)) (fun q => absurd q h.1) fun _ _ => o _ _ (Nat.succ_pos _) (.flt _ _ ht))
  | _ => .no
noncomputable def binR (op : Operator) (x y : Sc) : Res (BinK op x y) := match x with
  | .int a => match y with
    | .int b => bsI op a b
    | _ => .no
  | .flt a => match y with
    | .flt b => bsF op a b
    | .int n => bsM op a n
    | _ => .no
  | _ => .no
noncomputable def binS (op : Operator) (x y : Sc) : Option Sc := (binR op x y).val
noncomputable def csI (op : CmpOp) (a b : Int) : Res (CmpK op (.int a) (.int b)) := match op with
  | .Eq => .ok (a == b) (cII fun _ _ _ _ _ o => PyProof.Rows.eq_int o)
  | .NotEq => .ok (a != b) (cII fun _ _ _ _ _ o => PyProof.Rows.ne_int o)
  | .Lt => .ok (decide (a < b)) (cII fun _ _ _ _ _ o => PyProof.Rows.lt_int o)
  | .LtE => .ok (decide (a ≤ b)) (cII fun _ _ _ _ _ o => PyProof.Rows.le_int o)
  | .Gt => .ok (decide (b < a)) (cII fun _ _ _ _ _ o => PyProof.Rows.gt_int o)
  | _ => .no
noncomputable def csF (op : CmpOp) (a b : UInt64) : Res (CmpK op (.flt a) (.flt b)) := match op with
  | .Eq => .ok (Float64.cmp a b == some Ordering.eq) (cFF fun _ _ _ _ _ o => PySem.AutoFloatOps.eq_0 o)
  | .NotEq => .ok (Float64.cmp a b != some Ordering.eq) (cFF fun _ _ _ _ _ o => PySem.AutoFloatOps.ne_0 o)
  | .LtE => .ok (Float64.cmp a b == some Ordering.lt || Float64.cmp a b == some Ordering.eq) (cFF fun _ _ _ _ _ o => PySem.AutoFloatOps.le_0 o)
  | _ => .no
noncomputable def csM (op : CmpOp) (a : UInt64) (n : Int) : Res (CmpK op (.flt a) (.int n)) := match op with
  | .Lt => .ok (Float64.cmpInt a n == some Ordering.lt) (cAny fun _ _ _ _ _ ru rv o => by
    obtain ⟨t, rfl⟩ := rs_flt ru
    obtain ⟨t', rfl⟩ := rs_int rv
    exact PyProof.Rows.lt_fi o)
  | _ => .no
noncomputable def csB (op : CmpOp) (a b : Bool) : Res (CmpK op (.bool a) (.bool b)) := match op with
  | .NotEq => .ok (a != b) (cAny fun _ _ _ _ _ ru rv o => by cases rs_bool ru; cases rs_bool rv; exact PyProof.Rows.ne_bool o)
  | _ => .no
noncomputable def isNone : Sc → Bool
  | .none => true
  | _ => false
theorem isNone_ok {v : Value} {x : Sc} (r : RS v x) : (v == Value.none) = isNone x := by cases r <;> rfl
noncomputable def csN (op : CmpOp) (x : Sc) : Res (CmpK op x .none) := match op with
  | .Is => .ok (isNone x) (cAny fun _ _ _ _ _ ru rv o => by cases rs_none rv; exact PySem.is_none (by rw [isNone_ok ru]; exact o))
  | _ => .no
noncomputable def cmpR (op : CmpOp) (x y : Sc) : Res (CmpK op x y) := match y with
  | .none => csN op x
  | .int b => match x with
    | .int a => csI op a b
    | .flt a => csM op a b
    | _ => .no
  | .flt b => match x with
    | .flt a => csF op a b
    | _ => .no
  | .bool b => match x with
    | .bool a => csB op a b
    | _ => .no
  | _ => .no
noncomputable def cmpS (op : CmpOp) (x y : Sc) : Option Bool := (cmpR op x y).val
section
variable {prog : Program} {w : World} {P : Pm} {A : Around} {μ : Mu}
theorem binS_ok (hA : A.handled = none) {op : Operator} {x y r : Sc} (e : binS op x y = some r) : Op2 prog w P A μ (binaryOp op) (.sc x) (.sc y) (.sc r) := Res.get (p := BinK op x y) e hA
theorem cmpS_ok {op : CmpOp} {x y : Sc} {r : Bool} (e : cmpS op x y = some r) : Op2 prog w P A μ (compareOp op) (.sc x) (.sc y) (.sc (.bool r)) := Res.get (p := CmpK op x y) e
end
end Mine
end
section
namespace Mine
open PySem PyProof.Rows
noncomputable def its (μ : Mu) : T → Option (List T)
  | .lst l => some l
  | .mut a => μ a
  | _ => none
theorem its_ok {μ : Mu} {x : T} {l : List T} (e : its μ x = some l) {Z : Addr → Prop} {h : Heap} (mo : MuOk Z μ h) {v : Value} (r : RT Z h v x) : ∃ a vs, v = .ref a ∧ h.PlainList a vs.toArray ∧ Paired (RT Z h) vs l ∧ vs.length = l.length ∧ l.length ≤ 4096 := by
  cases x with
  | lst k =>
    cases e
    obtain ⟨a, vs, rfl, _, p, q, z⟩ := rt_lst r
    exact ⟨a, vs, rfl, p, q, paired_len q, z⟩
  | «mut» a =>
    cases rt_mut r
    obtain ⟨_, vs, p, q, z⟩ := mo _ _ e
    exact ⟨a, vs, rfl, p, q, paired_len q, z⟩
  | _ => cases e
noncomputable def truS : Sc → Option Bool
  | .bool b => some b
  | .int i => some (i != 0)
  | .flt f => some (!Float64.isZero f)
  | .none => some false
  | .str _ => none
noncomputable def truL (μ : Mu) (x : T) : Option Bool := (its μ x).map fun l => !l.isEmpty
noncomputable def truV (μ : Mu) (x : T) : Option Bool := match x with
  | .sc x => truS x
  | x => truL μ x
section
variable {prog : Program} {w : World} {P : Pm} {A : Around} {env : Env} {fm : Fm} {μ : Mu}
theorem trus_ok {v : Sc} {b : Bool} (e : truS v = some b) {s : Shared} {x : Value} {Q : Bool → Shared → Prop} {E : Value → Shared → Prop} (ht : 0 < s.toks) (rv : RS x v) (o : ∀ tk, 0 < tk → Q b { s with toks := tk }) : wpAny (model prog w) A (truthy x) Q E s := by
  have o := o s.toks ht
  cases v with
  | bool b => cases e; cases rs_bool rv; exact wpAny_truthy_bool o
  | int i => cases e; obtain ⟨_, rfl⟩ := rs_int rv; exact PyProof.Rows.truthy_int o
  | flt f => cases e; obtain ⟨_, rfl⟩ := rs_flt rv; exact truthy_float o
  | none => cases e; cases rs_none rv; exact PyProof.Rows.truthy_none o
  | str _ => cases e
theorem trul_ok {Z : Addr → Prop} {v : T} {b : Bool} (e : truL μ v = some b) {s : Shared} {x : Value} {Q : Bool → Shared → Prop} {E : Value → Shared → Prop} (mo : MuOk Z μ s.heap) (rv : RT Z s.heap x v) (o : ∀ tk, 0 < tk → Q b { s with toks := tk }) : wpAny (model prog w) A (truthy x) Q E s := by
  obtain ⟨l, hl, rfl⟩ := Option.map_eq_some_iff.mp e
  obtain ⟨a, vs, rfl, p, q, z, y⟩ := its_ok hl mo rv
  refine wpAny_truthy_list p.isList (by rw [List.size_toArray]; omega) ?_
  have : (!vs.toArray.isEmpty) = !l.isEmpty := by cases q <;> rfl
  rw [this]
  exact o _ (Nat.succ_pos _)
theorem tru_ok {Z : Addr → Prop} {v : T} {b : Bool} (e : truV μ v = some b) {s : Shared} {x : Value} {Q : Bool → Shared → Prop} {E : Value → Shared → Prop} (mo : MuOk Z μ s.heap) (ht : 0 < s.toks) (rv : RT Z s.heap x v) (o : ∀ tk, 0 < tk → Q b { s with toks := tk }) :
    wpAny (model prog w) A (truthy x) Q E s := by
  cases v with
  | sc v => exact trus_ok e ht (rt_sc rv) o
  | _ => exact trul_ok e mo rv o
theorem evb_val {t : Expr} {v : T} {b : Bool} (h : Ev prog w P A env fm μ (eval t env) v) (e : truV μ v = some b) (he : isTrue t env (eval t env) = (do let v ← eval t env; standAt t.pos; holding [v] (truthy v))) :
    EvB prog w P A env fm μ (isTrue t env (eval t env)) b := fun s Q E p o =>
  PyProof.Rows.isTrue_plain (h s _ E p fun v h' tk tp e' rb rv => tru_ok e (p.next tp e' rb).mo tp rv fun tk' tp' => o h' tk' tp' e' rb) he
theorem evb_not {t : Expr} {pos : Pos} {wh : Sem Value} {b : Bool} (h : EvB prog w P A env fm μ (isTrue t env (eval t env)) b) : EvB prog w P A env fm μ (isTrue (.UnaryOp .Not t pos) env wh) (!b) := fun s Q E p o =>
  PyProof.Rows.isTrue_not (h s _ E p o)
theorem ev_ifexp {t a b : Expr} {pos : Pos} {c : Bool} {r : T} (h : EvB prog w P A env fm μ (isTrue t env (eval t env)) c) (h1 : c = true → Ev prog w P A env fm μ (eval a env) r) (h2 : c = false → Ev prog w P A env fm μ (eval b env) r) :
    Ev prog w P A env fm μ (eval (.IfExp t a b pos) env) r := fun s Q E p o => by
  refine wpAny_IfExp (h s _ E p fun h' tk tp e rb => ?_)
  cases c with
  | true => exact h1 rfl _ Q E (p.next tp e rb) (o.next e)
  | false => exact h2 rfl _ Q E (p.next tp e rb) (o.next e)
theorem evb_all_nil {op : BoolOp} : EvB prog w P A env fm μ (allTrue op [] env) (op == .And) := fun s Q E p o => wpAny_pure (o s.heap s.toks p.ht (Keep.refl _ _) p.rb)
theorem evb_all_stop {op : BoolOp} {t : Expr} {rest : List Expr} {b : Bool} (h : EvB prog w P A env fm μ (isTrue t env (eval t env)) b) (hb : b = (op == .Or)) : EvB prog w P A env fm μ (allTrue op (t :: rest) env) b := fun s Q E p o => by
  rw [arm_allTrue_cons]
  refine wpAny_bind (h s _ E p fun h' tk tp e rb => ?_)
  subst hb
  cases op <;> exact wpAny_pure (o h' tk tp e rb)
theorem evb_all_go {op : BoolOp} {t : Expr} {rest : List Expr} {b c : Bool} (h : EvB prog w P A env fm μ (isTrue t env (eval t env)) b) (hb : b = (op == .And)) (h2 : EvB prog w P A env fm μ (allTrue op rest env) c) :
    EvB prog w P A env fm μ (allTrue op (t :: rest) env) c := fun s Q E p o => by
  rw [arm_allTrue_cons]
  refine wpAny_bind (h s _ E p fun h' tk tp e rb => ?_)
  have k := h2 (up s h' tk) Q E (p.next tp e rb) fun h₂ tk₂ tp₂ e₂ rb₂ => o h₂ tk₂ tp₂ (e.trans e₂) rb₂
  subst hb
  cases op <;> exact k
theorem evb_bool {op : BoolOp} {l : List Expr} {pos : Pos} {wh : Sem Value} {b : Bool} (h : EvB prog w P A env fm μ (allTrue op l env) b) : EvB prog w P A env fm μ (isTrue (.BoolOp op l pos) env wh) b := h
theorem ev_or {a b : Expr} {pos : Pos} {x r : T} {c : Bool} (h : Ev prog w P A env fm μ (eval a env) x) (hc : truV μ x = some c) (h1 : c = true → r = x) (h2 : c = false → Ev prog w P A env fm μ (eval b env) r) :
    Ev prog w P A env fm μ (eval (.BoolOp .Or [a, b] pos) env) r := fun s Q E p o => by
  show wpAny _ _ (eval a env >>= _) _ _ _
  refine wpAny_bind (h s _ E p fun v h' tk tp e rb rv => wpAny_bind (wpAny_standAt (wpAny_bind (wpAny_holding (tru_ok hc (p.next tp e rb).mo tp rv fun tk' tp' => ?_)))))
  cases c with
  | true =>
    have := h1 rfl
    subst this
    exact wpAny_pure (o v h' tk' tp' e rb rv)
  | false => exact h2 rfl _ Q E (p.next tp' e rb) (o.next e)
noncomputable def noStar (e : Expr) : Bool := !(Nat.beq e.ctorIdx 22)
theorem star_cons {e : Expr} {rest : List Expr} (h : noStar e = true) (env : Env) : starEach (e :: rest) env = (false, eval e env) :: starEach rest env := by
  cases e <;> first | rfl | cases h
theorem back_cons (pos : Pos) (t : Sem Value) (l : List (Bool × Sem Value)) : backTo pos ((false, t) :: l) = (false, t) :: backTo pos l := rfl
theorem evl_nil {pos : Pos} : EvL prog w P A env fm μ (spliced (backTo pos (starEach [] env))) [] := fun s Q E p o => Calls.spliced_nil (o [] s.heap s.toks p.ht (Keep.refl _ _) p.rb .nil)
theorem evl_cons {pos : Pos} {e : Expr} {rest : List Expr} {x : T} {l : List T} (hs : noStar e = true) (h : Ev prog w P A env fm μ (eval e env) x) (h2 : EvL prog w P A env fm μ (spliced (backTo pos (starEach rest env))) l) :
    EvL prog w P A env fm μ (spliced (backTo pos (starEach (e :: rest) env))) (x :: l) := fun s Q E p o => by
  rw [star_cons hs, back_cons]
  refine Calls.spliced_cons (h s _ E p fun v h₁ tk₁ tp₁ e₁ rb₁ rv₁ => h2 _ _ E (p.next tp₁ e₁ rb₁) fun vs h₂ tk₂ tp₂ e₂ rb₂ rv₂ => ?_)
  exact o (v :: vs) h₂ tk₂ tp₂ (e₁.trans e₂) rb₂ (.cons (rv₁.mono e₂ rb₁.tb) rv₂)
theorem ev_list {elts : List Expr} {pos : Pos} {l : List T} (h : EvL prog w P A env fm μ (spliced (backTo pos (starEach elts env))) l) (hl : l.length ≤ 4096) :
    Ev prog w P A env fm μ (eval (.List elts pos) env) (.lst l) := fun s Q E p o => by
  refine wpAny_List (h s _ E p fun vs h₁ tk₁ tp₁ e₁ rb₁ pv => ⟨by rw [paired_len pv, sizeLine_eq]; omega, ?_⟩)
  exact o _ _ tk₁ tp₁ (e₁.trans (Keep.push _ _)) (rb₁.push _) (rt_newList rb₁.tb (p.hz.mono e₁.size) pv hl)
theorem scs_ok {Z : Addr → Prop} {h : Heap} {q : List Sc} : ∀ {vs : List Value}, Paired (RT Z h) vs (q.map .sc) → Paired RS vs q := by
  induction q with
  | nil => intro vs p; cases p; exact .nil
  | cons x q ih =>
    intro vs p
    cases p with
    | cons a b => exact .cons (rt_sc a) (ih b)
theorem ev_tuple {elts : List Expr} {k : Nat} {pos : Pos} {l : List T} {q : List Sc} (h : EvL prog w P A env fm μ (spliced (backTo pos (starEach elts env))) l) (hq : l = q.map .sc) (hl : l.length ≤ 4096) :
    Ev prog w P A env fm μ (eval (.Tuple elts k pos) env) (.tup q) := fun s Q E p o => by
  subst hq
  refine wpAny_Tuple (h s _ E p fun vs h₁ tk₁ tp₁ e₁ rb₁ pv => ⟨by rw [paired_len pv, sizeLine_eq]; omega, ?_⟩)
  exact o _ _ tk₁ tp₁ (e₁.trans (Keep.push _ _)) (rb₁.push _) (.tup ⟨_, Heap.get?_push_size _ rfl, rfl, _, rfl⟩ (scs_ok pv))
/-! subscripts -/
theorem noSlice_sub {slice : Expr} {o i : Value} (h : ∀ l u p, slice ≠ .Slice l u none p) : subscripted slice false o i = operate [o, i] (getItem o i) := by
  cases slice with
  | Slice l u st p => cases st with
    | none => exact absurd rfl (h _ _ _)
    | some _ => rfl
  | _ => rfl
theorem seqIndex_pos {i : Int} {n k : Nat} (h0 : 0 ≤ i) (hk : k < n) (e : i.toNat = k) : seqIndex? i n = some k := by
  unfold seqIndex?
  have h1 : ¬ i < 0 := by omega
  simp only [h1, if_false]
  rw [if_pos (by simp; omega), e]
theorem sub_lst {a r : T} {l : List T} {k : Nat} (hl : its μ a = some l) (hk : l[k]? = some r) (hz : k < 4097) {value slice : Expr} (hs : ∀ l u p, slice ≠ .Slice l u none p) : Op2 prog w P A μ (subscriptTail value slice) a (.sc (.int k)) r := fun s x y Q E rb ht' mo hz0 ra rb' o => by
  obtain ⟨a, vs, rfl, p, q, z, _⟩ := its_ok hl mo ra
  obtain ⟨t, rfl⟩ := rs_int (rt_sc rb')
  obtain ⟨v, hv, rv⟩ := paired_get q hk
  exact tail_any p.isList.typeIs slot_list_getitem.lookup (wpAny_getItem_list p.isList (Int.natCast_nonneg k) (by omega) (by simpa using hv) (o.same rb ht' rv)) (noSlice_sub hs)
theorem sub_last {a r : T} {l : List T} (hl : its μ a = some l) (hk : l.getLast? = some r) {value slice : Expr} (hs : ∀ l u p, slice ≠ .Slice l u none p) : Op2 prog w P A μ (subscriptTail value slice) a (.sc (.int (-1))) r := fun s x y Q E rb ht' mo hz0 ra rb' o => by
  obtain ⟨a, vs, rfl, p, q, z, _⟩ := its_ok hl mo ra
  obtain ⟨t, rfl⟩ := rs_int (rt_sc rb')
  rw [List.getLast?_eq_getElem?] at hk
  have hn : l.length - 1 < l.length := (List.getElem?_eq_some_iff.mp hk).1
  obtain ⟨v, hv, rv⟩ := paired_get q hk
  refine tail_any p.isList.typeIs slot_list_getitem.lookup (wpAny_getItem_list_neg p.isList (by decide) ?_ (by decide) (x := v) ?_ (o.same rb ht' rv)) (noSlice_sub hs)
  · rw [List.size_toArray]; omega
  · rw [List.size_toArray, z, show ((-1 : Int) + l.length).toNat = l.length - 1 by omega]; simpa using hv
theorem sub_tup {l : List Sc} {r : Sc} {k : Nat} (hk : l[k]? = some r) (hz : k < 4097) {value slice : Expr} (hs : ∀ l u p, slice ≠ .Slice l u none p) : Op2 prog w P A μ (subscriptTail value slice) (.tup l) (.sc (.int k)) (.sc r) := fun s x y Q E rb ht' mo hz0 ra rb' o => by
  obtain ⟨a, vs, rfl, ht, hp⟩ := rt_tup ra
  obtain ⟨t, rfl⟩ := rs_int (rt_sc rb')
  obtain ⟨v, hv, rv⟩ := paired_get hp hk
  refine tail_any (T := "tuple") ?_ slot_tuple_getitem.lookup (PyProof.Rows.getItem_tuple (j := k) ht (by omega) (by omega) (seqIndex_pos (Int.natCast_nonneg k) (List.getElem?_eq_some_iff.mp hv).1 rfl) (x := v) (by simpa using hv) (o.same rb ht' (.sc rv))) (noSlice_sub hs)
  obtain ⟨ob, h1, h2, _⟩ := ht; exact ⟨ob, h1, h2⟩
theorem ev_sub {value slice : Expr} {pos : Pos} {a b r : T} (h1 : Ev prog w P A env fm μ (eval value env) a) (h2 : Ev prog w P A env fm μ (eval slice env) b) (h3 : Op2 prog w P A μ (subscriptTail value slice) a b r) :
    Ev prog w P A env fm μ (eval (.Subscript value slice pos) env) r := fun _ _ _ p o => PyProof.Rows.Subscript_ (two h1 h2 h3 p o)
theorem ev_neg {i : Int} {k : Nat} {p pos : Pos} : Ev prog w P A env fm μ (eval (.UnaryOp .USub (.Constant (.int i) k p) pos) env) (.sc (.int (-i))) := fun s Q E pp o => by
  rw [arm_eval_UnaryOp]
  refine wpAny_bind (ev_int s _ E pp fun v h' tk tp e rb rv => wpAny_bind (wpAny_standAt (wpAny_holding ?_)))
  obtain ⟨t, rfl⟩ := rs_int (rt_sc rv)
  exact PyProof.Rows.neg_int (o _ h' _ (Nat.succ_pos _) e rb (.sc (.int _ _)))
/-! slices -/
noncomputable def pickV {α : Type} (l : List α) (lo hi st : Option Int) : List α := (sliceRange (sliceBounds lo hi st l.length).1 (sliceBounds lo hi st l.length).2.1 (sliceBounds lo hi st l.length).2.2).filterMap (l[·]?)
theorem paired_pick {α β : Type} {F : α → β → Prop} {l₁ : List α} {l₂ : List β} (p : Paired F l₁ l₂) : ∀ ks : List Nat, Paired F (ks.filterMap (l₁[·]?)) (ks.filterMap (l₂[·]?))
  | [] => .nil
  | k :: ks => by
    have ih := paired_pick p ks
    cases h2 : l₂[k]? with
    | none =>
      have h1 : l₁[k]? = none := by
        rw [List.getElem?_eq_none_iff] at h2 ⊢
        rw [paired_len p]; exact h2
      rw [List.filterMap_cons_none h1, List.filterMap_cons_none h2]
      exact ih
    | some b =>
      obtain ⟨a, h1, f⟩ := paired_get p h2
      rw [List.filterMap_cons_some h1, List.filterMap_cons_some h2]
      exact .cons f ih
/-- a slice's part -/
noncomputable def PartOk (prog : Program) (w : World) (P : Pm) (A : Around) (env : Env) (fm : Fm) (μ : Mu) (x : Option Expr) (i : Option Int) : Prop :=
  match x with
  | none => i = none
  | some e => ∃ k, i = some k ∧ Ev prog w P A env fm μ (eval e env) (.sc (.int k))
theorem part_ok {x : Option Expr} {i : Option Int} (h : PartOk prog w P A env fm μ x i) {Z : Addr → Prop} {s : Shared} {Q : Value → Shared → Prop} {E : Value → Shared → Prop} (p : Pre P Z env fm μ s)
    (o : ∀ v h' tk, 0 < tk → Keep [] s.heap h' → RB P h' → IsPart v i → Q v (up s h' tk)) : wpAny (model prog w) A (valueOrNone (evalOpt x env)) Q E s := by
  cases x with
  | none =>
    cases (show i = none from h)
    exact wpAny_pure (o _ s.heap s.toks p.ht (Keep.refl _ _) p.rb .none)
  | some e =>
    obtain ⟨k, rfl, h⟩ := h
    refine h s Q E p fun v h' tk tp e rb rv => o v h' tk tp e rb ?_
    obtain ⟨t, rfl⟩ := rs_int (rt_sc rv)
    exact .int _ _
theorem slice_sub {lo hi st : Option Expr} {p : Pos} {o i : Value} : ∃ ops, subscripted (.Slice lo hi st p) false o i = operate ops (getItem o i) := by
  cases st with
  | none => exact ⟨_, rfl⟩
  | some _ => exact ⟨_, rfl⟩
theorem ev_slice {value : Expr} {lo hi st : Option Expr} {p pos : Pos} {x : T} {a b c : Option Int} {l : List T} (h0 : Ev prog w P A env fm μ (eval value env) x) (h1 : PartOk prog w P A env fm μ lo a)
    (h2 : PartOk prog w P A env fm μ hi b) (h3 : PartOk prog w P A env fm μ st c) (hl : its μ x = some l) (hc : c ≠ some 0) (hz : (pickV l a b c).length ≤ 4096) :
    Ev prog w P A env fm μ (eval (.Subscript value (.Slice lo hi st p) pos) env) (.lst (pickV l a b c)) := fun s Q E pp o => by
  refine PyProof.Rows.Subscript_ (h0 s _ E pp fun v h₁ tk₁ tp₁ e₁ rb₁ rv₁ => ?_)
  rw [arm_eval_Slice]
  have p1 := pp.next tp₁ e₁ rb₁
  refine wpAny_bind (part_ok h1 p1 fun vl h₂ tk₂ tp₂ e₂ rb₂ pl => wpAny_bind (wpAny_holding (part_ok h2 (p1.next tp₂ e₂ rb₂) fun vu h₃ tk₃ tp₃ e₃ rb₃ pu =>
    wpAny_bind (wpAny_holding (part_ok h3 ((p1.next tp₂ e₂ rb₂).next tp₃ e₃ rb₃) fun vs h₄ tk₄ tp₄ e₄ rb₄ ps => wpAny_newObj_type ?_)))))
  have p4 := (((p1.next tp₂ e₂ rb₂).next tp₃ e₃ rb₃).next tp₄ e₄ rb₄)
  have rv₄ := ((rv₁.mono e₂ rb₁.tb).mono e₃ rb₂.tb).mono e₄ rb₃.tb
  let ob : Obj := { cls := .type "slice", dict := none, data := .fields [vl, vu, vs].toArray }
  have rb₅ := rb₄.push (o := ob)
  obtain ⟨ad, ws, rfl, pw, qw, zw, yw⟩ := its_ok hl (p4.mo.mono (Keep.push (X := []) h₄ ob) rb₄.tb) (rv₄.mono (Keep.push (X := []) h₄ ob) rb₄.tb)
  obtain ⟨ops, hops⟩ := slice_sub (lo := lo) (hi := hi) (st := st) (p := p) (o := .ref ad) (i := .ref h₄.objs.size)
  refine tail_any pw.isList.typeIs slot_list_getitem.lookup (wpAny_getItem_list_slice pw.isList ⟨_, Heap.get?_push_size _ rfl, rfl, rfl⟩ pl pu ps hc ?_ (by rw [List.size_toArray, sizeLine_eq]; omega)) hops
  have hp : slicePick ws.toArray a b c = (pickV ws a b c).toArray := by
    unfold slicePick pickV
    simp
  rw [hp]
  refine o _ _ tk₄ tp₄ (((((e₁.trans e₂).trans e₃).trans e₄).trans (Keep.push _ _)).trans (Keep.push _ _)) (rb₅.push _) (rt_newList rb₅.tb (p4.hz.mono (Keep.push (X := []) h₄ ob).size) ?_ hz)
  unfold pickV
  rw [zw]
  exact paired_pick qw _
/-! lists joined, a list many times -/
theorem cat_ok {a b : T} {l k : List T} (hl : its μ a = some l) (hk : its μ b = some k) (hz : l.length + k.length ≤ 4096) : Op2 prog w P A μ (binaryOp .Add) a b (.lst (l ++ k)) := fun s x y Q E rb ht mo hz0 ra rb' o => by
  obtain ⟨a1, vs, rfl, ⟨n1, p⟩, q, z, y⟩ := its_ok hl mo ra
  obtain ⟨a2, ws, rfl, ⟨n2, p'⟩, q', z', y'⟩ := its_ok hk mo rb'
  refine concat_meets ⟨_, p, rfl⟩ ⟨_, p', rfl⟩ noFill_list_add seq_list_add PySem.F.slot_list_add PySem.F.entry_list_add (PySem.F.args_list_add_2 _ _)
    (list_addW _ _ vs.toArray ws.toArray n1 n2 none none #[] #[] (by rw [List.size_toArray, List.size_toArray, sizeLine_eq]; omega)) ⟨p, p', ?_⟩
  have e1 : vs.toArray ++ ws.toArray = (vs ++ ws).toArray := by simp
  rw [e1]
  exact o.push rb ht (rt_newList rb.tb hz0 (paired_app q q') (by rw [List.length_append]; exact hz))
/-- [x] * k -/
theorem fold_rep (v : Value) (n : Nat) : ∀ acc : Array Value, List.foldl (fun x1 x2 => x1 ++ x2) acc (List.replicate n #[v]) = acc ++ (List.replicate n v).toArray := by
  induction n with
  | zero => intro acc; simp
  | succ n ih =>
    intro acc
    rw [List.replicate_succ, List.foldl_cons, ih]
    apply Array.ext'
    simp [List.replicate_succ]
theorem paired_rep {α β : Type} {F : α → β → Prop} {a : α} {b : β} (f : F a b) (n : Nat) : Paired F (List.replicate n a) (List.replicate n b) := by
  induction n with
  | zero => exact .nil
  | succ n ih => exact .cons f ih
theorem rep_ok {a x : T} {k : Int} (hl : its μ a = some [x]) (hz : 0 ≤ k ∧ k ≤ 4096) : Op2 prog w P A μ (binaryOp .Mult) a (.sc (.int k)) (.lst (List.replicate k.toNat x)) := fun s u y Q E rb ht mo hz0 ra rb' o => by
  obtain ⟨a1, vs, rfl, ⟨n1, p⟩, q, z, y⟩ := its_ok hl mo ra
  obtain ⟨t, rfl⟩ := rs_int (rt_sc rb')
  obtain ⟨v, hv, q1⟩ := paired_get q (i := 0) rfl
  have hvs : vs = [v] := by
    cases vs with
    | nil => cases hv
    | cons w ws => cases hv; cases ws with
      | nil => rfl
      | cons => cases z
  subst hvs
  refine wpAny_binaryOp_repeat_ref (T := "list") (U := "int") (by decide) ⟨_, p, rfl⟩ (fun s' => typeIs_int s' _ t) noFill_list_mul PySem.F.fills_int_mul PySem.F.slot_int_rmul repeat_list PySem.F.slot_int_index.lookup
    (call_meets PySem.F.slot_int_rmul (typeIs_int s _ t) PySem.F.entry_int_rmul (PySem.F.args_int_rmul_2 _ _) (int___rmul___int_list _ t _ [v].toArray n1)
      ⟨p, rfl, ⟨_, p, rfl⟩, call_meets PySem.F.slot_list_mul ⟨_, p, rfl⟩ PySem.F.entry_list_mul (PySem.F.args_list_mul_2 _ _)
        (AutoListH.list___mul___list_int_3 _ [v].toArray n1 _ t (by simp [Builtin.List.listFitsIndex]; omega) (by simp; omega) (by simp [Builtin.List.listTooLong, sizeLine]; omega)) ⟨p, ?_⟩⟩)
  have e1 : List.foldl (fun x1 x2 => x1 ++ x2) #[] (List.replicate k.toNat [v].toArray) = (List.replicate k.toNat v).toArray := (fold_rep v k.toNat #[]).trans (by simp)
  have e2 : List.foldl (fun x1 x2 => x1 ++ x2) #[] (List.replicate (if ([v].toArray).isEmpty = true then 0 else k.toNat) [v].toArray) = (List.replicate k.toNat v).toArray := e1
  rw [e2]
  exact o.push rb ht (rt_newList rb.tb hz0 (paired_rep q1 _) (by rw [List.length_replicate]; omega))
end
end Mine
end
section
namespace Mine
open PySem PyProof.Rows PySem.SeqAt
open AutoSeq1 (wpAny_loadPart')
open MeetsSeq MeetsSeq2 MeetsSeq3 SeqRoads2
/-- a scalar that is like itself -/
inductive Ss : Sc → Prop
  | int (a : Int) : Ss (.int a)
  | str (a : Str) : Ss (.str a)
  | flt {a : UInt64} : (Float64.cmp a a == some Ordering.eq) = true → Ss (.flt a)
/-- a tree that is like itself -/
inductive Se (μ : Mu) : Nat → T → Prop
  | sc {n : Nat} {x : Sc} : Ss x → Se μ n (.sc x)
  | lst {n : Nat} {t : T} {l : List T} : its μ t = some l → (∀ x ∈ l, Se μ n x) → Se μ (n + 1) t
theorem elems {F : Value → Value → Prop} {R : Value → T → Prop} {l : List T} {vs ws : List Value} (q : Paired R vs l) (q' : Paired R ws l) (hF : ∀ t ∈ l, ∀ u v, R u t → R v t → F u v) (j : Nat) (h1 : j < vs.toArray.size) (h2 : j < ws.toArray.size) : F vs.toArray[j] ws.toArray[j] := by
  have j1 : j < l.length := paired_len q ▸ h1
  obtain ⟨v1, g1, r1⟩ := paired_get q (List.getElem?_eq_getElem j1)
  obtain ⟨v2, g2, r2⟩ := paired_get q' (List.getElem?_eq_getElem j1)
  obtain ⟨_, rfl⟩ := List.getElem?_eq_some_iff.mp g1
  obtain ⟨_, rfl⟩ := List.getElem?_eq_some_iff.mp g2
  exact hF _ (List.getElem_mem j1) _ _ r1 r2
theorem all_tt (n : Nat) : (List.range n).all (fun _ => true) = true := List.all_eq_true.mpr fun _ _ => rfl
section
variable {A : Around} {s : Shared}
theorem eqAt_float {a : UInt64} {t u : Tok} (ht : 0 < t) (hu : 0 < u) (hc : (Float64.cmp a a == some Ordering.eq) = true) (hb : NoneBooked s.heap) : EqAt A s (.float a t) (.float a u) true := fun prog w E Q h => by
  unfold eqBool
  refine wpAny_holding ?_
  refine wpAny_ite ?_
  split
  · exact wpAny_bind (wpAny_rule (wpAny_pure h))
  have last : wpAny (model prog w) A (richCompare .Eq (.float a t) (.float a u) >>= truthOfDropped) Q E s := by
    refine wpAny_bind ?_
    refine PySem.AutoFloatOps.eq_0 (Q := fun v s' => wpAny (model prog w) A (truthOfDropped v) Q E s') ?_
    rw [hc]
    exact wpAny_truthy_bool h
  refine wpAny_bind ?_
  show wpAny _ _ (isSame.created _ t u) _ _ _
  unfold isSame.created
  refine wpAny_ite ?_
  split
  · rename_i q
    have : (t == 0 || u == 0) = false := by
      have h1 : t ≠ 0 := Nat.ne_of_gt ht
      have h2 : u ≠ 0 := Nat.ne_of_gt hu
      simp [h1, h2]
    rw [this] at q; cases q
  refine wpAny_ite ?_
  split
  · exact wpAny_pure (wpAny_ite (by rw [if_pos rfl]; exact wpAny_pure h))
  refine wpAny_ite ?_
  split
  · exact wpAny_pure (wpAny_ite (by rw [if_neg (by decide)]; exact last))
  refine wpAny_bind (wpAny_sharingNotTold_none hb ?_)
  first | rw [if_neg Bool.false_ne_true] | simp only [Bool.false_eq_true, if_false]
  refine wpAny_bind (wpAny_sharingNotTold_none hb ?_)
  first | rw [if_neg Bool.false_ne_true] | simp only [Bool.false_eq_true, if_false]
  refine wpAny_bind (wpAny_rule (wpAny_bind (wpAny_askSetting (wpAny_pure ?_))))
  refine wpAny_ite ?_
  split
  · exact wpAny_pure h
  · exact last
theorem ss_ok {x : Sc} (h : Ss x) {u v : Value} (ru : RS u x) (rv : RS v x) (hb : NoneBooked s.heap) : EqAt A s u v true := by
  cases h with
  | int a =>
    obtain ⟨t, rfl⟩ := rs_int ru
    obtain ⟨t', rfl⟩ := rs_int rv
    exact (beq_self_eq_true a : (a == a) = true) ▸ EqAt.int_int _ _ _ _
  | str a =>
    obtain ⟨t, rfl⟩ := rs_str ru
    obtain ⟨t', rfl⟩ := rs_str rv
    exact (beq_self_eq_true a : (a == a) = true) ▸ EqAt.str_str _ _ _ _
  | flt h =>
    obtain ⟨t, rfl, h1⟩ := rs_flt' ru
    obtain ⟨t', rfl, h2⟩ := rs_flt' rv
    exact eqAt_float h1 h2 h hb
theorem se_ok {Z : Addr → Prop} {μ : Mu} (mo : MuOk Z μ s.heap) (hb : NoneBooked s.heap) {n : Nat} {t : T} (h : Se μ n t) : ∀ {A : Around} {u v : Value}, RT Z s.heap u t → RT Z s.heap v t → Sl n A → EqAt A s u v true := by
  induction h with
  | sc h => intro A u v ru rv _; exact ss_ok h (rt_sc ru) (rt_sc rv) hb
  | lst hl _ ih =>
    intro A u v ru rv sl
    obtain ⟨a, vs, rfl, p, q, z, _⟩ := its_ok hl mo ru
    obtain ⟨b, ws, rfl, p', q', z', _⟩ := its_ok hl mo rv
    by_cases hab : a = b
    · subst hab; exact EqAt.same _
    · have := RcAt.lists (A := A) (s := s) (e := fun _ => true) p.isList p'.isList (by simpa using z.trans z'.symm) sl.unit (elems q q' fun t ht u v ru rv => ih t ht ru rv sl.in1)
      rw [all_tt] at this
      exact EqAt.of_refs hab this
end
section
variable {prog : Program} {w : World} {P : Pm} {A : Around} {μ : Mu}
/-- == and != of lists: alike, or of different lengths -/
theorem eq_same {x y : T} {l : List T} (hx : its μ x = some l) (hy : its μ y = some l) (h : ∀ t ∈ l, Se μ 3 t) (sl : Sl 4 A) : Op2 prog w P A μ (compareOp .Eq) x y (.sc (.bool true)) := fun s u v Q E rb ht mo hz ru rv o => by
  obtain ⟨a, vs, rfl, p, q, z, _⟩ := its_ok hx mo ru
  obtain ⟨b, ws, rfl, p', q', z', _⟩ := its_ok hy mo rv
  have := RcAt.lists (A := A) (s := s) (e := fun _ => true) p.isList p'.isList (by simpa using z.trans z'.symm) sl.unit (elems q q' fun t ht u v ru rv => se_ok mo rb.booked (h t ht) ru rv sl.in1)
  rw [all_tt] at this
  exact this prog w E Q (o.same rb ht (.sc (.bool _)))
theorem ne_same {x y : T} {l : List T} (hx : its μ x = some l) (hy : its μ y = some l) (h : ∀ t ∈ l, Se μ 3 t) (sl : Sl 4 A) : Op2 prog w P A μ (compareOp .NotEq) x y (.sc (.bool false)) := fun s u v Q E rb ht mo hz ru rv o => by
  obtain ⟨a, vs, rfl, p, q, z, _⟩ := its_ok hx mo ru
  obtain ⟨b, ws, rfl, p', q', z', _⟩ := its_ok hy mo rv
  have := RcNeAt.lists (A := A) (s := s) (e := fun _ => true) p.isList p'.isList (by simpa using z.trans z'.symm) sl.unit (elems q q' fun t ht u v ru rv => se_ok mo rb.booked (h t ht) ru rv sl.in1)
  rw [all_tt] at this
  exact this prog w E Q (o.same rb ht (.sc (.bool _)))
theorem eq_len {x y : T} {l k : List T} (hx : its μ x = some l) (hy : its μ y = some k) (h : l.length ≠ k.length) (sl : Sl 4 A) : Op2 prog w P A μ (compareOp .Eq) x y (.sc (.bool false)) := fun s u v Q E rb ht mo hz ru rv o => by
  obtain ⟨a, vs, rfl, p, q, z, _⟩ := its_ok hx mo ru
  obtain ⟨b, ws, rfl, p', q', z', _⟩ := its_ok hy mo rv
  exact RcAt.lists_lengths p.isList p'.isList (bne_iff_ne.mpr fun e => h (z.symm.trans (Eq.trans (show vs.length = ws.length from e) z'))) sl.unit prog w E Q (o.same rb ht (.sc (.bool _)))
theorem ne_len {x y : T} {l k : List T} (hx : its μ x = some l) (hy : its μ y = some k) (h : l.length ≠ k.length) (sl : Sl 4 A) : Op2 prog w P A μ (compareOp .NotEq) x y (.sc (.bool true)) := fun s u v Q E rb ht mo hz ru rv o => by
  obtain ⟨a, vs, rfl, p, q, z, _⟩ := its_ok hx mo ru
  obtain ⟨b, ws, rfl, p', q', z', _⟩ := its_ok hy mo rv
  exact RcNeAt.lists_lengths p.isList p'.isList (bne_iff_ne.mpr fun e => h (z.symm.trans (Eq.trans (show vs.length = ws.length from e) z'))) sl.unit prog w E Q (o.same rb ht (.sc (.bool _)))
/-- a list held against the empty one -/
theorem eq_nil {x y : T} {l : List T} (hx : its μ x = some l) (hy : its μ y = some []) (sl : Sl 4 A) : Op2 prog w P A μ (compareOp .Eq) x y (.sc (.bool l.isEmpty)) := by
  cases l with
  | nil => intro Z; exact eq_same hx hy (fun _ h => absurd h List.not_mem_nil) sl
  | cons a l => intro Z; exact eq_len hx hy (Nat.succ_ne_zero _) sl
theorem ne_nil {x y : T} {l : List T} (hx : its μ x = some l) (hy : its μ y = some []) (sl : Sl 4 A) : Op2 prog w P A μ (compareOp .NotEq) x y (.sc (.bool !l.isEmpty)) := by
  cases l with
  | nil => intro Z; exact ne_same hx hy (fun _ h => absurd h List.not_mem_nil) sl
  | cons a l => intro Z; exact ne_len hx hy (Nat.succ_ne_zero _) sl
/-- x in list, of ints -/
noncomputable def intT1 : T → Option Int
  | .sc (.int i) => some i
  | _ => none
theorem intT1_inv {t : T} {i : Int} (e : intT1 t = some i) : t = .sc (.int i) := by
  cases t with
  | sc x => cases x with
    | int => cases e; rfl
    | _ => cases e
  | _ => cases e
noncomputable def intsOf (l : List T) : Option (List Int) := l.foldr (fun t r => (intT1 t).bind fun i => r.map (i :: ·)) (some [])
theorem intsOf_cons {t : T} {l : List T} {q : List Int} (e : intsOf (t :: l) = some q) : ∃ x r, t = .sc (.int x) ∧ intsOf l = some r ∧ q = x :: r := by
  obtain ⟨x, h1, h2⟩ := Option.bind_eq_some_iff.mp (show ((intT1 t).bind fun i => (intsOf l).map (i :: ·)) = some q from e)
  obtain ⟨r, h3, rfl⟩ := Option.map_eq_some_iff.mp h2
  exact ⟨x, r, intT1_inv h1, h3, rfl⟩
inductive IsI : Value → Int → Prop
  | mk (i : Int) (t : Tok) : IsI (.int i t) i
theorem intsOf_ok {Z : Addr → Prop} {h : Heap} {l : List T} {vs : List Value} (p : Paired (RT Z h) vs l) : ∀ {q : List Int}, intsOf l = some q → Paired IsI vs q := by
  induction p with
  | nil => intro q e; cases e; exact .nil
  | cons a _ ih =>
    intro q e
    obtain ⟨x, r, h1, h2, rfl⟩ := intsOf_cons e
    subst h1
    obtain ⟨t, rfl⟩ := rs_int (rt_sc a)
    exact .cons (.mk _ _) (ih h2)
noncomputable def valI : Value → Int
  | .int i _ => i
  | _ => 0
theorem any_isI {vs : List Value} {q : List Int} (p : Paired IsI vs q) (x : Int) : vs.any (fun y => valI y == x) = q.any (· == x) := by
  induction p with
  | nil => rfl
  | cons a _ ih => cases a; rw [List.any_cons, List.any_cons, ih]; rfl
theorem mem_isI {vs : List Value} {q : List Int} (p : Paired IsI vs q) {y : Value} (hy : y ∈ vs) : ∃ i t, y = .int i t := by
  induction p with
  | nil => cases hy
  | cons a _ ih =>
    cases hy with
    | head => cases a; exact ⟨_, _, rfl⟩
    | tail _ h => exact ih h
theorem in_ok {x : Int} {y : T} {l : List T} {q : List Int} (hl : its μ y = some l) (hq : intsOf l = some q) : Op2 prog w P A μ (compareOp .In) (.sc (.int x)) y (.sc (.bool (q.any (· == x)))) := fun s u v Q E rb ht mo hz ru rv o => by
  obtain ⟨a, vs, rfl, p, pr, z, _⟩ := its_ok hl mo rv
  have pi := intsOf_ok pr hq
  obtain ⟨t, rfl⟩ := rs_int (rt_sc ru)
  refine in_listAt (fun y => valI y == x) p.isList (fun y hy => ?_) ?_
  · obtain ⟨j, t', rfl⟩ := mem_isI pi (by simpa using hy)
    exact EqAt.int_int _ _ _ _
  · rw [List.any_toArray, any_isI pi]
    exact o.same rb ht (.sc (.bool _))
/-- tuples of ints, ordered -/
inductive ZI : List (Value × Value) → List Int → List Int → Prop
  | nil : ZI [] [] []
  | cons {r xs ys} (x : Int) (t : Tok) (y : Int) (u : Tok) : ZI r xs ys → ZI ((.int x t, .int y u) :: r) (x :: xs) (y :: ys)
noncomputable def ltI : List Int → List Int → Bool
  | x :: xs, y :: ys => if x = y then ltI xs ys else decide (x < y)
  | _, _ => false
theorem zi_of {vs ws : List Value} {xs ys : List Int} (a : Paired IsI vs xs) : Paired IsI ws ys → vs.length = ws.length → ZI (vs.zip ws) xs ys := by
  intro b hl
  induction a generalizing ws ys with
  | nil => cases b with
    | nil => exact .nil
    | cons => simp at hl
  | cons a _ ih => cases b with
    | nil => simp at hl
    | cons b r => cases a; cases b; exact .cons _ _ _ _ (ih r (by simpa using hl))
theorem tuple_ltAt (l b : Addr) (items items2 : List Value) (n n2 : Nat) (dd dd2 : Option Addr) (sl sl2 : Array (Option Value)) (xs ys : List Int) (hz : ZI (items.zip items2) xs ys) (hlen : items.length = items2.length) :
    Meets (Builtin.«tuple.__lt__» ⟨[.ref l, .ref b], []⟩)
      (fun A R s => s.heap.get? l = some { cls := .type "tuple", dict := dd, data := .seq items.toArray n, slots := sl } ∧ s.heap.get? b = some { cls := .type "tuple", dict := dd2, data := .seq items2.toArray n2, slots := sl2 } ∧
        R (.ok (.ret (.bool (ltI xs ys)))) s) :=
  .of_wp fun prog w A R s h => by
    obtain ⟨hp, g, d, tk, os⟩ := s; obtain ⟨hl, hb, h⟩ := h
    have f2 := AutoSeq1.sub_tuple_tuple
    wp_walk using wpAny_loadPart' hl, wpAny_loadPart' hb, wpAny_forIn_list _ (fun rest b s' => b.1 = none ∧ s' = ⟨hp, g, d, tk, os⟩ ∧ ∃ xs' ys', ZI rest xs' ys' ∧
      R (.ok (.ret (.bool (ltI xs' ys')))) ⟨hp, g, d, tk, os⟩) _
    case turn =>
      rintro ⟨y, x⟩ rest b s' ⟨hb', rfl, xs', ys', hzi, hR⟩
      cases hzi with
      | cons i t j u hr =>
        refine wpAny_bind (EqAt.int_int i t j u prog w _ _ ?_)
        unfold ltI at hR
        by_cases hij : i = j
        · subst hij
          rw [if_pos rfl] at hR
          have : (i == i) = true := by simp
          rw [this]
          wp_walk
          exact ⟨rfl, rfl, _, _, hr, hR⟩
        · rw [if_neg hij] at hR
          have : (i == j) = false := by simpa using hij
          rw [this]
          simp only [Bool.not_false, if_true]
          refine wpAny_bind (wpAny_rule (wpAny_bind ?_))
          refine PyProof.Rows.lt_int (Q := fun (v : Value) (s' : Shared) => wpAny (model prog w) A.in1 (do let r ← ret v; pure (ForInStep.done (some r, ()))) _ _ s') ?_
          wp_walk
          exact ⟨_, rfl, hR⟩
    case fin =>
      rintro ⟨b1, b2⟩ s' ⟨hb', rfl, xs', ys', hzi, hR⟩
      simp only at hb'
      subst hb'
      cases hzi
      wp_walk
      refine ⟨_, rfl, ?_⟩
      have : (decide (items.length < items2.length)) = false := by rw [hlen]; simp
      simpa [Builtin.Tuple.tupleCompareSizes, ltI, hlen] using hR
    case h =>
      exact ⟨rfl, rfl, xs, ys, by simpa using hz, h⟩
theorem paired_ints {vs : List Value} : ∀ {l : List Int}, Paired RS vs (l.map .int) → Paired IsI vs l := by
  intro l
  induction l generalizing vs with
  | nil => intro p; cases p; exact .nil
  | cons x l ih =>
    intro p
    cases p with
    | cons a b => obtain ⟨t, rfl⟩ := rs_int a; exact .cons (.mk _ _) (ih b)
theorem lt_tup {l k : List Int} (hlen : l.length = k.length) (hu : A.units < cLine) : Op2 prog w P A μ (compareOp .Lt) (.tup (l.map .int)) (.tup (k.map .int)) (.sc (.bool (ltI l k))) := fun s u v Q E rb ht mo hz ru rv o => by
  obtain ⟨a, vs, rfl, t1, p1⟩ := rt_tup ru
  obtain ⟨b, ws, rfl, t2, p2⟩ := rt_tup rv
  have q1 := paired_ints p1
  have q2 := paired_ints p2
  obtain ⟨⟨cls, dd, data, sl⟩, ho, hc, n, hd⟩ := t1
  obtain ⟨⟨cls2, dd2, data2, sl2⟩, ho2, hc2, n2, hd2⟩ := t2
  simp only at hc hd hc2 hd2
  subst hc hd hc2 hd2
  have hz : vs.length = ws.length := by rw [paired_len q1, paired_len q2, hlen]
  exact richCompare_meets_room (op := .Lt) ⟨_, ho, rfl⟩ ⟨_, ho2, rfl⟩ F.slot_tuple_lt F.entry_tuple_lt (F.args_tuple_lt_2 _ _) (tuple_ltAt _ _ vs ws n n2 dd dd2 sl sl2 l k (zi_of q1 q2 hz) hz)
    ⟨ho, ho2, show Value.bool _ ≠ Value.notImplemented ∧ Q (.bool _) s from ⟨(fun x => nomatch x), o.same rb ht (.sc (.bool _))⟩⟩ hu
end
end Mine
end
section
namespace Mine
open PySem PyProof.Rows
theorem runs_size {M : Model} {Γ : Ctx} {p : Pos} {t : Sem PySem.Fin} {fs : List Frame} {s s' : Shared} {e : End} (h : Runs M Γ p t fs s e s') : s.heap.objs.size ≤ s'.heap.objs.size := by
  induction h <;> (try simp only [Shared.setGen, Heap.size_push, Heap.size_after_update] at *) <;> (try omega)
theorem returns_size {M : Model} {Γ : Ctx} {p : Pos} {s s' : Shared} {r : Result} (h : Returns M Γ p s r s') : s.heap.objs.size ≤ s'.heap.objs.size := runs_size h
theorem wakes_size {M : Model} {Γ : Ctx} {p : Pos} {g : Nat} {r : Resume} {s s' : Shared} {res : GenResult} (h : Wakes M Γ p g r s res s') : s.heap.objs.size ≤ s'.heap.objs.size := by
  unfold Wakes at h
  split at h
  · exact h.elim
  · split at h
    · obtain ⟨e₁, s₁, hr, _, _, rfl⟩ := h; exact (runs_size hr : (s.setGen g .running).heap.objs.size ≤ s₁.heap.objs.size)
    · rw [h.2]; exact Nat.le_refl _
    · rw [h.2]; exact Nat.le_refl _
  · obtain ⟨e₁, s₁, hr, _, _, rfl⟩ := h; exact (runs_size hr : (s.setGen g .running).heap.objs.size ≤ s₁.heap.objs.size)
  · rw [h.2]; exact Nat.le_refl _
  · rw [h.2]; exact Nat.le_refl _
theorem wp_size {α : Type} (M : Model) (Γ : Ctx) (n : Nat) (t : Sem α) : ∀ (Q : α → Pos → Shared → Prop) (E : Value → Pos → Shared → Prop) (p : Pos) (s : Shared), n ≤ s.heap.objs.size → Sem.wp M Γ t Q E p s →
    Sem.wp M Γ t (fun a p' s' => n ≤ s'.heap.objs.size ∧ Q a p' s') (fun e p' s' => n ≤ s'.heap.objs.size ∧ E e p' s') p s := by
  induction t with
  | pure a => intro Q E p s hn h; exact ⟨hn, h⟩
  | raise e => intro Q E p s hn h; exact ⟨hn, h⟩
  | unsupported _ => intro Q E p s _ h; exact h
  | finish _ => intro Q E p s _ h; exact h
  | rule _ k ih => intro Q E p s hn h; exact ih () Q E p s hn h
  | «at» p' k ih => intro Q E p s hn h; exact ih () Q E p' s hn h
  | load a _ k ih => intro Q E p s hn h; obtain ⟨o, ho, h⟩ := h; exact ⟨o, ho, ih o Q E p s hn h⟩
  | update a _ f k ih => intro Q E p s hn h; exact ⟨h.1, ih () Q E p _ (by simp only [Heap.size_after_update]; exact hn) h.2⟩
  | loadIfAlive a k ih => intro Q E p s hn h; exact ih _ Q E p s hn h
  | point _ k ih => intro Q E p s hn h; exact ih () Q E p s hn h
  | register _ _ => intro Q E p s _ h; exact h
  | alloc o k ih => intro Q E p s hn h; exact ih _ Q E p _ (by simp only [Heap.size_push]; omega) h
  | fresh k ih => intro Q E p s hn h; exact ih _ Q E p _ hn h
  | ask k ih => intro Q E p s hn h; exact ih _ Q E p s hn h
  | choose src m k ih => intro Q E p s hn h; exact ⟨h.1, ih _ Q E p _ hn h.2⟩
  | os q _ k ih => intro Q E p s hn h; exact ih _ Q E p _ hn h
  | call c hd _ _ k ih => intro Q E p s hn h; obtain ⟨r, s', hr, h⟩ := h; exact ⟨r, s', hr, ih r Q E p s' (Nat.le_trans hn (returns_size hr)) h⟩
  | handled own k ih => intro Q E p s hn h; exact ih _ Q E p s hn h
  | genState g k ih => intro Q E p s hn h; obtain ⟨st, hs, h⟩ := h; exact ⟨st, hs, ih _ Q E p s hn h⟩
  | newGen c k ih => intro Q E p s hn h; exact ih _ Q E p _ hn h
  | resume g r _ k ih => intro Q E p s hn h; obtain ⟨res, s', hw, h⟩ := h; exact ⟨res, s', hw, ih res Q E p s' (Nat.le_trans hn (wakes_size hw)) h⟩
  | yield _ _ _ _ => intro Q E p s _ h; exact h
  | stack k ih => intro Q E p s hn h; exact ih _ Q E p s hn h
  | fork _ _ => intro Q E p s _ h; exact h
  | thread k ih => intro Q E p s hn h; exact ih _ Q E p s hn h
  | await _ _ _ _ _ => intro Q E p s _ h; exact h
theorem with_size {α : Type} {M : Model} {A : Around} {s : Shared} {t : Sem α} {Q : α → Shared → Prop} {E : Value → Shared → Prop} {n : Nat} (hn : n ≤ s.heap.objs.size)
    (h : wpAny M A t (fun a s' => n ≤ s'.heap.objs.size → Q a s') (fun e s' => n ≤ s'.heap.objs.size → E e s') s) : wpAny M A t Q E s :=
  wpAny_mono (Q := fun a s' => n ≤ s'.heap.objs.size ∧ (n ≤ s'.heap.objs.size → Q a s')) (E := fun e s' => n ≤ s'.heap.objs.size ∧ (n ≤ s'.heap.objs.size → E e s')) (fun Γ p hΓ => wp_size M Γ n t _ _ p s hn (h Γ p hΓ)) (fun _ _ x => x.2 x.1) (fun _ _ x => x.2 x.1)
/-! iterators -/
noncomputable def rangeT (x : Int) : Nat → List T
  | 0 => []
  | n + 1 => .sc (.int x) :: rangeT (x + 1) n
noncomputable def iterV (μ : Mu) : T → Option (List T)
  | .rng n => if n ≤ 4096 then some (rangeT 0 n) else none
  | x => its μ x
theorem rangeT_len : ∀ (n : Nat) (x : Int), (rangeT x n).length = n
  | 0, _ => rfl
  | n + 1, x => by rw [rangeT, List.length_cons, rangeT_len n]
/-- something that is in no tree turns -/
theorem RT.off {Z : Addr → Prop} {h h' : Heap} {c : Addr} {oc : Obj} (hs : Heap.ExtBut c h h') (g : h.get? c = some oc) (hn : oc.cls ≠ .type "tuple" ∧ oc.cls ≠ .type "list" ∧ oc.cls ≠ .type "range") (x : T) (v : Value) (r : RT Z h v x) : RT Z h' v x := by
  have ne : ∀ {a : Addr} {o : Obj}, h.get? a = some o → o.cls ≠ oc.cls → a ≠ c := fun e n q => by rw [q, g] at e; cases e; exact n rfl
  refine RT.gen (fun a its t => ?_) (fun a _ _ _ _ _ _ r => hs _ _ (ne r (Ne.symm hn.2.2)) r) (fun a its nz p => ⟨nz, ?_⟩) x v r
  · obtain ⟨o, ho, hc, n, hd⟩ := t
    exact ⟨o, hs _ _ (ne ho (by rw [hc]; exact Ne.symm hn.1)) ho, hc, n, hd⟩
  · obtain ⟨n, ho⟩ := p
    exact ⟨n, hs _ _ (ne ho (Ne.symm hn.2.1)) ho⟩
noncomputable def IterAt (Z : Addr → Prop) (h : Heap) (I : Addr) (rem : List T) : Prop :=
  (∃ (l : Addr) (vs : List Value) (i : Nat), h.IsListIter I l i ∧ l < I ∧ h.PlainList l vs.toArray ∧ Paired (RT Z h) (vs.drop i) rem) ∨ (∃ x : Int, IsRangeIter h I x rem.length 1 ∧ rem = rangeT x rem.length)
theorem IterAt.soft {Z : Addr → Prop} {h : Heap} {I : Addr} {rem : List T} (i : IterAt Z h I rem) : ∃ o, h.get? I = some o ∧ Soft o ∧ (∀ es n, o.data ≠ .dict es n) ∧ (∀ v, o.data ≠ .cell v) := by
  rcases i with ⟨l, vs, i, ⟨o, g, c, d⟩, _⟩ | ⟨x, g, _⟩
  · exact ⟨o, g, .inr (.inr (.inl c)), fun es n q => by (rw [d] at q; cases q), fun v q => by (rw [d] at q; cases q)⟩
  · exact ⟨_, g, .inr (.inr (.inr rfl)), (fun es n q => nomatch q), (fun v q => nomatch q)⟩
theorem iter_cls {Z : Addr → Prop} {h : Heap} {I : Addr} {rem : List T} (i : IterAt Z h I rem) {o : Obj} (g : h.get? I = some o) : (o.cls ≠ .type "tuple" ∧ o.cls ≠ .type "list" ∧ o.cls ≠ .type "range") ∧ ¬ FO o := by
  rcases i with ⟨l, vs, i, ⟨o', g0, c, d⟩, _⟩ | ⟨x, g0, _⟩
  · rw [g] at g0; cases g0; rw [c]; refine ⟨⟨by decide, by decide, by decide⟩, fun q => ?_⟩
    rcases q with ⟨_, _, q⟩ | ⟨_, q⟩ <;> (rw [d] at q; cases q)
  · have q := g.symm.trans g0; cases q; refine ⟨⟨?_, ?_, ?_⟩, fun q => ?_⟩
    any_goals (simp only; decide)
    rcases q with ⟨_, _, q⟩ | ⟨_, q⟩ <;> cases q
theorem IterAt.mono {Z : Addr → Prop} {X : List Addr} {h h' : Heap} {I : Addr} {rem : List T} (i : IterAt Z h I rem) (e : Keep X h h') (tb : Tb h) (hI : 100 ≤ I) : IterAt Z h' I rem := by
  obtain ⟨o, g, _, d1, d2⟩ := i.soft
  have g' : h'.get? I = some o := e.keep I o g (nt_hi hI) fun _ f => by exact f.elim (fun ⟨_, _, q⟩ => d1 _ _ q) fun ⟨_, q⟩ => d2 _ q
  rcases i with ⟨l, vs, i, ⟨o', g0, c, d⟩, li, p, q⟩ | ⟨x, g0, r⟩
  · rw [g] at g0; cases g0
    exact .inl ⟨l, vs, i, ⟨o, g', c, d⟩, li, e.plain tb p, paired_mono (fun a b r => RT.mono e tb b a r) q⟩
  · have q := g.symm.trans g0; cases q
    exact .inr ⟨x, g', r⟩
section
variable {prog : Program} {w : World} {P : Pm} {A : Around} {env : Env} {fm : Fm} {μ : Mu}
theorem iter_ok {Z : Addr → Prop} {x : T} {l : List T} (e : iterV μ x = some l) {s : Shared} {v : Value} {Q : Value → Shared → Prop} {E : Value → Shared → Prop} (rb : RB P s.heap) (mo : MuOk Z μ s.heap) (r : RT Z s.heap v x)
    (o : ∀ h', Keep [] s.heap h' → RB P h' → IterAt Z h' s.heap.objs.size l → Q (.ref s.heap.objs.size) { s with heap := h' }) : wpAny (model prog w) A (pyIter v) Q E s := by
  unfold iterV at e
  split at e
  · split at e
    · rename_i n hn
      cases e
      cases r with | rng r =>
        have hsmall : Builtin.Range.small 0 n 1 = true := by
          unfold Builtin.Range.small Builtin.Range.rangeSize Builtin.Range.rangeFitsLong
          simp
          split <;> omega
        refine wpAny_pyIter_range r hsmall (o _ (Keep.push _ _) (rb.push _) (.inr ⟨0, ?_, by rw [rangeT_len]⟩))
        have : Builtin.Range.rangeSize 0 n 1 = (rangeT 0 n).length := by
          rw [rangeT_len]
          unfold Builtin.Range.rangeSize
          simp
          omega
        rw [this]
        exact Heap.get?_push_size _ rfl
    · cases e
  · obtain ⟨a, vs, rfl, p, q, z, y⟩ := its_ok e mo r
    refine wpAny_pyIter_list p.isList (o _ (Keep.push _ _) (rb.push _) (.inl ⟨a, vs, 0, ⟨_, Heap.get?_push_size _ rfl, rfl, rfl⟩, (p.elim fun _ q => Heap.lt_size q), (Keep.push (X := []) _ _).plain rb.tb p, ?_⟩))
    exact paired_mono (fun a b r => RT.mono (Keep.push (X := []) _ _) rb.tb b a r) q
/-- the iterator turns -/
theorem Keep.turn {h h' : Heap} {I : Addr} {o : Obj} (hs : Heap.SameBut I h h') (g : h.get? I = some o) (b : Addr) (ob : Obj) (e : h.get? b = some ob) (hb : b ≠ I) : h'.get? b = some ob := (hs.2 b hb).trans e
theorem next_item {Z : Addr → Prop} {s : Shared} {I : Addr} {x : T} {rem : List T} {Q : Option Value → Shared → Prop} {E : Value → Shared → Prop} (i : IterAt Z s.heap I (x :: rem)) (rb : RB P s.heap) (ht : 0 < s.toks) (hI : 100 ≤ I)
    (o : ∀ v h' tk, 0 < tk → Heap.SameBut I s.heap h' → RB P h' → RT Z h' v x → IterAt Z h' I rem → Q (some v) (up s h' tk)) : wpAny (model prog w) A (pyNext (.ref I)) Q E s := by
  obtain ⟨ob, g, so, _⟩ := i.soft
  have rtI : ∀ h', Heap.SameBut I s.heap h' → ∀ v x, RT Z s.heap v x → RT Z h' v x := fun h' hs => by
    intro v x r
    refine RT.off hs.extBut g ?_ x v r
    rcases i with ⟨l, vs, i, ⟨o', g0, c, d⟩, _⟩ | ⟨x, g0, _⟩
    · rw [g] at g0; cases g0; rw [c]; exact ⟨by decide, by decide, by decide⟩
    · have q := g.symm.trans g0; cases q; refine ⟨?_, ?_, ?_⟩ <;> (simp only; decide)
  rcases i with ⟨l, vs, i, hit, li, p, q⟩ | ⟨a, hit, hr⟩
  · have hv : ∃ v, vs[i]? = some v ∧ RT Z s.heap v x ∧ Paired (RT Z s.heap) (vs.drop (i + 1)) rem := by
      cases hd : vs.drop i with
      | nil => rw [hd] at q; cases q
      | cons a t =>
        rw [hd] at q
        cases q with
        | cons q1 q2 =>
          have hi : i < vs.length := by
            rcases Nat.lt_or_ge i vs.length with h | h
            · exact h
            · rw [List.drop_eq_nil_of_le h] at hd; cases hd
          rw [List.drop_eq_getElem_cons hi] at hd
          injection hd with h1 h2
          refine ⟨a, by rw [List.getElem?_eq_getElem hi, h1], q1, ?_⟩
          rw [h2]; exact q2
    obtain ⟨v, hv, rv, q'⟩ := hv
    refine wpAny_pyNext_list_item hit p.isList (by simpa using hv) fun h' hit' hs => ?_
    refine o v h' s.toks ht hs (rb.turn hs g so hI) (rtI h' hs _ _ rv) (.inl ⟨l, vs, i + 1, hit', li, ?_, paired_mono (fun a b r => rtI h' hs a b r) q'⟩)
    obtain ⟨n, hp⟩ := p
    refine ⟨n, (hs.2 l fun e => ?_).trans hp⟩
    subst e
    obtain ⟨o', g0, c, _⟩ := hit
    rw [hp] at g0; cases g0; simp only at c; exact absurd c (by decide)
  · refine wpAny_pyNext_range_item hit (by simp) fun h' hit' hs => ?_
    have hx : x = .sc (.int a) ∧ rem = rangeT (a + 1) rem.length := by
      rw [List.length_cons] at hr
      injection hr with h1 h2
      exact ⟨h1, h2⟩
    obtain ⟨rfl, hx⟩ := hx
    refine o _ h' _ (Nat.succ_pos _) hs (rb.turn hs g so hI) (.sc (.int _ _)) (.inr ⟨a + 1, ?_, hx⟩)
    have e1 : ((T.sc (Sc.int a) :: rem).length : Int) - 1 = rem.length := by simp
    rw [e1] at hit'
    exact hit'
theorem next_end {Z : Addr → Prop} {s : Shared} {I : Addr} {Q : Option Value → Shared → Prop} {E : Value → Shared → Prop} (hA : A.handled = none) (i : IterAt Z s.heap I []) 
    (o : ∀ h', Heap.ExtBut I s.heap h' → s.heap.objs.size ≤ h'.objs.size → Q none { s with heap := h' }) : wpAny (model prog w) A (pyNext (.ref I)) Q E s := by
  refine with_size (Nat.le_refl _) ?_
  rcases i with ⟨l, vs, i, hit, li, p, q⟩ | ⟨a, hit, hr⟩
  · have hd : vs.drop i = [] := by cases hd : vs.drop i with
      | nil => rfl
      | cons a t => rw [hd] at q; cases q
    refine wpAny_pyNext_list_end hA hit p.isList ?_ fun h' hs hsz => o h' hs hsz
    have : vs.length ≤ i := by rw [List.drop_eq_nil_iff] at hd; exact hd
    simp; omega
  · exact wpAny_pyNext_range_end hA hit (by simp) fun h' hs hsz => o h' hs hsz
end
end Mine
end
section
namespace Mine
open PySem PyProof.Rows
/-! the closure of a comprehension -/
noncomputable def closL (cells : List (Str × Addr)) : List (Str × NameKind) → List (Str × Addr) → List (Str × Addr)
  | [], acc => acc
  | (n, k) :: r, acc => closL cells r (if k == .free then match cells.lookup n with
    | some a => (n, a) :: acc
    | none => acc else acc)
theorem closL_forIn {env : Env} : ∀ (names : List (Str × NameKind)) (acc : List (Str × Addr)), (∀ x ∈ names, x.2 = .free → ∃ c, env.cells.lookup x.1 = some c) →
    (forIn names acc (fun (x : Str × NameKind) (cs : List (Str × Addr)) => (if (x.2 == NameKind.free) = true then (do let a ← cellOf env x.1; pure (ForInStep.yield ((x.1, a) :: cs))) else pure (ForInStep.yield cs) : Sem (ForInStep (List (Str × Addr)))))) = pure (closL env.cells names acc)
  | [], acc, _ => rfl
  | (n, k) :: r, acc, h => by
    rw [List.forIn_cons]
    cases hk : (k == NameKind.free) with
    | false =>
      simp only [hk, Bool.false_eq_true, if_false, pure_bind, closL]
      exact closL_forIn r acc fun x hx => h x (List.mem_cons_of_mem _ hx)
    | true =>
      obtain ⟨c, hc⟩ := h (n, k) (List.mem_cons_self ..) (by simpa using hk)
      simp only [hk, if_true, cellOf, hc, pure_bind, closL]
      exact closL_forIn r _ fun x hx => h x (List.mem_cons_of_mem _ hx)
theorem closureFor_eq {scope : Scope} {env : Env} (h : ∀ x ∈ scope.names, x.2 = .free → ∃ c, env.cells.lookup x.1 = some c) : closureFor scope env = pure (closL env.cells scope.names []) := by
  have := closL_forIn (env := env) scope.names [] h
  unfold closureFor
  have e : (fun (x : Str × NameKind) (cs : List (Str × Addr)) => (if (x.2 == NameKind.free) = true then (do let a ← cellOf env x.1; pure (ForInStep.yield ((x.1, a) :: cs))) else pure (ForInStep.yield cs) : Sem (ForInStep (List (Str × Addr))))) = (fun x r =>
      match x with
      | (name, kind) =>
        let cs := r
        if (kind == NameKind.free) = true then do
          let __do_lift ← cellOf env name
          let cs : List (Str × Addr) := (name, __do_lift) :: cs
          pure (ForInStep.yield cs)
        else pure (ForInStep.yield cs)) := rfl
  rw [e] at this
  refine (congrArg (fun t => t >>= fun r => pure r) this).trans ?_
  rfl
theorem closL_mem {cells : List (Str × Addr)} : ∀ (names : List (Str × NameKind)) (acc : List (Str × Addr)) (x : Str) (c : Addr), (closL cells names acc).lookup x = some c → (∀ y d, acc.lookup y = some d → cells.lookup y = some d) → cells.lookup x = some c
  | [], acc, x, c, h, ha => ha x c h
  | (n, k) :: r, acc, x, c, h, ha => by
    refine closL_mem r _ x c h fun y d hy => ?_
    split at hy
    · split at hy
      · rename_i a hc
        rw [List.lookup_cons] at hy
        split at hy
        · rename_i e
          have : y = n := by simpa using e
          subst this; cases hy; exact hc
        · exact ha y d hy
      · exact ha y d hy
    · exact ha y d hy
theorem closL_has {cells : List (Str × Addr)} : ∀ (names : List (Str × NameKind)) (acc : List (Str × Addr)) (x : Str) (c : Addr), cells.lookup x = some c → ((x, NameKind.free) ∈ names ∨ acc.lookup x = some c) → (∀ y d, acc.lookup y = some d → cells.lookup y = some d) → (closL cells names acc).lookup x = some c
  | [], acc, x, c, hc, h, _ => h.elim (fun q => nomatch q) id
  | (n, k) :: r, acc, x, c, hc, h, ha => by
    have ha' : ∀ y d, (if k == NameKind.free then match cells.lookup n with
        | some a => (n, a) :: acc
        | none => acc else acc).lookup y = some d → cells.lookup y = some d := fun y d hy => by
      split at hy
      · split at hy
        · rename_i a hc
          rw [List.lookup_cons] at hy
          split at hy
          · rename_i e
            have : y = n := by simpa using e
            subst this; cases hy; exact hc
          · exact ha y d hy
        · exact ha y d hy
      · exact ha y d hy
    refine closL_has r _ x c hc ?_ ha'
    rcases h with h | h
    · cases h with
      | head => right; simp [hc]
      | tail _ h => exact .inl h
    · right
      split
      · split
        · rename_i a hcn
          rw [List.lookup_cons]
          split
          · rename_i e
            have : x = n := by simpa using e
            subst this; rw [hc] at hcn; cases hcn; rfl
          · exact h
        · exact h
      · exact h
noncomputable def relN (nm names : List (Str × NameKind)) : List (Str × NameKind) := names.map fun x => if (x.2 == .free && nm.lookup x.1 == some .cell) then (x.1, .cell) else x
theorem relabel_names {Z : Addr → Prop} {env : Env} {fm : Fm} {h : Heap} (f : FrmOk Z env fm h) (scope : Scope) : (relabel scope env).names = relN fm.names scope.names := by
  unfold relabel relN
  simp only
  congr 1
  funext x
  obtain ⟨n, k⟩ := x
  simp only [f.kind, Env.kindOf, f.names]
  simp
noncomputable def compOk (fm : Fm) (names : List (Str × NameKind)) (x : Str) : Bool :=
  names.all (fun y => match y.2 with
    | .local => (y.1 == (".0" : Str) || y.1 == x) && names.lookup y.1 == some .local
    | .free => fm.names.lookup y.1 == some .cell || fm.names.lookup y.1 == some .free
    | .globalImplicit => true
    | _ => false) && (fm.vars.lookup (".0" : Str)).isNone && names.lookup x == some .local
noncomputable def cfm (fm : Fm) (names : List (Str × NameKind)) (x : Str) (it : T) : Fm := ⟨relN fm.names names, (x, it) :: fm.vars⟩
theorem lookup_mem {α β : Type} [BEq α] [LawfulBEq α] : ∀ {l : List (α × β)} {a : α} {b : β}, l.lookup a = some b → (a, b) ∈ l
  | [], _, _, h => by cases h
  | (x, y) :: r, a, b, h => by
    rw [List.lookup_cons] at h
    split at h
    · rename_i e
      have : a = x := by simpa using e
      subst this; cases h; exact List.mem_cons_self ..
    · exact List.mem_cons_of_mem _ (lookup_mem h)
theorem relN_mem {nm names : List (Str × NameKind)} {x : Str} {k : NameKind} (h : (x, k) ∈ relN nm names) : (x, k) ∈ names ∨ (k = .cell ∧ (x, .free) ∈ names) := by
  unfold relN at h
  rw [List.mem_map] at h
  obtain ⟨⟨n, j⟩, hm, e⟩ := h
  split at e
  · rename_i hc
    cases e
    have : j = .free := by have := (Bool.and_eq_true_iff.mp hc).1; simpa using this
    subst this
    exact .inr ⟨rfl, hm⟩
  · cases e; exact .inl hm
theorem relN_local {nm : List (Str × NameKind)} : ∀ {names : List (Str × NameKind)} {x : Str}, names.lookup x = some .local → (relN nm names).lookup x = some .local
  | [], _, h => by cases h
  | (n, k) :: r, x, h => by
    have ih := @relN_local nm r x
    show List.lookup x ((if (k == NameKind.free && nm.lookup n == some .cell) = true then (n, NameKind.cell) else (n, k)) :: relN nm r) = _
    cases hx : x == n with
    | true =>
      simp only [List.lookup_cons, hx] at h
      cases h
      simp [List.lookup_cons, hx]
    | false =>
      simp only [List.lookup_cons, hx] at h
      by_cases hc : (k == NameKind.free && nm.lookup n == some .cell) = true
      · rw [if_pos hc]; simp only [List.lookup_cons, hx]; exact ih h
      · rw [if_neg hc]; simp only [List.lookup_cons, hx]; exact ih h
section
variable {Z : Addr → Prop} {env : Env} {fm : Fm} {h : Heap}
theorem compOk_free {x : Str} {names : List (Str × NameKind)} (ok : compOk fm names x = true) {n : Str} (hm : (n, NameKind.free) ∈ names) : fm.names.lookup n = some .cell ∨ fm.names.lookup n = some .free := by
  unfold compOk at ok
  simp only [Bool.and_eq_true, List.all_eq_true] at ok
  have := ok.1.1 _ hm
  simpa using this
theorem compOk_local {x : Str} {names : List (Str × NameKind)} (ok : compOk fm names x = true) {n : Str} (hm : (n, NameKind.local) ∈ names) : n = (".0" : Str) ∨ n = x := by
  unfold compOk at ok
  simp only [Bool.and_eq_true, List.all_eq_true] at ok
  have := ok.1.1 _ hm
  simp only [Bool.and_eq_true] at this
  simpa using this.1
theorem compOk_look {x : Str} {names : List (Str × NameKind)} (ok : compOk fm names x = true) {n : Str} (hm : (n, NameKind.local) ∈ names) : names.lookup n = some .local := by
  unfold compOk at ok
  simp only [Bool.and_eq_true, List.all_eq_true] at ok
  have := ok.1.1 _ hm
  simp only [Bool.and_eq_true] at this
  simpa using this.2
theorem compOk_cell {x : Str} {names : List (Str × NameKind)} (ok : compOk fm names x = true) {n : Str} : (n, NameKind.cell) ∉ names := fun hm => by
  unfold compOk at ok
  simp only [Bool.and_eq_true, List.all_eq_true] at ok
  have := ok.1.1 _ hm
  simp at this
theorem compOk_clos (f : FrmOk Z env fm h) {x : Str} {scope : Scope} (ok : compOk fm scope.names x = true) : closureFor scope env = pure (closL env.cells scope.names []) :=
  closureFor_eq fun y hy hk => by
    obtain ⟨n, k⟩ := y
    simp only at hk
    subst hk
    obtain ⟨c, _, e, _⟩ := f.cel n (compOk_free ok hy)
    exact ⟨c, e⟩
theorem cfrm (f : FrmOk Z env fm h) {x : Str} {scope : Scope} (ok : compOk fm scope.names x = true) (hk : scope.kind = .function) {C : Addr} (hC : 100 ≤ C) {m : Str → Option Value} (hn : h.Ns C m) {v : Value} {it : T} (hm : m x = some v) (r : RT Z h v it) :
    FrmOk Z (compEnvC scope (closL env.cells scope.names []) C env) (cfm fm scope.names x it) h := by
  have ok' := ok
  unfold compOk at ok'
  simp only [Bool.and_eq_true] at ok'
  have hdot : fm.vars.lookup (".0" : Str) = none := by simpa using ok'.1.2
  have hxl : scope.names.lookup x = some .local := by simpa using ok'.2
  have hx' := relN_local (nm := fm.names) hxl
  refine ⟨hk, relabel_names f scope, f.glob, f.blt, hC, ⟨m, hn, fun y t hy hl => ?_⟩, fun y hy => ?_, fun y z c hy hz => ?_⟩
  · have hmem := lookup_mem hl
    rcases relN_mem hmem with q | ⟨q, _⟩
    · have : y = (".0" : Str) ∨ y = x := compOk_local ok q
      have hy : ((x, it) :: fm.vars).lookup y = some t := hy
      by_cases hyx : y = x
      · have hb : (y == x) = true := by simpa using hyx
        rw [List.lookup_cons, hb] at hy
        cases hy; rw [hyx]; exact ⟨v, hm, r⟩
      · have hb : (y == x) = false := by simpa using hyx
        rw [List.lookup_cons, hb] at hy
        rcases this with q | q
        · rw [q] at hy
          exact absurd (hdot.symm.trans hy) (by simp)
        · exact absurd q hyx
    · cases q
  · have hfree : (y, NameKind.free) ∈ scope.names := by
      rcases hy with hy | hy
      · rcases relN_mem (lookup_mem hy) with q | ⟨_, q⟩
        · exact absurd q (compOk_cell ok)
        · exact q
      · rcases relN_mem (lookup_mem hy) with q | ⟨q, _⟩
        · exact q
        · cases q
    obtain ⟨c, ov, e, ic, hc, hv⟩ := f.cel y (compOk_free ok hfree)
    refine ⟨c, ov, closL_has _ _ _ _ e (.inl hfree) (fun _ _ q => nomatch q), ic, hc, fun t ht => hv t ?_⟩
    have ht : ((x, it) :: fm.vars).lookup y = some t := ht
    by_cases hyx : y = x
    · have hy : (relN fm.names scope.names).lookup y = some .cell ∨ (relN fm.names scope.names).lookup y = some .free := hy
      rw [hyx, hx'] at hy
      rcases hy with q | q <;> cases q
    · have hb : (y == x) = false := by simpa using hyx
      rw [List.lookup_cons, hb] at ht
      exact ht
  · exact f.inj y z c (closL_mem _ _ _ _ hy fun _ _ q => nomatch q) (closL_mem _ _ _ _ hz fun _ _ q => nomatch q)
end
end Mine
end
section
namespace Mine
open PySem PyProof.Rows
noncomputable def testsSem (ifs : List Expr) (env : Env) : Sem Bool := forIn ifs true fun c r => if r = true then do let ok ← isTrue c env (eval c env); pure (ForInStep.yield ok) else pure (ForInStep.yield r)
section
variable {prog : Program} {w : World} {P : Pm} {A : Around} {env : Env} {fm : Fm} {μ : Mu}
theorem tests_nil : EvB prog w P A env fm μ (testsSem [] env) true := fun s Q E p o => wpAny_pure (o s.heap s.toks p.ht (Keep.refl _ _) p.rb)
theorem tests_one {c : Expr} {b : Bool} (h : EvB prog w P A env fm μ (isTrue c env (eval c env)) b) : EvB prog w P A env fm μ (testsSem [c] env) b := fun s Q E p o => by
  have e : testsSem [c] env = (isTrue c env (eval c env) >>= fun ok => pure ok) := by
    unfold testsSem
    simp
  rw [e]
  exact wpAny_bind (h s _ E p fun h' tk tp e rb => wpAny_pure (o h' tk tp e rb))
noncomputable def Hid (Z : Addr → Prop) (D : Addr) : Addr → Prop := fun a => Z a ∨ a = D
theorem RT.hide {Z : Addr → Prop} {h : Heap} {D : Addr} (hD : h.objs.size ≤ D) (x : T) (v : Value) (r : RT Z h v x) : RT (Hid Z D) h v x :=
  RT.gen (fun _ _ t => t) (fun _ _ _ _ _ _ _ r => r) (fun a its nz p => ⟨fun e => e.elim nz fun e => (by obtain ⟨n, ho⟩ := p; rw [e] at ho; exact absurd (Heap.lt_size ho) (Nat.not_lt.mpr hD)), p⟩) x v r
theorem RT.weak {Z Z' : Addr → Prop} {h : Heap} (hZ : ∀ a, Z a → Z' a) (x : T) (v : Value) (r : RT Z' h v x) : RT Z h v x :=
  RT.gen (fun _ _ t => t) (fun _ _ _ _ _ _ _ r => r) (fun a its nz p => ⟨fun e => nz (hZ _ e), p⟩) x v r
/-- a hidden list turns -/
theorem RT.hid {Z : Addr → Prop} {h h' : Heap} {c : Addr} (hZ : Z c) {oc : Obj} (hs : Heap.ExtBut c h h') (g : h.get? c = some oc) (hn : oc.cls = .type "list") (x : T) (v : Value) (r : RT Z h v x) : RT Z h' v x := by
  have ne : ∀ {a : Addr} {o : Obj}, h.get? a = some o → o.cls ≠ oc.cls → a ≠ c := fun e n q => by rw [q, g] at e; cases e; exact n rfl
  refine RT.gen (fun a its t => ?_) (fun a _ _ _ _ _ _ r => hs _ _ (ne r (by rw [hn]; exact fun q => absurd (show Value.type "range" = Value.type "list" from q) (by decide))) r) (fun a its nz p => ⟨nz, ?_⟩) x v r
  · obtain ⟨o, ho, hc, n, hd⟩ := t
    exact ⟨o, hs _ _ (ne ho (by rw [hc, hn]; decide)) ho, hc, n, hd⟩
  · obtain ⟨n, ho⟩ := p
    exact ⟨n, hs _ _ (fun e => nz (by rw [e]; exact hZ)) ho⟩
theorem FrmOk.hide {Z : Addr → Prop} {env : Env} {fm : Fm} {h : Heap} {D : Addr} (hD : h.objs.size ≤ D) (f : FrmOk Z env fm h) : FrmOk (Hid Z D) env fm h := by
  refine ⟨f.kind, f.names, f.glob, f.blt, f.hi, ?_, ?_, f.inj⟩
  · obtain ⟨m, hn, hm⟩ := f.loc
    exact ⟨m, hn, fun x y a b => let ⟨v, p, q⟩ := hm x y a b; ⟨v, p, q.hide hD⟩⟩
  · intro x k
    obtain ⟨c, ov, a, b, d, q⟩ := f.cel x k
    exact ⟨c, ov, a, b, d, fun y z => let ⟨v, p, q⟩ := q y z; ⟨v, p, q.hide hD⟩⟩
theorem MuOk.hide {Z : Addr → Prop} {μ : Mu} {h : Heap} {D : Addr} (hD : h.objs.size ≤ D) (m : MuOk Z μ h) : MuOk (Hid Z D) μ h := fun a l q => let ⟨b, vs, p, r, z⟩ := m a l q; ⟨b, vs, p, paired_mono (fun _ _ x => x.hide hD) r, z⟩
theorem fo_ns {h : Heap} {C : Addr} {m : Str → Option Value} (n : h.Ns C m) : ∃ o, h.get? C = some o ∧ FO o := let ⟨o, es, ep, e, d, _⟩ := n; ⟨o, e, .inl ⟨es, ep, d⟩⟩
/-- a frame object turns: what is kept -/
theorem Keep.frame {h h' : Heap} {C : Addr} {o : Obj} (hs : Heap.SameBut C h h') (g : h.get? C = some o) (f : FO o) : Keep [C] h h' := ⟨Nat.le_of_eq hs.1.symm, fun b ob e _ hx => (hs.2 b fun q => by
  subst q
  rw [g] at e; cases e
  exact hx (by simp) f).trans e⟩
theorem storeOk {env : Env} (h : env.scope.kind = .function) : (env.scope.kind == .class || (env.scope.kind == .module && env.locals != env.globals)) = false := by rw [h]; rfl
theorem IterAt.hide {Z : Addr → Prop} {h : Heap} {I D : Addr} {rem : List T} (hD : h.objs.size ≤ D) (i : IterAt Z h I rem) : IterAt (Hid Z D) h I rem := by
  rcases i with ⟨l, vs, i, a, b, c, d⟩ | q
  · exact .inl ⟨l, vs, i, a, b, c, paired_mono (fun a b r => RT.hide hD b a r) d⟩
  · exact .inr q
/-- another object turns -/
theorem IterAt.other {Z : Addr → Prop} {h h' : Heap} {I c : Addr} {rem : List T} (i : IterAt Z h I rem) (hs : Heap.ExtBut c h h') (hc : I < c) (hr : ∀ x v, RT Z h v x → RT Z h' v x) : IterAt Z h' I rem := by
  rcases i with ⟨l, vs, i, ⟨o, g, r⟩, li, ⟨n, p⟩, q⟩ | ⟨x, g, r⟩
  · exact .inl ⟨l, vs, i, ⟨o, hs _ _ (Nat.ne_of_lt hc) g, r⟩, li, ⟨n, hs _ _ (Nat.ne_of_lt (Nat.lt_trans li hc)) p⟩, paired_mono (fun a b r => hr b a r) q⟩
  · exact .inr ⟨x, hs _ _ (Nat.ne_of_lt hc) g, r⟩
/-- what holds at the head of a comprehension's loop -/
structure CI (P : Pm) (Z : Addr → Prop) (h₁ : Heap) (I C D : Addr) (items : List T) (J : Heap → List T → List Value → Prop) (k : Nat) (h' : Heap) (tk : Nat) (don rem : List T) (ys : List Value) : Prop where
  tp : 0 < tk
  k : k = rem.length + 1
  it : items = don ++ rem
  kp : Keep [] h₁ h'
  rb : RB P h'
  ia : IterAt Z h' I rem
  ns : ∃ m, h'.Ns C m
  pl : h'.PlainList D ys.toArray
  j : J h' don ys
noncomputable def Carry (Z : Addr → Prop) (h h' : Heap) : Prop := (∀ x v, RT Z h v x → RT Z h' v x) ∧ h.objs.size ≤ h'.objs.size
/-- what is asked of a comprehension's turn: J tells of the items that are done and the values that stand -/
noncomputable def Elem (prog : Program) (w : World) (P : Pm) (A : Around) (E : Value → Shared → Prop) (fm : Fm) (μ : Mu) (Z : Addr → Prop) (n : Nat) (items : List T) (scope : Scope) (x : Str) (ifs : List Expr) (elt : Expr) (J : Addr → Heap → List T → List Value → Prop) : Prop :=
  ∀ D cenv s it don ys, it ∈ items → n ≤ D → D < s.heap.objs.size → Pre P (Hid Z D) cenv (cfm fm scope.names x it) μ s → J D s.heap don ys → ∀ (Qb : Bool → Shared → Prop) (Eb : Value → Shared → Prop),
    (∀ h₆ tk₆, 0 < tk₆ → Keep [] s.heap h₆ → RB P h₆ → J D h₆ (don ++ [it]) ys → Qb false (up s h₆ tk₆)) →
    (∀ h₆ tk₆, 0 < tk₆ → Keep [] s.heap h₆ → RB P h₆ → (∀ (Qv : Value → Shared → Prop) (Ew : Value → Shared → Prop), (∀ y h₇ tk₇, 0 < tk₇ → Keep [] h₆ h₇ → RB P h₇ → (∀ h₈, Carry (Hid Z D) h₇ h₈ → J D h₈ (don ++ [it]) (ys ++ [y])) → Qv y (up s h₇ tk₇)) → wpAny (model prog w) A (eval elt cenv) Qv Ew (up s h₆ tk₆)) → Qb true (up s h₆ tk₆)) →
    wpAny (model prog w) A (testsSem ifs cenv) Qb Eb s
theorem comp_gen {elt iter : Expr} {x : Str} {px : Pos} {ifs : List Expr} {scope : Scope} {pos pos' : Pos} {src : T} {items : List T} {use : Option (Value → Sem Unit)} {Q : Value → Shared → Prop} {E : Value → Shared → Prop} {Z : Addr → Prop} {s : Shared}
    (J : Addr → Heap → List T → List Value → Prop) (hA : A.handled = none)
    (hs : ∀ env x, foldedSetIterable iter env x = pure x) (hk : scope.kind = .function) (ok : compOk fm scope.names x = true)
    (hiter : Ev prog w P A env fm μ (eval iter env) src) (hitems : iterV μ src = some items) (hlen : items.length ≤ 4096) (p : Pre P Z env fm μ s)
    (J0 : ∀ D h, D < h.objs.size → J D h [] []) (Jl : ∀ D h don ys, J D h don ys → ys.length ≤ don.length) (Jk : ∀ D h h' don ys, Carry (Hid Z D) h h' → J D h don ys → J D h' don ys)
    (el : Elem prog w P A E fm μ Z s.heap.objs.size items scope x ifs elt J)
    (fin : ∀ D C h' tk ys, 0 < tk → Keep [] s.heap h' → RB P h' → h'.PlainList D (List.toArray ys) → J D h' items ys → s.heap.objs.size ≤ D → D < C → (∃ m, h'.Ns C m) → compPost (model prog w) A E use Q (.ref D) C (.ok .next) (up s h' tk)) :
    wpAny (model prog w) A (comprehension (.ListComp elt [⟨.Name x px, iter, ifs, 0⟩] scope pos) scope env pos' (newList []) false (eval iter env) use) Q E s := by
  have ok' := ok
  unfold compOk at ok'
  simp only [Bool.and_eq_true] at ok'
  have hxl : scope.names.lookup x = some .local := by simpa using ok'.2
  have hcell : ∀ y ∈ scope.names, y.2 ≠ .cell := fun y hy e => compOk_cell ok (n := y.1) (by rw [← e]; exact hy)
  have hnd : ∀ y ∈ scope.names, y.2 = .local → scope.names.lookup y.1 = some .local := fun y hy e => compOk_look ok (n := y.1) (by rw [← e]; exact hy)
  refine wpAny_comprehension_free (g := ⟨.Name x px, iter, ifs, 0⟩) (gs := []) (cl := closL env.cells scope.names []) rfl (fun v => hs env v) (compOk_clos p.fo ok) hk hnd ?_
  refine hiter s _ E p fun v h₁ tk₁ tp₁ e₁ rb₁ rv₁ => ?_
  have p₁ := p.next tp₁ e₁ rb₁
  refine iter_ok hitems rb₁ p₁.mo rv₁ fun h₂ e₂ rb₂ it₂ => ?_
  refine wpAny_newObj_type (wpAny_newFunctionEnv hcell (by intro y hy; simp at hy) (fun h₃ hns₃ hsb₃ => ?_) hk)
  dsimp only at hns₃ hsb₃ ⊢
  generalize hI : h₁.objs.size = I at it₂ ⊢
  generalize hD : h₂.objs.size = D at hns₃ hsb₃ ⊢
  have hID : I < D := by
    obtain ⟨o, g, _⟩ := it₂.soft
    rw [← hD]; exact Heap.lt_size g
  generalize hH : h₂.push { cls := .type "list", dict := none, data := .seq ([] : List Value).toArray } = H2 at hns₃ hsb₃ ⊢
  generalize hC : H2.objs.size = C at hns₃ hsb₃ ⊢
  have hCD : C = D + 1 := by rw [← hC, ← hH, Heap.size_push, hD]
  have keep₃ : ∀ b o, H2.get? b = some o → h₃.get? b = some o := fun b o e => hsb₃.extBut b o (Nat.ne_of_lt (hC ▸ Heap.lt_size e)) (Heap.get?_push_of_some _ e)
  have size₃ : H2.objs.size ≤ h₃.objs.size := by
    rw [hsb₃.1, Heap.size_push]; omega
  have k23 : Keep [] h₂ h₃ := by
    refine .all (Nat.le_trans ?_ size₃) fun b o e => keep₃ b o (by rw [← hH]; exact Heap.get?_push_of_some _ e)
    rw [← hH, Heap.size_push]; omega
  have rb₃ : RB P h₃ := rb₂.keeps k23.size fun b o e => keep₃ b o (by rw [← hH]; exact Heap.get?_push_of_some _ e)
  have hD₃ : h₃.PlainList D ([] : List Value).toArray := ⟨0, keep₃ _ _ (by rw [← hH, ← hD]; exact Heap.get?_push_size _ rfl)⟩
  have s1D : h₁.objs.size ≤ D := by rw [hI]; exact Nat.le_of_lt hID
  have s1C : h₁.objs.size ≤ C := by rw [hCD]; exact Nat.le_succ_of_le s1D
  have b100 : 100 ≤ I := by rw [← hI]; exact rb₁.big
  have fo' : ∀ h', Keep [] h₁ h' → FrmOk (Hid Z D) env fm h' := fun h' k => (p₁.fo.hide s1D).mono k rb₁.tb
  have mo' : ∀ h', Keep [] h₁ h' → MuOk (Hid Z D) μ h' := fun h' k => (p₁.mo.hide s1D).mono k rb₁.tb
  have it₃ : IterAt (Hid Z D) h₃ I items := (it₂.hide (Nat.le_of_eq hD)).mono k23 rb₂.tb b100
  have kI : ∀ b ob, h₁.get? b = some ob → b ≠ I := fun b ob e q => by
    rw [q, ← hI] at e; exact Nat.lt_irrefl _ (Heap.lt_size e)
  have hDC : D < C := by rw [hCD]; exact Nat.lt_succ_self _
  have hCI : C ≠ I := Nat.ne_of_gt (Nat.lt_trans hID hDC)
  have b100C : 100 ≤ C := Nat.le_trans rb₁.big s1C
  have hsD : s.heap.objs.size ≤ D := Nat.le_trans e₁.size s1D
  have loop : codeAny (model prog w) A (.compLoop (.ListComp elt [⟨.Name x px, iter, ifs, 0⟩] scope pos) 0 (.ref I) (.ref D) (compEnvC scope (closL env.cells scope.names []) C env))
      (compPost (model prog w) A E use Q (.ref D) C) (up s h₃ tk₁) := by
    refine codeAny_compLoop_tests (fun k s' => ∃ h' tk don rem ys, s' = up s h' tk ∧ CI P (Hid Z D) h₁ I C D items (J D) k h' tk don rem ys) ?_ (items.length + 1) ⟨h₃, tk₁, [], items, [], rfl, tp₁, rfl, rfl, e₂.trans k23, rb₃, it₃, ⟨_, hns₃⟩, hD₃, J0 D h₃ (hD₃.elim fun _ e => Heap.lt_size e)⟩
    rintro k _ ⟨h', tk, don, rem, ys, rfl, c⟩
    obtain ⟨m, hn⟩ := c.ns
    obtain ⟨o, gI, so, _⟩ := c.ia.soft
    have clsI := (iter_cls c.ia gI).1
    cases rem with
    | nil =>
      have hdon : items = don := by simpa using c.it
      subst hdon
      refine next_end hA c.ia fun h₄ ex sz => ?_
      refine fin D C h₄ tk ys c.tp (e₁.trans ⟨Nat.le_trans c.kp.size sz, fun b ob e nt hx => ex b ob (kI b ob e) (c.kp.keep b ob e nt hx)⟩) (c.rb.ext ex sz gI so b100) ?_ (Jk D h' h₄ _ ys ⟨fun x v r => RT.off ex gI clsI x v r, sz⟩ c.j) hsD hDC ⟨m, ?_⟩
      · obtain ⟨n, e⟩ := c.pl
        exact ⟨n, ex D _ (Nat.ne_of_gt hID) e⟩
      · obtain ⟨oC, es, ep, e, r⟩ := hn
        exact ⟨oC, es, ep, ex C _ hCI e, r⟩
    | cons x0 rem =>
      have hmem : x0 ∈ items := by rw [c.it]; simp
      refine next_item c.ia c.rb c.tp b100 fun v h₄ tk₄ tp₄ sb₄ rb₄ rv₄ ia₄ => ?_
      have k4 : Keep [] h₁ h₄ := c.kp.newer sb₄ (Nat.le_of_eq hI)
      have hn₄ : h₄.Ns C m := by
        obtain ⟨oC, es, ep, e, r⟩ := hn
        exact ⟨oC, es, ep, sb₄.extBut C _ hCI e, r⟩
      have hpl₄ : h₄.PlainList D ys.toArray := by
        obtain ⟨n, e⟩ := c.pl
        exact ⟨n, sb₄.extBut D _ (Nat.ne_of_gt hID) e⟩
      refine assign_Name (wpAny_storeName_local ?_ hn₄ (fun h₅ hn₅ sb₅ => ?_) (storeOk (by exact hk)))
      · show (relabel scope env).names.lookup x = some .local
        rw [relabel_names p.fo scope]; exact relN_local hxl
      obtain ⟨oC, gC, fC⟩ := fo_ns hn₄
      have kC : Keep [C] h₄ h₅ := Keep.frame sb₅ gC fC
      have rb₅ : RB P h₅ := rb₄.turn sb₅ gC (.inl fC) b100C
      have k5 : Keep [] h₁ h₅ := k4.newer sb₅ s1C
      have fo₅ := cfrm (fo' h₅ k5) ok hk (C := C) b100C hn₅ (v := v) (it := x0) (by simp) (rv₄.mono kC rb₄.tb)
      have hpl₅ : h₅.PlainList D ys.toArray := kC.plain rb₄.tb hpl₄
      have hDs : D < h₅.objs.size := hpl₅.elim fun _ e => Heap.lt_size e
      have hz₅ : Hz (Hid Z D) h₅ := fun a q => q.elim (fun q => Nat.lt_of_lt_of_le (p₁.hz a q) k5.size) fun q => by rw [q]; exact hDs
      have ia₅ : IterAt (Hid Z D) h₅ I rem := ia₄.mono kC rb₄.tb b100
      have ite : items = (don ++ [x0]) ++ rem := by rw [c.it]; simp
      refine el D _ (up s h₅ (tk₄ + 1)) x0 don ys hmem hsD hDs ⟨rb₅, Nat.succ_pos _, hz₅, mo' h₅ k5, fo₅⟩ (Jk D h' h₅ don ys ⟨fun x v r => RT.mono kC rb₄.tb x v (RT.off sb₄.extBut gI clsI x v r), by rw [sb₅.1, sb₄.1]; exact Nat.le_refl _⟩ c.j) _ _ (fun h₆ tk₆ tp₆ e₆ rb₆ j₆ => ?_) (fun h₆ tk₆ tp₆ e₆ rb₆ hv => ?_)
      · simp only [Bool.false_eq_true, if_false]
        exact ⟨rem.length + 1, by rw [c.k]; exact Nat.lt_succ_self _, h₆, tk₆, don ++ [x0], rem, ys, rfl, tp₆, rfl, ite, k5.trans e₆, rb₆, ia₅.mono e₆ rb₅.tb b100, ⟨_, e₆.ns hn₅ b100C (by simp)⟩, e₆.plain rb₅.tb hpl₅, j₆⟩
      · simp only [if_true]
        refine hv _ _ fun y h₇ tk₇ tp₇ e₇ rb₇ j₇ => ?_
        have hpl₇ : h₇.PlainList D ys.toArray := e₇.plain rb₆.tb (e₆.plain rb₅.tb hpl₅)
        have ylen : ys.length ≤ 4096 := Nat.le_trans (Jl _ _ _ _ c.j) (Nat.le_trans (by rw [c.it, List.length_append]; exact Nat.le_add_right _ _) hlen)
        refine wpAny_list_append_plain hpl₇ (fun h₈ hpl₈ sb₈ => ?_) (by rw [List.size_toArray, sizeLine_eq]; omega)
        obtain ⟨n7, g7⟩ := hpl₇
        have hr := fun a b r => RT.hid (Z := Hid Z D) (.inr rfl) sb₈.extBut g7 rfl a b r
        have k7 : Keep [] h₁ h₇ := (k5.trans e₆).trans e₇
        refine ⟨rem.length + 1, by rw [c.k]; exact Nat.lt_succ_self _, h₈, tk₇, don ++ [x0], rem, ys ++ [y], rfl, tp₇, rfl, ite, k7.newer sb₈ s1D, rb₇.turn sb₈ g7 (.inr (.inl rfl)) (Nat.le_trans b100 (Nat.le_of_lt hID)), ((ia₅.mono e₆ rb₅.tb b100).mono e₇ rb₆.tb b100).other sb₈.extBut hID fun x v r => hr x v r, ?_, ?_, j₇ h₈ ⟨fun x v r => hr x v r, Nat.le_of_eq sb₈.1.symm⟩⟩
        · obtain ⟨oC', es, ep, e, r⟩ := e₇.ns (e₆.ns hn₅ b100C (by simp)) b100C (by simp)
          exact ⟨_, oC', es, ep, sb₈.extBut C _ (Nat.ne_of_gt hDC) e, r⟩
        · rw [← List.push_toArray]; exact hpl₈
  have again : wpAny (model prog w) A (pyIter (.ref I)) (fun it' s' => codeAny (model prog w) A (.compLoop (.ListComp elt [⟨.Name x px, iter, ifs, 0⟩] scope pos) 0 it' (.ref D) (compEnvC scope (closL env.cells scope.names []) C env))
      (compPost (model prog w) A E use Q (.ref D) C) s') (notedBy (model prog w) A (compEnvC scope (closL env.cells scope.names []) C env) fun x s' => compPost (model prog w) A E use Q (.ref D) C (.error x) s') (up s h₃ tk₁) := by
    rcases it₃ with ⟨l, vs, i, a, _⟩ | ⟨y, a, _⟩
    · exact wpAny_pyIter_listiter a loop
    · exact wpAny_pyIter_rangeiter a loop
  exact codeAny_compStart_list loop again
theorem comp_core {elt iter : Expr} {x : Str} {px : Pos} {ifs : List Expr} {scope : Scope} {pos pos' : Pos} {src : T} {items : List T} {use : Option (Value → Sem Unit)} {Q : Value → Shared → Prop} {E : Value → Shared → Prop} {Z : Addr → Prop} {s : Shared}
    (tst : T → Bool) (val : T → T) (hA : A.handled = none)
    (hs : ∀ env x, foldedSetIterable iter env x = pure x) (hk : scope.kind = .function) (ok : compOk fm scope.names x = true)
    (hiter : Ev prog w P A env fm μ (eval iter env) src) (hitems : iterV μ src = some items) (hlen : items.length ≤ 4096)
    (ht : ∀ it ∈ items, ∀ cenv, EvB prog w P A cenv (cfm fm scope.names x it) μ (testsSem ifs cenv) (tst it))
    (hv : ∀ it ∈ items, tst it = true → ∀ cenv, Ev prog w P A cenv (cfm fm scope.names x it) μ (eval elt cenv) (val it))
    (p : Pre P Z env fm μ s)
    (fin : ∀ D C h' tk, 0 < tk → Keep [] s.heap h' → RB P h' → RT Z h' (.ref D) (.lst ((items.filter tst).map val)) → s.heap.objs.size ≤ D → s.heap.objs.size ≤ C → (∃ m, h'.Ns C m) →
      compPost (model prog w) A E use Q (.ref D) C (.ok .next) (up s h' tk)) :
    wpAny (model prog w) A (comprehension (.ListComp elt [⟨.Name x px, iter, ifs, 0⟩] scope pos) scope env pos' (newList []) false (eval iter env) use) Q E s := by
  refine comp_gen (fun D h don ys => Paired (RT (Hid Z D) h) ys ((don.filter tst).map val)) hA hs hk ok hiter hitems hlen p (fun _ _ _ => .nil) (fun D h don ys j => ?_) (fun D h h' don ys k j => paired_mono (fun a b r => k.1 b a r) j)
    (fun D cenv s₅ it don ys hm _ _ p₅ j Qb Eb no yes => ht it hm cenv _ _ _ p₅ fun h₆ tk₆ tp₆ e₆ rb₆ => ?_) (fun D C h' tk ys tp k rb pl j hD hC hn => fin D C h' tk tp k rb ?_ hD (Nat.le_trans hD (Nat.le_of_lt hC)) hn)
  · rw [paired_len j, List.length_map]; exact List.length_filter_le _ _
  · have j₆ := paired_mono (fun a b r => RT.mono e₆ p₅.rb.tb b a r) j
    cases hb : tst it with
    | false =>
      refine no h₆ tk₆ tp₆ e₆ rb₆ ?_
      show Paired _ _ _
      rw [List.filter_append, List.filter_cons_of_neg (by rw [hb]; decide), List.filter_nil, List.append_nil]; exact j₆
    | true =>
      refine yes h₆ tk₆ tp₆ e₆ rb₆ fun Qv Ew ov => hv it hm hb cenv _ _ _ (p₅.next tp₆ e₆ rb₆) fun y h₇ tk₇ tp₇ e₇ rb₇ rv₇ => ov y h₇ tk₇ tp₇ e₇ rb₇ fun h₈ k => ?_
      show Paired _ _ _
      rw [List.filter_append, List.filter_cons_of_pos hb, List.filter_nil, List.map_append]
      exact paired_snoc (paired_mono (fun a b r => k.1 b a (RT.mono e₇ rb₆.tb b a r)) j₆) (k.1 _ _ rv₇)
  · have nz : ¬ Z D := fun q => absurd (p.hz D q) (Nat.not_lt.mpr hD)
    obtain ⟨n, hpl⟩ := pl
    refine .lst nz ⟨n, hpl⟩ (paired_mono (fun a b r => RT.weak (fun _ q => .inl q) b a r) j) ?_
    rw [List.length_map]
    exact Nat.le_trans (List.length_filter_le _ _) hlen
end
end Mine
end
section
namespace Mine
open PySem PyProof.Rows
noncomputable def XE (env : Env) : List Addr := env.locals :: env.cells.map (·.2)
inductive Rf where
  | next
  | brk
  | ret (t : T)
inductive RF (Z : Addr → Prop) (h : Heap) : Flow → Rf → Prop
  | next : RF Z h .next .next
  | brk : RF Z h .brk .brk
  | ret {v : Value} {t : T} : RT Z h v t → RF Z h (.ret v) (.ret t)
section
variable (prog : Program) (w : World) (P : Pm) (A : Around)
noncomputable def OutS (Z : Addr → Prop) (env : Env) (fm : Fm) (s : Shared) (r : Rf) (Q : Flow → Shared → Prop) : Prop :=
  ∀ f h' tk, 0 < tk → Keep (XE env) s.heap h' → RB P h' → FrmOk Z env fm h' → RF Z h' f r → Q f (up s h' tk)
noncomputable abbrev Ex (env : Env) (nm : List (Str × NameKind)) (μ : Mu) (t : Sem Flow) (vars vars' : List (Str × T)) (r : Rf) : Prop :=
  ∀ {Z : Addr → Prop} (s : Shared) (Q : Flow → Shared → Prop) (E : Value → Shared → Prop), Pre P Z env ⟨nm, vars⟩ μ s → OutS P Z env ⟨nm, vars'⟩ s r Q → wpAny (model prog w) A t Q E s
end
theorem lookup_mem2 {x : Str} {c : Addr} : ∀ {l : List (Str × Addr)}, l.lookup x = some c → c ∈ l.map (·.2) := fun h => List.mem_map.mpr ⟨(x, c), lookup_mem h, rfl⟩
theorem Keep.sub {X Y : List Addr} {h h' : Heap} (k : Keep X h h') (s : ∀ a, a ∈ X → a ∈ Y) : Keep Y h h' := ⟨k.size, fun b o e t x => k.keep b o e t fun q => x (s b q)⟩
section
variable {prog : Program} {w : World} {P : Pm} {A : Around} {Z : Addr → Prop} {env : Env} {nm : List (Str × NameKind)} {vars vars' : List (Str × T)} {μ : Mu}
theorem Pre.nextS {s : Shared} (p : Pre P Z env ⟨nm, vars⟩ μ s) {X : List Addr} {h' : Heap} {tk : Nat} (tp : 0 < tk) (e : Keep X s.heap h') (rb : RB P h') (fo : FrmOk Z env ⟨nm, vars'⟩ h') : Pre P Z env ⟨nm, vars'⟩ μ (up s h' tk) :=
  ⟨rb, tp, p.hz.mono e.size, p.mo.mono e p.rb.tb, fo⟩
theorem OutS.next {fm : Fm} {s : Shared} {h₁ : Heap} {t₁ : Nat} {r : Rf} {Q : Flow → Shared → Prop} (o : OutS P Z env fm s r Q) (e : Keep (XE env) s.heap h₁) : OutS P Z env fm (up s h₁ t₁) r Q :=
  fun f h' tk tp e' rb fo rf => o f h' tk tp (e.trans e') rb fo rf
theorem FrmOk.monoX {fm : Fm} {X : List Addr} {h h' : Heap} (f : FrmOk Z env fm h) (e : Keep X h h') (tb : Tb h) (hl : env.locals ∉ X) (hc : ∀ x, (fm.names.lookup x = some .cell ∨ fm.names.lookup x = some .free) → ∀ c, env.cells.lookup x = some c → c ∉ X) : FrmOk Z env fm h' := by
  refine ⟨f.kind, f.names, f.glob, f.blt, f.hi, ?_, ?_, f.inj⟩
  · obtain ⟨m, hn, hm⟩ := f.loc
    exact ⟨m, e.ns hn f.hi hl, fun x y a b => let ⟨v, p, q⟩ := hm x y a b; ⟨v, p, q.mono e tb⟩⟩
  · intro x k
    obtain ⟨c, ov, a, b, d, q⟩ := f.cel x k
    exact ⟨c, ov, a, e.cell b d (hc x k c a), d, fun y z => let ⟨v, p, q⟩ := q y z; ⟨v, p, q.mono e tb⟩⟩
/-- fewer variables -/
theorem FrmOk.drop {h : Heap} (f : FrmOk Z env ⟨nm, vars⟩ h) (hs : ∀ x y, vars'.lookup x = some y → vars.lookup x = some y) : FrmOk Z env ⟨nm, vars'⟩ h :=
  ⟨f.kind, f.names, f.glob, f.blt, f.hi, (let ⟨m, a, b⟩ := f.loc; ⟨m, a, fun x y q => b x y (hs x y q)⟩), (fun x k => let ⟨c, ov, a, b, d, e⟩ := f.cel x k; ⟨c, ov, a, b, d, fun y q => e y (hs x y q)⟩), f.inj⟩
theorem lookup_cons_ne {α : Type} {x y : Str} {t : α} {l : List (Str × α)} (h : y ≠ x) : ((x, t) :: l).lookup y = l.lookup y := by
  have hb : (y == x) = false := by simpa using h
  rw [List.lookup_cons, hb]
theorem lookup_cons_self {α : Type} {x : Str} {t : α} {l : List (Str × α)} : ((x, t) :: l).lookup x = some t := by simp
theorem store_ok {x : Str} {t : T} {k : NameKind} (hk : nm.lookup x = some k) (hk' : k = .local ∨ k = .cell) {s : Shared} {v : Value} {Q : Unit → Shared → Prop} {E : Value → Shared → Prop} (rb : RB P s.heap) (ht : 0 < s.toks) (f : FrmOk Z env ⟨nm, vars⟩ s.heap) (rv : RT Z s.heap v t)
    (o : ∀ h' tk, 0 < tk → Keep (XE env) s.heap h' → RB P h' → FrmOk Z env ⟨nm, (x, t) :: vars⟩ h' → (∃ c, Heap.SameBut c s.heap h' ∧ (c = env.locals ∨ (k = .cell ∧ env.cells.lookup x = some c))) → Q () (up s h' tk)) : wpAny (model prog w) A (storeName env x v) Q E s := by
  have ek : env.kindOf x = some k := by unfold Env.kindOf; rw [f.names]; exact hk
  have f0 := f
  rcases hk' with rfl | rfl
  · obtain ⟨m, hn, hm⟩ := f.loc
    refine wpAny_storeName_local ek hn (fun h' hn' sb => ?_) (storeOk f.kind)
    obtain ⟨oC, gC, fC⟩ := fo_ns hn
    have kC : Keep [env.locals] s.heap h' := Keep.frame sb gC fC
    refine o h' _ (Nat.succ_pos _) (kC.sub fun a ha => by simp at ha; rw [ha]; exact List.mem_cons_self ..) (rb.turn sb gC (.inl fC) f.hi) ⟨f.kind, f.names, f.glob, f.blt, f.hi, ⟨_, hn', fun y u hy hl => ?_⟩, fun y hy => ?_, f.inj⟩ ⟨_, sb, .inl rfl⟩
    · by_cases hyx : y = x
      · subst hyx
        have hy : ((y, t) :: vars).lookup y = some u := hy
        rw [lookup_cons_self] at hy
        cases hy
        exact ⟨v, by simp, rv.mono kC rb.tb⟩
      · have hy : ((x, t) :: vars).lookup y = some u := hy
        rw [lookup_cons_ne hyx] at hy
        obtain ⟨v', e', r'⟩ := hm y u hy hl
        exact ⟨v', by simp [hyx, e'], r'.mono kC rb.tb⟩
    · obtain ⟨c, ov, e, ic, hc, hv⟩ := f.cel y hy
      have hne : c ≠ env.locals := fun q => by
        obtain ⟨o1, g1, d1⟩ := ic
        rw [q, gC] at g1; cases g1
        obtain ⟨oo, es, ep, g2, d2, _⟩ := hn
        rw [gC] at g2; cases g2; rw [d1] at d2; cases d2
      refine ⟨c, ov, e, kC.cell ic hc (by simpa using hne), hc, fun u hu => ?_⟩
      have hyx : y ≠ x := fun q => by subst q; rcases hy with q | q <;> (rw [hk] at q; cases q)
      have hu : ((x, t) :: vars).lookup y = some u := hu
      rw [lookup_cons_ne hyx] at hu
      obtain ⟨v', e', r'⟩ := hv u hu
      exact ⟨v', e', r'.mono kC rb.tb⟩
  · obtain ⟨c, ov, e, ic, hc, hv⟩ := f.cel x (.inl hk)
    refine wpAny_storeName_cell f.kind ek e ic fun h' ic' sb => ?_
    obtain ⟨oC, gC, dC⟩ := id ic
    have fC : FO oC := .inr ⟨_, dC⟩
    have kC : Keep [c] s.heap h' := Keep.frame sb gC fC
    have cX : c ∈ XE env := List.mem_cons_of_mem _ (lookup_mem2 e)
    refine o h' _ ht (kC.sub fun a ha => by simp at ha; rw [ha]; exact cX) (rb.turn sb gC (.inl fC) hc) ⟨f.kind, f.names, f.glob, f.blt, f.hi, ?_, fun y hy => ?_, f.inj⟩ ⟨_, sb, .inr ⟨rfl, e⟩⟩
    · obtain ⟨m, hn, hm⟩ := f.loc
      have hne : env.locals ≠ c := fun q => by
        obtain ⟨oo, es, ep, g2, d2, _⟩ := hn
        rw [q, gC] at g2; cases g2; rw [dC] at d2; cases d2
      refine ⟨m, kC.ns hn f.hi (by simpa using hne), fun y u hy hl => ?_⟩
      have hyx : y ≠ x := fun q => by subst q; rw [hk] at hl; cases hl
      have hy : ((x, t) :: vars).lookup y = some u := hy
      rw [lookup_cons_ne hyx] at hy
      obtain ⟨v', e', r'⟩ := hm y u hy hl
      exact ⟨v', e', r'.mono kC rb.tb⟩
    · by_cases hyx : y = x
      · subst hyx
        refine ⟨c, some v, e, ic', hc, fun u hu => ?_⟩
        have hu : ((y, t) :: vars).lookup y = some u := hu
        rw [lookup_cons_self] at hu
        cases hu
        exact ⟨v, rfl, rv.mono kC rb.tb⟩
      · obtain ⟨c', ov', e', ic2, hc', hv'⟩ := f.cel y hy
        have hne : c' ≠ c := fun q => hyx (f.inj y x c (q ▸ e') e)
        refine ⟨c', ov', e', kC.cell ic2 hc' (by simpa using hne), hc', fun u hu => ?_⟩
        have hu : ((x, t) :: vars).lookup y = some u := hu
        rw [lookup_cons_ne hyx] at hu
        obtain ⟨v', e2, r'⟩ := hv' u hu
        exact ⟨v', e2, r'.mono kC rb.tb⟩
/-- a comprehension -/
theorem ev_comp {fm : Fm} {elt iter : Expr} {x : Str} {px : Pos} {ifs : List Expr} {scope : Scope} {pos : Pos} {src : T} {items : List T}
    (tst : T → Bool) (val : T → T) (hA : A.handled = none)
    (hs : ∀ env x, foldedSetIterable iter env x = pure x) (hk : scope.kind = .function) (ok : compOk fm scope.names x = true)
    (hiter : Ev prog w P A env fm μ (eval iter env) src) (hitems : iterV μ src = some items) (hlen : items.length ≤ 4096)
    (ht : ∀ it ∈ items, ∀ cenv, EvB prog w P A cenv (cfm fm scope.names x it) μ (testsSem ifs cenv) (tst it))
    (hv : ∀ it ∈ items, tst it = true → ∀ cenv, Ev prog w P A cenv (cfm fm scope.names x it) μ (eval elt cenv) (val it)) :
    Ev prog w P A env fm μ (eval (.ListComp elt [⟨.Name x px, iter, ifs, 0⟩] scope pos) env) (.lst ((items.filter tst).map val)) := fun s Q E p o => by
  rw [arm_eval_ListComp]
  refine comp_core tst val hA hs hk ok hiter hitems hlen ht hv p fun D C h' tk tp k rb rv hD hC hn => ?_
  obtain ⟨m, hn⟩ := hn
  refine ⟨m, hn, fun h'' sb => ?_⟩
  obtain ⟨oC, gC, fC⟩ := fo_ns hn
  exact o _ h'' tk tp (k.newer sb hC) (rb.turn sb gC (.inl fC) (Nat.le_trans p.rb.big hC)) (rv.mono (Keep.frame sb gC fC) rb.tb)
noncomputable def isComp (e : Expr) : Bool := Nat.ble 8 e.ctorIdx && Nat.ble e.ctorIdx 10
theorem swaps_false {value : Expr} (h : isComp value = false) (t : Option Expr) (l : Nat) (env : Env) : swapsWith value t l env = pure false := by
  cases value <;> first | rfl | cases h
theorem ex_assign {x : Str} {t : T} {k : NameKind} {value : Expr} {pos' pos : Pos} (hk : nm.lookup x = some k) (hk' : k = .local ∨ k = .cell) (h : Ev prog w P A env ⟨nm, vars⟩ μ (eval value env) t) (hc : isComp value = false) :
    Ex prog w P A env nm μ (exec (.Assign [.Name x pos'] value pos) env) vars ((x, t) :: vars) .next := fun s Q E p o => by
  refine wpAny_Assign_Name (h s _ E p fun v h₁ tk₁ tp₁ e₁ rb₁ rv₁ => ?_) (swaps_false hc _ _ _)
  exact store_ok hk hk' rb₁ tp₁ (p.next tp₁ e₁ rb₁).fo rv₁ fun h' tk tp k rb f _ => o _ h' tk tp (e₁.weak.trans k) rb f .next
theorem ex_assign_comp {x y : Str} {k : NameKind} {elt iter : Expr} {px : Pos} {ifs : List Expr} {scope : Scope} {cpos pos' pos : Pos} {src : T} {items : List T} (hk0 : nm.lookup y = some k) (hk' : k = .local ∨ k = .cell)
    (tst : T → Bool) (val : T → T) (hA : A.handled = none)
    (hs : ∀ env x, foldedSetIterable iter env x = pure x) (hk : scope.kind = .function) (ok : compOk ⟨nm, vars⟩ scope.names x = true)
    (hiter : Ev prog w P A env ⟨nm, vars⟩ μ (eval iter env) src) (hitems : iterV μ src = some items) (hlen : items.length ≤ 4096)
    (ht : ∀ it ∈ items, ∀ cenv, EvB prog w P A cenv (cfm ⟨nm, vars⟩ scope.names x it) μ (testsSem ifs cenv) (tst it))
    (hv : ∀ it ∈ items, tst it = true → ∀ cenv, Ev prog w P A cenv (cfm ⟨nm, vars⟩ scope.names x it) μ (eval elt cenv) (val it)) :
    Ex prog w P A env nm μ (exec (.Assign [.Name y pos'] (.ListComp elt [⟨.Name x px, iter, ifs, 0⟩] scope cpos) pos) env) vars ((y, .lst ((items.filter tst).map val)) :: vars) .next := fun s Q E p o => by
  have hsw : ∃ b, swapsWith (.ListComp elt [⟨.Name x px, iter, ifs, 0⟩] scope cpos) (some (.Name y pos')) pos.line env = pure b := ⟨_, rfl⟩
  obtain ⟨b, hsw⟩ := hsw
  cases b with
  | false =>
    refine wpAny_Assign_Name (ev_comp tst val hA hs hk ok hiter hitems hlen ht hv s _ E p fun v h₁ tk₁ tp₁ e₁ rb₁ rv₁ => ?_) hsw
    exact store_ok hk0 hk' rb₁ tp₁ (p.next tp₁ e₁ rb₁).fo rv₁ fun h' tk tp k rb f _ => o _ h' tk tp (e₁.weak.trans k) rb f .next
  | true =>
    rw [exec_Assign_Name_used _ _ _ _ hsw]
    refine wpAny_bind (wpAny_standAt (wpAny_bind ?_))
    show wpAny _ _ (comprehension _ _ _ _ _ _ _ _ >>= _) _ _ _
    refine wpAny_bind (comp_core (use := some (assign (.Name y pos') env)) tst val hA hs hk ok hiter hitems hlen ht hv p fun D C h' tk tp k rb rv hD hC hn => ?_)
    obtain ⟨m, hn⟩ := hn
    refine assign_Name (store_ok hk0 hk' rb tp (p.next tp k rb).fo rv fun h₂ tk₂ tp₂ k₂ rb₂ f₂ kk => ?_)
    obtain ⟨c, sbc, hc⟩ := kk
    have hCl : C ≠ env.locals := fun q => by
      obtain ⟨m', hn', _⟩ := p.fo.loc
      rw [q] at hC
      exact absurd hn'.lt (Nat.not_lt.mpr hC)
    have hCc : ∀ z, (nm.lookup z = some .cell ∨ nm.lookup z = some .free) → ∀ c, env.cells.lookup z = some c → C ≠ c := fun z hz c' e q => by
      obtain ⟨c'', ov, e', ic, _⟩ := p.fo.cel z hz
      rw [e] at e'; cases e'
      obtain ⟨o', g', _⟩ := ic
      exact absurd (Heap.lt_size g') (Nat.not_lt.mpr (q ▸ hC))
    have hCX : C ≠ c := fun q => by
      rcases hc with hc | ⟨hc1, hc2⟩
      · exact hCl (q.trans hc)
      · exact hCc y (.inl (hk0.trans (congrArg some hc1))) c hc2 q
    obtain ⟨oC, es, ep, gC, r⟩ := hn
    have hn₂ : h₂.Ns C m := ⟨oC, es, ep, sbc.extBut C oC hCX gC, r⟩
    refine ⟨m, hn₂, fun h₃ sb => wpAny_pure ?_⟩
    obtain ⟨oC, gC, fC⟩ := fo_ns hn₂
    exact wpAny_pure <| o .next h₃ tk₂ tp₂ ((k.weak.trans k₂).newer sb hC) (rb₂.turn sb gC (.inl fC) (Nat.le_trans p.rb.big hC))
      (f₂.monoX (Keep.frame sb gC fC) rb₂.tb (by simpa using Ne.symm hCl) fun z hz c' e => by simpa using Ne.symm (hCc z hz c' e)) .next
end
end Mine
end
section
namespace Mine
open PySem PyProof.Rows
inductive ForOk (B : List (Str × T) → List (Str × T) → Rf → Prop) (O : List (Str × T) → List (Str × T) → Rf → Prop) (x : Str) : List T → List (Str × T) → List (Str × T) → Rf → Prop
  | nil {v v' r} : O v v' r → ForOk B O x [] v v' r
  | next {it rest v v₁ v₂ r} : B ((x, it) :: v) v₁ .next → ForOk B O x rest v₁ v₂ r → ForOk B O x (it :: rest) v v₂ r
  | brk {it rest v v₁} : B ((x, it) :: v) v₁ .brk → ForOk B O x (it :: rest) v v₁ .next
  | ret {it rest v v₁ t} : B ((x, it) :: v) v₁ (.ret t) → ForOk B O x (it :: rest) v v₁ (.ret t)
section
variable {prog : Program} {w : World} {P : Pm} {A : Around} {Z : Addr → Prop} {env : Env} {nm : List (Str × NameKind)} {vars vars' : List (Str × T)} {μ : Mu}
theorem ex_nil : Ex prog w P A env nm μ (execs [] env) vars vars .next := fun s Q E p o => wpAny_execs_nil (o .next s.heap s.toks p.ht (Keep.refl _ _) p.rb p.fo .next)
theorem ex_cons {st : Stmt} {rest : List Stmt} {v₁ v₂ : List (Str × T)} {r : Rf} (h1 : Ex prog w P A env nm μ (exec st env) vars v₁ .next) (h2 : Ex prog w P A env nm μ (execs rest env) v₁ v₂ r) : Ex prog w P A env nm μ (execs (st :: rest) env) vars v₂ r := fun s Q E p o =>
  wpAny_execs_cons (h1 s _ E p fun f h' tk tp k rb fo rf => by
    cases rf
    exact h2 _ Q E (p.nextS tp k rb fo) (o.next k))
theorem ex_stop {st : Stmt} {rest : List Stmt} {v₁ : List (Str × T)} {r : Rf} (h1 : Ex prog w P A env nm μ (exec st env) vars v₁ r) (hr : r ≠ .next) : Ex prog w P A env nm μ (execs (st :: rest) env) vars v₁ r := fun s Q E p o =>
  wpAny_execs_cons (h1 s _ E p fun f h' tk tp k rb fo rf => by
    cases rf with
    | next => exact absurd rfl hr
    | brk => exact o _ h' tk tp k rb fo .brk
    | ret q => exact o _ h' tk tp k rb fo (.ret q))
theorem ex_if {test : Expr} {body orelse : List Stmt} {pos : Pos} {b : Bool} {v₁ : List (Str × T)} {r : Rf} (h : EvB prog w P A env ⟨nm, vars⟩ μ (isTrue test env (eval test env)) b)
    (h1 : b = true → Ex prog w P A env nm μ (execs body env) vars v₁ r) (h2 : b = false → Ex prog w P A env nm μ (execs orelse env) vars v₁ r) : Ex prog w P A env nm μ (exec (.If test body orelse pos) env) vars v₁ r := fun s Q E p o => by
  refine wpAny_If (h s _ E p fun h' tk tp e rb => ?_)
  cases b with
  | true => exact h1 rfl _ Q E (p.next tp e rb) (o.next e.weak)
  | false => exact h2 rfl _ Q E (p.next tp e rb) (o.next e.weak)
theorem ex_return {e : Expr} {pos : Pos} {t : T} (h : Ev prog w P A env ⟨nm, vars⟩ μ (eval e env) t) : Ex prog w P A env nm μ (exec (.Return (some e) pos) env) vars vars (.ret t) := fun s Q E p o =>
  wpAny_Return_some (h s _ E p fun v h' tk tp k rb rv => o _ h' tk tp k.weak rb (p.next tp k rb).fo (.ret rv))
theorem ex_break {pos : Pos} : Ex prog w P A env nm μ (exec (.Break pos) env) vars vars .brk := fun s Q E p o => by
  show wpAny _ _ (standAt pos >>= fun _ => pure Flow.brk) _ _ _
  exact wpAny_bind (wpAny_standAt (wpAny_pure (o _ s.heap s.toks p.ht (Keep.refl _ _) p.rb p.fo .brk)))
theorem ex_weak {t : Sem Flow} {v₁ v₂ : List (Str × T)} {r : Rf} (h : Ex prog w P A env nm μ t vars v₁ r) (hs : ∀ x y, v₂.lookup x = some y → v₁.lookup x = some y) : Ex prog w P A env nm μ t vars v₂ r := fun s Q E p o =>
  h s Q E p fun f h' tk tp k rb fo rf => o f h' tk tp k rb (fo.drop hs) rf
/-- an object that is no frame's turns -/
theorem FrmOk.off {fm : Fm} {h h' : Heap} {c : Addr} {oc : Obj} (f : FrmOk Z env fm h) (hs : Heap.ExtBut c h h') (g : h.get? c = some oc) (hn : ¬ FO oc) (hr : ∀ x v, RT Z h v x → RT Z h' v x) : FrmOk Z env fm h' := by
  refine ⟨f.kind, f.names, f.glob, f.blt, f.hi, ?_, ?_, f.inj⟩
  · obtain ⟨m, hn', hm⟩ := f.loc
    obtain ⟨oL, gL, fL⟩ := fo_ns hn'
    have hne : env.locals ≠ c := fun q => by rw [q, g] at gL; cases gL; exact hn fL
    obtain ⟨o, es, ep, e, r⟩ := hn'
    exact ⟨m, ⟨o, es, ep, hs _ _ hne e, r⟩, fun x y a b => let ⟨v, p, q⟩ := hm x y a b; ⟨v, p, hr _ _ q⟩⟩
  · intro x k
    obtain ⟨d, ov, a, ⟨o, e, r⟩, dd, q⟩ := f.cel x k
    have hne : d ≠ c := fun q => by rw [q, g] at e; cases e; exact hn (.inr ⟨_, r⟩)
    exact ⟨d, ov, a, ⟨o, hs _ _ hne e, r⟩, dd, fun y z => let ⟨v, p, q⟩ := q y z; ⟨v, p, hr _ _ q⟩⟩
theorem ex_for {x : Str} {px pos : Pos} {iter : Expr} {body orelse : List Stmt} {src : T} {items : List T} {v₂ : List (Str × T)} {r : Rf} {k : NameKind} (hA : A.handled = none) (hk : nm.lookup x = some k) (hk' : k = .local ∨ k = .cell)
    (hs : ∀ env x, foldedSetIterable iter env x = pure x) (hiter : Ev prog w P A env ⟨nm, vars⟩ μ (eval iter env) src) (hitems : iterV μ src = some items)
    (h : ForOk (fun a b r => Ex prog w P A env nm μ (execs body env) a b r) (fun a b r => Ex prog w P A env nm μ (execs orelse env) a b r) x items vars v₂ r) :
    Ex prog w P A env nm μ (exec (.For (.Name x px) iter body orelse pos) env) vars v₂ r := fun {Z} s Q E p o => by
  refine wpAny_For ?_ (fun v => hs env v)
  refine hiter s _ E p fun v h₁ tk₁ tp₁ e₁ rb₁ rv₁ => ?_
  have p₁ := p.next tp₁ e₁ rb₁
  refine iter_ok hitems rb₁ p₁.mo rv₁ fun h₂ e₂ rb₂ it₂ => ?_
  generalize hI : h₁.objs.size = I at it₂ ⊢
  have b100 : 100 ≤ I := by rw [← hI]; exact rb₁.big
  have kI : ∀ b ob, h₁.get? b = some ob → b ≠ I := fun b ob e q => by
    rw [q, ← hI] at e; exact Nat.lt_irrefl _ (Heap.lt_size e)
  refine codeAny_forLoop_any (fun n s' => ∃ h' tk rem v, s' = (up s h' tk) ∧ 0 < tk ∧ n = rem.length + 1 ∧ ForOk (fun a b r => Ex prog w P A env nm μ (execs body env) a b r) (fun a b r => Ex prog w P A env nm μ (execs orelse env) a b r) x rem v v₂ r ∧
    Keep (XE env) h₁ h' ∧ RB P h' ∧ IterAt Z h' I rem ∧ FrmOk Z env ⟨nm, v⟩ h') ?_ (items.length + 1) ⟨h₂, tk₁, items, vars, rfl, tp₁, rfl, h, e₂.weak, rb₂, it₂, p₁.fo.mono e₂ rb₁.tb⟩
  rintro n _ ⟨h', tk, rem, v, rfl, tp, rfl, hf, kp, rb, ia, fo⟩
  obtain ⟨oI, gI, so, _⟩ := ia.soft
  obtain ⟨clsI, nfI⟩ := iter_cls ia gI
  cases hf with
  | nil ho =>
    refine next_end hA ia fun h₄ ex sz => ?_
    have k4 : Keep (XE env) h₁ h₄ := ⟨Nat.le_trans kp.size sz, fun b ob e nt hx => ex b ob (kI b ob e) (kp.keep b ob e nt hx)⟩
    have rb4 : RB P h₄ := rb.ext ex sz gI so b100
    have fo4 := fo.off ex gI nfI fun x v => RT.off ex gI clsI x v
    have k14 : Keep (XE env) s.heap h₄ := e₁.weak.trans k4
    refine ho _ _ _ (p.nextS tp k14 rb4 fo4) fun f h₅ tk₅ tp₅ k₅ rb₅ fo₅ rf₅ => ?_
    exact o f h₅ tk₅ tp₅ (k14.trans k₅) rb₅ fo₅ rf₅
  | next hb hrest =>
    refine next_item ia rb tp b100 fun v h₄ tk₄ tp₄ sb₄ rb₄ rv₄ ia₄ => ?_
    have k4 : Keep (XE env) h₁ h₄ := kp.newer sb₄ (Nat.le_of_eq hI)
    have fo4 := fo.off sb₄.extBut gI nfI fun x v => RT.off sb₄.extBut gI clsI x v
    refine wpAny_pure (assign_Name (store_ok hk hk' rb₄ tp₄ fo4 rv₄ fun h₅ tk₅ tp₅ k₅ rb₅ fo₅ _ => ?_))
    have k15 : Keep (XE env) s.heap h₅ := e₁.weak.trans (k4.trans k₅)
    refine hb _ _ _ (p.nextS tp₅ k15 rb₅ fo₅) fun f h₆ tk₆ tp₆ k₆ rb₆ fo₆ rf₆ => ?_
    cases rf₆
    exact ⟨_, by simp, h₆, tk₆, _, _, rfl, tp₆, rfl, hrest, k4.trans (k₅.trans k₆), rb₆, (ia₄.mono k₅ rb₄.tb b100).mono k₆ rb₅.tb b100, fo₆⟩
  | brk hb =>
    refine next_item ia rb tp b100 fun v h₄ tk₄ tp₄ sb₄ rb₄ rv₄ ia₄ => ?_
    have k4 : Keep (XE env) h₁ h₄ := kp.newer sb₄ (Nat.le_of_eq hI)
    have fo4 := fo.off sb₄.extBut gI nfI fun x v => RT.off sb₄.extBut gI clsI x v
    refine wpAny_pure (assign_Name (store_ok hk hk' rb₄ tp₄ fo4 rv₄ fun h₅ tk₅ tp₅ k₅ rb₅ fo₅ _ => ?_))
    have k15 : Keep (XE env) s.heap h₅ := e₁.weak.trans (k4.trans k₅)
    refine hb _ _ _ (p.nextS tp₅ k15 rb₅ fo₅) fun f h₆ tk₆ tp₆ k₆ rb₆ fo₆ rf₆ => ?_
    cases rf₆
    exact o .next h₆ tk₆ tp₆ (k15.trans k₆) rb₆ fo₆ .next
  | ret hb =>
    refine next_item ia rb tp b100 fun v h₄ tk₄ tp₄ sb₄ rb₄ rv₄ ia₄ => ?_
    have k4 : Keep (XE env) h₁ h₄ := kp.newer sb₄ (Nat.le_of_eq hI)
    have fo4 := fo.off sb₄.extBut gI nfI fun x v => RT.off sb₄.extBut gI clsI x v
    refine wpAny_pure (assign_Name (store_ok hk hk' rb₄ tp₄ fo4 rv₄ fun h₅ tk₅ tp₅ k₅ rb₅ fo₅ _ => ?_))
    have k15 : Keep (XE env) s.heap h₅ := e₁.weak.trans (k4.trans k₅)
    refine hb _ _ _ (p.nextS tp₅ k15 rb₅ fo₅) fun f h₆ tk₆ tp₆ k₆ rb₆ fo₆ rf₆ => ?_
    cases rf₆ with
    | ret q => exact o _ h₆ tk₆ tp₆ (k15.trans k₆) rb₆ fo₆ (.ret q)
end
end Mine
end
section
namespace Mine
open PySem PyProof.Rows
theorem bindL_ne {k : Str → Option NameKind} {x : Str} : ∀ {binds : List (Str × Value)} {m : Str → Option Value}, x ∉ binds.map (·.1) → bindL k binds m x = m x
  | [], m, _ => rfl
  | (n, v) :: r, m, h => by
    unfold bindL
    rw [bindL_ne (by intro q; exact h (List.mem_cons_of_mem _ q))]
    split
    · exact if_neg (fun q => h (by rw [q]; exact List.mem_cons_self ..))
    · rfl
theorem bindC_ne {k : Str → Option NameKind} {x : Str} : ∀ {binds : List (Str × Value)} {m : Str → Option Value}, x ∉ binds.map (·.1) → bindC k binds m x = m x
  | [], m, _ => rfl
  | (n, v) :: r, m, h => by
    unfold bindC
    rw [bindC_ne (by intro q; exact h (List.mem_cons_of_mem _ q))]
    split
    · rfl
    · exact if_neg (fun q => h (by rw [q]; exact List.mem_cons_self ..))
theorem bind_lookup {k : Str → Option NameKind} {h : Heap} {Z : Addr → Prop} {x : Str} {t : T} : ∀ {ps : List Str} {vs : List Value} {ts : List T} {m cm : Str → Option Value}, ps.Nodup → Paired (RT Z h) vs ts → ps.length = ts.length → (ps.zip ts).lookup x = some t →
    (k x = some .local → ∃ v, bindL k (ps.zip vs) m x = some v ∧ RT Z h v t) ∧ (k x ≠ some .local → ∃ v, bindC k (ps.zip vs) cm x = some v ∧ RT Z h v t)
  | [], _, _, _, _, _, _, _, e => by simp at e
  | p :: ps, _, _, _, _, _, .nil, hl, _ => by simp at hl
  | p :: ps, _, _, m, cm, hn, .cons (a := v) (b := u) (l₁ := vs) (l₂ := ts) hv hr, hl, e => by
    rw [List.zip_cons_cons] at e
    have hn' := List.nodup_cons.mp hn
    have hnz : ∀ y, y = p → y ∉ (ps.zip vs).map (·.1) := fun y hy q => by
      subst hy
      obtain ⟨⟨a, b⟩, hm, rfl⟩ := List.mem_map.mp q
      exact hn'.1 (List.of_mem_zip hm).1
    by_cases hx : x = p
    · subst hx
      rw [lookup_cons_self] at e
      cases e
      rw [List.zip_cons_cons]
      unfold bindL bindC
      refine ⟨fun hk => ⟨v, ?_, hv⟩, fun hk => ⟨v, ?_, hv⟩⟩
      · rw [bindL_ne (hnz _ rfl), if_pos hk]; simp
      · rw [bindC_ne (hnz _ rfl), if_neg hk]; simp
    · rw [lookup_cons_ne hx] at e
      rw [List.zip_cons_cons]
      unfold bindL bindC
      exact bind_lookup hn'.2 hr (by simpa using hl) e
theorem cells_some {x : Str} : ∀ {names : List (Str × NameKind)} {n : Nat} {acc : List (Str × Addr)}, ((x, NameKind.cell) ∈ names ∨ (acc.lookup x).isSome = true) → ((cellsFrom n names acc).lookup x).isSome = true
  | [], _, _, h => h.elim (fun q => nomatch q) id
  | (y, k) :: r, n, acc, h => by
    unfold cellsFrom
    split
    · refine cells_some ?_
      rcases h with h | h
      · cases h with
        | head => right; simp
        | tail _ h => exact .inl h
      · right
        by_cases hx : x = y
        · subst hx; simp
        · rw [lookup_cons_ne hx]; exact h
    · rename_i hk
      refine cells_some ?_
      rcases h with h | h
      · cases h with
        | head => exact absurd rfl hk
        | tail _ h => exact .inl h
      · exact .inr h
/-- what is known of a function object -/
structure FnAt (P : Pm) (a : Addr) (fd : FuncData) (params : List Str) (body : List Stmt) (nm : List (Str × NameKind)) : Prop where
  lt : a < 100
  nt : NT a
  obj : ∃ o, P.H0.get? a = some o ∧ o.data = .func fd
  clo : fd.closure = []
  body : fd.body = .stmts body
  names : fd.scope.names = nm
  glob : fd.globals = mainGlobals
  blt : fd.builtins = builtinsNs
  co : fd.scope.isCoroutine = false
  gen : fd.scope.isGenerator = false
  kind : fd.scope.kind = .function
  code : ∃ c o vs t, fd.code = .ref c ∧ c < 100 ∧ NT c ∧ P.H0.get? c = some o ∧ o.data = .fields vs ∧ vs[1]? = some (.str fd.qualname t)
  bind : ∀ vals : List Value, vals.length = params.length → bindArgs fd ⟨vals, []⟩ = pure (params.zip vals)
  nodup : params.Nodup
  par : ∀ x ∈ params, nm.lookup x = some .local ∨ nm.lookup x = some .cell
  free : ∀ x, nm.lookup x ≠ some .free
section
variable {prog : Program} {w : World} {P : Pm} {A : Around} {μ : Mu}
/-- into a function, with what it raises -/
theorem call_in {nm : List (Str × NameKind)} {Z : Addr → Prop} {a : Addr} {fd : FuncData} {params : List Str} {body : List Stmt} (F : FnAt P a fd params body nm) {Ts : List T} (hroom : A.depth < recursionLimit) (hlen : params.length = Ts.length) {s : Shared} {xs : List Value} {Q : Value → Shared → Prop} {E : Value → Shared → Prop}
    (rb : RB P s.heap) (ht : 0 < s.toks) (mo : MuOk Z μ s.heap) (hz : Hz Z s.heap) (px : Paired (RT Z s.heap) xs Ts)
    (o : ∀ env h₁ tk₁, env.locals = s.heap.objs.size → env.frame = some env.locals → (∀ b, b ∈ XE env → s.heap.objs.size ≤ b) → s.heap.objs.size ≤ h₁.objs.size → (∀ b ob, s.heap.get? b = some ob → h₁.get? b = some ob) → Pre P Z env ⟨nm, params.zip Ts⟩ μ (up s h₁ tk₁) →
      wpAny (model prog w) (A.deeper env) (execs body env) (fun f s' => Q (match f with | .ret v => v | _ => .none) s') (fun e s' => wpAny (model prog w) (A.deeper env) (leaving env e) (fun _ s'' => E e s'') (fun e' s'' => E e' s'') s') (up s h₁ tk₁)) :
    wpAny (model prog w) A (call (.ref a) xs) Q E s := by
  obtain ⟨ob, go, hd⟩ := F.obj
  obtain ⟨c, oc, vs, tq, hc, lc, nc, gc, dc, hq⟩ := F.code
  have hxs : xs.length = params.length := by rw [paired_len px, hlen]
  refine wpAny_call (codeAny_call_function hroom (rb.base a ob F.lt F.nt go) hd F.co F.gen F.body ⟨c, oc, vs, tq, hc, rb.base c oc lc nc gc, dc, hq⟩ ?_)
  rw [F.bind xs hxs, F.clo]
  refine wpAny_pure (wpAny_with_toks (Nat.le_refl s.toks) (wpAny_newFunctionEnv_cells F.kind (fun x hx => ?_) fun env he s' x => ?_))
  · have hx1 : x.1 ∈ params := by
      obtain ⟨y, z⟩ := x
      exact (List.of_mem_zip hx).1
    rw [F.names]
    rcases F.par _ hx1 with q | q
    · exact .inl q
    · exact .inr ⟨q, cells_some (.inl (lookup_mem q))⟩
  intro htk
  have hkind : env.kindOf = fun x => nm.lookup x := by
    subst he
    funext y
    show fd.scope.names.lookup y = nm.lookup y
    rw [F.names]
  obtain ⟨h₁, tk₁, rfl⟩ := x.toInCall.same
  have keep := x.toInCall.keep
  have hL : env.locals = s.heap.objs.size := by subst he; rfl
  have sz : s.heap.objs.size ≤ h₁.objs.size := by
    have := x.toInCall.ns.lt
    rw [hL] at this; exact Nat.le_of_lt this
  have k1 : Keep [] s.heap h₁ := .all sz keep
  have rb₁ : RB P h₁ := rb.keeps sz keep
  have px₁ := paired_mono (fun a b r => RT.mono k1 rb.tb b a r) px
  have fo : FrmOk Z env ⟨nm, params.zip Ts⟩ h₁ := by
    refine ⟨by subst he; exact F.kind, by subst he; exact F.names, by subst he; exact F.glob, by subst he; exact F.blt, by rw [hL]; exact rb.big, ⟨_, x.toInCall.ns, fun y t hy hl => ?_⟩, fun y hy => ?_, fun y z c hy hz => ?_⟩
    · exact (bind_lookup (k := env.kindOf) (m := fun _ => none) (cm := fun _ => none) F.nodup px₁ hlen hy).1 (by rw [hkind]; exact hl)
    · have hcell : nm.lookup y = some .cell := hy.elim id fun q => absurd q (F.free y)
      have hc1 : (env.cells.lookup y).isSome = true := by
        subst he
        show ((cellsFrom (s.heap.objs.size + 1) fd.scope.names []).lookup y).isSome = true
        rw [F.names]
        exact cells_some (.inl (lookup_mem hcell))
      obtain ⟨c, hc⟩ := Option.isSome_iff_exists.mp hc1
      refine ⟨c, _, hc, x.cell y c hc, ?_, fun t ht' => ?_⟩
      · have := x.above y c (mem_of_lookup hc)
        rw [hL] at this
        exact Nat.le_trans rb.big (Nat.le_of_lt this)
      · exact (bind_lookup (k := env.kindOf) (m := fun _ => none) (cm := fun _ => none) F.nodup px₁ hlen ht').2 (by rw [hkind]; simp [hcell])
    · exact name_of_addr x.apart (mem_of_lookup hy) (mem_of_lookup hz)
  have hX : ∀ b, b ∈ XE env → s.heap.objs.size ≤ b := fun b hb => by
    rcases List.mem_cons.mp hb with q | q
    · rw [q, hL]; exact Nat.le_refl _
    · obtain ⟨⟨n, c⟩, hm, rfl⟩ := List.mem_map.mp q
      have := x.above n c hm
      rw [hL] at this
      exact Nat.le_of_lt this
  refine ⟨rb₁.nolimit, codeAny_func ?_⟩
  exact o env h₁ tk₁ hL (by subst he; rfl) hX sz keep ⟨rb₁, Nat.lt_of_lt_of_le ht htk, hz.mono sz, mo.mono k1 rb.tb, fo⟩
theorem call_ok {a : Addr} {fd : FuncData} {params : List Str} {body : List Stmt} {nm : List (Str × NameKind)} (F : FnAt P a fd params body nm) {Ts : List T} {vars' : List (Str × T)} {r : T} (hroom : A.depth < recursionLimit) (hlen : params.length = Ts.length)
    (hb : ∀ env, Ex prog w P (A.deeper env) env nm μ (execs body env) (params.zip Ts) vars' (.ret r)) : OpL prog w P A μ (fun vs => call (.ref a) vs) Ts r := fun {Z} s xs Q E rb ht mo hz px o => by
  refine call_in F hroom hlen rb ht mo hz px fun env h₁ tk₁ _ _ hX sz keep p => hb env _ _ _ p fun f h' tk tp k rb' _ rf => ?_
  cases rf with
  | ret q =>
    refine o _ h' tk tp ⟨Nat.le_trans sz k.size, fun b ob e nt _ => k.keep b ob (keep b ob e) nt fun hm => ?_⟩ rb' q
    exact absurd (Heap.lt_size e) (Nat.not_lt.mpr (hX b hm))
end
end Mine
end
section
namespace Mine
open PySem PyProof.Rows
section
variable {prog : Program} {w : World} {P : Pm} {A : Around} {env : Env} {fm : Fm} {μ : Mu}
theorem paired_sc {Z : Addr → Prop} {h : Heap} {vs : List Value} {l : List Sc} (p : Paired RS vs l) : Paired (RT Z h) vs (l.map .sc) := by
  induction p with
  | nil => exact .nil
  | cons a _ ih => exact .cons (.sc a) ih
theorem paired_of {α β : Type} {F : α → β → Prop} {l₁ : List α} : ∀ {l₂ : List β}, l₁.length = l₂.length → (∀ (i : Nat) a b, l₁[i]? = some a → l₂[i]? = some b → F a b) → Paired F l₁ l₂ := by
  induction l₁ with
  | nil => intro l₂ hl h; cases List.eq_nil_of_length_eq_zero hl.symm; exact .nil
  | cons a l ih =>
    intro l₂ hl h
    cases l₂ with
    | nil => exact absurd hl (Nat.succ_ne_zero _)
    | cons b r => exact .cons (h 0 a b rfl rfl) (ih (Nat.succ.inj hl) fun i x y e f => h (i + 1) x y e f)
theorem rangeT_get : ∀ (n : Nat) (x : Int) (i : Nat) (b : T), (rangeT x n)[i]? = some b → b = .sc (.int (x + i))
  | 0, _, _, _, e => by simp [rangeT] at e
  | n + 1, x, 0, b, e => by simp [rangeT] at e; simp [e]
  | n + 1, x, i + 1, b, e => by
    simp only [rangeT, List.getElem?_cons_succ] at e
    have := rangeT_get n (x + 1) i b e
    rw [this]
    congr 2
    push_cast
    omega
theorem preSum_congr {f g : Nat → Int} : ∀ (n : Nat), (∀ j, j < n → f j = g j) → preSum f n = preSum g n
  | 0, _ => rfl
  | n + 1, h => by rw [preSum, preSum, preSum_congr n fun j hj => h j (by omega), h n (by omega)]
theorem preSum_shift (f : Nat → Int) : ∀ n, preSum f (n + 1) = f 0 + preSum (fun j => f (j + 1)) n
  | 0 => by simp [preSum]
  | n + 1 => by rw [preSum, preSum_shift f n, preSum]; omega
noncomputable def sumI : List Int → Int
  | [] => 0
  | a :: r => a + sumI r
theorem preSum_list : ∀ (l : List Int), preSum (fun j => l.getD j 0) l.length = sumI l
  | [] => rfl
  | a :: l => by
    rw [List.length_cons, preSum_shift]
    show a + preSum (fun j => l.getD j 0) l.length = a + sumI l
    rw [preSum_list l]
noncomputable def plainAll : List Expr → Bool
  | [] => true
  | e :: r => noStar e && plainAll r
theorem plainAll_any {pos : Pos} : ∀ {l : List Expr}, plainAll l = true → (backTo pos (starEach l env)).any (·.1) = false
  | [], _ => rfl
  | e :: r, h => by
    have h := Bool.and_eq_true_iff.mp h
    rw [star_cons h.1, back_cons]
    show (false || _) = false
    rw [Bool.false_or]
    exact plainAll_any h.2
theorem call_arm {x : Str} {p pos : Pos} {args : List Expr} {Q : Value → Shared → Prop} {E : Value → Shared → Prop} {s : Shared}
    (h : wpAny (model prog w) A (eval (.Name x p) env) (fun f s₁ => wpAny (model prog w) A (callWith pos f [] (backTo pos (starEach args env)) []) Q E s₁) E s) : wpAny (model prog w) A (eval (.Call (.Name x p) args [] pos) env) Q E s := PyProof.Rows.Call_ h
/-- a function of the module -/
theorem ev_call_fn {x : Str} {p pos : Pos} {e : Expr} {rest : List Expr} {a : Addr} {o : Obj} {fd : FuncData} {Ts : List T} {r : T} (hx : fm.names.lookup x = some .globalImplicit) (hd : (x == ("__debug__" : Str)) = false)
    (hg : P.mg x = some (.ref a)) (hl : a < 100) (hn : NT a) (ho : P.H0.get? a = some o) (hf : o.data = .func fd) (hs : noStar e = true)
    (h : EvL prog w P A env fm μ (spliced (backTo pos (starEach (e :: rest) env))) Ts) (hc : OpL prog w P A μ (fun vs => call (.ref a) vs) Ts r) :
    Ev prog w P A env fm μ (eval (.Call (.Name x p) (e :: rest) [] pos) env) r := fun s Q E pp ot => by
  have ek : env.kindOf x = some .globalImplicit := by unfold Env.kindOf; rw [pp.fo.names]; exact hx
  refine call_arm (Calls.Name_function_global pp.fo.kind ek (Calls.loadGlobal_global (mg := P.mg) (by rw [pp.fo.glob]; exact pp.rb.glob) hg ?_) hd)
  refine PyProof.Rows.callWith_def hf (h s _ E pp fun vs h' tk tp k rb pv => ⟨rb.base a o hl hn ho, ?_⟩) (star_cons hs env)
  exact hc _ vs Q E rb tp (pp.next tp k rb).mo (pp.next tp k rb).hz pv (ot.next k)
/-- f(*tuple) -/
theorem ev_call_star {x : Str} {p pos ps : Pos} {e : Expr} {a : Addr} {o : Obj} {fd : FuncData} {l : List Sc} {r : T} (hx : fm.names.lookup x = some .globalImplicit) (hd : (x == ("__debug__" : Str)) = false)
    (hg : P.mg x = some (.ref a)) (hl : a < 100) (hn : NT a) (ho : P.H0.get? a = some o) (hf : o.data = .func fd) (hlen : l.length ≤ 4096)
    (h : Ev prog w P A env fm μ (eval e env) (.tup l)) (hc : OpL prog w P A μ (fun vs => call (.ref a) vs) (l.map .sc) r) :
    Ev prog w P A env fm μ (eval (.Call (.Name x p) [.Starred e ps] [] pos) env) r := fun s Q E pp ot => by
  have ek : env.kindOf x = some .globalImplicit := by unfold Env.kindOf; rw [pp.fo.names]; exact hx
  refine call_arm (Calls.Name_function_global pp.fo.kind ek (Calls.loadGlobal_global (mg := P.mg) (by rw [pp.fo.glob]; exact pp.rb.glob) hg ?_) hd)
  have he : starEach [.Starred e ps] env = [(true, eval e env)] := rfl
  rw [he]
  refine PySem.W.ks_call (P := PySem.W.FnAt a) rfl PySem.W.keeps_F (PySem.W.ks_lone (h s _ E pp fun v h' tk tp k rb rv => ?_))
  cases rv with | tup t pr =>
    rename_i ad vs
    obtain ⟨ob, go, hcl, n, hdt⟩ := t
    unfold PySem.W.StarOf notIterableAtAll
    refine wpAny_bind (wpAny_specialOf (T := "tuple") ⟨ob, go, hcl⟩ PySem.F.slot_tuple_iter.lookup (wpAny_pure ⟨rfl, with_size (Nat.le_refl _) ?_⟩))
    have hz' := paired_len pr
    refine wpAny_collect_seq ad (.inr rfl) go hcl hdt (fun h₂ hk sz => ?_) (by rw [List.size_toArray, sizeLine_eq]; omega)
    have k2 : Keep [] h' h₂ := .all sz hk
    have rb₂ := rb.keeps sz hk
    obtain ⟨oc, od, dat, sl⟩ := o
    simp only at hf
    subst hf
    refine ⟨⟨oc, od, fd, sl, rb₂.base a _ hl hn ho⟩, ?_⟩
    refine hc _ _ Q E rb₂ tp (((pp.next tp k rb).next tp k2 rb₂).mo) (((pp.next tp k rb).next tp k2 rb₂).hz) ?_ ((ot.next (t₁ := tk) k).next k2)
    exact paired_sc pr
theorem ev_call_bt {x : Str} {id : String} {p pos : Pos} {e : Expr} {rest : List Expr} {Ts : List T} {r : T} (hx : fm.names.lookup x = some .globalImplicit) (hd : (x == ("__debug__" : Str)) = false)
    (hg : P.mg x = none) (hb : P.mb x = some (.builtin id)) (hs : noStar e = true) (hs2 : plainAll rest = true)
    (h : EvL prog w P A env fm μ (spliced (backTo pos (starEach (e :: rest) env))) Ts) (hc : OpL prog w P A μ (fun vs => call (.builtin id) vs) Ts r) :
    Ev prog w P A env fm μ (eval (.Call (.Name x p) (e :: rest) [] pos) env) r := fun s Q E pp ot => by
  have ek : env.kindOf x = some .globalImplicit := by unfold Env.kindOf; rw [pp.fo.names]; exact hx
  refine call_arm (Calls.Name_function_global pp.fo.kind ek (Calls.loadGlobal_builtin (mg := P.mg) (mb := P.mb) (by rw [pp.fo.glob]; exact pp.rb.glob) hg (by rw [pp.fo.blt]; exact pp.rb.blt) hb ?_) hd)
  refine PyProof.Rows.callWith_builtin1 (h s _ E pp fun vs h' tk tp k rb pv => ?_) (star_cons hs env) (plainAll_any hs2)
  exact hc _ vs Q E rb tp (pp.next tp k rb).mo (pp.next tp k rb).hz pv (ot.next k)
theorem ev_call_ty {x : Str} {id : String} {p pos : Pos} {e : Expr} {rest : List Expr} {Ts : List T} {r : T} (hx : fm.names.lookup x = some .globalImplicit) (hd : (x == ("__debug__" : Str)) = false)
    (hg : P.mg x = none) (hb : P.mb x = some (.type id)) (hs : noStar e = true) (hs2 : plainAll rest = true)
    (h : EvL prog w P A env fm μ (spliced (backTo pos (starEach (e :: rest) env))) Ts) (hc : OpL prog w P A μ (fun vs => call (.type id) vs) Ts r) :
    Ev prog w P A env fm μ (eval (.Call (.Name x p) (e :: rest) [] pos) env) r := fun s Q E pp ot => by
  have ek : env.kindOf x = some .globalImplicit := by unfold Env.kindOf; rw [pp.fo.names]; exact hx
  refine call_arm (Calls.Name_function_global pp.fo.kind ek (Calls.loadGlobal_builtin (mg := P.mg) (mb := P.mb) (by rw [pp.fo.glob]; exact pp.rb.glob) hg (by rw [pp.fo.blt]; exact pp.rb.blt) hb ?_) hd)
  refine PyProof.Rows.callWith_type1 (h s _ E pp fun vs h' tk tp k rb pv => ?_) (star_cons hs env) (plainAll_any hs2)
  exact hc _ vs Q E rb tp (pp.next tp k rb).mo (pp.next tp k rb).hz pv (ot.next k)
theorem op_range {n : Nat} : OpL prog w P A μ (fun vs => call (.type "range") vs) [.sc (.int n)] (.rng n) := fun s xs Q E rb ht mo hz px o => by
  obtain ⟨v, rfl, a⟩ := paired_one px
  obtain ⟨t, rfl⟩ := rs_int (rt_sc a)
  · refine call_range_1 ?_
    exact o.push rb ht (.rng (Heap.get?_push_size _ rfl)) _ (Nat.succ_pos _)
theorem op_len {x : T} {l : List T} (hl : its μ x = some l) : OpL prog w P A μ (fun vs => call (.builtin "len") vs) [x] (.sc (.int l.length)) := fun s xs Q E rb ht mo hz px o => by
  obtain ⟨v, rfl, a⟩ := paired_one px
  obtain ⟨ad, vs, rfl, p, q, z, y⟩ := its_ok hl mo a
  refine PyProof.Rows.len_list p.isList (by rw [List.size_toArray]; omega) ?_
  rw [List.size_toArray, z]
  exact o.here rb (.sc (.int _ _)) _ (Nat.succ_pos _)
theorem op_int {f : UInt64} {sg : Bool} {m : Nat} {e : Int} (hd : Float64.decode f = .fin sg m e) : OpL prog w P A μ (fun vs => call (.type "int") vs) [.sc (.flt f)] (.sc (.int (Float64.truncOf sg m e))) := fun s xs Q E rb ht mo hz px o => by
  obtain ⟨v, rfl, a⟩ := paired_one px
  obtain ⟨t, rfl⟩ := rs_flt (rt_sc a)
  exact call_int_float hd (o.here rb (.sc (.int _ _)) _ (Nat.succ_pos _))
theorem op_list {x : T} {l : List T} (hl : its μ x = some l) : OpL prog w P A μ (fun vs => call (.type "list") vs) [x] (.lst l) := fun s xs Q E rb ht mo hz px o => by
  obtain ⟨v, rfl, a⟩ := paired_one px
  obtain ⟨ad, vs, rfl, ⟨n, p⟩, q, z, y⟩ := its_ok hl mo a
  refine with_size (Nat.le_refl _) (call_list_seq ad (.inl rfl) p rfl rfl (fun h' c' hk hD sz => ?_) (by rw [List.size_toArray, sizeLine_eq]; omega))
  have k : Keep [] s.heap h' := .all sz hk
  exact o _ h' s.toks ht k (rb.keeps sz hk) (.lst hz.new ⟨c', hD⟩ (paired_mono (fun a b r => RT.mono k rb.tb b a r) q) y)
theorem op_list_range (hA : A.handled = none) {n : Nat} (hn : n ≤ 4096) : OpL prog w P A μ (fun vs => call (.type "list") vs) [.rng n] (.lst (rangeT 0 n)) := fun s xs Q E rb ht mo hz px o => by
  obtain ⟨v, rfl, a⟩ := paired_one px
  obtain ⟨ra, t, u, x, rfl, r⟩ := rt_rng a
  have hsmall : Builtin.Range.small 0 n 1 = true := by
    unfold Builtin.Range.small Builtin.Range.rangeSize Builtin.Range.rangeFitsLong
    simp
    split <;> omega
  have hsz : Builtin.Range.rangeSize 0 n 1 = n := by
    unfold Builtin.Range.rangeSize
    simp
    omega
  refine wpAny_with_toks (Nat.le_refl _) (with_size (Nat.le_refl _) (call_list_range hA r hsmall hsz (by omega) (fun h' tk acc c' hk hD hit sz tl => ?_)))
  have k : Keep [] s.heap h' := .all sz hk
  refine o _ h' tk (Nat.lt_of_lt_of_le ht tl) k (rb.keeps sz hk) (.lst hz.new ⟨c', by simpa using hD⟩ (paired_of ?_ fun i a b ha hb => ?_) (by rw [rangeT_len]; exact hn))
  · rw [Array.length_toList, hit.1, rangeT_len]
  · obtain ⟨t, rfl⟩ := hit.2 i a (by simpa using ha)
    rw [rangeT_get _ _ _ _ hb]
    have e1 : (0 : Int) + i * 1 = 0 + i := by omega
    rw [e1]
    exact .sc (.int _ _)
theorem op_sum (hA : A.handled = none) {x : T} {l : List T} {q : List Int} (hl : its μ x = some l) (hq : intsOf l = some q) : OpL prog w P A μ (fun vs => call (.builtin "sum") vs) [x] (.sc (.int (sumI q))) := fun s xs Q E rb ht mo hz px o => by
  obtain ⟨v, rfl, a⟩ := paired_one px
  obtain ⟨ad, vs, rfl, p, pr, z, y⟩ := its_ok hl mo a
  have pi := intsOf_ok pr hq
  have hlt : ad < s.heap.objs.size := by obtain ⟨n, e⟩ := p; exact Heap.lt_size e
  refine wpAny_with_toks (Nat.le_refl _) (with_size (Nat.le_refl _) (call_sum_walkG (wpAny_pyIter_list p.isList ?_)))
  refine ⟨s.heap.objs.size, [s.heap.objs.size, ad], [s.heap.objs.size], vs.length, _, _, fun j => q.getD j 0, rfl, Walks.list (A := A.in1) hA s.heap.objs.size ad (Nat.ne_of_lt hlt) vs.toArray, ⟨⟨_, Heap.get?_push_size _ rfl, rfl, rfl⟩, (p.isList).push _⟩, fun b hb => ?_, fun i v hv => ?_, fun h' tk t' hk sz tl => ?_⟩
  · show b < (s.heap.push _).objs.size
    rw [Heap.size_push]
    rcases List.mem_cons.mp hb with rfl | hb
    · exact Nat.lt_succ_self _
    · rcases List.mem_cons.mp hb with rfl | hb
      · exact Nat.lt_succ_of_lt hlt
      · cases hb
  · have hv : vs[i]? = some v := by simpa using hv
    have hi := (List.getElem?_eq_some_iff.mp hv).1
    have hi2 : i < q.length := by rw [← paired_len pi]; exact hi
    obtain ⟨v', h1, h2⟩ := paired_get pi (List.getElem?_eq_getElem hi2)
    rw [hv] at h1; cases h1
    have e1 : q.getD i 0 = q[i] := by simp [List.getD_eq_getElem?_getD, List.getElem?_eq_getElem hi2]
    show ∃ t, v = Value.int (q.getD i 0) t
    rw [e1]
    generalize q[i] = qi at h2
    cases h2
    exact ⟨_, rfl⟩
  · have e1 : preSum (fun j => q.getD j 0) vs.length = sumI q := by rw [paired_len pi]; exact preSum_list q
    rw [e1]
    have hk' : ∀ b ob, s.heap.get? b = some ob → h'.get? b = some ob := fun b ob e => hk b ob (fun hm => by
      rcases List.mem_cons.mp hm with q | q
      · rw [q] at e; exact Nat.lt_irrefl _ (Heap.lt_size e)
      · cases q) (Heap.get?_push_of_some _ e)
    exact o _ h' tk (Nat.lt_of_lt_of_le ht tl) (.all sz hk') (rb.keeps sz hk') (.sc (.int _ _))
/-! max and min of three floats -/
theorem args_max3 (a b c : Value) : argsOk "max" ⟨[a, b, c], []⟩ := by unfold argsOk; kernel_rfl
theorem args_min3 (a b c : Value) : argsOk "min" ⟨[a, b, c], []⟩ := by unfold argsOk; kernel_rfl
noncomputable def maxF (a b c : UInt64) : UInt64 := let m := if Float64.cmp a b == some .lt then b else a; if Float64.cmp m c == some .lt then c else m
noncomputable def minF (a b c : UInt64) : UInt64 := let m := if Float64.cmp b a == some .lt then b else a; if Float64.cmp c m == some .lt then c else m
theorem three_flt {Z : Addr → Prop} {h : Heap} {xs : List Value} {a b c : UInt64} (p : Paired (RT Z h) xs [.sc (.flt a), .sc (.flt b), .sc (.flt c)]) : ∃ t1 t2 t3, xs = [.float a t1, .float b t2, .float c t3] ∧ 0 < t1 ∧ 0 < t2 ∧ 0 < t3 := by
  obtain ⟨v1, _, rfl, p1, p⟩ := paired_cons_inv p
  obtain ⟨v2, _, rfl, p2, p⟩ := paired_cons_inv p
  obtain ⟨v3, rfl, p3⟩ := paired_one p
  obtain ⟨t1, rfl, h1⟩ := rs_flt' (rt_sc p1)
  obtain ⟨t2, rfl, h2⟩ := rs_flt' (rt_sc p2)
  obtain ⟨t3, rfl, h3⟩ := rs_flt' (rt_sc p3)
  exact ⟨t1, t2, t3, rfl, h1, h2, h3⟩
theorem op_max3 (hA : A.handled = none) {a b c : UInt64} : OpL prog w P A μ (fun vs => call (.builtin "max") vs) [.sc (.flt a), .sc (.flt b), .sc (.flt c)] (.sc (.flt (maxF a b c))) := fun s xs Q E rb ht mo hz px o => by
  obtain ⟨t1, t2, t3, rfl, h1, h2, h3⟩ := three_flt px
  have hname : (toString "max" ++ toString ".loop" : String) = "max.loop" := by decide
  refine wpAny_with_toks (Nat.le_refl _) (with_size (Nat.le_refl _) (call_function_tree F.kind_max F.plain_max F.entry_max (args_max3 _ _ _) ?_))
  show wpAny _ A.in1 (Builtin.Builtins.bindParams "max" ["key", "default"] 0 ⟨[], []⟩ >>= _) _ _ s
  refine wpAny_bind (wpAny_of_eq (show Builtin.Builtins.bindParams "max" ["key", "default"] 0 ⟨[], []⟩ = pure [none, none] from rfl) ?_)
  show wpAny _ A.in1 (newTuple [Value.float a t1, Value.float b t2, Value.float c t3] >>= _) _ _ s
  refine wpAny_bind (wpAny_newObj_type ?_)
  have hT : (s.heap.push { cls := .type "tuple", data := .seq #[Value.float a t1, Value.float b t2, Value.float c t3] }).IsTuple s.heap.objs.size #[Value.float a t1, Value.float b t2, Value.float c t3] := ⟨_, Heap.get?_push_size _ rfl, rfl, 0, rfl⟩
  refine wpAny_bind (wpAny_pyIter_tuple hT ?_)
  refine wpAny_bind (wpAny_newObj_type ?_)
  have hsz : (s.heap.push { cls := .type "tuple", data := .seq #[Value.float a t1, Value.float b t2, Value.float c t3] }).objs.size = s.heap.objs.size + 1 := Heap.size_push ..
  rw [hname]
  have W := Walks.tuple (prog := prog) (w := w) (A := A.in1.in1) hA (s.heap.objs.size + 1) s.heap.objs.size (Nat.ne_of_lt (Nat.lt_succ_self _)) #[Value.float a t1, Value.float b t2, Value.float c t3]
  have W := Walks.tuple (prog := prog) (w := w) (A := A.in1) hA (s.heap.objs.size + 1) s.heap.objs.size (Nat.ne_of_lt (Nat.lt_succ_self _)) #[Value.float a t1, Value.float b t2, Value.float c t3]
  dsimp only
  rw [hsz]
  have hS : ((s.heap.push { cls := .type "tuple", data := .seq #[Value.float a t1, Value.float b t2, Value.float c t3] }).push { cls := .type "tuple_iterator", data := .fields #[.ref s.heap.objs.size, .int 0 0] }).objs.size = s.heap.objs.size + 2 := by rw [Heap.size_push, hsz]
  refine wpAny_pure ⟨plainId_quiet F.plain_max_loop _, codeAny_max_loop_first W _ (PySem.Flt.cmpOf_gt #[Value.float a t1, Value.float b t2, Value.float c t3] (by simp [PySem.Flt.NumV.float])) _ (by rw [hS]; simp) (by simp)
    ⟨⟨_, Heap.get?_push_of_some _ (by rw [← hsz]; exact Heap.get?_push_size _ rfl), rfl, rfl⟩, (hT.push _).push _⟩ (Heap.get?_push_size _ rfl) fun v h' tk hP hk => ?_⟩
  intro sz tl
  have hk' : ∀ b ob, s.heap.get? b = some ob → h'.get? b = some ob := fun b ob e => by
    have lt := Heap.lt_size e
    refine hk b ob (fun hm => ?_) (fun q => ?_) (Heap.get?_push_of_some _ (Heap.get?_push_of_some _ (Heap.get?_push_of_some _ e)))
    · rcases List.mem_cons.mp hm with q | q
      · rw [q] at lt; exact absurd lt (by simp)
      · cases q
    · rw [q, hS] at lt; exact absurd lt (by simp)
  refine o v h' tk (Nat.lt_of_lt_of_le ht tl) (.all sz hk') (rb.keeps sz hk') ?_
  unfold maxF
  cases c1 : Float64.cmp a b == some .lt with
  | true =>
    cases c2 : Float64.cmp b c == some .lt <;> simp [argBest, PySem.Flt.ltV, c1, c2] at hP <;> simp only [if_true, c2] <;> rw [← hP] <;> exact .sc (.flt _ _ (by assumption))
  | false =>
    cases c2 : Float64.cmp a c == some .lt <;> simp [argBest, PySem.Flt.ltV, c1, c2] at hP <;> simp only [Bool.false_eq_true, if_false, c2] <;> rw [← hP] <;> exact .sc (.flt _ _ (by assumption))
theorem op_min3 (hA : A.handled = none) {a b c : UInt64} : OpL prog w P A μ (fun vs => call (.builtin "min") vs) [.sc (.flt a), .sc (.flt b), .sc (.flt c)] (.sc (.flt (minF a b c))) := fun s xs Q E rb ht mo hz px o => by
  obtain ⟨t1, t2, t3, rfl, h1, h2, h3⟩ := three_flt px
  have hname : (toString "min" ++ toString ".loop" : String) = "min.loop" := by decide
  refine wpAny_with_toks (Nat.le_refl _) (with_size (Nat.le_refl _) (call_function_tree F.kind_min F.plain_min F.entry_min (args_min3 _ _ _) ?_))
  show wpAny _ A.in1 (Builtin.Builtins.bindParams "min" ["key", "default"] 0 ⟨[], []⟩ >>= _) _ _ s
  refine wpAny_bind (wpAny_of_eq (show Builtin.Builtins.bindParams "min" ["key", "default"] 0 ⟨[], []⟩ = pure [none, none] from rfl) ?_)
  show wpAny _ A.in1 (newTuple [Value.float a t1, Value.float b t2, Value.float c t3] >>= _) _ _ s
  refine wpAny_bind (wpAny_newObj_type ?_)
  have hT : (s.heap.push { cls := .type "tuple", data := .seq #[Value.float a t1, Value.float b t2, Value.float c t3] }).IsTuple s.heap.objs.size #[Value.float a t1, Value.float b t2, Value.float c t3] := ⟨_, Heap.get?_push_size _ rfl, rfl, 0, rfl⟩
  refine wpAny_bind (wpAny_pyIter_tuple hT ?_)
  refine wpAny_bind (wpAny_newObj_type ?_)
  have hsz : (s.heap.push { cls := .type "tuple", data := .seq #[Value.float a t1, Value.float b t2, Value.float c t3] }).objs.size = s.heap.objs.size + 1 := Heap.size_push ..
  rw [hname]
  have W := Walks.tuple (prog := prog) (w := w) (A := A.in1.in1) hA (s.heap.objs.size + 1) s.heap.objs.size (Nat.ne_of_lt (Nat.lt_succ_self _)) #[Value.float a t1, Value.float b t2, Value.float c t3]
  have W := Walks.tuple (prog := prog) (w := w) (A := A.in1) hA (s.heap.objs.size + 1) s.heap.objs.size (Nat.ne_of_lt (Nat.lt_succ_self _)) #[Value.float a t1, Value.float b t2, Value.float c t3]
  dsimp only
  rw [hsz]
  have hS : ((s.heap.push { cls := .type "tuple", data := .seq #[Value.float a t1, Value.float b t2, Value.float c t3] }).push { cls := .type "tuple_iterator", data := .fields #[.ref s.heap.objs.size, .int 0 0] }).objs.size = s.heap.objs.size + 2 := by rw [Heap.size_push, hsz]
  refine wpAny_pure ⟨plainId_quiet F.plain_min_loop _, codeAny_min_loop_first W _ (PySem.Flt.cmpOf_lt #[Value.float a t1, Value.float b t2, Value.float c t3] (by simp [PySem.Flt.NumV.float])) _ (by rw [hS]; simp) (by simp)
    ⟨⟨_, Heap.get?_push_of_some _ (by rw [← hsz]; exact Heap.get?_push_size _ rfl), rfl, rfl⟩, (hT.push _).push _⟩ (Heap.get?_push_size _ rfl) fun v h' tk hP hk => ?_⟩
  intro sz tl
  have hk' : ∀ b ob, s.heap.get? b = some ob → h'.get? b = some ob := fun b ob e => by
    have lt := Heap.lt_size e
    refine hk b ob (fun hm => ?_) (fun q => ?_) (Heap.get?_push_of_some _ (Heap.get?_push_of_some _ (Heap.get?_push_of_some _ e)))
    · rcases List.mem_cons.mp hm with q | q
      · rw [q] at lt; exact absurd lt (by simp)
      · cases q
    · rw [q, hS] at lt; exact absurd lt (by simp)
  refine o v h' tk (Nat.lt_of_lt_of_le ht tl) (.all sz hk') (rb.keeps sz hk') ?_
  unfold minF
  cases c1 : Float64.cmp b a == some .lt with
  | true =>
    cases c2 : Float64.cmp c b == some .lt <;> simp [argBest, PySem.Flt.ltV, c1, c2] at hP <;> simp only [if_true, c2] <;> rw [← hP] <;> exact .sc (.flt _ _ (by assumption))
  | false =>
    cases c2 : Float64.cmp c a == some .lt <;> simp [argBest, PySem.Flt.ltV, c1, c2] at hP <;> simp only [Bool.false_eq_true, if_false, c2] <;> rw [← hP] <;> exact .sc (.flt _ _ (by assumption))
end
end Mine
end
section
namespace Mine
open PySem PyProof.Rows PySem.SeqAt
open AutoSeq1 (wpAny_loadPart')
open MeetsSeq MeetsSeq2 MeetsSeq3 SeqRoads2
theorem tuple_gtAt (l b : Addr) (items items2 : List Value) (n n2 : Nat) (dd dd2 : Option Addr) (sl sl2 : Array (Option Value)) (xs ys : List Int) (hz : ZI (items.zip items2) xs ys) (hlen : items.length = items2.length) :
    Meets (Builtin.«tuple.__gt__» ⟨[.ref l, .ref b], []⟩)
      (fun A R s => s.heap.get? l = some { cls := .type "tuple", dict := dd, data := .seq items.toArray n, slots := sl } ∧ s.heap.get? b = some { cls := .type "tuple", dict := dd2, data := .seq items2.toArray n2, slots := sl2 } ∧
        R (.ok (.ret (.bool (ltI ys xs)))) s) :=
  .of_wp fun prog w A R s h => by
    obtain ⟨hp, g, d, tk, os⟩ := s; obtain ⟨hl, hb, h⟩ := h
    have f2 := AutoSeq1.sub_tuple_tuple
    wp_walk using wpAny_loadPart' hl, wpAny_loadPart' hb, wpAny_forIn_list _ (fun rest b s' => b.1 = none ∧ s' = ⟨hp, g, d, tk, os⟩ ∧ ∃ xs' ys', ZI rest xs' ys' ∧
      R (.ok (.ret (.bool (ltI ys' xs')))) ⟨hp, g, d, tk, os⟩) _
    case turn =>
      rintro ⟨y, x⟩ rest b s' ⟨hb', rfl, xs', ys', hzi, hR⟩
      cases hzi with
      | cons i t j u hr =>
        refine wpAny_bind (EqAt.int_int i t j u prog w _ _ ?_)
        unfold ltI at hR
        by_cases hij : i = j
        · subst hij
          rw [if_pos rfl] at hR
          have : (i == i) = true := by simp
          rw [this]
          wp_walk
          exact ⟨rfl, rfl, _, _, hr, hR⟩
        · rw [if_neg (Ne.symm hij)] at hR
          have : (i == j) = false := by simpa using hij
          rw [this]
          simp only [Bool.not_false, if_true]
          refine wpAny_bind (wpAny_rule (wpAny_bind ?_))
          refine PyProof.Rows.gt_int (Q := fun (v : Value) (s' : Shared) => wpAny (model prog w) A.in1 (do let r ← ret v; pure (ForInStep.done (some r, ()))) _ _ s') ?_
          wp_walk
          exact ⟨_, rfl, hR⟩
    case fin =>
      rintro ⟨b1, b2⟩ s' ⟨hb', rfl, xs', ys', hzi, hR⟩
      simp only at hb'
      subst hb'
      cases hzi
      wp_walk
      refine ⟨_, rfl, ?_⟩
      simpa [Builtin.Tuple.tupleCompareSizes, ltI, hlen] using hR
    case h =>
      exact ⟨rfl, rfl, xs, ys, by simpa using hz, h⟩
noncomputable def tupI (l : List Int) : T := .tup (l.map .int)
noncomputable def bestI : List Int → List (List Int) → List Int
  | b, [] => b
  | b, x :: r => bestI (if ltI b x then x else b) r
section
variable {prog : Program} {w : World} {P : Pm} {A : Around} {μ : Mu}
theorem gt_tup {Z : Addr → Prop} {s : Shared} {u v : Value} {x y : List Int} {Q : Value → Shared → Prop} {E : Value → Shared → Prop} (ru : RT Z s.heap u (tupI x)) (rv : RT Z s.heap v (tupI y)) (hlen : x.length = y.length) (hu : A.units < cLine) (h : Q (.bool (ltI y x)) s) :
    wpAny (model prog w) A (richCompare .Gt u v) Q E s := by
  obtain ⟨a, vs, rfl, t1, p1⟩ := rt_tup ru
  obtain ⟨b, ws, rfl, t2, p2⟩ := rt_tup rv
  have q1 := paired_ints p1
  have q2 := paired_ints p2
  obtain ⟨⟨cls, dd, data, sl⟩, ho, hc, n, hd⟩ := t1
  obtain ⟨⟨cls2, dd2, data2, sl2⟩, ho2, hc2, n2, hd2⟩ := t2
  simp only at hc hd hc2 hd2
  subst hc hd hc2 hd2
  have hz : vs.length = ws.length := by rw [paired_len q1, paired_len q2, hlen]
  exact richCompare_meets_room (op := .Gt) ⟨_, ho, rfl⟩ ⟨_, ho2, rfl⟩ F.slot_tuple_gt F.entry_tuple_gt (F.args_tuple_gt_2 _ _) (tuple_gtAt _ _ vs ws n n2 dd dd2 sl sl2 x y (zi_of q1 q2 hz) hz)
    ⟨ho, ho2, show Value.bool _ ≠ Value.notImplemented ∧ Q (.bool _) s from ⟨(fun x => nomatch x), h⟩⟩ hu
theorem max_loop {I S : Addr} {Z : Addr → Prop} {R : Result → Shared → Prop} {k : Nat} (hA : A.handled = none) (hu : A.units + 64 < cLine) (hZ : Z S) (hIS : I < S) (hI : 100 ≤ I) : ∀ (rem : List (List Int)) (best : List Int) (s : Shared) (vb : Value) (c : Nat), IterAt Z s.heap I (rem.map tupI) → RB P s.heap → 0 < s.toks →
    RT Z s.heap vb (tupI best) → best.length = k → (∀ x ∈ rem, x.length = k) → s.heap.get? S = some { cls := .type "list", dict := none, data := .seq #[vb, vb] c, slots := #[] } →
    (∀ v h' tk, 0 < tk → s.heap.objs.size ≤ h'.objs.size → RT Z h' v (tupI (bestI best rem)) → RB P h' → (∀ b o, b ≠ I → b ≠ S → s.heap.get? b = some o → h'.get? b = some o) → R (.ok (.ret v)) (up s h' tk)) →
    codeAny (model prog w) A (.builtin "max.loop" ⟨[.ref I, .none, .ref S], []⟩) R s := by
  have hname : (toString "max" ++ toString ".loop" : String) = "max.loop" := by decide
  intro rem
  induction rem with
  | nil =>
    intro best s vb c ia rb ht rvb hbl hrl hS hR
    refine codeAny_builtin F.entry_max_loop ?_
    rw [Around.under_plainId F.plain_max_loop _]
    show wpAny _ A.in1 (seqItems? (.ref S) >>= _) _ _ s
    refine wpAny_bind (wpAny_seqItems hS rfl ?_)
    show wpAny _ A.in1 (tryCatch (pyNext (.ref I)) _ >>= _) _ _ s
    obtain ⟨oI, gI, so, _⟩ := ia.soft
    refine wpAny_bind (wpAny_tryCatch (next_end hA ia fun h' ex sz => ?_))
    have hS' := ex S _ (Nat.ne_of_gt hIS) hS
    show wpAny _ A.in1 (updateSeq S (fun _ => #[]) >>= _) _ _ _
    refine wpAny_bind ?_
    refine wpAny_updateSeq hS' rfl (wpAny_bind (wpAny_letGo (wpAny_pure ?_)))
    have rb' : RB P h' := rb.ext ex sz gI so hI
    have sbS := Heap.SameBut.update h' S (Obj.mapSeq fun _ => #[])
    have rv' := RT.off ex gI (iter_cls ia gI).1 _ _ rvb
    refine hR vb _ s.toks ht (Nat.le_trans sz (Nat.le_of_eq sbS.1.symm)) (RT.hid hZ sbS.extBut hS' rfl _ _ rv') (rb'.turn sbS hS' (.inr (.inl rfl)) (Nat.le_trans hI (Nat.le_of_lt hIS))) fun b o hbI hbS e => (Heap.get?_update_other _ _ (Ne.symm hbS)).trans (ex b o hbI e)
  | cons x rem ih =>
    intro best s vb c ia rb ht rvb hbl hrl hS hR
    refine codeAny_builtin F.entry_max_loop ?_
    rw [Around.under_plainId F.plain_max_loop _]
    show wpAny _ A.in1 (seqItems? (.ref S) >>= _) _ _ s
    refine wpAny_bind (wpAny_seqItems hS rfl ?_)
    show wpAny _ A.in1 (tryCatch (pyNext (.ref I)) _ >>= _) _ _ s
    obtain ⟨oI, gI, so, _⟩ := ia.soft
    refine wpAny_bind (wpAny_tryCatch (next_item ia rb ht hI fun v h' tk tp sb rb' rv ia' => ?_))
    have hS' := sb.extBut S _ (Nat.ne_of_gt hIS) hS
    have rvb' := RT.off sb.extBut gI (iter_cls ia gI).1 _ _ rvb
    show wpAny _ A.in1 (tryCatch (holding [v, v] (richCompare .Gt v vb >>= _)) _ >>= _) _ _ _
    refine wpAny_bind (wpAny_tryCatch (wpAny_holding (wpAny_bind (gt_tup rv rvb' (by rw [hbl, hrl x (by simp)]) (by show A.units + 1 < cLine; omega) ?_))))
    refine wpAny_bind (wpAny_holding (wpAny_truthy_bool ?_))
    refine wpAny_bind (wpAny_letGo (wpAny_pure ?_))
    cases hb : ltI best x with
    | true =>
      simp only [if_true]
      refine wpAny_bind ?_
      refine wpAny_updateSeq hS' rfl (wpAny_bind (wpAny_letGo ?_))
      rw [hname]
      have sbS := Heap.SameBut.update h' S (Obj.mapSeq fun _ => #[v, v])
      have hr := fun x v r => RT.hid hZ sbS.extBut hS' rfl x v r
      refine wpAny_pure ⟨plainId_quiet F.plain_max_loop _, ih x _ v _ (ia'.other sbS.extBut hIS hr) (rb'.turn sbS hS' (.inr (.inl rfl)) (Nat.le_trans hI (Nat.le_of_lt hIS))) tp (hr _ _ rv) (hrl x (by simp)) (fun y hy => hrl y (by simp [hy])) (Heap.get?_update_self _ hS' rfl)
        fun v' h'' tk'' tp'' sz'' rv'' rb'' hk'' => ?_⟩
      refine hR v' h'' tk'' tp'' ?_ ?_ rb'' fun b o hbw hbS e => hk'' b o hbw hbS ((Heap.get?_update_other _ _ (Ne.symm hbS)).trans (sb.extBut b o hbw e))
      · rw [← sb.1, ← sbS.1]; exact sz''
      · unfold bestI; rw [hb, if_pos rfl]; exact rv''
    | false =>
      simp only [Bool.false_eq_true, if_false]
      refine wpAny_bind (wpAny_letGo ?_)
      rw [hname]
      refine wpAny_pure ⟨plainId_quiet F.plain_max_loop _, ih best _ vb c ia' rb' tp rvb' hbl (fun y hy => hrl y (by simp [hy])) hS' fun v' h'' tk'' tp'' sz'' rv'' rb'' hk'' => ?_⟩
      refine hR v' h'' tk'' tp'' ?_ ?_ rb'' fun b o hbw hbS e => hk'' b o hbw hbS (sb.extBut b o hbw e)
      · rw [← sb.1]; exact sz''
      · unfold bestI; rw [hb, if_neg (by decide)]; exact rv''
theorem op_maxT (sl : Sl 1 A) {x : T} {b : List Int} {l : List (List Int)} {k : Nat} (hl : its μ x = some ((b :: l).map tupI)) (hk : ∀ y ∈ b :: l, y.length = k) : OpL prog w P A μ (fun vs => call (.builtin "max") vs) [x] (tupI (bestI b l)) := fun {Z} s xs Q E rb ht mo hz px o => by
  cases px with
  | cons rx px =>
    cases px
    have hname : (toString "max" ++ toString ".loop" : String) = "max.loop" := by decide
    refine call_function_tree F.kind_max F.plain_max F.entry_max (F.args_max1 _) ?_
    show wpAny _ A.in1 (Builtin.Builtins.bindParams "max" ["key", "default"] 0 ⟨[], []⟩ >>= _) _ _ s
    refine wpAny_bind (wpAny_of_eq (show Builtin.Builtins.bindParams "max" ["key", "default"] 0 ⟨[], []⟩ = pure [none, none] from rfl) ?_)
    refine wpAny_bind (wpAny_pure ?_)
    have hit : iterV μ x = some ((b :: l).map tupI) := by
      cases x <;> first | exact hl | cases hl
    refine wpAny_bind (iter_ok hit rb mo rx fun h₂ e₂ rb₂ it₂ => ?_)
    refine wpAny_bind (wpAny_newObj_type ?_)
    rw [hname]
    dsimp only
    generalize hI : s.heap.objs.size = I at it₂ ⊢
    have b100 : 100 ≤ I := by rw [← hI]; exact rb.big
    have hIS : I < h₂.objs.size := by obtain ⟨oI, gI, _⟩ := it₂.soft; exact Heap.lt_size gI
    generalize hS0 : h₂.objs.size = S at hIS ⊢
    have k3 : Keep [] h₂ (h₂.push { cls := .type "list", data := .seq #[] }) := Keep.push _ _
    have rb₃ : RB P (h₂.push { cls := .type "list", data := .seq #[] }) := rb₂.push _
    have hS : (h₂.push { cls := .type "list", data := .seq #[] }).get? S = some { cls := .type "list", dict := none, data := .seq #[] 0, slots := #[] } := by rw [← hS0]; exact Heap.get?_push_size _ rfl
    have it₃ : IterAt (Hid Z S) (h₂.push { cls := .type "list", data := .seq #[] }) I ((b :: l).map tupI) := (it₂.hide (Nat.le_of_eq hS0)).mono k3 rb₂.tb b100
    refine wpAny_pure ⟨plainId_quiet F.plain_max_loop _, ?_⟩
    refine codeAny_builtin F.entry_max_loop ?_
    rw [Around.under_plainId F.plain_max_loop _]
    show wpAny _ A.in1 (seqItems? (.ref S) >>= _) _ _ _
    refine wpAny_bind (wpAny_seqItems hS rfl ?_)
    show wpAny _ A.in1 (tryCatch (pyNext (.ref I)) _ >>= _) _ _ _
    obtain ⟨oI, gI, so, _⟩ := it₃.soft
    refine wpAny_bind (wpAny_tryCatch (next_item it₃ rb₃ ht b100 fun v h' tk tp sb rb' rv ia' => ?_))
    have hS' := sb.extBut S _ (Nat.ne_of_gt hIS) hS
    show wpAny _ A.in1 (updateSeq S (fun _ => #[v, v]) >>= _) _ _ _
    refine wpAny_bind ?_
    refine wpAny_updateSeq hS' rfl ?_
    rw [hname]
    have sbS := Heap.SameBut.update h' S (Obj.mapSeq fun _ => #[v, v])
    have hr := fun x v r => RT.hid (Z := Hid Z S) (.inr rfl) sbS.extBut hS' rfl x v r
    refine wpAny_pure ⟨plainId_quiet F.plain_max_loop _, max_loop (Z := Hid Z S) (k := k) sl.1 sl.units (.inr rfl) hIS b100 l b _ v _ (ia'.other sbS.extBut hIS hr) (rb'.turn sbS hS' (.inr (.inl rfl)) (Nat.le_trans b100 (Nat.le_of_lt hIS))) tp (hr _ _ rv) (hk b (by simp)) (fun y hy => hk y (by simp [hy])) (Heap.get?_update_self _ hS' rfl)
      fun v' h'' tk'' tp'' sz'' rv'' rb'' hk'' => ?_⟩
    have hsz : s.heap.objs.size ≤ h''.objs.size := by
      refine Nat.le_trans ?_ sz''
      rw [sbS.1, sb.1, Heap.size_push]
      exact Nat.le_succ_of_le e₂.size
    refine o v' h'' tk'' tp'' ⟨hsz, fun c oc e nt _ => ?_⟩ rb'' (RT.weak (fun _ q => .inl q) _ _ rv'')
    have lt := Heap.lt_size e
    have hcI : c ≠ I := by rw [← hI]; exact Nat.ne_of_lt lt
    have hcS : c ≠ S := Nat.ne_of_lt (Nat.lt_of_lt_of_le lt (by rw [← hS0]; exact e₂.size))
    exact hk'' c oc hcI hcS ((Heap.get?_update_other _ _ (Ne.symm hcS)).trans (sb.extBut c oc hcI (Heap.get?_push_of_some _ (e₂.keep c oc e nt (by simp)))))
end
end Mine
end
section
namespace Mine
open PySem PyProof.Rows
noncomputable def isSl (e : Expr) : Bool := Nat.beq e.ctorIdx 26
theorem isSl_ne {s : Expr} (h : isSl s = false) : ∀ lo hi st q, s ≠ .Slice lo hi st q := fun _ _ _ _ e => by rw [e] at h; cases h
def one {α : Type} (l : List α) : Res (fun x : α => l = [x]) := match l with
  | [x] => .ok x rfl
  | _ => .no
def intT (l : List T) : Res (fun i : Int => l = [.sc (.int i)]) := match l with
  | [.sc (.int i)] => .ok i rfl
  | _ => .no
/-! operators -/
noncomputable def OpK (μ : Mu) (f : Value → Value → Sem Value) (a b r : T) : Prop := ∀ (prog : Program) (w : World) (P : Pm) (A : Around), Sl 4 A → Op2 prog w P A μ f a b r
noncomputable def binL (μ : Mu) (op : Operator) (a b : T) : Res (OpK μ (binaryOp op) a b) := match op with
  | .Add => (opt (its μ a)).bind fun l hl => (opt (its μ b)).bind fun k hk => (chkP (l.length + k.length ≤ 4096)).bind fun _ hz => .ok (.lst (l ++ k)) fun _ _ _ _ _ => cat_ok hl hk hz
  | .Mult => (opt (its μ a)).bind fun l hl => (one l).bind fun x hx => (intT [b]).bind fun k hk => (chkP (0 ≤ k ∧ k ≤ 4096)).bind fun _ hz => .ok (.lst (List.replicate k.toNat x)) fun _ _ _ _ _ => by
    injection hk with hk; subst hx hk; exact rep_ok hl hz
  | _ => .no
noncomputable def scT : T → Option Sc
  | .sc x => some x
  | _ => none
theorem scT_ok {x : T} {y : Sc} (h : scT x = some y) : x = .sc y := by
  cases x with
  | sc z => cases h; rfl
  | _ => cases h
noncomputable def binT (μ : Mu) (op : Operator) (a b : T) : Res (OpK μ (binaryOp op) a b) := match ha : scT a with
  | some x => (opt (scT b)).bind fun y hb => (binR op x y).bind fun r h => .ok (.sc r) fun _ _ _ _ sl => by rw [scT_ok ha, scT_ok hb]; exact h sl.1
  | none => binL μ op a b
noncomputable def cmpT (μ : Mu) (op : CmpOp) (a b : T) : Res (fun r => OpK μ (compareOp op) a b (.sc (.bool r))) := match ha : scT a with
  | some x => (opt (scT b)).bind fun y hb => (cmpR op x y).bind fun r h => .ok r fun _ _ _ _ _ => by rw [scT_ok ha, scT_ok hb]; exact h
  | none => .no
/-! subscripts -/
noncomputable def natR (b : T) : Res (fun k : Nat => b = .sc (.int k) ∧ k < 4097) := match b with
  | .sc (.int (.ofNat k)) => (chkP (k < 4097)).bind fun _ h => .ok k ⟨rfl, h⟩
  | _ => .no
def SubK (μ : Mu) (a b r : T) : Prop := ∀ {value slice : Expr}, (∀ l u p, slice ≠ .Slice l u none p) → OpK μ (subscriptTail value slice) a b r
noncomputable def subN (μ : Mu) (k : Nat) (hz : k < 4097) (a : T) : Res (SubK μ a (.sc (.int k))) := match a with
  | .tup l => (opt l[k]?).bind fun x hx => .ok (.sc x) fun hs _ _ _ _ _ => sub_tup hx hz hs
  | a => (opt (its μ a)).bind fun l hl => (opt l[k]?).bind fun x hx => .ok x fun hs _ _ _ _ _ => sub_lst hl hx hz hs
noncomputable def subR (μ : Mu) (a b : T) : Res (SubK μ a b) := (natR b).bind fun k hk => (subN μ k hk.2 a).bind fun r h => .ok r (by rw [hk.1]; exact h)
/-! builtins -/
noncomputable def sRange : Str := "range"
noncomputable def sLen : Str := "len"
noncomputable def sSum : Str := "sum"
noncomputable def sInt : Str := "int"
noncomputable def sList : Str := "list"
noncomputable def sMax : Str := "max"
noncomputable def sMin : Str := "min"
/-- the builtins' names -/
structure Blt (P : Pm) : Prop where
  range : P.mg sRange = none ∧ P.mb sRange = some (.type "range")
  len : P.mg sLen = none ∧ P.mb sLen = some (.builtin "len")
  sum : P.mg sSum = none ∧ P.mb sSum = some (.builtin "sum")
  int : P.mg sInt = none ∧ P.mb sInt = some (.type "int")
  list : P.mg sList = none ∧ P.mb sList = some (.type "list")
  max : P.mg sMax = none ∧ P.mb sMax = some (.builtin "max")
  min : P.mg sMin = none ∧ P.mb sMin = some (.builtin "min")
noncomputable def BltK (μ : Mu) (x : Str) (Ts : List T) (r : T) : Prop := ∀ {prog : Program} {w : World} {P : Pm} {A : Around} {env : Env} {fm : Fm} {p pos : Pos} {e : Expr} {rest : List Expr}, Blt P → Sl 1 A → fm.names.lookup x = some .globalImplicit → noStar e = true → plainAll rest = true →
    EvL prog w P A env fm μ (spliced (backTo pos (starEach (e :: rest) env))) Ts → Ev prog w P A env fm μ (eval (.Call (.Name x p) (e :: rest) [] pos) env) r
section
variable {μ : Mu}
theorem bk_eq {x : Str} {Ts : List T} {r q : T} (h : BltK μ x Ts r) (e : r = q) : BltK μ x Ts q := e ▸ h
theorem bk_range {i : Int} (hi : 0 ≤ i) : BltK μ sRange [.sc (.int i)] (.rng i.toNat) := fun {prog w P A env fm p pos e rest} B _ hx hs hs2 h => by
  refine ev_call_ty hx (by decide) B.range.1 B.range.2 hs hs2 h ?_
  have : OpL prog w P A μ (fun vs => call (.type "range") vs) [.sc (.int i.toNat)] (.rng i.toNat) := op_range
  rwa [Int.toNat_of_nonneg hi] at this
theorem bk_len {y : T} {l : List T} (hl : its μ y = some l) : BltK μ sLen [y] (.sc (.int l.length)) := fun B _ hx hs hs2 h =>
  ev_call_bt hx (by decide) B.len.1 B.len.2 hs hs2 h (op_len hl)
theorem bk_sum {y : T} {l : List T} {q : List Int} (hl : its μ y = some l) (hq : intsOf l = some q) : BltK μ sSum [y] (.sc (.int (sumI q))) := fun B sl hx hs hs2 h =>
  ev_call_bt hx (by decide) B.sum.1 B.sum.2 hs hs2 h (op_sum sl.1 hl hq)
theorem bk_int {f : UInt64} {sg : Bool} {m : Nat} {e : Int} (hd : Float64.decode f = .fin sg m e) : BltK μ sInt [.sc (.flt f)] (.sc (.int (Float64.truncOf sg m e))) := fun B _ hx hs hs2 h =>
  ev_call_ty hx (by decide) B.int.1 B.int.2 hs hs2 h (op_int hd)
theorem bk_list_range {n : Nat} (hn : n ≤ 4096) : BltK μ sList [.rng n] (.lst (rangeT 0 n)) := fun B sl hx hs hs2 h =>
  ev_call_ty hx (by decide) B.list.1 B.list.2 hs hs2 h (op_list_range sl.1 hn)
theorem bk_list {y : T} {l : List T} (hl : its μ y = some l) : BltK μ sList [y] (.lst l) := fun B sl hx hs hs2 h =>
  ev_call_ty hx (by decide) B.list.1 B.list.2 hs hs2 h (op_list hl)
theorem bk_max3 {a b c : UInt64} : BltK μ sMax [.sc (.flt a), .sc (.flt b), .sc (.flt c)] (.sc (.flt (maxF a b c))) := fun B sl hx hs hs2 h =>
  ev_call_bt hx (by decide) B.max.1 B.max.2 hs hs2 h (op_max3 sl.1)
theorem bk_min3 {a b c : UInt64} : BltK μ sMin [.sc (.flt a), .sc (.flt b), .sc (.flt c)] (.sc (.flt (minF a b c))) := fun B sl hx hs hs2 h =>
  ev_call_bt hx (by decide) B.min.1 B.min.2 hs hs2 h (op_min3 sl.1)
theorem bk_maxT {x : T} {b : List Int} {l : List (List Int)} {k : Nat} (hl : its μ x = some ((b :: l).map tupI)) (hk : ∀ y ∈ b :: l, y.length = k) : BltK μ sMax [x] (tupI (bestI b l)) := fun B sl hx hs hs2 h =>
  ev_call_bt hx (by decide) B.max.1 B.max.2 hs hs2 h (op_maxT sl hl hk)
end
noncomputable def fltT (l : List T) : Res (fun f : UInt64 => l = [.sc (.flt f)]) := match l with
  | [.sc (.flt i)] => .ok i rfl
  | _ => .no
noncomputable def flt3 (l : List T) : Res (fun f : UInt64 × UInt64 × UInt64 => l = [.sc (.flt f.1), .sc (.flt f.2.1), .sc (.flt f.2.2)]) := match l with
  | [.sc (.flt a), .sc (.flt b), .sc (.flt c)] => .ok (a, b, c) rfl
  | _ => .no
noncomputable def rngT (l : List T) : Res (fun n : Nat => l = [.rng n]) := match l with
  | [.rng n] => .ok n rfl
  | _ => .no
noncomputable def finF (f : UInt64) : Res (fun p : Bool × Nat × Int => Float64.decode f = .fin p.1 p.2.1 p.2.2) := match h : Float64.decode f with
  | .fin sg m e => .ok (sg, m, e) rfl
  | _ => .no
noncomputable def bltR (μ : Mu) (x : Str) (args : List T) : Res (BltK μ x args) :=
  if hx : x = sRange then (intT args).bind fun i h => (chkP (0 ≤ i)).bind fun _ q => .ok (.rng i.toNat) (by subst hx h; exact bk_range q)
  else if hx : x = sInt then (fltT args).bind fun f h => (finF f).bind fun p q => .ok (.sc (.int (Float64.truncOf p.1 p.2.1 p.2.2))) (by subst hx h; exact bk_int q)
  else if hx : x = sList then (rngT args).bind fun n h => (chkP (n ≤ 4096)).bind fun _ q => .ok (.lst (rangeT 0 n)) (by subst hx h; exact bk_list_range q)
  else if hx : x = sMax then (flt3 args).bind fun f h => .ok (.sc (.flt (maxF f.1 f.2.1 f.2.2))) (by subst hx h; exact bk_max3)
  else if hx : x = sMin then (flt3 args).bind fun f h => .ok (.sc (.flt (minF f.1 f.2.1 f.2.2))) (by subst hx h; exact bk_min3)
  else .no
end Mine
end
section
namespace Mine
open PySem PyProof.Rows
noncomputable def notSet (e : Expr) : Bool := !(Nat.beq e.ctorIdx 7)
theorem notSet_ok {e : Expr} (h : notSet e = true) (env : Env) (x : Value) : foldedSetIterable e env x = pure x := by
  cases e <;> first | rfl | cases h
noncomputable def debugN (x : Str) : Bool := x == ("__debug__" : Str) || x == ("__classdict__" : Str)
theorem debugN_1 {x : Str} (h : debugN x = false) : (x == ("__debug__" : Str)) = false := (Bool.or_eq_false_iff.mp h).1
theorem debugN_2 {x : Str} (h : debugN x = false) : (x == ("__classdict__" : Str)) = false := (Bool.or_eq_false_iff.mp h).2
noncomputable def EvK (μ : Mu) (fm : Fm) (e : Expr) (r : T) : Prop := ∀ {prog : Program} {w : World} {P : Pm} {A : Around} {env : Env}, Blt P → Sl 4 A → Ev prog w P A env fm μ (eval e env) r
noncomputable def EbK (μ : Mu) (fm : Fm) (e : Expr) (r : Bool) : Prop := ∀ {prog : Program} {w : World} {P : Pm} {A : Around} {env : Env}, Blt P → Sl 4 A → EvB prog w P A env fm μ (isTrue e env (eval e env)) r
noncomputable def ElK (μ : Mu) (fm : Fm) (l : List Expr) (r : List T) : Prop := ∀ {prog : Program} {w : World} {P : Pm} {A : Around} {env : Env} {pos : Pos}, Blt P → Sl 4 A → EvL prog w P A env fm μ (spliced (backTo pos (starEach l env))) r
/-- one level of the interpreter -/
structure Lv (μ : Mu) where
  e : (fm : Fm) → (e : Expr) → Res (EvK μ fm e)
  b : (fm : Fm) → (e : Expr) → Res (EbK μ fm e)
section
variable {μ : Mu}
noncomputable def rConst (fm : Fm) (c : Const) (a : Nat) (p : Pos) : Res (EvK μ fm (.Constant c a p)) := match c with
  | .int i => .ok (.sc (.int i)) fun _ _ => ev_int
  | .float i => .ok (.sc (.flt i)) fun _ _ => ev_flt
  | .str i => .ok (.sc (.str i)) fun _ _ => ev_str
  | .bool i => .ok (.sc (.bool i)) fun _ _ => ev_bool
  | .none => .ok (.sc .none) fun _ _ => ev_none
  | _ => .no
noncomputable def nameK (k : Option NameKind) : Res (fun q : NameKind => k = some q ∧ (q = .local ∨ q = .cell ∨ q = .free)) := match k with
  | some .local => .ok .local ⟨rfl, .inl rfl⟩
  | some .cell => .ok .cell ⟨rfl, .inr (.inl rfl)⟩
  | some .free => .ok .free ⟨rfl, .inr (.inr rfl)⟩
  | _ => .no
noncomputable def rName (fm : Fm) (x : Str) (p : Pos) : Res (EvK μ fm (.Name x p)) :=
  (chkP (debugN x = false)).bind fun _ hd => (nameK (fm.names.lookup x)).bind fun _ hk => (opt (fm.vars.lookup x)).bind fun t ht => .ok t fun _ _ => ev_name hk.1 hk.2 ht (debugN_1 hd) (debugN_2 hd)
noncomputable def rCmp (L : Lv μ) (fm : Fm) (l : Expr) (ops : List CmpOp) (rs : List Expr) (p : Pos) : Res (EvK μ fm (.Compare l ops rs p)) :=
  (one ops).bind fun op ho => (one rs).bind fun r hr => (chkP (behindInMarks op r = false)).bind fun _ hm => (L.e fm l).bind fun a ha => (L.e fm r).bind fun b hb => (cmpT μ op a b).bind fun c hc => .ok (.sc (.bool c)) fun B sl => by
    subst ho hr; exact ev_compare (ha B sl) (hb B sl) (hc _ _ _ _ sl) hm
noncomputable def rCmpB (L : Lv μ) (fm : Fm) (l : Expr) (ops : List CmpOp) (rs : List Expr) (p : Pos) : Res (EbK μ fm (.Compare l ops rs p)) :=
  (one ops).bind fun op ho => (one rs).bind fun r hr => (chkP (behindInMarks op r = false)).bind fun _ hm => (L.e fm l).bind fun a ha => (L.e fm r).bind fun b hb => (cmpT μ op a b).bind fun c hc => .ok c fun B sl => by
    subst ho hr; exact evb_compare (ha B sl) (hb B sl) (hc _ _ _ _ sl) hm
noncomputable def intCo (c : Const) (a : Nat) (p : Pos) : Res (fun i : Int => ∃ b q, Expr.Constant c a p = .Constant (.int i) b q) := match c with
  | .int i => .ok i ⟨a, p, rfl⟩
  | _ => .no
noncomputable def intC (e : Expr) : Res (fun i : Int => ∃ a p, e = .Constant (.int i) a p) :=
  if h : e.ctorIdx = 19 then @Expr.Constant.elim (fun e => Res (fun i : Int => ∃ a p, e = .Constant (.int i) a p)) e h fun c a p => intCo c a p else .no
noncomputable def rNeg (fm : Fm) (op : UnaryOp) (e : Expr) (p : Pos) : Res (EvK μ fm (.UnaryOp op e p)) := match op with
  | .USub => (intC e).bind fun i h => .ok (.sc (.int (-i))) fun _ _ => by obtain ⟨a, p, rfl⟩ := h; exact ev_neg
  | _ => .no
noncomputable def rSub (L : Lv μ) (fm : Fm) (v s : Expr) (p : Pos) : Res (EvK μ fm (.Subscript v s p)) :=
  (chkP (isSl s = false)).bind fun _ hs => (L.e fm v).bind fun a ha => (L.e fm s).bind fun b hb => (subR μ a b).bind fun r h => .ok r fun B sl => ev_sub (ha B sl) (hb B sl) (h (fun l u p => isSl_ne hs l u none p) _ _ _ _ sl)
noncomputable def rAll (L : Lv μ) (fm : Fm) (l : List Expr) : Res (ElK μ fm l) := List.rec (motive := fun l => Res (ElK μ fm l)) (.ok [] fun _ _ => evl_nil)
  (fun e _ ih => (chkP (noStar e = true)).bind fun _ hs => (L.e fm e).bind fun x hx => ih.bind fun r hr => .ok (x :: r) fun B sl => evl_cons hs (hx B sl) (hr B sl)) l
noncomputable def scs (l : List T) : Res (fun q : List Sc => l = q.map .sc) := List.rec (motive := fun l => Res (fun q : List Sc => l = q.map .sc)) (.ok [] rfl)
  (fun t _ ih => (opt (scT t)).bind fun x hx => ih.bind fun q hq => .ok (x :: q) (by rw [hq, scT_ok hx]; rfl)) l
noncomputable def rTup (L : Lv μ) (fm : Fm) (l : List Expr) (k : Nat) (p : Pos) : Res (EvK μ fm (.Tuple l k p)) :=
  (rAll L fm l).bind fun rs h => (scs rs).bind fun q hq => (chkP (rs.length ≤ 4096)).bind fun _ hz => .ok (.tup q) fun B sl => ev_tuple (h B sl) hq hz
noncomputable def rLst (L : Lv μ) (fm : Fm) (l : List Expr) (p : Pos) : Res (EvK μ fm (.List l p)) :=
  (rAll L fm l).bind fun rs h => (chkP (rs.length ≤ 4096)).bind fun _ hz => .ok (.lst rs) fun B sl => ev_list (h B sl) hz
noncomputable def nameE (e : Expr) : Res (fun x : Str => ∃ p, e = .Name x p) :=
  if h : e.ctorIdx = 23 then @Expr.Name.elim (fun e => Res (fun x : Str => ∃ p, e = .Name x p)) e h fun x p => .ok x ⟨p, rfl⟩ else .no
noncomputable def rCall (L : Lv μ) (fm : Fm) (f : Expr) (l : List Expr) (k : List Keyword) (q : Pos) : Res (EvK μ fm (.Call f l k q)) := match k with
  | [] => match l with
    | e :: r => (nameE f).bind fun x hx => (chkP (fm.names.lookup x = some .globalImplicit ∧ noStar e = true ∧ plainAll r = true)).bind fun _ hc => (rAll L fm (e :: r)).bind fun rs hr => (bltR μ x rs).bind fun t ht => .ok t fun B sl => by
        obtain ⟨p, rfl⟩ := hx; exact ht B (sl.mono (by decide)) hc.1 hc.2.1 hc.2.2 (hr B sl)
    | [] => .no
  | _ => .no
noncomputable def stE (L : Lv μ) (fm : Fm) (e : Expr) : Res (EvK μ fm e) :=
  if h : e.ctorIdx = 19 then @Expr.Constant.elim (fun e => Res (EvK μ fm e)) e h fun c a p => rConst fm c a p
  else if h : e.ctorIdx = 23 then @Expr.Name.elim (fun e => Res (EvK μ fm e)) e h fun x p => rName fm x p
  else if h : e.ctorIdx = 2 then @Expr.BinOp.elim (fun e => Res (EvK μ fm e)) e h fun l op r p => (L.e fm l).bind fun a ha => (L.e fm r).bind fun b hb => (binT μ op a b).bind fun c hc => .ok c fun B sl => ev_binop (ha B sl) (hb B sl) (hc _ _ _ _ sl)
  else if h : e.ctorIdx = 15 then @Expr.Compare.elim (fun e => Res (EvK μ fm e)) e h fun l ops rs p => rCmp L fm l ops rs p
  else if h : e.ctorIdx = 3 then @Expr.UnaryOp.elim (fun e => Res (EvK μ fm e)) e h fun op e p => rNeg fm op e p
  else if h : e.ctorIdx = 21 then @Expr.Subscript.elim (fun e => Res (EvK μ fm e)) e h fun v s p => rSub L fm v s p
  else if h : e.ctorIdx = 25 then @Expr.Tuple.elim (fun e => Res (EvK μ fm e)) e h fun l c p => rTup L fm l c p
  else if h : e.ctorIdx = 24 then @Expr.List.elim (fun e => Res (EvK μ fm e)) e h fun l p => rLst L fm l p
  else if h : e.ctorIdx = 16 then @Expr.Call.elim (fun e => Res (EvK μ fm e)) e h fun f l k p => rCall L fm f l k p
  else .no
noncomputable def rVal (L : Lv μ) (fm : Fm) (e : Expr) (h : ∀ env, isTrue e env (eval e env) = (do let v ← eval e env; standAt e.pos; holding [v] (truthy v))) : Res (EbK μ fm e) :=
  (L.e fm e).bind fun v hv => (opt (truV μ v)).bind fun b hb => .ok b fun B sl => evb_val (hv B sl) hb (h _)
noncomputable def stB (L : Lv μ) (fm : Fm) (e : Expr) : Res (EbK μ fm e) :=
  if h : e.ctorIdx = 15 then @Expr.Compare.elim (fun e => Res (EbK μ fm e)) e h fun l ops rs p => rCmpB L fm l ops rs p
  else if h : e.ctorIdx = 23 then @Expr.Name.elim (fun e => Res (EbK μ fm e)) e h fun x p => rVal L fm (.Name x p) fun _ => rfl
  else if h : e.ctorIdx = 2 then @Expr.BinOp.elim (fun e => Res (EbK μ fm e)) e h fun a b c p => rVal L fm (.BinOp a b c p) fun _ => rfl
  else .no
end
noncomputable def lv (μ : Mu) (n : Nat) : Lv μ := Nat.rec ⟨fun _ _ => .no, fun _ _ => .no⟩ (fun _ L => ⟨stE L, stB L⟩) n
noncomputable def pe (μ : Mu) (n : Nat) (fm : Fm) (e : Expr) : Option T := ((lv μ n).e fm e).val
noncomputable def pb (μ : Mu) (n : Nat) (fm : Fm) (e : Expr) : Option Bool := ((lv μ n).b fm e).val
section
variable {prog : Program} {w : World} {P : Pm} {A : Around} {env : Env} {fm : Fm} {μ : Mu}
theorem ev_pe (B : Blt P) (sl : Sl 4 A) (k : Nat) {e : Expr} {r : T} (h : pe μ k fm e = some r) : Ev prog w P A env fm μ (eval e env) r := Res.get (p := EvK μ fm e) h B sl
theorem ev_pb (B : Blt P) (sl : Sl 4 A) (k : Nat) {e : Expr} {r : Bool} (h : pb μ k fm e = some r) : EvB prog w P A env fm μ (isTrue e env (eval e env)) r := Res.get (p := EbK μ fm e) h B sl
end
end Mine
end
section
namespace Mine
open PySem PyProof.Rows
noncomputable def updM (μ : Mu) (a : Addr) (l : List T) : Mu := fun b => if b = a then some l else μ b
theorem updM_self {μ : Mu} {a : Addr} {l : List T} : updM μ a l a = some l := if_pos rfl
theorem updM_ne {μ : Mu} {a b : Addr} {l : List T} (h : b ≠ a) : updM μ a l b = μ b := if_neg h
/-- what is below n, and what is neither hidden nor a frame's, is kept -/
structure KeepG (n : Nat) (Z : Addr → Prop) (X : List Addr) (h h' : Heap) : Prop where
  size : h.objs.size ≤ h'.objs.size
  keep : ∀ b o, h.get? b = some o → NT b → (b < n ∨ ¬ Z b) → (b ∈ X → ¬ FO o) → h'.get? b = some o
theorem KeepG.of {n : Nat} {Z : Addr → Prop} {X : List Addr} {h h' : Heap} (k : Keep X h h') : KeepG n Z X h h' := ⟨k.size, fun b o e t _ x => k.keep b o e t x⟩
theorem KeepG.trans {n : Nat} {Z Z' : Addr → Prop} {X : List Addr} {h h₁ h₂ : Heap} (a : KeepG n Z X h h₁) (b : KeepG n Z' X h₁ h₂) (hz : ∀ a, Z a → Z' a) : KeepG n Z' X h h₂ :=
  ⟨Nat.le_trans a.size b.size, fun c o e t z x => b.keep c o (a.keep c o e t (z.imp id fun q w => q (hz _ w)) x) t z x⟩
/-- what is hidden later -/
structure ZExt (Z Z' : Addr → Prop) (h : Heap) : Prop where
  sub : ∀ a, Z a → Z' a
  new : ∀ a, Z' a → Z a ∨ h.objs.size ≤ a
theorem ZExt.refl (Z : Addr → Prop) (h : Heap) : ZExt Z Z h := ⟨fun _ q => q, fun _ q => .inl q⟩
theorem ZExt.trans {Z Z₁ Z₂ : Addr → Prop} {h h₁ : Heap} (a : ZExt Z Z₁ h) (b : ZExt Z₁ Z₂ h₁) (s : h.objs.size ≤ h₁.objs.size) : ZExt Z Z₂ h :=
  ⟨fun x q => b.sub x (a.sub x q), fun x q => (b.new x q).elim (a.new x) fun q => .inr (Nat.le_trans s q)⟩
structure PreG (P : Pm) (n : Nat) (Z : Addr → Prop) (env : Env) (fm : Fm) (μ : Mu) (s : Shared) : Prop where
  pre : Pre P Z env fm μ s
  own : ∀ a l, μ a = some l → Z a ∧ n ≤ a
  all : ∀ a, Z a → n ≤ a → ∃ l, μ a = some l
  frm : ∀ a ∈ XE env, n ≤ a
  hn : 100 ≤ n
  le : n ≤ s.heap.objs.size
noncomputable abbrev PostG := List (Str × T) → Mu → Rf → Prop
noncomputable def OutG (P : Pm) (n : Nat) (Z : Addr → Prop) (env : Env) (nm : List (Str × NameKind)) (s : Shared) (Post : PostG) (Q : Flow → Shared → Prop) : Prop :=
  ∀ f h' tk Z' vars' μ' r, Post vars' μ' r → PreG P n Z' env ⟨nm, vars'⟩ μ' (up s h' tk) → KeepG n Z' (XE env) s.heap h' → ZExt Z Z' s.heap → RF Z' h' f r → Q f (up s h' tk)
noncomputable abbrev Gx (prog : Program) (w : World) (P : Pm) (A : Around) (n : Nat) (env : Env) (nm : List (Str × NameKind)) (vars : List (Str × T)) (μ : Mu) (t : Sem Flow) (Post : PostG) : Prop :=
  ∀ {Z : Addr → Prop} (s : Shared) (Q : Flow → Shared → Prop) (E : Value → Shared → Prop), PreG P n Z env ⟨nm, vars⟩ μ s → OutG P n Z env nm s Post Q → wpAny (model prog w) A t Q E s
section
variable {prog : Program} {w : World} {P : Pm} {A : Around} {Z : Addr → Prop} {env : Env} {nm : List (Str × NameKind)} {vars vars' : List (Str × T)} {μ : Mu} {n : Nat} {Post : PostG}
theorem PreG.next {fm : Fm} {s : Shared} (p : PreG P n Z env fm μ s) {h' : Heap} {tk : Nat} (tp : 0 < tk) (e : Keep [] s.heap h') (rb : RB P h') : PreG P n Z env fm μ (up s h' tk) :=
  ⟨p.pre.next tp e rb, p.own, p.all, p.frm, p.hn, Nat.le_trans p.le e.size⟩
theorem PreG.nextS {s : Shared} (p : PreG P n Z env ⟨nm, vars⟩ μ s) {X : List Addr} {h' : Heap} {tk : Nat} (tp : 0 < tk) (e : Keep X s.heap h') (rb : RB P h') (fo : FrmOk Z env ⟨nm, vars'⟩ h') : PreG P n Z env ⟨nm, vars'⟩ μ (up s h' tk) :=
  ⟨p.pre.nextS tp e rb fo, p.own, p.all, p.frm, p.hn, Nat.le_trans p.le e.size⟩
theorem OutG.next {s : Shared} {h₁ : Heap} {t₁ : Nat} {Z₁ : Addr → Prop} {Q : Flow → Shared → Prop} (o : OutG P n Z env nm s Post Q) (k : KeepG n Z₁ (XE env) s.heap h₁) (z : ZExt Z Z₁ s.heap) : OutG P n Z₁ env nm (up s h₁ t₁) Post Q :=
  fun f h' tk Z' vars' μ' r hp pr k' z' rf => o f h' tk Z' vars' μ' r hp pr (k.trans k' z'.sub) (z.trans z' k.size) rf
theorem gx_of_ex {t : Sem Flow} {r : Rf} (h : Ex prog w P A env nm μ t vars vars' r) (hp : Post vars' μ r) : Gx prog w P A n env nm vars μ t Post := fun {Z} s Q E p o =>
  h s Q E p.pre fun f h' tk tp k rb fo rf => o f h' tk Z vars' μ r hp (p.nextS tp k rb fo) (.of k) (.refl _ _) rf
theorem gx_weak {t : Sem Flow} {Post' : PostG} (h : Gx prog w P A n env nm vars μ t Post) (hp : ∀ v m r, Post v m r → Post' v m r) : Gx prog w P A n env nm vars μ t Post' := fun s Q E p o =>
  h s Q E p fun f h' tk Z' vars' μ' r q pr k z rf => o f h' tk Z' vars' μ' r (hp _ _ _ q) pr k z rf
theorem gx_nil (hp : Post vars μ .next) : Gx prog w P A n env nm vars μ (execs [] env) Post := gx_of_ex ex_nil hp
theorem gx_cons {st : Stmt} {rest : List Stmt} {Post₁ : PostG} (h1 : Gx prog w P A n env nm vars μ (exec st env) Post₁) (h2 : ∀ v m r, Post₁ v m r → r = .next ∧ Gx prog w P A n env nm v m (execs rest env) Post) :
    Gx prog w P A n env nm vars μ (execs (st :: rest) env) Post := fun s Q E p o =>
  wpAny_execs_cons (h1 s _ E p fun f h' tk Z' v m r hp pr k z rf => by
    obtain ⟨rfl, h⟩ := h2 v m r hp
    cases rf
    exact h _ Q E pr (o.next k z))
/-- an exec that does not change lists, then the rest -/
theorem gx_ex {st : Stmt} {rest : List Stmt} (h1 : Ex prog w P A env nm μ (exec st env) vars vars' .next) (h2 : Gx prog w P A n env nm vars' μ (execs rest env) Post) : Gx prog w P A n env nm vars μ (execs (st :: rest) env) Post :=
  gx_cons (Post₁ := fun v m r => v = vars' ∧ m = μ ∧ r = .next) (gx_of_ex h1 ⟨rfl, rfl, rfl⟩) fun v m r h => by obtain ⟨rfl, rfl, rfl⟩ := h; exact ⟨rfl, h2⟩
theorem gx_ret {st : Stmt} {rest : List Stmt} {t : T} (h1 : Ex prog w P A env nm μ (exec st env) vars vars' (.ret t)) (hp : Post vars' μ (.ret t)) : Gx prog w P A n env nm vars μ (execs (st :: rest) env) Post :=
  gx_of_ex (ex_stop h1 (fun e => nomatch e)) hp
theorem gx_if {test : Expr} {body orelse : List Stmt} {pos : Pos} {b : Bool} (h : EvB prog w P A env ⟨nm, vars⟩ μ (isTrue test env (eval test env)) b)
    (h1 : b = true → Gx prog w P A n env nm vars μ (execs body env) Post) (h2 : b = false → Gx prog w P A n env nm vars μ (execs orelse env) Post) : Gx prog w P A n env nm vars μ (exec (.If test body orelse pos) env) Post := fun {Z} s Q E p o => by
  refine wpAny_If (h s _ E p.pre fun h' tk tp e rb => ?_)
  cases b with
  | true => exact h1 rfl _ Q E (p.next tp e rb) (o.next (.of e.weak) (.refl _ _))
  | false => exact h2 rfl _ Q E (p.next tp e rb) (o.next (.of e.weak) (.refl _ _))
/-- a list turns -/
theorem PreG.turn {fm : Fm} {s : Shared} (p : PreG P n Z env fm μ s) {a : Addr} {h₂ : Heap} {l₀ l : List T} (hm : μ a = some l₀) (sb : Heap.SameBut a s.heap h₂) {vs : List Value} (hp : h₂.PlainList a vs.toArray) (pr : Paired (RT Z s.heap) vs l) (hl : l.length ≤ 4096) {tk : Nat} (tp : 0 < tk) :
    PreG P n Z env fm (updM μ a l) (up s h₂ tk) ∧ KeepG n Z (XE env) s.heap h₂ := by
  obtain ⟨hz, hn⟩ := p.own a l₀ hm
  obtain ⟨h100, ws, ⟨nn, g⟩, _, _⟩ := p.pre.mo a l₀ hm
  have hr : ∀ x v, RT Z s.heap v x → RT Z h₂ v x := fun x v r => RT.hid hz sb.extBut g rfl x v r
  have nf : ¬ FO { cls := .type "list", dict := none, data := Data.seq ws.toArray nn, slots := #[] } := by
    rintro (⟨_, _, q⟩ | ⟨_, q⟩) <;> cases q
  have rb : RB P h₂ := p.pre.rb.turn sb g (.inr (.inl rfl)) h100
  refine ⟨⟨⟨rb, tp, p.pre.hz.mono (Nat.le_of_eq sb.1.symm), fun b k e => ?_, p.pre.fo.off sb.extBut g nf hr⟩, fun b k e => ?_, fun b q hb => ?_, p.frm, p.hn, Nat.le_trans p.le (Nat.le_of_eq sb.1.symm)⟩, Nat.le_of_eq sb.1.symm, fun b o e t z x => ?_⟩
  · by_cases hb : b = a
    · subst hb
      rw [updM_self] at e
      cases e
      exact ⟨h100, vs, hp, paired_mono (fun u v r => hr v u r) pr, hl⟩
    · rw [updM_ne hb] at e
      obtain ⟨q1, us, q2, q3, q4⟩ := p.pre.mo b k e
      exact ⟨q1, us, q2.extBut sb.extBut hb, paired_mono (fun u v r => hr v u r) q3, q4⟩
  · by_cases hb : b = a
    · subst hb; exact ⟨hz, hn⟩
    · rw [updM_ne hb] at e; exact p.own b k e
  · by_cases hb' : b = a
    · subst hb'; exact ⟨l, updM_self⟩
    · rw [updM_ne hb']; exact p.all b q hb
  · have hb : b ≠ a := by
      intro q; subst q
      exact z.elim (fun q => absurd hn (Nat.not_le.mpr q)) fun q => q hz
    exact (sb.2 b hb).trans e
/-- trees later -/
theorem RT.later {fm : Fm} {s : Shared} (p : PreG P n Z env fm μ s) {Z' : Addr → Prop} {h' : Heap} {X : List Addr} (k : KeepG n Z' X s.heap h') (z : ZExt Z Z' s.heap) : ∀ (x : T) (v : Value), RT Z s.heap v x → RT Z' h' v x := by
  have tb := p.pre.rb.tb
  have nz : ∀ b o, s.heap.get? b = some o → o.cls ≠ .type "list" → b < n ∨ ¬ Z' b := fun b o g hc => by
    rcases Nat.lt_or_ge b n with q | q
    · exact .inl q
    · refine .inr fun w => ?_
      rcases z.new b w with w | w
      · obtain ⟨l, e⟩ := p.all b w q
        obtain ⟨_, ws, ⟨nn, g'⟩, _⟩ := p.pre.mo b l e
        rw [g] at g'; cases g'
        exact hc rfl
      · exact absurd (Heap.lt_size g) (Nat.not_lt.mpr w)
  refine RT.gen (fun a its t => ?_) (fun a _ _ _ _ _ _ q => k.keep _ _ q (tb.nt q rfl) (nz _ _ q (by simp only; decide)) (fun _ f => by rcases f with ⟨_, _, q⟩ | ⟨_, q⟩ <;> cases q)) (fun a its na q => ?_)
  · obtain ⟨o, ho, hc, m, hd⟩ := t
    exact ⟨o, k.keep _ o ho (tb.nt ho hc) (nz _ _ ho (by rw [hc]; decide)) (fun _ f => by rcases f with ⟨_, _, q⟩ | ⟨_, q⟩ <;> (rw [hd] at q; cases q)), hc, m, hd⟩
  · obtain ⟨m, g⟩ := q
    have na' : ¬ Z' _ := fun w => (z.new _ w).elim na fun w => absurd (Heap.lt_size g) (Nat.not_lt.mpr w)
    exact ⟨na', m, k.keep _ _ g (tb.nt g rfl) (.inr na') (fun _ f => by rcases f with ⟨_, _, q⟩ | ⟨_, q⟩ <;> cases q)⟩
/-! iterators over what is not hidden -/
noncomputable def IterG (Z : Addr → Prop) (h : Heap) (I : Addr) (rem : List T) : Prop :=
  (∃ (l : Addr) (vs : List Value) (i : Nat), ¬ Z l ∧ h.IsListIter I l i ∧ l < I ∧ h.PlainList l vs.toArray ∧ Paired (RT Z h) (vs.drop i) rem) ∨ (∃ x : Int, IsRangeIter h I x rem.length 1 ∧ rem = rangeT x rem.length)
theorem IterG.at {h : Heap} {I : Addr} {rem : List T} (i : IterG Z h I rem) : IterAt Z h I rem := by
  rcases i with ⟨l, vs, i, _, a, b, c, d⟩ | q
  · exact .inl ⟨l, vs, i, a, b, c, d⟩
  · exact .inr q
theorem IterG.later {fm : Fm} {s : Shared} (p : PreG P n Z env fm μ s) {I : Addr} {rem : List T} (i : IterG Z s.heap I rem) {Z' : Addr → Prop} {h' : Heap} {X : List Addr} (k : KeepG n Z' X s.heap h') (z : ZExt Z Z' s.heap) (hI : 100 ≤ I) : IterG Z' h' I rem := by
  have nz : ∀ b o, s.heap.get? b = some o → o.cls ≠ .type "list" → b < n ∨ ¬ Z' b := fun b o g hc => by
    rcases Nat.lt_or_ge b n with q | q
    · exact .inl q
    · refine .inr fun w => ?_
      rcases z.new b w with w | w
      · obtain ⟨l, e⟩ := p.all b w q
        obtain ⟨_, ws, ⟨nn, g'⟩, _⟩ := p.pre.mo b l e
        rw [g] at g'; cases g'
        exact hc rfl
      · exact absurd (Heap.lt_size g) (Nat.not_lt.mpr w)
  rcases i with ⟨l, vs, i, na, ⟨o, g, c, d⟩, li, ⟨m, q⟩, pr⟩ | ⟨x, g, r⟩
  · have na' : ¬ Z' l := fun w => (z.new _ w).elim na fun w => absurd (Heap.lt_size q) (Nat.not_lt.mpr w)
    refine .inl ⟨l, vs, i, na', ⟨o, k.keep _ _ g (nt_hi hI) (nz _ _ g (by rw [c]; decide)) (fun _ f => by rcases f with ⟨_, _, q⟩ | ⟨_, q⟩ <;> (rw [d] at q; cases q)), c, d⟩, li,
      ⟨m, k.keep _ _ q (p.pre.rb.tb.nt q rfl) (.inr na') (fun _ f => by rcases f with ⟨_, _, q⟩ | ⟨_, q⟩ <;> cases q)⟩, paired_mono (fun a b r => RT.later p k z b a r) pr⟩
  · exact .inr ⟨x, k.keep _ _ g (nt_hi hI) (nz _ _ g (by simp only; decide)) (fun _ f => by rcases f with ⟨_, _, q⟩ | ⟨_, q⟩ <;> cases q), r⟩
end
end Mine
end
section
namespace Mine
open PySem PyProof.Rows
theorem KeepG.newer {n : Nat} {Z : Addr → Prop} {X : List Addr} {h h₁ h₂ : Heap} (k : KeepG n Z X h h₁) {a : Addr} (hs : Heap.ExtBut a h₁ h₂) (sz : h₁.objs.size ≤ h₂.objs.size) (ha : h.objs.size ≤ a) : KeepG n Z X h h₂ :=
  ⟨Nat.le_trans k.size sz, fun b o e t z x => hs b o (Nat.ne_of_lt (Nat.lt_of_lt_of_le (Heap.lt_size e) ha)) (k.keep b o e t z x)⟩
section
variable {prog : Program} {w : World} {P : Pm} {A : Around} {Z : Addr → Prop} {env : Env} {nm : List (Str × NameKind)} {vars vars' : List (Str × T)} {μ : Mu} {n : Nat} {Post : PostG}
theorem IterG.cls {h : Heap} {I : Addr} {rem : List T} (i : IterG Z h I rem) : ∃ o, h.get? I = some o ∧ Soft o ∧ (o.cls ≠ .type "tuple" ∧ o.cls ≠ .type "list" ∧ o.cls ≠ .type "range") ∧ ¬ FO o := by
  obtain ⟨o, g, so, _⟩ := i.at.soft
  exact ⟨o, g, so, iter_cls i.at g⟩
/-- an iterator turns -/
theorem PreG.off {fm : Fm} {s : Shared} (p : PreG P n Z env fm μ s) {c : Addr} {oc : Obj} {h' : Heap} {tk : Nat} (tp : 0 < tk) (hs : Heap.ExtBut c s.heap h') (sz : s.heap.objs.size ≤ h'.objs.size) (g : s.heap.get? c = some oc) (so : Soft oc)
    (hc : oc.cls ≠ .type "tuple" ∧ oc.cls ≠ .type "list" ∧ oc.cls ≠ .type "range") (nf : ¬ FO oc) (h100 : 100 ≤ c) : PreG P n Z env fm μ (up s h' tk) := by
  have hr := fun x v => RT.off hs g hc (Z := Z) x v
  refine ⟨⟨p.pre.rb.ext hs sz g so h100, tp, p.pre.hz.mono sz, fun b k e => ?_, p.pre.fo.off hs g nf hr⟩, p.own, p.all, p.frm, p.hn, Nat.le_trans p.le sz⟩
  obtain ⟨q1, us, ⟨m, q2⟩, q3, q4⟩ := p.pre.mo b k e
  have hb : b ≠ c := fun q => by subst q; rw [g] at q2; cases q2; exact hc.2.1 rfl
  exact ⟨q1, us, ⟨m, hs b _ hb q2⟩, paired_mono (fun u v r => hr v u r) q3, q4⟩
theorem iterG_lst {l : List T} {s : Shared} {v : Value} {Q : Value → Shared → Prop} {E : Value → Shared → Prop} (rb : RB P s.heap) (r : RT Z s.heap v (.lst l))
    (o : ∀ h', Keep [] s.heap h' → RB P h' → IterG Z h' s.heap.objs.size l → Q (.ref s.heap.objs.size) { s with heap := h' }) : wpAny (model prog w) A (pyIter v) Q E s := by
  cases r with
  | lst na p q z =>
    refine wpAny_pyIter_list p.isList (o _ (Keep.push _ _) (rb.push _) (.inl ⟨_, _, 0, na, ⟨_, Heap.get?_push_size _ rfl, rfl, rfl⟩, (p.elim fun _ q => Heap.lt_size q), (Keep.push (X := []) _ _).plain rb.tb p, ?_⟩))
    exact paired_mono (fun a b r => RT.mono (Keep.push (X := []) _ _) rb.tb b a r) q
theorem iterG_rng {k : Nat} (hk : k ≤ 4096) {s : Shared} {v : Value} {Q : Value → Shared → Prop} {E : Value → Shared → Prop} (rb : RB P s.heap) (r : RT Z s.heap v (.rng k))
    (o : ∀ h', Keep [] s.heap h' → RB P h' → IterG Z h' s.heap.objs.size (rangeT 0 k) → Q (.ref s.heap.objs.size) { s with heap := h' }) : wpAny (model prog w) A (pyIter v) Q E s := by
  cases r with
  | rng r =>
    have hsmall : Builtin.Range.small 0 k 1 = true := by
      unfold Builtin.Range.small Builtin.Range.rangeSize Builtin.Range.rangeFitsLong
      simp
      split <;> omega
    refine wpAny_pyIter_range r hsmall (o _ (Keep.push _ _) (rb.push _) (.inr ⟨0, ?_, by rw [rangeT_len]⟩))
    have : Builtin.Range.rangeSize 0 k 1 = (rangeT 0 k).length := by
      rw [rangeT_len]
      unfold Builtin.Range.rangeSize
      simp
      omega
    rw [this]
    exact Heap.get?_push_size _ rfl
theorem nextG_item {s : Shared} {I : Addr} {x : T} {rem : List T} {Q : Option Value → Shared → Prop} {E : Value → Shared → Prop} (i : IterG Z s.heap I (x :: rem)) (ht : 0 < s.toks)
    (o : ∀ v h' tk, 0 < tk → Heap.SameBut I s.heap h' → RT Z h' v x → IterG Z h' I rem → Q (some v) (up s h' tk)) : wpAny (model prog w) A (pyNext (.ref I)) Q E s := by
  obtain ⟨ob, g, so, hc, nf⟩ := i.cls
  have rtI : ∀ h', Heap.SameBut I s.heap h' → ∀ v x, RT Z s.heap v x → RT Z h' v x := fun h' hs v x r => RT.off hs.extBut g hc x v r
  rcases i with ⟨l, vs, i, na, hit, li, p, q⟩ | ⟨a, hit, hr⟩
  · have hi : i < vs.length := by
      rcases Nat.lt_or_ge i vs.length with h | h
      · exact h
      · rw [List.drop_eq_nil_of_le h] at q; cases q
    rw [List.drop_eq_getElem_cons hi] at q
    cases q with
    | cons q1 q2 =>
      refine wpAny_pyNext_list_item hit p.isList (x := vs[i]) (by simp) fun h' hit' hs => ?_
      refine o _ h' s.toks ht hs (rtI h' hs _ _ q1) (.inl ⟨l, vs, i + 1, na, hit', li, ?_, paired_mono (fun a b r => rtI h' hs a b r) q2⟩)
      obtain ⟨m, hp⟩ := p
      exact ⟨m, (hs.2 l (Nat.ne_of_lt li)).trans hp⟩
  · refine wpAny_pyNext_range_item hit (by simp) fun h' hit' hs => ?_
    have hx : x = .sc (.int a) ∧ rem = rangeT (a + 1) rem.length := by
      rw [List.length_cons] at hr
      injection hr with h1 h2
      exact ⟨h1, h2⟩
    obtain ⟨rfl, hx⟩ := hx
    refine o _ h' _ (Nat.succ_pos _) hs (.sc (.int _ _)) (.inr ⟨a + 1, ?_, hx⟩)
    have e1 : ((T.sc (Sc.int a) :: rem).length : Int) - 1 = rem.length := by simp
    rw [e1] at hit'
    exact hit'
theorem gx_for {x : Str} {px pos : Pos} {iter : Expr} {body : List Stmt} {src : T} {items : List T} {k : NameKind} (Inv : List T → List (Str × T) → Mu → Prop) (hA : A.handled = none) (hk : nm.lookup x = some k) (hk' : k = .local ∨ k = .cell)
    (hs : ∀ env x, foldedSetIterable iter env x = pure x) (hiter : Ev prog w P A env ⟨nm, vars⟩ μ (eval iter env) src) (hsrc : src = .lst items ∨ ∃ j, j ≤ 4096 ∧ src = .rng j ∧ items = rangeT 0 j) (h0 : Inv items vars μ)
    (turn : ∀ it rem v m, Inv (it :: rem) v m → Gx prog w P A n env nm ((x, it) :: v) m (execs body env) (fun v' m' r => r = .next ∧ Inv rem v' m')) (fin : ∀ v m, Inv [] v m → Post v m .next) :
    Gx prog w P A n env nm vars μ (exec (.For (.Name x px) iter body [] pos) env) Post := fun {Z} s Q E p o => by
  refine wpAny_For ?_ (fun v => hs env v)
  refine hiter s _ E p.pre fun v h₁ tk₁ tp₁ e₁ rb₁ rv₁ => ?_
  have p₁ := p.next tp₁ e₁ rb₁
  have start : ∀ h₂, Keep [] h₁ h₂ → RB P h₂ → IterG Z h₂ h₁.objs.size items → codeAny (model prog w) A (.forLoop (.Name x px) (.ref h₁.objs.size) body [] env) (fun r s' => match r with | .ok f => Q f s' | .error e => cameBackBy (model prog w) A env E e s') (up s h₂ tk₁) := by
    intro h₂ e₂ rb₂ it₂
    have p₂ := p₁.next tp₁ e₂ rb₂
    generalize hI : h₁.objs.size = I at it₂ ⊢
    have b100 : 100 ≤ I := by rw [← hI]; exact rb₁.big
    refine codeAny_forLoop_any (fun j s' => ∃ h' tk Z' rem v m, s' = (up s h' tk) ∧ j = rem.length + 1 ∧ Inv rem v m ∧ PreG P n Z' env ⟨nm, v⟩ m (up s h' tk) ∧ KeepG n Z' (XE env) h₁ h' ∧ ZExt Z Z' h₁ ∧ IterG Z' h' I rem) ?_ (items.length + 1)
      ⟨h₂, tk₁, Z, items, vars, μ, rfl, rfl, h0, p₂, .of e₂.weak, .refl _ _, it₂⟩
    rintro j _ ⟨h', tk, Z', rem, v, m, rfl, rfl, inv, pr, kp, ze, ia⟩
    obtain ⟨oI, gI, so, clsI, nfI⟩ := ia.cls
    have ze0 : ∀ {Z'' : Addr → Prop}, ZExt Z Z'' h₁ → ZExt Z Z'' s.heap := fun q => ⟨q.sub, fun a b => (q.new a b).imp id fun z => Nat.le_trans e₁.size z⟩
    cases rem with
    | nil =>
      refine next_end hA ia.at fun h₄ ex sz => ?_
      have k4 := kp.newer ex sz (Nat.le_of_eq hI)
      have p4 := pr.off pr.pre.ht ex sz gI so clsI nfI b100
      refine wpAny_execs_nil ?_
      exact o .next h₄ tk Z' v m .next (fin v m inv) p4 ((KeepG.of (Z := Z) e₁.weak).trans k4 ze.sub) (ze0 ze) .next
    | cons it rem =>
      refine nextG_item ia pr.pre.ht fun v₀ h₄ tk₄ tp₄ sb₄ rv₄ ia₄ => ?_
      have k4 := kp.newer sb₄.extBut (Nat.le_of_eq sb₄.1.symm) (Nat.le_of_eq hI)
      have p4 := pr.off tp₄ sb₄.extBut (Nat.le_of_eq sb₄.1.symm) gI so clsI nfI b100
      refine wpAny_pure (assign_Name (store_ok hk hk' p4.pre.rb tp₄ p4.pre.fo rv₄ fun h₅ tk₅ tp₅ k₅ rb₅ fo₅ _ => ?_))
      have p5 := p4.nextS tp₅ k₅ rb₅ fo₅
      have k5 : KeepG n Z' (XE env) h₄ h₅ := .of k₅
      have ia₅ := IterG.later p4 ia₄ k5 (.refl _ _) b100
      refine turn it rem v m inv _ _ _ p5 fun f h₆ tk₆ Z₆ v₆ m₆ r₆ hp₆ p6 k6 z6 rf₆ => ?_
      obtain ⟨rfl, inv₆⟩ := hp₆
      cases rf₆
      have k56 := (k4.trans k5 (fun _ q => q)).trans k6 z6.sub
      exact ⟨rem.length + 1, by simp, h₆, tk₆, Z₆, rem, v₆, m₆, rfl, rfl, inv₆, p6, k56, ze.trans z6 (Nat.le_trans kp.size (Nat.le_trans (Nat.le_of_eq sb₄.1.symm) k₅.size)), IterG.later p5 ia₅ k6 z6 b100⟩
  rcases hsrc with rfl | ⟨j, hj, rfl, rfl⟩
  · exact iterG_lst rb₁ rv₁ start
  · exact iterG_rng hj rb₁ rv₁ start
theorem gx_while {test : Expr} {body : List Stmt} {pos : Pos} {j₀ : Nat} (Inv : Nat → List (Str × T) → Mu → Prop) (h0 : Inv j₀ vars μ)
    (turn : ∀ j v m, Inv j v m → ∃ b, EvB prog w P A env ⟨nm, v⟩ m (isTrue test env (eval test env)) b ∧
      (b = true → Gx prog w P A n env nm v m (execs body env) (fun v' m' r => (r = .next ∧ ∃ j', j' < j ∧ Inv j' v' m') ∨ (∃ t, r = .ret t ∧ Post v' m' r))) ∧ (b = false → Post v m .next)) :
    Gx prog w P A n env nm vars μ (exec (.While test body [] pos) env) Post := fun {Z} s Q E p o => by
  refine wpAny_While (codeAny_whileLoop (fun j s' => ∃ h' tk Z' v m, s' = (up s h' tk) ∧ Inv j v m ∧ PreG P n Z' env ⟨nm, v⟩ m (up s h' tk) ∧ KeepG n Z' (XE env) s.heap h' ∧ ZExt Z Z' s.heap) ?_ j₀
    ⟨s.heap, s.toks, Z, vars, μ, rfl, h0, p, .of (Keep.refl _ _), .refl _ _⟩)
  rintro j _ ⟨h', tk, Z', v, m, rfl, inv, pr, kp, ze⟩
  obtain ⟨b, hb, h1, h2⟩ := turn j v m inv
  refine hb _ _ _ pr.pre fun h₁ tk₁ tp₁ e₁ rb₁ => ?_
  have p1 := pr.next tp₁ e₁ rb₁
  have k1 := kp.trans (KeepG.of (n := n) (Z := Z') (X := XE env) e₁.weak) (fun _ q => q)
  cases b with
  | false =>
    simp only [Bool.false_eq_true, if_false]
    refine wpAny_execs_nil ?_
    exact o .next h₁ tk₁ Z' v m .next (h2 rfl) p1 k1 ze .next
  | true =>
    simp only [if_true]
    refine h1 rfl _ _ _ p1 fun f h₂ tk₂ Z₂ v₂ m₂ r₂ hp₂ p2 k2 z2 rf₂ => ?_
    have k12 := k1.trans k2 z2.sub
    have z12 := ze.trans z2 k1.size
    rcases hp₂ with ⟨rfl, j', hj, inv'⟩ | ⟨t, rfl, hp⟩
    · cases rf₂
      exact ⟨j', hj, h₂, tk₂, Z₂, v₂, m₂, rfl, inv', p2, k12, z12⟩
    · cases rf₂ with
      | ret q => exact o _ h₂ tk₂ Z₂ v₂ m₂ _ hp p2 k12 z12 (.ret q)
/-! what a function hands back -/
noncomputable def frz (μ : Mu) : Nat → T → T
  | 0, t => t
  | k + 1, t => match t with
    | .mut a => match μ a with
      | some l => .lst (l.map (frz μ k))
      | none => .mut a
    | t => t
theorem paired_map_right {α β γ : Type} {F : α → β → Prop} {G : α → γ → Prop} {f : β → γ} (h : ∀ a b, F a b → G a (f b)) {l₁ : List α} {l₂ : List β} (p : Paired F l₁ l₂) : Paired G l₁ (l₂.map f) := by
  induction p with
  | nil => exact .nil
  | cons a _ ih => exact .cons (h _ _ a) ih
theorem frz_ok {fm : Fm} {s : Shared} (p : PreG P n Z env fm μ s) {Z₀ : Addr → Prop} (hz : ∀ a, Z₀ a → Z a) (hn : ∀ a, Z₀ a → a < n) : ∀ (k : Nat) (t : T) (v : Value), RT Z s.heap v t → RT Z₀ s.heap v (frz μ k t)
  | 0, t, v, r => RT.weak hz t v r
  | k + 1, t, v, r => by
    cases t with
    | «mut» a =>
      cases r
      cases e : μ a with
      | none => unfold frz; simp only [e]; exact .mut
      | some l =>
        unfold frz; simp only [e]
        obtain ⟨_, vs, q2, q3, q4⟩ := p.pre.mo a l e
        refine .lst (fun q => absurd (hn a q) (Nat.not_lt.mpr (p.own a l e).2)) q2 (paired_map_right (fun u x r => frz_ok p hz hn k x u r) q3) (by rw [List.length_map]; exact q4)
    | sc x => exact RT.weak hz _ v r
    | tup x => exact RT.weak hz _ v r
    | lst x => exact RT.weak hz _ v r
    | rng x => exact RT.weak hz _ v r
theorem call_okG {a : Addr} {fd : FuncData} {params : List Str} {body : List Stmt} (F : FnAt P a fd params body nm) {Ts : List T} {R : T} (hroom : A.depth < recursionLimit) (hlen : params.length = Ts.length) (kf : Nat)
    (hb : ∀ env n, Gx prog w P (A.deeper env) n env nm (params.zip Ts) (fun _ => none) (execs body env) (fun v m r => ∃ t, r = .ret t ∧ frz m kf t = R)) : OpL prog w P A μ (fun vs => call (.ref a) vs) Ts R := fun {Z} s xs Q E rb ht mo hz px o => by
  refine call_in F hroom hlen rb ht mo hz px fun env h₁ tk₁ _ _ hX sz keep p => ?_
  have pr : PreG P s.heap.objs.size Z env ⟨nm, params.zip Ts⟩ (fun _ => none) (up s h₁ tk₁) :=
    ⟨⟨p.rb, p.ht, p.hz, (fun _ _ e => nomatch e), p.fo⟩, (fun _ _ e => nomatch e), fun b q hb => absurd (hz b q) (Nat.not_lt.mpr hb), hX, rb.big, sz⟩
  refine hb env s.heap.objs.size _ _ _ pr fun f h' tk Z' v' m' r hp p' k z rf => ?_
  obtain ⟨t, rfl, rfl⟩ := hp
  cases rf with
  | ret q =>
    refine o _ h' tk p'.pre.ht ⟨Nat.le_trans sz k.size, fun b ob e nt _ => k.keep b ob (keep b ob e) nt (.inl (Heap.lt_size e)) fun hm => ?_⟩ p'.pre.rb (frz_ok p' z.sub (fun b q => hz b q) kf t _ q)
    exact absurd (Heap.lt_size e) (Nat.not_lt.mpr (hX b hm))
end
end Mine
end
section
namespace Mine
open PySem PyProof.Rows
theorem scs_any {Z Z' : Addr → Prop} {h h' : Heap} {q : List Sc} {vs : List Value} (p : Paired (RT Z h) vs (q.map .sc)) : Paired (RT Z' h') vs (q.map .sc) := paired_sc (scs_ok p)
theorem inter_fn {env : Env} (h : env.scope.kind = .function) : interactive env = false := by
  unfold interactive
  rw [h]; rfl
section
variable {prog : Program} {w : World} {P : Pm} {A : Around} {Z : Addr → Prop} {env : Env} {nm : List (Str × NameKind)} {vars vars' : List (Str × T)} {μ : Mu} {n : Nat} {Post : PostG}
/-- a new list -/
theorem evn {t : Sem Value} {l : List T} {q : List Sc} (h : Ev prog w P A env ⟨nm, []⟩ (fun _ => none) t (.lst l)) (hq : l = q.map .sc) {fm : Fm} (hnm : fm.names = nm) {s : Shared} {Q : Value → Shared → Prop} {E : Value → Shared → Prop} (p : PreG P n Z env fm μ s)
    (o : ∀ a h' tk, μ a = none → s.heap.objs.size ≤ a → ZExt Z (Hid Z a) s.heap → PreG P n (Hid Z a) env fm (updM μ a l) (up s h' tk) → Keep [] s.heap h' → Q (.ref a) (up s h' tk)) : wpAny (model prog w) A t Q E s := by
  have f := p.pre.fo
  have f' : FrmOk (fun a => a < s.heap.objs.size) env ⟨nm, []⟩ s.heap := by
    refine ⟨f.kind, f.names.trans hnm, f.glob, f.blt, f.hi, ?_, fun x k => ?_, f.inj⟩
    · obtain ⟨m, hn, _⟩ := f.loc
      exact ⟨m, hn, fun x y e => nomatch e⟩
    · obtain ⟨c, ov, a, b, d, _⟩ := f.cel x (by rw [hnm]; exact k)
      exact ⟨c, ov, a, b, d, fun y e => nomatch e⟩
  refine h (Z := fun a => a < s.heap.objs.size) s _ E ⟨p.pre.rb, p.pre.ht, fun _ q => q, (fun _ _ e => nomatch e), f'⟩ fun v h' tk tp k rb rv => ?_
  · obtain ⟨a, vs, rfl, na, pl, pr, hl⟩ := rt_lst rv
    have ha : s.heap.objs.size ≤ a := Nat.not_lt.mp na
    have hm : μ a = none := by
      cases e : μ a with
      | none => rfl
      | some l' => exact absurd (p.pre.hz a (p.own a l' e).1) (Nat.not_lt.mpr ha)
    refine o a h' tk hm ha ⟨fun _ q => .inl q, fun b q => q.imp id fun q => by rw [q]; exact ha⟩ ⟨⟨rb, tp, fun b q => q.elim (fun q => Nat.lt_of_lt_of_le (p.pre.hz b q) k.size) fun q => ?_, fun b k' e => ?_, (f.hide ha).mono k p.pre.rb.tb⟩, fun b k' e => ?_, fun b q hb => ?_, p.frm, p.hn, Nat.le_trans p.le k.size⟩ k
    · rw [q]; obtain ⟨_, g⟩ := pl; exact Heap.lt_size g
    · by_cases hb : b = a
      · subst hb
        rw [updM_self] at e
        cases e
        exact ⟨Nat.le_trans p.pre.rb.big ha, vs, pl, by rw [hq] at pr ⊢; exact scs_any pr, hl⟩
      · rw [updM_ne hb] at e
        exact ((p.pre.mo.hide ha).mono k p.pre.rb.tb) b k' e
    · by_cases hb : b = a
      · subst hb; exact ⟨.inr rfl, Nat.le_trans p.le ha⟩
      · rw [updM_ne hb] at e; exact ⟨.inl (p.own b k' e).1, (p.own b k' e).2⟩
    · by_cases hb' : b = a
      · subst hb'; exact ⟨l, updM_self⟩
      · rw [updM_ne hb']; exact p.all b (q.resolve_right hb') hb
theorem gx_assign_new {x : Str} {k : NameKind} {value : Expr} {pos' pos : Pos} {l : List T} {q : List Sc} (hk : nm.lookup x = some k) (hk' : k = .local ∨ k = .cell) (h : Ev prog w P A env ⟨nm, []⟩ (fun _ => none) (eval value env) (.lst l)) (hq : l = q.map .sc) (hc : isComp value = false)
    (hp : ∀ a, μ a = none → Post ((x, .mut a) :: vars) (updM μ a l) .next) : Gx prog w P A n env nm vars μ (exec (.Assign [.Name x pos'] value pos) env) Post := fun {Z} s Q E p o => by
  refine wpAny_Assign_Name (evn h hq rfl p fun a h' tk ha hs z p' k' => ?_) (swaps_false hc _ _ _)
  refine store_ok hk hk' p'.pre.rb p'.pre.ht p'.pre.fo (t := .mut a) .mut fun h₂ tk₂ tp₂ k₂ rb₂ f₂ _ => ?_
  exact o .next h₂ tk₂ (Hid Z a) _ _ .next (hp a ha) (p'.nextS tp₂ k₂ rb₂ f₂) ((KeepG.of (Z := Hid Z a) k'.weak).trans (.of k₂) fun _ q => q) z .next
/-- a method call as a statement -/
theorem stmt_method {recv arg : Expr} {name : Str} {apos pos pos' : Pos} {id : String} {a : Addr} (slot : Slot "list" name id) (hty : typeOf (.builtin id) = pure (.type "method_descriptor"))
    (hr : Ev prog w P A env ⟨nm, vars⟩ μ (eval recv env) (.mut a)) {l : List T} (hl : μ a = some l)
    (hb : ∀ env, attributeBase recv name env (eval recv env) = eval recv env) (hline : (apos.endLine == pos.line) = true) (hns : noStar arg = true)
    {s : Shared} {Q : Flow → Shared → Prop} {E : Value → Shared → Prop} (p : PreG P n Z env ⟨nm, vars⟩ μ s)
    (h : ∀ h' tk, 0 < tk → Keep [] s.heap h' → RB P h' → wpAny (model prog w) A (eval arg env) (fun v s₁ => wpAny (model prog w) A (call (.builtin id) [.ref a, v]) (fun _ => Q .next) E s₁) E (up s h' tk)) :
    wpAny (model prog w) A (exec (.Expr (.Call (.Attribute recv name apos) [arg] [] pos) pos') env) Q E s := by
  refine wpAny_Expr_any ?_ (inter_fn p.pre.fo.kind) (swaps_false rfl _ _ _)
  have e1 : backTo pos (starEach [arg] env) = [(false, eval arg env)] := by rw [star_cons hns]; rfl
  refine wpAny_Call_method (T := "list") (id := id) (hb env) (by rw [e1]; rfl) hline PySem.F.plainAttrs_list slot hty ?_
  refine hr s _ E p.pre fun v h' tk tp k rb rv => ?_
  cases rv
  obtain ⟨_, vs, ⟨m, g⟩, _⟩ := (p.pre.mo.mono k p.pre.rb.tb) a l hl
  refine ⟨⟨_, g, rfl⟩, fun b e => (by cases e; exact ⟨_, g, rfl⟩), ?_⟩
  rw [e1]
  exact Calls.callWith_builtin rfl (Calls.evalArgs_plain (Calls.spliced_cons (wpAny_mono (h h' tk tp k rb) (fun v s₁ q => Calls.spliced_nil q) fun _ _ e => e)))
theorem gx_append {recv arg : Expr} {apos pos pos' : Pos} {a : Addr} {l : List T} {t : T} (hr : Ev prog w P A env ⟨nm, vars⟩ μ (eval recv env) (.mut a)) (ha : Ev prog w P A env ⟨nm, vars⟩ μ (eval arg env) t) (hl : μ a = some l) (hlen : l.length < 4096)
    (hb : ∀ env, attributeBase recv (Str.ofString "append") env (eval recv env) = eval recv env) (hline : (apos.endLine == pos.line) = true) (hns : noStar arg = true) (hp : Post vars (updM μ a (l ++ [t])) .next) :
    Gx prog w P A n env nm vars μ (exec (.Expr (.Call (.Attribute recv (Str.ofString "append") apos) [arg] [] pos) pos') env) Post := fun {Z} s Q E p o => by
  refine stmt_method PySem.F.slot_list_append PySem.F.type_list_append hr hl hb hline hns p fun h' tk tp k rb => ?_
  have p' := p.next tp k rb
  refine ha _ _ E p'.pre fun v h₂ tk₂ tp₂ k₂ rb₂ rv₂ => ?_
  have p₂ := p'.next tp₂ k₂ rb₂
  obtain ⟨_, vs, pl, pr, hz⟩ := p₂.pre.mo a l hl
  refine wpAny_list_append_plain pl (fun h₃ pl₃ sb₃ => ?_) (by rw [List.size_toArray, paired_len pr, sizeLine_eq]; omega)
  have T := p₂.turn hl sb₃ (vs := vs ++ [v]) (l := l ++ [t]) (by rw [← List.push_toArray]; exact pl₃) (paired_snoc pr rv₂) (by simp; omega) tp₂
  exact o .next h₃ tk₂ Z _ _ .next hp T.1 ((KeepG.of (Z := Z) (k.trans k₂).weak).trans T.2 fun _ q => q) (.refl _ _) .next
theorem gx_append_new {recv arg : Expr} {apos pos pos' : Pos} {a : Addr} {l l' : List T} {q : List Sc} (hr : Ev prog w P A env ⟨nm, vars⟩ μ (eval recv env) (.mut a)) (ha : Ev prog w P A env ⟨nm, []⟩ (fun _ => none) (eval arg env) (.lst l')) (hq : l' = q.map .sc) (hl : μ a = some l) (hlen : l.length < 4096)
    (hb : ∀ env, attributeBase recv (Str.ofString "append") env (eval recv env) = eval recv env) (hline : (apos.endLine == pos.line) = true) (hns : noStar arg = true) (hp : ∀ b, μ b = none → Post vars (updM (updM μ b l') a (l ++ [.mut b])) .next) :
    Gx prog w P A n env nm vars μ (exec (.Expr (.Call (.Attribute recv (Str.ofString "append") apos) [arg] [] pos) pos') env) Post := fun {Z} s Q E p o => by
  refine stmt_method PySem.F.slot_list_append PySem.F.type_list_append hr hl hb hline hns p fun h' tk tp k rb => ?_
  have p' := p.next tp k rb
  refine evn ha hq rfl p' fun b h₂ tk₂ hb hs z p₂ k₂ => ?_
  have hab : a ≠ b := fun e => by subst e; rw [hl] at hb; cases hb
  have hl₂ : updM μ b l' a = some l := by rw [updM_ne hab]; exact hl
  obtain ⟨_, vs, pl, pr, hz⟩ := p₂.pre.mo a l hl₂
  refine wpAny_list_append_plain pl (fun h₃ pl₃ sb₃ => ?_) (by rw [List.size_toArray, paired_len pr, sizeLine_eq]; omega)
  have T := p₂.turn hl₂ sb₃ (vs := vs ++ [.ref b]) (l := l ++ [.mut b]) (by rw [← List.push_toArray]; exact pl₃) (paired_snoc pr .mut) (by simp; omega) p₂.pre.ht
  exact o .next h₃ tk₂ (Hid Z b) _ _ .next (hp b hb) T.1 ((KeepG.of (Z := Hid Z b) (k.trans k₂).weak).trans T.2 fun _ q => q) ⟨z.sub, fun c q => (z.new c q).imp id fun q => Nat.le_trans k.size q⟩ .next
theorem paired_set {α β : Type} {F : α → β → Prop} {a : α} {b : β} (f : F a b) {l₁ : List α} {l₂ : List β} (i : Nat) (p : Paired F l₁ l₂) : Paired F (l₁.set i a) (l₂.set i b) := by
  induction p generalizing i with
  | nil => exact .nil
  | cons g r ih => cases i with
    | zero => exact .cons f r
    | succ i => exact .cons g (ih i)
theorem paired_erase {α β : Type} {F : α → β → Prop} {l₁ : List α} {l₂ : List β} (i : Nat) (p : Paired F l₁ l₂) : Paired F (l₁.eraseIdx i) (l₂.eraseIdx i) := by
  induction p generalizing i with
  | nil => exact .nil
  | cons g r ih => cases i with
    | zero => exact r
    | succ i => exact .cons g (ih i)
theorem gx_setitem {recv idx value : Expr} {pos' pos : Pos} {a : Addr} {l : List T} {t : T} {i : Nat} (hv : Ev prog w P A env ⟨nm, vars⟩ μ (eval value env) t) (hr : Ev prog w P A env ⟨nm, vars⟩ μ (eval recv env) (.mut a)) (hi : Ev prog w P A env ⟨nm, vars⟩ μ (eval idx env) (.sc (.int i)))
    (hl : μ a = some l) (hil : i < l.length) (hc : isComp value = false) (hp : Post vars (updM μ a (l.set i t)) .next) : Gx prog w P A n env nm vars μ (exec (.Assign [.Subscript recv idx pos'] value pos) env) Post := fun {Z} s Q E p o => by
  refine wpAny_Assign_Subscript ?_ (swaps_false hc _ _ _)
  refine hv s _ E p.pre fun v h₁ tk₁ tp₁ k₁ rb₁ rv₁ => ?_
  have p₁ := p.next tp₁ k₁ rb₁
  refine hr _ _ E p₁.pre fun u h₂ tk₂ tp₂ k₂ rb₂ ru₂ => ?_
  have p₂ := p₁.next tp₂ k₂ rb₂
  cases ru₂
  refine hi _ _ E p₂.pre fun iv h₃ tk₃ tp₃ k₃ rb₃ ri₃ => ?_
  have p₃ := p₂.next tp₃ k₃ rb₃
  cases ri₃ with | sc q => cases q with | int _ u =>
  obtain ⟨_, vs, ⟨m, g⟩, pr, hz⟩ := p₃.pre.mo a l hl
  have hlen := paired_len pr
  refine PySem.W.ki_setAt (n := m) g (Int.natCast_nonneg i) (by omega) (by rw [List.size_toArray]; omega) ?_
  have sb := Heap.SameBut.update h₃ a (Obj.mapSeq (·.setIfInBounds (i : Int).toNat v))
  have rv₃ := ((rv₁.mono k₂ rb₁.tb).mono k₃ rb₂.tb)
  have g' := PySem.IsL.update (n := m) g (·.setIfInBounds (i : Int).toNat v)
  have T := p₃.turn hl sb (vs := vs.set i v) (l := l.set i t) ⟨_, by simpa using g'⟩ (paired_set rv₃ i pr) (by rw [List.length_set]; exact hz) tp₃
  exact o .next _ tk₃ Z _ _ .next hp T.1 ((KeepG.of (Z := Z) ((k₁.trans k₂).trans k₃).weak).trans T.2 fun _ q => q) (.refl _ _) .next
theorem gx_del0 {recv idx : Expr} {pos' pos : Pos} {a : Addr} {x : T} {l : List T} (hr : Ev prog w P A env ⟨nm, vars⟩ μ (eval recv env) (.mut a)) (hi : Ev prog w P A env ⟨nm, vars⟩ μ (eval idx env) (.sc (.int 0)))
    (hl : μ a = some (x :: l)) (hp : Post vars (updM μ a l) .next) : Gx prog w P A n env nm vars μ (exec (.Delete [.Subscript recv idx pos'] pos) env) Post := fun {Z} s Q E p o => by
  refine wpAny_Delete (wpAny_deleteEach_cons (wpAny_delete_Subscript ?_))
  refine hr _ _ E p.pre fun u h₂ tk₂ tp₂ k₂ rb₂ ru₂ => ?_
  have p₂ := p.next tp₂ k₂ rb₂
  cases ru₂
  refine hi _ _ E p₂.pre fun iv h₃ tk₃ tp₃ k₃ rb₃ ri₃ => ?_
  have p₃ := p₂.next tp₃ k₃ rb₃
  cases ri₃ with | sc q => cases q with | int _ u =>
  obtain ⟨_, vs, pl, pr, hz⟩ := p₃.pre.mo a _ hl
  cases pr with
  | cons p1 p2 =>
    rename_i v vs
    refine wpAny_delItem_plain (k := 0) pl (by decide) (seqIndex_pos (by decide) (by simp) rfl) (fun h₄ pl₄ sb₄ => ?_) (by rw [List.size_toArray, List.length_cons, paired_len p2, sizeLine_eq]; simp at hz; omega)
    have T := p₃.turn hl sb₄ (vs := vs) (l := l) (by simpa using pl₄) p2 (by simp at hz; omega) tp₃
    refine wpAny_deleteEach_nil ?_
    exact o .next _ tk₃ Z _ _ .next hp T.1 ((KeepG.of (Z := Z) (k₂.trans k₃).weak).trans T.2 fun _ q => q) (.refl _ _) .next
theorem gx_remove {recv arg : Expr} {apos pos pos' : Pos} {a : Addr} {l : List T} {q : List Int} {x : Int} {j : Nat} (hr : Ev prog w P A env ⟨nm, vars⟩ μ (eval recv env) (.mut a)) (ha : Ev prog w P A env ⟨nm, vars⟩ μ (eval arg env) (.sc (.int x))) (hl : μ a = some l) (hq : intsOf l = some q)
    (hj : q[j]? = some x) (hno : ∀ m, m < j → q[m]? ≠ some x)
    (hb : ∀ env, attributeBase recv (Str.ofString "remove") env (eval recv env) = eval recv env) (hline : (apos.endLine == pos.line) = true) (hns : noStar arg = true) (hp : Post vars (updM μ a (l.eraseIdx j)) .next) :
    Gx prog w P A n env nm vars μ (exec (.Expr (.Call (.Attribute recv (Str.ofString "remove") apos) [arg] [] pos) pos') env) Post := fun {Z} s Q E p o => by
  refine stmt_method PySem.F.slot_list_remove PySem.F.type_list_remove hr hl hb hline hns p fun h' tk tp k rb => ?_
  have p' := p.next tp k rb
  refine ha _ _ E p'.pre fun v h₂ tk₂ tp₂ k₂ rb₂ rv₂ => ?_
  have p₂ := p'.next tp₂ k₂ rb₂
  cases rv₂ with | sc rv₂ => cases rv₂ with | int _ u =>
  obtain ⟨_, vs, ⟨m, g⟩, pr, hz⟩ := p₂.pre.mo a l hl
  have pi := intsOf_ok pr hq
  have hlen := paired_len pi
  have hjq := (List.getElem?_eq_some_iff.mp hj).1
  have at1 : ∀ i (hi : i < vs.toArray.size), ∃ y t, vs.toArray[i] = .int y t ∧ q[i]? = some y := fun i hi => by
    have hi' : i < vs.length := by simpa using hi
    have hiq : i < q.length := by omega
    obtain ⟨v', h1, h2⟩ := paired_get pi (List.getElem?_eq_getElem hiq)
    have e1 : vs.toArray[i] = v' := by rw [List.getElem?_eq_getElem hi'] at h1; injection h1
    rw [e1]
    generalize hy : q[i] = y at h2
    cases h2
    exact ⟨_, _, rfl, by rw [List.getElem?_eq_getElem hiq, hy]⟩
  refine call_meets PySem.F.slot_list_remove ⟨_, g, rfl⟩ PySem.F.entry_list_remove (PySem.F.args_list_remove_2 _ _) (MeetsSeq.list_remove a vs.toArray m (.int x u) (fun y => valI y == x) (fun y hy => ?_) j (by simp; omega) ?_ ?_ (by rw [List.size_toArray, sizeLine_eq]; have := paired_len pr; omega)) ⟨g, ?_⟩
  · obtain ⟨i, t, rfl⟩ := mem_isI pi (by simpa using hy)
    exact MeetsSeq.EqGives.int _ _ _ _
  · obtain ⟨y, t, e1, e2⟩ := at1 j (by simp; omega)
    rw [e1]
    rw [hj] at e2; cases e2
    show (x == x) = true
    simp
  · intro i hi hij
    obtain ⟨y, t, e1, e2⟩ := at1 i hi
    rw [e1]
    show (y == x) = false
    have : y ≠ x := fun e => hno i hij (by rw [e2, e])
    simpa using this
  · have sb := Heap.SameBut.update h₂ a (Obj.mapSeq fun xs => xs.eraseIdxIfInBounds j)
    have g' := PySem.IsL.update (n := m) g (fun xs => xs.eraseIdxIfInBounds j)
    have T := p₂.turn hl sb (vs := vs.eraseIdx j) (l := l.eraseIdx j) ⟨_, by simpa using g'⟩ (paired_erase j pr) (by rw [List.length_eraseIdx]; split <;> omega) tp₂
    exact o .next _ tk₂ Z _ _ .next hp T.1 ((KeepG.of (Z := Z) (k.trans k₂).weak).trans T.2 fun _ q => q) (.refl _ _) .next
end
end Mine
end
section
namespace Mine
open PySem PyProof.Rows
noncomputable abbrev Vars := List (Str × T)
noncomputable def locN (nm : List (Str × NameKind)) (x : Str) : Bool := nm.lookup x == some .local || nm.lookup x == some .cell
theorem locN_ok {nm : List (Str × NameKind)} {x : Str} (h : locN nm x = true) : ∃ k, nm.lookup x = some k ∧ (k = .local ∨ k = .cell) := by
  unfold locN at h
  rcases (Bool.or_eq_true _ _).mp h with q | q
  · exact ⟨.local, by simpa using q, .inl rfl⟩
  · exact ⟨.cell, by simpa using q, .inr rfl⟩
/-- what a statement leaves, with its proof -/
inductive ResX (p : Vars → Rf → Prop) where
  | ok (v : Vars) (r : Rf) (h : p v r)
  | no
namespace ResX
noncomputable def bind {p q : Vars → Rf → Prop} (x : ResX p) (k : (v : Vars) → (r : Rf) → p v r → ResX q) : ResX q := ResX.rec k .no x
noncomputable def val {p : Vars → Rf → Prop} (x : ResX p) : Option (Vars × Rf) := ResX.rec (fun v r _ => some (v, r)) none x
theorem get {p : Vars → Rf → Prop} {x : ResX p} {v : Vars} {r : Rf} (h : x.val = some (v, r)) : p v r := by
  cases x with
  | ok a b q => cases h; exact q
  | no => cases h
end ResX
noncomputable def Res.bindX {α : Type} {p : α → Prop} {q : Vars → Rf → Prop} (x : Res p) (k : (r : α) → p r → ResX q) : ResX q := Res.rec k .no x
noncomputable def XsK (μ : Mu) (nm : List (Str × NameKind)) (l : List Stmt) (v v' : Vars) (r : Rf) : Prop := ∀ {prog : Program} {w : World} {P : Pm} {A : Around} {env : Env}, Blt P → Sl 4 A → Ex prog w P A env nm μ (execs l env) v v' r
noncomputable def X1K (μ : Mu) (nm : List (Str × NameKind)) (s : Stmt) (v v' : Vars) (r : Rf) : Prop := ∀ {prog : Program} {w : World} {P : Pm} {A : Around} {env : Env}, Blt P → Sl 4 A → Ex prog w P A env nm μ (exec s env) v v' r
structure Lx (μ : Mu) where
  v : Lv μ
  x : (nm : List (Str × NameKind)) → (v : Vars) → (l : List Stmt) → ResX (XsK μ nm l v)
section
variable {μ : Mu}
noncomputable def sAsg (L : Lx μ) (nm : List (Str × NameKind)) (v : Vars) (ts : List Expr) (e : Expr) (q : Pos) : ResX (X1K μ nm (.Assign ts e q) v) :=
  (one ts).bindX fun t ht => (nameE t).bindX fun x hx => (chkP (locN nm x = true)).bindX fun _ hl => (chkP (isComp e = false)).bindX fun _ hc => (L.v.e ⟨nm, v⟩ e).bindX fun r hr => .ok ((x, r) :: v) .next fun B sl => by
    subst ht; obtain ⟨p, rfl⟩ := hx; obtain ⟨k, hk, hk'⟩ := locN_ok hl; exact ex_assign hk hk' (hr B sl) hc
noncomputable def sRet (L : Lx μ) (nm : List (Str × NameKind)) (v : Vars) (o : Option Expr) (p : Pos) : ResX (X1K μ nm (.Return o p) v) := match o with
  | some e => (L.v.e ⟨nm, v⟩ e).bindX fun r hr => .ok v (.ret r) fun B sl => ex_return (hr B sl)
  | none => .no
noncomputable def sIf (L : Lx μ) (nm : List (Str × NameKind)) (v : Vars) (t : Expr) (a b : List Stmt) (p : Pos) : ResX (X1K μ nm (.If t a b p) v) := (L.v.b ⟨nm, v⟩ t).bindX fun c => match c with
  | true => fun hc => (L.x nm v a).bind fun v' r h => .ok v' r fun B sl => ex_if (hc B sl) (fun _ => h B sl) (fun q => Bool.noConfusion q)
  | false => fun hc => (L.x nm v b).bind fun v' r h => .ok v' r fun B sl => ex_if (hc B sl) (fun q => Bool.noConfusion q) (fun _ => h B sl)
noncomputable def stS (L : Lx μ) (nm : List (Str × NameKind)) (v : Vars) (s : Stmt) : ResX (X1K μ nm s v) :=
  if h : s.ctorIdx = 5 then @Stmt.Assign.elim (fun s => ResX (X1K μ nm s v)) s h fun ts e q => sAsg L nm v ts e q
  else if h : s.ctorIdx = 12 then @Stmt.If.elim (fun s => ResX (X1K μ nm s v)) s h fun t a b p => sIf L nm v t a b p
  else if h : s.ctorIdx = 3 then @Stmt.Return.elim (fun s => ResX (X1K μ nm s v)) s h fun o p => sRet L nm v o p
  else .no
noncomputable def stX (L : Lx μ) (nm : List (Str × NameKind)) (v : Vars) (l : List Stmt) : ResX (XsK μ nm l v) := match l with
  | [] => .ok v .next fun _ _ => ex_nil
  | s :: l => (stS L nm v s).bind fun v' r => match r with
    | .next => fun h => (L.x nm v' l).bind fun v₂ r₂ h₂ => .ok v₂ r₂ fun B sl => ex_cons (h B sl) (h₂ B sl)
    | .ret t => fun h => .ok v' (.ret t) fun B sl => ex_stop (h B sl) (fun e => Rf.noConfusion e)
    | .brk => fun _ => .no
end
noncomputable def lx (μ : Mu) (n : Nat) : Lx μ := Nat.rec ⟨lv μ 0, fun _ _ _ => .no⟩ (fun n L => ⟨lv μ (n + 1), stX L⟩) n
noncomputable def px (μ : Mu) (n : Nat) (nm : List (Str × NameKind)) (v : Vars) (l : List Stmt) : Option (Vars × Rf) := ((lx μ n).x nm v l).val
section
variable {prog : Program} {w : World} {P : Pm} {A : Around} {μ : Mu}
/-- a function whose body changes no list -/
theorem call_px (B : Blt P) {a : Addr} {fd : FuncData} {params : List Str} {body : List Stmt} {nm : List (Str × NameKind)} (F : FnAt P a fd params body nm) {Ts : List T} {v' : Vars} {r : T} (sl : Sl 5 A) (hlen : params.length = Ts.length)
    (n : Nat) (h : px μ n nm (params.zip Ts) body = some (v', .ret r)) : OpL prog w P A μ (fun vs => call (.ref a) vs) Ts r :=
  call_ok F sl.room hlen fun env => ResX.get (p := XsK μ nm body (params.zip Ts)) h B (sl.deeper env)
end
end Mine
end
section
namespace Mine
open PySem PyProof.Rows
noncomputable def stAt (i : Nat) : Stmt := PySem.Challenge.pw_mq0197_01.main.body.getD i (.Pass ⟨0,0,0,0⟩)
/-- a statement's parts -/
noncomputable def bodyOf (s : Stmt) : List Stmt := if h : s.ctorIdx = 0 then @Stmt.FunctionDef.elim (fun _ => List Stmt) s h (fun _ _ b _ _ _ _ _ _ _ => b) else []
noncomputable def scpOf (s : Stmt) : Scope := if h : s.ctorIdx = 0 then @Stmt.FunctionDef.elim (fun _ => Scope) s h (fun _ _ _ _ _ _ c _ _ _ => c) else default
noncomputable def argOf (s : Stmt) : Arguments := if h : s.ctorIdx = 0 then @Stmt.FunctionDef.elim (fun _ => Arguments) s h (fun _ a _ _ _ _ _ _ _ _ => a) else default
noncomputable def namesOf (s : Stmt) : List (Str × NameKind) := (scpOf s).names
noncomputable def parsOf (s : Stmt) : List Str := (argOf s).args.map (·.arg)
noncomputable def forB (s : Stmt) : List Stmt := if h : s.ctorIdx = 9 then @Stmt.For.elim (fun _ => List Stmt) s h (fun _ _ b _ _ => b) else []
noncomputable def forO (s : Stmt) : List Stmt := if h : s.ctorIdx = 9 then @Stmt.For.elim (fun _ => List Stmt) s h (fun _ _ _ b _ => b) else []
noncomputable def whB (s : Stmt) : List Stmt := if h : s.ctorIdx = 11 then @Stmt.While.elim (fun _ => List Stmt) s h (fun _ b _ _ => b) else []
noncomputable def ifT (s : Stmt) : Expr := if h : s.ctorIdx = 12 then @Stmt.If.elim (fun _ => Expr) s h (fun t _ _ _ => t) else .Constant .none 0 ⟨0, 0, 0, 0⟩
noncomputable def nth (l : List Stmt) (i : Nat) : Stmt := l.getD i (.Pass ⟨0, 0, 0, 0⟩)
noncomputable abbrev FnI (P : Pm) (a : Addr) (i : Nat) : Prop := ∃ fd, FnAt P a fd (parsOf (stAt i)) (bodyOf (stAt i)) (namesOf (stAt i))
noncomputable abbrev ti (i : Int) : T := .sc (.int i)
noncomputable abbrev tf (f : UInt64) : T := .sc (.flt f)
noncomputable abbrev tis (l : List Int) : T := .lst (l.map ti)
section
variable {prog : Program} {w : World} {P : Pm} {A : Around} {env : Env} {fm : Fm} {nm : List (Str × NameKind)} {vars vars' : Vars} {μ : Mu} {n : Nat} {Post : PostG}
/-- fewer variables ahead, fewer behind -/
theorem gx_drop {t : Sem Flow} (h : Gx prog w P A n env nm vars' μ t Post) (hs : ∀ x y, vars'.lookup x = some y → vars.lookup x = some y) : Gx prog w P A n env nm vars μ t Post := fun s Q E p o =>
  h s Q E ⟨⟨p.pre.rb, p.pre.ht, p.pre.hz, p.pre.mo, p.pre.fo.drop hs⟩, p.own, p.all, p.frm, p.hn, p.le⟩ o
theorem gx_post {t : Sem Flow} {Post' : PostG} (h : Gx prog w P A n env nm vars μ t Post') (hp : ∀ v m r, Post' v m r → ∃ v', (∀ x y, v'.lookup x = some y → v.lookup x = some y) ∧ Post v' m r) : Gx prog w P A n env nm vars μ t Post := fun s Q E p o =>
  h s Q E p fun f h' tk Z' v m r q pr k z rf => by
    obtain ⟨v', hs, q'⟩ := hp v m r q
    exact o f h' tk Z' v' m r q' ⟨⟨pr.pre.rb, pr.pre.ht, pr.pre.hz, pr.pre.mo, pr.pre.fo.drop hs⟩, pr.own, pr.all, pr.frm, pr.hn, pr.le⟩ k z rf
theorem ev_at {value slice : Expr} {pos : Pos} {a : T} {k : Nat} {l : List T} {r : T} (h1 : Ev prog w P A env fm μ (eval value env) a) (h2 : Ev prog w P A env fm μ (eval slice env) (ti k)) (hl : its μ a = some l) (hk : l[k]? = some r) (hz : k < 4097) (hs : ∀ l u p, slice ≠ .Slice l u none p) :
    Ev prog w P A env fm μ (eval (.Subscript value slice pos) env) r := by
  intro Z
  exact ev_sub h1 h2 (sub_lst hl hk hz hs)
theorem ev_last {value slice : Expr} {pos : Pos} {a : T} {l : List T} {r : T} (h1 : Ev prog w P A env fm μ (eval value env) a) (h2 : Ev prog w P A env fm μ (eval slice env) (ti (-1))) (hl : its μ a = some l) (hk : l.getLast? = some r) (hs : ∀ l u p, slice ≠ .Slice l u none p) :
    Ev prog w P A env fm μ (eval (.Subscript value slice pos) env) r := by
  intro Z
  exact ev_sub h1 h2 (sub_last hl hk hs)
theorem intsOf_ti : ∀ l : List Int, intsOf (l.map ti) = some l
  | [] => rfl
  | a :: r => by show Option.bind (some a) (fun i => (intsOf (r.map ti)).map (i :: ·)) = _; rw [intsOf_ti r]; rfl
theorem ev_intTup {elts : List Expr} {k : Nat} {pos : Pos} {l : List Int} (h : EvL prog w P A env fm μ (spliced (backTo pos (starEach elts env))) (l.map ti)) (hl : l.length ≤ 4096) : Ev prog w P A env fm μ (eval (.Tuple elts k pos) env) (tupI l) :=
  ev_tuple h (q := l.map .int) (by rw [List.map_map]; rfl) (by rw [List.length_map]; exact hl)
theorem evb_lt {l r : Expr} {pos : Pos} {wh : Sem Value} {a b : List Int} (sl : Sl 4 A) (h1 : Ev prog w P A env fm μ (eval l env) (tupI a)) (h2 : Ev prog w P A env fm μ (eval r env) (tupI b)) (hl : a.length = b.length) (hm : behindInMarks .Lt r = false) :
    EvB prog w P A env fm μ (isTrue (.Compare l [.Lt] [r] pos) env wh) (ltI a b) := by
  intro Z
  exact evb_compare h1 h2 (lt_tup hl sl.unit) hm
theorem range_mem {j : Nat} {x : Int} {it : T} (h : it ∈ rangeT x j) : ∃ k, k < j ∧ it = ti (x + k) := by
  obtain ⟨i, hi⟩ := List.mem_iff_getElem?.mp h
  have e := rangeT_get j x i it hi
  refine ⟨i, ?_, e⟩
  have := (List.getElem?_eq_some_iff.mp hi).1
  rwa [rangeT_len] at this
theorem rangeT_eq (j : Nat) : ∀ x : Nat, rangeT (x : Int) j = (List.range' x j).map fun (i : Nat) => ti (i : Int) := by
  induction j with
  | zero => intro x; rfl
  | succ j ih =>
    intro x
    rw [rangeT, List.range'_succ, List.map_cons]
    have := ih (x + 1)
    rw [show ((x + 1 : Nat) : Int) = (x : Int) + 1 by push_cast; rfl] at this
    rw [this]
theorem range0 (j : Nat) : rangeT 0 j = (List.range j).map fun (i : Nat) => ti (i : Int) := by
  have := rangeT_eq j 0
  rw [List.range_eq_range']; exact this
/-- a comprehension, its items from a list of my own -/
theorem ev_cmp {α : Type} {elt iter : Expr} {x : Str} {px : Pos} {ifs : List Expr} {scope : Scope} {pos : Pos} {src : T} (its : List α) (g : α → T) (tst : α → Bool) (val : α → T) (hA : A.handled = none)
    (hs : ∀ env x, foldedSetIterable iter env x = pure x) (hk : scope.kind = .function) (ok : compOk fm scope.names x = true)
    (hiter : Ev prog w P A env fm μ (eval iter env) src) (hitems : iterV μ src = some (its.map g)) (hlen : its.length ≤ 4096) (hg : ∀ a ∈ its, ∀ b ∈ its, g a = g b → tst a = tst b ∧ val a = val b)
    (ht : ∀ i ∈ its, ∀ cenv, EvB prog w P A cenv (cfm fm scope.names x (g i)) μ (testsSem ifs cenv) (tst i))
    (hv : ∀ i ∈ its, tst i = true → ∀ cenv, Ev prog w P A cenv (cfm fm scope.names x (g i)) μ (eval elt cenv) (val i)) :
    Ev prog w P A env fm μ (eval (.ListComp elt [⟨.Name x px, iter, ifs, 0⟩] scope pos) env) (.lst ((its.filter tst).map val)) := by
  classical
  have pick : ∀ t ∈ its.map g, ∃ i ∈ its, g i = t := fun t h => by simpa [List.mem_map] using h
  let inv : T → Option α := fun t => if h : t ∈ its.map g then some (Classical.choose (pick t h)) else none
  have hinv : ∀ a ∈ its, ∃ b ∈ its, inv (g a) = some b ∧ g b = g a := fun a ha => by
    have hm : g a ∈ its.map g := List.mem_map_of_mem ha
    have := Classical.choose_spec (pick _ hm)
    exact ⟨_, this.1, dif_pos hm, this.2⟩
  have e1 : (its.filter tst).map val = ((its.map g).filter (fun t => match inv t with | some i => tst i | none => false)).map (fun t => match inv t with | some i => val i | none => .sc .none) := by
    rw [List.filter_map, List.map_map]
    have e2 : ∀ a ∈ its, ((fun t => match inv t with | some i => tst i | none => false) ∘ g) a = tst a := fun a ha => by
      obtain ⟨b, hb, e, eg⟩ := hinv a ha
      simp only [Function.comp, e]
      exact (hg b hb a ha eg).1
    rw [List.filter_congr e2]
    refine List.map_congr_left fun a ha => ?_
    have ha := (List.mem_filter.mp ha).1
    obtain ⟨b, hb, e, eg⟩ := hinv a ha
    simp only [Function.comp, e]
    exact ((hg b hb a ha eg).2).symm
  rw [e1]
  intro Z
  refine ev_comp _ _ hA hs hk ok hiter hitems (by rw [List.length_map]; exact hlen) (fun it hit cenv => ?_) (fun it hit hb cenv => ?_)
  · obtain ⟨a, ha, rfl⟩ := List.mem_map.mp hit
    obtain ⟨b, hb, e, eg⟩ := hinv a ha
    simp only [e]
    rw [← eg]
    exact ht b hb cenv
  · obtain ⟨a, ha, rfl⟩ := List.mem_map.mp hit
    obtain ⟨b, hb', e, eg⟩ := hinv a ha
    simp only [e] at hb ⊢
    rw [← eg]
    exact hv b hb' hb cenv
end
end Mine
end
section
namespace Mine
open PySem PyProof.Rows
noncomputable def rankF (f g : Nat → Int) (i : Nat) : Nat := ((List.range 6).filter fun o => ltI [f o, g o, o] [f i, g i, i]).length
noncomputable def rowF (f g : Nat → Int) : Nat → List Int
  | 0 => List.replicate 6 0
  | k + 1 => (rowF f g k).set (rankF f g k) k
noncomputable def l6 (f : Nat → Int) : List Int := (List.range 6).map f
theorem l6_at (f : Nat → Int) {k : Nat} (h : k < 6) : ((l6 f).map ti)[k]? = some (ti (f k)) := by
  unfold l6
  simp [h]
theorem rowF_len (f g : Nat → Int) : ∀ k, (rowF f g k).length = 6
  | 0 => rfl
  | k + 1 => by rw [rowF, List.length_set, rowF_len f g k]
theorem ltI_lex (a b c d : Int) (i j : Nat) : ltI [a, b, i] [c, d, j] = decide (a < c ∨ (a = c ∧ (b < d ∨ (b = d ∧ i < j)))) := by
  unfold ltI
  by_cases h : a = c
  · subst h
    unfold ltI
    by_cases h2 : b = d
    · subst h2
      unfold ltI
      by_cases h3 : (i : Int) = j
      · have : i = j := by omega
        subst this
        unfold ltI
        simp
      · rw [if_pos rfl, if_pos rfl, if_neg h3]
        simp; try omega
    · rw [if_pos rfl, if_neg h2]
      simp [h2]
  · rw [if_neg h]
    simp [h]
theorem rankF_lt (f g : Nat → Int) {i : Nat} (h : i < 6) : rankF f g i < 6 := by
  unfold rankF
  have h1 : ((List.range 6).filter fun o => ltI [f o, g o, o] [f i, g i, i]).length < (List.range 6).length := by
    refine List.length_filter_lt_length_iff_exists.mpr ⟨i, by simp [h], ?_⟩
    rw [ltI_lex]
    simp
  simpa using h1
section
variable {prog : Program} {w : World} {P : Pm} {A : Around} {μ : Mu} {a : Addr}
theorem sub_one {m k : Nat} (h : k < m) : m - k = (m - (k + 1)) + 1 := (Nat.succ_pred_eq_of_pos (Nat.sub_pos_of_lt h)).symm
theorem rem_cons {it : T} {rem : List T} {k m : Nat} (h : it :: rem = (List.range' k (m - k)).map fun (i : Nat) => ti (i : Int)) : k < m ∧ it = ti k ∧ rem = (List.range' (k + 1) (m - (k + 1))).map fun (i : Nat) => ti (i : Int) := by
  have hk : k < m := by
    rcases Nat.lt_or_ge k m with q | q
    · exact q
    · rw [Nat.sub_eq_zero_of_le q] at h; cases h
  rw [sub_one hk, List.range'_succ, List.map_cons] at h
  injection h with h1 h2
  exact ⟨hk, h1, h2⟩
theorem counted_ok (B : Blt P) (F : FnI P a 10) (sl : Sl 5 A) (f g : Nat → Int) : OpL prog w P A μ (fun vs => call (.ref a) vs) [tis (l6 f), tis (l6 g)] (tis (rowF f g 6)) := by
  obtain ⟨fd, F⟩ := F
  refine call_okG F sl.room rfl 3 fun env n => ?_
  have s4 : Sl 4 (A.deeper env) := sl.deeper env
  intro Z; refine gx_cons (Post₁ := fun v m r => r = .next ∧ ∃ a, v = (Str.ofString "row", .mut a) :: List.zip (parsOf (stAt 10)) [tis (l6 f), tis (l6 g)] ∧ m a = some ((rowF f g 0).map ti)) ?_ ?_
  · intro Z; exact gx_assign_new (k := .local) (q := List.replicate 6 (.int 0)) rfl (.inl rfl) (ev_pe B s4 6 rfl) rfl rfl fun a _ => ⟨rfl, a, rfl, updM_self⟩
  rintro _ m _ ⟨rfl, a, rfl, hm⟩
  refine ⟨rfl, ?_⟩
  intro Z; refine gx_cons (Post₁ := fun v m r => r = .next ∧ v = (Str.ofString "row", .mut a) :: List.zip (parsOf (stAt 10)) [tis (l6 f), tis (l6 g)] ∧ m a = some ((rowF f g 6).map ti)) ?_ ?_
  · intro Z; refine gx_for (k := .local) (src := .rng 6) (items := rangeT 0 6) (fun rem v m => ∃ k, k ≤ 6 ∧ rem = (List.range' k (6 - k)).map (fun (i : Nat) => ti (i : Int)) ∧ v = (Str.ofString "row", .mut a) :: List.zip (parsOf (stAt 10)) [tis (l6 f), tis (l6 g)] ∧ m a = some ((rowF f g k).map ti))
      s4.1 rfl (.inl rfl) (fun _ _ => rfl) (ev_pe B s4 4 rfl) (.inr ⟨6, by decide, rfl, rfl⟩) ⟨0, by decide, rangeT_eq 6 0, rfl, hm⟩ ?_ ?_
    · rintro it rem v m ⟨k, hk, hr, rfl, hm⟩
      obtain ⟨hk, rfl, hr2⟩ := rem_cons hr
      intro Z; refine gx_post (Post' := fun v m r => r = .next ∧ m a = some ((rowF f g (k + 1)).map ti) ∧ (∀ x y, List.lookup x ((Str.ofString "row", T.mut a) :: List.zip (parsOf (stAt 10)) [tis (l6 f), tis (l6 g)]) = some y → List.lookup x v = some y)) ?_ (fun v m r h => ⟨_, h.2.2, h.1, k + 1, hk, hr2, rfl, h.2.1⟩)
      intro Z; refine gx_ex (ex_assign (k := .cell) (t := tupI [f k, g k, k]) rfl (.inr rfl) (ev_intTup (evl_cons (by rfl) (ev_at (ev_pe B s4 2 (by rfl)) (ev_pe B s4 2 (by rfl)) rfl (l6_at f hk) (by omega) (fun _ _ _ => by intro e; cases e)) (evl_cons (by rfl) (ev_at (ev_pe B s4 2 (by rfl)) (ev_pe B s4 2 (by rfl)) rfl (l6_at g hk) (by omega) (fun _ _ _ => by intro e; cases e)) (evl_cons (by rfl) (ev_pe B s4 2 (by rfl)) evl_nil))) (by simp)) rfl) ?_
      intro Z; refine gx_cons (Post₁ := fun v m r => r = .next ∧ m a = some ((rowF f g (k + 1)).map ti) ∧ (∀ x y, List.lookup x ((Str.ofString "row", T.mut a) :: List.zip (parsOf (stAt 10)) [tis (l6 f), tis (l6 g)]) = some y → List.lookup x v = some y)) ?_ (fun v m r h => ⟨h.1, gx_nil ⟨rfl, h.2⟩⟩)
      intro Z; refine gx_setitem (i := rankF f g k) (ev_pe B s4 2 (by rfl)) (ev_pe B s4 2 (by rfl)) ?_ hm (by rw [List.length_map, rowF_len]; exact rankF_lt f g hk) rfl ⟨rfl, ?_, ?_⟩
      · intro Z
        refine bk_eq (bk_len (y := .lst (((List.range 6).filter fun o => ltI [f o, g o, o] [f k, g k, k]).map fun (i : Nat) => ti (i : Int))) rfl) (by rw [List.length_map]; rfl) B (s4.mono (by decide)) (by rfl) (by rfl) (by rfl) ?_
        intro Z
        refine evl_cons (by rfl) ?_ evl_nil
        intro Z
        refine ev_cmp (List.range 6) (fun (i : Nat) => ti (i : Int)) (fun o => ltI [f o, g o, o] [f k, g k, k]) (fun (i : Nat) => ti (i : Int)) s4.1 (fun _ _ => rfl) (by rfl) (by rfl) (ev_pe B s4 4 (by rfl)) ?_ (by decide) ?_ ?_ ?_
        · show some _ = some _
          rw [range0]; rfl
        · intro i _ j _ e
          injection e with e; injection e with e
          have : i = j := by omega
          subst this; exact ⟨rfl, rfl⟩
        · intro i hi cenv
          have hi : i < 6 := by simpa using hi
          intro Z
          refine tests_one ?_
          intro Z
          refine evb_lt s4 ?_ (ev_pe B s4 2 (by rfl)) (by rfl) (by rfl)
          intro Z
          refine ev_intTup ?_ (by simp)
          intro Z
          refine evl_cons (by rfl) (ev_at (ev_pe B s4 2 (by rfl)) (ev_pe B s4 2 (by rfl)) rfl (l6_at f hi) (by omega) (fun _ _ _ => by intro e; cases e)) (evl_cons (by rfl) (ev_at (ev_pe B s4 2 (by rfl)) (ev_pe B s4 2 (by rfl)) rfl (l6_at g hi) (by omega) (fun _ _ _ => by intro e; cases e)) (evl_cons (by rfl) (ev_pe B s4 2 (by rfl)) evl_nil))
        · intro i hi _ cenv
          intro Z; exact ev_pe B s4 2 rfl
      · rw [updM_self, rowF, List.map_set]
      · intro x y h
        revert h
        show List.lookup x ((Str.ofString "row", T.mut a) :: (Str.ofString "first", tis (l6 f)) :: (Str.ofString "second", tis (l6 g)) :: []) = some y → _
        intro h
        have h1 : x ≠ Str.ofString "one" := by
          intro e; subst e; exact nomatch (show (none : Option T) = some y from h)
        have h2 : x ≠ Str.ofString "mark" := by
          intro e; subst e; exact nomatch (show (none : Option T) = some y from h)
        rw [lookup_cons_ne h2, lookup_cons_ne h1]
        exact h
    · rintro v m ⟨k, hk, hr, rfl, hm⟩
      have : k = 6 := by
        rcases Nat.lt_or_ge k 6 with q | q
        · have e : 6 - k = (6 - (k + 1)) + 1 := sub_one q
          rw [e, List.range'_succ, List.map_cons] at hr; cases hr
        · exact Nat.le_antisymm hk q
      subst this
      exact ⟨rfl, rfl, hm⟩
  · rintro _ m _ ⟨rfl, rfl, hm⟩
    refine ⟨rfl, ?_⟩
    intro Z; refine gx_ret (ex_return (ev_pe B s4 2 (by rfl))) ⟨_, rfl, ?_⟩
    unfold frz
    simp only [hm]
    congr 1
    rw [List.map_map]
    refine List.map_congr_left fun i _ => rfl
end
end Mine
end
section
namespace Mine
open PySem PyProof.Rows
section
variable {prog : Program} {w : World} {P : Pm} {A : Around} {env : Env} {fm : Fm} {nm : List (Str × NameKind)} {vars vars' : Vars} {μ : Mu} {n : Nat} {Post : PostG}
theorem evb_and {l r : Expr} {pos : Pos} {wh : Sem Value} {a b : Bool} (h1 : EvB prog w P A env fm μ (isTrue l env (eval l env)) a) (h2 : a = true → EvB prog w P A env fm μ (isTrue r env (eval r env)) b) : EvB prog w P A env fm μ (isTrue (.BoolOp .And [l, r] pos) env wh) (a && b) := by
  intro Z
  refine evb_bool ?_
  cases a with
  | true =>
    have h2 : EvB prog w P A env fm μ (isTrue r env (eval r env)) b := h2 rfl
    intro Z
    refine evb_all_go h1 (by rfl) ?_
    cases b with
    | true => intro Z; exact evb_all_go (op := .And) (b := true) (c := true) h2 (by rfl) (evb_all_nil (op := .And))
    | false => intro Z; exact evb_all_stop (b := false) h2 (by rfl)
  | false => intro Z; exact evb_all_stop h1 (by rfl)
theorem evb_or2 {l r : Expr} {pos : Pos} {wh : Sem Value} {a b : Bool} (h1 : EvB prog w P A env fm μ (isTrue l env (eval l env)) a) (h2 : a = false → EvB prog w P A env fm μ (isTrue r env (eval r env)) b) : EvB prog w P A env fm μ (isTrue (.BoolOp .Or [l, r] pos) env wh) (a || b) := by
  intro Z
  refine evb_bool ?_
  cases a with
  | false =>
    have h2 : EvB prog w P A env fm μ (isTrue r env (eval r env)) b := h2 rfl
    intro Z
    refine evb_all_go h1 (by rfl) ?_
    cases b with
    | false => intro Z; exact evb_all_go (op := .Or) (b := false) (c := false) h2 (by rfl) (evb_all_nil (op := .Or))
    | true => intro Z; exact evb_all_stop (b := true) h2 (by rfl)
  | true => intro Z; exact evb_all_stop h1 (by rfl)
theorem evb_sc {l r : Expr} {op : CmpOp} {pos : Pos} {wh : Sem Value} {x y : Sc} {c : Bool} (h1 : Ev prog w P A env fm μ (eval l env) (.sc x)) (h2 : Ev prog w P A env fm μ (eval r env) (.sc y)) (e : cmpS op x y = some c) (hm : behindInMarks op r = false) :
    EvB prog w P A env fm μ (isTrue (.Compare l [op] [r] pos) env wh) c := by
  intro Z
  exact evb_compare h1 h2 (cmpS_ok e) hm
theorem ex_assign_cmp {α : Type} {elt iter : Expr} {x y : Str} {k : NameKind} {px : Pos} {ifs : List Expr} {scope : Scope} {cpos pos' pos : Pos} {src : T} (its : List α) (g : α → T) (tst : α → Bool) (val : α → T) (hA : A.handled = none) (hk0 : nm.lookup y = some k) (hk' : k = .local ∨ k = .cell)
    (hs : ∀ env x, foldedSetIterable iter env x = pure x) (hk : scope.kind = .function) (ok : compOk ⟨nm, vars⟩ scope.names x = true)
    (hiter : Ev prog w P A env ⟨nm, vars⟩ μ (eval iter env) src) (hitems : iterV μ src = some (its.map g)) (hlen : its.length ≤ 4096) (hg : ∀ a ∈ its, ∀ b ∈ its, g a = g b → tst a = tst b ∧ val a = val b)
    (ht : ∀ i ∈ its, ∀ cenv, EvB prog w P A cenv (cfm ⟨nm, vars⟩ scope.names x (g i)) μ (testsSem ifs cenv) (tst i))
    (hv : ∀ i ∈ its, tst i = true → ∀ cenv, Ev prog w P A cenv (cfm ⟨nm, vars⟩ scope.names x (g i)) μ (eval elt cenv) (val i)) :
    Ex prog w P A env nm μ (exec (.Assign [.Name y pos'] (.ListComp elt [⟨.Name x px, iter, ifs, 0⟩] scope cpos) pos) env) vars ((y, .lst ((its.filter tst).map val)) :: vars) .next := by
  classical
  have pick : ∀ t ∈ its.map g, ∃ i ∈ its, g i = t := fun t h => by simpa [List.mem_map] using h
  let inv : T → Option α := fun t => if h : t ∈ its.map g then some (Classical.choose (pick t h)) else none
  have hinv : ∀ a ∈ its, ∃ b ∈ its, inv (g a) = some b ∧ g b = g a := fun a ha => by
    have hm : g a ∈ its.map g := List.mem_map_of_mem ha
    have := Classical.choose_spec (pick _ hm)
    exact ⟨_, this.1, dif_pos hm, this.2⟩
  have e1 : (its.filter tst).map val = ((its.map g).filter (fun t => match inv t with | some i => tst i | none => false)).map (fun t => match inv t with | some i => val i | none => .sc .none) := by
    rw [List.filter_map, List.map_map]
    have e2 : ∀ a ∈ its, ((fun t => match inv t with | some i => tst i | none => false) ∘ g) a = tst a := fun a ha => by
      obtain ⟨b, hb, e, eg⟩ := hinv a ha
      simp only [Function.comp, e]
      exact (hg b hb a ha eg).1
    rw [List.filter_congr e2]
    refine List.map_congr_left fun a ha => ?_
    have ha := (List.mem_filter.mp ha).1
    obtain ⟨b, hb, e, eg⟩ := hinv a ha
    simp only [Function.comp, e]
    exact ((hg b hb a ha eg).2).symm
  rw [e1]
  intro Z
  refine ex_assign_comp hk0 hk' _ _ hA hs hk ok hiter hitems (by rw [List.length_map]; exact hlen) (fun it hit cenv => ?_) (fun it hit hb cenv => ?_)
  · obtain ⟨a, ha, rfl⟩ := List.mem_map.mp hit
    obtain ⟨b, hb, e, eg⟩ := hinv a ha
    simp only [e]
    rw [← eg]
    exact ht b hb cenv
  · obtain ⟨a, ha, rfl⟩ := List.mem_map.mp hit
    obtain ⟨b, hb', e, eg⟩ := hinv a ha
    simp only [e] at hb ⊢
    rw [← eg]
    exact hv b hb' hb cenv
theorem ti_eq {i j : Nat} (e : ti (i : Int) = ti (j : Int)) : i = j := by
  injection e with e; injection e with e
  omega
end
noncomputable def aheadF (r l : Nat → Int) (i : Nat) : List Nat := ((List.range 6).filter fun o => r o == r i && ltI [l o, o] [l i, i]) ++ ((List.range 6).filter fun o => l o == l i && decide (r o < r i))
noncomputable abbrev tns (l : List Nat) : T := .lst (l.map fun (i : Nat) => ti (i : Int))
section
variable {prog : Program} {w : World} {P : Pm} {A : Around} {μ : Mu} {a : Addr}
theorem ahead_ok (B : Blt P) (F : FnI P a 13) (sl : Sl 5 A) (r l : Nat → Int) (i : Nat) (hi : i < 6) : OpL prog w P A μ (fun vs => call (.ref a) vs) [ti i, tis (l6 r), tis (l6 l)] (tns (aheadF r l i)) := by
  obtain ⟨fd, F⟩ := F
  intro Z
  refine call_ok F sl.room rfl (vars' := (Str.ofString "row", tns ((List.range 6).filter fun o => r o == r i && ltI [l o, o] [l i, i])) :: List.zip (parsOf (stAt 13)) [ti i, tis (l6 r), tis (l6 l)]) fun env => ?_
  have s4 : Sl 4 (A.deeper env) := sl.deeper env
  intro Z
  refine ex_cons (v₁ := (Str.ofString "row", tns ((List.range 6).filter fun o => r o == r i && ltI [l o, o] [l i, i])) :: List.zip (parsOf (stAt 13)) [ti i, tis (l6 r), tis (l6 l)]) ?_ ?_
  · intro Z
    refine ex_assign_cmp (k := .local) (List.range 6) (fun (i : Nat) => ti (i : Int)) (fun o => r o == r i && ltI [l o, o] [l i, i]) (fun (i : Nat) => ti (i : Int)) s4.1 (by rfl) (.inl rfl) (fun _ _ => rfl) (by rfl) (by rfl) (ev_pe B s4 4 (by rfl)) (by show some _ = some _; rw [range0]; rfl) (by decide) (fun _ _ _ _ e => by have := ti_eq e; subst this; exact ⟨rfl, rfl⟩) ?_ (fun _ _ _ _ => ev_pe B s4 2 (by rfl))
    intro o ho cenv
    have ho : o < 6 := by simpa using ho
    intro Z
    refine tests_one ?_
    intro Z
    refine evb_and ?_ fun _ => ?_
    · intro Z
      exact evb_sc (ev_at (ev_pe B s4 2 (by rfl)) (ev_pe B s4 2 (by rfl)) rfl (l6_at r ho) (by omega) (fun _ _ _ => by intro e; cases e)) (ev_at (ev_pe B s4 2 (by rfl)) (ev_pe B s4 2 (by rfl)) rfl (l6_at r hi) (by omega) (fun _ _ _ => by intro e; cases e)) (by rfl) (by rfl)
    · intro Z
      refine evb_lt s4 ?_ ?_ (by rfl) (by rfl)
      · intro Z
        refine ev_intTup ?_ (by simp)
        intro Z
        exact evl_cons (by rfl) (ev_at (ev_pe B s4 2 (by rfl)) (ev_pe B s4 2 (by rfl)) rfl (l6_at l ho) (by omega) (fun _ _ _ => by intro e; cases e)) (evl_cons (by rfl) (ev_pe B s4 2 (by rfl)) evl_nil)
      · intro Z
        refine ev_intTup ?_ (by simp)
        intro Z
        exact evl_cons (by rfl) (ev_at (ev_pe B s4 2 (by rfl)) (ev_pe B s4 2 (by rfl)) rfl (l6_at l hi) (by omega) (fun _ _ _ => by intro e; cases e)) (evl_cons (by rfl) (ev_pe B s4 2 (by rfl)) evl_nil)
  · intro Z
    refine ex_stop (ex_return ?_) (fun e => nomatch e)
    intro Z
    refine ev_binop (a := tns ((List.range 6).filter fun o => r o == r i && ltI [l o, o] [l i, i])) (b := tns ((List.range 6).filter fun o => l o == l i && decide (r o < r i))) (ev_pe B s4 2 (by rfl)) ?_ ?_
    · intro Z
      refine ev_cmp (List.range 6) (fun (i : Nat) => ti (i : Int)) (fun o => l o == l i && decide (r o < r i)) (fun (i : Nat) => ti (i : Int)) s4.1 (fun _ _ => rfl) (by rfl) (by rfl) (ev_pe B s4 4 (by rfl)) (by show some _ = some _; rw [range0]; rfl) (by decide) (fun _ _ _ _ e => by have := ti_eq e; subst this; exact ⟨rfl, rfl⟩) ?_ (fun _ _ _ _ => ev_pe B s4 2 (by rfl))
      intro o ho cenv
      have ho : o < 6 := by simpa using ho
      intro Z
      refine tests_one ?_
      intro Z
      refine evb_and ?_ fun _ => ?_
      · intro Z
        exact evb_sc (ev_at (ev_pe B s4 2 (by rfl)) (ev_pe B s4 2 (by rfl)) rfl (l6_at l ho) (by omega) (fun _ _ _ => by intro e; cases e)) (ev_at (ev_pe B s4 2 (by rfl)) (ev_pe B s4 2 (by rfl)) rfl (l6_at l hi) (by omega) (fun _ _ _ => by intro e; cases e)) (by rfl) (by rfl)
      · intro Z
        exact evb_sc (ev_at (ev_pe B s4 2 (by rfl)) (ev_pe B s4 2 (by rfl)) rfl (l6_at r ho) (by omega) (fun _ _ _ => by intro e; cases e)) (ev_at (ev_pe B s4 2 (by rfl)) (ev_pe B s4 2 (by rfl)) rfl (l6_at r hi) (by omega) (fun _ _ _ => by intro e; cases e)) (by rfl) (by rfl)
    · have h1 := List.length_filter_le (fun o => r o == r i && ltI [l o, o] [l i, i]) (List.range 6)
      have h2 := List.length_filter_le (fun o => l o == l i && decide (r o < r i)) (List.range 6)
      rw [aheadF]
      have e : ∀ a b : List Nat, tns (a ++ b) = .lst (a.map (fun (i : Nat) => ti (i : Int)) ++ b.map (fun (i : Nat) => ti (i : Int))) := fun a b => by rw [← List.map_append]
      rw [e]
      intro Z
      exact cat_ok rfl rfl (by simp only [List.length_range, List.length_map] at h1 h2 ⊢; omega)
end
end Mine
end
section
namespace Mine
open PySem PyProof.Rows
noncomputable abbrev tn (i : Nat) : T := ti (i : Int)
noncomputable def newL (ne : Nat → Nat → Bool) (gs : List (List Nat)) (p : Nat) : Bool := match gs.getLast? with
  | none => true
  | some g => ne p (g.headD 0)
noncomputable def stepL (ne : Nat → Nat → Bool) (gs : List (List Nat)) (p : Nat) : List (List Nat) :=
  if newL ne gs p then gs ++ [[p]] else gs.dropLast ++ [gs.getLastD [] ++ [p]]
noncomputable def linesF (ne : Nat → Nat → Bool) (row : List Nat) : List (List Nat) := row.foldl (stepL ne) []
theorem paired_snoc_inv {α β : Type} {F : α → β → Prop} {b : β} {l₂ : List β} : ∀ {l₁ : List α}, Paired F l₁ (l₂ ++ [b]) → ∃ k a, l₁ = k ++ [a] ∧ Paired F k l₂ ∧ F a b := by
  induction l₂ with
  | nil => intro l₁ p; obtain ⟨a, rfl, f⟩ := paired_one p; exact ⟨[], a, rfl, .nil, f⟩
  | cons c l ih =>
    intro l₁ p
    obtain ⟨x, l', rfl, f, q⟩ := paired_cons_inv p
    obtain ⟨k, a, rfl, p, g⟩ := ih q
    exact ⟨x :: k, a, rfl, .cons f p, g⟩
structure Lin (m : Mu) (L : Addr) (as : List Addr) (gs : List (List Nat)) : Prop where
  top : m L = some (as.map T.mut)
  par : Paired (fun x g => m x = some (g.map tn)) as gs
  nd : (L :: as).Nodup
theorem paired_mono_mem1 {α β : Type} {F G : α → β → Prop} {l₁ : List α} {l₂ : List β} (hm : ∀ a b, a ∈ l₁ → F a b → G a b) (p : Paired F l₁ l₂) : Paired G l₁ l₂ := by
  induction p with
  | nil => exact .nil
  | cons a _ ih => exact .cons (hm _ _ (.head _) a) (ih fun a b m r => hm a b (.tail _ m) r)
theorem paired_mem1 {α β : Type} {F : α → β → Prop} {a : α} {l₁ : List α} {l₂ : List β} (p : Paired F l₁ l₂) : a ∈ l₁ → ∃ b, F a b := by
  induction p with
  | nil => intro h; exact absurd h List.not_mem_nil
  | cons f _ ih => intro h; exact (List.mem_cons.mp h).elim (fun e => ⟨_, e ▸ f⟩) ih
theorem Lin.new {m : Mu} {L : Addr} {as : List Addr} {gs : List (List Nat)} (h : Lin m L as gs) {b : Addr} (hb : m b = none) : Lin (updM (updM m b []) L (as.map T.mut ++ [T.mut b])) L (as ++ [b]) (gs ++ [[]]) := by
  have hbL : b ≠ L := fun e => by subst e; rw [h.top] at hb; cases hb
  have hba : b ∉ as := fun q => by obtain ⟨g, e⟩ := paired_mem1 h.par q; rw [hb] at e; cases e
  have nd := List.nodup_cons.mp h.nd
  refine ⟨by rw [updM_self, List.map_append]; rfl, paired_snoc (paired_mono_mem1 (fun x g hx e => ?_) h.par) ?_, ?_⟩
  · rw [updM_ne (fun q => nd.1 (by rw [← q]; exact hx)), updM_ne (fun q => hba (by rw [← q]; exact hx))]; exact e
  · rw [updM_ne hbL, updM_self]; rfl
  · rw [← List.cons_append, List.nodup_append]
    refine ⟨h.nd, by simp, fun x hx y hy e => ?_⟩
    have : y = b := by simpa using hy
    subst this; subst e
    rcases List.mem_cons.mp hx with q | q
    · exact hbL q
    · exact hba q
theorem Lin.app {m : Mu} {L x : Addr} {as : List Addr} {gs : List (List Nat)} {g : List Nat} {p : Nat} (h : Lin m L (as ++ [x]) (gs ++ [g])) : m x = some (g.map tn) ∧ Lin (updM m x (g.map tn ++ [tn p])) L (as ++ [x]) (gs ++ [g ++ [p]]) := by
  obtain ⟨k, y, e, p1, p2⟩ := paired_snoc_inv h.par
  obtain ⟨rfl, e2⟩ := List.append_inj' e rfl
  injection e2 with e2
  subst e2
  have nd := List.nodup_cons.mp h.nd
  have nd2 := List.nodup_append.mp nd.2
  refine ⟨p2, ?_, paired_snoc (paired_mono_mem1 (fun z g hz e => ?_) p1) ?_, h.nd⟩
  · rw [updM_ne (fun q => nd.1 (by rw [q]; simp))]; exact h.top
  · rw [updM_ne (fun q => nd2.2.2 z hz x (by simp) q)]; exact e
  · rw [updM_self, List.map_append]; rfl
theorem frz_tn (m : Mu) (k : Nat) (g : List Nat) : (g.map tn).map (frz m k) = g.map tn := by
  rw [List.map_map]
  refine List.map_congr_left fun i _ => ?_
  cases k <;> rfl
theorem Lin.frz {m : Mu} {L : Addr} {as : List Addr} {gs : List (List Nat)} (h : Lin m L as gs) : Mine.frz m 3 (T.mut L) = T.lst (gs.map tns) := by
  have e1 : Mine.frz m 3 (T.mut L) = T.lst ((as.map T.mut).map (Mine.frz m 2)) := by
    conv => lhs; unfold Mine.frz
    simp only [h.top]
  rw [e1, List.map_map]
  congr 1
  have : ∀ {as : List Addr} {gs : List (List Nat)}, Paired (fun x g => m x = some (g.map tn)) as gs → as.map (Mine.frz m 2 ∘ T.mut) = gs.map tns := by
    intro as gs p
    induction p with
    | nil => rfl
    | cons f _ ih =>
      rw [List.map_cons, List.map_cons, ih]
      congr 1
      show Mine.frz m 2 (.mut _) = _
      conv => lhs; unfold Mine.frz
      simp only [f]
      rw [frz_tn]
  exact this h.par
section
variable {prog : Program} {w : World} {P : Pm} {A : Around} {μ : Mu} {a : Addr}
noncomputable def l6f (F : Nat → UInt64) : List T := (List.range 6).map fun i => tf (F i)
theorem l6f_at (F : Nat → UInt64) {k : Nat} (h : k < 6) : (l6f F)[k]? = some (tf (F k)) := by
  unfold l6f
  simp [h]
noncomputable def neF (F : Nat → UInt64) (p q : Nat) : Bool := Float64.cmp (F p) (F q) != some Ordering.eq
theorem stepL_nil (ne : Nat → Nat → Bool) (p : Nat) : stepL ne [] p = [[p]] := rfl
theorem stepL_snoc (ne : Nat → Nat → Bool) (gs : List (List Nat)) (g : List Nat) (p : Nat) : stepL ne (gs ++ [g]) p = if ne p (g.headD 0) then gs ++ [g] ++ [[p]] else gs ++ [g ++ [p]] := by
  unfold stepL newL
  simp
theorem snoc_cases {α : Type} (l : List α) : l = [] ∨ ∃ k x, l = k ++ [x] := by
  rcases List.eq_nil_or_concat l with h | ⟨k, x, h⟩
  · exact .inl h
  · exact .inr ⟨k, x, by simpa using h⟩
noncomputable def GoodL (n : Nat) (gs : List (List Nat)) : Prop := gs.length ≤ n ∧ ∀ g ∈ gs, g ≠ [] ∧ g.length ≤ n ∧ ∀ q ∈ g, q < 6
theorem GoodL.step {n : Nat} {gs : List (List Nat)} (h : GoodL n gs) (ne : Nat → Nat → Bool) {p : Nat} (hp : p < 6) : GoodL (n + 1) (stepL ne gs p) := by
  rcases snoc_cases gs with rfl | ⟨k, x, rfl⟩
  · rw [stepL_nil]
    exact ⟨by simp, fun g hg => by
      have : g = [p] := by simpa using hg
      subst this; exact ⟨by simp, by simp, by simpa using hp⟩⟩
  · rw [stepL_snoc]
    have hx := h.2 x (by simp)
    have hl := h.1
    rw [List.length_append] at hl
    split
    · refine ⟨by simp at hl ⊢; omega, fun g hg => ?_⟩
      rcases List.mem_append.mp hg with q | q
      · have := h.2 g q; exact ⟨this.1, by omega, this.2.2⟩
      · have : g = [p] := by simpa using q
        subst this; exact ⟨by simp, by simp, by simpa using hp⟩
    · refine ⟨by simp at hl ⊢; omega, fun g hg => ?_⟩
      rcases List.mem_append.mp hg with q | q
      · have := h.2 g (List.mem_append_left _ q); exact ⟨this.1, by omega, this.2.2⟩
      · have : g = x ++ [p] := by simpa using q
        subst this
        refine ⟨by simp, by simp; omega, fun q hq => ?_⟩
        rcases List.mem_append.mp hq with hq | hq
        · exact hx.2.2 q hq
        · have : q = p := by simpa using hq
          subst this; exact hp
theorem lines_ok (B : Blt P) (F : FnI P a 11) (sl : Sl 5 A) (M : Nat → UInt64) (row : List Nat) (hrow : ∀ p ∈ row, p < 6) (hlen : row.length ≤ 100) : OpL prog w P A μ (fun vs => call (.ref a) vs) [tns row, .lst (l6f M)] (.lst ((linesF (neF M) row).map tns)) := by
  obtain ⟨fd, F⟩ := F
  intro Z
  refine call_okG F sl.room rfl 3 fun env n => ?_
  have s4 : Sl 4 (A.deeper env) := sl.deeper env
  intro Z
  refine gx_cons (Post₁ := fun v m r => r = .next ∧ ∃ L, v = (Str.ofString "lines", .mut L) :: List.zip (parsOf (stAt 11)) [tns row, .lst (l6f M)] ∧ Lin m L [] []) ?_ ?_
  · intro Z
    exact gx_assign_new (k := .local) (l := []) (q := []) rfl (.inl rfl) (ev_pe B s4 6 rfl) rfl rfl fun a _ => ⟨rfl, a, rfl, updM_self, .nil, by simp⟩
  rintro _ m _ ⟨rfl, L, rfl, hm⟩
  refine ⟨rfl, ?_⟩
  intro Z
  refine gx_cons (Post₁ := fun v m r => r = .next ∧ v = (Str.ofString "lines", .mut L) :: List.zip (parsOf (stAt 11)) [tns row, .lst (l6f M)] ∧ ∃ as, Lin m L as (linesF (neF M) row)) ?_ ?_
  · intro Z
    refine gx_for (k := .local) (src := tns row) (items := row.map tn) (fun rem v m => ∃ don row', row = don ++ row' ∧ rem = row'.map tn ∧ v = (Str.ofString "lines", .mut L) :: List.zip (parsOf (stAt 11)) [tns row, .lst (l6f M)] ∧ GoodL don.length (linesF (neF M) don) ∧ ∃ as, Lin m L as (linesF (neF M) don))
      s4.1 rfl (.inl rfl) (fun _ _ => rfl) (ev_pe B s4 4 rfl) (.inl rfl) ⟨[], row, rfl, rfl, rfl, ⟨by simp [linesF], by simp [linesF]⟩, [], hm⟩ ?_ ?_
    · rintro it rem v m ⟨don, row', hd, hr, rfl, hg, as, hm⟩
      cases row' with
      | nil => cases hr
      | cons p row' =>
        rw [List.map_cons] at hr
        injection hr with h1 h2
        subst h1 h2
        have hp : p < 6 := hrow p (by rw [hd]; simp)
        have hdl : don.length ≤ 99 := by rw [hd] at hlen; simp at hlen; omega
        have e0 : linesF (neF M) (don ++ [p]) = stepL (neF M) (linesF (neF M) don) p := by unfold linesF; rw [List.foldl_append]; rfl
        have hg' := hg.step (neF M) hp
        rw [← e0] at hg'
        have hsub : ∀ x y, List.lookup x ((Str.ofString "lines", T.mut L) :: List.zip (parsOf (stAt 11)) [tns row, .lst (l6f M)]) = some y → List.lookup x ((Str.ofString "place", tn p) :: (Str.ofString "lines", T.mut L) :: List.zip (parsOf (stAt 11)) [tns row, .lst (l6f M)]) = some y := by
          intro x y h
          have h1 : x ≠ Str.ofString "place" := by
            intro e; subst e; exact nomatch (show (none : Option T) = some y from h)
          rw [lookup_cons_ne h1]; exact h
        intro Z
        refine gx_post (Post' := fun v m r => r = .next ∧ v = (Str.ofString "place", tn p) :: (Str.ofString "lines", T.mut L) :: List.zip (parsOf (stAt 11)) [tns row, .lst (l6f M)] ∧ ∃ as, Lin m L as (linesF (neF M) (don ++ [p]))) ?_ (fun v m r h => ⟨_, (by rw [h.2.1]; exact hsub), h.1, don ++ [p], row', by rw [hd]; simp, rfl, rfl, by simpa using hg', h.2.2⟩)
        -- behind the test: the last line is open
        have rest : ∀ (m : Mu) (as : List Addr) (x : Addr) (gs : List (List Nat)) (g : List Nat), Lin m L (as ++ [x]) (gs ++ [g]) → gs ++ [g ++ [p]] = linesF (neF M) (don ++ [p]) → g.length ≤ 4000 →
            Gx prog w P (A.deeper env) n env (namesOf (stAt 11)) ((Str.ofString "place", tn p) :: (Str.ofString "lines", T.mut L) :: List.zip (parsOf (stAt 11)) [tns row, .lst (l6f M)]) m (execs ((forB (nth (bodyOf (stAt 11)) 1)).drop 1) env)
              (fun v m r => r = .next ∧ v = (Str.ofString "place", tn p) :: (Str.ofString "lines", T.mut L) :: List.zip (parsOf (stAt 11)) [tns row, .lst (l6f M)] ∧ ∃ as, Lin m L as (linesF (neF M) (don ++ [p]))) := by
          intro m as x gs g hm e hgl
          obtain ⟨hx, hm'⟩ := hm.app (p := p)
          intro Z
          refine gx_cons (Post₁ := fun v m r => r = .next ∧ v = (Str.ofString "place", tn p) :: (Str.ofString "lines", T.mut L) :: List.zip (parsOf (stAt 11)) [tns row, .lst (l6f M)] ∧ ∃ as, Lin m L as (linesF (neF M) (don ++ [p]))) ?_ (fun v m r h => ⟨h.1, gx_nil ⟨rfl, h.2⟩⟩)
          intro Z
          refine gx_append (a := x) (l := g.map tn) (t := tn p) ?_ (ev_pe B s4 2 (by rfl)) hx (by rw [List.length_map]; omega) (fun _ => rfl) (by rfl) (by rfl) ⟨rfl, rfl, as ++ [x], by rw [← e]; exact hm'⟩
          intro Z
          exact ev_last (a := .mut L) (l := (as ++ [x]).map T.mut) (ev_pe B s4 2 (by rfl)) (ev_pe B s4 4 (by rfl)) hm.top (by simp) (fun _ _ _ => by intro e; cases e)
        intro Z
        rcases snoc_cases (linesF (neF M) don) with hnil | ⟨gs, g, hsn⟩
        · rw [hnil] at hm
          have has : as = [] := by
            have := paired_len hm.par
            exact List.eq_nil_of_length_eq_zero (by simpa using this)
          subst has
          refine gx_cons (Post₁ := fun v m r => r = .next ∧ v = (Str.ofString "place", tn p) :: (Str.ofString "lines", T.mut L) :: List.zip (parsOf (stAt 11)) [tns row, .lst (l6f M)] ∧ ∃ b, Lin m L ([] ++ [b]) ([] ++ [[]])) ?_ ?_
          · intro Z
            refine gx_if (b := true) ?_ (fun _ => ?_) (fun q => nomatch q)
            · intro Z
              refine evb_or2 (a := true) (b := true) ?_ (fun q => nomatch q)
              intro Z
              refine evb_compare (a := .mut L) (b := .lst []) (ev_pe B s4 2 (by rfl)) (ev_pe B s4 3 (by rfl)) (eq_nil (x := .mut L) (y := .lst []) hm.top rfl s4) (by rfl)
            · intro Z
              refine gx_cons (Post₁ := fun v m r => r = .next ∧ v = (Str.ofString "place", tn p) :: (Str.ofString "lines", T.mut L) :: List.zip (parsOf (stAt 11)) [tns row, .lst (l6f M)] ∧ ∃ b, Lin m L ([] ++ [b]) ([] ++ [[]])) ?_ (fun v m r h => ⟨h.1, gx_nil ⟨rfl, h.2⟩⟩)
              intro Z
              exact gx_append_new (a := L) (l := [].map T.mut) (l' := []) (q := []) (ev_pe B s4 2 (by rfl)) (ev_pe B s4 3 (by rfl)) (by rfl) hm.top (by simp) (fun _ => rfl) (by rfl) (by rfl) fun b hb => ⟨rfl, rfl, b, hm.new hb⟩
          · rintro _ m _ ⟨rfl, rfl, b, hm⟩
            exact ⟨rfl, rest m [] b [] [] hm (by rw [e0, hnil]; rfl) (by simp)⟩
        · rw [hsn] at hm hg
          obtain ⟨k, x, rfl, q1, q2⟩ := paired_snoc_inv hm.par
          have hgg := hg.2 g (by simp)
          obtain ⟨q, tl, rfl⟩ : ∃ q tl, g = q :: tl := by
            cases g with
            | nil => exact absurd rfl hgg.1
            | cons q tl => exact ⟨q, tl, rfl⟩
          have hq : q < 6 := hgg.2.2 q (by simp)
          have htest : EvB prog w P (A.deeper env) env ⟨namesOf (stAt 11), (Str.ofString "place", tn p) :: (Str.ofString "lines", T.mut L) :: List.zip (parsOf (stAt 11)) [tns row, .lst (l6f M)]⟩ m (isTrue (ifT (nth (forB (nth (bodyOf (stAt 11)) 1)) 0)) env (eval (ifT (nth (forB (nth (bodyOf (stAt 11)) 1)) 0)) env)) (neF M p q) := by
            intro Z
            refine evb_or2 (a := false) (b := neF M p q) ?_ (fun _ => ?_)
            · intro Z
              refine evb_compare (a := .mut L) (b := .lst []) (ev_pe B s4 2 (by rfl)) (ev_pe B s4 3 (by rfl)) (eq_len (x := .mut L) (y := .lst []) hm.top (k := []) rfl (by simp) s4) (by rfl)
            · intro Z
              refine evb_sc (x := .flt (M p)) (y := .flt (M q)) ?_ ?_ (by rfl) (by rfl)
              · intro Z
                exact ev_at (k := p) (l := l6f M) (ev_pe B s4 2 (by rfl)) (ev_pe B s4 2 (by rfl)) (by rfl) (l6f_at M hp) (by omega) (fun _ _ _ => by intro e; cases e)
              · intro Z
                refine ev_at (k := q) (l := l6f M) (ev_pe B s4 2 (by rfl)) ?_ (by rfl) (l6f_at M hq) (by omega) (fun _ _ _ => by intro e; cases e)
                intro Z
                refine ev_at (k := 0) (a := .mut x) (l := (q :: tl).map tn) ?_ (ev_pe B s4 2 (by rfl)) q2 (by rfl) (by omega) (fun _ _ _ => by intro e; cases e)
                intro Z
                exact ev_last (a := .mut L) (l := (k ++ [x]).map T.mut) (ev_pe B s4 2 (by rfl)) (ev_pe B s4 4 (by rfl)) hm.top (by simp) (fun _ _ _ => by intro e; cases e)
          cases hb : neF M p q with
          | true =>
            rw [hb] at htest
            refine gx_cons (Post₁ := fun v m r => r = .next ∧ v = (Str.ofString "place", tn p) :: (Str.ofString "lines", T.mut L) :: List.zip (parsOf (stAt 11)) [tns row, .lst (l6f M)] ∧ ∃ b, Lin m L (k ++ [x] ++ [b]) (gs ++ [q :: tl] ++ [[]])) ?_ ?_
            · intro Z
              refine gx_if (b := true) htest (fun _ => ?_) (fun q => nomatch q)
              intro Z
              refine gx_cons (Post₁ := fun v m r => r = .next ∧ v = (Str.ofString "place", tn p) :: (Str.ofString "lines", T.mut L) :: List.zip (parsOf (stAt 11)) [tns row, .lst (l6f M)] ∧ ∃ b, Lin m L (k ++ [x] ++ [b]) (gs ++ [q :: tl] ++ [[]])) ?_ (fun v m r h => ⟨h.1, gx_nil ⟨rfl, h.2⟩⟩)
              intro Z
              refine gx_append_new (a := L) (l := (k ++ [x]).map T.mut) (l' := []) (q := []) (ev_pe B s4 2 (by rfl)) (ev_pe B s4 3 (by rfl)) (by rfl) hm.top ?_ (fun _ => rfl) (by rfl) (by rfl) fun b hb => ⟨rfl, rfl, b, hm.new hb⟩
              have h1 := paired_len hm.par
              have h2 := hg.1
              rw [List.length_map, h1]; omega
            · rintro _ m _ ⟨rfl, rfl, b, hm⟩
              exact ⟨rfl, rest m _ b _ [] hm (by rw [e0, hsn, stepL_snoc, show neF M p ((q :: tl).headD 0) = true from hb]; rfl) (by simp)⟩
          | false =>
            rw [hb] at htest
            refine gx_cons (Post₁ := fun v m' r => r = .next ∧ v = (Str.ofString "place", tn p) :: (Str.ofString "lines", T.mut L) :: List.zip (parsOf (stAt 11)) [tns row, .lst (l6f M)] ∧ m' = m) ?_ ?_
            · intro Z
              exact gx_if (b := false) htest (fun q => nomatch q) (fun _ => gx_nil ⟨rfl, rfl, rfl⟩)
            · rintro _ _ _ ⟨rfl, rfl, rfl⟩
              have h2 := hgg.2.1
              exact ⟨rfl, rest _ _ x _ _ hm (by rw [e0, hsn, stepL_snoc, show neF M p ((q :: tl).headD 0) = false from hb]; rfl) (by omega)⟩
    · rintro v m ⟨don, row', hd, hr, rfl, hg, as, hm⟩
      have : row' = [] := by
        cases row' with
        | nil => rfl
        | cons _ _ => cases hr
      subst this
      rw [List.append_nil] at hd
      subst hd
      exact ⟨rfl, rfl, as, hm⟩
  · rintro _ m _ ⟨rfl, rfl, as, hm⟩
    refine ⟨rfl, ?_⟩
    intro Z
    exact gx_ret (ex_return (ev_pe B s4 2 rfl)) ⟨_, rfl, hm.frz⟩
end
end Mine
end
section
namespace Mine
open PySem PyProof.Rows
noncomputable def freeF (Ah : Nat → List Nat) (left : List Nat) : List Nat := left.filter fun i => ((Ah i).filter fun o => left.contains o).isEmpty
noncomputable def bestN (M : Nat → Int) : Nat → List Nat → Nat
  | b, [] => b
  | b, x :: r => bestN M (if ltI [M b, b] [M x, x] then x else b) r
noncomputable def takenF (Ah : Nat → List Nat) (M : Nat → Int) : Nat → List Nat → List Nat → Option (List Nat)
  | 0, _, _ => none
  | k + 1, left, row => if left.isEmpty then some row else match freeF Ah left with
    | [] => none
    | b :: r => takenF Ah M k (left.erase (bestN M b r)) (row ++ [bestN M b r])
theorem filter_tt {α : Type} : ∀ l : List α, l.filter (fun _ => true) = l
  | [] => rfl
  | a :: l => by rw [List.filter_cons_of_pos rfl, filter_tt l]
theorem map_eraseIdx {α β : Type} (f : α → β) : ∀ (l : List α) (i : Nat), (l.eraseIdx i).map f = (l.map f).eraseIdx i
  | [], _ => rfl
  | _ :: _, 0 => rfl
  | a :: l, i + 1 => by rw [List.map_cons, List.eraseIdx_cons_succ, List.eraseIdx_cons_succ, List.map_cons, map_eraseIdx f l i]
theorem bestN_eq (M : Nat → Int) : ∀ (r : List Nat) (b : Nat), bestI [M b, b] (r.map fun i => [M i, (i : Int)]) = [M (bestN M b r), (bestN M b r : Int)]
  | [], b => rfl
  | x :: r, b => by
    rw [List.map_cons, bestI, bestN]
    split
    · exact bestN_eq M r x
    · exact bestN_eq M r b
theorem bestN_mem (M : Nat → Int) : ∀ (r : List Nat) (b : Nat), bestN M b r ∈ b :: r
  | [], b => by simp [bestN]
  | x :: r, b => by
    rw [bestN]
    split
    · have := bestN_mem M r x; exact List.mem_cons_of_mem _ this
    · have := bestN_mem M r b
      rcases List.mem_cons.mp this with h | h
      · rw [h]; simp
      · exact List.mem_cons_of_mem _ (List.mem_cons_of_mem _ h)
theorem tn_ti (l : List Nat) : l.map tn = (l.map fun (i : Nat) => (i : Int)).map ti := by rw [List.map_map]; rfl
theorem intsOf_tn (l : List Nat) : intsOf (l.map tn) = some (l.map fun (i : Nat) => (i : Int)) := by rw [tn_ti]; exact intsOf_ti _
theorem any_tn (l : List Nat) (o : Nat) : (l.map fun (i : Nat) => (i : Int)).any (· == (o : Int)) = l.contains o := by
  rw [List.any_map, List.contains_eq_any_beq]
  congr 1
  funext i
  simp only [Function.comp]
  rw [Bool.eq_iff_iff]
  simp
  omega
section
variable {prog : Program} {w : World} {P : Pm} {A : Around} {μ : Mu} {a : Addr}
theorem taken_ok (B : Blt P) (F : FnI P a 14) (sl : Sl 5 A) (Ah : Nat → List Nat) (M : Nat → Int) (hAh : ∀ i, i < 6 → (Ah i).length ≤ 4096) {res : List Nat} (hres : takenF Ah M 7 (List.range 6) [] = some res) :
    OpL prog w P A μ (fun vs => call (.ref a) vs) [.lst ((List.range 6).map fun i => tns (Ah i)), tis (l6 M)] (tns res) := by
  obtain ⟨fd, F⟩ := F
  intro Z
  refine call_okG F sl.room rfl 3 fun env n => ?_
  have s4 : Sl 4 (A.deeper env) := sl.deeper env
  have hAt : ∀ {i : Nat}, i < 6 → ((List.range 6).map fun i => tns (Ah i))[i]? = some (tns (Ah i)) := fun {i} hi => by simp [hi]
  intro Z
  refine gx_cons (Post₁ := fun v m r => r = .next ∧ ∃ aL, v = (Str.ofString "left", .mut aL) :: List.zip (parsOf (stAt 14)) [.lst ((List.range 6).map fun i => tns (Ah i)), tis (l6 M)] ∧ m aL = some ((List.range 6).map tn)) ?_ ?_
  · intro Z
    exact gx_assign_new (k := .cell) (l := (List.range 6).map tn) (q := (List.range 6).map fun (i : Nat) => .int (i : Int)) rfl (.inr rfl) (ev_pe B s4 6 rfl) rfl rfl fun a _ => ⟨rfl, a, rfl, updM_self⟩
  rintro _ m _ ⟨rfl, aL, rfl, hL⟩
  refine ⟨rfl, ?_⟩
  intro Z
  refine gx_cons (Post₁ := fun v m r => r = .next ∧ ∃ aR, v = (Str.ofString "row", .mut aR) :: (Str.ofString "left", .mut aL) :: List.zip (parsOf (stAt 14)) [.lst ((List.range 6).map fun i => tns (Ah i)), tis (l6 M)] ∧ m aL = some ((List.range 6).map tn) ∧ m aR = some [] ∧ aL ≠ aR) ?_ ?_
  · intro Z
    exact gx_assign_new (k := .local) (l := []) (q := []) rfl (.inl rfl) (ev_pe B s4 6 rfl) rfl rfl fun a ha => ⟨rfl, a, rfl, (by rw [updM_ne (fun e => by subst e; rw [hL] at ha; cases ha)]; exact hL), updM_self, fun e => by subst e; rw [hL] at ha; cases ha⟩
  rintro _ m _ ⟨rfl, aR, rfl, hL, hR, hne⟩
  refine ⟨rfl, ?_⟩
  intro Z
  refine gx_cons (Post₁ := fun v m r => r = .next ∧ v = (Str.ofString "row", .mut aR) :: (Str.ofString "left", .mut aL) :: List.zip (parsOf (stAt 14)) [.lst ((List.range 6).map fun i => tns (Ah i)), tis (l6 M)] ∧ m aR = some (res.map tn)) ?_ ?_
  · intro Z
    refine gx_while (j₀ := 7) (fun j v m => ∃ left row, v = (Str.ofString "row", .mut aR) :: (Str.ofString "left", .mut aL) :: List.zip (parsOf (stAt 14)) [.lst ((List.range 6).map fun i => tns (Ah i)), tis (l6 M)] ∧ m aL = some (left.map tn) ∧ m aR = some (row.map tn) ∧ takenF Ah M j left row = some res ∧ (∀ i ∈ left, i < 6) ∧ left.length ≤ 6 ∧ row.length + j ≤ 7)
      ⟨List.range 6, [], rfl, hL, hR, hres, by simp, by simp, by simp⟩ ?_
    rintro j v m ⟨left, row, rfl, hL, hR, ht, hl6, hll, hrl⟩
    cases j with
    | zero => cases ht
    | succ j =>
    unfold takenF at ht
    refine ⟨!left.isEmpty, ?_, fun hb => ?_, fun hb => ?_⟩
    · intro Z
      refine evb_compare (c := !left.isEmpty) (a := .mut aL) (b := .lst []) (ev_pe B s4 2 (by rfl)) (ev_pe B s4 3 (by rfl)) ?_ (by rfl)
      rw [← List.isEmpty_map (f := tn)]; intro Z; exact ne_nil (x := .mut aL) (y := .lst []) hL rfl s4
    · have hne0 : left.isEmpty = false := by simpa using hb
      rw [hne0] at ht
      simp only [Bool.false_eq_true, if_false] at ht
      cases hf : freeF Ah left with
      | nil => rw [hf] at ht; cases ht
      | cons b r =>
        rw [hf] at ht
        simp only at ht
        have hbm : bestN M b r ∈ freeF Ah left := by rw [hf]; exact bestN_mem M r b
        have hbl : bestN M b r ∈ left := (List.mem_filter.mp hbm).1
        have hfl : (freeF Ah left).length ≤ 6 := Nat.le_trans (List.length_filter_le _ _) hll
        intro Z
        refine gx_post (Post' := fun v m r' => r' = .next ∧ (∀ x y, List.lookup x ((Str.ofString "row", T.mut aR) :: (Str.ofString "left", .mut aL) :: List.zip (parsOf (stAt 14)) [.lst ((List.range 6).map fun i => tns (Ah i)), tis (l6 M)]) = some y → List.lookup x v = some y) ∧ m aL = some ((left.erase (bestN M b r)).map tn) ∧ m aR = some ((row ++ [bestN M b r]).map tn)) ?_ ?_
        · intro Z
          refine gx_ex (vars' := (Str.ofString "free", tns (freeF Ah left)) :: (Str.ofString "row", T.mut aR) :: (Str.ofString "left", .mut aL) :: List.zip (parsOf (stAt 14)) [.lst ((List.range 6).map fun i => tns (Ah i)), tis (l6 M)]) ?_ ?_
          · intro Z
            refine ex_assign_cmp (k := .local) left tn (fun i => ((Ah i).filter fun o => left.contains o).isEmpty) tn s4.1 (by rfl) (.inl rfl) (fun _ _ => rfl) (by rfl) (by rfl) (ev_pe B s4 2 (by rfl)) (by exact hL) (by omega) (fun _ _ _ _ e => by have := ti_eq e; subst this; exact ⟨rfl, rfl⟩) ?_ (fun _ _ _ _ => ev_pe B s4 2 (by rfl))
            intro i hi cenv
            have hi6 := hl6 i hi
            intro Z
            refine tests_one ?_
            intro Z
            refine evb_compare (a := .lst (((Ah i).filter fun o => left.contains o).map tn)) (b := .lst []) ?_ (ev_pe B s4 3 (by rfl)) ?_ (by rfl)
            · intro Z
              refine ev_cmp (Ah i) tn (fun o => left.contains o) tn s4.1 (fun _ _ => rfl) (by rfl) (by rfl) (src := tns (Ah i)) ?_ (by rfl) (hAh i hi6) (fun _ _ _ _ e => by have := ti_eq e; subst this; exact ⟨rfl, rfl⟩) ?_ (fun _ _ _ _ => ev_pe B s4 2 (by rfl))
              · intro Z
                exact ev_at (k := i) (ev_pe B s4 2 (by rfl)) (ev_pe B s4 2 (by rfl)) (by rfl) (hAt hi6) (by omega) (fun _ _ _ => by intro e; cases e)
              · intro o ho cenv2
                intro Z
                refine tests_one ?_
                intro Z
                refine evb_compare (a := tn o) (b := .mut aL) (ev_pe B s4 2 (by rfl)) (ev_pe B s4 2 (by rfl)) ?_ (by rfl)
                rw [← any_tn]; intro Z
                exact in_ok (show its m (.mut aL) = some (left.map tn) from hL) (intsOf_tn _)
            · rw [← List.isEmpty_map (f := tn)]; intro Z; exact eq_nil rfl rfl s4
          · intro Z
            refine gx_cons (Post₁ := fun v m r' => r' = .next ∧ v = (Str.ofString "free", tns (freeF Ah left)) :: (Str.ofString "row", T.mut aR) :: (Str.ofString "left", .mut aL) :: List.zip (parsOf (stAt 14)) [.lst ((List.range 6).map fun i => tns (Ah i)), tis (l6 M)] ∧ m aL = some (left.map tn) ∧ m aR = some ((row ++ [bestN M b r]).map tn)) ?_ ?_
            · intro Z
              refine gx_append (a := aR) (l := row.map tn) (t := tn (bestN M b r)) (ev_pe B s4 2 (by rfl)) ?_ hR (by rw [List.length_map]; omega) (fun _ => rfl) (by rfl) (by rfl) ⟨rfl, rfl, (by rw [updM_ne hne]; exact hL), (by rw [updM_self, List.map_append]; rfl)⟩
              intro Z
              refine ev_sub (a := tupI [M (bestN M b r), (bestN M b r : Int)]) (b := ti 1) ?_ (ev_pe B s4 2 (by rfl)) (sub_tup (k := 1) rfl (by decide) (fun _ _ _ => by intro e; cases e))
              intro Z
              refine bk_eq (bk_maxT (x := .lst ((freeF Ah left).map fun i => tupI [M i, (i : Int)])) (b := [M b, (b : Int)]) (l := r.map fun i => [M i, (i : Int)]) (k := 2) (by rw [hf, List.map_cons, List.map_cons, List.map_map]; rfl) (fun y hy => ?_)) (by rw [bestN_eq]) B (s4.mono (by decide)) (by rfl) (by rfl) (by rfl) ?_
              · rw [← List.map_cons (f := fun i => [M i, (i : Int)])] at hy; obtain ⟨i, _, rfl⟩ := List.mem_map.mp hy; rfl
              · intro Z
                refine evl_cons (by rfl) ?_ evl_nil
                have e1 : (freeF Ah left).map (fun i => tupI [M i, (i : Int)]) = ((freeF Ah left).filter fun _ => true).map fun i => tupI [M i, (i : Int)] := by rw [filter_tt]
                rw [e1]
                intro Z
                refine ev_cmp (freeF Ah left) tn (fun _ => true) (fun i => tupI [M i, (i : Int)]) s4.1 (fun _ _ => rfl) (by rfl) (by rfl) (src := tns (freeF Ah left)) (ev_pe B s4 2 (by rfl)) (by rfl) (by omega) (fun _ _ _ _ e => by have := ti_eq e; subst this; exact ⟨rfl, rfl⟩) (fun _ _ _ => tests_nil) ?_
                intro i hi _ cenv
                have hi6 : i < 6 := hl6 i (List.mem_filter.mp hi).1
                intro Z
                refine ev_intTup ?_ (by simp)
                intro Z
                exact evl_cons (by rfl) (ev_at (k := i) (ev_pe B s4 2 (by rfl)) (ev_pe B s4 2 (by rfl)) (by rfl) (l6_at M hi6) (by omega) (fun _ _ _ => by intro e; cases e)) (evl_cons (by rfl) (ev_pe B s4 2 (by rfl)) evl_nil)
            · rintro _ m _ ⟨rfl, rfl, hL, hR⟩
              refine ⟨rfl, ?_⟩
              intro Z
              refine gx_cons (Post₁ := fun v m r' => r' = .next ∧ v = (Str.ofString "free", tns (freeF Ah left)) :: (Str.ofString "row", T.mut aR) :: (Str.ofString "left", .mut aL) :: List.zip (parsOf (stAt 14)) [.lst ((List.range 6).map fun i => tns (Ah i)), tis (l6 M)] ∧ m aL = some ((left.erase (bestN M b r)).map tn) ∧ m aR = some ((row ++ [bestN M b r]).map tn)) ?_ ?_
              · intro Z
                refine gx_remove (a := aL) (l := left.map tn) (q := left.map fun (i : Nat) => (i : Int)) (x := (bestN M b r : Int)) (j := left.idxOf (bestN M b r)) (ev_pe B s4 2 (by rfl)) ?_ hL (intsOf_tn _) ?_ ?_ (fun _ => rfl) (by rfl) (by rfl) ⟨rfl, rfl, ?_, (by rw [updM_ne (Ne.symm hne)]; exact hR)⟩
                · intro Z
                  exact ev_last (a := .mut aR) (l := (row ++ [bestN M b r]).map tn) (ev_pe B s4 2 (by rfl)) (ev_pe B s4 4 (by rfl)) hR (by simp) (fun _ _ _ => by intro e; cases e)
                · rw [List.getElem?_map, List.getElem?_eq_getElem (List.idxOf_lt_length_iff.mpr hbl), List.getElem_idxOf]; rfl
                · intro i hi e
                  rw [List.getElem?_map] at e
                  cases h : left[i]? with
                  | none => rw [h] at e; cases e
                  | some y =>
                    rw [h] at e
                    have e : (y : Int) = (bestN M b r : Int) := by simpa using e
                    have : y = bestN M b r := by omega
                    subst this
                    have hlt := (List.getElem?_eq_some_iff.mp h)
                    obtain ⟨h1, h2⟩ := hlt
                    have := List.not_of_lt_findIdx (p := (· == bestN M b r)) (xs := left) hi
                    simp [h2] at this
                · rw [updM_self, List.erase_eq_eraseIdx_of_idxOf rfl, map_eraseIdx]
              · rintro _ m _ ⟨rfl, rfl, hL, hR⟩
                refine ⟨rfl, gx_nil ⟨rfl, fun x y h => ?_, hL, hR⟩⟩
                have h1 : x ≠ Str.ofString "free" := by
                  intro e; subst e; exact nomatch (show (none : Option T) = some y from h)
                rw [lookup_cons_ne h1]; exact h
        · rintro v m r' ⟨rfl, hv, hL, hR⟩
          refine ⟨_, hv, .inl ⟨rfl, j, Nat.lt_succ_self j, left.erase (bestN M b r), row ++ [bestN M b r], rfl, hL, hR, ht, fun i hi => hl6 i (List.mem_of_mem_erase hi), Nat.le_trans (List.length_erase_le) hll, ?_⟩⟩
          rw [List.length_append]; simp; omega
    · have hne0 : left.isEmpty = true := by simpa using hb
      rw [hne0] at ht
      simp only [if_true] at ht
      cases ht
      exact ⟨rfl, rfl, hR⟩
  · rintro _ m _ ⟨rfl, rfl, hR⟩
    refine ⟨rfl, ?_⟩
    intro Z
    refine gx_ret (ex_return (ev_pe B s4 2 rfl)) ⟨_, rfl, ?_⟩
    unfold frz
    simp only [hR]
    rw [frz_tn]
end
end Mine
end
section
namespace Mine
open PySem PyProof.Rows
noncomputable def okHead (qs : List (List Nat)) (c : Nat) : Bool := qs.all fun s => !(s.tail.contains c)
noncomputable def pickF (qs : List (List Nat)) : Option Nat := (qs.map (·.headD 0)).find? (okHead qs)
noncomputable def dropF (c : Nat) (s : List Nat) : List Nat := if s.headD 0 = c then s.tail else s
noncomputable def mergeF : Nat → List (List Nat) → List Nat → Option (List Nat)
  | 0, _, _ => none
  | k + 1, gs, row => if (gs.filter fun s => !s.isEmpty).isEmpty then some row else match pickF (gs.filter fun s => !s.isEmpty) with
    | none => none
    | some c => mergeF k ((gs.filter fun s => !s.isEmpty).map (dropF c)) (row ++ [c])
theorem pick_tail (l : List Nat) (h : l.length ≤ 8) : pickV (l.map tn) (some 1) none none = l.tail.map tn := by
  rcases l with _ | ⟨a, _ | ⟨b, _ | ⟨c, _ | ⟨d, _ | ⟨e, _ | ⟨f, _ | ⟨g, _ | ⟨i, _ | ⟨j, l⟩⟩⟩⟩⟩⟩⟩⟩⟩
  all_goals first | (exfalso; simp at h; done) | kernel_rfl
noncomputable abbrev Ps := List (Addr × List Nat)
structure Seqs (m : Mu) (ps : Ps) : Prop where
  at' : ∀ p ∈ ps, m p.1 = some (p.2.map tn)
  nd : (ps.map (·.1)).Nodup
  sm : ∀ p ∈ ps, p.2.length ≤ 8
section
variable {prog : Program} {w : World} {P : Pm} {A : Around} {env : Env} {μ : Mu} {a : Addr}
noncomputable abbrev c3v (ps : Ps) (aR : Addr) : Vars := [(Str.ofString "sequences", .lst (ps.map fun p => .mut p.1)), (Str.ofString "result", .mut aR)]
noncomputable def c3while : List Stmt := whB (nth (bodyOf (stAt 2)) 1)
/-- the inner loop -/
theorem c3_inner (B : Blt P) (s4 : Sl 4 A) {m : Mu} (ps : Ps) (aR : Addr) (c : Nat) {s1 : T} : ∀ (r : Ps), Seqs m r → ∀ v, (∀ x y, List.lookup x ((Str.ofString "candidate", tn c) :: c3v ps aR) = some y → List.lookup x v = some y) →
    ForOk (fun u t r => Ex prog w P A env (namesOf (stAt 2)) m (execs (forB (nth (forB (nth c3while 2)) 1)) env) u t r)
      (fun u t r => Ex prog w P A env (namesOf (stAt 2)) m (execs (forO (nth (forB (nth c3while 2)) 1)) env) u t r)
      (Str.ofString "s2") (r.map fun p => .mut p.1) v (if okHead (r.map (·.2)) c then (Str.ofString "candidate", tn c) :: c3v ps aR else (Str.ofString "candidate", .sc .none) :: c3v ps aR) (if okHead (r.map (·.2)) c then .brk else .next)
  | [], _, v, hv => .nil (by
      intro Z
      refine ex_stop (ex_weak (v₁ := v) ex_break ?_) (fun e => nomatch e)
      exact hv)
  | p :: r, hs, v, hv => by
    have hp := hs.at' p (by simp)
    have htest : EvB prog w P A env ⟨namesOf (stAt 2), (Str.ofString "s2", .mut p.1) :: v⟩ m (isTrue (ifT (nth (forB (nth (forB (nth c3while 2)) 1)) 0)) env
        (eval (ifT (nth (forB (nth (forB (nth c3while 2)) 1)) 0)) env)) (p.2.tail.contains c) := by
      intro Z
      refine evb_compare (a := tn c) (b := .lst (p.2.tail.map tn)) ?_ ?_ ?_ (by rfl)
      · intro Z
        refine ev_name (k := .local) (by rfl) (.inl rfl) ?_ (by rfl) (by rfl)
        rw [lookup_cons_ne (by decide)]
        exact hv _ _ rfl
      · rw [← pick_tail p.2 (hs.sm p (by simp))]
        intro Z
        refine ev_slice (x := .mut p.1) (l := p.2.map tn) (a := some 1) (b := none) (c := none) ?_ ?_ ?_ ?_ hp (by decide) ?_
        rotate_left
        · exact ⟨1, rfl, ev_pe B s4 2 (by rfl)⟩
        · rfl
        · rfl
        rotate_left
        · intro Z
          exact ev_name (k := .local) (by rfl) (.inl rfl) lookup_cons_self (by rfl) (by rfl)
        · rw [pick_tail p.2 (hs.sm p (by simp))]
          have := hs.sm p (by simp)
          rw [List.length_map, List.length_tail]; omega
      · rw [← any_tn]; intro Z
        exact in_ok rfl (intsOf_tn _)
    have e : okHead ((p :: r).map (·.2)) c = (!(p.2.tail.contains c) && okHead (r.map (·.2)) c) := rfl
    cases hb : p.2.tail.contains c with
    | true =>
      rw [e, hb]
      simp only [Bool.not_true, Bool.false_and, Bool.false_eq_true, if_false]
      refine .brk ?_
      intro Z
      refine ex_stop (r := .brk) ?_ (fun e => nomatch e)
      rw [hb] at htest
      intro Z
      refine ex_if htest (fun _ => ?_) (fun q => nomatch q)
      intro Z
      refine ex_cons (v₁ := (Str.ofString "candidate", .sc .none) :: (Str.ofString "s2", .mut p.1) :: v) (ex_assign (k := .local) (by rfl) (.inl rfl) (ev_pe B s4 2 (by rfl)) (by rfl)) ?_
      intro Z
      refine ex_stop (r := .brk) (ex_weak ex_break ?_) (fun e => nomatch e)
      intro x y h
      by_cases h1 : x = Str.ofString "candidate"
      · subst h1; exact h
      rw [lookup_cons_ne h1] at h
      have h2 : x ≠ Str.ofString "s2" := by
        intro e; subst e; exact nomatch (show (none : Option T) = some y from h)
      rw [lookup_cons_ne h1, lookup_cons_ne h2]
      refine hv x y ?_
      rw [lookup_cons_ne h1]; exact h
    | false =>
      rw [e, hb]
      simp only [Bool.not_false, Bool.true_and]
      refine .next (v₁ := (Str.ofString "s2", .mut p.1) :: v) ?_ (c3_inner B s4 ps aR c (s1 := s1) r ⟨fun q hq => hs.at' q (by simp [hq]), (by have := hs.nd; rw [List.map_cons, List.nodup_cons] at this; exact this.2), fun q hq => hs.sm q (by simp [hq])⟩ _ ?_)
      · intro Z
        rw [hb] at htest
        refine ex_cons (ex_if htest (fun q => nomatch q) (fun _ => ex_nil)) ex_nil
      · intro x y h
        have h1 : x ≠ Str.ofString "s2" := by
          intro e; subst e; exact nomatch (show (none : Option T) = some y from h)
        rw [lookup_cons_ne h1]
        exact hv x y h
/-- what the outer loop leaves -/
noncomputable def candT (o : Option Nat) : T := match o with | some c => tn c | none => .sc .none
/-- the outer loop -/
theorem c3_outer (B : Blt P) (s4 : Sl 4 A) {m : Mu} (ps : Ps) (aR : Addr) (hs : Seqs m ps) : ∀ (r : Ps), (∀ p ∈ r, p ∈ ps ∧ p.2 ≠ []) → ∀ v, (∀ x y, List.lookup x (c3v ps aR) = some y → List.lookup x v = some y) → (r = [] → v = (Str.ofString "candidate", .sc .none) :: c3v ps aR) →
    ForOk (fun u t r => Ex prog w P A env (namesOf (stAt 2)) m (execs (forB (nth c3while 2)) env) u t r)
      (fun u t r => Ex prog w P A env (namesOf (stAt 2)) m (execs [] env) u t r)
      (Str.ofString "s1") (r.map fun p => .mut p.1) v ((Str.ofString "candidate", candT ((r.map (·.2.headD 0)).find? (okHead (ps.map (·.2))))) :: c3v ps aR) .next
  | [], _, v, _, h0 => by
    rw [h0 rfl]
    exact .nil ex_nil
  | p :: r, hr, v, hv, _ => by
    obtain ⟨hp1, hp2⟩ := hr p (by simp)
    have hp := hs.at' p hp1
    obtain ⟨q, tl, hq⟩ : ∃ q tl, p.2 = q :: tl := by
      cases h : p.2 with
      | nil => exact absurd h hp2
      | cons q tl => exact ⟨q, tl, rfl⟩
    have hhead : p.2.headD 0 = q := by rw [hq]; rfl
    have hbody : Ex prog w P A env (namesOf (stAt 2)) m (execs (forB (nth c3while 2)) env) ((Str.ofString "s1", .mut p.1) :: v)
        (if okHead (ps.map (·.2)) q then (Str.ofString "candidate", tn q) :: c3v ps aR else (Str.ofString "candidate", .sc .none) :: c3v ps aR) (if okHead (ps.map (·.2)) q then .brk else .next) := by
      intro Z
      refine ex_cons (v₁ := (Str.ofString "candidate", tn q) :: (Str.ofString "s1", .mut p.1) :: v) ?_ ?_
      · intro Z
        refine ex_assign (k := .local) (by rfl) (.inl rfl) ?_ (by rfl)
        intro Z
        refine ev_at (k := 0) (a := .mut p.1) (l := p.2.map tn) ?_ (ev_pe B s4 2 (by rfl)) hp (by rw [hq]; rfl) (by omega) (fun _ _ _ => by intro e; cases e)
        intro Z
        exact ev_name (k := .local) (by rfl) (.inl rfl) lookup_cons_self (by rfl) (by rfl)
      · have hfor : Ex prog w P A env (namesOf (stAt 2)) m (exec (nth (forB (nth c3while 2)) 1) env) ((Str.ofString "candidate", tn q) :: (Str.ofString "s1", .mut p.1) :: v)
            (if okHead (ps.map (·.2)) q then (Str.ofString "candidate", tn q) :: c3v ps aR else (Str.ofString "candidate", .sc .none) :: c3v ps aR) (if okHead (ps.map (·.2)) q then .brk else .next) := by
          intro Z
          have h1 : ∀ x y, List.lookup x ((Str.ofString "candidate", tn q) :: c3v ps aR) = some y → List.lookup x ((Str.ofString "candidate", tn q) :: (Str.ofString "s1", .mut p.1) :: v) = some y := by
            intro x y h
            by_cases hx : x = Str.ofString "candidate"
            · subst hx; rw [lookup_cons_self] at h ⊢; exact h
            · rw [lookup_cons_ne hx] at h ⊢
              have h2 : x ≠ Str.ofString "s1" := by
                intro e; subst e; exact nomatch (show (none : Option T) = some y from h)
              rw [lookup_cons_ne h2]; exact hv x y h
          refine ex_for (k := .local) (src := .lst (ps.map fun p => .mut p.1)) s4.1 (by rfl) (.inl rfl) (fun _ _ => rfl) ?_ (by rfl) (c3_inner B s4 ps aR q (s1 := .mut p.1) ps hs _ h1)
          intro Z
          refine ev_name (k := .local) (by rfl) (.inl rfl) (h1 _ _ ?_) (by rfl) (by rfl)
          rw [lookup_cons_ne (by decide)]; rfl
        cases hb : okHead (ps.map (·.2)) q with
        | true =>
          rw [hb] at hfor
          intro Z
          exact ex_stop (r := .brk) hfor (fun e => nomatch e)
        | false =>
          rw [hb] at hfor
          intro Z
          exact ex_cons hfor ex_nil
    rw [List.map_cons, List.map_cons, List.find?_cons, hhead]
    cases hb : okHead (ps.map (·.2)) q with
    | true =>
      rw [hb] at hbody
      exact .brk hbody
    | false =>
      rw [hb] at hbody
      refine .next hbody (c3_outer B s4 ps aR hs r (fun p hp => hr p (by simp [hp])) _ (fun x y h => ?_) fun _ => rfl)
      have h1 : x ≠ Str.ofString "candidate" := by
        intro e; subst e; exact nomatch (show (none : Option T) = some y from h)
      rw [if_neg (by decide), lookup_cons_ne h1]; exact h
theorem c3_for (B : Blt P) (s4 : Sl 4 A) {m : Mu} (ps : Ps) (aR : Addr) (hs : Seqs m ps) (hne : ∀ p ∈ ps, p.2 ≠ []) (h0 : ps ≠ []) :
    Ex prog w P A env (namesOf (stAt 2)) m (exec (c3while[2]?.getD (.Pass ⟨0,0,0,0⟩)) env) (c3v ps aR) ((Str.ofString "candidate", candT (pickF (ps.map (·.2)))) :: c3v ps aR) .next := by
  have e : pickF (ps.map (·.2)) = (ps.map (·.2.headD 0)).find? (okHead (ps.map (·.2))) := by unfold pickF; rw [List.map_map]; rfl
  rw [e]
  intro Z
  exact ex_for (k := .local) (src := .lst (ps.map fun p => .mut p.1)) s4.1 (by rfl) (.inl rfl) (fun _ _ => rfl) (ev_pe B s4 2 (by rfl)) (by rfl) (c3_outer B s4 ps aR hs ps (fun p hp => ⟨hp, hne p hp⟩) _ (fun _ _ h => h) fun e => absurd e h0)
/-- the last loop -/
noncomputable def dropP (c : Nat) (p : Addr × List Nat) : Addr × List Nat := (p.1, dropF c p.2)
theorem c3_del (B : Blt P) (s4 : Sl 4 A) {n : Nat} {m : Mu} (ps : Ps) (aR : Addr) (hs : Seqs m ps) (hne : ∀ p ∈ ps, p.2 ≠ []) (hR : aR ∉ ps.map (·.1)) {row : List T} (hrow : m aR = some row) (c : Nat) :
    Gx prog w P A n env (namesOf (stAt 2)) ((Str.ofString "candidate", tn c) :: c3v ps aR) m (exec (c3while[5]?.getD (.Pass ⟨0,0,0,0⟩)) env)
      (fun v m' r => r = .next ∧ v = (Str.ofString "candidate", tn c) :: c3v ps aR ∧ Seqs m' (ps.map (dropP c)) ∧ m' aR = some row) := by
  intro Z
  refine gx_for (k := .local) (src := .lst (ps.map fun p => .mut p.1)) (items := ps.map fun p => .mut p.1) (fun rem v m' => ∃ don rest, ps = don ++ rest ∧ rem = rest.map (fun p => T.mut p.1) ∧ v = (Str.ofString "candidate", tn c) :: c3v ps aR ∧ (∀ p ∈ don, m' p.1 = some ((dropF c p.2).map tn)) ∧ (∀ p ∈ rest, m' p.1 = some (p.2.map tn)) ∧ m' aR = some row)
    s4.1 (by rfl) (.inl rfl) (fun _ _ => rfl) (ev_pe B s4 2 (by rfl)) (.inl rfl) ⟨[], ps, rfl, rfl, rfl, by simp, hs.at', hrow⟩ ?_ ?_
  · rintro it rem v m' ⟨don, rest, hd, hr, rfl, h1, h2, h3⟩
    cases rest with
    | nil => cases hr
    | cons p rest =>
      rw [List.map_cons] at hr
      injection hr with e1 e2
      subst e1 e2
      have hpm : p ∈ ps := by rw [hd]; simp
      obtain ⟨q, tl, hq⟩ : ∃ q tl, p.2 = q :: tl := by
        cases h : p.2 with
        | nil => exact absurd h (hne p hpm)
        | cons q tl => exact ⟨q, tl, rfl⟩
      have hp := h2 p (by simp)
      rw [hq] at hp
      have nd := hs.nd
      rw [hd, List.map_append, List.map_cons, List.nodup_append] at nd
      have nd2 := List.nodup_cons.mp nd.2.1
      have hdp : ∀ x ∈ don, x.1 ≠ p.1 := fun x hx e => nd.2.2 x.1 (List.mem_map_of_mem hx) p.1 (by simp) e
      have hrp : ∀ x ∈ rest, x.1 ≠ p.1 := fun x hx e => nd2.1 (by rw [← e]; exact List.mem_map_of_mem hx)
      have hRp : aR ≠ p.1 := fun e => hR (by rw [e]; exact List.mem_map_of_mem hpm)
      have hsub : ∀ x y, List.lookup x ((Str.ofString "candidate", tn c) :: c3v ps aR) = some y → List.lookup x ((Str.ofString "seq", T.mut p.1) :: (Str.ofString "candidate", tn c) :: c3v ps aR) = some y := by
        intro x y h
        have h1 : x ≠ Str.ofString "seq" := by
          intro e; subst e; exact nomatch (show (none : Option T) = some y from h)
        rw [lookup_cons_ne h1]; exact h
      intro Z
      refine gx_post (Post' := fun v m'' r => r = .next ∧ v = (Str.ofString "seq", T.mut p.1) :: (Str.ofString "candidate", tn c) :: c3v ps aR ∧ m'' p.1 = some ((dropF c p.2).map tn) ∧ ∀ b, b ≠ p.1 → m'' b = m' b) ?_ ?_
      · have htest : EvB prog w P A env ⟨namesOf (stAt 2), (Str.ofString "seq", T.mut p.1) :: (Str.ofString "candidate", tn c) :: c3v ps aR⟩ m' (isTrue (ifT (nth (forB (nth c3while 5)) 0)) env (eval (ifT (nth (forB (nth c3while 5)) 0)) env)) ((q : Int) == (c : Int)) := by
          intro Z
          refine evb_sc (x := .int q) (y := .int c) ?_ (ev_pe B s4 2 (by rfl)) (by rfl) (by rfl)
          intro Z
          exact ev_at (k := 0) (a := .mut p.1) (l := (q :: tl).map tn) (ev_pe B s4 2 (by rfl)) (ev_pe B s4 2 (by rfl)) hp (by rfl) (by omega) (fun _ _ _ => by intro e; cases e)
        rcases Classical.em (q = c) with hqc | hqc
        · subst hqc
          have e : ((q : Int) == (q : Int)) = true := by simp
          rw [e] at htest
          intro Z
          refine gx_cons (Post₁ := fun v m'' r => r = .next ∧ v = (Str.ofString "seq", T.mut p.1) :: (Str.ofString "candidate", tn q) :: c3v ps aR ∧ m'' = updM m' p.1 (tl.map tn)) ?_ ?_
          · intro Z
            refine gx_if htest (fun _ => ?_) (fun q => nomatch q)
            intro Z
            refine gx_cons (Post₁ := fun v m'' r => r = .next ∧ v = (Str.ofString "seq", T.mut p.1) :: (Str.ofString "candidate", tn q) :: c3v ps aR ∧ m'' = updM m' p.1 (tl.map tn)) ?_ (fun v m r h => ⟨h.1, gx_nil ⟨rfl, h.2⟩⟩)
            intro Z
            exact gx_del0 (a := p.1) (x := tn q) (l := tl.map tn) (ev_pe B s4 2 (by rfl)) (ev_pe B s4 2 (by rfl)) hp ⟨rfl, rfl, rfl⟩
          · rintro _ _ _ ⟨rfl, rfl, rfl⟩
            refine ⟨rfl, gx_nil ⟨rfl, rfl, ?_, fun b hb => updM_ne hb⟩⟩
            rw [updM_self]
            unfold dropF
            rw [hq, if_pos (by rfl)]; rfl
        · have e : ((q : Int) == (c : Int)) = false := by
            have : (q : Int) ≠ c := by omega
            simpa using this
          rw [e] at htest
          intro Z
          refine gx_cons (Post₁ := fun v m'' r => r = .next ∧ v = (Str.ofString "seq", T.mut p.1) :: (Str.ofString "candidate", tn c) :: c3v ps aR ∧ m'' = m') ?_ ?_
          · intro Z
            exact gx_if htest (fun q => nomatch q) (fun _ => gx_nil ⟨rfl, rfl, rfl⟩)
          · rintro _ _ _ ⟨rfl, rfl, rfl⟩
            refine ⟨rfl, gx_nil ⟨rfl, rfl, ?_, fun b hb => rfl⟩⟩
            rw [hp]
            unfold dropF
            rw [hq, if_neg (by exact hqc)]
      · rintro v m'' r ⟨rfl, rfl, h4, h5⟩
        refine ⟨_, hsub, rfl, don ++ [p], rest, by rw [hd]; simp, rfl, rfl, fun x hx => ?_, fun x hx => ?_, ?_⟩
        · rcases List.mem_append.mp hx with hx | hx
          · rw [h5 _ (hdp x hx)]; exact h1 x hx
          · have : x = p := by simpa using hx
            subst this; exact h4
        · rw [h5 _ (hrp x hx)]; exact h2 x (by simp [hx])
        · rw [h5 _ hRp]; exact h3
  · rintro v m' ⟨don, rest, hd, hr, rfl, h1, h2, h3⟩
    have : rest = [] := by
      cases rest with
      | nil => rfl
      | cons _ _ => cases hr
    subst this
    rw [List.append_nil] at hd
    subst hd
    refine ⟨rfl, rfl, ⟨fun p hp => ?_, ?_, fun p hp => ?_⟩, h3⟩
    · obtain ⟨q, hq, rfl⟩ := List.mem_map.mp hp
      exact h1 q hq
    · have : (ps.map (dropP c)).map (·.1) = ps.map (·.1) := by rw [List.map_map]; rfl
      rw [this]; exact hs.nd
    · obtain ⟨q, hq, rfl⟩ := List.mem_map.mp hp
      have := hs.sm q hq
      show (dropF c q.2).length ≤ 8
      unfold dropF
      split
      · rw [List.length_tail]; omega
      · exact this
end
end Mine
end
section
namespace Mine
open PySem PyProof.Rows
section
variable {prog : Program} {w : World} {P : Pm} {A : Around} {env : Env} {μ : Mu} {a : Addr} {nm : List (Str × NameKind)} {n : Nat} {Z : Addr → Prop}
theorem c3v_sub {ps : Ps} {aR : Addr} {v : Vars} (h1 : List.lookup (Str.ofString "sequences") v = some (.lst (ps.map fun p => .mut p.1))) (h2 : List.lookup (Str.ofString "result") v = some (.mut aR)) : ∀ x y, List.lookup x (c3v ps aR) = some y → List.lookup x v = some y := by
  intro x y h
  rcases Classical.em (x = Str.ofString "sequences") with q | q
  · subst q; rw [h1]; exact h
  · rcases Classical.em (x = Str.ofString "result") with q2 | q2
    · subst q2; rw [h2]; exact h
    · unfold c3v at h
      rw [lookup_cons_ne q, lookup_cons_ne q2] at h
      cases h
theorem seqs_filter {m : Mu} {ps : Ps} (h : Seqs m ps) (f : Addr × List Nat → Bool) : Seqs m (ps.filter f) :=
  ⟨fun p hp => h.at' p (List.mem_filter.mp hp).1, h.nd.sublist ((List.filter_sublist).map _), fun p hp => h.sm p (List.mem_filter.mp hp).1⟩
theorem gx_one {vars : Vars} {st : Stmt} {Post : PostG} (h1 : Gx prog w P A n env nm vars μ (exec st env) Post) : Gx prog w P A n env nm vars μ (execs [st] env) Post := fun s Q E p o =>
  wpAny_execs_cons (h1 s _ E p fun f h' tk Z' v m r hp pr k z rf => by
    have q := o f h' tk Z' v m r hp pr k z rf
    cases rf with
    | next => exact wpAny_execs_nil q
    | brk => exact q
    | ret _ => exact q)
theorem c3_first (B : Blt P) (s4 : Sl 4 A) {m : Mu} {ps : Ps} {aR : Addr} (hs : Seqs m ps) (hpl : ps.length ≤ 100) : Ex prog w P A env (namesOf (stAt 2)) m (exec (c3while[0]?.getD (.Pass ⟨0,0,0,0⟩)) env) (c3v ps aR) ((Str.ofString "sequences", .lst ((ps.filter (fun p => !p.2.isEmpty)).map fun p => .mut p.1)) :: c3v ps aR) .next := by
  intro Z
  refine ex_assign_cmp (k := .local) ps (fun p => T.mut p.1) (fun p => !p.2.isEmpty) (fun p => T.mut p.1) s4.1 (by rfl) (.inl rfl) (fun _ _ => rfl) (by rfl) (by rfl) (ev_pe B s4 2 (by rfl)) (by rfl) (by omega) ?_ ?_ ?_
  · intro p hp q hq e
    injection e with e
    have h1 := hs.at' p hp
    have h2 := hs.at' q hq
    rw [e, h2] at h1
    injection h1 with h1
    refine ⟨?_, by rw [e]⟩
    have : p.2.isEmpty = q.2.isEmpty := by
      have h3 := congrArg List.isEmpty h1
      simpa using h3.symm
    simp only [this]
  · intro p hp cenv
    intro Z
    refine tests_one ?_
    intro Z
    refine evb_val (v := .mut p.1) (ev_pe B s4 2 (by rfl)) ?_ (by rfl)
    show (m p.1).map (fun l => !l.isEmpty) = _
    rw [hs.at' p hp]
    simp
  · intro p hp _ cenv
    exact ev_pe B s4 2 (by rfl)
theorem c3_empty (B : Blt P) (s4 : Sl 4 A) {m : Mu} {qs : Ps} {aR : Addr} : EvB prog w P A env ⟨namesOf (stAt 2), c3v qs aR⟩ m (isTrue (ifT (nth c3while 1)) env (eval (ifT (nth c3while 1)) env)) qs.isEmpty := by
  intro Z
  have e1 : qs.isEmpty = !(!qs.isEmpty) := by simp
  rw [e1]
  refine evb_not ?_
  intro Z
  refine evb_val (v := .lst (qs.map fun p => .mut p.1)) (ev_pe B s4 2 (by rfl)) ?_ (by rfl)
  show some (!(qs.map fun p => T.mut p.1).isEmpty) = _
  simp
theorem c3_body (B : Blt P) (s4 : Sl 4 A) (ps0 : Ps) (hs0 : Seqs μ ps0) (hz : ps0.length ≤ 100) {k : Nat} (hk : k ≤ 50) {res : List Nat} (hres : mergeF k (ps0.map (·.2)) [] = some res) :
    Gx prog w P A n env (namesOf (stAt 2)) ((parsOf (stAt 2)).zip [.lst (ps0.map fun p => .mut p.1)]) μ (execs (bodyOf (stAt 2)) env) (fun v m r => ∃ aR, r = .ret (.mut aR) ∧ m aR = some (res.map tn)) := by
  intro Z
  refine gx_cons (Post₁ := fun v m r => r = .next ∧ ∃ aR, v = (Str.ofString "result", .mut aR) :: (parsOf (stAt 2)).zip [.lst (ps0.map fun p => .mut p.1)] ∧ Seqs m ps0 ∧ aR ∉ ps0.map (·.1) ∧ m aR = some []) ?_ ?_
  · intro Z
    refine gx_assign_new (k := .local) (l := []) (q := []) (by rfl) (.inl rfl) (ev_pe B s4 6 (by rfl)) (by rfl) (by rfl) fun a ha => ?_
    have hna : a ∉ ps0.map (·.1) := fun q => by
      obtain ⟨p, hp, e⟩ := List.mem_map.mp q
      have := hs0.at' p hp
      rw [e, ha] at this; cases this
    exact ⟨rfl, a, rfl, ⟨fun p hp => by rw [updM_ne (fun e => hna (by rw [← e]; exact List.mem_map_of_mem hp))]; exact hs0.at' p hp, hs0.nd, hs0.sm⟩, hna, updM_self⟩
  rintro _ m _ ⟨rfl, aR, rfl, hs, hna, hR⟩
  refine ⟨rfl, ?_⟩
  intro Z
  refine gx_drop (vars' := c3v ps0 aR) ?_ (c3v_sub (by rfl) (by rfl))
  intro Z
  refine gx_one ?_
  · intro Z
    refine gx_while (j₀ := k) (fun j v m => ∃ ps row, v = c3v ps aR ∧ Seqs m ps ∧ aR ∉ ps.map (·.1) ∧ m aR = some (row.map tn) ∧ mergeF j (ps.map (·.2)) row = some res ∧ row.length + j ≤ 50 ∧ ps.length ≤ 100) ⟨ps0, [], rfl, hs, hna, hR, hres, by simpa using hk, hz⟩ ?_
    rintro j v m ⟨ps, row, rfl, hs, hna, hR, hm, hrl, hpl⟩
    refine ⟨true, evb_val (ev_bool) (by rfl) (by rfl), fun _ => ?_, fun q => nomatch q⟩
    cases j with
    | zero => cases hm
    | succ j =>
    have hs' := seqs_filter hs (fun p => !p.2.isEmpty)
    have hne : ∀ p ∈ ps.filter (fun p => !p.2.isEmpty), p.2 ≠ [] := fun p hp e => by
      have := (List.mem_filter.mp hp).2
      rw [e] at this; cases this
    have hna' : aR ∉ (ps.filter (fun p => !p.2.isEmpty)).map (·.1) := fun q => hna (by
      obtain ⟨p, hp, e⟩ := List.mem_map.mp q
      rw [← e]; exact List.mem_map_of_mem (List.mem_filter.mp hp).1)
    have hpl' : (ps.filter (fun p => !p.2.isEmpty)).length ≤ 100 := Nat.le_trans (List.length_filter_le _ _) hpl
    have eF : (ps.map (·.2)).filter (fun s => !s.isEmpty) = (ps.filter (fun p => !p.2.isEmpty)).map (·.2) := by rw [List.filter_map]; rfl
    unfold mergeF at hm
    rw [eF] at hm
    intro Z
    refine gx_ex (c3_first B s4 hs hpl) ?_
    intro Z
    refine gx_drop (vars' := c3v (ps.filter (fun p => !p.2.isEmpty)) aR) ?_ (c3v_sub (by rfl) (by rfl))
    generalize hq : ps.filter (fun p => !p.2.isEmpty) = qs at *
    have htest := @c3_empty prog w P A env B s4 m qs aR
    cases hqe : qs with
    | nil =>
      rw [hqe] at hm htest
      simp only [List.map_nil, List.isEmpty_nil, if_true] at hm
      cases hm
      intro Z
      refine gx_ret (t := .mut aR) (vars' := c3v [] aR) ?_ (.inr ⟨_, rfl, aR, rfl, hR⟩)
      intro Z
      refine ex_if (b := true) htest (fun _ => ?_) (fun q => nomatch q)
      intro Z
      exact ex_stop (r := .ret (.mut aR)) (ex_return (ev_pe B s4 2 (by rfl))) (fun e => nomatch e)
    | cons p0 qs0 =>
      rw [← hqe]
      have hqn : qs.isEmpty = false := by rw [hqe]; rfl
      rw [hqn] at htest
      have hme : (qs.map (·.2)).isEmpty = false := by rw [hqe]; rfl
      rw [hme] at hm
      simp only [Bool.false_eq_true, if_false] at hm
      cases hc : pickF (qs.map (·.2)) with
      | none => rw [hc] at hm; cases hm
      | some c =>
        rw [hc] at hm
        simp only at hm
        intro Z
        refine gx_ex (vars' := c3v qs aR) (ex_if (b := false) htest (fun q => nomatch q) (fun _ => ex_nil)) ?_
        intro Z
        refine gx_ex (c3_for B s4 qs aR hs' hne (by rw [hqe]; exact List.cons_ne_nil _ _)) ?_
        rw [hc]
        intro Z
        refine gx_ex (vars' := (Str.ofString "candidate", tn c) :: c3v qs aR) (ex_if (b := false) (ev_pb B s4 5 (by rfl)) (fun q => nomatch q) (fun _ => ex_nil)) ?_
        intro Z
        refine gx_cons (Post₁ := fun v m' r => r = .next ∧ v = (Str.ofString "candidate", tn c) :: c3v qs aR ∧ m' = updM m aR (row.map tn ++ [tn c])) ?_ ?_
        · intro Z
          exact gx_append (a := aR) (ev_pe B s4 2 (by rfl)) (ev_pe B s4 2 (by rfl)) hR (by rw [List.length_map]; omega) (fun _ => rfl) (by rfl) (by rfl) ⟨rfl, rfl, rfl⟩
        · rintro _ _ _ ⟨rfl, rfl, rfl⟩
          refine ⟨rfl, ?_⟩
          have hs2 : Seqs (updM m aR (row.map tn ++ [tn c])) qs := ⟨fun p hp => by rw [updM_ne (fun e => hna' (by rw [← e]; exact List.mem_map_of_mem hp))]; exact hs'.at' p hp, hs'.nd, hs'.sm⟩
          intro Z
          refine gx_cons (Post₁ := fun v m' r => r = .next ∧ v = (Str.ofString "candidate", tn c) :: c3v qs aR ∧ Seqs m' (qs.map (dropP c)) ∧ m' aR = some (row.map tn ++ [tn c])) (c3_del B s4 qs aR hs2 hne hna' updM_self c) ?_
          rintro _ m' _ ⟨rfl, rfl, hs3, hR3⟩
          refine ⟨rfl, ?_⟩
          have e3 : (qs.map (dropP c)).map (fun p => T.mut p.1) = qs.map fun p => T.mut p.1 := by rw [List.map_map]; rfl
          have e4 : (qs.map (dropP c)).map (·.1) = qs.map (·.1) := by rw [List.map_map]; rfl
          have e5 : (qs.map (dropP c)).map (·.2) = (qs.map (·.2)).map (dropF c) := by rw [List.map_map, List.map_map]; rfl
          intro Z
          refine gx_drop (vars' := c3v (qs.map (dropP c)) aR) (gx_nil (.inl ⟨rfl, j, Nat.lt_succ_self j, qs.map (dropP c), row ++ [c], rfl, hs3, by rw [e4]; exact hna', by rw [hR3, List.map_append]; rfl, by rw [e5]; exact hm, by rw [List.length_append]; simp; omega, by rw [List.length_map]; exact hpl'⟩)) (c3v_sub ?_ ?_)
          · rw [e3]; rfl
          · rfl
end
end Mine
end
section
namespace Mine
open PySem PyProof.Rows
section
variable {prog : Program} {w : World} {P : Pm} {A : Around} {env : Env} {μ : Mu} {nm : List (Str × NameKind)} {fm : Fm} {n : Nat} {Z : Addr → Prop}
theorem call_gx {a : Addr} {fd : FuncData} {params : List Str} {body : List Stmt} (F : FnAt P a fd params body nm) {Ts : List T} {Post : PostG} (hroom : A.depth < recursionLimit) (hlen : params.length = Ts.length)
    (hb : ∀ env, Gx prog w P (A.deeper env) n env nm (params.zip Ts) μ (execs body env) Post) (hret : ∀ v m r, Post v m r → ∃ t, r = .ret t) {s : Shared} {xs : List Value} {Q : Value → Shared → Prop} {E : Value → Shared → Prop}
    (rb : RB P s.heap) (ht : 0 < s.toks) (mo : MuOk Z μ s.heap) (hz : Hz Z s.heap) (own : ∀ a l, μ a = some l → Z a ∧ n ≤ a) (hall : ∀ a, Z a → n ≤ a → ∃ l, μ a = some l) (hn : 100 ≤ n) (le : n ≤ s.heap.objs.size) (px : Paired (RT Z s.heap) xs Ts)
    (o : ∀ v h' tk Z' env vars' μ' t, Post vars' μ' (.ret t) → PreG P n Z' env ⟨nm, vars'⟩ μ' (up s h' tk) → s.heap.objs.size ≤ h'.objs.size → (∀ b ob, b < n → NT b → s.heap.get? b = some ob → h'.get? b = some ob) → ZExt Z Z' s.heap → RT Z' h' v t → Q v (up s h' tk)) :
    wpAny (model prog w) A (call (.ref a) xs) Q E s := by
  refine call_in F hroom hlen rb ht mo hz px fun env h₁ tk₁ _ _ hX sz keep p => ?_
  have pr : PreG P n Z env ⟨nm, params.zip Ts⟩ μ (up s h₁ tk₁) :=
    ⟨p, own, hall, fun b hb => Nat.le_trans le (hX b hb), hn, Nat.le_trans le sz⟩
  refine hb env _ _ _ pr fun f h' tk Z' v' m' r hp p' k z rf => ?_
  obtain ⟨t, rfl⟩ := hret _ _ _ hp
  cases rf with
  | ret q =>
    refine o _ h' tk Z' env v' m' t hp p' (Nat.le_trans sz k.size) (fun b ob hb nt e => k.keep b ob (keep b ob e) nt (.inl hb) fun hm => ?_) ⟨z.sub, fun b q => (z.new b q).imp id fun q => Nat.le_trans sz q⟩ q
    exact absurd (Heap.lt_size e) (Nat.not_lt.mpr (hX b hm))
theorem nodup_snoc {α : Type} {l : List α} {x : α} (h : l.Nodup) (hx : x ∉ l) : (l ++ [x]).Nodup := by
  rw [List.nodup_append]
  refine ⟨h, by simp, fun a ha b hb e => ?_⟩
  have : b = x := by simpa using hb
  subst this; subst e; exact hx ha
theorem comp_fresh {elt iter : Expr} {x : Str} {px : Pos} {scope : Scope} {pos : Pos} {src : T} {items : List T} {Q : Value → Shared → Prop} {E : Value → Shared → Prop} {s : Shared}
    (val : T → T) (hA : A.handled = none)
    (hs : ∀ env x, foldedSetIterable iter env x = pure x) (hk : scope.kind = .function) (ok : compOk fm scope.names x = true)
    (hiter : Ev prog w P A env fm μ (eval iter env) src) (hitems : iterV μ src = some items) (hlen : items.length ≤ 4096)
    (hv : ∀ it ∈ items, ∀ cenv, ∀ {Z : Addr → Prop} (s : Shared) (Q : Value → Shared → Prop) (E : Value → Shared → Prop), Pre P Z cenv (cfm fm scope.names x it) μ s →
      (∀ a h' tk, 0 < tk → Keep [] s.heap h' → RB P h' → s.heap.objs.size ≤ a → a < h'.objs.size → RT Z h' (.ref a) (val it) → Q (.ref a) (up s h' tk)) → wpAny (model prog w) A (eval elt cenv) Q E s)
    (p : Pre P Z env fm μ s)
    (fin : ∀ D as h' tk, 0 < tk → Keep [] s.heap h' → RB P h' → h'.PlainList D (as.map Value.ref).toArray → s.heap.objs.size ≤ D → (D :: as).Nodup → (∀ a ∈ as, s.heap.objs.size ≤ a) → Paired (RT Z h') (as.map Value.ref) (items.map val) →
      Q (.ref D) (up s h' tk)) :
    wpAny (model prog w) A (eval (.ListComp elt [⟨.Name x px, iter, [], 0⟩] scope pos) env) Q E s := by
  rw [arm_eval_ListComp]
  refine comp_gen (fun D h don ys => ∃ as : List Addr, ys = as.map Value.ref ∧ Paired (RT (Hid Z D) h) (as.map Value.ref) (don.map val) ∧ (D :: as).Nodup ∧ ∀ a ∈ as, D < a ∧ a < h.objs.size) hA hs hk ok hiter hitems hlen p
    (fun _ _ _ => ⟨[], rfl, .nil, by simp, by simp⟩) (fun D h don ys j => ?_) (fun D h h' don ys k j => ?_) (fun D cenv s₅ it don ys hm hD hDs p₅ j Qb Eb no yes => ?_) (fun D C h' tk ys tp k rb pl j hD hC hn => ?_)
  · obtain ⟨as, rfl, q, _⟩ := j
    rw [paired_len q, List.length_map]; exact Nat.le_refl _
  · obtain ⟨as, e, q, nd, lt⟩ := j
    exact ⟨as, e, paired_mono (fun a b r => k.1 b a r) q, nd, fun a ha => ⟨(lt a ha).1, Nat.lt_of_lt_of_le (lt a ha).2 k.2⟩⟩
  · obtain ⟨as, rfl, q, nd, lt⟩ := j
    refine wpAny_pure (yes s₅.heap s₅.toks p₅.ht (Keep.refl _ _) p₅.rb fun Qv Ew ov => hv it hm cenv _ _ _ p₅ fun y h₇ tk₇ tp₇ e₇ rb₇ hy1 hy2 rv₇ => ov _ h₇ tk₇ tp₇ e₇ rb₇ fun h₈ k => ⟨as ++ [y], by rw [List.map_append]; rfl, ?_, ?_, fun b hb => ?_⟩)
    · rw [List.map_append, List.map_append]
      exact paired_snoc (paired_mono (fun a b r => k.1 b a (RT.mono e₇ p₅.rb.tb b a r)) q) (k.1 _ _ rv₇)
    · rw [← List.cons_append]
      refine nodup_snoc nd fun q => ?_
      rcases List.mem_cons.mp q with q | q
      · rw [q] at hy1; exact absurd hDs (Nat.not_lt.mpr hy1)
      · exact absurd (lt y q).2 (Nat.not_lt.mpr hy1)
    · rcases List.mem_append.mp hb with hb | hb
      · exact ⟨(lt b hb).1, Nat.lt_of_lt_of_le (lt b hb).2 (Nat.le_trans e₇.size k.2)⟩
      · rw [List.mem_singleton.mp hb]
        exact ⟨Nat.lt_of_lt_of_le hDs hy1, Nat.lt_of_lt_of_le hy2 k.2⟩
  · obtain ⟨as, rfl, q, nd, lt⟩ := j
    obtain ⟨m, hn⟩ := hn
    refine ⟨m, hn, fun h'' sb => ?_⟩
    obtain ⟨oC, gC, fC⟩ := fo_ns hn
    have kC : Keep [C] h' h'' := Keep.frame sb gC fC
    have hsC := Nat.le_trans hD (Nat.le_of_lt hC)
    exact fin D as h'' tk tp (k.newer sb hsC) (rb.turn sb gC (.inl fC) (Nat.le_trans p.rb.big hsC)) (kC.plain rb.tb pl) hD nd (fun a ha => Nat.le_trans hD (Nat.le_of_lt (lt a ha).1)) (paired_mono (fun a b r => RT.mono kC rb.tb b a (RT.weak (fun _ q => .inl q) b a r)) q)
end
end Mine
end
section
namespace Mine
open PySem PyProof.Rows
section
variable {prog : Program} {w : World} {P : Pm} {A : Around} {μ : Mu} {a c : Addr}
theorem tn_sc (l : List Nat) : l.map tn = (l.map fun (i : Nat) => Sc.int (i : Int)).map .sc := by rw [List.map_map]; rfl
theorem scs_tn {Z Z' : Addr → Prop} {h h' : Heap} {g : List Nat} {vs : List Value} (p : Paired (RT Z h) vs (g.map tn)) : Paired (RT Z' h') vs (g.map tn) := by rw [tn_sc] at p ⊢; exact scs_any p
theorem zip_fst {α β : Type} : ∀ {l : List α} {k : List β}, l.length = k.length → (l.zip k).map (·.1) = l
  | [], [], _ => rfl
  | a :: l, b :: k, h => by rw [List.zip_cons_cons, List.map_cons, zip_fst (by simpa using h)]
  | [], _ :: _, h => by simp at h
  | _ :: _, [], h => by simp at h
theorem zip_snd {α β : Type} : ∀ {l : List α} {k : List β}, l.length = k.length → (l.zip k).map (·.2) = k
  | [], [], _ => rfl
  | a :: l, b :: k, h => by rw [List.zip_cons_cons, List.map_cons, zip_snd (by simpa using h)]
  | [], _ :: _, h => by simp at h
  | _ :: _, [], h => by simp at h
theorem lookup_nodup {β : Type} : ∀ {l : List (Addr × β)} {p : Addr × β}, (l.map (·.1)).Nodup → p ∈ l → l.lookup p.1 = some p.2
  | (x, y) :: l, p, nd, hp => by
    rw [List.map_cons, List.nodup_cons] at nd
    rcases List.mem_cons.mp hp with rfl | hp
    · simp
    · have hne : p.1 ≠ x := fun e => nd.1 (by rw [← e]; exact List.mem_map.mpr ⟨p, hp, rfl⟩)
      have hb : (p.1 == x) = false := by simpa using hne
      rw [List.lookup_cons, hb]
      exact lookup_nodup nd.2 hp
theorem paired_zip {α β : Type} {F : α → β → Prop} {l : List α} {k : List β} (q : Paired F l k) : ∀ p ∈ l.zip k, F p.1 p.2 := by
  induction q with
  | nil => intro p hp; exact absurd hp List.not_mem_nil
  | cons f _ ih =>
    intro p hp
    rw [List.zip_cons_cons] at hp
    rcases List.mem_cons.mp hp with rfl | hp
    · exact f
    · exact ih p hp
theorem paired_unmap {α β γ δ : Type} {F : γ → δ → Prop} {f : α → γ} {g : β → δ} {k : List β} : ∀ {l : List α}, Paired F (l.map f) (k.map g) → Paired (fun a b => F (f a) (g b)) l k := by
  induction k with
  | nil => intro l p; cases l with
    | nil => exact .nil
    | cons => exact absurd (paired_nil_inv p) (List.cons_ne_nil _ _)
  | cons b k ih => intro l p; cases l with
    | nil => exact absurd (paired_len p) (Nat.succ_ne_zero _).symm
    | cons a l => obtain ⟨_, _, e, h, r⟩ := paired_cons_inv p; cases e; exact .cons h (ih r)
theorem paired_mut {Z : Addr → Prop} {h : Heap} : ∀ ps : Ps, Paired (RT Z h) ((ps.map (·.1)).map Value.ref) (ps.map fun p => T.mut p.1)
  | [] => .nil
  | _ :: ps => .cons .mut (paired_mut ps)
theorem merged_ok (B : Blt P) (F : FnI P a 12) (hg : P.mg (Str.ofString "_c3_merge") = some (.ref c)) (Fc : FnI P c 2) (sl : Sl 6 A) (gs : List (List Nat)) (hsz : gs.length ≤ 100) (hsm : ∀ g ∈ gs, g.length ≤ 8) {k : Nat} (hk : k ≤ 50) {res : List Nat} (hres : mergeF k gs [] = some res) :
    OpL prog w P A μ (fun vs => call (.ref a) vs) [.lst (gs.map tns)] (tns res) := by
  obtain ⟨fd, F⟩ := F
  obtain ⟨fdc, Fc⟩ := Fc
  intro Z
  refine call_ok F sl.room rfl (vars' := List.zip (parsOf (stAt 12)) [.lst (gs.map tns)]) fun env => ?_
  have s5 : Sl 5 (A.deeper env) := sl.deeper env
  have s4 : Sl 4 (A.deeper env) := s5.mono (by decide)
  intro Z s Q E p o
  refine wpAny_execs_cons (wpAny_Try_except (wpAny_execs_cons (wpAny_Return_some ?_)))
  obtain ⟨oc, go, hd⟩ := Fc.obj
  have ek : env.kindOf (Str.ofString "_c3_merge") = some .globalImplicit := by unfold Env.kindOf; rw [p.fo.names]; rfl
  refine call_arm (Calls.Name_function_global p.fo.kind ek (Calls.loadGlobal_global (mg := P.mg) (by rw [p.fo.glob]; exact p.rb.glob) hg ?_) (by rfl))
  refine PyProof.Rows.callWith_def hd ?_ (star_cons (by rfl) env)
  rw [star_cons (by rfl) env, back_cons]
  refine Calls.spliced_cons ?_
  refine comp_fresh (fm := ⟨namesOf (stAt 12), List.zip (parsOf (stAt 12)) [.lst (gs.map tns)]⟩) (src := .lst (gs.map tns)) (items := gs.map tns) id s4.1 (fun _ _ => rfl) (by rfl) (by rfl) (ev_pe B s4 2 (by rfl)) (by rfl) (by rw [List.length_map]; omega) ?_ p ?_
  · -- list(line)
    intro it hit cenv Z s Q E p o
    obtain ⟨g, hgm, rfl⟩ := List.mem_map.mp hit
    have ek : cenv.kindOf (Str.ofString "list") = some .globalImplicit := by unfold Env.kindOf; rw [p.fo.names]; rfl
    refine call_arm (Calls.Name_function_global p.fo.kind ek (Calls.loadGlobal_builtin (mg := P.mg) (mb := P.mb) (by rw [p.fo.glob]; exact p.rb.glob) B.list.1 (by rw [p.fo.blt]; exact p.rb.blt) B.list.2 ?_) (by rfl))
    refine PyProof.Rows.callWith_type1 ?_ (star_cons (by rfl) cenv) (by rfl)
    rw [star_cons (by rfl) cenv, back_cons]
    refine Calls.spliced_cons ((ev_pe (μ := μ) B s4 2 (r := tns g) (by rfl)) s _ E p fun v h' tk tp k rb rv => Calls.spliced_nil ?_)
    cases rv with
    | lst na pl pr hl =>
      rename_i ad vs
      obtain ⟨n, pl⟩ := pl
      refine with_size (Nat.le_refl _) (call_list_seq ad (.inl rfl) pl rfl rfl (fun h₂ c' hk hD sz => ?_) (by rw [List.size_toArray, paired_len pr, sizeLine_eq]; omega))
      have k2 : Keep [] h' h₂ := .all sz hk
      refine o _ h₂ tk tp (k.trans k2) (rb.keeps sz hk) k.size (Heap.lt_size hD) ?_
      exact .lst (fun q => absurd (Nat.lt_of_lt_of_le (p.hz _ q) k.size) (Nat.lt_irrefl _)) ⟨c', hD⟩ (paired_mono (fun a b r => RT.mono k2 rb.tb b a r) pr) hl
  · intro D as h' tk tp k rb pl hD hnd has pr
    refine Calls.spliced_nil ⟨rb.base _ oc Fc.lt Fc.nt go, ?_⟩
    rw [List.map_id] at pr
    have hlen : as.length = gs.length := by have := paired_len pr; simpa using this
    have prz := paired_unmap pr
    have nd := List.nodup_cons.mp hnd
    have e1 : (as.zip gs).map (·.1) = as := zip_fst hlen
    have e2 : (as.zip gs).map (·.2) = gs := zip_snd hlen
    have atp : ∀ q ∈ as.zip gs, (as.zip gs).lookup q.1 = some q.2 := fun q hq => lookup_nodup (by rw [e1]; exact nd.2) hq
    have hmem : ∀ b, b ∈ as → ∃ g, (as.zip gs).lookup b = some g := fun b hb => by
      rw [← e1] at hb
      obtain ⟨q, hq, rfl⟩ := List.mem_map.mp hb
      exact ⟨_, atp q hq⟩
    have hmem2 : ∀ b g, (as.zip gs).lookup b = some g → (b, g) ∈ as.zip gs := fun b g e => lookup_mem e
    have seqs : Seqs (fun b => ((as.zip gs).lookup b).map fun g => g.map tn) (as.zip gs) :=
      ⟨fun q hq => by simp only [atp q hq]; rfl, by rw [e1]; exact nd.2, fun q hq => hsm _ (List.of_mem_zip hq).2⟩
    refine call_gx (n := s.heap.objs.size) (Z := fun b => Z b ∨ b ∈ as) (μ := fun b => ((as.zip gs).lookup b).map fun g => g.map tn) (Ts := [.lst ((as.zip gs).map fun p => .mut p.1)]) Fc s5.room rfl
      (fun env2 => c3_body B (s5.deeper env2) (as.zip gs) seqs (by rw [List.length_zip]; omega) hk (by rw [e2]; exact hres)) (Post := fun v m r => ∃ aR, r = .ret (.mut aR) ∧ m aR = some (res.map tn)) (fun v m r q => q.elim fun _ q => ⟨_, q.1⟩) rb tp ?_ ?_ ?_ ?_ p.rb.big k.size (.cons (.lst ?_ pl ?_ ?_) .nil) ?_
    · intro b l e
      dsimp only at e
      cases hl : (as.zip gs).lookup b with
      | none => rw [hl] at e; cases e
      | some g =>
        rw [hl] at e
        cases e
        have hm := hmem2 b g hl
        have hba : b ∈ as := (List.of_mem_zip hm).1
        have r := paired_zip prz _ hm
        cases r with
        | lst na pl pr hl => exact ⟨Nat.le_trans p.rb.big (has b hba), _, pl, scs_tn pr, hl⟩
    · intro b q
      rcases q with q | q
      · exact Nat.lt_of_lt_of_le (p.hz b q) k.size
      · obtain ⟨g, e⟩ := hmem b q
        have r := paired_zip prz _ (hmem2 b g e)
        cases r with
        | lst na pl pr hl => obtain ⟨_, g⟩ := pl; exact Heap.lt_size g
    · intro b l e
      cases hl : (as.zip gs).lookup b with
      | none => rw [hl] at e; cases e
      | some g =>
        have hba := (List.of_mem_zip (hmem2 b g hl)).1
        exact ⟨.inr hba, has b hba⟩
    · intro b q hb
      rcases q with q | q
      · exact absurd (p.hz b q) (Nat.not_lt.mpr hb)
      · obtain ⟨g, e⟩ := hmem b q
        exact ⟨g.map tn, by rw [e]; rfl⟩
    · intro q
      rcases q with q | q
      · exact absurd (p.hz D q) (Nat.not_lt.mpr hD)
      · exact nd.1 q
    · have := paired_mut (Z := fun b => Z b ∨ b ∈ as) (h := h') (as.zip gs)
      rw [e1] at this
      exact this
    · rw [List.length_map, List.length_zip]; omega
    · rintro v h₂ tk₂ Z' env2 vars' μ' t ⟨aR, e, hR⟩ p2 sz k2 ze rv
      cases e
      have kk : Keep [] s.heap h₂ := ⟨Nat.le_trans k.size sz, fun b ob e nt _ => k2 b ob (Heap.lt_size e) nt (k.keep b ob e nt (by simp))⟩
      have rv0 := frz_ok p2 (Z₀ := Z) (fun b q => ze.sub b (.inl q)) (fun b q => p.hz b q) 3 (.mut aR) v rv
      have ef : frz μ' 3 (.mut aR) = tns res := by
        unfold frz
        simp only [hR]
        rw [frz_tn]
      rw [ef] at rv0
      exact o (.ret v) h₂ tk₂ p2.pre.ht (kk.sub fun _ h => nomatch h) p2.pre.rb (p.fo.mono kk p.rb.tb) (.ret rv0)
end
end Mine
end
section
namespace Mine
open PySem PyProof.Rows
/-! a dict whose keys are names, with its entries in their order -/
noncomputable def Ent (e : DictEntry) (kv : Str × Value) : Prop := (∃ t, e.key = .str kv.1 t) ∧ e.val = kv.2
noncomputable def look : List (Str × Value) → Str → Option Value
  | [], _ => none
  | (k, v) :: l, n => match k == n with
    | true => some v
    | false => look l n
noncomputable def putK : List (Str × Value) → Str → Value → List (Str × Value)
  | [], n, x => [(n, x)]
  | (k, v) :: l, n, x => match k == n with
    | true => (k, x) :: l
    | false => (k, v) :: putK l n x
noncomputable def dropK : List (Str × Value) → Str → List (Str × Value)
  | [], _ => []
  | (k, v) :: l, n => match k == n with
    | true => l
    | false => (k, v) :: dropK l n
noncomputable def DI (h : Heap) (a : Addr) (kvs : List (Str × Value)) : Prop := ∃ es n, h.get? a = some { cls := .type "dict", data := .dict es n } ∧ Paired Ent es.toList kvs
theorem ent_is {e : DictEntry} {kv : Str × Value} (h : Ent e kv) (n : Str) : e.key.isStrByCps n.cps.size n.cps.toList = (kv.1 == n) := by
  obtain ⟨⟨t, hk⟩, _⟩ := h
  rw [Value.isStrByCps_eq, hk]; rfl
theorem ent_ref {e : DictEntry} {kv : Str × Value} (h : Ent e kv) : e.refKey = false := by
  obtain ⟨⟨t, hk⟩, _⟩ := h
  unfold DictEntry.refKey; rw [hk]
theorem name_in (n : Str) : ∀ {es : List DictEntry} {kvs : List (Str × Value)}, Paired Ent es kvs → (nsNameIn n.cps.size n.cps.toList es false).2 = false ∧ (nsNameIn n.cps.size n.cps.toList es false).1.map (·.val) = look kvs n
  | _, _, .nil => ⟨rfl, rfl⟩
  | _, _, .cons (a := e) (b := kv) (l₁ := r) (l₂ := l) h t => by
    obtain ⟨k, v⟩ := kv
    have ih := name_in n t
    rw [nsNameIn, ent_is h n]
    unfold look
    cases hb : (k == n) with
    | true => exact ⟨rfl, congrArg some h.2⟩
    | false =>
      have er : (false || e.refKey) = false := by rw [ent_ref h]; rfl
      rw [er]
      exact ih
theorem put_in (n : Str) (x : Value) (hs : Int) (key : Value) (hk : ∃ t, key = .str n t) : ∀ {es : List DictEntry} {kvs : List (Str × Value)}, Paired Ent es kvs → Paired Ent (nsPutIn n.cps.size n.cps.toList (fun | some e => { e with val := x } | none => ⟨hs, key, x⟩) es).1 (putK kvs n x)
  | _, _, .nil => .cons ⟨hk, rfl⟩ .nil
  | _, _, .cons (a := e) (b := kv) (l₁ := r) (l₂ := l) h t => by
    obtain ⟨k, v⟩ := kv
    have ih := put_in n x hs key hk t
    rw [nsPutIn, ent_is h n]
    unfold putK
    cases hb : (k == n) with
    | true => exact .cons ⟨h.1, rfl⟩ t
    | false =>
      show Paired Ent (match nsPutIn n.cps.size n.cps.toList _ r with | (r', added) => (e :: r', added)).1 _
      exact .cons h ih
theorem drop_in (n : Str) : ∀ {es : List DictEntry} {kvs : List (Str × Value)}, Paired Ent es kvs → match nsDropIn n.cps.size n.cps.toList es with
    | some es' => Paired Ent es' (dropK kvs n)
    | none => Paired Ent es (dropK kvs n)
  | _, _, .nil => .nil
  | _, _, .cons (a := e) (b := kv) (l₁ := r) (l₂ := l) h t => by
    obtain ⟨k, v⟩ := kv
    have ih := drop_in n t
    rw [nsDropIn, ent_is h n]
    unfold dropK
    cases hb : (k == n) with
    | true => exact t
    | false =>
      cases hd : nsDropIn n.cps.size n.cps.toList r with
      | some es' => rw [hd] at ih; exact .cons h ih
      | none => rw [hd] at ih; exact .cons h ih
theorem put_len (n : Str) (x : Value) : ∀ kvs : List (Str × Value), (putK kvs n x).length ≤ kvs.length + 1
  | [] => Nat.le_refl _
  | (k, v) :: l => by
    unfold putK
    cases hb : (k == n) with
    | true => exact Nat.le_succ _
    | false => exact Nat.succ_le_succ (put_len n x l)
section
variable {M : Model} {A : Around} {E : Value → Shared → Prop} {s : Shared} {a : Addr} {kvs : List (Str × Value)} {n : Str}
theorem d_look {es : Array DictEntry} {ep : Nat} {o : Obj} (hd : o.data = .dict es ep) (p : Paired Ent es.toList kvs) : nsLook n o = pure (look kvs n) := by
  obtain ⟨h2, h1⟩ := name_in n p
  unfold nsLook
  rw [hd]
  dsimp only
  generalize nsNameIn n.cps.size n.cps.toList es.toList false = z at h1 h2
  obtain ⟨z1, z2⟩ := z
  dsimp only at h1 h2
  subst h2
  rw [← h1]
  cases z1 <;> rfl
theorem d_get {Q : Option Value → Shared → Prop} (hD : DI s.heap a kvs) (h : Q (look kvs n) s) : wpAny M A (nsGet a n) Q E s := by
  obtain ⟨es, ep, ho, p⟩ := hD
  unfold nsGet
  refine wpAny_bind (wpAny_loadPart ho ?_)
  rw [d_look rfl p]
  exact wpAny_pure h
theorem d_get' {r : Option Value} {Q : Option Value → Shared → Prop} (hD : DI s.heap a kvs) (hr : look kvs n = r) (h : Q r s) : wpAny M A (nsGet a n) Q E s := d_get hD (hr ▸ h)
theorem d_set {v : Value} {Q : Unit → Shared → Prop} (hD : DI s.heap a kvs) (h : ∀ h', DI h' a (putK kvs n v) → Heap.SameBut a s.heap h' → Q () (up s (h') (s.toks + 1))) : wpAny M A (nsSet a n v) Q E s := by
  obtain ⟨es, ep, ho, p⟩ := hD
  unfold nsSet strHash
  refine wpAny_bind (wpAny_bind (wpAny_askSetting (wpAny_pure ?_)))
  refine wpAny_bind (wpAny_mkText ?_)
  refine wpAny_bind (wpAny_loadPart ho ?_)
  dsimp only
  have hr : aRefKeyMayBeTheName n es = false := by
    unfold aRefKeyMayBeTheName
    obtain ⟨h2, _⟩ := name_in n p
    generalize nsNameIn n.cps.size n.cps.toList es.toList false = z at h2
    obtain ⟨z1, z2⟩ := z
    dsimp only at h2
    subst h2
    cases z1 <;> rfl
  rw [hr]
  refine wpAny_updatePart (o := { cls := .type "dict", data := .dict es ep }) ho (h _ ?_ (Heap.SameBut.update ..))
  have q := put_in n v (if n.cps.isEmpty then 0 else reduceHash (M.w.params.strHash n.cps)) (.str n s.toks) ⟨_, rfl⟩ p
  have hu : Obj.putName n (if n.cps.isEmpty then 0 else reduceHash (M.w.params.strHash n.cps)) (.str n s.toks) v { cls := .type "dict", data := .dict es ep } = { cls := .type "dict", data := .dict (nsPutIn n.cps.size n.cps.toList (fun | some e => { e with val := v } | none => ⟨if n.cps.isEmpty then 0 else reduceHash (M.w.params.strHash n.cps), .str n s.toks, v⟩) es.toList).1.toArray (if (nsPutIn n.cps.size n.cps.toList (fun | some e => { e with val := v } | none => ⟨if n.cps.isEmpty then 0 else reduceHash (M.w.params.strHash n.cps), .str n s.toks, v⟩) es.toList).2 = true then ep + 1 else ep) } := by
    unfold Obj.putName
    dsimp only
    generalize (nsPutIn n.cps.size n.cps.toList (fun | some e => { e with val := v } | none => ⟨if n.cps.isEmpty then 0 else reduceHash (M.w.params.strHash n.cps), .str n s.toks, v⟩) es.toList) = z
    obtain ⟨z1, z2⟩ := z
    cases z2 <;> rfl
  refine ⟨_, _, (Heap.get?_update_self _ ho (by rw [hu]; rfl)).trans (congrArg some hu), ?_⟩
  exact q
theorem d_setV {v : Value} {Q : Unit → Shared → Prop} (hD : DI s.heap a kvs) (hl : kvs.length ≤ 1000) (h : ∀ h', DI h' a (putK kvs n v) → Heap.SameBut a s.heap h' → Q () (up s (h') (s.toks + 1))) : wpAny M A (nsSetByValue a n v) Q E s := by
  obtain ⟨es, ep, ho, p⟩ := id hD
  unfold nsSetByValue
  refine wpAny_bind (wpAny_loadPart ho ?_)
  dsimp only
  have hs : es.size ≤ 1000 := by have := paired_len p; rw [Array.length_toList] at this; omega
  have hn : ¬ es.size > sizeLine := by rw [sizeLine_eq]; omega
  rw [show (decide (es.size > sizeLine)) = false from decide_eq_false hn]
  simp only [Bool.false_and, Bool.false_eq_true, if_false]
  exact d_set hD h
theorem d_del {Q : Bool → Shared → Prop} (hD : DI s.heap a kvs) (h : ∀ h', DI h' a (dropK kvs n) → Heap.SameBut a s.heap h' → Q (look kvs n).isSome { s with heap := h' }) : wpAny M A (nsDel a n) Q E s := by
  obtain ⟨es, ep, ho, p⟩ := id hD
  unfold nsDel
  refine wpAny_bind (wpAny_loadPart ho ?_)
  have hh : nsHas n { cls := .type "dict", data := .dict es ep } = pure (look kvs n).isSome := by
    obtain ⟨h2, h1⟩ := name_in n p
    unfold nsHas
    dsimp only
    generalize nsNameIn n.cps.size n.cps.toList es.toList false = z at h1 h2
    obtain ⟨z1, z2⟩ := z
    dsimp only at h1 h2
    subst h2
    rw [← h1]
    cases z1 <;> rfl
  rw [hh]
  refine wpAny_bind (wpAny_pure ?_)
  have q := drop_in n p
  cases hs : (look kvs n).isSome with
  | false =>
    rw [hs] at h
    refine wpAny_pure (h s.heap ⟨es, ep, ho, ?_⟩ (Heap.SameBut.refl _ _))
    have : ∀ l : List (Str × Value), (look l n).isSome = false → dropK l n = l := by
      intro l
      induction l with
      | nil => intro _; rfl
      | cons kv l ih =>
        obtain ⟨k, v⟩ := kv
        unfold look dropK
        cases hb : (k == n) with
        | true => intro e; cases e
        | false => intro e; exact congrArg _ (ih e)
    rw [this _ hs]; exact p
  | true =>
    rw [hs] at h
    refine wpAny_bind (wpAny_updatePart (o := { cls := .type "dict", data := .dict es ep }) ho (wpAny_pure (h _ ?_ (Heap.SameBut.update ..))))
    cases hd : nsDropIn n.cps.size n.cps.toList es.toList with
    | none =>
      rw [hd] at q
      have e : Obj.dropName n { cls := .type "dict", data := .dict es ep } = { cls := .type "dict", data := .dict es ep } := by
        unfold Obj.dropName; dsimp only; rw [hd]
      exact ⟨es, _, (Heap.get?_update_self _ ho (by rw [e]; rfl)).trans (congrArg some e), q⟩
    | some es' =>
      rw [hd] at q
      have e : Obj.dropName n { cls := .type "dict", data := .dict es ep } = { cls := .type "dict", data := .dict es'.toArray (ep + 1) } := by
        unfold Obj.dropName; dsimp only; rw [hd]
      exact ⟨es'.toArray, _, (Heap.get?_update_self _ ho (by rw [e]; rfl)).trans (congrArg some e), q⟩
theorem d_ents {part : Option Value} {Q : Array DictEntry → Shared → Prop} (hD : DI s.heap a kvs) (h : ∀ es, Paired Ent es.toList kvs → Q es s) : wpAny M A (dictEntries a part) Q E s := by
  obtain ⟨es, ep, ho, p⟩ := hD
  exact wpAny_dictEntries ho rfl (h es p)
theorem DI.same {h h' : Heap} {b : Addr} (hD : DI h a kvs) (hs : Heap.SameBut b h h') (hb : a ≠ b) : DI h' a kvs := by
  obtain ⟨es, ep, ho, p⟩ := hD
  exact ⟨es, ep, (hs.2 a hb).trans ho, p⟩
theorem DI.push {h : Heap} {o : Obj} (hD : DI h a kvs) : DI (h.push o) a kvs := by
  obtain ⟨es, ep, ho, p⟩ := hD
  exact ⟨es, ep, Heap.get?_push_of_some _ ho, p⟩
end
end Mine
end
section
namespace Mine
open PySem PyProof.Rows PySem.Builtin
theorem ofString_inj {a b : String} (h : Str.ofString a = Str.ofString b) : a = b := by
  have e : ∀ s : String, Str.ofString s = ⟨(s.toList.map Char.toNat).toArray⟩ := fun s => by
    have := PySem.W.Fast.ofString_ofList s.toList
    rwa [String.ofList_toList] at this
  rw [e a, e b] at h
  have h1 : a.toList.map Char.toNat = b.toList.map Char.toNat := by
    have := congrArg (fun x : Str => x.cps.toList) h
    simpa using this
  have h2 : ∀ (l m : List Char), l.map Char.toNat = m.map Char.toNat → l = m := by
    intro l
    induction l with
    | nil => intro m q; cases m with
      | nil => rfl
      | cons _ _ => cases q
    | cons c l ih => intro m q; cases m with
      | nil => cases q
      | cons d m =>
        rw [List.map_cons, List.map_cons] at q
        injection q with q1 q2
        rw [ih m q2, Char.toNat_inj.mp q1]
  exact String.toList_inj.mp (h2 _ _ h1)
theorem ofString_beq (a b : String) : (Str.ofString a == Str.ofString b) = (a == b) := by
  rw [Bool.eq_iff_iff, beq_iff_eq, beq_iff_eq]
  exact ⟨ofString_inj, fun e => by rw [e]⟩
/-! a class in the making: its object, its dict -/
noncomputable abbrev clsObj (cd : ClassData) (sl : Array (Option Value)) : Obj := { cls := .type "type", data := .cls cd, slots := sl }
noncomputable def slotPut (sl : Array (Option Value)) (i : Nat) (v : Option Value) : Array (Option Value) := (sl ++ Array.replicate (i + 1 - sl.size) none).setIfInBounds i v
structure BC (h0 h : Heap) (C : Addr) (cd : ClassData) (sl : Array (Option Value)) (N : Addr) (kvs : List (Str × Value)) : Prop where
  c : h.get? C = some (clsObj cd sl)
  d : DI h N kvs
  keep : ∀ b ob, h0.get? b = some ob → h.get? b = some ob
  size : h0.objs.size ≤ h.objs.size
  nc : h0.get? C = none
  nn : h0.get? N = none
section
variable {M : Model} {A : Around} {E : Value → Shared → Prop} {h0 h : Heap} {g : Array GenState} {d : Drawn} {t : Nat} {os : OsState} {C N : Addr} {cd : ClassData} {sl : Array (Option Value)} {kvs kvs' : List (Str × Value)} {n : Str}
theorem BC.ne (B : BC h0 h C cd sl N kvs) : C ≠ N := by
  rintro rfl
  obtain ⟨es, ep, e, _⟩ := B.d
  rw [B.c] at e
  have q : Value.type "type" = Value.type "dict" := congrArg Obj.cls (Option.some.inj e)
  exact absurd q (by decide)
theorem BC.tod (B : BC h0 h C cd sl N kvs) {h' : Heap} (D : DI h' N kvs') (s : Heap.SameBut N h h') : BC h0 h' C cd sl N kvs' where
  c := (s.2 C B.ne).trans B.c
  d := D
  keep b ob e := (s.2 b (fun q => by rw [q, B.nn] at e; cases e)).trans (B.keep b ob e)
  size := by rw [s.1]; exact B.size
  nc := B.nc
  nn := B.nn
theorem BC.toc (B : BC h0 h C cd sl N kvs) {f : Obj → Obj} {cd' : ClassData} {sl' : Array (Option Value)} (hf : f (clsObj cd sl) = clsObj cd' sl') : BC h0 (h.update C f) C cd' sl' N kvs where
  c := (Heap.get?_update_self f B.c (by rw [hf]; rfl)).trans (congrArg some hf)
  d := B.d.same (Heap.SameBut.update h C f) (Ne.symm B.ne)
  keep b ob e := ((Heap.SameBut.update h C f).2 b (fun q => by rw [q, B.nc] at e; cases e)).trans (B.keep b ob e)
  size := by rw [(Heap.SameBut.update h C f).1]; exact B.size
  nc := B.nc
  nn := B.nn
theorem BC.push (B : BC h0 h C cd sl N kvs) (o : Obj) : BC h0 (h.push o) C cd sl N kvs where
  c := Heap.get?_push_of_some _ B.c
  d := B.d.push
  keep b ob e := Heap.get?_push_of_some _ (B.keep b ob e)
  size := by rw [Heap.size_push]; exact Nat.le_succ_of_le B.size
  nc := B.nc
  nn := B.nn
theorem b_get {Q : Option Value → Shared → Prop} {r : Option Value} (B : BC h0 h C cd sl N kvs) (hr : look kvs n = r) (hq : Q r ⟨h, g, d, t, os⟩) : wpAny M A (nsGet N n) Q E ⟨h, g, d, t, os⟩ := d_get' (s := ⟨h, g, d, t, os⟩) B.d hr hq
theorem b_set {Q : Unit → Shared → Prop} {v : Value} (B : BC h0 h C cd sl N kvs) (hr : putK kvs n v = kvs') (hq : ∀ h', BC h0 h' C cd sl N kvs' → Heap.SameBut N h h' → Q () ⟨h', g, d, t + 1, os⟩) : wpAny M A (nsSet N n v) Q E ⟨h, g, d, t, os⟩ :=
  d_set (s := ⟨h, g, d, t, os⟩) B.d fun h' D S => hq h' (B.tod (hr ▸ D) S) S
theorem b_setV {Q : Unit → Shared → Prop} {v : Value} (B : BC h0 h C cd sl N kvs) (hr : putK kvs n v = kvs') (hl : kvs.length ≤ 1000) (hq : ∀ h', BC h0 h' C cd sl N kvs' → Heap.SameBut N h h' → Q () ⟨h', g, d, t + 1, os⟩) : wpAny M A (nsSetByValue N n v) Q E ⟨h, g, d, t, os⟩ :=
  d_setV (s := ⟨h, g, d, t, os⟩) B.d hl fun h' D S => hq h' (B.tod (hr ▸ D) S) S
theorem b_del {Q : Bool → Shared → Prop} {r : Option Value} (B : BC h0 h C cd sl N kvs) (hr : look kvs n = r) (hp : dropK kvs n = kvs') (hq : ∀ h', BC h0 h' C cd sl N kvs' → Heap.SameBut N h h' → Q r.isSome ⟨h', g, d, t, os⟩) : wpAny M A (nsDel N n) Q E ⟨h, g, d, t, os⟩ :=
  d_del (s := ⟨h, g, d, t, os⟩) B.d fun h' D S => hr ▸ hq h' (B.tod (hp ▸ D) S) S
theorem b_slot {Q : Unit → Shared → Prop} {i : Nat} {v : Option Value} (B : BC h0 h C cd sl N kvs) (hq : ∀ h', BC h0 h' C cd (slotPut sl i v) N kvs → Heap.SameBut C h h' → Q () ⟨h', g, d, t, os⟩) (hi : i < 100 := by decide) : wpAny M A (setSlotAt C i v) Q E ⟨h, g, d, t, os⟩ := by
  unfold setSlotAt
  rw [if_neg (by rw [sizeLine_eq]; omega)]
  exact wpAny_updatePart (s := ⟨h, g, d, t, os⟩) B.c (hq _ (B.toc rfl) (Heap.SameBut.update ..))
theorem b_slotAt {Q : Option Value → Shared → Prop} {i : Nat} (B : BC h0 h C cd sl N kvs) (hq : Q (sl[i]?).join ⟨h, g, d, t, os⟩) : wpAny M A (slotAt C i) Q E ⟨h, g, d, t, os⟩ := by
  unfold slotAt
  exact wpAny_bind (wpAny_loadPart (s := ⟨h, g, d, t, os⟩) B.c (wpAny_pure hq))
theorem b_upd {Q : Unit → Shared → Prop} {f : ClassData → ClassData} (B : BC h0 h C cd sl N kvs) (hp : (Data.cls (f cd)).pastItsLine = none) (hq : ∀ h', BC h0 h' C (f cd) sl N kvs → Heap.SameBut C h h' → Q () ⟨h', g, d, t, os⟩) : wpAny M A (updateCls C f) Q E ⟨h, g, d, t, os⟩ := by
  unfold updateCls
  refine wpAny_bind (wpAny_load (s := ⟨h, g, d, t, os⟩) B.c ?_)
  dsimp only
  have B' := B.toc (f := Obj.mapCls f) (cd' := f cd) (sl' := sl) rfl
  refine wpAny_bind (wpAny_update (s := ⟨h, g, d, t, os⟩) B.c ?_)
  exact wpAny_lookBehind (s := ⟨_, g, d, t, os⟩) B'.c hp (hq _ B' (Heap.SameBut.update ..))
theorem b_cd {Q : ClassData → Shared → Prop} (B : BC h0 h C cd sl N kvs) (hq : Q cd ⟨h, g, d, t, os⟩) : wpAny M A (classData C) Q E ⟨h, g, d, t, os⟩ := by
  unfold classData
  exact wpAny_bind (wpAny_load (s := ⟨h, g, d, t, os⟩) B.c (wpAny_pure hq))
theorem b_mro {Q : List Value → Shared → Prop} (B : BC h0 h C cd sl N kvs) (hq : Q cd.mro ⟨h, g, d, t, os⟩) : wpAny M A (mroOf (.ref C)) Q E ⟨h, g, d, t, os⟩ := by
  unfold mroOf
  exact wpAny_bind (b_cd B (wpAny_pure hq))
theorem b_isType {Q : Bool → Shared → Prop} (B : BC h0 h C cd sl N kvs) (hq : Q true ⟨h, g, d, t, os⟩) : wpAny M A (isType (.ref C)) Q E ⟨h, g, d, t, os⟩ := by
  unfold isType loadHead
  exact wpAny_bind (wpAny_loadPart (s := ⟨h, g, d, t, os⟩) B.c (wpAny_pure hq))
theorem b_type {Q : Value → Shared → Prop} (B : BC h0 h C cd sl N kvs) (hq : Q (.type "type") ⟨h, g, d, t, os⟩) : wpAny M A (typeOf (.ref C)) Q E ⟨h, g, d, t, os⟩ :=
  wpAny_typeOf (s := ⟨h, g, d, t, os⟩) ⟨_, B.c, rfl⟩ hq
theorem b_alloc {Q : Addr → Shared → Prop} {o : Obj} (B : BC h0 h C cd sl N kvs) (hf : o.isFreed = false) (hq : ∀ h', BC h0 h' C cd sl N kvs → h'.get? h.objs.size = some o → Q h.objs.size ⟨h', g, d, t, os⟩) : wpAny M A (alloc o) Q E ⟨h, g, d, t, os⟩ :=
  wpAny_alloc (s := ⟨h, g, d, t, os⟩) (hq _ (B.push o) (Heap.get?_push_size h hf))
theorem b_special {Q : Option Value → Shared → Prop} {v : Value} {T : String} {r : Option Value} (B : BC h0 h C cd sl N kvs) (hT : (⟨h0, g, d, t, os⟩ : Shared).TypeIs v T) (hl : typeLookup (.type T) n = pure r) (hq : Q r ⟨h, g, d, t, os⟩) : wpAny M A (specialOf v n) Q E ⟨h, g, d, t, os⟩ := by
  have hT' : (⟨h, g, d, t, os⟩ : Shared).TypeIs v T := by
    cases v with
    | ref a => obtain ⟨o, e, c⟩ := hT; exact ⟨o, B.keep a o e, c⟩
    | _ => exact hT
  exact wpAny_specialOf hT' hl hq
end
end Mine
end
section
namespace Mine
open PySem PyProof.Rows PySem.Builtin
noncomputable def mkE (X : Nat → Int) (K : Nat → Tok) : Nat → List (Str × Value) → List DictEntry
  | _, [] => []
  | i, kv :: r => ⟨X i, .str kv.1 (K i), kv.2⟩ :: mkE X K (i + 1) r
theorem mkE_ext (X X' : Nat → Int) (K K' : Nat → Tok) : ∀ (kvs : List (Str × Value)) (i : Nat), (∀ j, i ≤ j → X j = X' j ∧ K j = K' j) → mkE X K i kvs = mkE X' K' i kvs
  | [], _, _ => rfl
  | kv :: r, i, h => by
    unfold mkE
    rw [(h i (Nat.le_refl _)).1, (h i (Nat.le_refl _)).2, mkE_ext X X' K K' r (i + 1) fun j hj => h j (Nat.le_of_succ_le hj)]
theorem ents_mk : ∀ {l : List DictEntry} {kvs : List (Str × Value)} (i : Nat), Paired Ent l kvs → ∃ X K, l = mkE X K i kvs
  | _, _, i, .nil => ⟨fun _ => 0, fun _ => 0, rfl⟩
  | _, _, i, .cons (a := e) (b := kv) h r => by
    obtain ⟨X, K, hr⟩ := ents_mk (i + 1) r
    obtain ⟨⟨tk, hk⟩, hv⟩ := h
    refine ⟨fun j => if j = i then e.hash else X j, fun j => if j = i then tk else K j, ?_⟩
    unfold mkE
    rw [hr, if_pos rfl, if_pos rfl]
    congr 1
    · obtain ⟨a, b, c⟩ := e; dsimp only at hk hv; rw [hk, hv]
    · exact mkE_ext _ _ _ _ _ _ fun j hj => ⟨(if_neg (by omega)).symm, (if_neg (by omega)).symm⟩
theorem mkE_paired (X : Nat → Int) (K : Nat → Tok) : ∀ (kvs : List (Str × Value)) (i : Nat), Paired Ent (mkE X K i kvs) kvs
  | [], _ => .nil
  | _ :: r, i => .cons ⟨⟨_, rfl⟩, rfl⟩ (mkE_paired X K r (i + 1))
noncomputable abbrev kvs0 (m q fl : Value) (ls i0 f1 f2 f3 f4 f5 st : Addr) : List (Str × Value) :=
  [("__module__", m), ("__qualname__", q), ("__firstlineno__", fl), ("__slots__", .ref ls), ("__init__", .ref i0), ("__lt__", .ref f1), ("__gt__", .ref f2), ("__eq__", .ref f3), ("__le__", .ref f4), ("__ge__", .ref f5), ("__hash__", .none), ("__static_attributes__", .ref st)]
noncomputable abbrev es0 (X : Nat → Int) (K : Nat → Tok) (m q fl : Value) (ls i0 f1 f2 f3 f4 f5 st : Addr) : Array DictEntry := (mkE X K 0 (kvs0 m q fl ls i0 f1 f2 f3 f4 f5 st)).toArray
theorem cf_ext : extendedBase [.type "object"] = pure (.type "object") := by kernel_rfl
theorem cf_turned : notOverATurnedClass [.type "object"] = pure () := by kernel_rfl
theorem cf_best : Slots.bestBase [.type "object"] = pure (.type "object") := by kernel_rfl
theorem cf_names : Slots.slotNamesOf (.type "object") = pure [] := by kernel_rfl
theorem cf_gd : Slots.givesDict (.type "object") = pure false := by kernel_rfl
theorem cf_gw : Slots.givesWeak (.type "object") = pure false := by kernel_rfl
theorem cf_vs : Slots.varSize (.type "object") = pure false := by kernel_rfl
theorem cf_hook : mroHook? (.type "type") = pure none := by kernel_rfl
theorem cf_lin : linearize [.type "object"] mroOf = pure [.type "object"] := by kernel_rfl
theorem cf_made : Bind.madeBy (.type "object") = pure (some "object.__new__") := by kernel_rfl
theorem cf_sub1 : isSubtype (.type "type") (.type "type") = pure true := by kernel_rfl
theorem cf_sub2 : isSubtype (.type "tuple") (.type "tuple") = pure true := by kernel_rfl
theorem cf_sub3 : isSubtype (.type "dict") (.type "dict") = pure true := by kernel_rfl
theorem cf_note (a : Addr) : noteSubclassOfBuiltin "object" a = pure () := by kernel_rfl
theorem cf_iter : typeLookup (.type "dict") "__iter__" = pure (some (.builtin "dict.__iter__")) := by kernel_rfl
theorem cf_own : classOwn (.type "object") "__new__" = pure (some (.builtin "object.__new__")) := by kernel_rfl
theorem cf_tobj : typeOf (.type "object") = pure (.type "type") := by kernel_rfl
section
variable {M : Model} {A : Around} {E : Value → Shared → Prop} {s : Shared} {α β : Type} {x : α} {l : List α} {b : β} {f : α → β → Sem (ForInStep β)} {Q : β → Shared → Prop}
theorem for_nil (h : Q b s) : wpAny M A (forIn ([] : List α) b f) Q E s := by rw [List.forIn_nil]; exact wpAny_pure h
theorem for_cons (h : wpAny M A (f x b) (fun r s' => match r with | .done b' => Q b' s' | .yield b' => wpAny M A (forIn l b' f) Q E s') E s) : wpAny M A (forIn (x :: l) b f) Q E s := by
  rw [List.forIn_cons]
  exact wpAny_bind (wpAny_mono h (fun r s' q => by cases r <;> first | exact wpAny_pure q | exact q) fun _ _ q => q)
theorem for_yield {b' : β} {m : Sem (ForInStep β)} (h : wpAny M A m (fun r s' => r = .yield b' ∧ wpAny M A (forIn l b' f) Q E s') E s) : wpAny M A m (fun r s' => match r with | .done b' => Q b' s' | .yield b' => wpAny M A (forIn l b' f) Q E s') E s :=
  wpAny_mono h (fun r s' q => by obtain ⟨rfl, q⟩ := q; exact q) fun _ _ q => q
end
section
variable {prog : Program} {w : World} {A : Around} {E : Value → Shared → Prop} {h0 h : Heap} {g : Array GenState} {d : Drawn} {t : Nat} {os : OsState} {C N : Addr} {cd : ClassData} {sl : Array (Option Value)} {kvs kvs' : List (Str × Value)} {n : Str}
theorem asStr_list {Q : Option Str → Shared → Prop} {ls : Addr} {xs : Array Value} (hls : h.get? ls = some { cls := .type "list", data := .seq xs }) (hq : Q none ⟨h, g, d, t, os⟩) : wpAny (model prog w) A (asStr? (.ref ls)) Q E ⟨h, g, d, t, os⟩ := by
  unfold asStr?
  exact wpAny_bind (wpAny_load (s := ⟨h, g, d, t, os⟩) hls (wpAny_pure hq))
theorem slots_read {Q : Slots.Plan → Shared → Prop} {X : Nat → Int} {K : Nat → Tok} {m q fl : Value} {ls i0 f1 f2 f3 f4 f5 st : Addr} {t3 : Tok}
  (hls : h.get? ls = some { cls := .type "list", data := .seq #[.str "obj" t3] })
  (hlast : ∃ b ob, h.get? b = some ob ∧ h.objs.size ≤ b + 1)
  (hq : ∀ h', (∀ b o', h.get? b = some o' → h'.get? b = some o') → h.objs.size ≤ h'.objs.size → Q { names := ["obj"], dict := false, weak := false, inherited := [] } ⟨h', g, d, t, os⟩) :
  wpAny (model prog w) A (Slots.read "K" [.type "object"] (es0 X K m q fl ls i0 f1 f2 f3 f4 f5 st)) Q E ⟨h, g, d, t, os⟩ := by
  unfold Slots.read
  refine wpAny_bind (wpAny_of_eq cf_best ?_)
  refine wpAny_bind (wpAny_of_eq cf_names ?_)
  refine wpAny_bind (wpAny_of_eq cf_gd ?_)
  refine wpAny_bind (wpAny_of_eq cf_gw ?_)
  refine wpAny_bind (wpAny_of_eq cf_vs ?_)
  rw [show (es0 X K m q fl ls i0 f1 f2 f3 f4 f5 st).find? (fun x => x.key.isStr "__slots__") = some ⟨X 3, .str "__slots__" (K 3), .ref ls⟩ from by kernel_rfl]
  dsimp only
  refine wpAny_bind (wpAny_rule ?_)
  refine wpAny_bind (asStr_list hls ?_)
  refine wpAny_bind (wpAny_collect_seq ls (.inl rfl) hls rfl rfl (fun h' hk => ?_))
  refine wpAny_of_eq (a := { names := ["obj"], dict := false, weak := false, inherited := [] }) (by kernel_rfl) (hq h' hk ?_)
  obtain ⟨b, ob, e, l⟩ := hlast
  exact Nat.le_trans l (Heap.lt_size (hk b ob e))
theorem slots_install {Q : Unit → Shared → Prop} (B : BC h0 h C cd sl N kvs) (hr : look kvs "obj" = none) (hl : kvs.length ≤ 1000) (hs : cd.subclasses = [])
  (hq : ∀ h' tk md t1, BC h0 h' C { cd with hasDict := false, slotNames := ["obj"] } sl N (putK kvs "obj" (.ref md)) → h'.get? md = some { cls := .type "member_descriptor", data := .fields #[.str "obj" t1, .ref C, .builtin "proto.slot", .builtin "proto.slot#set", .int 0 0] } → t ≤ tk → md ≠ C → md ≠ N → h0.get? md = none → Q () ⟨h', g, d, tk, os⟩) :
  wpAny (model prog w) A (Slots.install (.ref C) N [.type "object"] { names := ["obj"], dict := false, weak := false, inherited := [] }) Q E ⟨h, g, d, t, os⟩ := by
  unfold Slots.install
  dsimp only
  refine wpAny_bind (for_cons ?_)
  refine wpAny_bind (b_get B hr ?_)
  refine wpAny_ite_true rfl ?_
  refine wpAny_bind (wpAny_mkStr' ?_ (by rw [sizeLine_eq]; decide +kernel))
  refine wpAny_bind ?_
  unfold newFields newObj
  dsimp only
  refine wpAny_ite_false (by kernel_rfl) ?_
  unfold newObjAsIs
  refine wpAny_bind (b_alloc B rfl fun h1 B1 hm => ?_)
  dsimp only
  refine wpAny_pure ?_
  have hmC : h.objs.size ≠ C := fun q => by have := Heap.lt_size B.c; rw [q] at this; exact Nat.lt_irrefl _ this
  have hmN : h.objs.size ≠ N := fun q => by obtain ⟨es, ep, e, _⟩ := B.d; have := Heap.lt_size e; rw [q] at this; exact Nat.lt_irrefl _ this
  have hm0 : h0.get? h.objs.size = none := by
    cases e : h0.get? h.objs.size with
    | none => rfl
    | some o => exact absurd (Heap.lt_size (B.keep _ _ e)) (Nat.lt_irrefl _)
  refine wpAny_bind (b_setV B1 rfl hl fun h2 B2 S2 => ?_)
  refine wpAny_pure ?_
  refine for_nil ?_
  refine wpAny_bind (for_cons ?_)
  refine wpAny_bind (wpAny_of_eq cf_gd ?_)
  refine wpAny_ite_false rfl ?_
  refine wpAny_pure ?_
  refine for_nil ?_
  refine wpAny_ite_false (by rw [sizeLine_eq]; decide +kernel) ?_
  refine b_upd B2 ?_ fun h3 B3 S3 => hq h3 _ _ _ B3 ((S3.2 _ hmC).trans ((S2.2 _ hmN).trans hm)) (by omega) hmC hmN hm0
  unfold Data.pastItsLine
  dsimp only
  rw [hs]
  kernel_rfl
end
end Mine
end
section
namespace Mine
open PySem PyProof.Rows PySem.Builtin
section
variable {prog : Program} {w : World} {A : Around} {E : Value → Shared → Prop} {h0 h : Heap} {g : Array GenState} {d : Drawn} {t : Nat} {os : OsState} {C N : Addr} {cd : ClassData} {sl : Array (Option Value)} {kvs kvs' : List (Str × Value)} {n : Str}
theorem b_own {Q : Option Value → Shared → Prop} {r : Option Value} (B : BC h0 h C cd sl N kvs) (hN : cd.ns = N) (hr : look kvs n = r) (hq : Q r ⟨h, g, d, t, os⟩) : wpAny (model prog w) A (classOwn (.ref C) n) Q E ⟨h, g, d, t, os⟩ := by
  unfold classOwn
  refine wpAny_bind (b_cd B ?_)
  rw [hN]
  exact b_get B hr hq
theorem b_lookup {Q : Option Value → Shared → Prop} {r : Option Value} (B : BC h0 h C cd sl N kvs) (hN : cd.ns = N) (hm : cd.mro = [.ref C, .type "object"]) (hr : look kvs n = none) (ho : classOwn (.type "object") n = pure r) (hq : Q r ⟨h, g, d, t, os⟩) :
    wpAny (model prog w) A (typeLookup (.ref C) n) Q E ⟨h, g, d, t, os⟩ := by
  unfold typeLookup
  refine wpAny_bind (b_mro B ?_)
  rw [hm]
  refine wpAny_bind (for_cons (wpAny_bind (b_own B hN hr (wpAny_pure ?_))))
  refine for_cons (wpAny_bind (wpAny_of_eq ho ?_))
  cases r with
  | none => exact wpAny_pure (for_nil (wpAny_pure hq))
  | some v => exact wpAny_pure (wpAny_pure hq)
theorem b_lookup1 {Q : Option Value → Shared → Prop} {v : Value} (B : BC h0 h C cd sl N kvs) (hN : cd.ns = N) (hm : cd.mro = [.ref C, .type "object"]) (hr : look kvs n = some v) (hq : Q (some v) ⟨h, g, d, t, os⟩) :
    wpAny (model prog w) A (typeLookup (.ref C) n) Q E ⟨h, g, d, t, os⟩ := by
  unfold typeLookup
  refine wpAny_bind (b_mro B ?_)
  rw [hm]
  exact wpAny_bind (for_cons (wpAny_bind (b_own B hN hr (wpAny_pure (wpAny_pure hq)))))
theorem b_refresh {Q : Unit → Shared → Prop} (B : BC h0 h C cd sl N kvs) (hN : cd.ns = N) (hm : cd.mro = [.ref C, .type "object"]) (hs : (sl[4]?).join = some (.builtin "object.__new__")) (hr : look kvs "__new__" = none) (hq : Q () ⟨h, g, d, t, os⟩) :
    wpAny (model prog w) A (Bind.refreshMaker C) Q E ⟨h, g, d, t, os⟩ := by
  unfold Bind.refreshMaker
  refine wpAny_bind (b_slotAt B ?_)
  rw [hs]
  refine wpAny_ite_false rfl ?_
  refine wpAny_bind (b_lookup B hN hm hr cf_own ?_)
  dsimp only
  refine wpAny_ite_false (by kernel_rfl) ?_
  exact wpAny_pure hq
end
end Mine
end
section
namespace Mine
open PySem PyProof.Rows PySem.Builtin
noncomputable abbrev A0 : Around := { handled := none, depth := 500, frames := none, guards := none, units := 5000 }
noncomputable abbrev cdK (C N : Addr) : ClassData := { name := "K", bases := [.type "object"], mro := [.ref C, .type "object"], ns := N, qualname := "cmp_to_key.<locals>.K", hasDict := false, slotNames := ["obj"] }
noncomputable abbrev slK (bT : Addr) (t0 t2 : Tok) : Array (Option Value) := #[some (.ref bT), none, some (.str "K" t0), some (.str "cmp_to_key.<locals>.K" t2), some (.builtin "object.__new__"), some (.bool false)]
/-- what a call of a built-in leaves: the old objects -/
noncomputable def Lf (s : Shared) (s' : Shared) : Prop := ∃ h' tk, s' = (up s h' tk) ∧ s.toks ≤ tk ∧ (∀ b o, s.heap.get? b = some o → h'.get? b = some o)
theorem Lf.refl (s : Shared) : Lf s s := ⟨s.heap, s.toks, rfl, Nat.le_refl _, fun _ _ e => e⟩
theorem Lf.trans {s s₁ s₂ : Shared} (a : Lf s s₁) (b : Lf s₁ s₂) : Lf s s₂ := by
  obtain ⟨h, t, rfl, l, k⟩ := a
  obtain ⟨h', t', rfl, l', k'⟩ := b
  exact ⟨h', t', rfl, Nat.le_trans l l', fun b o e => k' b o (k b o e)⟩
theorem wpAny_in {M : Model} {A A' : Around} {α : Type} {t : Sem α} {Q : α → Shared → Prop} {E : Value → Shared → Prop} {s : Shared} (hA : ∀ Γ : Ctx, Γ.In A → Γ.In A') (h : wpAny M A' t Q E s) : wpAny M A t Q E s :=
  fun Γ p hΓ => h Γ p (hA Γ hΓ)
noncomputable def QSup (C : Addr) (s : Shared) : Value → Shared → Prop := fun v s' => ∃ so, v = .ref so ∧ Lf s s' ∧ s'.heap.get? so = some { cls := .type "super", dict := none, data := .fields #[.ref C, .ref C, .ref C] }
noncomputable def QBm (C : Addr) (s : Shared) : Value → Shared → Prop := fun v s' => ∃ m, v = .ref m ∧ Lf s s' ∧ s'.heap.get? m = some { cls := .type "builtin_function_or_method", dict := none, data := .fields #[.builtin "object.__init_subclass__", .ref C] }
section
variable (prog : Program) (w : World) (s : Shared) (C N bT : Addr) (t0 t2 : Tok) (hC : s.heap.get? C = some (⟨.type "type", none, .cls (cdK C N), slK bT t0 t2⟩ : Obj))
include hC
section
local macro_rules | `(tactic| x_close) => `(tactic| exact ⟨_, rfl, ⟨_, _, rfl, by omega, fun b o e => W.X.Mem.old (by assumption) b o e (Bool.or_true _)⟩, W.X.Mem.at (by assumption) 0 _ _ rfl⟩)
theorem run_super : wpAny (model prog w) A0 (call (.type "super") [.ref C, .ref C]) (QSup C s) (fun _ _ => False) s := by
  x_run
theorem run_bound : wpAny (model prog w) A0 (call (.builtin "classmethod_descriptor.__get__") [.builtin "object.__init_subclass__", .none, .ref C]) (QBm C s) (fun _ _ => False) s := by
  x_run
end
section
local macro_rules | `(tactic| x_close) => `(tactic| first | exact ⟨_, _, rfl, by omega, fun b o e => e⟩ | exact ⟨_, _, rfl, by omega, fun b o e => W.X.Mem.old (by assumption) b o e (Bool.or_true _)⟩)
theorem run_hook {m : Addr} (hm : s.heap.get? m = some (⟨.type "builtin_function_or_method", none, .fields #[.builtin "object.__init_subclass__", .ref C], #[]⟩ : Obj)) : wpAny (model prog w) A0 (call (.ref m) []) (fun _ s' => Lf s s') (fun _ _ => False) s := by
  x_run
end
end
section
variable {prog : Program} {w : World} {A : Around} {E : Value → Shared → Prop} {h : Heap} {g : Array GenState} {d : Drawn} {t : Nat} {os : OsState} {C N bT so : Addr} {t0 t2 tk : Tok}
theorem cf_oown : classOwn (.type "object") "__init_subclass__" = pure (some (.builtin "object.__init_subclass__")) := by kernel_rfl
theorem cf_tcd : typeOf (.builtin "object.__init_subclass__") = pure (.type "classmethod_descriptor") := by kernel_rfl
theorem cf_cdget : typeLookup (.type "classmethod_descriptor") "__get__" = pure (some (.builtin "classmethod_descriptor.__get__")) := by kernel_rfl
theorem cf_isname : ((("__init_subclass__" : Str) == ("__class__" : Str)) = false) := by kernel_rfl
theorem super_ga {Q : PySem.Fin → Shared → Prop} (hA : ∀ Γ : Ctx, Γ.In A → Γ.In A0) (hop : PySem.W.Looks (model prog w) h (opaqueClassAbove (.ref C)) none) (hC : h.get? C = some (clsObj (cdK C N) (slK bT t0 t2))) (hso : h.get? so = some { cls := .type "super", dict := none, data := .fields #[.ref C, .ref C, .ref C] })
  (hq : ∀ v s', QBm C ⟨h, g, d, t, os⟩ v s' → Q (.done (.ret v)) s') :
  wpAny (model prog w) A (Builtin.«super.__getattribute__» ⟨[.ref so, .str "__init_subclass__" tk], []⟩) Q E ⟨h, g, d, t, os⟩ := by
  have hdt : ({ cls := .type "super", dict := none, data := .fields #[.ref C, .ref C, .ref C], slots := #[] } : Obj).data = .fields #[.ref C, .ref C, .ref C] := rfl
  unfold Builtin.«super.__getattribute__»
  wp_delta
  refine wpAny_bind (wpAny_pure ?_)
  wp_delta
  refine wpAny_ite_false rfl ?_
  refine wpAny_bind (wpAny_pure ?_)
  wp_delta
  have f0 : (#[.ref C, .ref C, .ref C] : Array Value)[0]? = some (.ref C) := rfl
  have f1 : (#[.ref C, .ref C, .ref C] : Array Value)[1]? = some (.ref C) := rfl
  have f2 : (#[.ref C, .ref C, .ref C] : Array Value)[2]? = some (.ref C) := rfl
  refine wpAny_bind (wpAny_field (s := ⟨h, g, d, t, os⟩) hso hdt f0 ?_)
  refine wpAny_bind (wpAny_field (s := ⟨h, g, d, t, os⟩) hso hdt f1 ?_)
  refine wpAny_bind (wpAny_field (s := ⟨h, g, d, t, os⟩) hso hdt f2 ?_)
  refine wpAny_ite_false (by kernel_rfl) ?_
  refine wpAny_bind (PySem.ks_wpAny_notOpaque hop ?_)
  refine wpAny_ite_false rfl ?_
  wp_delta
  unfold mroOf classData
  refine wpAny_bind (wpAny_bind (wpAny_bind (wpAny_load (s := ⟨h, g, d, t, os⟩) hC (wpAny_pure (wpAny_pure ?_)))))
  wp_delta
  rw [show List.drop 1 (List.dropWhile (fun x => x != Value.ref C) [.ref C, .type "object"]) = [.type "object"] from by simp]
  refine wpAny_bind (for_cons ?_)
  refine wpAny_bind (wpAny_of_eq cf_oown ?_)
  wp_delta
  refine wpAny_bind (wpAny_of_eq cf_tcd ?_)
  refine wpAny_bind (wpAny_of_eq cf_cdget ?_)
  wp_delta
  refine wpAny_bind (wpAny_holding ?_)
  rw [show (if (Value.ref C == Value.ref C) = true then Value.none else Value.ref C) = .none from by simp]
  refine wpAny_mono (wpAny_in hA (run_bound prog w ⟨h, g, d, t, os⟩ C N bT t0 t2 hC)) (fun v s' hv => ?_) fun _ _ z => z.elim
  exact wpAny_bind (wpAny_pure (wpAny_pure (wpAny_pure (hq v s' hv))))
theorem get_hook {Q : Value → Shared → Prop} (hA : ∀ Γ : Ctx, Γ.In A.in1 → Γ.In A0) (hop : PySem.W.Looks (model prog w) h (opaqueClassAbove (.ref C)) none) (hC : h.get? C = some (clsObj (cdK C N) (slK bT t0 t2))) (hso : h.get? so = some { cls := .type "super", dict := none, data := .fields #[.ref C, .ref C, .ref C] })
  (hq : ∀ v s', QBm C ⟨h, g, d, t + 1, os⟩ v s' → Q v s') :
  wpAny (model prog w) A (getAttr (.ref so) "__init_subclass__") Q E ⟨h, g, d, t, os⟩ := by
  have hlk := PySem.F.ks_slot_super_ga.lookup
  have hT : ∀ t', (⟨h, g, d, t', os⟩ : Shared).TypeIs (.ref so) "super" := fun _ => ⟨_, hso, rfl⟩
  unfold getAttr getAttrBy
  refine wpAny_bind (wpAny_bind (wpAny_fresh' (wpAny_pure (wpAny_holding (wpAny_bind (wpAny_typeOf (hT _) (wpAny_bind (wpAny_of_eq hlk ?_))))))))
  show wpAny _ _ (getAttrByItsOwn (.ref so) (.str "__init_subclass__" t) (.type "super") (.builtin "super.__getattribute__") true false) _ _ _
  unfold getAttrByItsOwn hookBefore callGetattribute boundAndCalled
  refine wpAny_bind (wpAny_of_eq (show (if onTheHeap (.type "super") then typeLookup (.type "super") "__getattr__" else pure none) = pure none from rfl) ?_)
  refine wpAny_bind (wpAny_attempt (wpAny_holding ?_))
  show wpAny _ _ (bindSpecial (.builtin "super.__getattribute__") (.ref so) >>= _) _ _ _
  refine wpAny_bind (wpAny_of_eq (PySem.F.ks_slot_super_ga.bind _) ?_)
  refine wpAny_mono (Q := fun v s' => QBm C ⟨h, g, d, t + 1, os⟩ v s') (E := fun _ _ => False)
    (wpAny_call_entry PySem.F.ks_slot_super_ga (hT _) PySem.F.ks_entry_super_ga (super_ga hA hop hC hso fun v s' hv => ⟨_, rfl, hv⟩) (PySem.F.ks_gaArgs_super _ _)) (fun v s' hv => ?_) fun _ _ z => z.elim
  obtain ⟨m, rfl, hr⟩ := id hv
  exact wpAny_pure (hq _ s' hv)
end
end Mine
end
section
set_option maxHeartbeats 4000000
set_option pp.maxSteps 2500
set_option pp.deepTerms false
set_option pp.deepTerms.threshold 14
namespace Mine
open PySem PyProof.Rows PySem.Builtin
noncomputable abbrev kvs1 (m fl : Value) (ls i0 f1 f2 f3 f4 f5 st : Addr) : List (Str × Value) :=
  [("__module__", m), ("__firstlineno__", fl), ("__slots__", .ref ls), ("__init__", .ref i0), ("__lt__", .ref f1), ("__gt__", .ref f2), ("__eq__", .ref f3), ("__le__", .ref f4), ("__ge__", .ref f5), ("__hash__", .none), ("__static_attributes__", .ref st)]
noncomputable abbrev kvs2 (m fl : Value) (ls i0 f1 f2 f3 f4 f5 st md : Addr) : List (Str × Value) :=
  [("__module__", m), ("__firstlineno__", fl), ("__slots__", .ref ls), ("__init__", .ref i0), ("__lt__", .ref f1), ("__gt__", .ref f2), ("__eq__", .ref f3), ("__le__", .ref f4), ("__ge__", .ref f5), ("__hash__", .none), ("__static_attributes__", .ref st), ("obj", .ref md), ("__doc__", .none)]
theorem b_upd' {M : Model} {A : Around} {E : Value → Shared → Prop} {h0 h : Heap} {g : Array GenState} {d : Drawn} {t : Nat} {os : OsState} {C N : Addr} {cd cd' : ClassData} {sl : Array (Option Value)} {kvs : List (Str × Value)}
  {Q : Unit → Shared → Prop} {f : ClassData → ClassData} (B : BC h0 h C cd sl N kvs) (hf : f cd = cd') (hp : (Data.cls cd').pastItsLine = none) (hq : ∀ h', BC h0 h' C cd' sl N kvs → Heap.SameBut C h h' → Q () ⟨h', g, d, t, os⟩) : wpAny M A (updateCls C f) Q E ⟨h, g, d, t, os⟩ := by
  subst hf
  exact b_upd B hp hq
theorem BC.as {h0 h : Heap} {C N : Addr} {cd cd' : ClassData} {sl sl' : Array (Option Value)} {kvs : List (Str × Value)} (B : BC h0 h C cd sl N kvs) (h1 : cd = cd') (h2 : sl = sl') : BC h0 h C cd' sl' N kvs := by subst h1; subst h2; exact B
theorem BC.later {h0 h h' : Heap} {C N : Addr} {cd : ClassData} {sl : Array (Option Value)} {kvs : List (Str × Value)} (B : BC h0 h C cd sl N kvs) (k : ∀ b o, h.get? b = some o → h'.get? b = some o) (hs : h0.objs.size ≤ h'.objs.size) : BC h0 h' C cd sl N kvs :=
  ⟨k _ _ B.c, let ⟨es, ep, e, p⟩ := B.d; ⟨es, ep, k _ _ e, p⟩, fun b o e => k b o (B.keep b o e), hs, B.nc, B.nn⟩
theorem for_same {M : Model} {A : Around} {E : Value → Shared → Prop} {s : Shared} {α β : Type} {b : β} {f : α → β → Sem (ForInStep β)} {Q : β → Shared → Prop} : ∀ {l : List α}, (∀ x ∈ l, ∀ Q' : ForInStep β → Shared → Prop, Q' (.yield b) s → wpAny M A (f x b) Q' E s) → Q b s → wpAny M A (forIn l b f) Q E s
  | [], _, h => for_nil h
  | x :: l, hf, h => for_cons (hf x (.head _) _ (for_same (fun y hy => hf y (.tail _ hy)) h))
theorem for_arr {M : Model} {A : Around} {E : Value → Shared → Prop} {s : Shared} {α β : Type} {b : β} {f : α → β → Sem (ForInStep β)} {Q : β → Shared → Prop} {l : Array α} (h : wpAny M A (forIn l.toList b f) Q E s) : wpAny M A (forIn l b f) Q E s := by
  rwa [Array.forIn_toList] at h
theorem ent_mem {l : List DictEntry} {kvs : List (Str × Value)} (p : Paired Ent l kvs) : ∀ e ∈ l, ∃ kv ∈ kvs, Ent e kv := by
  induction p with
  | nil => exact fun e he => absurd he List.not_mem_nil
  | cons h r ih =>
    intro e he
    rcases List.mem_cons.mp he with rfl | he
    · exact ⟨_, .head _, h⟩
    · obtain ⟨kv, hk, h'⟩ := ih e he
      exact ⟨kv, .tail _ hk, h'⟩
/-- a value of a class's dict that has no __set_name__ -/
noncomputable def Mild (s : Shared) (v : Value) : Prop := ∃ T, s.TypeIs v T ∧ typeLookup (.type T) "__set_name__" = pure none ∧ ∀ id, v ≠ .builtin id
theorem sn_fn : typeLookup (.type "function") "__set_name__" = pure none := by kernel_rfl
theorem sn_ls : typeLookup (.type "list") "__set_name__" = pure none := by kernel_rfl
theorem sn_tu : typeLookup (.type "tuple") "__set_name__" = pure none := by kernel_rfl
theorem sn_st : typeLookup (.type "str") "__set_name__" = pure none := by kernel_rfl
theorem sn_in : typeLookup (.type "int") "__set_name__" = pure none := by kernel_rfl
theorem sn_no : typeLookup (.type "NoneType") "__set_name__" = pure none := by kernel_rfl
theorem sn_md : typeLookup (.type "member_descriptor") "__set_name__" = pure none := by kernel_rfl
theorem TypeIs.keep {h h' : Heap} {g g' : Array GenState} {d d' : Drawn} {t t' : Nat} {os os' : OsState} {v : Value} {T : String} (k : ∀ b o, h.get? b = some o → h'.get? b = some o) (x : (⟨h, g, d, t, os⟩ : Shared).TypeIs v T) : (⟨h', g', d', t', os'⟩ : Shared).TypeIs v T := by
  cases v with
  | ref a => obtain ⟨o, e, c⟩ := x; exact ⟨o, k a o e, c⟩
  | _ => exact x
theorem r_ne {nsA : Addr} (h : nsA ≠ sysModules) : decide ((nsA == sysModules) = true) = false := by simp [h]
theorem type_new {prog : Program} {w : World} {A : Around} {E : Value → Shared → Prop} {Q : PySem.Fin → Shared → Prop} {t0 t1 t2 t3 t : Tok} {bT nsA : Addr}
  {h : Heap} {g : Array GenState} {d : Drawn} {os : OsState} {fl : Value} {ls i0 f1 f2 f3 f4 f5 st : Addr}
  (hb : h.get? bT = some { cls := .type "tuple", data := .seq #[.type "object"] }) 
  (hD : DI h nsA (kvs0 (.str "cpy313.functools" t1) (.str "cmp_to_key.<locals>.K" t2) fl ls i0 f1 f2 f3 f4 f5 st)) (hsys : nsA ≠ sysModules)
  (hls : h.get? ls = some { cls := .type "list", data := .seq #[.str "obj" t3] })
  (hlast : ∃ b ob, h.get? b = some ob ∧ h.objs.size ≤ b + 1)
  (hA : ∀ Γ : Ctx, Γ.In A.in1 → Γ.In A0) (hA' : ∀ Γ : Ctx, Γ.In A → Γ.In A0) (hop : ∀ C, PySem.W.Looks (model prog w) h (opaqueClassAbove (.ref C)) none)
  (hfl : ∃ i k, fl = .int i k) (hfn : ∀ f ∈ [i0, f1, f2, f3, f4, f5], (⟨h, g, d, t, os⟩ : Shared).TypeIs (.ref f) "function") (hst : (⟨h, g, d, t, os⟩ : Shared).TypeIs (.ref st) "tuple")
  (hq : ∀ s' C N md t4, Lf ⟨h, g, d, t, os⟩ s' → BC h s'.heap C (cdK C N) (slK bT t0 t2) N (kvs2 (.str "cpy313.functools" t1) fl ls i0 f1 f2 f3 f4 f5 st md) →
    s'.heap.get? md = some { cls := .type "member_descriptor", data := .fields #[.str "obj" t4, .ref C, .builtin "proto.slot", .builtin "proto.slot#set", .int 0 0] } → Q (.done (.ret (.ref C))) s') :
  wpAny (model prog w) A (Builtin.«type.__new__» ⟨[.type "type", .str "K" t0, .ref bT, .ref nsA], []⟩) Q E ⟨h, g, d, t, os⟩ := by
  obtain ⟨es, ep, hns, hp⟩ := id hD
  obtain ⟨X, K, hes⟩ := ents_mk 0 hp
  have hes' : es = es0 X K (.str "cpy313.functools" t1) (.str "cmp_to_key.<locals>.K" t2) fl ls i0 f1 f2 f3 f4 f5 st := by
    rw [← Array.toArray_toList (xs := es), hes]
  subst hes'
  have hT1 : (⟨h, g, d, t, os⟩ : Shared).TypeIs (.ref bT) "tuple" := ⟨_, hb, rfl⟩
  have hT2 : (⟨h, g, d, t, os⟩ : Shared).TypeIs (.ref nsA) "dict" := ⟨_, hns, rfl⟩
  unfold Builtin.«type.__new__»
  wp_delta
  refine wpAny_bind (wpAny_pure ?_)
  wp_delta
  refine wpAny_bind (wpAny_isInstance hT1 cf_sub2 ?_)
  refine wpAny_ite_false rfl ?_
  wp_delta
  refine wpAny_bind (wpAny_isInstance hT2 cf_sub3 ?_)
  wp_delta
  refine wpAny_ite_false rfl ?_
  wp_delta
  refine wpAny_bind (wpAny_seqItems (s := ⟨h, g, d, t, os⟩) hb rfl ?_)
  wp_delta
  refine wpAny_ite_false (by kernel_rfl) ?_
  wp_delta
  refine wpAny_bind (for_cons (wpAny_bind (wpAny_pure (wpAny_ite_false rfl (wpAny_pure (for_nil ?_))))))
  wp_delta
  refine wpAny_bind (for_cons ?_)
  wp_delta
  refine wpAny_bind (wpAny_of_eq cf_tobj ?_)
  refine wpAny_bind (wpAny_of_eq cf_sub1 (wpAny_ite_true rfl (wpAny_pure (for_nil ?_))))
  wp_delta
  refine wpAny_ite_false rfl ?_
  wp_delta
  refine wpAny_bind (wpAny_of_eq cf_turned ?_)
  refine wpAny_bind (wpAny_of_eq cf_ext ?_)
  wp_delta
  refine wpAny_ite_false (r_ne hsys) ?_
  wp_delta
  refine wpAny_bind (wpAny_dictEntries (s := ⟨h, g, d, t, os⟩) hns rfl ?_)
  refine wpAny_bind (wpAny_specialOf hT2 cf_iter ?_)
  wp_delta
  refine wpAny_ite_true (by simp) ?_
  refine wpAny_bind (wpAny_pure ?_)
  wp_delta
  refine wpAny_bind (wpAny_holding (slots_read hls hlast fun h1 hk hz => ?_))
  unfold newObj
  refine wpAny_bind ?_
  wp_delta
  refine wpAny_ite_false (by kernel_rfl) ?_
  unfold newObjAsIs
  refine wpAny_bind (wpAny_alloc' ?_)
  wp_delta
  refine wpAny_pure ?_
  have hN1 : (h1.push { cls := .type "dict", data := .dict (es0 X K (.str "cpy313.functools" t1) (.str "cmp_to_key.<locals>.K" t2) fl ls i0 f1 f2 f3 f4 f5 st) }).get? h1.objs.size = some { cls := .type "dict", data := .dict (es0 X K (.str "cpy313.functools" t1) (.str "cmp_to_key.<locals>.K" t2) fl ls i0 f1 f2 f3 f4 f5 st) } := Heap.get?_push_size _ rfl
  have hD1 : DI (h1.push { cls := .type "dict", data := .dict (es0 X K (.str "cpy313.functools" t1) (.str "cmp_to_key.<locals>.K" t2) fl ls i0 f1 f2 f3 f4 f5 st) }) h1.objs.size (kvs0 (.str "cpy313.functools" t1) (.str "cmp_to_key.<locals>.K" t2) fl ls i0 f1 f2 f3 f4 f5 st) := ⟨_, _, hN1, mkE_paired X K _ 0⟩
  have hk2 : ∀ b ob, h.get? b = some ob → (h1.push { cls := .type "dict", data := .dict (es0 X K (.str "cpy313.functools" t1) (.str "cmp_to_key.<locals>.K" t2) fl ls i0 f1 f2 f3 f4 f5 st) }).get? b = some ob := fun b ob e => Heap.get?_push_of_some _ (hk b ob e)
  have hz2 : h.objs.size ≤ (h1.push { cls := .type "dict", data := .dict (es0 X K (.str "cpy313.functools" t1) (.str "cmp_to_key.<locals>.K" t2) fl ls i0 f1 f2 f3 f4 f5 st) }).objs.size := by rw [Heap.size_push]; exact Nat.le_succ_of_le hz
  have hnN : h.get? h1.objs.size = none := by
    cases e : h.get? h1.objs.size with
    | none => rfl
    | some o => exact absurd (Heap.lt_size (hk _ _ e)) (Nat.lt_irrefl _)
  generalize h1.objs.size = N at hN1 hD1 hnN ⊢
  generalize h1.push _ = h2 at hN1 hD1 hk2 hz2 ⊢
  clear hN1 hk hz
  wp_delta
  refine wpAny_ite_false (by kernel_rfl) ?_
  wp_delta
  refine wpAny_bind ?_
  wp_delta
  refine wpAny_ite_false (by kernel_rfl) ?_
  refine wpAny_pure ?_
  wp_delta
  refine wpAny_ite_false (by kernel_rfl) ?_
  wp_delta
  refine wpAny_bind (d_get' (s := ⟨h2, g, d, t, os⟩) hD1 (r := some (.str "cmp_to_key.<locals>.K" t2)) (by kernel_rfl) ?_)
  refine wpAny_bind (d_get' (s := ⟨h2, g, d, t, os⟩) hD1 (r := some (.str "cmp_to_key.<locals>.K" t2)) (by kernel_rfl) ?_)
  wp_delta
  refine wpAny_bind (wpAny_pure ?_)
  wp_delta
  refine wpAny_bind (wpAny_pure ?_)
  refine wpAny_bind (d_get' (s := ⟨h2, g, d, t, os⟩) hD1 (r := none) (by kernel_rfl) ?_)
  wp_delta
  refine wpAny_bind (wpAny_alloc' ?_)
  wp_delta
  have hC1 := Heap.get?_push_size (h := h2) (o := clsObj { name := "K", bases := [.type "object"], mro := [], ns := N, qualname := "cmp_to_key.<locals>.K" } #[]) rfl
  have B0 : BC h (h2.push (clsObj { name := "K", bases := [.type "object"], mro := [], ns := N, qualname := "cmp_to_key.<locals>.K" } #[])) h2.objs.size { name := "K", bases := [.type "object"], mro := [], ns := N, qualname := "cmp_to_key.<locals>.K" } #[] N (kvs0 (.str "cpy313.functools" t1) (.str "cmp_to_key.<locals>.K" t2) fl ls i0 f1 f2 f3 f4 f5 st) := by
    refine ⟨hC1, hD1.push, fun b ob e => Heap.get?_push_of_some _ (hk2 b ob e), by rw [Heap.size_push]; exact Nat.le_succ_of_le hz2, ?_, hnN⟩
    cases e : h.get? h2.objs.size with
    | none => rfl
    | some o => exact absurd (Heap.lt_size (hk2 _ _ e)) (Nat.lt_irrefl _)
  clear hC1 hD1 hk2 hz2 hnN
  change wpAny _ _ _ _ _ ⟨h2.push (clsObj { name := "K", bases := [.type "object"], mro := [], ns := N, qualname := "cmp_to_key.<locals>.K" } #[]), g, d, t, os⟩
  generalize h2.objs.size = C at B0 ⊢
  generalize h2.push _ = h3 at B0 ⊢
  refine wpAny_ite_true rfl ?_
  refine wpAny_bind (b_slot B0 fun h4 B1 S1 => ?_)
  wp_delta
  refine wpAny_bind (b_slot B1 fun h5 B2 S2 => ?_)
  wp_delta
  refine wpAny_bind (b_slot B2 fun h6 B3 S3 => ?_)
  wp_delta
  clear S1 S2 S3 B0 B1 B2
  refine wpAny_bind (b_del B3 (r := some (.str "cmp_to_key.<locals>.K" t2)) (by kernel_rfl) (kvs' := kvs1 (.str "cpy313.functools" t1) fl ls i0 f1 f2 f3 f4 f5 st) (by kernel_rfl) fun h7 B4 S4 => ?_)
  clear B3 S4
  refine wpAny_bind (b_get B4 (r := none) (by kernel_rfl) ?_)
  wp_delta
  refine wpAny_bind (for_cons (wpAny_bind (b_get B4 (r := none) (by kernel_rfl) (wpAny_pure ?_))))
  refine for_cons (wpAny_bind (b_get B4 (r := none) (by kernel_rfl) (wpAny_pure (for_nil ?_))))
  refine wpAny_bind (b_get B4 (r := none) (by kernel_rfl) ?_)
  wp_delta
  refine wpAny_bind (b_get B4 (r := none) (by kernel_rfl) ?_)
  wp_delta
  refine wpAny_bind (wpAny_of_eq cf_hook ?_)
  wp_delta
  refine wpAny_bind (wpAny_of_eq cf_lin ?_)
  refine wpAny_bind (wpAny_pure ?_)
  wp_delta
  rw [show List.filter (fun x => x != Value.ref C) (Value.ref C :: [.type "object"]) = [.type "object"] from by simp]
  refine wpAny_bind (wpAny_of_eq (a := false) (by kernel_rfl) ?_)
  refine wpAny_bind (b_upd' B4 (cd' := { name := "K", bases := [.type "object"], mro := [.ref C, .type "object"], ns := N, qualname := "cmp_to_key.<locals>.K" }) (by kernel_rfl) (by kernel_rfl) fun h8 B5 S5 => ?_)
  clear B4 S5
  refine wpAny_bind (wpAny_of_eq cf_made ?_)
  refine wpAny_bind (b_slot B5 fun h9 B6 S6 => ?_)
  clear B5 S6
  refine wpAny_bind (b_refresh B6 rfl rfl (by kernel_rfl) (by kernel_rfl) ?_)
  refine wpAny_bind (slots_install B6 (by kernel_rfl) (Nat.le_of_ble_eq_true rfl) rfl fun h10 tk md t4 B7 hmd htk hmC hmN hm0 => ?_)
  clear B6
  refine wpAny_bind (wpAny_of_eq cf_gw ?_)
  refine wpAny_bind (b_slot B7 fun h11 B8 S8 => ?_)
  replace hmd := (S8.2 _ hmC).trans hmd
  clear B7 S8
  wp_delta
  refine wpAny_ite_false rfl ?_
  wp_delta
  refine wpAny_ite_false rfl ?_
  wp_delta
  refine wpAny_bind (b_get B8 (r := none) (by kernel_rfl) ?_)
  wp_delta
  refine wpAny_ite_true rfl ?_
  refine wpAny_bind (b_set B8 (kvs' := kvs2 (.str "cpy313.functools" t1) fl ls i0 f1 f2 f3 f4 f5 st md) (by kernel_rfl) fun h12 B9 S9 => ?_)
  replace hmd := (S9.2 _ hmN).trans hmd
  clear B8 S9
  wp_delta
  refine wpAny_bind (b_get B9 (r := some (.ref f3)) (by kernel_rfl) ?_)
  wp_delta
  refine wpAny_ite_true rfl ?_
  refine wpAny_bind (b_get B9 (r := some .none) (by kernel_rfl) ?_)
  refine wpAny_ite_false rfl ?_
  wp_delta
  refine wpAny_bind (for_cons ?_)
  wp_delta
  refine wpAny_bind (wpAny_of_eq (cf_note C) (wpAny_pure (for_nil ?_)))
  wp_delta
  replace B9 := B9.as (cd' := cdK C N) (sl' := slK bT t0 t2) (by kernel_rfl) (by kernel_rfl)
  have hmild : ∀ kv ∈ kvs2 (.str "cpy313.functools" t1) fl ls i0 f1 f2 f3 f4 f5 st md, ∀ tk', Mild ⟨h12, g, d, tk', os⟩ kv.2 := by
    have hf : ∀ f ∈ [i0, f1, f2, f3, f4, f5], ∀ tk', Mild ⟨h12, g, d, tk', os⟩ (.ref f) := fun f hf tk' => ⟨_, TypeIs.keep B9.keep (hfn f hf), sn_fn, nofun⟩
    obtain ⟨fi, fk, rfl⟩ := hfl
    intro kv hkv tk'
    simp only [List.mem_cons, List.not_mem_nil, or_false] at hkv
    rcases hkv with rfl | rfl | rfl | rfl | rfl | rfl | rfl | rfl | rfl | rfl | rfl | rfl | rfl
    · exact ⟨_, rfl, sn_st, nofun⟩
    · exact ⟨_, rfl, sn_in, nofun⟩
    · exact ⟨_, ⟨_, B9.keep _ _ hls, rfl⟩, sn_ls, nofun⟩
    · exact hf _ (by simp) _
    · exact hf _ (by simp) _
    · exact hf _ (by simp) _
    · exact hf _ (by simp) _
    · exact hf _ (by simp) _
    · exact hf _ (by simp) _
    · exact ⟨_, rfl, sn_no, nofun⟩
    · exact ⟨_, TypeIs.keep B9.keep hst, sn_tu, nofun⟩
    · exact ⟨_, ⟨_, hmd, rfl⟩, sn_md, nofun⟩
    · exact ⟨_, rfl, sn_no, nofun⟩
  refine wpAny_bind (wpAny_tryCatch (wpAny_holding ?_))
  wp_delta
  refine wpAny_bind (d_ents (s := ⟨h12, g, d, _, os⟩) B9.d fun es1 p1 => ?_)
  refine wpAny_bind (for_arr (for_same (fun e he Q' hq' => ?_) ?_))
  · obtain ⟨kv, _, ⟨tk1, hk1⟩, _⟩ := ent_mem p1 e he
    rw [hk1]
    exact wpAny_bind (wpAny_pure (wpAny_ite_false rfl (wpAny_pure hq')))
  wp_delta
  refine wpAny_ite_false rfl ?_
  wp_delta
  refine wpAny_bind (d_ents (s := ⟨h12, g, d, _, os⟩) B9.d fun es2 p2 => ?_)
  refine wpAny_bind (for_arr (for_same (fun e he Q' hq' => ?_) ?_))
  · obtain ⟨kv, hkv, ⟨tk1, hk1⟩, hv1⟩ := ent_mem p2 e he
    obtain ⟨T, hT, hl, hnb⟩ := hmild kv hkv _
    rw [hk1, hv1]
    refine wpAny_ite_false ?_ ?_
    · cases hv : kv.2 with
      | builtin id => exact absurd hv (hnb id)
      | _ => rfl
    · exact wpAny_bind (wpAny_specialOf hT hl (wpAny_pure hq'))
  refine wpAny_bind (wpAny_mono (wpAny_in hA' (run_super prog w ⟨h12, g, d, _, os⟩ C N bT t0 t2 B9.c)) (fun v s1 hv => ?_) fun _ _ z => z.elim)
  obtain ⟨so, rfl, ⟨h13, tk2, rfl, hl2, hk2⟩, hso⟩ := hv
  refine wpAny_bind (wpAny_holding (get_hook (C := C) (N := N) (bT := bT) (t0 := t0) (t2 := t2) hA ((hop C).keeps fun b o e => hk2 b o (B9.keep b o e)) (hk2 _ _ B9.c) hso fun v s' hv => ?_))
  obtain ⟨m, rfl, ⟨h14, tk3, rfl, hl3, hk3⟩, hm⟩ := hv
  refine wpAny_bind (wpAny_mono (wpAny_in hA' (run_hook prog w ⟨h14, g, d, tk3, os⟩ C N bT t0 t2 (hk3 _ _ (hk2 _ _ B9.c)) hm)) (fun v s1 hv => ?_) fun _ _ z => z.elim)
  obtain ⟨h15, tk4, rfl, hl4, hk4⟩ := hv
  refine wpAny_pure ?_
  refine wpAny_pure ?_
  have k15 : ∀ b o, h12.get? b = some o → h15.get? b = some o := fun b o e => hk4 b o (hk3 b o (hk2 b o e))
  refine hq _ C N md t4 ⟨h15, tk4, rfl, ?_, fun b o e => k15 b o (B9.keep b o e)⟩ (B9.later k15 ?_) (k15 _ _ hmd)
  · have q2 : tk + 1 ≤ tk2 := hl2
    have q3 : tk2 + 1 ≤ tk3 := hl3
    have q4 : tk3 ≤ tk4 := hl4
    exact Nat.le_trans htk (by omega : tk ≤ tk4)
  · obtain ⟨b, ob, e, l⟩ := hlast
    exact Nat.le_trans l (Heap.lt_size (k15 _ _ (B9.keep _ _ e)))
end Mine
end
section
namespace Mine
open PySem PyProof.Rows PySem.Builtin
theorem inA0 {A : Around} (hh : A.handled = none) (hd : A.depth ≤ 500) (hu : A.units ≤ 5000) : ∀ Γ : Ctx, Γ.In A → Γ.In A0 :=
  fun Γ h => ⟨h.1.trans hh, Nat.le_trans h.2.1 hd, nofun, nofun, Nat.le_trans h.2.2.2.2 hu⟩
section
local macro_rules | `(tactic| x_close) => `(tactic| first | exact ⟨rfl, _, _, rfl, by omega, fun b o e => e⟩ | exact ⟨rfl, _, _, rfl, by omega, fun b o e => W.X.Mem.old (by assumption) b o e (Bool.or_true _)⟩)
theorem run_init (prog : Program) (w : World) (s : Shared) (C N bT : Addr) (t0 t2 : Tok) (hC : s.heap.get? C = some (⟨.type "type", none, .cls (cdK C N), slK bT t0 t2⟩ : Obj)) (a b c : Value) :
  wpAny (model prog w) A0 (call (.builtin "type.__init__") [.ref C, a, b, c]) (fun v s' => v = .none ∧ Lf s s') (fun _ _ => False) s := by
  x_run
end
theorem entry_tnew : entryFor table "type.__new__" = some Builtin.«type.__new__» := entryFor_of_tree (by kernel_rfl)
theorem plain_tnew : plainId "type.__new__" = true := by decide +kernel
theorem newCall_type (b c d : Value) : checkBuiltinCall "type.__new__" ⟨[.type "type", b, c, d], []⟩ = pure () := by kernel_rfl
theorem cf_tmro : mroOf (.type "type") = pure [.type "type", .type "object"] := by kernel_rfl
theorem cf_tmade : Bind.madeBy (.type "type") = pure (some "type.__new__") := by kernel_rfl
theorem cf_tinit : typeLookup (.type "type") "__init__" = pure (some (.builtin "type.__init__")) := by kernel_rfl
theorem cf_tbind (v : Value) : bindSpecial (.builtin "type.__init__") v = pure (.builtin "type.__init__", [v]) := by kernel_rfl
theorem cf_tcheck (a b c : Value) : checkTypeCall "type" ⟨[a, b, c], []⟩ = pure () := by kernel_rfl
theorem call_type {prog : Program} {w : World} {A : Around} {E : Value → Shared → Prop} {Q : Value → Shared → Prop} {t0 t1 t2 t3 t : Tok} {bT nsA : Addr}
  {h : Heap} {g : Array GenState} {d : Drawn} {os : OsState} {fl : Value} {ls i0 f1 f2 f3 f4 f5 st : Addr}
  (hb : h.get? bT = some { cls := .type "tuple", data := .seq #[.type "object"] }) 
  (hD : DI h nsA (kvs0 (.str "cpy313.functools" t1) (.str "cmp_to_key.<locals>.K" t2) fl ls i0 f1 f2 f3 f4 f5 st)) (hsys : nsA ≠ sysModules)
  (hls : h.get? ls = some { cls := .type "list", data := .seq #[.str "obj" t3] })
  (hlast : ∃ b ob, h.get? b = some ob ∧ h.objs.size ≤ b + 1)
  (hh : A.handled = none) (hd : A.depth ≤ 400) (hu : A.units ≤ 4000) (hop : ∀ C, PySem.W.Looks (model prog w) h (opaqueClassAbove (.ref C)) none)
  (hfl : ∃ i k, fl = .int i k) (hfn : ∀ f ∈ [i0, f1, f2, f3, f4, f5], (⟨h, g, d, t, os⟩ : Shared).TypeIs (.ref f) "function") (hst : (⟨h, g, d, t, os⟩ : Shared).TypeIs (.ref st) "tuple")
  (hq : ∀ s' C N md t4, Lf ⟨h, g, d, t, os⟩ s' → BC h s'.heap C (cdK C N) (slK bT t0 t2) N (kvs2 (.str "cpy313.functools" t1) fl ls i0 f1 f2 f3 f4 f5 st md) →
    s'.heap.get? md = some { cls := .type "member_descriptor", data := .fields #[.str "obj" t4, .ref C, .builtin "proto.slot", .builtin "proto.slot#set", .int 0 0] } → Q (.ref C) s') :
  wpAny (model prog w) A (call (.type "type") [.str "K" t0, .ref bT, .ref nsA]) Q E ⟨h, g, d, t, os⟩ := by
  have hA : ∀ B : Around, B.handled = none → B.depth ≤ 450 → B.units ≤ 4500 → ∀ Γ : Ctx, Γ.In B → Γ.In A0 := fun B a b c => inA0 a (by omega) (by omega)
  refine wpAny_call (codeAny_of_tree ?_)
  show wpAny _ _ (callAny (.type "type") _) _ _ _
  refine wpAny_pure ⟨Code.quiet_builtin _ (by decide +kernel), codeAny_builtin PySem.F.entry_type_call ?_⟩
  rw [Around.under_plain (weight_type_call_type "type" _ []) rfl]
  unfold Builtin.«type.__call__»
  wp_delta
  refine wpAny_ite_true rfl ?_
  refine wpAny_ite_false rfl ?_
  refine wpAny_ite_false rfl ?_
  try wp_delta
  refine wpAny_ite_false (by kernel_rfl) ?_
  try wp_delta
  refine wpAny_bind (wpAny_of_eq (cf_tcheck _ _ _) ?_)
  try wp_delta
  refine wpAny_bind (wpAny_of_eq cf_tmro ?_)
  try wp_delta
  refine wpAny_ite_false rfl ?_
  try wp_delta
  refine wpAny_bind (wpAny_of_eq cf_tmade ?_)
  try wp_delta
  refine wpAny_bind (wpAny_pure ?_)
  try wp_delta
  refine wpAny_bind (wpAny_holding (wpAny_call ?_))
  refine codeAny_of_tree ?_
  show wpAny _ A.in1.in1 (do checkBuiltinCall "type.__new__" ⟨[.type "type", .str "K" t0, .ref bT, .ref nsA], []⟩; again (.builtin "type.__new__" ⟨[.type "type", .str "K" t0, .ref bT, .ref nsA], []⟩)) _ _ _
  refine wpAny_bind (wpAny_of_eq (newCall_type _ _ _) (wpAny_pure ⟨plainId_quiet plain_tnew _, codeAny_builtin entry_tnew ?_⟩))
  rw [Around.under_plainId plain_tnew _]
  refine type_new hb hD hsys hls hlast (hA _ hh (by show A.depth ≤ 450; omega) (by show A.units + 1 + 1 + 1 ≤ 4500; omega)) (hA _ hh (by show A.depth ≤ 450; omega) (by show A.units + 1 + 1 ≤ 4500; omega)) hop hfl hfn hst fun s' C N md t4 hL hB hmd => ?_
  obtain ⟨h', tk, rfl, l1, k1⟩ := id hL
  have hT : ∀ tk', (⟨h', g, d, tk', os⟩ : Shared).TypeIs (.ref C) "type" := fun _ => ⟨_, hB.c, rfl⟩
  show wpAny _ _ _ _ _ _
  refine wpAny_bind (wpAny_isInstance (hT _) cf_sub1 ?_)
  try wp_delta
  refine wpAny_ite_false rfl ?_
  unfold callSpecial?
  refine wpAny_bind (wpAny_holding (wpAny_bind (wpAny_specialOf (hT _) cf_tinit ?_)))
  try wp_delta
  refine wpAny_holding (wpAny_bind (wpAny_of_eq (cf_tbind _) ?_))
  try wp_delta
  refine wpAny_bind (wpAny_mono (wpAny_in (hA _ hh (by show A.depth ≤ 450; omega) (by show A.units + 1 ≤ 4500; omega)) (run_init prog w ⟨h', g, d, tk, os⟩ C N bT t0 t2 hB.c _ _ _)) (fun v s1 hv => ?_) fun _ _ z => z.elim)
  obtain ⟨rfl, h2, tk2, rfl, l2, k2⟩ := hv
  refine wpAny_pure ?_
  try wp_delta
  refine wpAny_ite_false rfl ?_
  refine wpAny_pure (hq _ C N md t4 (hL.trans ⟨h2, tk2, rfl, l2, k2⟩) (hB.later k2 ?_) (k2 _ _ hmd))
  obtain ⟨b, ob, e, l⟩ := hlast
  exact Nat.le_trans l (Heap.lt_size (k2 _ _ (hB.keep _ _ e)))
end Mine
end
section
namespace Mine
open PySem PyProof.Rows PySem.Builtin
open PySem.W (CodeHd)
/-- a code object and its name -/
noncomputable def CR (h : Heap) (cd : Value) (q : Str) : Prop := ∃ c o vs t, cd = .ref c ∧ h.get? c = some o ∧ o.data = .fields vs ∧ vs[1]? = some (.str q t) ∧ o.cls = .type "code"
theorem CR.rec_ {h : Heap} {cd : Value} {q : Str} (x : CR h cd q) : h.CodeRec cd q := by obtain ⟨c, o, vs, t, e, g, r, v, _⟩ := x; exact ⟨c, o, vs, t, e, g, r, v⟩
theorem CR.keeps {h h' : Heap} {cd : Value} {q : Str} (x : CR h cd q) (k : ∀ b o, h.get? b = some o → h'.get? b = some o) : CR h' cd q := by obtain ⟨c, o, vs, t, e, g, r⟩ := x; exact ⟨c, o, vs, t, e, k _ _ g, r⟩
theorem CR.push {h : Heap} {cd : Value} {q : Str} (x : CR h cd q) (o : Obj) : CR (h.push o) cd q := x.keeps fun _ _ e => Heap.get?_push_of_some o e
section
variable {M : Model} {A : Around} {E : Value → Shared → Prop} {h : Heap} {g : Array GenState} {d : Drawn} {t : Nat} {os : OsState}
/-- a code object newly made -/
structure NewCode (h h' : Heap) (c P : Addr) (qual : Str) : Prop where
  hd : CodeHd h' c P
  tab : h'.get? P = some (PySem.W.tabObj #[])
  rec_ : CR h' (.ref c) qual
  keep : ∀ b o, h.get? b = some o → h'.get? b = some o
  size : h.objs.size ≤ h'.objs.size
  nc : h.objs.size ≤ c
  nP : h.objs.size ≤ P
theorem new_code {ctx : CodeContext} {name qual : Str} {n1 n2 n3 n4 n5 : Nat} {free : List Str} {isF : Bool} {locals : Option (List Str × List Str)} {template : Option FuncData} {Q : Value → Shared → Prop}
    (hq : ∀ c P h' tk, t ≤ tk → NewCode h h' c P qual → Q (.ref c) ⟨h', g, d, tk, os⟩) :
    wpAny M A (newCode ctx name qual n1 n2 n3 n4 n5 free isF none locals template) Q E ⟨h, g, d, t, os⟩ := by
  unfold newCode
  refine wpAny_bind (wpAny_mkText (wpAny_bind (wpAny_mkText (wpAny_bind (wpAny_mkText (wpAny_bind (wpAny_mkStrs fun fs => wpAny_bind (wpAny_newObjAsIs_type (wpAny_bind (wpAny_alloc ?_))))))))))
  have hP : ((h.push { cls := .type "tuple", dict := none, data := .seq fs.toArray }).push (PySem.W.tabObj #[])).get? (h.push { cls := .type "tuple", dict := none, data := .seq fs.toArray }).objs.size = some (PySem.W.tabObj #[]) := Heap.get?_push_size _ rfl
  have hk : ∀ b o, h.get? b = some o → ((h.push { cls := .type "tuple", dict := none, data := .seq fs.toArray }).push (PySem.W.tabObj #[])).get? b = some o := fun b o e => Heap.get?_push_of_some _ (Heap.get?_push_of_some _ e)
  have hz : h.objs.size ≤ ((h.push { cls := .type "tuple", dict := none, data := .seq fs.toArray }).push (PySem.W.tabObj #[])).objs.size := by rw [Heap.size_push, Heap.size_push]; omega
  have hz1 : h.objs.size ≤ (h.push { cls := .type "tuple", dict := none, data := .seq fs.toArray }).objs.size := by rw [Heap.size_push]; omega
  have fin : ∀ (h1 : Heap) (P : Addr) (h2 : Heap) (t2 : Nat) (a0 a2 a3 a4 a5 a6 a8 a12 a13 a14 a15 a16 a17 : Value) (n7 n10 : Int) (k1 k7 k10 k18 : Tok) (b9 : Bool) (f18 : Str), h1.get? P = some (PySem.W.tabObj #[]) → (∀ b o, h.get? b = some o → h1.get? b = some o) → h.objs.size ≤ P → (∀ b o, h1.get? b = some o → h2.get? b = some o) → h.objs.size ≤ h2.objs.size → t ≤ t2 →
      wpAny M A (newFields "code" [a0, .str qual k1, a2, a3, a4, a5, a6, .int n7 k7, a8, .bool b9, .int n10 k10, .ref P, a12, a13, a14, a15, a16, a17, .str f18 k18]) Q E ⟨h2, g, d, t2, os⟩ := by
    intro h1 P h2 t2 a0 a2 a3 a4 a5 a6 a8 a12 a13 a14 a15 a16 a17 n7 n10 k1 k7 k10 k18 b9 f18 hP hk hz1 hk2 hz2 ht
    unfold newFields
    refine wpAny_newObj_type (hq _ P _ _ ht ?_) (by size_fits)
    have hP2 := hk2 _ _ hP
    refine ⟨⟨_, _, _, _, _, _, _, _, _, Heap.get?_push_size _ rfl, rfl, rfl, rfl, rfl, rfl, rfl, rfl, rfl, fun e => ?_⟩, Heap.get?_push_of_some _ hP2, ⟨_, _, _, _, rfl, Heap.get?_push_size _ rfl, rfl, rfl, rfl⟩, fun b o e => Heap.get?_push_of_some _ (hk2 _ _ (hk _ _ e)), by rw [Heap.size_push]; exact Nat.le_succ_of_le hz2, hz2, hz1⟩
    have := Heap.lt_size hP2
    rw [← e] at this
    exact Nat.lt_irrefl _ this
  have tk : ∀ {a b c d e f : Nat}, t ≤ t + 1 + 1 + 1 + a + b + c + d + e + f := by intros; show (t : Nat) ≤ _; omega
  cases locals with
  | none =>
    cases template with
    | none =>
      refine wpAny_bind (wpAny_pure (wpAny_bind (wpAny_pure (wpAny_bind (wpAny_pure (wpAny_bind (wpAny_fresh (wpAny_bind (wpAny_mkText ?_)))))))))
      exact fin _ _ _ _ _ _ _ _ _ _ _ _ _ _ _ _ _ _ _ _ _ _ _ _ _ hP hk hz1 (fun _ _ e => e) hz (tk (d := 0) (e := 0) (f := 0))
    | some fd =>
      refine wpAny_bind (wpAny_pure (wpAny_bind (wpAny_pure (wpAny_bind (wpAny_bind (wpAny_alloc (wpAny_pure (wpAny_bind (wpAny_fresh (wpAny_bind (wpAny_mkText ?_)))))))))))
      exact fin _ _ _ _ _ _ _ _ _ _ _ _ _ _ _ _ _ _ _ _ _ _ _ _ _ hP hk hz1 (fun _ _ e => Heap.get?_push_of_some _ e) (by rw [Heap.size_push]; exact Nat.le_succ_of_le hz) (tk (d := 0) (e := 0) (f := 0))
  | some l =>
    cases template with
    | none =>
      refine wpAny_bind (wpAny_mkStrs fun a => wpAny_bind (wpAny_newObjAsIs_type (wpAny_bind (wpAny_mkStrs fun b => wpAny_bind (wpAny_newObjAsIs_type (wpAny_bind (wpAny_pure (wpAny_bind (wpAny_fresh (wpAny_bind (wpAny_mkText ?_)))))))))))
      exact fin _ _ _ _ _ _ _ _ _ _ _ _ _ _ _ _ _ _ _ _ _ _ _ _ _ hP hk hz1 (fun _ _ e => Heap.get?_push_of_some _ (Heap.get?_push_of_some _ e)) (by simp only [Heap.size_push]; simp only [Heap.size_push] at hz; omega) (tk (f := 0))
    | some fd =>
      refine wpAny_bind (wpAny_mkStrs fun a => wpAny_bind (wpAny_newObjAsIs_type (wpAny_bind (wpAny_mkStrs fun b => wpAny_bind (wpAny_newObjAsIs_type (wpAny_bind (wpAny_bind (wpAny_alloc (wpAny_pure (wpAny_bind (wpAny_fresh (wpAny_bind (wpAny_mkText ?_)))))))))))))
      exact fin _ _ _ _ _ _ _ _ _ _ _ _ _ _ _ _ _ _ _ _ _ _ _ _ _ hP hk hz1 (fun _ _ e => Heap.get?_push_of_some _ (Heap.get?_push_of_some _ (Heap.get?_push_of_some _ e))) (by simp only [Heap.size_push]; simp only [Heap.size_push] at hz; omega) (tk (f := 0))
/-- what asking for the code at a place leaves -/
structure AtCode (h h' : Heap) (P : Addr) (ps ps' : Array Value) (pos : Pos) (c' : Addr) (qual : Str) : Prop where
  tab : h'.get? P = some (PySem.W.tabObj ps')
  tri : TriplesOk ps'.toList
  here : codeAmong pos ps'.toList = some (.ref c')
  rec_ : CR h' (.ref c') qual
  keep : ∀ b o, b ≠ P → h.get? b = some o → h'.get? b = some o
  size : h.objs.size ≤ h'.objs.size
  hit : (∃ v, codeAmong pos ps.toList = some v) → h' = h ∧ ps' = ps
  miss : codeAmong pos ps.toList = none → ps' = ps ++ #[rawInt pos.line, rawInt pos.col, .ref c'] ∧ h.objs.size ≤ c' ∧ ∃ P', h.objs.size ≤ P' ∧ CodeHd h' c' P' ∧ h'.get? P' = some (PySem.W.tabObj #[])
theorem code_at {env : Env} {pos : Pos} {make : CodeContext → Sem Value} {qual : Str} {c P : Addr} {ps : Array Value} {Q : Value → Shared → Prop} (hc : env.code = .ref c) (hd : CodeHd h c P) (hp : h.get? P = some (PySem.W.tabObj ps)) (ht : TriplesOk ps.toList)
    (hin : codeAmong pos ps.toList = none ∨ ∃ c', codeAmong pos ps.toList = some (.ref c') ∧ CR h (.ref c') qual)
    (hmake : ∀ (ctx : CodeContext) (Q : Value → Shared → Prop), (∀ c P h' tk, t ≤ tk → NewCode h h' c P qual → Q (.ref c) ⟨h', g, d, tk, os⟩) → wpAny M A (make ctx) Q E ⟨h, g, d, t, os⟩)
    (hq : ∀ c' h' tk ps', t ≤ tk → AtCode h h' P ps ps' pos c' qual → Q (.ref c') ⟨h', g, d, tk, os⟩) : wpAny M A (codeAt env pos make) Q E ⟨h, g, d, t, os⟩ := by
  rcases hin with hm | ⟨c', hh, hr⟩
  · obtain ⟨o, vs, file, tf, flags, tg, inF, text, tt, e1, _, e3, _, f3, f4, f5, f6, f7, hne⟩ := id hd
    unfold codeAt
    rw [hc, if_neg (show ¬ ((Value.ref c == Value.none) = true) from Bool.false_ne_true)]
    refine wpAny_bind (wpAny_fieldsOf (s := ⟨h, g, d, t, os⟩) e1 e3 ?_)
    rw [f3]
    refine wpAny_bind (wpAny_fieldsOf (s := ⟨h, g, d, t, os⟩) hp rfl ?_)
    rw [hm, f4, f5, f6, f7]
    refine wpAny_bind (hmake _ _ fun c' P' h' tk htk N => ?_)
    have hp' := N.keep _ _ hp
    refine wpAny_bind (wpAny_updateFieldsOfTheText (s := ⟨h', g, d, tk, os⟩) hp' rfl ?_)
    have hnew : Obj.mapFields (fun vs => if (codeAmong pos vs.toList).isSome = true then vs else vs ++ #[rawInt pos.line, rawInt pos.col, .ref c']) (PySem.W.tabObj ps) = PySem.W.tabObj (ps ++ #[rawInt pos.line, rawInt pos.col, .ref c']) := by
      show PySem.W.tabObj (if (codeAmong pos ps.toList).isSome = true then ps else ps ++ #[rawInt pos.line, rawInt pos.col, .ref c']) = _
      rw [hm]; rfl
    have hget := (Heap.get?_update_self (h := h') (Obj.mapFields (fun vs => if (codeAmong pos vs.toList).isSome = true then vs else vs ++ #[rawInt pos.line, rawInt pos.col, .ref c'])) hp' (by rw [hnew]; rfl)).trans (congrArg some hnew)
    have hs := Heap.SameBut.update h' P (Obj.mapFields (fun vs => if (codeAmong pos vs.toList).isSome = true then vs else vs ++ #[rawInt pos.line, rawInt pos.col, .ref c']))
    refine wpAny_bind (wpAny_fieldsOf (s := ⟨_, g, d, tk, os⟩) hget rfl ?_)
    have hl : (ps ++ #[rawInt pos.line, rawInt pos.col, Value.ref c']).toList = ps.toList ++ [rawInt pos.line, rawInt pos.col, .ref c'] := by simp
    have hcode := codeAmong_snoc (pos := pos) (c := .ref c') _ ht hm
    rw [hl, hcode]
    have lP := Heap.lt_size hp
    have hcP : c' ≠ P := fun e => by have := N.nc; rw [e] at this; exact Nat.lt_irrefl _ (Nat.lt_of_lt_of_le lP this)
    have hPP : P' ≠ P := fun e => by have := N.nP; rw [e] at this; exact Nat.lt_irrefl _ (Nat.lt_of_lt_of_le lP this)
    refine wpAny_pure (hq c' _ tk _ htk ⟨hget, by rw [hl]; exact TriplesOk_snoc _ _ _ _ ht, by rw [hl]; exact hcode, ?_, fun b o hb e => (hs.2 b hb).trans (N.keep _ _ e), by rw [hs.1]; exact N.size, fun ⟨_, e⟩ => ?_, fun _ => ⟨rfl, N.nc, P', N.nP, ?_, (hs.2 _ hPP).trans N.tab⟩⟩)
    · obtain ⟨c₂, o₂, vs₂, t₂, q₂, g₂, r₂⟩ := N.rec_
      cases q₂
      exact ⟨_, o₂, vs₂, t₂, rfl, (hs.2 _ hcP).trans g₂, r₂⟩
    · rw [hm] at e; cases e
    · obtain ⟨o, vs, file, tf, flags, tg, inF, text, tt, e, r⟩ := N.hd
      exact ⟨o, vs, file, tf, flags, tg, inF, text, tt, (hs.2 _ hcP).trans e, r⟩
  · refine wpAny_codeAt_hit (s := ⟨h, g, d, t, os⟩) hc (hd.code hp ht) hh (hq c' h t ps (Nat.le_refl _) ⟨hp, ht, hh, hr, fun _ _ _ e => e, Nat.le_refl _, fun _ => ⟨rfl, rfl⟩, fun e => ?_⟩)
    rw [hh] at e; cases e
theorem class_code {env : Env} {pos : Pos} {fl : Nat} {name qual : Str} {scope : Scope} {c P : Addr} {ps : Array Value} {Q : Value → Shared → Prop} (hc : env.code = .ref c) (hd : CodeHd h c P) (hp : h.get? P = some (PySem.W.tabObj ps)) (ht : TriplesOk ps.toList)
    (hin : codeAmong pos ps.toList = none ∨ ∃ c', codeAmong pos ps.toList = some (.ref c') ∧ CR h (.ref c') qual)
    (hq : ∀ c' h' tk ps', t ≤ tk → AtCode h h' P ps ps' pos c' qual → Q (.ref c') ⟨h', g, d, tk, os⟩) : wpAny M A (classCode env pos fl name qual scope) Q E ⟨h, g, d, t, os⟩ :=
  code_at hc hd hp ht hin (fun _ _ k => new_code k) hq
theorem func_code {env : Env} {pos : Pos} {fl : Nat} {name qual : Str} {p : Arguments} {scope : Scope} {body : FuncBody} {c P : Addr} {ps : Array Value} {Q : Value → Shared → Prop} (hc : env.code = .ref c) (hd : CodeHd h c P) (hp : h.get? P = some (PySem.W.tabObj ps)) (ht : TriplesOk ps.toList)
    (hin : codeAmong pos ps.toList = none ∨ ∃ c', codeAmong pos ps.toList = some (.ref c') ∧ CR h (.ref c') qual)
    (hq : ∀ c' h' tk ps', t ≤ tk → AtCode h h' P ps ps' pos c' qual → Q (.ref c') ⟨h', g, d, tk, os⟩) : wpAny M A (functionCode env pos fl name qual p scope body) Q E ⟨h, g, d, t, os⟩ :=
  code_at hc hd hp ht hin (fun _ _ k => new_code k) hq
end
end Mine
end
section
namespace Mine
open PySem PyProof.Rows PySem.Builtin
open PySem.W (CodeHd fnX)
/-- the module's own names, as a function that is made needs them -/
structure GB (mg : Str → Option Value) (h : Heap) : Prop where
  g : h.Ns mainGlobals mg
  b : ∃ bm o, mg "__builtins__" = some (.ref bm) ∧ bm ≠ builtinsNs ∧ h.get? bm = some o ∧ o.cls = .type "module" ∧ o.dict = some builtinsNs ∧ o.data = .plain
theorem GB.keep {mg : Str → Option Value} {h h' : Heap} {P : Addr} {ps : Array Value} (x : GB mg h) (hp : h.get? P = some (PySem.W.tabObj ps)) (k : ∀ b o, b ≠ P → h.get? b = some o → h'.get? b = some o) : GB mg h' := by
  obtain ⟨bm, o, e1, e2, e3, e4, e5, e6⟩ := x.b
  obtain ⟨og, es, ep, g1, g2, r⟩ := x.g
  refine ⟨⟨og, es, ep, k _ _ (fun q => ?_) g1, g2, r⟩, bm, o, e1, e2, k _ _ (fun q => ?_) e3, e4, e5, e6⟩
  · rw [q, hp] at g1; cases g1; cases g2
  · rw [q, hp] at e3; cases e3; cases e4
theorem GB.keeps {mg : Str → Option Value} {h h' : Heap} (x : GB mg h) (k : ∀ b o, h.get? b = some o → h'.get? b = some o) : GB mg h' := by
  obtain ⟨bm, o, e1, e2, e3, r⟩ := x.b
  obtain ⟨og, es, ep, g1, r'⟩ := x.g
  exact ⟨⟨og, es, ep, k _ _ g1, r'⟩, bm, o, e1, e2, k _ _ e3, r⟩
/-- what making a function leaves -/
structure AtFn (h h' : Heap) (P : Addr) (ps ps' : Array Value) (pos : Pos) (c' f : Addr) (fd : FuncData) (qual : Str) : Prop where
  tab : h'.get? P = some (PySem.W.tabObj ps')
  tri : TriplesOk ps'.toList
  here : codeAmong pos ps'.toList = some (.ref c')
  rec_ : CR h' (.ref c') qual
  keep : ∀ b o, b ≠ P → h.get? b = some o → h'.get? b = some o
  size : h.objs.size ≤ h'.objs.size
  hit : (∃ v, codeAmong pos ps.toList = some v) → ps' = ps
  miss : codeAmong pos ps.toList = none → ps' = ps ++ #[rawInt pos.line, rawInt pos.col, .ref c'] ∧ h.objs.size ≤ c'
  fn : h'.get? f = some { cls := .type "function", data := .func fd }
  new : h.objs.size ≤ f
section
variable {M : Model} {A : Around} {E : Value → Shared → Prop} {h : Heap} {g : Array GenState} {d : Drawn} {t : Nat} {os : OsState} {mg : Str → Option Value}
theorem clo_jp {clos : List (Str × Addr)} {Q : Value → Shared → Prop} {f : Value → Sem Value} (hq : ∀ v h', (∀ b o, h.get? b = some o → h'.get? b = some o) → h.objs.size ≤ h'.objs.size → wpAny M A (f v) Q E ⟨h', g, d, t, os⟩) :
    wpAny M A (if clos.isEmpty = true then (pure .none >>= f) else (newTextTuple ((clos.mergeSort fun a b => a.1.cps.toList ≤ b.1.cps.toList).map (.ref ·.2)) >>= f)) Q E ⟨h, g, d, t, os⟩ := by
  cases clos with
  | nil => exact wpAny_ite_true rfl (wpAny_bind (wpAny_pure (hq _ _ (fun _ _ e => e) (Nat.le_refl _))))
  | cons a l => exact wpAny_ite_false rfl (wpAny_bind (wpAny_newObjAsIs_type (hq _ _ (fun _ _ e => Heap.get?_push_of_some _ e) (by rw [Heap.size_push]; exact Nat.le_succ _))))
theorem make_fn {Q : Value → Shared → Prop} {env : Env} {pos : Pos} {fl : Nat} {name qual : Str} {params : Arguments} {body : List Stmt} {scope : Scope} {clos : List (Str × Addr)} {c P : Addr} {ps : Array Value}
    (hcl : closureFor scope env = pure clos) (hge : env.globals = mainGlobals) (G : GB mg h) (hc : env.code = .ref c) (hd : CodeHd h c P) (hp : h.get? P = some (PySem.W.tabObj ps)) (ht : TriplesOk ps.toList)
    (hin : codeAmong pos ps.toList = none ∨ ∃ c', codeAmong pos ps.toList = some (.ref c') ∧ CR h (.ref c') qual) (hdoc : docOf body = none)
    (hq : ∀ c' f ctv h' tk ps', t ≤ tk → AtFn h h' P ps ps' pos c' f (fnX name qual params body scope clos .none .none .none ((mg "__name__").getD .none) none (.ref c') ctv) qual → Q (.ref f) ⟨h', g, d, tk, os⟩) :
    wpAny M A (makeFunction name qual params (.stmts body) scope env [] [] [] pos fl) Q E ⟨h, g, d, t, os⟩ := by
  rw [makeFunction_eq]
  simp only [List.zip_nil_right, List.filterMap_nil, List.isEmpty_nil, if_true, pure_bind]
  unfold makeTail
  rw [hcl, hge]
  refine wpAny_bind (wpAny_pure ?_)
  wp_delta
  refine clo_jp fun ctv h1 k1 z1 => ?_
  refine wpAny_bind (func_code hc (hd.keeps k1) (k1 _ _ hp) ht (hin.imp id fun ⟨c', e, r⟩ => ⟨c', e, r.keeps k1⟩) fun c' h2 tk ps' htk C => ?_)
  have G2 : GB mg h2 := (G.keeps k1).keep (k1 _ _ hp) C.keep
  obtain ⟨bm, ob, hbm, hne0, hbo, hcls, hdict, hdata⟩ := G2.b
  refine wpAny_bind (wpAny_builtinsFor (s := ⟨h2, g, d, tk, os⟩) G2.g hbm hne0 hbo hcls hdict hdata ?_)
  refine wpAny_bind (wpAny_nsGet (s := ⟨h2, g, d, tk, os⟩) G2.g ?_)
  dsimp only
  rw [hdoc]
  refine wpAny_bind (wpAny_pure (wpAny_newObj_type (hq c' _ ctv _ tk ps' htk ?_) (by size_fits)))
  have up : ∀ (o : Obj) b o', h2.get? b = some o' → (h2.push o).get? b = some o' := fun o b o' e => Heap.get?_push_of_some _ e
  refine ⟨up _ _ _ C.tab, C.tri, C.here, C.rec_.push _, fun b o hb e => up _ _ _ (C.keep b o hb (k1 _ _ e)), ?_, fun ⟨v, e⟩ => ?_, fun e => ⟨(C.miss e).1, Nat.le_trans z1 (C.miss e).2.1⟩, Heap.get?_push_size _ rfl, Nat.le_trans z1 C.size⟩
  · rw [Heap.size_push]; exact Nat.le_succ_of_le (Nat.le_trans z1 C.size)
  · exact (C.hit ⟨v, e⟩).2
end
end Mine
end
section
namespace Mine
open PySem PyProof.Rows PySem.Builtin
open PySem.W (CodeHd fnX)
theorem codeAmong_other {p q : Pos} {c : Value} (hpq : (decide (q.line = p.line) && decide (q.col = p.col)) = false) : ∀ (l : List Value), TriplesOk l → codeAmong p (l ++ [rawInt q.line, rawInt q.col, c]) = codeAmong p l := by
  intro l
  fun_induction TriplesOk l with
  | case1 =>
    intro _
    have : ¬ (((q.line : Int) == (p.line : Int) && (q.col : Int) == (p.col : Int)) = true) := by
      intro e
      rw [Bool.and_eq_true, beq_iff_eq, beq_iff_eq] at e
      have h1 : q.line = p.line := Int.ofNat.inj e.1
      have h2 : q.col = p.col := Int.ofNat.inj e.2
      rw [h1, h2] at hpq
      simp at hpq
    simp only [codeAmong, List.nil_append, rawInt, if_neg this]
  | case2 a t b u x rest ih =>
    intro h
    simp only [List.cons_append, codeAmong]
    split
    · rfl
    · exact ih h
  | case3 l h1 h2 => intro h; exact h.elim
noncomputable abbrev fnO (fd : FuncData) : Obj := { cls := .type "function", data := .func fd }
/-- which codes a table still lacks (or has them all) -/
noncomputable def TabSt (m : Bool) (h : Heap) (ps : Array Value) (todo : List (Pos × Str)) : Prop :=
  ∀ x ∈ todo, (m = true → ∃ c', codeAmong x.1 ps.toList = some (.ref c') ∧ CR h (.ref c') x.2) ∧ (m = false → codeAmong x.1 ps.toList = none)
structure CB (mg : Str → Option Value) (m : Bool) (h0 h : Heap) (N : Addr) (kvs : List (Str × Value)) (c P : Addr) (ps0 ps : Array Value) (todo done : List (Pos × Str)) (fs : List (Addr × FuncData × Str)) : Prop where
  d : DI h N kvs
  hd : CodeHd h c P
  tab : h.get? P = some (PySem.W.tabObj ps)
  tri : TriplesOk ps.toList
  G : GB mg h
  keep : ∀ b o, b ≠ P → b ≠ N → h0.get? b = some o → h.get? b = some o
  size : h0.objs.size ≤ h.objs.size
  gN : mainGlobals ≠ N
  bN : ∀ bm, mg "__builtins__" = some (.ref bm) → bm ≠ N
  st : TabSt m h ps todo
  hit : m = true → ps = ps0
  dn : ∀ x ∈ done, ∃ c', codeAmong x.1 ps.toList = some (.ref c') ∧ CR h (.ref c') x.2
  fns : ∀ x ∈ fs, h.get? x.1 = some (fnO x.2.1) ∧ CR h x.2.1.code x.2.2
section
variable {mg : Str → Option Value} {m : Bool} {h0 h h' : Heap} {N c P : Addr} {kvs kvs' : List (Str × Value)} {ps0 ps : Array Value} {todo done : List (Pos × Str)} {fs : List (Addr × FuncData × Str)}
theorem CR.but {h h' : Heap} {a : Addr} {cd : Value} {q : Str} (x : CR h cd q) (k : ∀ b o, b ≠ a → h.get? b = some o → h'.get? b = some o) (hn : ∀ o vs, h.get? a = some o → o.data = .fields vs → ∀ q t, vs[1]? ≠ some (.str q t)) : CR h' cd q := by
  obtain ⟨c, o, vs, t, e, g, r, v, z⟩ := x
  exact ⟨c, o, vs, t, e, k _ _ (fun q => hn o vs (q ▸ g) r _ _ v) g, r, v, z⟩
theorem CR.dict {h h' : Heap} {a : Addr} {kvs : List (Str × Value)} {cd : Value} {q : Str} (x : CR h cd q) (D : DI h a kvs) (k : ∀ b o, b ≠ a → h.get? b = some o → h'.get? b = some o) : CR h' cd q := by
  obtain ⟨es, ep, e, _⟩ := D
  exact CR.but x k fun o vs e' q' => by rw [e] at e'; cases e'; cases q'
theorem CB.set (B : CB mg m h0 h N kvs c P ps0 ps todo done fs) (D : DI h' N kvs') (S : Heap.SameBut N h h') : CB mg m h0 h' N kvs' c P ps0 ps todo done fs := by
  have k : ∀ b o, b ≠ N → h.get? b = some o → h'.get? b = some o := fun b o hb e => (S.2 b hb).trans e
  obtain ⟨es, ep, eN, _⟩ := id B.d
  have hcN : ∀ {b : Addr} {o : Obj}, h.get? b = some o → o.cls ≠ .type "dict" → b ≠ N := fun e hn q => by rw [q, eN] at e; cases e; exact hn rfl
  obtain ⟨o, vs, file, tf, flags, tg, inF, text, tt, e1, e2, r⟩ := id B.hd
  obtain ⟨og, esg, epg, g1, g2, g3⟩ := id B.G.g
  obtain ⟨bm, ob, b1, b2, b3, b4⟩ := id B.G.b
  refine ⟨D, ⟨o, vs, file, tf, flags, tg, inF, text, tt, k _ _ (hcN e1 (by rw [e2]; decide)) e1, e2, r⟩, k _ _ (hcN B.tab nofun) B.tab, B.tri, ⟨⟨og, esg, epg, k _ _ B.gN g1, g2, g3⟩, bm, ob, b1, b2, k _ _ (B.bN bm b1) b3, b4⟩,
    fun b o hb hn e => k _ _ hn (B.keep b o hb hn e), by rw [S.1]; exact B.size, B.gN, B.bN, fun x hx => ⟨fun hm => ?_, (B.st x hx).2⟩, B.hit, fun x hx => ?_, fun x hx => ⟨k _ _ (hcN (B.fns x hx).1 (show Value.type "function" ≠ .type "dict" from by decide)) (B.fns x hx).1, CR.dict (B.fns x hx).2 B.d k⟩⟩
  · obtain ⟨c', e, r⟩ := (B.st x hx).1 hm
    exact ⟨c', e, CR.dict r B.d k⟩
  · obtain ⟨c', e, r⟩ := B.dn x hx
    exact ⟨c', e, CR.dict r B.d k⟩
theorem tri_one : ∀ {l : List Value}, TriplesOk l → ∀ q t, l[1]? ≠ some (.str q t)
  | [], _, _, _ => nofun
  | .int _ _ :: .int _ _ :: _ :: _, _, _, _ => nofun
/-- a method's code and function are made -/
theorem CB.made {pos : Pos} {qual : Str} {c' f : Addr} {fd : FuncData} {ps' : Array Value} (B : CB mg m h0 h N kvs c P ps0 ps ((pos, qual) :: todo) done fs) (F : AtFn h h' P ps ps' pos c' f fd qual) (hc : fd.code = .ref c')
    (hd : ∀ x ∈ todo ++ done, (decide (pos.line = x.1.line) && decide (pos.col = x.1.col)) = false) : CB mg m h0 h' N kvs c P ps0 ps' todo ((pos, qual) :: done) ((f, fd, qual) :: fs) := by
  have hP := B.tab
  have neP : ∀ {b : Addr} {o : Obj}, h.get? b = some o → o.cls ≠ .none → b ≠ P := fun e hn q => by rw [q, hP] at e; cases e; exact hn rfl
  have kr : ∀ {cd : Value} {q : Str}, CR h cd q → CR h' cd q := fun x =>
    CR.but x F.keep fun o vs e q => by
      rw [hP] at e; cases e; cases q
      intro q t
      rw [← Array.getElem?_toList]
      exact tri_one B.tri q t
  obtain ⟨es, ep, eN, pN⟩ := id B.d
  obtain ⟨o, vs, file, tf, flags, tg, inF, text, tt, e1, e2, e3⟩ := id B.hd
  have here := B.st _ (.head _)
  have ps_eq : m = true → ps' = ps := fun hm => F.hit (let ⟨c₂, e, _⟩ := here.1 hm; ⟨_, e⟩)
  have ps_new : m = false → ps' = ps ++ #[rawInt pos.line, rawInt pos.col, .ref c'] := fun hm => (F.miss (here.2 hm)).1
  have am : ∀ x ∈ todo ++ done, codeAmong x.1 ps'.toList = codeAmong x.1 ps.toList := fun x hx => by
    cases hm : m with
    | true => rw [ps_eq hm]
    | false =>
      rw [ps_new hm, show (ps ++ #[rawInt pos.line, rawInt pos.col, Value.ref c']).toList = ps.toList ++ [rawInt pos.line, rawInt pos.col, .ref c'] from by simp]
      exact codeAmong_other (hd x hx) _ B.tri
  refine ⟨⟨es, ep, F.keep _ _ (neP eN nofun) eN, pN⟩, ⟨o, vs, file, tf, flags, tg, inF, text, tt, F.keep _ _ (neP e1 (by rw [e2]; nofun)) e1, e2, e3⟩, F.tab, F.tri, B.G.keep hP F.keep, fun b o hb hn e => F.keep b o hb (B.keep b o hb hn e), Nat.le_trans B.size F.size, B.gN, B.bN, fun x hx => ⟨fun hm => ?_, fun hm => ?_⟩, fun hm => (ps_eq hm).trans (B.hit hm), fun x hx => ?_, fun x hx => ?_⟩
  · obtain ⟨c₂, e, r⟩ := (B.st x (.tail _ hx)).1 hm
    exact ⟨c₂, (am x (List.mem_append_left _ hx)).trans e, kr r⟩
  · exact (am x (List.mem_append_left _ hx)).trans ((B.st x (.tail _ hx)).2 hm)
  · rcases List.mem_cons.mp hx with rfl | hx
    · exact ⟨c', F.here, F.rec_⟩
    · obtain ⟨c₂, e, r⟩ := B.dn x hx
      exact ⟨c₂, (am x (List.mem_append_right _ hx)).trans e, kr r⟩
  · rcases List.mem_cons.mp hx with rfl | hx
    · exact ⟨F.fn, by rw [hc]; exact F.rec_⟩
    · exact ⟨F.keep _ _ (neP (B.fns x hx).1 nofun) (B.fns x hx).1, kr (B.fns x hx).2⟩
/-- an object more, and counted from there -/
theorem CB.base (B : CB mg m h0 h N kvs c P ps0 ps todo done fs) (k : ∀ b o, h.get? b = some o → h'.get? b = some o) : CB mg m h' h' N kvs c P ps ps todo done fs where
  d := let ⟨es, ep, e, p⟩ := B.d; ⟨es, ep, k _ _ e, p⟩
  hd := B.hd.keeps k
  tab := k _ _ B.tab
  tri := B.tri
  G := B.G.keeps k
  keep _ _ _ _ e := e
  size := Nat.le_refl _
  gN := B.gN
  bN := B.bN
  st x hx := ⟨fun hm => let ⟨c', e, r⟩ := (B.st x hx).1 hm; ⟨c', e, r.keeps k⟩, (B.st x hx).2⟩
  hit _ := rfl
  dn x hx := let ⟨c', e, r⟩ := B.dn x hx; ⟨c', e, r.keeps k⟩
  fns x hx := ⟨k _ _ (B.fns x hx).1, (B.fns x hx).2.keeps k⟩
end
end Mine
end
section
namespace Mine
open PySem PyProof.Rows PySem.Builtin
open PySem.W (CodeHd fnX)
noncomputable def clsStmt : Stmt := (bodyOf (stAt 1)).getD 0 (.Pass ⟨0, 0, 0, 0⟩)
noncomputable def cBody (s : Stmt) : List Stmt := if h : s.ctorIdx = 2 then @Stmt.ClassDef.elim (fun _ => List Stmt) s h (fun _ _ _ b _ _ _ _ _ _ _ => b) else []
noncomputable def cScope (s : Stmt) : Scope := if h : s.ctorIdx = 2 then @Stmt.ClassDef.elim (fun _ => Scope) s h (fun _ _ _ _ _ _ c _ _ _ _ => c) else scpOf s
noncomputable def cPos (s : Stmt) : Pos := if h : s.ctorIdx = 2 then @Stmt.ClassDef.elim (fun _ => Pos) s h (fun _ _ _ _ _ _ _ _ _ _ p => p)
  else if h : s.ctorIdx = 0 then @Stmt.FunctionDef.elim (fun _ => Pos) s h (fun _ _ _ _ _ _ _ _ _ p => p)
  else if h : s.ctorIdx = 5 then @Stmt.Assign.elim (fun _ => Pos) s h (fun _ _ p => p) else ⟨0, 0, 0, 0⟩
noncomputable abbrev cArgs (s : Stmt) : Arguments := argOf s
noncomputable def cst (i : Nat) : Stmt := (cBody clsStmt).getD i (.Pass ⟨0, 0, 0, 0⟩)
noncomputable abbrev kEnv (N cc fr cell : Addr) : Env := { scope := cScope clsStmt, locals := N, globals := mainGlobals, qual := "cmp_to_key.<locals>.K.", code := .ref cc, frame := some fr, builtins := builtinsNs, cells := [("mycmp", cell)] }
theorem cBody_eq : cBody clsStmt = [cst 0, cst 1, cst 2, cst 3, cst 4, cst 5, cst 6, cst 7, cst 8] := by kernel_rfl
section
variable {M : Model} {A : Around} {E : Value → Shared → Prop} {h0 h : Heap} {g : Array GenState} {d : Drawn} {t : Nat} {os : OsState} {mg : Str → Option Value} {m : Bool} {N c P cell fr : Addr} {kvs kvs' : List (Str × Value)} {ps0 ps : Array Value} {todo done : List (Pos × Str)} {fs : List (Addr × FuncData × Str)}
theorem cb_local {env : Env} {name : Str} {v : Value} {Q : Unit → Shared → Prop} (hN : env.locals = N) (B : CB mg m h0 h N kvs c P ps0 ps todo done fs) (hp : putK kvs name v = kvs') (hq : ∀ h', CB mg m h0 h' N kvs' c P ps0 ps todo done fs → Q () ⟨h', g, d, t + 1, os⟩) :
    wpAny M A (localSet env name v) Q E ⟨h, g, d, t, os⟩ := by
  unfold localSet
  rw [hN]
  obtain ⟨es, ep, e, _⟩ := id B.d
  refine wpAny_bind (wpAny_load (s := ⟨h, g, d, t, os⟩) e (wpAny_ite_true rfl ?_))
  exact d_set (s := ⟨h, g, d, t, os⟩) B.d fun h' D S => hq h' (B.set (hp ▸ D) S)
theorem cb_def {env : Env} {st : Stmt} {name qual : Str} {params : Arguments} {body : List Stmt} {scope : Scope} {pos : Pos} {clos : List (Str × Addr)} (kv2 : Addr → List (Str × Value)) {Q : Flow → Shared → Prop}
    (hst : st = .FunctionDef name params body [] none [] scope none name pos) (hN : env.locals = N) (hcode : env.code = .ref c) (hge : env.globals = mainGlobals)
    (hd0 : params.defaults = []) (hk0 : params.kw_defaults = []) (ha : annTrees params none env = []) (hcl : closureFor scope env = pure clos) (hqual : qualnameIn env name name = qual) (hdoc : docOf body = none)
    (hsto : ∀ v, storeName env name v = localSet env name v)
    (hput : ∀ f, putK kvs name (.ref f) = kv2 f)
    (hdis : ∀ x ∈ todo ++ done, (decide (pos.line = x.1.line) && decide (pos.col = x.1.col)) = false)
    (B : CB mg m h0 h N kvs c P ps0 ps ((pos, qual) :: todo) done fs)
    (hq : ∀ f c' ctv h' tk ps', t ≤ tk → CB mg m h0 h' N (kv2 f) c P ps0 ps' todo ((pos, qual) :: done) ((f, fnX name qual params body scope clos .none .none .none ((mg "__name__").getD .none) none (.ref c') ctv, qual) :: fs) → Q .next ⟨h', g, d, tk, os⟩) :
    wpAny M A (exec st env) Q E ⟨h, g, d, t, os⟩ := by
  subst hst
  refine PySem.W.nestDef_K hd0 hk0 ha ?_
  rw [hqual]
  have hin : codeAmong pos ps.toList = none ∨ ∃ c', codeAmong pos ps.toList = some (.ref c') ∧ CR h (.ref c') qual := by
    cases hm : m with
    | true => exact .inr ((B.st _ (.head _)).1 hm)
    | false => exact .inl ((B.st _ (.head _)).2 hm)
  refine make_fn hcl hge B.G hcode B.hd B.tab B.tri hin hdoc fun c' f ctv h1 tk ps' htk F => ?_
  rw [hsto]
  refine cb_local hN (B.made F rfl hdis) (hput f) fun h2 B2 => hq f c' ctv h2 _ ps' (Nat.le_succ_of_le htk) B2
end
end Mine
end
section
namespace Mine
open PySem PyProof.Rows PySem.Builtin
open PySem.W (CodeHd fnX)
noncomputable def fdName (s : Stmt) : Str := if h : s.ctorIdx = 0 then @Stmt.FunctionDef.elim (fun _ => Str) s h (fun x _ _ _ _ _ _ _ _ _ => x) else default
theorem dis_of {pos : Pos} {l : List (Pos × Str)} (h : (l.all fun x => !(decide (pos.line = x.1.line) && decide (pos.col = x.1.col))) = true) : ∀ x ∈ l, (decide (pos.line = x.1.line) && decide (pos.col = x.1.col)) = false :=
  fun x hx => by have := List.all_eq_true.mp h x hx; revert this; cases (decide (pos.line = x.1.line) && decide (pos.col = x.1.col)) <;> simp
noncomputable abbrev mq (i : Nat) : Str := "cmp_to_key.<locals>.K." ++ fdName (cst i)
noncomputable abbrev mtodo : List (Pos × Str) := [(cPos (cst 2), mq 2), (cPos (cst 3), mq 3), (cPos (cst 4), mq 4), (cPos (cst 5), mq 5), (cPos (cst 6), mq 6), (cPos (cst 7), mq 7)]
noncomputable abbrev mfd (mg : Str → Option Value) (i : Nat) (clos : List (Str × Addr)) (c' : Addr) (ctv : Value) : FuncData := fnX (fdName (cst i)) (mq i) (cArgs (cst i)) (bodyOf (cst i)) (cScope (cst i)) clos .none .none .none ((mg "__name__").getD .none) none (.ref c') ctv
section
variable {M : Model} {A : Around} {E : Value → Shared → Prop} {h0 h : Heap} {g : Array GenState} {d : Drawn} {t : Nat} {os : OsState} {mg : Str → Option Value} {m : Bool} {N c P cell fr : Addr} {ps0 ps : Array Value} {v0 q fl : Value}
theorem class_body {Q : Flow → Shared → Prop} (B : CB mg m h0 h N [("__module__", v0), ("__qualname__", q), ("__firstlineno__", fl)] c P ps0 ps mtodo [] [])
    (hq : ∀ h' tk ps' t1 t3 ls i0 f1 f2 f3 f4 f5 c0 c1 c2 c3 c4 c5 u0 u1 u2 u3 u4 u5, t ≤ tk →
      CB mg m h0 h' N [("__module__", .str "cpy313.functools" t1), ("__qualname__", q), ("__firstlineno__", fl), ("__slots__", .ref ls), ("__init__", .ref i0), ("__lt__", .ref f1), ("__gt__", .ref f2), ("__eq__", .ref f3), ("__le__", .ref f4), ("__ge__", .ref f5), ("__hash__", .none)] c P ps0 ps' [] mtodo.reverse
        [(f5, mfd mg 7 [("mycmp", cell)] c5 u5, mq 7), (f4, mfd mg 6 [("mycmp", cell)] c4 u4, mq 6), (f3, mfd mg 5 [("mycmp", cell)] c3 u3, mq 5), (f2, mfd mg 4 [("mycmp", cell)] c2 u2, mq 4), (f1, mfd mg 3 [("mycmp", cell)] c1 u1, mq 3), (i0, mfd mg 2 [] c0 u0, mq 2)] →
      h'.get? ls = some { cls := .type "list", data := .seq #[.str "obj" t3] } → Q .next ⟨h', g, d, tk, os⟩) :
    wpAny M A (execs (cBody clsStmt) (kEnv N c fr cell)) Q E ⟨h, g, d, t, os⟩ := by
  rw [cBody_eq]
  refine wpAny_execs_cons ?_
  show wpAny _ _ (exec (.Assign [.Name "__module__" _] (.Constant (.str "cpy313.functools") _ _) _) _) _ _ _
  refine wpAny_Assign_Name (wpAny_mkText ?_) (by kernel_rfl)
  rw [show ∀ v, storeName (kEnv N c fr cell) "__module__" v = localSet (kEnv N c fr cell) "__module__" v from fun v => by kernel_rfl]
  refine cb_local rfl B (by kernel_rfl) (kvs' := [("__module__", .str "cpy313.functools" t), ("__qualname__", q), ("__firstlineno__", fl)]) fun h1 B1 => ?_
  refine wpAny_execs_cons ?_
  show wpAny _ _ (exec (.Assign [.Name "__slots__" _] (.List [.Constant (.str "obj") _ _] _) _) _) _ _ _
  refine wpAny_Assign_Name ?_ (by kernel_rfl)
  rw [arm_eval_List]
  refine wpAny_bind (wpAny_standAt ?_)
  iterate 12 wp_step
  refine wpAny_pure ?_
  wp_delta
  refine wpAny_bind (wpAny_holding (wpAny_pure (wpAny_pure ?_)))
  unfold newList
  refine wpAny_newObj_type ?_ (by size_fits)
  have hls : (h1.push { cls := .type "list", data := .seq #[.str "obj" (t + 1 + 1)] }).get? h1.objs.size = some { cls := .type "list", data := .seq #[.str "obj" (t + 1 + 1)] } := Heap.get?_push_size _ rfl
  have k1 : ∀ b o, h1.get? b = some o → (h1.push { cls := .type "list", data := .seq #[.str "obj" (t + 1 + 1)] }).get? b = some o := fun b o e => Heap.get?_push_of_some _ e
  have z1 : h1.objs.size ≤ (h1.push { cls := .type "list", data := .seq #[.str "obj" (t + 1 + 1)] }).objs.size := by rw [Heap.size_push]; exact Nat.le_succ _
  have B2 := B1.base k1
  change wpAny _ _ (storeName (kEnv N c fr cell) "__slots__" (.ref h1.objs.size)) _ _ ⟨h1.push { cls := .type "list", data := .seq #[.str "obj" (t + 1 + 1)] }, g, d, t + 1 + 1 + 1, os⟩
  generalize h1.objs.size = ls at hls ⊢
  generalize h1.push _ = H at hls k1 z1 B2 ⊢
  rw [show ∀ v, storeName (kEnv N c fr cell) "__slots__" v = localSet (kEnv N c fr cell) "__slots__" v from fun v => by kernel_rfl]
  refine cb_local rfl B2 (by kernel_rfl) (kvs' := [("__module__", .str "cpy313.functools" t), ("__qualname__", q), ("__firstlineno__", fl), ("__slots__", .ref ls)]) fun h2 B3 => ?_
  refine wpAny_execs_cons ?_
  refine cb_def (clos := []) (name := fdName (cst 2)) (params := cArgs (cst 2)) (body := bodyOf (cst 2)) (scope := cScope (cst 2)) (fun i0 => [("__module__", .str "cpy313.functools" t), ("__qualname__", q), ("__firstlineno__", fl), ("__slots__", .ref ls), ("__init__", .ref i0)]) (by kernel_rfl) rfl rfl rfl (by kernel_rfl) (by kernel_rfl) (by kernel_rfl) (by kernel_rfl) (by kernel_rfl) (by kernel_rfl) (fun v => by kernel_rfl) (fun f => by kernel_rfl) (dis_of (by kernel_rfl)) B3 fun i0 c0 u0 h3 tk0 ps1 le0 B4 => ?_
  clear B3
  refine wpAny_execs_cons ?_
  refine cb_def (clos := [("mycmp", cell)]) (name := fdName (cst 3)) (params := cArgs (cst 3)) (body := bodyOf (cst 3)) (scope := cScope (cst 3)) (fun f1 => [("__module__", .str "cpy313.functools" t), ("__qualname__", q), ("__firstlineno__", fl), ("__slots__", .ref ls), ("__init__", .ref i0), ("__lt__", .ref f1)]) (by kernel_rfl) rfl rfl rfl (by kernel_rfl) (by kernel_rfl) (by kernel_rfl) (by kernel_rfl) (by kernel_rfl) (by kernel_rfl) (fun v => by kernel_rfl) (fun f => by kernel_rfl) (dis_of (by kernel_rfl)) B4 fun f1 c1 u1 h4 tk1 ps2 le1 B5 => ?_
  clear B4
  refine wpAny_execs_cons ?_
  refine cb_def (clos := [("mycmp", cell)]) (name := fdName (cst 4)) (params := cArgs (cst 4)) (body := bodyOf (cst 4)) (scope := cScope (cst 4)) (fun f2 => [("__module__", .str "cpy313.functools" t), ("__qualname__", q), ("__firstlineno__", fl), ("__slots__", .ref ls), ("__init__", .ref i0), ("__lt__", .ref f1), ("__gt__", .ref f2)]) (by kernel_rfl) rfl rfl rfl (by kernel_rfl) (by kernel_rfl) (by kernel_rfl) (by kernel_rfl) (by kernel_rfl) (by kernel_rfl) (fun v => by kernel_rfl) (fun f => by kernel_rfl) (dis_of (by kernel_rfl)) B5 fun f2 c2 u2 h5 tk2 ps3 le2 B6 => ?_
  clear B5
  refine wpAny_execs_cons ?_
  refine cb_def (clos := [("mycmp", cell)]) (name := fdName (cst 5)) (params := cArgs (cst 5)) (body := bodyOf (cst 5)) (scope := cScope (cst 5)) (fun f3 => [("__module__", .str "cpy313.functools" t), ("__qualname__", q), ("__firstlineno__", fl), ("__slots__", .ref ls), ("__init__", .ref i0), ("__lt__", .ref f1), ("__gt__", .ref f2), ("__eq__", .ref f3)]) (by kernel_rfl) rfl rfl rfl (by kernel_rfl) (by kernel_rfl) (by kernel_rfl) (by kernel_rfl) (by kernel_rfl) (by kernel_rfl) (fun v => by kernel_rfl) (fun f => by kernel_rfl) (dis_of (by kernel_rfl)) B6 fun f3 c3 u3 h6 tk3 ps4 le3 B7 => ?_
  clear B6
  refine wpAny_execs_cons ?_
  refine cb_def (clos := [("mycmp", cell)]) (name := fdName (cst 6)) (params := cArgs (cst 6)) (body := bodyOf (cst 6)) (scope := cScope (cst 6)) (fun f4 => [("__module__", .str "cpy313.functools" t), ("__qualname__", q), ("__firstlineno__", fl), ("__slots__", .ref ls), ("__init__", .ref i0), ("__lt__", .ref f1), ("__gt__", .ref f2), ("__eq__", .ref f3), ("__le__", .ref f4)]) (by kernel_rfl) rfl rfl rfl (by kernel_rfl) (by kernel_rfl) (by kernel_rfl) (by kernel_rfl) (by kernel_rfl) (by kernel_rfl) (fun v => by kernel_rfl) (fun f => by kernel_rfl) (dis_of (by kernel_rfl)) B7 fun f4 c4 u4 h7 tk4 ps5 le4 B8 => ?_
  clear B7
  refine wpAny_execs_cons ?_
  refine cb_def (clos := [("mycmp", cell)]) (name := fdName (cst 7)) (params := cArgs (cst 7)) (body := bodyOf (cst 7)) (scope := cScope (cst 7)) (fun f5 => [("__module__", .str "cpy313.functools" t), ("__qualname__", q), ("__firstlineno__", fl), ("__slots__", .ref ls), ("__init__", .ref i0), ("__lt__", .ref f1), ("__gt__", .ref f2), ("__eq__", .ref f3), ("__le__", .ref f4), ("__ge__", .ref f5)]) (by kernel_rfl) rfl rfl rfl (by kernel_rfl) (by kernel_rfl) (by kernel_rfl) (by kernel_rfl) (by kernel_rfl) (by kernel_rfl) (fun v => by kernel_rfl) (fun f => by kernel_rfl) (dis_of (by kernel_rfl)) B8 fun f5 c5 u5 h8 tk5 ps6 le5 B9 => ?_
  clear B8
  refine wpAny_execs_cons ?_
  show wpAny _ _ (exec (.Assign [.Name "__hash__" _] (.Constant .none _ _) _) _) _ _ _
  refine wpAny_Assign_Name (wpAny_pure ?_) (by kernel_rfl)
  rw [show ∀ v, storeName (kEnv N c fr cell) "__hash__" v = localSet (kEnv N c fr cell) "__hash__" v from fun v => by kernel_rfl]
  refine cb_local rfl B9 (by kernel_rfl) (kvs' := [("__module__", .str "cpy313.functools" t), ("__qualname__", q), ("__firstlineno__", fl), ("__slots__", .ref ls), ("__init__", .ref i0), ("__lt__", .ref f1), ("__gt__", .ref f2), ("__eq__", .ref f3), ("__le__", .ref f4), ("__ge__", .ref f5), ("__hash__", .none)]) fun h9 B10 => ?_
  refine wpAny_execs_nil ?_
  have lP : ls ≠ P := fun e => by have := B2.tab; rw [← e, hls] at this; cases this
  have lN : ls ≠ N := fun e => by
    obtain ⟨es, ep, q, _⟩ := B2.d
    rw [← e, hls] at q
    have := congrArg Obj.cls (Option.some.inj q)
    exact absurd (show Value.type "list" = .type "dict" from this) (by decide)
  refine hq h9 _ _ t _ ls i0 f1 f2 f3 f4 f5 c0 c1 c2 c3 c4 c5 u0 u1 u2 u3 u4 u5 (by omega) { B10 with keep := fun b o hb hn e => B10.keep b o hb hn (k1 _ _ (B1.keep b o hb hn e)), size := Nat.le_trans B1.size (Nat.le_trans z1 B10.size), hit := fun hm => (B10.hit hm).trans (B1.hit hm) } (B10.keep _ _ lP lN hls)
end
end Mine
end
section
set_option pp.maxSteps 2500
set_option pp.deepTerms false
set_option pp.deepTerms.threshold 14
namespace Mine
open PySem PyProof.Rows PySem.Builtin
open PySem.W (CodeHd fnX)
theorem cf_isT : isType (.type "type") = pure true := by kernel_rfl
noncomputable def QPrep (s : Shared) : Value → Shared → Prop := fun v s' => ∃ m, v = .ref m ∧ Lf s s' ∧ s'.heap.get? m = some { cls := .type "builtin_function_or_method", dict := none, data := .fields #[.builtin "type.__prepare__", .type "type"] }
noncomputable def QDict (s : Shared) : Value → Shared → Prop := fun v s' => ∃ N, v = .ref N ∧ Lf s s' ∧ s'.heap.get? N = some { cls := .type "dict", data := .dict #[] } ∧ s.heap.get? N = none
section
variable (prog : Program) (w : World) (s : Shared)
section
local macro_rules | `(tactic| x_close) => `(tactic| exact ⟨_, rfl, ⟨_, _, rfl, by omega, fun b o e => W.X.Mem.old (by assumption) b o e (Bool.or_true _)⟩, (W.X.Mem.at (by assumption) 0 _ _ rfl).trans (by kernel_rfl)⟩)
theorem run_prep (tk : Tok) : wpAny (model prog w) A0 (call (.builtin "type.__getattribute__") [.type "type", .str "__prepare__" tk]) (QPrep s) (fun _ _ => False) s := by
  x_run
end
section
local macro_rules | `(tactic| x_close) => `(tactic| exact ⟨_, rfl, ⟨_, _, rfl, by omega, fun b o e => W.X.Mem.old (by assumption) b o e (Bool.or_true _)⟩, W.X.Mem.at (by assumption) 0 _ _ rfl, (W.X.Mem.nw (by assumption) _ (.head _)).2⟩)
theorem run_dict {m : Addr} (a b : Value) (hm : s.heap.get? m = some (⟨.type "builtin_function_or_method", none, .fields #[.builtin "type.__prepare__", .type "type"], #[]⟩ : Obj)) : wpAny (model prog w) A0 (call (.ref m) [a, b]) (QDict s) (fun _ _ => False) s := by
  x_run
end
end
theorem cf_tga : typeLookup (.type "type") "__getattribute__" = pure (some (.builtin "type.__getattribute__")) := by kernel_rfl
theorem cf_ttype : typeOf (.type "type") = pure (.type "type") := by kernel_rfl
theorem cf_tgab : bindSpecial (.builtin "type.__getattribute__") (.type "type") = pure (.builtin "type.__getattribute__", [.type "type"]) := by kernel_rfl
theorem cf_dget : typeLookup (.type "dict") "__getitem__" = pure (some (.builtin "dict.__getitem__")) := by kernel_rfl
section
variable {prog : Program} {w : World} {A : Around} {E : Value → Shared → Prop} {h : Heap} {g : Array GenState} {d : Drawn} {t : Nat} {os : OsState} {mg : Str → Option Value} {m : Bool} {N c P cell fr : Addr} {ps0 ps : Array Value} {v0 q fl : Value}
theorem get_prep {Q : Option Value → Shared → Prop} (hA : ∀ Γ : Ctx, Γ.In A → Γ.In A0) (hq : ∀ v s', QPrep ⟨h, g, d, t + 1, os⟩ v s' → Q (some v) s') : wpAny (model prog w) A (getAttr? (.type "type") "__prepare__") Q E ⟨h, g, d, t, os⟩ := by
  unfold getAttr? getAttrBy? getAttrBy
  refine wpAny_bind (wpAny_bind (wpAny_fresh' (wpAny_pure ?_)))
  refine wpAny_bind (wpAny_attempt (wpAny_holding (wpAny_bind (wpAny_of_eq cf_ttype (wpAny_bind (wpAny_of_eq cf_tga ?_))))))
  try wp_delta
  refine wpAny_ite_false rfl ?_
  unfold getAttrByItsOwn hookBefore callGetattribute boundAndCalled
  refine wpAny_bind (wpAny_of_eq (show (if onTheHeap (.type "type") then typeLookup (.type "type") "__getattr__" else pure none) = pure none from rfl) ?_)
  refine wpAny_bind (wpAny_attempt (wpAny_holding ?_))
  show wpAny _ _ (bindSpecial (.builtin "type.__getattribute__") (.type "type") >>= _) _ _ _
  refine wpAny_bind (wpAny_of_eq cf_tgab ?_)
  refine wpAny_mono (wpAny_in hA (run_prep prog w ⟨h, g, d, t + 1, os⟩ t)) (fun v s' hv => ?_) fun _ _ z => z.elim
  obtain ⟨m, rfl, hr⟩ := id hv
  exact wpAny_pure (wpAny_pure (hq _ s' hv))
end
end Mine
end
section
namespace Mine
open PySem PyProof.Rows PySem.Builtin
open PySem.W (CodeHd fnX)
section
variable {mg : Str → Option Value} {h : Heap} {N cc Pc : Addr} {psc : Array Value}
theorem CB.first (D : DI h N []) (hd : CodeHd h cc Pc) (hp : h.get? Pc = some (PySem.W.tabObj #[])) (G : GB mg h) (gN : mainGlobals ≠ N) (bN : ∀ bm, mg "__builtins__" = some (.ref bm) → bm ≠ N) (todo : List (Pos × Str)) : CB mg false h h N [] cc Pc #[] #[] todo [] [] where
  d := D
  hd := hd
  tab := hp
  tri := trivial
  G := G
  keep _ _ _ _ e := e
  size := Nat.le_refl _
  gN := gN
  bN := bN
  st x _ := ⟨fun e => (by cases e), fun _ => rfl⟩
  hit _ := rfl
  dn x hx := by cases hx
  fns x hx := by cases hx
theorem CB.again (D : DI h N []) (hd : CodeHd h cc Pc) (hp : h.get? Pc = some (PySem.W.tabObj psc)) (ht : TriplesOk psc.toList) (G : GB mg h) (gN : mainGlobals ≠ N) (bN : ∀ bm, mg "__builtins__" = some (.ref bm) → bm ≠ N) {todo : List (Pos × Str)} (st : TabSt true h psc todo) : CB mg true h h N [] cc Pc psc psc todo [] [] where
  d := D
  hd := hd
  tab := hp
  tri := ht
  G := G
  keep _ _ _ _ e := e
  size := Nat.le_refl _
  gN := gN
  bN := bN
  st := st
  hit _ := rfl
  dn x hx := by cases hx
  fns x hx := by cases hx
theorem TabSt.keeps {h' : Heap} {m : Bool} {todo : List (Pos × Str)} (s : TabSt m h psc todo) (k : ∀ b o, h.get? b = some o → h'.get? b = some o) : TabSt m h' psc todo :=
  fun x hx => ⟨fun e => let ⟨c', q, r⟩ := (s x hx).1 e; ⟨c', q, r.keeps k⟩, (s x hx).2⟩
end
end Mine
end
section
set_option maxHeartbeats 4000000
set_option pp.maxSteps 2500
set_option pp.deepTerms false
set_option pp.deepTerms.threshold 14
namespace Mine
open PySem PyProof.Rows PySem.Builtin
open PySem.W (CodeHd fnX)
theorem NoLimit.but {h h' : Heap} {P : Addr} {ps : Array Value} (x : h.NoLimit) (hp : h.get? P = some (PySem.W.tabObj ps)) (k : ∀ b o, b ≠ P → h.get? b = some o → h'.get? b = some o) : h'.NoLimit := by
  obtain ⟨mc, ⟨o, es, ep, e, e2, r⟩, n⟩ := x
  exact ⟨mc, ⟨o, es, ep, k _ _ (fun q => by rw [q, hp] at e; cases e; cases e2) e, e2, r⟩, n⟩
theorem neT {h : Heap} {a P : Addr} {o : Obj} {ps : Array Value} (e : h.get? a = some o) (hp : h.get? P = some (PySem.W.tabObj ps)) (hn : o.cls ≠ .none) : a ≠ P := fun q => by rw [q, hp] at e; cases e; exact hn rfl
theorem neD {h : Heap} {a N : Addr} {o : Obj} {kvs : List (Str × Value)} (e : h.get? a = some o) (D : DI h N kvs) (hn : o.cls ≠ .type "dict") : a ≠ N := fun q => by
  obtain ⟨es, ep, g, _⟩ := D
  rw [q, g] at e; cases e; exact hn rfl
/-- no package of tables is loaded -/
noncomputable def NoTp (h : Heap) : Prop := ∃ mc, h.Ns cStatics mc ∧ mc ("thirdparty.any" : Str) = none
theorem NoTp.looks {prog : Program} {w : World} {h : Heap} (x : NoTp h) (C : Addr) : PySem.W.Looks (model prog w) h (opaqueClassAbove (.ref C)) none := fun A Q E s k q => by
  obtain ⟨mc, ⟨o', es, ep, e, r⟩, n⟩ := x
  unfold opaqueClassAbove anyOpaqueLoaded
  try wp_delta
  refine wpAny_bind (wpAny_bind (wpAny_nsGet (s := s) ⟨o', es, ep, k _ _ e, r⟩ (wpAny_pure ?_)))
  rw [n]
  exact wpAny_ite_true rfl (wpAny_pure q)
theorem NoTp.but {h h' : Heap} (x : NoTp h) (k : ∀ o, h.get? cStatics = some o → (∀ vs, o.data ≠ .fields vs) → True → h'.get? cStatics = some o) : NoTp h' := by
  obtain ⟨mc, ⟨o', es, ep, e, r⟩, n⟩ := x
  exact ⟨mc, ⟨_, es, ep, k _ e (by rw [r.1]; exact nofun) trivial, r⟩, n⟩
theorem neFl {h : Heap} {a b : Addr} {o : Obj} {ps : Array Value} (e : h.get? a = some o) (t : h.get? b = some (PySem.W.tabObj ps)) (n : ∀ vs, o.data ≠ .fields vs) : a ≠ b := fun q => by
  rw [q, t] at e; cases e; exact n _ rfl
theorem cb_localS {M : Model} {A : Around} {E : Value → Shared → Prop} {h0 h : Heap} {g : Array GenState} {d : Drawn} {t : Nat} {os : OsState} {mg : Str → Option Value} {m : Bool} {N c P : Addr} {kvs kvs' : List (Str × Value)} {ps0 ps : Array Value} {todo done : List (Pos × Str)} {fs : List (Addr × FuncData × Str)} {env : Env} {name : Str} {v : Value} {Q : Unit → Shared → Prop} (hN : env.locals = N) (B : CB mg m h0 h N kvs c P ps0 ps todo done fs) (hp : putK kvs name v = kvs') (hq : ∀ h', CB mg m h0 h' N kvs' c P ps0 ps todo done fs → Heap.SameBut N h h' → Q () ⟨h', g, d, t + 1, os⟩) :
    wpAny M A (localSet env name v) Q E ⟨h, g, d, t, os⟩ := by
  unfold localSet
  rw [hN]
  obtain ⟨es, ep, e, _⟩ := id B.d
  refine wpAny_bind (wpAny_load (s := ⟨h, g, d, t, os⟩) e (wpAny_ite_true rfl ?_))
  exact d_set (s := ⟨h, g, d, t, os⟩) B.d fun h' D S => hq h' (B.set (hp ▸ D) S) S
theorem load_name {M : Model} {A : Around} {E : Value → Shared → Prop} {h : Heap} {g : Array GenState} {d : Drawn} {t : Nat} {os : OsState} {mg : Str → Option Value} {N cc fr cell : Addr} {kvs : List (Str × Value)} {nameV : Value} {Q : Value → Shared → Prop}
    (D : DI h N kvs) (hl : look kvs "__name__" = none) (hg : h.Ns mainGlobals mg) (hnm : mg "__name__" = some nameV) (hq : Q nameV ⟨h, g, d, t, os⟩) : wpAny M A (loadName (kEnv N cc fr cell) "__name__") Q E ⟨h, g, d, t, os⟩ := by
  obtain ⟨es, ep, e, _⟩ := id D
  have hk : (kEnv N cc fr cell).kindOf "__name__" = none := by kernel_rfl
  have hb : (kEnv N cc fr cell).blockKind = .class := by kernel_rfl
  unfold loadName
  refine wpAny_ite_false (by kernel_rfl) ?_
  rw [hk, hb]
  try wp_delta
  refine wpAny_ite_false (by kernel_rfl) ?_
  try wp_delta
  unfold localGet
  refine wpAny_bind (wpAny_bind (wpAny_load (s := ⟨h, g, d, t, os⟩) e (wpAny_ite_true rfl ?_)))
  refine d_get' (s := ⟨h, g, d, t, os⟩) D hl ?_
  try wp_delta
  unfold loadGlobal
  refine wpAny_bind (wpAny_nsGet (s := ⟨h, g, d, t, os⟩) hg ?_)
  rw [hnm]
  exact wpAny_pure hq
/-- what the class is made of -/
structure KP where
  N : Addr
  bT : Addr
  t0 : Tok
  t2 : Tok
  t1 : Tok
  fl : Value
  ls : Addr
  i0 : Addr
  f1 : Addr
  f2 : Addr
  f3 : Addr
  f4 : Addr
  f5 : Addr
  st : Addr
  md : Addr
  t4 : Tok
  c0 : Addr
  c1 : Addr
  u0 : Value
  u1 : Value
noncomputable def KP.kvs (p : KP) : List (Str × Value) := kvs2 (.str "cpy313.functools" p.t1) p.fl p.ls p.i0 p.f1 p.f2 p.f3 p.f4 p.f5 p.st p.md
noncomputable abbrev mdO (t : Tok) (C : Addr) : Obj := { cls := .type "member_descriptor", data := .fields #[.str "obj" t, .ref C, .builtin "proto.slot", .builtin "proto.slot#set", .int 0 0] }
noncomputable abbrev KP.d0 (p : KP) (mg : Str → Option Value) : FuncData := mfd mg 2 [] p.c0 p.u0
noncomputable abbrev KP.d1 (p : KP) (mg : Str → Option Value) (cell : Addr) : FuncData := mfd mg 3 [("mycmp", cell)] p.c1 p.u1
structure KC (mg : Str → Option Value) (h h' : Heap) (cell C : Addr) (p : KP) : Prop where
  nN : h.get? p.N = none
  nC : h.get? C = none
  cls : h'.get? C = some (clsObj (cdK C p.N) (slK p.bT p.t0 p.t2))
  dct : DI h' p.N p.kvs
  mem : h'.get? p.md = some (mdO p.t4 C)
  ini : h'.get? p.i0 = some (fnO (p.d0 mg))
  rec0 : CR h' (.ref p.c0) (mq 2)
  lt : h'.get? p.f1 = some (fnO (p.d1 mg cell))
  rec1 : CR h' (.ref p.c1) (mq 3)
/-- what building the class leaves -/
structure Built (mg : Str → Option Value) (m : Bool) (h h' : Heap) (pos : Pos) (P0 : Addr) (ps0 : Array Value) (cell C : Addr) : Prop where
  keep : ∀ b o, b ≠ P0 → h.get? b = some o → h'.get? b = some o
  size : h.objs.size ≤ h'.objs.size
  tab : ∃ ps0' cc Pc psc, h'.get? P0 = some (PySem.W.tabObj ps0') ∧ TriplesOk ps0'.toList ∧ (m = true → ps0' = ps0) ∧ (m = false → ps0' = ps0 ++ #[rawInt pos.line, rawInt pos.col, .ref cc]) ∧ codeAmong pos ps0'.toList = some (.ref cc) ∧ CR h' (.ref cc) "cmp_to_key.<locals>.K" ∧
    CodeHd h' cc Pc ∧ h'.get? Pc = some (PySem.W.tabObj psc) ∧ TriplesOk psc.toList ∧ TabSt true h' psc mtodo ∧ Pc ≠ P0 ∧ 100 ≤ Pc
  cls : ∃ p, KC mg h h' cell C p
section
variable {prog : Program} {w : World} {A : Around} {E : Value → Shared → Prop} {h : Heap} {g : Array GenState} {d : Drawn} {t : Nat} {os : OsState} {mg : Str → Option Value} {m : Bool} {N c P cell fr : Addr} {ps0 ps : Array Value} {v0 q fl : Value}
theorem build_class {Q : Value → Shared → Prop} {env : Env} {pos : Pos} {sts : List Str} {fln : Nat} {c0 P0 : Addr} {ps0 : Array Value} {nameV : Value} (hh : A.handled = none) (hdp : A.depth ≤ 400) (hu : A.units ≤ 4000) (tp : NoTp h) (h100 : 100 ≤ h.objs.size)
    (hsm : ∃ o, h.get? sysModules = some o) (hcode : env.code = .ref c0) (hd : CodeHd h c0 P0) (hp : h.get? P0 = some (PySem.W.tabObj ps0)) (ht : TriplesOk ps0.toList) (G : GB mg h) (hnm : mg "__name__" = some nameV)
    (hge : env.globals = mainGlobals) (hclo : closureFor (cScope clsStmt) env = pure [(("mycmp" : Str), cell)]) (hlim : h.NoLimit)
    (hmode : (m = false ∧ codeAmong pos ps0.toList = none) ∨ (m = true ∧ ∃ cc Pc psc, codeAmong pos ps0.toList = some (.ref cc) ∧ CR h (.ref cc) "cmp_to_key.<locals>.K" ∧ CodeHd h cc Pc ∧ h.get? Pc = some (PySem.W.tabObj psc) ∧ TriplesOk psc.toList ∧ TabSt true h psc mtodo ∧ Pc ≠ P0 ∧ 100 ≤ Pc))
    (hq : ∀ C h' tk, t ≤ tk → Built mg m h h' pos P0 ps0 cell C → Q (.ref C) ⟨h', g, d, tk, os⟩) :
    wpAny (model prog w) A (buildClass "K" "cmp_to_key.<locals>.K" [.type "object"] [] (cBody clsStmt) (cScope clsStmt) ["obj"] fln env pos) Q E ⟨h, g, d, t, os⟩ := by
  have hA := inA0 hh (Nat.le_trans hdp (by decide)) (Nat.le_trans hu (by decide))
  have hroom : A.depth < recursionLimit := Nat.lt_of_le_of_lt hdp (by decide)
  unfold buildClass
  refine wpAny_bind ?_
  unfold newTuple
  refine wpAny_newObj_type ?_ (by size_fits)
  have hb : (h.push { cls := .type "tuple", data := .seq #[.type "object"] }).get? h.objs.size = some { cls := .type "tuple", data := .seq #[.type "object"] } := Heap.get?_push_size _ rfl
  have k1 : ∀ b o, h.get? b = some o → (h.push { cls := .type "tuple", data := .seq #[.type "object"] }).get? b = some o := fun b o e => Heap.get?_push_of_some _ e
  have z1 : h.objs.size ≤ (h.push { cls := .type "tuple", data := .seq #[.type "object"] }).objs.size := by rw [Heap.size_push]; exact Nat.le_succ _
  change wpAny _ _ _ _ _ ⟨h.push { cls := .type "tuple", data := .seq #[.type "object"] }, g, d, t, os⟩
  generalize hbE : h.objs.size = bT at hb ⊢
  generalize h.push _ = h1 at hb k1 z1 ⊢
  refine wpAny_bind (for_cons ?_)
  refine wpAny_bind (wpAny_pure ?_)
  refine wpAny_ite_true rfl ?_
  refine wpAny_ite_false (by kernel_rfl) ?_
  refine wpAny_pure (for_nil ?_)
  wp_delta
  refine wpAny_bind (wpAny_of_eq cf_tobj ?_)
  try wp_delta
  refine wpAny_bind (wpAny_of_eq cf_isT ?_)
  refine wpAny_ite_true rfl ?_
  refine wpAny_bind (for_cons ?_)
  refine wpAny_bind (wpAny_of_eq cf_tobj ?_)
  refine wpAny_bind (wpAny_of_eq cf_sub1 ?_)
  refine wpAny_ite_true rfl ?_
  refine wpAny_pure (for_nil ?_)
  try wp_delta
  refine wpAny_bind (wpAny_mkText ?_)
  try wp_delta
  refine wpAny_ite_false rfl ?_
  refine wpAny_bind (wpAny_pure ?_)
  try wp_delta
  refine wpAny_holding ?_
  refine wpAny_bind (get_prep hA fun v s1 hv => ?_)
  obtain ⟨pm, rfl, ⟨h2, tk2, rfl, l2, k2⟩, hpm⟩ := hv
  try wp_delta
  refine wpAny_bind (wpAny_mono (wpAny_in hA (run_dict prog w ⟨h2, g, d, tk2, os⟩ _ _ hpm)) (fun v s1 hv => ?_) fun _ _ z => z.elim)
  obtain ⟨N, rfl, ⟨h3, tk3, rfl, l3, k3⟩, hN, nN⟩ := hv
  try wp_delta
  have nNm : N ≠ sysModules := fun e => by
    obtain ⟨o, ho⟩ := hsm
    rw [e, k2 _ _ (k1 _ _ ho)] at nN
    cases nN
  unfold notTheModulesDict
  refine wpAny_bind (wpAny_ite_false (by simp [nNm]) (wpAny_pure ?_))
  have hTN : ∀ tk', (⟨h3, g, d, tk', os⟩ : Shared).TypeIs (.ref N) "dict" := fun _ => ⟨_, hN, rfl⟩
  refine wpAny_bind (wpAny_specialOf (hTN _) cf_dget ?_)
  try wp_delta
  refine wpAny_ite_false rfl ?_
  refine wpAny_holding ?_
  try wp_delta
  refine wpAny_ite_false (by kernel_rfl) ?_
  refine wpAny_bind (wpAny_pure ?_)
  try wp_delta
  refine wpAny_ite_false (by kernel_rfl) ?_
  refine wpAny_bind (wpAny_pure ?_)
  try wp_delta
  have k13 : ∀ b o, h.get? b = some o → h3.get? b = some o := fun b o e => k3 _ _ (k2 _ _ (k1 _ _ e))
  refine wpAny_bind (class_code hcode (hd.keeps k13) (k13 _ _ hp) ht ?_ fun cc h4 tk4 ps4 htk4 C => ?_)
  · rcases hmode with ⟨_, e⟩ | ⟨_, cc, Pc, psc, e, r, _⟩
    · exact .inl e
    · exact .inr ⟨cc, e, r.keeps k13⟩
  have G4 : GB mg h4 := (G.keeps k13).keep (k13 _ _ hp) C.keep
  obtain ⟨bm, ob, hbm, hne0, hbo, hcls, hdict, hdata⟩ := id G4.b
  rw [hge]
  refine wpAny_bind (wpAny_builtinsFor (s := ⟨h4, g, d, tk4, os⟩) G4.g hbm hne0 hbo hcls hdict hdata ?_)
  unfold newBodyFrame
  refine wpAny_bind (wpAny_bind (wpAny_nsGet (s := ⟨h4, g, d, tk4, os⟩) G4.g (wpAny_alloc' ?_)))
  refine wpAny_bind (wpAny_of_eq hclo ?_)
  try wp_delta
  rw [show ({ scope := cScope clsStmt, locals := N, globals := mainGlobals, cells := (Option.map (fun x => (("__class__" : Str), x)) (none : Option Addr)).toList ++ (Option.map (fun x => (("__classdict__" : Str), x)) (none : Option Addr)).toList ++ [(("mycmp" : Str), cell)], qual := ("cmp_to_key.<locals>.K" : Str) ++ ("." : Str), code := .ref cc, frame := some h4.objs.size, builtins := builtinsNs } : Env) = kEnv N cc h4.objs.size cell from by kernel_rfl]
  have k35 : ∀ b o, b ≠ P0 → h3.get? b = some o → (h4.push { cls := .type "frame", slots := #[some (.ref cc), some (.ref mainGlobals), some (.ref N), none, some ((mg "__name__").getD .none), none, some (.ref builtinsNs)] }).get? b = some o := fun b o hb e => Heap.get?_push_of_some _ (C.keep b o hb e)
  have k45 : ∀ b o, h4.get? b = some o → (h4.push { cls := .type "frame", slots := #[some (.ref cc), some (.ref mainGlobals), some (.ref N), none, some ((mg "__name__").getD .none), none, some (.ref builtinsNs)] }).get? b = some o := fun b o e => Heap.get?_push_of_some _ e
  have z45 : h4.objs.size ≤ (h4.push { cls := .type "frame", slots := #[some (.ref cc), some (.ref mainGlobals), some (.ref N), none, some ((mg "__name__").getD .none), none, some (.ref builtinsNs)] }).objs.size := by rw [Heap.size_push]; exact Nat.le_succ _
  change wpAny _ _ _ _ _ ⟨h4.push { cls := .type "frame", slots := #[some (.ref cc), some (.ref mainGlobals), some (.ref N), none, some ((mg "__name__").getD .none), none, some (.ref builtinsNs)] }, g, d, tk4, os⟩
  generalize h4.objs.size = fr at z45 ⊢
  generalize h4.push _ = h5 at k35 k45 z45 ⊢
  have hP3 := k13 _ _ hp
  have NP : N ≠ P0 := fun e => by rw [e, hP3] at hN; cases hN
  have D5 : DI h5 N [] := ⟨#[], 0, k35 _ _ NP hN, .nil⟩
  have hB5 : ∃ Pc psc, CB mg m h5 h5 N [] cc Pc psc psc mtodo [] [] ∧ (m = true → h.get? Pc = some (PySem.W.tabObj psc)) ∧ (m = false → h.get? Pc = none) ∧ Pc ≠ P0 ∧ 100 ≤ Pc := by
    have gN : mainGlobals ≠ N := fun e => by
      obtain ⟨o, es, ep, q, _⟩ := G.g
      rw [e] at q
      rw [k2 _ _ (k1 _ _ q)] at nN; cases nN
    have bN : ∀ bm, mg "__builtins__" = some (.ref bm) → bm ≠ N := fun bm' e q => by
      obtain ⟨bm, o, e1, _, e3, _⟩ := G.b
      rw [e1] at e; cases e
      rw [q] at e3
      rw [k2 _ _ (k1 _ _ e3)] at nN; cases nN
    rcases hmode with ⟨rfl, hm⟩ | ⟨rfl, cc', Pc, psc, hhi, hr, hcd, hpc, htc, hst, hne, hlo⟩
    · obtain ⟨_, _, Pc, q0, q1, q2⟩ := C.miss hm
      refine ⟨Pc, #[], CB.first D5 (q1.keeps k45) (k45 _ _ q2) (G4.keeps k45) gN bN _, nofun, fun _ => ?_, fun e => ?_, ?_⟩
      · cases e : h.get? Pc with
        | none => rfl
        | some o => exact absurd (Heap.lt_size (k13 _ _ e)) (Nat.not_lt.mpr q0)
      · rw [e] at q0
        exact absurd (Heap.lt_size hP3) (Nat.not_lt.mpr q0)
      · have := Heap.lt_size (k3 _ _ (k2 _ _ hb))
        rw [hbE] at h100
        exact Nat.le_trans h100 (Nat.le_trans (Nat.le_of_lt this) q0)
    · obtain ⟨e4, _⟩ := C.hit ⟨_, hhi⟩
      subst e4
      have e5 := C.here
      rw [(C.hit ⟨_, hhi⟩).2, hhi] at e5
      cases e5
      have kk : ∀ b o, h.get? b = some o → h5.get? b = some o := fun b o e => k45 _ _ (k13 _ _ e)
      exact ⟨Pc, psc, CB.again D5 (hcd.keeps kk) (kk _ _ hpc) htc (G4.keeps k45) gN bN (hst.keeps kk), fun _ => hpc, nofun, hne, hlo⟩
  obtain ⟨Pc, psc, B5, hPt, hPf, hPP, hPlo⟩ := hB5
  refine wpAny_holding ?_
  have lim5 : h5.NoLimit := NoLimit.but (hlim.keeps k13) hP3 k35
  refine wpAny_bind (wpAny_enterFrame (s := ⟨h5, g, d, tk4, os⟩) lim5 hroom ?_)
  refine wpAny_bind (wpAny_onRaise (wpAny_bind (load_name D5 rfl B5.G.g hnm ?_)))
  rw [show ∀ v, storeName (kEnv N cc fr cell) "__module__" v = localSet (kEnv N cc fr cell) "__module__" v from fun v => by kernel_rfl]
  refine wpAny_bind (cb_local rfl B5 rfl fun h6 B6 => ?_)
  refine wpAny_bind (wpAny_mkText ?_)
  rw [show ∀ v, storeName (kEnv N cc fr cell) "__qualname__" v = localSet (kEnv N cc fr cell) "__qualname__" v from fun v => by kernel_rfl]
  refine wpAny_bind (cb_local rfl B6 (by kernel_rfl) (kvs' := [("__module__", nameV), ("__qualname__", .str "cmp_to_key.<locals>.K" tk4.succ)]) fun h7 B7 => ?_)
  refine wpAny_bind (wpAny_mkInt ?_)
  rw [show ∀ v, storeName (kEnv N cc fr cell) "__firstlineno__" v = localSet (kEnv N cc fr cell) "__firstlineno__" v from fun v => by kernel_rfl]
  refine wpAny_bind (cb_local rfl B7 (by kernel_rfl) (kvs' := [("__module__", nameV), ("__qualname__", .str "cmp_to_key.<locals>.K" tk4.succ), ("__firstlineno__", .int fln (tk4 + 1 + 1 + 1))]) fun h8 B8 => ?_)
  refine wpAny_pure ?_
  try wp_delta
  refine wpAny_bind (wpAny_run (codeAny_body (by kernel_rfl) (by kernel_rfl) (class_body B8 fun h9 tk9 ps9 t1 t3 ls i0 f1 f2 f3 f4 f5 c0 c1 c2 c3 c4 c5 u0 u1 u2 u3 u4 u5 htk9 B9 hls => ?_)))
  show wpAny _ _ _ _ _ _
  refine wpAny_bind (wpAny_onRaise (wpAny_bind (wpAny_mkStrs fun sts => wpAny_bind (wpAny_newObjAsIs_type ?_))))
  have hst : (h9.push { cls := .type "tuple", data := .seq sts.toArray }).get? h9.objs.size = some { cls := .type "tuple", data := .seq sts.toArray } := Heap.get?_push_size _ rfl
  have k90 : ∀ b o, h9.get? b = some o → (h9.push { cls := .type "tuple", data := .seq sts.toArray }).get? b = some o := fun b o e => Heap.get?_push_of_some _ e
  have z90 : (h9.push { cls := .type "tuple", data := .seq sts.toArray }).objs.size = h9.objs.size + 1 := Heap.size_push ..
  have B10 := B9.base k90
  change wpAny _ _ (storeName (kEnv N cc fr cell) "__static_attributes__" (.ref h9.objs.size) >>= _) _ _ ⟨h9.push { cls := .type "tuple", data := .seq sts.toArray }, g, d, tk9 + 1, os⟩
  generalize h9.objs.size = st at hst z90 ⊢
  generalize h9.push _ = hB at hst k90 z90 B10 ⊢
  rw [show ∀ v, storeName (kEnv N cc fr cell) "__static_attributes__" v = localSet (kEnv N cc fr cell) "__static_attributes__" v from fun v => by kernel_rfl]
  refine wpAny_bind (cb_localS rfl B10 (by kernel_rfl) (kvs' := kvs0 (.str "cpy313.functools" t1) (.str "cmp_to_key.<locals>.K" tk4.succ) (.int fln (tk4 + 1 + 1 + 1)) ls i0 f1 f2 f3 f4 f5 st) fun hC BC1 SC => ?_)
  refine wpAny_pure ?_
  try wp_delta
  refine wpAny_ite_false rfl ?_
  try wp_delta
  have kA : ∀ b o, b ≠ Pc → b ≠ N → h5.get? b = some o → hC.get? b = some o := fun b o hb hn e => BC1.keep b o hb hn (k90 _ _ (B9.keep b o hb hn e))
  have hbC : hC.get? bT = some { cls := .type "tuple", data := .seq #[.type "object"] } := by
    have e3 := k3 _ _ (k2 _ _ hb)
    have e5 := k35 _ _ (neT e3 hP3 nofun) e3
    exact kA _ _ (neT e5 B5.tab nofun) (neD e5 D5 (show Value.type "tuple" ≠ .type "dict" by decide)) e5
  have hlsC : hC.get? ls = some { cls := .type "list", data := .seq #[.str "obj" t3] } := by
    have eB := k90 _ _ hls
    exact BC1.keep _ _ (neT eB B10.tab nofun) (neD eB B10.d (show Value.type "list" ≠ .type "dict" by decide)) eB
  have hstC : hC.get? st = some { cls := .type "tuple", data := .seq sts.toArray } := BC1.keep _ _ (neT hst B10.tab nofun) (neD hst B10.d (show Value.type "tuple" ≠ .type "dict" by decide)) hst
  have tpC : NoTp hC := by
    refine tp.but fun o e he hcl => ?_
    have e3 := k13 _ _ e
    have e5 := k35 _ _ (neFl e3 hP3 he) e3
    refine kA _ _ (neFl e5 B5.tab he) (fun q => ?_) e5
    rw [q] at e
    rw [k2 _ _ (k1 _ _ e)] at nN; cases nN
  have tl : t ≤ tk9 + 1 + 1 := by
    have q1 : t + 1 + 1 ≤ tk2 := l2
    have q2 : tk2 ≤ tk3 := l3
    have q3 : tk3 ≤ tk4 := htk4
    have q4 : tk4 + 5 ≤ tk9 := htk9
    omega
  refine wpAny_bind (call_type hbC BC1.d nNm hlsC ⟨st, _, hstC, by rw [SC.1, z90]; exact Nat.le_refl _⟩ hh hdp hu (fun C => tpC.looks C) ⟨_, _, rfl⟩ (fun f hf => ?_) ⟨_, hstC, rfl⟩ fun s' C2 N2 md t4 hL hB2 hmd => ?_)
  · simp only [List.mem_cons, List.not_mem_nil, or_false] at hf
    rcases hf with rfl | rfl | rfl | rfl | rfl | rfl
    · exact ⟨_, (BC1.fns _ (.tail _ (.tail _ (.tail _ (.tail _ (.tail _ (.head _))))))).1, rfl⟩
    · exact ⟨_, (BC1.fns _ (.tail _ (.tail _ (.tail _ (.tail _ (.head _)))))).1, rfl⟩
    · exact ⟨_, (BC1.fns _ (.tail _ (.tail _ (.tail _ (.head _))))).1, rfl⟩
    · exact ⟨_, (BC1.fns _ (.tail _ (.tail _ (.head _)))).1, rfl⟩
    · exact ⟨_, (BC1.fns _ (.tail _ (.head _))).1, rfl⟩
    · exact ⟨_, (BC1.fns _ (.head _)).1, rfl⟩
  obtain ⟨h', tk', rfl, lk, kL⟩ := hL
  refine wpAny_pure (hq C2 h' tk' (Nat.le_trans tl lk) ?_)
  have hccP : CR h' (.ref cc) "cmp_to_key.<locals>.K" := by
    obtain ⟨o, vs, file, tf, flags, tg, inF, text, tt, e1, e2, r⟩ := id B5.hd
    obtain ⟨c₂, o2, vs2, t2, q, e, r2⟩ := C.rec_
    cases q
    have e5 := k45 _ _ e
    rw [e1] at e5; cases e5
    exact ⟨_, o, vs2, t2, rfl, kL _ _ (kA _ _ r.2.2.2.2.2.2.2 (neD e1 D5 (by rw [e2]; decide)) e1), r2⟩
  have f1C := BC1.fns _ (.tail _ (.tail _ (.tail _ (.tail _ (.head _)))))
  have i0C := BC1.fns _ (.tail _ (.tail _ (.tail _ (.tail _ (.tail _ (.head _))))))
  have hkeep : ∀ b o, b ≠ P0 → h.get? b = some o → hC.get? b = some o := fun b o hb e => by
    have e5 := k35 _ _ hb (k13 _ _ e)
    have hn : b ≠ N := fun q => by
      rw [q] at e
      rw [k2 _ _ (k1 _ _ e)] at nN; cases nN
    by_cases hq' : b = Pc
    · subst hq'
      cases hm : m with
      | true =>
        have := hPt hm
        rw [e] at this; cases this
        have := B9.hit hm
        rw [← this]
        exact BC1.tab
      | false => rw [hPf hm] at e; cases e
    · exact kA _ _ hq' hn e5
  have hnone : ∀ {b : Addr}, hC.get? b = none → h.get? b = none := fun {b} q => by
    cases e : h.get? b with
    | none => rfl
    | some o =>
      by_cases hb : b = P0
      · rw [hb, kA _ _ hPP.symm NP.symm (k45 _ _ C.tab)] at q; cases q
      · rw [hkeep b o hb e] at q; cases q
  refine ⟨fun b o hb e => kL _ _ (hkeep b o hb e), ?_, ⟨ps4, cc, Pc, ps9, kL _ _ (kA _ _ hPP.symm NP.symm (k45 _ _ C.tab)), C.tri, fun e => ?_, fun e => ?_, C.here, hccP, BC1.hd.keeps kL, kL _ _ BC1.tab, BC1.tri, fun x hx => ⟨fun _ => ?_, nofun⟩, hPP, hPlo⟩,
    ⟨N2, bT, _, _, t1, _, ls, i0, f1, f2, f3, f4, f5, st, md, t4, c0, c1, u0, u1⟩, hnone hB2.nn, hnone hB2.nc, hB2.c, hB2.d, hmd, kL _ _ i0C.1, i0C.2.keeps kL, kL _ _ f1C.1, f1C.2.keeps kL⟩
  · rw [hbE]; exact Nat.le_of_lt (Heap.lt_size (kL _ _ hbC))
  · exact (C.hit (by rcases hmode with ⟨q, _⟩ | ⟨_, cc', _, _, q, _⟩; exact absurd (e.symm.trans q) nofun; exact ⟨_, q⟩)).2
  · exact (C.miss (by rcases hmode with ⟨_, q⟩ | ⟨q, _⟩; exact q; exact absurd (e.symm.trans q) nofun)).1
  · obtain ⟨c', e, r⟩ := BC1.dn x (List.mem_reverse.mpr hx)
    exact ⟨c', e, r.keeps kL⟩
end
end Mine
end
section
set_option maxHeartbeats 400000
set_option pp.maxSteps 2500
set_option pp.deepTerms false
set_option pp.deepTerms.threshold 14
namespace Mine
open PySem PyProof.Rows PySem.Builtin PySem.Calls
open PySem.W (CodeHd fnX)
noncomputable abbrev fdOf (i : Nat) (pm cd doc : Value) : FuncData := docDef (fdName (stAt i)) (cArgs (stAt i)) (bodyOf (stAt i)) (cScope (stAt i)) pm cd doc
noncomputable abbrev kPos : Pos := cPos clsStmt
noncomputable def nmPos (e : Expr) : Pos := if h : e.ctorIdx = 23 then @Expr.Name.elim (fun _ => Pos) e h (fun _ p => p) else ⟨0, 0, 0, 0⟩
noncomputable def retE (s : Stmt) : Expr := if h : s.ctorIdx = 3 then @Stmt.Return.elim (fun _ => Expr) s h (fun o _ => o.getD (.Constant .none 0 ⟨0, 0, 0, 0⟩)) else .Constant .none 0 ⟨0, 0, 0, 0⟩
noncomputable def retP (s : Stmt) : Pos := if h : s.ctorIdx = 3 then @Stmt.Return.elim (fun _ => Pos) s h (fun _ p => p) else ⟨0, 0, 0, 0⟩
noncomputable def cBases (s : Stmt) : List Expr := if h : s.ctorIdx = 2 then @Stmt.ClassDef.elim (fun _ => List Expr) s h (fun _ b _ _ _ _ _ _ _ _ _ => b) else []
noncomputable def kBase : Expr := (cBases clsStmt).getD 0 (.Constant .none 0 ⟨0, 0, 0, 0⟩)
noncomputable def ret1 : Stmt := (bodyOf (stAt 1)).getD 1 (.Pass ⟨0, 0, 0, 0⟩)
theorem cls_eq : clsStmt = .ClassDef "K" [.Name "object" (nmPos kBase)] [] (cBody clsStmt) [] [] (cScope clsStmt) none "K" ["obj"] kPos := by kernel_rfl
theorem ret1_eq : ret1 = .Return (some (.Name "K" (nmPos (retE ret1)))) (retP ret1) := by kernel_rfl
theorem body1_eq : bodyOf (stAt 1) = [clsStmt, ret1] := by kernel_rfl
/-- a weaker table word -/
noncomputable def PW (P : Pm) : Pm := { P with Good := fun _ _ _ => True }
/-- what the class statement asks of the first heap -/
structure KB (P : Pm) : Prop where
  obj : P.mg "object" = none ∧ P.mb "object" = some (.type "object")
  bc : P.mb "__build_class__" = some (.builtin "__build_class__")
  srt : P.mg "sorted" = none ∧ P.mb "sorted" = some (.builtin "sorted")
  ctk : P.mg "cmp_to_key" = some (.ref 21)
  nm : ∃ v, P.mg "__name__" = some v
  bt : ∃ bm o, P.mg "__builtins__" = some (.ref bm) ∧ bm ≠ builtinsNs ∧ bm < 100 ∧ NT bm ∧ P.H0.get? bm = some o ∧ o.cls = .type "module" ∧ o.dict = some builtinsNs ∧ o.data = .plain
  tp : NoTp P.H0
  sysm : ∃ o, P.H0.get? sysModules = some o
  f21 : ∃ ob pm doc, P.H0.get? 21 = some ob ∧ ob.data = .func (fdOf 1 pm (.ref 20) doc)
  c20 : CodeHd P.H0 20 16 ∧ P.H0.CodeRec (.ref 20) "cmp_to_key"
  f59 : ∃ ob pm doc, P.H0.get? 59 = some ob ∧ ob.data = .func (fdOf 9 pm (.ref 58) doc)
  c58 : CodeHd P.H0 58 54 ∧ P.H0.CodeRec (.ref 58) "_law_sorted"
/-- the codes of the class are all there -/
noncomputable def KTab (h' : Heap) : Prop := ∃ ps cc Pc psc, h'.get? 16 = some (PySem.W.tabObj ps) ∧ TriplesOk ps.toList ∧ codeAmong kPos ps.toList = some (.ref cc) ∧ CR h' (.ref cc) "cmp_to_key.<locals>.K" ∧
    CodeHd h' cc Pc ∧ h'.get? Pc = some (PySem.W.tabObj psc) ∧ TriplesOk psc.toList ∧ TabSt true h' psc mtodo ∧ Pc ≠ 16 ∧ 100 ≤ Pc
noncomputable def KCls (mg : Str → Option Value) (h h' : Heap) (cell C : Addr) : Prop := ∃ p, KC mg h h' cell C p
theorem KTab.keeps {h h' : Heap} (x : KTab h) (k : ∀ b o, h.get? b = some o → h'.get? b = some o) : KTab h' := by
  obtain ⟨ps, cc, Pc, psc, a, b, c, d, e, f, g, i, j⟩ := x
  exact ⟨ps, cc, Pc, psc, k _ _ a, b, c, d.keeps k, e.keeps k, k _ _ f, g, i.keeps k, j⟩
/-- all but dicts stand -/
noncomputable def NDk (h h' : Heap) : Prop := ∀ b o, (∀ es n, o.data ≠ .dict es n) → h.get? b = some o → h'.get? b = some o
theorem NDk.rec_ {h h' : Heap} (k : NDk h h') {cd : Value} {q : Str} (x : CR h cd q) : CR h' cd q := by
  obtain ⟨c, o, vs, t, e, g, r, v⟩ := x
  exact ⟨c, o, vs, t, e, k _ _ (by rw [r]; exact nofun) g, r, v⟩
theorem NDk.hd {h h' : Heap} (k : NDk h h') {c Q : Addr} (x : CodeHd h c Q) : CodeHd h' c Q := by
  obtain ⟨o, vs, file, tf, flags, tg, inF, text, tt, e, e2, e3, r⟩ := x
  exact ⟨o, vs, file, tf, flags, tg, inF, text, tt, k _ _ (by rw [e3]; exact nofun) e, e2, e3, r⟩
theorem NDk.ktab {h h' : Heap} (k : NDk h h') (x : KTab h) : KTab h' := by
  obtain ⟨ps, cc, Pc, psc, a, b, c, d, e, f, g, i, j⟩ := x
  exact ⟨ps, cc, Pc, psc, k _ _ nofun a, b, c, k.rec_ d, k.hd e, k _ _ nofun f, g, fun x hx => ⟨fun hm => let ⟨c', q, r⟩ := (i x hx).1 hm; ⟨c', q, k.rec_ r⟩, (i x hx).2⟩, j⟩
theorem KC.carry {mg : Str → Option Value} {h0 h1 h h' : Heap} {cell C : Addr} {p : KP} (x : KC mg h0 h cell C p) (n : ∀ b, h0.get? b = none → h1.get? b = none) (hd : h'.get? p.N = h.get? p.N) (k : NDk h h') : KC mg h1 h' cell C p :=
  ⟨n _ x.nN, n _ x.nC, k _ _ nofun x.cls, by obtain ⟨es, ep, q, r⟩ := x.dct; exact ⟨es, ep, hd.trans q, r⟩, k _ _ nofun x.mem, k _ _ nofun x.ini, k.rec_ x.rec0, k _ _ nofun x.lt, k.rec_ x.rec1⟩
theorem none_of {h0 h1 : Heap} (k : ∀ b o, h0.get? b = some o → h1.get? b = some o) (b : Addr) (q : h1.get? b = none) : h0.get? b = none := by
  cases e : h0.get? b with
  | none => rfl
  | some o => rw [k _ _ e] at q; cases q
theorem KCls.keeps {mg : Str → Option Value} {h0 h h' : Heap} {cell C : Addr} (k : ∀ b o, h.get? b = some o → h'.get? b = some o) (x : KCls mg h0 h cell C) : KCls mg h0 h' cell C := by
  obtain ⟨p, x⟩ := x
  refine ⟨p, x.carry (fun _ q => q) ?_ fun b o _ e => k b o e⟩
  obtain ⟨es, ep, q, _⟩ := x.dct
  exact (k _ _ q).trans q.symm
section
variable {P : Pm} {h h' : Heap}
/-- the two tables are tables -/
noncomputable def Tw (h : Heap) : Prop := ∃ o1 o2, h.get? 16 = some o1 ∧ h.get? 54 = some o2 ∧ o1.cls = .none ∧ o2.cls = .none ∧ ¬ Soft o1 ∧ ¬ Soft o2
theorem RB.tw (r : RB P h) : Tw h := by
  obtain ⟨o1, o2, l, g1, g2, c1, c2, k1, k2, _⟩ := r.tabs
  exact ⟨o1, o2, g1, g2, c1, c2, k1, k2⟩
theorem ns_tab (ps : Array Value) : ¬ Soft (tabO ps) := by
  rintro ((⟨_, _, q⟩ | ⟨_, q⟩) | q | q | q) <;> cases q
theorem rbw (hb : ∀ b o, b < 100 → NT b → P.H0.get? b = some o → h.get? b = some o) (ht : Tw h) (hz : 100 ≤ h.objs.size) : RB (PW P) h := by
  obtain ⟨o1, o2, g1, g2, c1, c2, k1, k2⟩ := ht
  exact ⟨hb, ⟨o1, o2, [], g1, g2, c1, c2, k1, k2, (fun p hp => absurd hp List.not_mem_nil), Or.inr trivial⟩, hz⟩
theorem RB.to (r : RB P h) : RB (PW P) h := rbw r.base r.tw r.big
theorem RB.w16 (r : RB (PW P) h) {ps : Array Value} (k : ∀ b o, b ≠ 16 → h.get? b = some o → h'.get? b = some o) (hp : h'.get? 16 = some (PySem.W.tabObj ps)) (hz : h.objs.size ≤ h'.objs.size) : RB (PW P) h' := by
  obtain ⟨o1, o2, g1, g2, c1, c2, k1, k2⟩ := r.tw
  exact rbw (P := P) (fun b o l n e => k b o n.1 (r.base b o l n e)) ⟨_, o2, hp, k _ _ (by decide) g2, rfl, c2, ns_tab ps, k2⟩ (Nat.le_trans r.big hz)
theorem RB.w54 (r : RB (PW P) h) {ps : Array Value} (k : ∀ b o, b ≠ 54 → h.get? b = some o → h'.get? b = some o) (hp : h'.get? 54 = some (PySem.W.tabObj ps)) (hz : h.objs.size ≤ h'.objs.size) : RB (PW P) h' := by
  obtain ⟨o1, o2, g1, g2, c1, c2, k1, k2⟩ := r.tw
  exact rbw (P := P) (fun b o l n e => k b o n.2 (r.base b o l n e)) ⟨o1, _, k _ _ (by decide) g1, hp, c1, rfl, k1, ns_tab ps⟩ (Nat.le_trans r.big hz)
theorem KB.gb (X : KB P) (r : RB (PW P) h) : GB P.mg h := by
  obtain ⟨bm, o, a, b, c, d, e, f⟩ := X.bt
  exact ⟨r.glob, bm, o, a, b, r.base bm o c d e, f⟩
theorem KB.ntp (X : KB P) (r : RB (PW P) h) : NoTp h := X.tp.but fun o e _ _ => r.base _ o (by decide) ⟨by decide, by decide⟩ e
theorem base_hd {c Q : Addr} (r : RB (PW P) h) (hc : c < 100) (hn : NT c) (x : CodeHd P.H0 c Q) : CodeHd h c Q := by
  obtain ⟨o, vs, file, tf, flags, tg, inF, text, tt, e, q⟩ := x; exact ⟨o, vs, file, tf, flags, tg, inF, text, tt, r.base c o hc hn e, q⟩
theorem base_rec {c : Addr} {q : Str} (r : RB (PW P) h) (hc : c < 100) (hn : NT c) (x : P.H0.CodeRec (.ref c) q) : h.CodeRec (.ref c) q := by
  obtain ⟨c', o, vs, t, e, g, r'⟩ := x
  cases e
  exact ⟨c, o, vs, t, rfl, r.base c o hc hn g, r'⟩
end
section
variable {prog : Program} {w : World} {P : Pm} {A : Around} {E : Value → Shared → Prop} {h : Heap} {g : Array GenState} {d : Drawn} {t : Nat} {os : OsState}
theorem eargs1 {f : Value} {x : Sem Value} {Q : Args → Shared → Prop} {s : Shared} (hx : wpAny (model prog w) A x (fun v s' => Q ⟨[v], []⟩ s') E s) : wpAny (model prog w) A (evalArgs f false [(false, x)] []) Q E s := by
  have hs : wpAny (model prog w) A (spliced [(false, x)]) (fun vs s' => ∃ v, vs = [v] ∧ Q ⟨[v], []⟩ s') E s :=
    Calls.spliced_cons (wpAny_mono hx (fun v s' hq => Calls.spliced_nil ⟨v, rfl, hq⟩) fun _ _ e => e)
  unfold evalArgs
  show wpAny _ _ (spliced [(false, x)] >>= _) _ _ _
  refine wpAny_bind (wpAny_mono hs (fun vs s' hq => ?_) fun _ _ e => e)
  obtain ⟨v, rfl, hq⟩ := hq
  refine wpAny_bind (wpAny_pure ?_)
  refine wpAny_holding (wpAny_ite_true rfl (wpAny_bind (wpAny_pure ?_)))
  exact wpAny_bind (wpAny_pure (wpAny_pure hq))
theorem cmp_call {Q : Value → Shared → Prop} (X : KB P) (rb : RB (PW P) h) {f : Addr} (hh : A.handled = none) (hdp : A.depth ≤ 390) (hu : A.units ≤ 3900)
    (hmode : h.get? 16 = some (PySem.W.tabObj #[]) ∨ KTab h)
    (hq : ∀ cell C h' tk, (∀ b o, b ≠ 16 → h.get? b = some o → h'.get? b = some o) → h.objs.size ≤ h'.objs.size → RB (PW P) h' → h'.IsCell cell (some (.ref f)) → h.objs.size ≤ cell → KTab h' → KCls P.mg h h' cell C → Q (.ref C) ⟨h', g, d, tk, os⟩) :
    wpAny (model prog w) A (call (.ref 21) [.ref f]) Q E ⟨h, g, d, t, os⟩ := by
  obtain ⟨ob, pm, doc, e21, d21⟩ := X.f21
  have e21 := rb.base _ _ (by decide) ⟨by decide, by decide⟩ e21
  have hroom : A.depth < recursionLimit := Nat.lt_of_le_of_lt hdp (by decide)
  have hcd := base_rec rb (by decide) ⟨by decide, by decide⟩ X.c20.2
  refine wpAny_call (codeAny_call_cells (s := ⟨h, g, d, t, os⟩) (fd := fdOf 1 pm (.ref 20) doc) (binds := [("mycmp", .ref f)]) hroom e21 d21 rb.nolimit hcd rfl (by kernel_rfl) rfl ?_ ?_)
  · intro x hx
    rw [List.mem_singleton.mp hx]
    exact .inr ⟨by kernel_rfl, by kernel_rfl⟩
  intro s₁ x
  obtain ⟨h₁, tk₁, rfl⟩ := x.toInCall.same
  have k1 := x.toInCall.keep
  have hcell : h₁.IsCell (h.objs.size + 1) (some (.ref f)) := x.cell "mycmp" _ (by kernel_rfl)
  have hkf : (callEnvC (fdOf 1 pm (.ref 20) doc) h.objs.size 21).scope.kind = .function := by kernel_rfl
  have hL : (callEnvC (fdOf 1 pm (.ref 20) doc) h.objs.size 21).locals = h.objs.size := rfl
  have hz1 : h.objs.size ≤ h₁.objs.size := by have := x.toInCall.ns.lt; rw [hL] at this; exact Nat.le_of_lt this
  have hns := x.toInCall.ns
  have hcl : closureFor (cScope clsStmt) (callEnvC (fdOf 1 pm (.ref 20) doc) h.objs.size 21) = pure [(("mycmp" : Str), h.objs.size + 1)] := by kernel_rfl
  have hqn : qualnameIn (callEnvC (fdOf 1 pm (.ref 20) doc) h.objs.size 21) "K" "K" = "cmp_to_key.<locals>.K" := by kernel_rfl
  have hko : (callEnvC (fdOf 1 pm (.ref 20) doc) h.objs.size 21).kindOf "object" = some .globalImplicit := by kernel_rfl
  have hkK : (callEnvC (fdOf 1 pm (.ref 20) doc) h.objs.size 21).kindOf "K" = some .local := by kernel_rfl
  have hcode : (callEnvC (fdOf 1 pm (.ref 20) doc) h.objs.size 21).code = .ref 20 := rfl
  have hglob : (callEnvC (fdOf 1 pm (.ref 20) doc) h.objs.size 21).globals = mainGlobals := rfl
  have hblt : (callEnvC (fdOf 1 pm (.ref 20) doc) h.objs.size 21).builtins = builtinsNs := rfl
  have hxc := x.toInCall.ns
  clear x
  change wpAny _ _ (execs (bodyOf (stAt 1)) (callEnvC (fdOf 1 pm (.ref 20) doc) h.objs.size 21)) _ _ ⟨h₁, g, d, tk₁, os⟩
  generalize callEnvC (fdOf 1 pm (.ref 20) doc) h.objs.size 21 = env at *
  rw [body1_eq]
  refine wpAny_execs_cons ?_
  have h16 : ∃ ps0, h₁.get? 16 = some (PySem.W.tabObj ps0) ∧ TriplesOk ps0.toList := by
    rcases hmode with e | ⟨ps, _, _, _, a, b, _⟩
    · exact ⟨_, k1 _ _ e, trivial⟩
    · exact ⟨_, k1 _ _ a, b⟩
  obtain ⟨ps0, h16, tri0⟩ := h16
  have rb₁ : RB (PW P) h₁ := rb.w16 (fun b o _ e => k1 b o e) h16 hz1
  obtain ⟨nameV, hnm⟩ := X.nm
  have hsm : ∃ o, h₁.get? sysModules = some o := let ⟨o, e⟩ := X.sysm; ⟨o, rb₁.base _ _ (by decide) ⟨by decide, by decide⟩ e⟩
  have hin : (false = false ∧ codeAmong kPos ps0.toList = none) ∨ (true = true ∧ KTab h₁) := by
    rcases hmode with e | q
    · have := k1 _ _ e
      rw [h16] at this; cases this
      exact .inl ⟨rfl, rfl⟩
    · exact .inr ⟨rfl, q.keeps k1⟩
  have hmode' : ∃ m : Bool, (m = false ∧ codeAmong kPos ps0.toList = none) ∨ (m = true ∧ ∃ cc Pc psc, codeAmong kPos ps0.toList = some (.ref cc) ∧ CR h₁ (.ref cc) "cmp_to_key.<locals>.K" ∧ CodeHd h₁ cc Pc ∧ h₁.get? Pc = some (PySem.W.tabObj psc) ∧ TriplesOk psc.toList ∧ TabSt true h₁ psc mtodo ∧ Pc ≠ 16 ∧ 100 ≤ Pc) := by
    rcases hin with ⟨_, e⟩ | ⟨_, ps, cc, Pc, psc, a, b, c, d, e, f, g, i, j⟩
    · exact ⟨false, .inl ⟨rfl, e⟩⟩
    · rw [h16] at a; cases a
      exact ⟨true, .inr ⟨rfl, cc, Pc, psc, c, d, e, f, g, i, j⟩⟩
  obtain ⟨m, hmode'⟩ := hmode'
  rw [cls_eq, arm_exec_ClassDef]
  refine wpAny_bind (wpAny_of_eq (a := []) rfl ?_)
  refine wpAny_bind (wpAny_standAt ?_)
  unfold buildClassGuard
  rw [hblt]
  refine wpAny_bind (wpAny_bind (wpAny_nsGet (s := ⟨h₁, g, d, tk₁, os⟩) rb₁.blt ?_))
  rw [show (PW P).mb = P.mb from rfl, X.bc]
  refine wpAny_pure ?_
  refine wpAny_bind (wpAny_holding (wpAny_bind ?_))
  rw [star_cons (by rfl) env, back_cons]
  refine eargs1 (Calls.Name_function_global hkf hko (Calls.loadGlobal_builtin (s := ⟨h₁, g, d, tk₁, os⟩) (mg := P.mg) (mb := P.mb) (by rw [hglob]; exact rb₁.glob) X.obj.1 (by rw [hblt]; exact rb₁.blt) X.obj.2 ?_) (by rfl))
  refine wpAny_bind (wpAny_standAt (wpAny_holding ?_))
  rw [hqn]
  refine build_class (m := m) (sts := []) hh (by show A.depth + 1 ≤ 400; omega) (by show A.units + 3 ≤ 4000; omega) (X.ntp rb₁) rb₁.big hsm hcode (base_hd rb₁ (by decide) ⟨by decide, by decide⟩ X.c20.1) h16 tri0 (X.gb rb₁) hnm hglob hcl rb₁.nolimit hmode' fun C h₂ tk₂ htk₂ B => ?_
  have kt : KTab h₂ := by
    obtain ⟨ps, cc, Pc, psc, a, b, _, _, c, d, e, f, i, j, k⟩ := B.tab
    exact ⟨ps, cc, Pc, psc, a, b, c, d, e, f, i, j, k⟩
  have kc : KCls P.mg h₁ h₂ (h.objs.size + 1) C := B.cls
  have rb₂ : RB (PW P) h₂ := let ⟨_, _, _, _, a, _⟩ := kt; rb₁.w16 B.keep a B.size
  have h100 : 100 ≤ h.objs.size := rb.big
  refine wpAny_bind (wpAny_of_eq (a := .ref C) rfl ?_)
  refine wpAny_bind (wpAny_standAt ?_)
  have hns₂ := ns_keeps hns fun o e => B.keep _ o (by rw [hL]; exact fun q => absurd (q ▸ h100) (by decide)) e
  refine wpAny_bind (wpAny_bindName (wpAny_storeName_local (s := ⟨h₂, g, d, tk₂, os⟩) hkK hns₂ (fun h₃ hns₃ hs₃ => ?_) (by rw [hkf]; rfl)))
  refine wpAny_pure ?_
  show wpAny _ _ (execs [ret1] env) _ _ _
  refine wpAny_execs_cons ?_
  rw [ret1_eq]
  refine wpAny_Return_some (wpAny_Name (wpAny_loadName_local (v := .ref C) hkf hkK hns₃ (by simp) ?_) (by rfl))
  show Q (.ref C) _
  obtain ⟨oL, esL, epL, gL, dL, _⟩ := hns
  have gL2 := B.keep _ _ (by rw [hL]; exact fun q => absurd (q ▸ h100) (by decide)) gL
  have nd : NDk h₂ h₃ := fun b o hn e => (hs₃.2 b (fun q => by rw [q, gL2] at e; cases e; exact hn _ _ dL)).trans e
  have hnL : ∀ b o, h.get? b = some o → b ≠ env.locals := fun b o e q => by
    have := Heap.lt_size e
    rw [q, hL] at this
    exact Nat.lt_irrefl _ this
  have kt3 := nd.ktab kt
  have k3 : ∀ b o, b ≠ 16 → h.get? b = some o → h₃.get? b = some o := fun b o hb e => (hs₃.2 b (hnL b o e)).trans (B.keep b o hb (k1 _ _ e))
  have z3 : h.objs.size ≤ h₃.objs.size := by rw [hs₃.1]; exact Nat.le_trans hz1 B.size
  refine hq (h.objs.size + 1) C h₃ _ k3 z3 ?_ ?_ (Nat.le_succ _) kt3 ?_
  · obtain ⟨_, _, _, _, a, _⟩ := kt3
    exact rb.w16 k3 a z3
  · obtain ⟨o, e, r⟩ := hcell
    exact ⟨o, (hs₃.2 _ (by rw [hL]; exact Nat.succ_ne_self _)).trans (B.keep _ _ (fun q => absurd (Nat.le_of_eq (show h.objs.size + 1 = 16 from q)) (Nat.not_le.mpr (Nat.lt_of_lt_of_le (by decide) (Nat.le_succ_of_le h100)))) e), r⟩
  · obtain ⟨p, kc⟩ := kc
    exact ⟨p, kc.carry (none_of k1) (hs₃.2 _ fun q => by have := kc.nN; rw [q, gL] at this; cases this) nd⟩
end
end Mine
end
section
set_option maxHeartbeats 400000
set_option pp.maxSteps 2500
set_option pp.deepTerms false
set_option pp.deepTerms.threshold 14
namespace Mine
open PySem PyProof.Rows PySem.Builtin PySem.Calls
open PySem.W (CodeHd fnX Frag clsIn findIn typeIn mroIn specialIn takesIn slotIn makesIn plainOver takerIn plainGet isClsIn instIn subIn alongIn ownIn nsIn recIn)
/-- the class, as far as a walk must know it -/
structure KF (K : Frag) (C : Addr) (p : KP) (X : Nat → Int) (Y : Nat → Tok) (n : Nat) (d0 d1 : FuncData) : Prop where
  lC : K.lookup C = some (clsObj (cdK C p.N) (slK p.bT p.t0 p.t2))
  lN : K.lookup p.N = some { cls := .type "dict", data := .dict (mkE X Y 0 p.kvs).toArray n }
  lm : K.lookup p.md = some (mdO p.t4 C)
  li : K.lookup p.i0 = some (fnO d0)
  lf : K.lookup p.f1 = some (fnO d1)
section
variable {K : Frag} {C : Addr} {p : KP} {X : Nat → Int} {Y : Nat → Tok} {n : Nat} {d0 d1 : FuncData}
theorem KF.cls (k : KF K C p X Y n d0 d1) : clsIn K C = some (cdK C p.N) := by unfold clsIn; rw [k.lC]
theorem KF.ns (k : KF K C p X Y n d0 d1) {name : Str} {r : Option Value}
    (e : (match (mkE X Y 0 p.kvs).find? (·.key.isStr name) with
      | some e => some (some e.val)
      | none => if (mkE X Y 0 p.kvs).any (·.refKey) then none else some none) = some r) : ownIn K name (.ref C) = some r := by
  unfold ownIn
  dsimp only
  rw [k.lC]
  show nsIn K p.N name = some r
  unfold nsIn
  rw [k.lN]
  exact e
theorem KF.find (k : KF K C p X Y n d0 d1) {name : Str} {v : Value} (e : ownIn K name (.ref C) = some (some v)) : findIn K (.ref C) name = some (some v) := by
  unfold findIn
  dsimp only
  rw [k.lC]
  show alongIn K name [.ref C, .type "object"] = _
  unfold alongIn
  rw [e]
theorem KF.find0 (k : KF K C p X Y n d0 d1) {name : Str} {r : Option Value} (e : ownIn K name (.ref C) = some none) (e2 : alongIn [] name [.type "object"] = some r) : findIn K (.ref C) name = some r := by
  unfold findIn
  dsimp only
  rw [k.lC]
  show alongIn K name [.ref C, .type "object"] = _
  unfold alongIn
  rw [e]
  exact e2
theorem KF.init (k : KF K C p X Y n d0 d1) : findIn K (.ref C) "__init__" = some (some (.ref p.i0)) := k.find (k.ns (by kernel_rfl))
theorem KF.lt (k : KF K C p X Y n d0 d1) : findIn K (.ref C) "__lt__" = some (some (.ref p.f1)) := k.find (k.ns (by kernel_rfl))
theorem KF.obj (k : KF K C p X Y n d0 d1) : findIn K (.ref C) "obj" = some (some (.ref p.md)) := k.find (k.ns (by kernel_rfl))
theorem KF.ga (k : KF K C p X Y n d0 d1) : findIn K (.ref C) "__getattribute__" = some (some (.builtin "object.__getattribute__")) := k.find0 (k.ns (by kernel_rfl)) (by kernel_rfl)
theorem KF.ga2 (k : KF K C p X Y n d0 d1) : findIn K (.ref C) "__getattr__" = some none := k.find0 (k.ns (by kernel_rfl)) (by kernel_rfl)
theorem KF.sa (k : KF K C p X Y n d0 d1) : findIn K (.ref C) "__setattr__" = some (some (.builtin "object.__setattr__")) := k.find0 (k.ns (by kernel_rfl)) (by kernel_rfl)
theorem KF.plain (k : KF K C p X Y n d0 d1) : plainGet K C "obj" = true := by
  unfold plainGet; rw [k.ga, k.ga2]; simp
theorem KF.isC (k : KF K C p X Y n d0 d1) : isClsIn K C = true := by unfold isClsIn; rw [k.cls]; rfl
theorem KF.tm (k : KF K C p X Y n d0 d1) : typeIn K (.ref p.md) = some (.type "member_descriptor") := by unfold typeIn; dsimp only; rw [k.lm]; rfl
theorem KF.get (k : KF K C p X Y n d0 d1) : specialIn K (.ref p.md) "__get__" = some (some (.builtin "member_descriptor.__get__")) := by
  unfold specialIn; rw [k.tm]; show findIn [] (.type "member_descriptor") "__get__" = _; kernel_rfl
theorem KF.takes (k : KF K C p X Y n d0 d1) : takesIn K (.ref p.md) = some true := by
  unfold takesIn specialIn; rw [k.tm]
  rw [show ((some (Value.type "member_descriptor")).bind fun t => findIn K t "__set__") = some (some (.builtin "member_descriptor.__set__")) from by show findIn [] (.type "member_descriptor") "__set__" = _; kernel_rfl]
theorem KF.slot (k : KF K C p X Y n d0 d1) : slotIn K p.md C = some 0 := by
  have e : recIn K p.md "member_descriptor" = some [.str "obj" p.t4, .ref C, .builtin "proto.slot", .builtin "proto.slot#set", .int 0 0] := by unfold recIn; rw [k.lm]; simp
  unfold slotIn; rw [e, k.cls]; simp
theorem KF.over (k : KF K C p X Y n d0 d1) : plainOver K C = true := by
  unfold plainOver; rw [k.cls]; rfl
theorem KF.taker (k : KF K C p X Y n d0 d1) : takerIn K C "obj" = some (some (.ref p.md)) := by
  unfold takerIn; rw [k.obj]; show Option.map _ (takesIn K (.ref p.md)) = _; rw [k.takes]; rfl
theorem KF.tC (k : KF K C p X Y n d0 d1) : typeIn K (.ref C) = some (.type "type") := by unfold typeIn; dsimp only; rw [k.lC]; rfl
theorem KF.makes (k : KF K C p X Y n d0 d1) : makesIn K C = true := by
  have e1 : specialIn K (.ref C) "__call__" = some (some (.builtin "type.__call__")) := by
    unfold specialIn; rw [k.tC]; show findIn [] (.type "type") "__call__" = _; kernel_rfl
  have e2 : instIn K (.ref C) (.type "type") = some true := by
    unfold instIn; rw [k.tC]; show subIn [] (.type "type") (.type "type") = _; kernel_rfl
  unfold makesIn; rw [k.lC]; simp [e1, e2]
theorem KF.ti (k : KF K C p X Y n d0 d1) : typeIn K (.ref p.i0) = some (.type "function") := by unfold typeIn; dsimp only; rw [k.li]; rfl
theorem KF.tf (k : KF K C p X Y n d0 d1) : typeIn K (.ref p.f1) = some (.type "function") := by unfold typeIn; dsimp only; rw [k.lf]; rfl
end
end Mine
end
section
set_option maxHeartbeats 400000
set_option pp.maxSteps 2500
set_option pp.deepTerms false
set_option pp.deepTerms.threshold 14
namespace Mine
open PySem PyProof.Rows PySem.Builtin PySem.Calls
open PySem.W (CodeHd fnX Frag clsIn findIn typeIn mroIn specialIn takesIn slotIn makesIn plainOver takerIn plainGet isClsIn instIn subIn alongIn ownIn nsIn recIn InstAt instObj emptyDict InitBack Upd)
/-- a code that stands in the fragment -/
noncomputable def FC (K : Frag) (c : Addr) (q : Str) : Prop := ∃ o v t, K.lookup c = some o ∧ o.data = .fields v ∧ v[1]? = some (.str q t)
theorem FC.crec {K : Frag} {c : Addr} {q : Str} {h : Heap} (x : FC K c q) (k : ∀ a o, K.lookup a = some o → h.get? a = some o) : h.CodeRec (.ref c) q := by
  obtain ⟨o, v, t, a, b, e⟩ := x
  exact ⟨c, o, v, t, rfl, k _ _ a, b, e⟩
/-- the class with its two functions and their codes -/
structure KZ (mg : Str → Option Value) (K : Frag) (cell C : Addr) (p : KP) (X : Nat → Int) (Y : Nat → Tok) (n : Nat) : Prop where
  f : KF K C p X Y n (p.d0 mg) (p.d1 mg cell)
  c0 : FC K p.c0 (mq 2)
  c1 : FC K p.c1 (mq 3)
noncomputable def KX (mg : Str → Option Value) (K : Frag) (cell C : Addr) : Prop := ∃ p X Y n, KZ mg K cell C p X Y n
theorem lk_mem {α β : Type} [BEq α] [LawfulBEq α] : ∀ {l : List (α × β)} {a : α} {o : β}, l.lookup a = some o → (a, o) ∈ l
  | (b, p) :: r, a, o, e => by
    by_cases h : a = b
    · subst h
      rw [List.lookup, beq_self_eq_true] at e
      cases e; exact .head _
    · rw [List.lookup, beq_false_of_ne h] at e
      exact .tail _ (lk_mem e)
theorem lk_some {α β : Type} [BEq α] [LawfulBEq α] : ∀ {l : List (α × β)} {a : α} {o : β}, (a, o) ∈ l → ∃ o', l.lookup a = some o'
  | (b, p) :: r, a, o, m => by
    by_cases h : a = b
    · subst h
      exact ⟨p, by rw [List.lookup, beq_self_eq_true]⟩
    · rw [List.lookup, beq_false_of_ne h]
      rcases List.mem_cons.mp m with q | q
      · cases q; exact absurd rfl h
      · exact lk_some q
theorem lk_of {α β : Type} [BEq α] [LawfulBEq α] {f : α → Option β} {l : List (α × β)} (hl : ∀ p ∈ l, f p.1 = some p.2) {a : α} {o : β} (m : (a, o) ∈ l) : l.lookup a = some o := by
  obtain ⟨o', e⟩ := lk_some m
  have h1 := hl _ (lk_mem e)
  have h2 := hl _ m
  rw [h1] at h2
  rw [e, ← h2]
noncomputable def frP (h : Heap) (q : Addr × Obj) : Prop := h.get? q.1 = some q.2 ∧ ∃ T, q.2.cls = .type T
theorem frp_cons {h : Heap} {a : Addr × Obj} {l : List (Addr × Obj)} (x : frP h a) (k : ∀ q ∈ l, frP h q) : ∀ q ∈ a :: l, frP h q := List.forall_mem_cons.mpr ⟨x, k⟩
noncomputable abbrev frg (mg : Str → Option Value) (cell C : Addr) (p : KP) (X : Nat → Int) (Y : Nat → Tok) (n : Nat) (oc0 oc1 : Obj) : Frag :=
  [(C, clsObj (cdK C p.N) (slK p.bT p.t0 p.t2)), (p.N, { cls := .type "dict", data := .dict (mkE X Y 0 p.kvs).toArray n }), (p.md, mdO p.t4 C), (p.i0, fnO (p.d0 mg)), (p.f1, fnO (p.d1 mg cell)), (p.c0, oc0), (p.c1, oc1)]
theorem KX.of {mg : Str → Option Value} {h0 h : Heap} {cell C : Addr} (x : KCls mg h0 h cell C) : ∃ K, KX mg K cell C ∧ Frag.In K h ∧ ∀ a o, K.lookup a = some o → ∃ T, o.cls = .type T := by
  obtain ⟨p, x⟩ := x
  obtain ⟨es, n, eN, pN⟩ := x.dct
  obtain ⟨_, oc0, v0, q0, e0, g0, r0, s0, z0⟩ := x.rec0
  obtain ⟨_, oc1, v1, q1, e1, g1, r1, s1, z1⟩ := x.rec1
  cases e0; cases e1
  obtain ⟨X, Y, hes⟩ := ents_mk 0 pN
  have hes' : es = (mkE X Y 0 p.kvs).toArray := by rw [← hes]
  subst hes'
  have hl : ∀ q ∈ frg mg cell C p X Y n oc0 oc1, frP h q :=
    frp_cons ⟨x.cls, _, rfl⟩ (frp_cons ⟨eN, _, rfl⟩ (frp_cons ⟨x.mem, _, rfl⟩ (frp_cons ⟨x.ini, _, rfl⟩ (frp_cons ⟨x.lt, _, rfl⟩ (frp_cons ⟨g0, _, z0⟩ (frp_cons ⟨g1, _, z1⟩ fun _ h => absurd h List.not_mem_nil))))))
  have lk : ∀ {a : Addr} {o : Obj}, (a, o) ∈ frg mg cell C p X Y n oc0 oc1 → (frg mg cell C p X Y n oc0 oc1).lookup a = some o := fun m => lk_of (f := h.get?) (fun q hq => (hl q hq).1) m
  exact ⟨frg mg cell C p X Y n oc0 oc1, ⟨p, X, Y, n, ⟨lk (.head _), lk (.tail _ (.head _)), lk (.tail _ (.tail _ (.head _))), lk (.tail _ (.tail _ (.tail _ (.head _)))), lk (.tail _ (.tail _ (.tail _ (.tail _ (.head _)))))⟩,
    ⟨oc0, v0, q0, lk (.tail _ (.tail _ (.tail _ (.tail _ (.tail _ (.head _)))))), r0, s0⟩, ⟨oc1, v1, q1, lk (.tail _ (.tail _ (.tail _ (.tail _ (.tail _ (.tail _ (.head _))))))), r1, s1⟩⟩, fun b o e => (hl _ (lk_mem e)).1, fun b o e => (hl _ (lk_mem e)).2⟩
theorem names_nocell {l : List (Str × NameKind)} (h : (l.all fun x => match x.2 with | .cell => false | _ => true) = true) : ∀ x ∈ l, x.2 ≠ .cell := fun x hx e => by
  have := List.all_eq_true.mp h x hx
  rw [e] at this; cases this
/-- an object of the class -/
noncomputable abbrev kO (C dx : Addr) (v : Value) : Obj := { cls := .ref C, dict := some dx, data := .plain, slots := #[some v] }
noncomputable def st2 : Stmt := (bodyOf (cst 2)).getD 0 (.Pass ⟨0, 0, 0, 0⟩)
noncomputable def asgT (s : Stmt) : Expr := if h : s.ctorIdx = 5 then @Stmt.Assign.elim (fun _ => Expr) s h (fun t _ _ => t.getD 0 (.Constant .none 0 ⟨0, 0, 0, 0⟩)) else .Constant .none 0 ⟨0, 0, 0, 0⟩
noncomputable def asgV (s : Stmt) : Expr := if h : s.ctorIdx = 5 then @Stmt.Assign.elim (fun _ => Expr) s h (fun _ v _ => v) else .Constant .none 0 ⟨0, 0, 0, 0⟩
noncomputable def atE (e : Expr) : Expr := if h : e.ctorIdx = 20 then @Expr.Attribute.elim (fun _ => Expr) e h (fun v _ _ => v) else .Constant .none 0 ⟨0, 0, 0, 0⟩
noncomputable def atP (e : Expr) : Pos := if h : e.ctorIdx = 20 then @Expr.Attribute.elim (fun _ => Pos) e h (fun _ _ p => p) else ⟨0, 0, 0, 0⟩
theorem body2_eq : bodyOf (cst 2) = [.Assign [.Attribute (.Name "self" (nmPos (atE (asgT st2)))) "obj" (atP (asgT st2))] (.Name "obj" (nmPos (asgV st2))) (cPos st2)] := by kernel_rfl
section
variable {prog : Program} {w : World} {A : Around} {E : Value → Shared → Prop} {h : Heap} {g : Array GenState} {d : Drawn} {t : Nat} {os : OsState} {mg : Str → Option Value} {K : Frag} {cell C : Addr}
theorem K_make {Q : Value → Shared → Prop} {v : Value} (x : KX mg K cell C) (In : Frag.In K h) (hlim : h.NoLimit) (hd : A.depth ≤ 600)
    (hq : ∀ x dx h' tk, (∀ b o, h.get? b = some o → h'.get? b = some o) → h.objs.size ≤ h'.objs.size → h.objs.size ≤ x → h.objs.size ≤ dx → h'.get? x = some (kO C dx v) → h'.get? dx = some emptyDict → Q (.ref x) ⟨h', g, d, tk, os⟩) :
    wpAny (model prog w) A (call (.ref C) [v]) Q E ⟨h, g, d, t, os⟩ := by
  obtain ⟨p, X, Y, n, kz⟩ := x
  have k := kz.f
  refine wpAny_call (PySem.W.make_core (PySem.W.makes_of In k.makes) (PySem.W.looks_findIn In k.init) (fun self => PySem.W.bind_fn In self k.ti) (.inl rfl) ?_)
  have kp : ∀ b o, h.get? b = some o → ((h.push emptyDict).push (instObj C h.objs.size)).get? b = some o := fun b o e => Heap.get?_push_of_some _ (Heap.get?_push_of_some _ e)
  have hx : ((h.push emptyDict).push (instObj C h.objs.size)).get? (h.objs.size + 1) = some (instObj C h.objs.size) := by heap_get
  have hdx : ((h.push emptyDict).push (instObj C h.objs.size)).get? h.objs.size = some emptyDict := by heap_get
  have sz : ((h.push emptyDict).push (instObj C h.objs.size)).objs.size = h.objs.size + 2 := by rw [Heap.size_push, Heap.size_push]
  generalize (h.push emptyDict).push (instObj C h.objs.size) = h1 at kp hx hdx sz ⊢
  refine codeAny_call_function (s := ⟨h1, g, d, t, os⟩) (fd := p.d0 mg) (body := bodyOf (cst 2)) (by show A.depth + 1 < 1000; omega) (kp _ _ (In _ _ k.li)) rfl (by kernel_rfl) (by kernel_rfl) rfl (kz.c0.crec fun a o e => kp _ _ (In _ _ e)) ?_
  rw [show bindArgs (p.d0 mg) ⟨[.ref (h.objs.size + 1), v], []⟩ = pure [(("self" : Str), .ref (h.objs.size + 1)), (("obj" : Str), v)] from by kernel_rfl]
  refine wpAny_pure (wpAny_newFunctionEnv (s := ⟨h1, g, d, t, os⟩) ?_ ?_ (fun h2 hns hsb => ?_) (by kernel_rfl))
  · exact names_nocell (by kernel_rfl)
  · intro y hy
    simp only [List.mem_cons, List.not_mem_nil, or_false] at hy
    rcases hy with rfl | rfl <;> kernel_rfl
  have k2 : ∀ b o, h1.get? b = some o → h2.get? b = some o := fun b o e => (hsb.2 b (Nat.ne_of_lt (Heap.lt_size e))).trans (Heap.get?_push_of_some _ e)
  have k3 : ∀ b o, h.get? b = some o → h2.get? b = some o := fun b o e => k2 b o (kp b o e)
  refine ⟨hlim.keeps k3, codeAny_func ?_⟩
  rw [body2_eq]
  have ek : (newEnv (p.d0 mg).scope h1.objs.size (p.d0 mg).globals (p.d0 mg).closure ((p.d0 mg).qualname ++ Str.ofString ".<locals>.") (some p.i0) (p.d0 mg).code none (p.d0 mg).builtins).scope.kind = .function := by kernel_rfl
  have es : (newEnv (p.d0 mg).scope h1.objs.size (p.d0 mg).globals (p.d0 mg).closure ((p.d0 mg).qualname ++ Str.ofString ".<locals>.") (some p.i0) (p.d0 mg).code none (p.d0 mg).builtins).kindOf "self" = some .local := by kernel_rfl
  have eo : (newEnv (p.d0 mg).scope h1.objs.size (p.d0 mg).globals (p.d0 mg).closure ((p.d0 mg).qualname ++ Str.ofString ".<locals>.") (some p.i0) (p.d0 mg).code none (p.d0 mg).builtins).kindOf "obj" = some .local := by kernel_rfl
  have el : (newEnv (p.d0 mg).scope h1.objs.size (p.d0 mg).globals (p.d0 mg).closure ((p.d0 mg).qualname ++ Str.ofString ".<locals>.") (some p.i0) (p.d0 mg).code none (p.d0 mg).builtins).locals = h1.objs.size := rfl
  have hns' : h2.Ns h1.objs.size (fun x => List.lookup x [(("obj" : Str), v), (("self" : Str), Value.ref (h.objs.size + 1))]) := hns
  change wpAny _ _ (execs _ (newEnv (p.d0 mg).scope h1.objs.size (p.d0 mg).globals (p.d0 mg).closure ((p.d0 mg).qualname ++ Str.ofString ".<locals>.") (some p.i0) (p.d0 mg).code none (p.d0 mg).builtins)) _ _ ⟨h2, g, d, t + 2, os⟩
  generalize newEnv (p.d0 mg).scope h1.objs.size (p.d0 mg).globals (p.d0 mg).closure ((p.d0 mg).qualname ++ Str.ofString ".<locals>.") (some p.i0) (p.d0 mg).code none (p.d0 mg).builtins = env at *
  have hnone : ∀ b, h.objs.size ≤ b → h.get? b = none := fun b hb => Heap.get?_none_of_le hb
  have hne : (h.objs.size + 1 : Nat) ≠ h.objs.size := Nat.succ_ne_self _
  refine wpAny_execs_cons (plainObj_wpAny_Assign_Attribute (wpAny_Name (wpAny_loadName_local (s := ⟨h2, g, d, t + 2, os⟩) ek eo (by rw [el]; exact hns') (v := v) (by kernel_rfl) ?_) (by rfl)))
  refine wpAny_Name (wpAny_loadName_local (s := ⟨h2, g, d, t + 2, os⟩) ek es (by rw [el]; exact hns') (v := .ref (h.objs.size + 1)) (by kernel_rfl) ?_) (by rfl)
  refine PySem.W.set_slot (s := ⟨h2, g, d, t + 2, os⟩) (h₀ := h) (L := h1.objs.size) (K := K) (C := C) (p := p.md) (i := 0) (ox := instObj C h.objs.size) (ox' := kO C h.objs.size v) (od := emptyDict) (news := [(h.objs.size + 1, instObj C h.objs.size), (h.objs.size, emptyDict)]) (news' := [(h.objs.size + 1, kO C h.objs.size v), (h.objs.size, emptyDict)])
    ⟨hns', k3, by rw [sz]; omega⟩ In ?_ ⟨k2 _ _ hx, rfl, rfl, k2 _ _ hdx⟩ k.sa k.over k.taker k.tm k.slot (by decide) (by simp) rfl (.head ?_) (fun h' F' N' => ?_)
  · intro p hp
    simp only [List.mem_cons, List.not_mem_nil, or_false] at hp
    rcases hp with rfl | rfl
    · exact ⟨k2 _ _ hx, by rw [sz]; simp, hnone _ (Nat.le_succ _)⟩
    · exact ⟨k2 _ _ hdx, by rw [sz]; simp, hnone _ (Nat.le_refl _)⟩
  · intro p hp
    rw [List.mem_singleton.mp hp]
    exact fun q => hne q.symm
  · have a1 := (N' _ (.head _)).1
    have a2 := (N' _ (.tail _ (.head _))).1
    exact wpAny_execs_nil ⟨rfl, hq _ _ h' _ F'.keep (Nat.le_trans (Nat.le_succ _) (Nat.le_of_lt (Heap.lt_size a1))) (Nat.le_succ _) (Nat.le_refl _) a1 a2⟩
end
end Mine
end
section
set_option maxHeartbeats 400000
set_option pp.maxSteps 2500
set_option pp.deepTerms false
set_option pp.deepTerms.threshold 14
namespace Mine
open PySem PyProof.Rows PySem.Builtin PySem.Calls
open PySem.W (CodeHd fnX)
noncomputable abbrev clEnv (fd : FuncData) (L f : Addr) : Env := newEnv fd.scope L fd.globals fd.closure (fd.qualname ++ ".<locals>.") (some f) fd.code none fd.builtins
noncomputable def lst : Stmt := (bodyOf (stAt 9)).getD 0 (.Pass ⟨0, 0, 0, 0⟩)
noncomputable abbrev lq : Str := "_law_sorted.<locals>._law_compare"
noncomputable abbrev lfd (mg : Str → Option Value) (clos : List (Str × Addr)) (c' : Addr) (ctv : Value) : FuncData := fnX (fdName lst) lq (cArgs lst) (bodyOf lst) (cScope lst) clos .none .none .none ((mg "__name__").getD .none) none (.ref c') ctv
theorem lnames_eq : (cScope lst).names = [(("one" : Str), NameKind.local), (("other" : Str), NameKind.local), (("first" : Str), NameKind.free), (("second" : Str), NameKind.free)] := by kernel_rfl
/-- what the comparison hands back -/
noncomputable def cmpF (fa sa : List UInt64) (i j : Nat) : UInt64 :=
  if Float64.isZero (Float64.sub (fa.getD i 0) (fa.getD j 0)) then Float64.sub (sa.getD i 0) (sa.getD j 0) else Float64.sub (fa.getD i 0) (fa.getD j 0)
section
variable {prog : Program} {w : World} {A : Around} {E : Value → Shared → Prop} {h : Heap} {g : Array GenState} {d : Drawn} {t : Nat} {os : OsState} {mg : Str → Option Value} {P : Pm}
theorem call_clo {Q : Value → Shared → Prop} {f : Addr} {fd : FuncData} {body : List Stmt} {vals : List Value} {binds : List (Str × Value)} (hroom : A.depth < recursionLimit) (ho : h.get? f = some (fnO fd)) (hb : fd.body = .stmts body) (hrec : h.CodeRec fd.code fd.qualname) (hlim : h.NoLimit)
    (hbind : bindArgs fd ⟨vals, []⟩ = pure binds) (hnc : ∀ x ∈ fd.scope.names, x.2 ≠ .cell) (hloc : ∀ x ∈ binds, fd.scope.names.lookup x.1 = some .local)
    (hco : fd.scope.isCoroutine = false) (hgen : fd.scope.isGenerator = false) (hk : fd.scope.kind = .function)
    (hq : ∀ h2, h2.Ns h.objs.size (fun x => binds.reverse.lookup x) → (∀ b o, h.get? b = some o → h2.get? b = some o) →
      wpAny (model prog w) (A.deeper (clEnv fd h.objs.size f)) (execs body (clEnv fd h.objs.size f)) (fun fl s' => Q (match fl with | .ret v => v | _ => .none) s') (fun _ _ => False) ⟨h2, g, d, t + binds.length, os⟩) :
    wpAny (model prog w) A (call (.ref f) vals) Q E ⟨h, g, d, t, os⟩ := by
  refine wpAny_call (codeAny_call_function (s := ⟨h, g, d, t, os⟩) hroom ho rfl hco hgen hb hrec ?_)
  rw [hbind]
  refine wpAny_pure (wpAny_newFunctionEnv (s := ⟨h, g, d, t, os⟩) hnc hloc (fun h2 hns hsb => ?_) hk)
  have k2 : ∀ b o, h.get? b = some o → h2.get? b = some o := fun b o e => (hsb.2 b (Nat.ne_of_lt (Heap.lt_size e))).trans (Heap.get?_push_of_some _ e)
  exact ⟨hlim.keeps k2, codeAny_func (wpAny_mono (hq h2 hns k2) (fun _ _ z => z) fun _ _ z => z.elim)⟩
theorem ev_sub_at {env : Env} {fm : Fm} {μ : Mu} (hA : A.handled = none) {a b c : Str} {p1 p2 p3 p4 p5 p6 p7 : Pos} {fa : List UInt64} {i j : Nat} (hi : i < fa.length) (hj : j < fa.length) (hz : fa.length ≤ 4096)
    (ha : Ev prog w P A env fm μ (eval (.Name a p1) env) (.lst (fa.map tf))) (ha' : Ev prog w P A env fm μ (eval (.Name a p4) env) (.lst (fa.map tf))) (hb : Ev prog w P A env fm μ (eval (.Name b p2) env) (ti i)) (hc : Ev prog w P A env fm μ (eval (.Name c p5) env) (ti j)) :
    Ev prog w P A env fm μ (eval (.BinOp (.Subscript (.Name a p1) (.Name b p2) p3) .Sub (.Subscript (.Name a p4) (.Name c p5) p6) p7) env) (tf (Float64.sub (fa.getD i 0) (fa.getD j 0))) := by
  intro Z
  have e : ∀ k, k < fa.length → (fa.map tf)[k]? = some (tf (fa.getD k 0)) := fun k hk => by simp [hk]
  exact ev_binop (ev_at ha hb rfl (e i hi) (by omega) (fun _ _ _ => by intro q; cases q)) (ev_at ha' hc rfl (e j hj) (by omega) (fun _ _ _ => by intro q; cases q)) (binS_ok (r := .flt (Float64.sub (fa.getD i 0) (fa.getD j 0))) hA rfl)
theorem lbody : ∃ a1 a2 a3 a4 a5 a6 a7 b1 b2 b3 b4 b5 b6 b7 c1 c2 : Pos, bodyOf lst = [.Return (some (.BoolOp .Or [.BinOp (.Subscript (.Name "first" a1) (.Name "one" a2) a3) .Sub (.Subscript (.Name "first" a4) (.Name "other" a5) a6) a7, .BinOp (.Subscript (.Name "second" b1) (.Name "one" b2) b3) .Sub (.Subscript (.Name "second" b4) (.Name "other" b5) b6) b7] c1)) c2] := ⟨_, _, _, _, _, _, _, _, _, _, _, _, _, _, _, _, rfl⟩
/-- the two cells of the comparison -/
structure LC (Z : Addr → Prop) (mg : Str → Option Value) (h : Heap) (f cf cs : Addr) (fa sa : List UInt64) : Prop where
  fn : ∃ c' ctv, h.get? f = some (fnO (lfd mg [(("second" : Str), cs), (("first" : Str), cf)] c' ctv)) ∧ CR h (.ref c') lq
  icf : ∃ v, h.IsCell cf (some v) ∧ RT Z h v (.lst (fa.map tf))
  ics : ∃ v, h.IsCell cs (some v) ∧ RT Z h v (.lst (sa.map tf))
  ne : cf ≠ cs
  hf : 100 ≤ cf
  hs : 100 ≤ cs
  lf : fa.length = 6
  ls : sa.length = 6
  lt : 100 ≤ f
theorem LC.keeps {Z : Addr → Prop} {h h' : Heap} {f cf cs : Addr} {fa sa : List UInt64} (x : LC Z mg h f cf cs fa sa) (tb : Tb h) (k : Keep [] h h') : LC Z mg h' f cf cs fa sa := by
  obtain ⟨c', ctv, e, ⟨c, o, vs, tq, q, gc, dc⟩⟩ := x.fn
  cases q
  have nt : NT c' := tb.nt gc dc.2.2
  obtain ⟨v, ic, r⟩ := x.icf
  obtain ⟨u, ic2, r2⟩ := x.ics
  exact { fn := ⟨c', ctv, k.keep _ _ e (nt_hi x.lt) (by simp), ⟨_, o, vs, tq, rfl, k.keep _ _ gc nt (by simp), dc⟩⟩
          icf := ⟨v, k.cell ic x.hf (by simp), r.mono k tb⟩
          ics := ⟨u, k.cell ic2 x.hs (by simp), r2.mono k tb⟩
          ne := x.ne, hf := x.hf, hs := x.hs, lf := x.lf, ls := x.ls, lt := x.lt }
theorem lc_call {Z : Addr → Prop} {s : Shared} {Q : Value → Shared → Prop} (rb : RB P s.heap) (ht : 0 < s.toks) (hz : Hz Z s.heap) (sl : Sl 3 A) {f cf cs : Addr} {fa sa : List UInt64} (x : LC Z mg s.heap f cf cs fa sa)
    {i j : Nat} (hi : i < 6) (hj : j < 6) {a b : Tok} (o : Out P Z s (tf (cmpF fa sa i j)) Q) : wpAny (model prog w) A (call (.ref f) [.int i a, .int j b]) Q E s := by
  obtain ⟨h, g, d, t, os⟩ := s
  obtain ⟨⟨c', ctv, hf, hrec⟩, ⟨v1, hc1, r1⟩, ⟨v2, hc2, r2⟩, hne, h100, h100', lf, ls, _⟩ := x
  refine call_clo (fd := lfd mg [(("second" : Str), cs), (("first" : Str), cf)] c' ctv) (body := bodyOf lst) (binds := [(("one" : Str), .int i a), (("other" : Str), .int j b)]) sl.room hf rfl hrec.rec_ rb.nolimit (by kernel_rfl) (names_nocell (by kernel_rfl)) ?_ (by kernel_rfl) (by kernel_rfl) (by kernel_rfl) fun h2 hns k2 => ?_
  · intro y hy
    simp only [List.mem_cons, List.not_mem_nil, or_false] at hy
    rcases hy with rfl | rfl <;> kernel_rfl
  have sz : h.objs.size ≤ h2.objs.size := Nat.le_of_lt hns.lt
  have k : Keep [] h h2 := .all sz k2
  have rb2 : RB P h2 := rb.keeps sz k2
  have fo : FrmOk Z (clEnv (lfd mg [(("second" : Str), cs), (("first" : Str), cf)] c' ctv) h.objs.size f) ⟨[(("one" : Str), NameKind.local), (("other" : Str), NameKind.local), (("first" : Str), NameKind.free), (("second" : Str), NameKind.free)], [(("one" : Str), ti i), (("other" : Str), ti j), (("first" : Str), .lst (fa.map tf)), (("second" : Str), .lst (sa.map tf))]⟩ h2 := by
    refine ⟨by kernel_rfl, lnames_eq, rfl, rfl, rb.big, ⟨_, hns, fun y z hy hl => ?_⟩, fun y hy => ?_, fun y z c hy hz' => ?_⟩
    · have m1 := lookup_mem hy
      simp only [List.mem_cons, List.not_mem_nil, or_false, Prod.mk.injEq] at m1
      rcases m1 with ⟨rfl, rfl⟩ | ⟨rfl, rfl⟩ | ⟨rfl, rfl⟩ | ⟨rfl, rfl⟩
      · exact ⟨.int i a, by kernel_rfl, .sc (.int _ _)⟩
      · exact ⟨.int j b, by kernel_rfl, .sc (.int _ _)⟩
      · exact absurd hl (show ¬ List.lookup ("first" : Str) [(("one" : Str), NameKind.local), (("other" : Str), NameKind.local), (("first" : Str), NameKind.free), (("second" : Str), NameKind.free)] = some NameKind.local by decide +kernel)
      · exact absurd hl (show ¬ List.lookup ("second" : Str) [(("one" : Str), NameKind.local), (("other" : Str), NameKind.local), (("first" : Str), NameKind.free), (("second" : Str), NameKind.free)] = some NameKind.local by decide +kernel)
    · have m1 : (y, NameKind.free) ∈ [(("one" : Str), NameKind.local), (("other" : Str), NameKind.local), (("first" : Str), NameKind.free), (("second" : Str), NameKind.free)] := by
        rcases hy with hy | hy
        · have := lookup_mem hy
          simp at this
        · exact lookup_mem hy
      simp only [List.mem_cons, List.not_mem_nil, or_false, Prod.mk.injEq, reduceCtorEq, and_false, and_true, false_or] at m1
      rcases m1 with rfl | rfl
      · refine ⟨cf, _, by kernel_rfl, let ⟨o, e, q⟩ := hc1; ⟨o, k2 _ _ e, q⟩, h100, fun z e => ?_⟩
        have e' : z = .lst (fa.map tf) := by
          have : some z = some (.lst (fa.map tf)) := by rw [← e]; kernel_rfl
          exact Option.some.inj this
        subst e'
        exact ⟨v1, rfl, r1.mono k rb.tb⟩
      · refine ⟨cs, _, by kernel_rfl, let ⟨o, e, q⟩ := hc2; ⟨o, k2 _ _ e, q⟩, h100', fun z e => ?_⟩
        have e' : z = .lst (sa.map tf) := by
          have : some z = some (.lst (sa.map tf)) := by rw [← e]; kernel_rfl
          exact Option.some.inj this
        subst e'
        exact ⟨v2, rfl, r2.mono k rb.tb⟩
    · have m1 := lookup_mem (show List.lookup y [(("second" : Str), cs), (("first" : Str), cf)] = some c from hy)
      have m2 := lookup_mem (show List.lookup z [(("second" : Str), cs), (("first" : Str), cf)] = some c from hz')
      simp only [List.mem_cons, List.not_mem_nil, or_false, Prod.mk.injEq] at m1 m2
      rcases m1 with ⟨rfl, rfl⟩ | ⟨rfl, rfl⟩ <;> rcases m2 with ⟨rfl, q⟩ | ⟨rfl, q⟩
      · rfl
      · exact absurd q.symm hne
      · exact absurd q hne
      · rfl
  generalize clEnv (lfd mg [(("second" : Str), cs), (("first" : Str), cf)] c' ctv) h.objs.size f = env at fo ⊢
  have s2 : Sl 2 (A.deeper env) := sl.deeper env
  obtain ⟨a1, a2, a3, a4, a5, a6, a7, b1, b2, b3, b4, b5, b6, b7, c1, c2, hb⟩ := lbody
  rw [hb]
  have pr : Pre P Z env _ (fun _ => none) ⟨h2, g, d, t + 2, os⟩ := ⟨rb2, Nat.succ_pos _, hz.mono sz, (fun _ _ e => nomatch e), fo⟩
  have o2 : Out P Z ⟨h2, g, d, t + 2, os⟩ (tf (cmpF fa sa i j)) Q := o.next (t₁ := t + 2) k
  refine wpAny_execs_cons (wpAny_Return_some ?_)
  have nm : ∀ (x : Str) (y : T) (kk : NameKind) (p : Pos), List.lookup x [(("one" : Str), NameKind.local), (("other" : Str), NameKind.local), (("first" : Str), NameKind.free), (("second" : Str), NameKind.free)] = some kk → (kk = .local ∨ kk = .cell ∨ kk = .free) → List.lookup x [(("one" : Str), ti i), (("other" : Str), ti j), (("first" : Str), .lst (fa.map tf)), (("second" : Str), .lst (sa.map tf))] = some y → (x == ("__debug__" : Str)) = false → (x == ("__classdict__" : Str)) = false →
      Ev prog w P (A.deeper env) env ⟨[(("one" : Str), NameKind.local), (("other" : Str), NameKind.local), (("first" : Str), NameKind.free), (("second" : Str), NameKind.free)], [(("one" : Str), ti i), (("other" : Str), ti j), (("first" : Str), .lst (fa.map tf)), (("second" : Str), .lst (sa.map tf))]⟩ (fun _ => none) (eval (.Name x p) env) y :=
    fun x y kk p e1 e2 e3 e4 e5 => ev_name (fm := ⟨_, _⟩) e1 e2 e3 e4 e5
  refine (ev_or (x := tf (Float64.sub (fa.getD i 0) (fa.getD j 0))) (c := !Float64.isZero (Float64.sub (fa.getD i 0) (fa.getD j 0))) ?_ rfl ?_ ?_) _ _ _ pr o2
  · intro Z; exact ev_sub_at s2.1 (by omega) (by omega) (by omega) (nm "first" _ .free _ (by kernel_rfl) (by simp) (by kernel_rfl) (by kernel_rfl) (by kernel_rfl)) (nm "first" _ .free _ (by kernel_rfl) (by simp) (by kernel_rfl) (by kernel_rfl) (by kernel_rfl)) (nm "one" _ .local _ (by kernel_rfl) (by simp) (by kernel_rfl) (by kernel_rfl) (by kernel_rfl)) (nm "other" _ .local _ (by kernel_rfl) (by simp) (by kernel_rfl) (by kernel_rfl) (by kernel_rfl))
  · intro q
    have : Float64.isZero (Float64.sub (fa.getD i 0) (fa.getD j 0)) = false := by simpa using q
    unfold cmpF; rw [this]; rfl
  · intro q
    have : Float64.isZero (Float64.sub (fa.getD i 0) (fa.getD j 0)) = true := by simpa using q
    unfold cmpF; rw [if_pos this]
    intro Z; exact ev_sub_at s2.1 (by omega) (by omega) (by omega) (nm "second" _ .free _ (by kernel_rfl) (by simp) (by kernel_rfl) (by kernel_rfl) (by kernel_rfl)) (nm "second" _ .free _ (by kernel_rfl) (by simp) (by kernel_rfl) (by kernel_rfl) (by kernel_rfl)) (nm "one" _ .local _ (by kernel_rfl) (by simp) (by kernel_rfl) (by kernel_rfl) (by kernel_rfl)) (nm "other" _ .local _ (by kernel_rfl) (by simp) (by kernel_rfl) (by kernel_rfl) (by kernel_rfl))
end
end Mine
end
section
set_option maxHeartbeats 400000
set_option pp.maxSteps 2500
set_option pp.deepTerms false
set_option pp.deepTerms.threshold 14
namespace Mine
open PySem PyProof.Rows PySem.Builtin PySem.Calls
open PySem.W (CodeHd fnX Frag clsIn findIn typeIn mroIn specialIn takesIn slotIn makesIn plainOver takerIn plainGet isClsIn instIn subIn alongIn ownIn nsIn recIn InstAt instObj emptyDict InitBack Upd)
theorem ltbody : ∃ a1 a2 a3 a4 a5 a6 a7 a8 a9 : Pos, ∃ k, bodyOf (cst 3) = [.Return (some (.Compare (.Call (.Name "mycmp" a1) [.Attribute (.Name "self" a2) "obj" a3, .Attribute (.Name "other" a4) "obj" a5] [] a6) [.Lt] [.Constant (.int 0) k a7] a8)) a9] := ⟨_, _, _, _, _, _, _, _, _, _, rfl⟩
theorem ltnames_eq : (cScope (cst 3)).names = [(("self" : Str), NameKind.local), (("other" : Str), NameKind.local), (("mycmp" : Str), NameKind.free)] := by kernel_rfl
noncomputable def ltF (fa sa : List UInt64) (i j : Nat) : Bool := Float64.cmpInt (cmpF fa sa i j) 0 == some Ordering.lt
/-- an object of the class with its number -/
noncomputable def KI (C : Addr) (h : Heap) (x : Addr) (i : Nat) : Prop := ∃ dx a, h.get? x = some (kO C dx (.int i a)) ∧ h.get? dx = some emptyDict ∧ 100 ≤ x ∧ 100 ≤ dx
theorem KI.keeps {C : Addr} {h h' : Heap} {x : Addr} {i : Nat} (k : KI C h x i) (e : Keep [] h h') : KI C h' x i := by
  obtain ⟨dx, a, e1, e2, b1, b2⟩ := k
  exact ⟨dx, a, e.keep _ _ e1 (nt_hi b1) (by simp), e.keep _ _ e2 (nt_hi b2) (by simp), b1, b2⟩
/-- what holds while the list is sorted -/
structure SI (P : Pm) (Z : Addr → Prop) (K : Frag) (C cell f cf cs : Addr) (fa sa : List UInt64) (h : Heap) : Prop where
  rb : RB P h
  hz : Hz Z h
  kin : Frag.In K h
  knt : ∀ a o, K.lookup a = some o → NT a
  lc : LC Z P.mg h f cf cs fa sa
  ic : h.IsCell cell (some (.ref f))
  hc : 100 ≤ cell
section
variable {prog : Program} {w : World} {A : Around} {E : Value → Shared → Prop} {h : Heap} {g : Array GenState} {d : Drawn} {t : Nat} {os : OsState} {P : Pm} {Z : Addr → Prop} {K : Frag} {C cell f cf cs : Addr} {fa sa : List UInt64}
theorem SI.keeps {h' : Heap} (x : SI P Z K C cell f cf cs fa sa h) (k : Keep [] h h') (rb : RB P h') : SI P Z K C cell f cf cs fa sa h' :=
  ⟨rb, x.hz.mono k.size, fun a o e => k.keep _ _ (x.kin a o e) (x.knt a o e) (by simp), x.knt, x.lc.keeps x.rb.tb k, k.cell x.ic x.hc (by simp), x.hc⟩
theorem K_lt {Q : Value → Shared → Prop} (kx : KX P.mg K cell C) (si : SI P Z K C cell f cf cs fa sa h) (ht : 0 < t) (sl : Sl 5 A) {x y : Addr} {i j : Nat} (hx : KI C h x i) (hy : KI C h y j) (hi : i < 6) (hj : j < 6) {f1 : Addr} (hf1 : findIn K (.ref C) "__lt__" = some (some (.ref f1)))
    (hq : ∀ h' tk, 0 < tk → Keep [] h h' → RB P h' → Q (.bool (ltF fa sa i j)) ⟨h', g, d, tk, os⟩) :
    wpAny (model prog w) A (call (.ref f1) [.ref x, .ref y]) Q E ⟨h, g, d, t, os⟩ := by
  obtain ⟨p, X, Y, n, kz⟩ := kx
  have k := kz.f
  have ef := k.lt
  rw [hf1] at ef
  cases ef
  obtain ⟨dx, a, ex, edx, hx100, hdx100⟩ := hx
  obtain ⟨dy, b, ey, edy, hy100, hdy100⟩ := hy
  obtain ⟨c', ctv, hf, hrec⟩ := si.lc.fn
  have rb := si.rb
  refine call_clo (fd := p.d1 P.mg cell) (body := bodyOf (cst 3)) (binds := [(("self" : Str), .ref x), (("other" : Str), .ref y)]) sl.room (si.kin _ _ k.lf) rfl (kz.c1.crec si.kin) rb.nolimit (by kernel_rfl) (names_nocell (by kernel_rfl)) ?_ (by kernel_rfl) (by kernel_rfl) (by kernel_rfl) fun h2 hns k2 => ?_
  · intro y hy
    simp only [List.mem_cons, List.not_mem_nil, or_false] at hy
    rcases hy with rfl | rfl <;> kernel_rfl
  have sz : h.objs.size ≤ h2.objs.size := Nat.le_of_lt hns.lt
  have kk : Keep [] h h2 := .all sz k2
  have rb2 : RB P h2 := rb.keeps sz k2
  have F : ∀ h3, h3 = h2 → PyProof.Rows.Fr h h.objs.size h3 (fun z => List.lookup z [(("other" : Str), Value.ref y), (("self" : Str), Value.ref x)]) := fun h3 e => by subst e; exact ⟨hns, k2, Nat.le_refl _⟩
  have ek : (clEnv (p.d1 P.mg cell) h.objs.size p.f1).scope.kind = .function := by kernel_rfl
  have es : (clEnv (p.d1 P.mg cell) h.objs.size p.f1).kindOf "self" = some .local := by kernel_rfl
  have eo : (clEnv (p.d1 P.mg cell) h.objs.size p.f1).kindOf "other" = some .local := by kernel_rfl
  have em : (clEnv (p.d1 P.mg cell) h.objs.size p.f1).kindOf "mycmp" = some .free := by kernel_rfl
  have ec : (clEnv (p.d1 P.mg cell) h.objs.size p.f1).cells.lookup (("mycmp" : Str)) = some cell := by kernel_rfl
  have el : (clEnv (p.d1 P.mg cell) h.objs.size p.f1).locals = h.objs.size := rfl
  generalize clEnv (p.d1 P.mg cell) h.objs.size p.f1 = env at *
  obtain ⟨a1, a2, a3, a4, a5, a6, a7, a8, a9, kk0, hb⟩ := ltbody
  rw [hb]
  have ic2 : h2.IsCell cell (some (.ref f)) := let ⟨o, e, q⟩ := si.ic; ⟨o, k2 _ _ e, q⟩
  refine wpAny_execs_cons (wpAny_Return_some (wpAny_Compare1 ?_ (by rfl)))
  refine call_arm (wpAny_Name (wpAny_loadName_free (s := ⟨h2, g, d, t + 2, os⟩) ek em ec ic2 ?_ (by rfl)) (by rfl))
  refine PyProof.Rows.callWith_def (o := fnO (lfd P.mg [(("second" : Str), cs), (("first" : Str), cf)] c' ctv)) rfl ?_ (star_cons (by rfl) env)
  rw [star_cons (by rfl) env, back_cons, star_cons (by rfl) env, back_cons]
  refine Calls.spliced_cons (Attribute_name (wpAny_Name (wpAny_loadName_local (s := ⟨h2, g, d, t + 2, os⟩) ek es (by rw [el]; exact hns) (v := .ref x) (by kernel_rfl) ?_) (by rfl)))
  refine PySem.W.get_slot (s := ⟨h2, g, d, t + 2, os⟩) (F h2 rfl) si.kin (C := C) ⟨k2 _ _ ex, rfl, rfl, k2 _ _ edx⟩ k.plain k.isC k.obj k.get k.takes k.slot (v := .int i a) rfl rfl ?_
  refine Calls.spliced_cons (Attribute_name (wpAny_Name (wpAny_loadName_local (s := ⟨h2, g, d, t + 2 + 1, os⟩) ek eo (by rw [el]; exact hns) (v := .ref y) (by kernel_rfl) ?_) (by rfl)))
  refine PySem.W.get_slot (s := ⟨h2, g, d, t + 2 + 1, os⟩) (F h2 rfl) si.kin (C := C) ⟨k2 _ _ ey, rfl, rfl, k2 _ _ edy⟩ k.plain k.isC k.obj k.get k.takes k.slot (v := .int j b) rfl rfl ?_
  refine Calls.spliced_nil ⟨k2 _ _ hf, ?_⟩
  have s4 : Sl 4 (A.deeper env) := sl.deeper env
  refine lc_call (mg := P.mg) (s := ⟨h2, g, d, t + 2 + 1 + 1, os⟩) rb2 (Nat.succ_pos _) (si.hz.mono sz) (s4.mono (by decide)) (si.lc.keeps rb.tb kk) hi hj fun v h3 tk3 tp3 k3 rb3 rv => ?_
  cases rv with
  | sc q => cases q with
    | flt _ tf0 hp0 =>
      show wpAny _ _ (mkInt 0) _ _ _
      refine wpAny_mkInt ?_
      exact PyProof.Rows.lt_fi (hq h3 _ (Nat.succ_pos _) (kk.trans k3) rb3)
end
end Mine
end
section
set_option maxHeartbeats 400000
set_option pp.maxSteps 2500
set_option pp.deepTerms false
set_option pp.deepTerms.threshold 14
namespace Mine
open PySem PyProof.Rows PySem.Builtin PySem.Calls
open PySem.W (KasT kas_sort)
noncomputable def kev {α : Type} (lt : Nat → Nat → Bool) : KasT α → α
  | .ret a => a
  | .ask i j k => kev lt (k (lt i j))
noncomputable def bnd {α : Type} (n : Nat) : KasT α → Bool
  | .ret _ => true
  | .ask i j k => decide (i < n) && decide (j < n) && bnd n (k true) && bnd n (k false)
theorem kas_ev {α : Type} {n : Nat} {cmp : Nat → Nat → (Bool → Shared → Prop) → Shared → Prop} {lt : Nat → Nat → Bool} {Inv : Shared → Prop} {Q : α → Shared → Prop}
    (hc : ∀ i j s C, i < n → j < n → Inv s → (∀ s', Inv s' → C (lt i j) s') → cmp i j C s) : ∀ (t : KasT α) (s : Shared), bnd n t = true → Inv s → (∀ s', Inv s' → Q (kev lt t) s') → t.kasWp cmp Q s
  | .ret a, s, _, hi, hq => hq s hi
  | .ask i j k, s, hb, hi, hq => by
    unfold bnd at hb
    simp only [Bool.and_eq_true, decide_eq_true_eq] at hb
    obtain ⟨⟨⟨h1, h2⟩, h3⟩, h4⟩ := hb
    refine hc i j s _ h1 h2 hi fun s' hi' => ?_
    have hb' : bnd n (k (lt i j)) = true := by cases lt i j <;> assumption
    exact kas_ev hc (k (lt i j)) s' hb' hi' hq
/-! the order that the answers tell: rows of masks (less or like, less) -/
noncomputable abbrev Ord := List (Nat × Nat)
noncomputable def ord0 (n : Nat) : Ord := (List.range n).map fun a => (1 <<< a, 0)
noncomputable def addE (M : Ord) (u v : Nat) (st : Bool) : Ord :=
  match M[v]? with
  | some (wv, sv) => M.map fun (w, s) => bif w.testBit u then (w ||| wv, s ||| (bif st || s.testBit u then wv else sv)) else (w, s)
  | none => M
noncomputable def bad (M : Ord) : Bool := (M.zipIdx).any fun ((_, s), a) => s.testBit a
noncomputable def adj (M : Ord) : List Nat → Bool
  | a :: b :: r => (match M[a]? with
    | some (w, s) => bif a.blt b then w.testBit b else s.testBit b
    | none => false) && adj M (b :: r)
  | _ => true
noncomputable def leafOk (n : Nat) (M : Ord) (q : List Nat) : Bool := bad M || (q.length == n && q.foldl (fun m a => m ||| (1 <<< a)) 0 == 2 ^ n - 1 && q.all (fun a => a.blt n) && adj M q)
noncomputable def chk (n : Nat) : Ord → KasT (Array Nat) → Bool
  | M, .ret p => leafOk n M p.toList
  | M, .ask i j k => i.blt n && j.blt n && chk n (addE M i j true) (k true) && chk n (addE M j i false) (k false)
/-- the tree's branches, a level down -/
noncomputable def brs (n : Nat) : List (Ord × KasT (Array Nat)) → List (Ord × KasT (Array Nat))
  | [] => []
  | (M, .ret p) :: l => (M, .ret p) :: brs n l
  | (M, .ask i j k) :: l => bif i.blt n && j.blt n then (addE M i j true, k true) :: (addE M j i false, k false) :: brs n l else (M, .ask i j k) :: brs n l
theorem brs_ok {n : Nat} : ∀ {l : List (Ord × KasT (Array Nat))}, (∀ p ∈ brs n l, chk n p.1 p.2 = true) → ∀ p ∈ l, chk n p.1 p.2 = true
  | [], _, p, hp => absurd hp List.not_mem_nil
  | (M, .ret q) :: l, h, p, hp => by
    rcases List.mem_cons.mp hp with rfl | hp
    · exact h _ (.head _)
    · exact brs_ok (fun p hp => h p (.tail _ hp)) p hp
  | (M, .ask i j k) :: l, h, p, hp => by
    unfold brs at h
    cases hb : i.blt n && j.blt n with
    | false =>
      rw [hb] at h
      rcases List.mem_cons.mp hp with rfl | hp
      · exact h _ (.head _)
      · exact brs_ok (fun p hp => h p (.tail _ hp)) p hp
    | true =>
      rw [hb] at h
      rcases List.mem_cons.mp hp with rfl | hp
      · unfold chk
        rw [hb, h _ (.head _), h _ (.tail _ (.head _))]
        rfl
      · exact brs_ok (fun p hp => h p (.tail _ (.tail _ hp))) p hp
noncomputable def lv6 : List (Ord × KasT (Array Nat)) := brs 6 (brs 6 (brs 6 (brs 6 [(ord0 6, kas_sort 6)])))
noncomputable def at6 (i : Nat) : Bool := match lv6[i]? with
  | some p => chk 6 p.1 p.2
  | none => true
theorem lv6_len : lv6.length ≤ 16 := by decide +kernel
theorem at6_ok (i : Nat) (hi : i < 16) : at6 i = true := by
  have e : i = 0 ∨ i = 1 ∨ i = 2 ∨ i = 3 ∨ i = 4 ∨ i = 5 ∨ i = 6 ∨ i = 7 ∨ i = 8 ∨ i = 9 ∨ i = 10 ∨ i = 11 ∨ i = 12 ∨ i = 13 ∨ i = 14 ∨ i = 15 := by omega
  rcases e with rfl | rfl | rfl | rfl | rfl | rfl | rfl | rfl | rfl | rfl | rfl | rfl | rfl | rfl | rfl | rfl
  all_goals decide +kernel
theorem chk6 : chk 6 (ord0 6) (kas_sort 6) = true := by
  have h : ∀ p ∈ lv6, chk 6 p.1 p.2 = true := fun p hp => by
    obtain ⟨i, hi⟩ := List.mem_iff_getElem?.mp hp
    have hl := Nat.lt_of_lt_of_le (List.getElem?_eq_some_iff.mp hi).1 lv6_len
    have := at6_ok i hl
    unfold at6 at this
    rw [hi] at this
    exact this
  exact brs_ok (brs_ok (brs_ok (brs_ok h))) (ord0 6, kas_sort 6) (.head _)
theorem chk2 : chk 2 (ord0 2) (kas_sort 2) = true := by decide +kernel
end Mine
end
section
set_option maxHeartbeats 400000
set_option pp.maxSteps 2500
set_option pp.deepTerms false
set_option pp.deepTerms.threshold 14
namespace Mine
open PySem PyProof.Rows PySem.Builtin PySem.Calls
open PySem.W (KasT kas_sort)
theorem chk_bnd {n : Nat} : ∀ {t : KasT (Array Nat)} {M : Ord}, chk n M t = true → bnd n t = true
  | .ret _, _, _ => rfl
  | .ask i j k, M, h => by
    unfold chk at h
    simp only [Bool.and_eq_true, Nat.blt_eq] at h
    obtain ⟨⟨⟨h1, h2⟩, h3⟩, h4⟩ := h
    unfold bnd
    simp only [Bool.and_eq_true, decide_eq_true_eq]
    exact ⟨⟨⟨h1, h2⟩, chk_bnd h3⟩, chk_bnd h4⟩
noncomputable def Sound (M : Ord) (r : Nat → Int) : Prop := ∀ a w s, M[a]? = some (w, s) → ∀ b, (w.testBit b = true → r a ≤ r b) ∧ (s.testBit b = true → r a < r b)
theorem sound0 (n : Nat) (r : Nat → Int) : Sound (ord0 n) r := fun a w s e b => by
  unfold ord0 at e
  rw [List.getElem?_map] at e
  obtain ⟨x, hx, e⟩ := Option.map_eq_some_iff.mp e
  have hlt : a < n := by have := (List.getElem?_eq_some_iff.mp hx).1; simpa using this
  have hxa : x = a := by
    rw [List.getElem?_range hlt] at hx
    exact (Option.some.inj hx).symm
  rw [hxa] at e
  simp only [Prod.mk.injEq] at e
  obtain ⟨rfl, rfl⟩ := e
  refine ⟨fun h => ?_, fun h => by simp at h⟩
  rw [Nat.one_shiftLeft, Nat.testBit_two_pow] at h
  have : a = b := by simpa using h
  rw [this]; exact Int.le_refl _
theorem soundE {M : Ord} {r : Nat → Int} (h : Sound M r) {u v : Nat} {st : Bool} (e : if st = true then r u < r v else r u ≤ r v) : Sound (addE M u v st) r := by
  unfold addE
  cases hv : M[v]? with
  | none => exact h
  | some p =>
    obtain ⟨wv, sv⟩ := p
    intro a w s ea b
    rw [List.getElem?_map] at ea
    obtain ⟨⟨w0, s0⟩, hx, ea⟩ := Option.map_eq_some_iff.mp ea
    have ha := h a w0 s0 hx
    have hb := h v wv sv hv b
    have le : r u ≤ r v := by cases st <;> simp at e <;> omega
    cases hu : w0.testBit u with
    | false =>
      simp only [hu, cond_false, Prod.mk.injEq] at ea
      obtain ⟨rfl, rfl⟩ := ea
      exact ha b
    | true =>
      simp only [hu, cond_true, Prod.mk.injEq] at ea
      obtain ⟨rfl, rfl⟩ := ea
      have h1 := (ha u).1 hu
      rw [Nat.testBit_or, Nat.testBit_or, Bool.or_eq_true, Bool.or_eq_true]
      refine ⟨fun q => ?_, fun q => ?_⟩
      · rcases q with q | q
        · exact (ha b).1 q
        · have := hb.1 q; omega
      · rcases q with q | q
        · exact (ha b).2 q
        · cases hs : (st || s0.testBit u) with
          | false =>
            rw [hs] at q
            have := hb.2 q; omega
          | true =>
            rw [hs] at q
            have h3 := hb.1 q
            rw [Bool.or_eq_true] at hs
            rcases hs with hs | hs
            · subst hs
              simp at e; omega
            · have := (ha u).2 hs; omega
noncomputable def srt (r : Nat → Int) : List Nat → Prop
  | a :: b :: l => (r a < r b ∨ (r a = r b ∧ a < b)) ∧ srt r (b :: l)
  | _ => True
theorem adj_ok {M : Ord} {r : Nat → Int} (h : Sound M r) : ∀ {q : List Nat}, adj M q = true → srt r q
  | [], _ => trivial
  | [_], _ => trivial
  | a :: b :: l, e => by
    unfold adj at e
    rw [Bool.and_eq_true] at e
    refine ⟨?_, adj_ok h e.2⟩
    have e1 := e.1
    split at e1
    · rename_i w s hm
      cases hab : a.blt b with
      | true =>
        rw [hab] at e1
        have h1 := (h a w s hm b).1 e1
        have h2 : a < b := by simpa using hab
        omega
      | false =>
        rw [hab] at e1
        exact .inl ((h a w s hm b).2 e1)
    · cases e1
theorem bad_no {M : Ord} {r : Nat → Int} (h : Sound M r) : bad M = false := by
  cases hb : bad M with
  | false => rfl
  | true =>
    unfold bad at hb
    obtain ⟨⟨⟨w, s⟩, a⟩, hm, ht⟩ := List.any_eq_true.mp hb
    have := List.mem_zipIdx_iff_getElem?.mp hm
    exact absurd ((h a w s this a).2 ht) (by omega)
theorem chk_ok {n : Nat} {r : Nat → Int} {lt : Nat → Nat → Bool} (hl : ∀ i j, i < n → j < n → lt i j = decide (r i < r j)) : ∀ {t : KasT (Array Nat)} {M : Ord}, chk n M t = true → Sound M r →
    (kev lt t).toList.length = n ∧ (kev lt t).toList.foldl (fun m a => m ||| (1 <<< a)) 0 = 2 ^ n - 1 ∧ (∀ a ∈ (kev lt t).toList, a < n) ∧ srt r (kev lt t).toList
  | .ret p, M, h, hs => by
    unfold chk leafOk at h
    rw [bad_no hs, Bool.false_or] at h
    simp only [Bool.and_eq_true, beq_iff_eq, List.all_eq_true, Nat.blt_eq] at h
    obtain ⟨⟨⟨h1, h2⟩, h3⟩, h4⟩ := h
    exact ⟨h1, h2, h3, adj_ok hs h4⟩
  | .ask i j k, M, h, hs => by
    unfold chk at h
    simp only [Bool.and_eq_true, Nat.blt_eq] at h
    obtain ⟨⟨⟨h1, h2⟩, h3⟩, h4⟩ := h
    show _ ∧ _
    unfold kev
    rw [hl i j h1 h2]
    by_cases hr : r i < r j
    · rw [decide_eq_true hr]
      exact chk_ok hl h3 (soundE hs (by rw [if_pos rfl]; exact hr))
    · rw [decide_eq_false hr]
      exact chk_ok hl h4 (soundE hs (by rw [if_neg (by decide)]; omega))
end Mine
end
section
set_option maxHeartbeats 1000000
set_option pp.maxSteps 2500
set_option pp.deepTerms false
set_option pp.deepTerms.threshold 14
namespace Mine
open PySem PyProof.Rows PySem.Builtin PySem.Calls
open PySem.W (Frag findIn KasT kas_sort kas_item kas_st kas_cmp kas_runs kas_kind kas_range)
/-- the keys that are made -/
noncomputable def KIv (C : Addr) (h : Heap) (v : Value) (i : Nat) : Prop := ∃ x, v = .ref x ∧ KI C h x i
noncomputable def IV (v : Value) (i : Nat) : Prop := ∃ t, v = .int i t
theorem KIv.keeps {C : Addr} {h h' : Heap} {v : Value} {i : Nat} (k : KIv C h v i) (e : Keep [] h h') : KIv C h' v i := let ⟨x, q, r⟩ := k; ⟨x, q, r.keeps e⟩
/-- a list turns: the keys stand -/
theorem KIv.turn {C a : Addr} {h h' : Heap} {v : Value} {i : Nat} (k : KIv C h v i) (sb : Heap.SameBut a h h') {o : Obj} (g : h.get? a = some o) (hc : o.cls = .type "list") : KIv C h' v i := by
  obtain ⟨x, q, dx, t, e1, e2, b1, b2⟩ := k
  refine ⟨x, q, dx, t, (sb.2 _ fun e => ?_).trans e1, (sb.2 _ fun e => ?_).trans e2, b1, b2⟩
  · rw [e, g] at e1; cases e1; cases hc
  · rw [e, g] at e2; cases e2; exact absurd hc (show ¬ Value.type "dict" = .type "list" by decide)
noncomputable abbrev lo (xs : Array Value) (n : Nat) : Obj := seqObj "list" xs n
/-- what stays while a sort goes on -/
structure SJ (P : Pm) (h0 h : Heap) (t : Nat) : Prop where
  tp : 0 < t
  kp : Keep [] h0 h
  rb : RB P h
section
variable {prog : Program} {w : World} {A : Around} {E : Value → Shared → Prop} {g : Array GenState} {d : Drawn} {os : OsState} {P : Pm} {Z : Addr → Prop} {K : Frag} {C cell f cf cs : Addr} {fa sa : List UInt64} {h0 : Heap}
theorem SJ.turn {h h' : Heap} {t a : Nat} {xs : Array Value} {n : Nat} (j : SJ P h0 h t) (sb : Heap.SameBut a h h') (e : h.get? a = some (lo xs n)) (ha : h0.objs.size ≤ a) (h100 : 100 ≤ h0.objs.size) : SJ P h0 h' t :=
  ⟨j.tp, j.kp.newer sb ha, j.rb.turn sb e (.inr (.inl rfl)) (Nat.le_trans h100 ha)⟩
theorem SJ.push {h : Heap} {t : Nat} (j : SJ P h0 h t) (o : Obj) : SJ P h0 (h.push o) t := ⟨j.tp, j.kp.trans (Keep.push h o), j.rb.push o⟩
theorem SJ.next {h h' : Heap} {t t' : Nat} (j : SJ P h0 h t) (tp : 0 < t') (k : Keep [] h h') (rb : RB P h') : SJ P h0 h' t' := ⟨tp, j.kp.trans k, rb⟩
/-- the keys: one after the other -/
theorem key_loop {a kS e1 : Nat} {vs : List Value} {js : List Nat} {t : Nat} {h : Heap} {Q : PUnit → Shared → Prop} (kx : KX P.mg K cell C) (si : SI P Z K C cell f cf cs fa sa h0) (h100 : 100 ≤ h0.objs.size) (hdp : A.depth ≤ 600)
    (hv : Paired IV vs js) (hlen : js.length ≤ 60) (j : SJ P h0 h t) (ha : h.get? a = some (lo #[] e1)) (hk : h.get? kS = some (lo #[] 0)) (ha0 : h0.objs.size ≤ a) (hk0 : h0.objs.size ≤ kS) (hne : kS ≠ a)
    (hq : ∀ h' tk kA e, SJ P h0 h' tk → h'.get? a = some (lo #[] e1) → h'.get? kS = some (lo kA e) → Paired (KIv C h') kA.toList js → Q ⟨⟩ ⟨h', g, d, tk, os⟩) :
    wpAny (model prog w) A (forIn vs PUnit.unit fun x _ => do
      match ← (call (.ref C) [x]).attempt with
      | .ok k => do Builtin.List.listUpdate (.ref kS) (·.push k); pure (.yield ⟨⟩)
      | .error e => do
        rule "list.sort.key-raised"
        let made ← Builtin.List.listItems (.ref kS)
        Builtin.List.listUpdate (.ref kS) fun _ => #[]
        letGo made.toList.reverse [e]
        Builtin.List.listUpdate (.ref a) fun _ => vs.toArray
        throw e
        pure (.yield PUnit.unit)) Q E ⟨h, g, d, t, os⟩ := by
  refine ksk_fold (fun i s' => ∃ h' tk kA e, s' = ⟨h', g, d, tk, os⟩ ∧ SJ P h0 h' tk ∧ h'.get? a = some (lo #[] e1) ∧ h'.get? kS = some (lo kA e) ∧ Paired (KIv C h') kA.toList (js.take i)) vs 0 _ ⟨h, t, #[], 0, rfl, j, ha, hk, .nil⟩ ?step ?done
  case step =>
    rintro n x s' hx ⟨h', tk, kA, e, rfl, j', ha', hk', pk⟩
    simp only [Nat.zero_add] at pk ⊢
    have hz := paired_len hv
    have hn : n < vs.length := (List.getElem?_eq_some_iff.mp hx).1
    obtain ⟨i, hi⟩ : ∃ i, js[n]? = some i := ⟨_, List.getElem?_eq_getElem (by omega)⟩
    obtain ⟨x', hx', ti0, rfl⟩ := paired_get hv hi
    rw [hx] at hx'; cases hx'
    have hz2 : kA.size ≤ n := by
      have := paired_len pk
      rw [Array.length_toList, List.length_take] at this
      omega
    have si' := si.keeps j'.kp j'.rb
    refine wpAny_bind (wpAny_attempt (wpAny_with_toks (Nat.le_refl tk) (K_make kx si'.kin j'.rb.nolimit hdp fun y dy h2 tk2 k2 z2 ly ldy ey edy tl => ?_)))
    have kp2 : Keep [] h' h2 := .all z2 k2
    have j2 := j'.next (Nat.lt_of_lt_of_le j'.tp tl) kp2 (j'.rb.keeps z2 k2)
    have hk2 := k2 _ _ hk'
    have ha2 := k2 _ _ ha'
    have b1 : 100 ≤ h'.objs.size := Nat.le_trans h100 j'.kp.size
    have s1 := Heap.SameBut.update h2 kS (Obj.mapSeq (·.push (.ref y)))
    obtain ⟨c2, hc2⟩ : ∃ c2, (h2.update kS (Obj.mapSeq (·.push (.ref y)))).get? kS = some (lo (kA.push (.ref y)) c2) := ⟨_, get?_update_seq hk2 (·.push (.ref y))⟩
    refine wpAny_bind (listUpdate_at (s := ⟨h2, g, d, tk2, os⟩) hk2 rfl ?_ (by rw [sizeLine_eq]; omega) (Nat.le_trans (Nat.le_of_eq (Array.size_push ..)) (by rw [sizeLine_eq]; omega)))
    have e1' : js.take (n + 1) = js.take n ++ [i] := by rw [List.take_add_one, hi]; simp
    have e2' : (kA.push (Value.ref y)).toList = kA.toList ++ [Value.ref y] := by simp
    refine wpAny_pure ⟨rfl, _, tk2, kA.push (.ref y), c2, rfl, j2.turn s1 hk2 hk0 h100, (s1.2 a (Ne.symm hne)).trans ha2, hc2, ?_⟩
    rw [e1', e2']
    refine paired_snoc (paired_mono (fun u b r => (r.keeps kp2).turn s1 hk2 rfl) pk) (KIv.turn (a := kS) ⟨y, rfl, dy, ti0, ey, edy, Nat.le_trans b1 ly, Nat.le_trans b1 ldy⟩ s1 hk2 rfl)
  case done =>
    rintro s' ⟨h', tk, kA, e, rfl, j', ha', hk', pk⟩
    have : js.take (0 + vs.length) = js := List.take_of_length_le (by have := paired_len hv; omega)
    rw [this] at pk
    exact hq h' tk kA e j' ha' hk' pk
end
end Mine
end
section
set_option maxHeartbeats 1000000
set_option pp.maxSteps 2500
set_option pp.deepTerms false
set_option pp.deepTerms.threshold 14
namespace Mine
open PySem PyProof.Rows PySem.Builtin PySem.Calls
open PySem.W (Frag findIn KasT kas_sort kas_item kas_st kas_cmp kas_runs kas_kind kas_range)
theorem BoolBack_of {Q : Bool → Shared → Prop} {b : Bool} {s : Shared} (h : Q b s) : PySem.W.BoolBack Q (.bool b) s := h
section
variable {prog : Program} {w : World} {A : Around} {E : Value → Shared → Prop} {g : Array GenState} {d : Drawn} {os : OsState} {P : Pm} {Z : Addr → Prop} {K : Frag} {C cell f cf cs : Addr} {fa sa : List UInt64} {h0 : Heap}
theorem K_ask {h h1 : Heap} {t : Nat} {it : Array Keyed} {js : List Nat} {i j : Nat} {Cc : Bool → Shared → Prop} (kx : KX P.mg K cell C) (si : SI P Z K C cell f cf cs fa sa h0) (sl : Sl 5 A)
    (jj : SJ P h0 h t) (k1 : Keep [] h1 h) (hk : Paired (KIv C h1) (it.toList.map (·.1)) js) (hj6 : ∀ x ∈ js, x < 6) (hi : i < js.length) (hj : j < js.length)
    (hq : ∀ h' tk, SJ P h0 h' tk → Keep [] h1 h' → Cc (ltF fa sa (js.getD i 0) (js.getD j 0)) ⟨h', g, d, tk, os⟩) : kas_cmp prog w A oneType' it i j Cc ⟨h, g, d, t, os⟩ := by
  have item : ∀ n, n < js.length → ∃ x, (kas_item it n).1 = .ref x ∧ KI C h1 x (js.getD n 0) := fun n hn => by
    have e : js[n]? = some (js.getD n 0) := by simp [hn]
    obtain ⟨v, ev, x, rfl, kk⟩ := paired_get hk e
    rw [List.getElem?_map] at ev
    obtain ⟨p, ep, rp⟩ := Option.map_eq_some_iff.mp ev
    rw [Array.getElem?_toList] at ep
    refine ⟨x, ?_, kk⟩
    unfold kas_item
    rw [Array.getD_eq_getD_getElem?, ep]
    exact rp
  obtain ⟨x, ex, kx1⟩ := item i hi
  obtain ⟨y, ey, ky1⟩ := item j hj
  unfold kas_cmp
  rw [ex, ey]
  have si' := si.keeps jj.kp jj.rb
  obtain ⟨p, X, Y, n, kz⟩ := id kx
  have k := kz.f
  have kx' := kx1.keeps k1
  have ky' := ky1.keeps k1
  obtain ⟨dx, tx, ox, odx, _⟩ := id kx'
  rw [keyLt'_oneType, oneLt'_eq]
  simp only [if_true]
  refine wpAny_bind (wpAny_cRoomFor sl.unit ?_)
  have hfn : PySem.W.isFn K (.ref p.f1) = true := by unfold PySem.W.isFn; rw [k.tf]; rfl
  have hmem : ∀ n, n < js.length → js.getD n 0 < 6 := fun n hn => by
    refine hj6 _ ?_
    have e : js[n]? = some (js.getD n 0) := by simp [hn]
    exact List.mem_of_getElem? e
  refine wpAny_bind (PySem.W.ifBound_K (s := ⟨h, g, d, t, os⟩) (C := C) (ox := kO C dx (.int (js.getD i 0) tx)) (od := some PySem.W.emptyDict) si'.kin ⟨ox, rfl, rfl, odx⟩ k.lt hfn (K_lt (f1 := p.f1) kx si' jj.tp sl kx' ky' (hmem i hi) (hmem j hj) k.lt fun h' tk tp kp rb => ?_))
  exact wpAny_truthy_bool (hq h' tk (jj.next tp kp rb) (k1.trans kp))
theorem tail_K {h : Heap} {t a kS e1 c : Nat} {keys out : Array Value} {stt : SortSt} {Q : PySem.Fin → Shared → Prop} (h100 : 100 ≤ h0.objs.size) (jj : SJ P h0 h t) (ha : h.get? a = some (lo #[] e1)) (hk : h.get? kS = some (lo keys c)) (ha0 : h0.objs.size ≤ a) (hk0 : h0.objs.size ≤ kS) (hne : kS ≠ a)
    (ho : (arrOf stt).map (·.2) = out) (hf : failedOf stt = none) (hz : keys.size ≤ 60) (hz2 : out.size ≤ 60)
    (hq : ∀ h' c, SJ P h0 h' t → h'.get? a = some (lo out c) → Q (.done (.ret .none)) ⟨h', g, d, t, os⟩) : wpAny (model prog w) A (ksk_tail a false e1 (.ref kS) stt) Q E ⟨h, g, d, t, os⟩ := by
  have s1 := Heap.SameBut.update h kS (Obj.mapSeq fun _ => (#[] : Array Value))
  have j1 := jj.turn s1 hk hk0 h100
  have ha1 := (s1.2 a (Ne.symm hne)).trans ha
  have s2 := Heap.SameBut.update (h.update kS (Obj.mapSeq fun _ => (#[] : Array Value))) a (Obj.mapSeq fun _ => out)
  obtain ⟨c2, hc2⟩ : ∃ c2, ((h.update kS (Obj.mapSeq fun _ => (#[] : Array Value))).update a (Obj.mapSeq fun _ => out)).get? a = some (lo out c2) := ⟨_, get?_update_seq ha1 fun _ => out⟩
  unfold ksk_tail
  dsimp only
  rw [ho]
  refine wpAny_bind (listUpdate_at (s := ⟨h, g, d, t, os⟩) hk rfl ?_ (by rw [sizeLine_eq]; omega) (Nat.zero_le _))
  refine wpAny_bind (wpAny_letGo ?_)
  refine wpAny_bind (seqEpoch_at ha1 rfl ?_)
  refine wpAny_bind (listUpdate_at ha1 rfl ?_ (Nat.zero_le _) (Nat.le_trans hz2 (by rw [sizeLine_eq]; omega)))
  rw [hf]
  simp only [bne_self_eq_false, Bool.false_eq_true, if_false]
  exact wpAny_pure (hq _ c2 (j1.turn s2 ha1 ha0 h100) hc2)
theorem zip_fst' {α β : Type} : ∀ {l : List α} {m : List β}, l.length = m.length → (l.zip m).map (·.1) = l
  | [], [], _ => rfl
  | a :: l, b :: m, h => by rw [List.zip_cons_cons, List.map_cons, zip_fst' (by simpa using h)]
theorem zip_getD {l m : List Value} (hz : l.length = m.length) (i : Nat) : (((l.toArray.zip m.toArray) : Array Keyed).getD i (.none, .none)).2 = m.getD i .none := by
  by_cases h : i < m.length
  · simp [h, hz]
  · simp [h, hz]
theorem end_K {h : Heap} {t a kS e1 c : Nat} {keys : Array Value} {vs : List Value} {js : List Nat} {Q : PySem.Fin → Shared → Prop} (kx : KX P.mg K cell C) (si : SI P Z K C cell f cf cs fa sa h0) (sl : Sl 5 A) (h100 : 100 ≤ h0.objs.size)
    (jj : SJ P h0 h t) (ha : h.get? a = some (lo #[] e1)) (hkS : h.get? kS = some (lo keys c)) (ha0 : h0.objs.size ≤ a) (hk0 : h0.objs.size ≤ kS) (hne : kS ≠ a)
    (hk : Paired (KIv C h) keys.toList js) (hv : vs.length = js.length) (hj6 : ∀ x ∈ js, x < 6) (h2 : 2 ≤ js.length) (h60 : js.length ≤ 60) (hc : bnd js.length (kas_sort js.length) = true)
    (hq : ∀ h' tk c, SJ P h0 h' tk → h'.get? a = some (lo (((kev (fun i j => ltF fa sa (js.getD i 0) (js.getD j 0)) (kas_sort js.length)).toList.map fun i => vs.getD i .none).toArray) c) → (kev (fun i j => ltF fa sa (js.getD i 0) (js.getD j 0)) (kas_sort js.length)).size = js.length → Q (.done (.ret .none)) ⟨h', g, d, tk, os⟩) :
    wpAny (model prog w) A (ksk_end a false vs.toArray e1 (.ref kS) keys) Q E ⟨h, g, d, t, os⟩ := by
  have hks : keys.size = js.length := by have := paired_len hk; rwa [Array.length_toList] at this
  have hvs : vs.toArray.size = js.length := by rw [List.size_toArray, hv]
  have hzs : (keys.zip vs.toArray).size = js.length := by rw [Array.size_zip, hks, hvs, Nat.min_self]
  have hn2 : ¬ vs.toArray.size < 2 := by rw [hvs]; omega
  unfold ksk_end
  dsimp only
  rw [if_neg (by decide), if_neg hn2, if_neg hn2]
  have hT : ∀ v ∈ keys.toList, PySem.W.Looks (model prog w) h (typeOf v) (.ref C) := fun v hv => by
    obtain ⟨n, hn⟩ := List.mem_iff_getElem?.mp hv
    have hlt : n < js.length := by have := (List.getElem?_eq_some_iff.mp hn).1; rw [Array.length_toList, hks] at this; exact this
    obtain ⟨v', e', x, rfl, dx, tx, ex, edx, _⟩ := paired_get hk (show js[n]? = some (js.getD n 0) by simp [hlt])
    rw [hn] at e'; cases e'
    exact (PySem.W.Looks.ld ex).andThen .now
  have kk : keys = keys.toList.toArray := by simp
  refine wpAny_bind ?_
  rw [show keyKind' keys = keyKind' keys.toList.toArray from by rw [← kk]]
  refine kas_kind (s := ⟨h, g, d, t, os⟩) (by rw [Array.length_toList, hks]; exact h2) hT (by simp) (by simp) ?_
  have est : SortSt.mk' oneType' (keys.zip vs.toArray) #[] 7 none = kas_st oneType' (keys.zip vs.toArray) (List.toArray (List.range js.length)) := by
    have e := kas_range (keys.zip vs.toArray)
    rw [hzs] at e
    show _ = SortSt.mk' oneType' ((List.toArray (List.range js.length)).map (kas_item (keys.zip vs.toArray))) #[] 7 none
    rw [e]
  rw [if_neg (by decide), est]
  have hk1 : Paired (KIv C h) ((keys.zip vs.toArray).toList.map (·.1)) js := by
    rw [Array.toList_zip, zip_fst' (by rw [Array.length_toList, hks, List.toList_toArray, hv])]
    exact hk
  have run := kas_runs (prog := prog) (w := w) (A := A) (κ := oneType') (it := keys.zip vs.toArray) (s := ⟨h, g, d, t, os⟩) (E := E) (Q := fun _ st' s' => ∃ p : Array Nat, p = kev (fun i j => ltF fa sa (js.getD i 0) (js.getD j 0)) (kas_sort js.length) ∧ p.size = js.length ∧ arrOf st' = p.map (kas_item (keys.zip vs.toArray)) ∧ failedOf st' = none ∧ ∃ h' tk, s' = ⟨h', g, d, tk, os⟩ ∧ SJ P h0 h' tk ∧ Keep [] h h')
    (G := fun p s' => p = kev (fun i j => ltF fa sa (js.getD i 0) (js.getD j 0)) (kas_sort js.length) ∧ ∃ h' tk, s' = ⟨h', g, d, tk, os⟩ ∧ SJ P h0 h' tk ∧ Keep [] h h')
    h2 (by omega) (fun p' st' s' a1 a2 a3 a4 => ⟨p', a4.1, a1, a2, a3, a4.2⟩)
    (kas_ev (n := js.length) (lt := fun i j => ltF fa sa (js.getD i 0) (js.getD j 0)) (Inv := fun s' => ∃ h' tk, s' = ⟨h', g, d, tk, os⟩ ∧ SJ P h0 h' tk ∧ Keep [] h h')
      (fun i j s' Cc hi hj inv hC => by
        obtain ⟨h', tk, rfl, jj', k'⟩ := inv
        exact K_ask kx si sl jj' k' hk1 hj6 hi hj fun h'' tk' j'' k'' => hC _ ⟨h'', tk', rfl, j'', k''⟩) (kas_sort js.length) _ hc ⟨h, t, rfl, jj, Keep.refl _ _⟩ (fun s' inv => ⟨rfl, inv⟩))
  refine wpAny_bind (wpAny_mono run ?_ fun _ _ e => e)
  rintro ⟨⟨⟩, st'⟩ s' ⟨p, rfl, hp, har, hf, h', tk, rfl, jj', k'⟩
  dsimp only
  have n100 : ∀ {b : Addr}, h0.objs.size ≤ b → NT b := fun hb => nt_hi (Nat.le_trans h100 hb)
  have ha' := k'.keep _ _ ha (n100 ha0) (by simp)
  have hk' := k'.keep _ _ hkS (n100 hk0) (by simp)
  have hout : (arrOf st').map (·.2) = ((kev (fun i j => ltF fa sa (js.getD i 0) (js.getD j 0)) (kas_sort js.length)).toList.map fun i => vs.getD i .none).toArray := by
    apply Array.toList_inj.mp
    rw [har, Array.map_map, Array.toList_map, List.toList_toArray]
    refine List.map_congr_left fun i _ => ?_
    show (kas_item (keys.zip vs.toArray) i).2 = _
    unfold kas_item
    rw [kk]
    exact zip_getD (by rw [Array.length_toList, hks, hv]) i
  refine tail_K h100 jj' ha' hk' ha0 hk0 hne hout hf (by omega) (by rw [List.size_toArray, List.length_map, Array.length_toList, hp]; exact h60) fun h2 c2 j2 e2 => hq h2 tk c2 j2 e2 hp
end
end Mine
end
section
set_option maxHeartbeats 1000000
set_option pp.maxSteps 2500
set_option pp.deepTerms false
set_option pp.deepTerms.threshold 14
namespace Mine
open PySem PyProof.Rows PySem.Builtin PySem.Calls
open PySem.W (Frag findIn KasT kas_sort kas_item kas_st kas_cmp kas_runs kas_kind kas_range)
section
variable {prog : Program} {w : World} {A : Around} {E : Value → Shared → Prop} {g : Array GenState} {d : Drawn} {os : OsState} {P : Pm} {Z : Addr → Prop} {K : Frag} {C cell f cf cs : Addr} {fa sa : List UInt64} {h0 : Heap}
noncomputable abbrev sortP (fa sa : List UInt64) (js : List Nat) : Array Nat := kev (fun i j => ltF fa sa (js.getD i 0) (js.getD j 0)) (kas_sort js.length)
theorem sort_K {h : Heap} {t a n : Nat} {vs : List Value} {js : List Nat} {Q : PySem.Fin → Shared → Prop} (kx : KX P.mg K cell C) (si : SI P Z K C cell f cf cs fa sa h0) (sl : Sl 5 A) (hdp : A.depth ≤ 600) (h100 : 100 ≤ h0.objs.size)
    (jj : SJ P h0 h t) (ha : h.get? a = some (lo vs.toArray n)) (ha0 : h0.objs.size ≤ a)
    (hv : Paired IV vs js) (hj6 : ∀ x ∈ js, x < 6) (h2 : 2 ≤ js.length) (h60 : js.length ≤ 60) (hc : bnd js.length (kas_sort js.length) = true)
    (hq : ∀ h' tk c, SJ P h0 h' tk → h'.get? a = some (lo ((sortP fa sa js).toList.map fun i => vs.getD i .none).toArray c) → (sortP fa sa js).size = js.length → Q (.done (.ret .none)) ⟨h', g, d, tk, os⟩) :
    wpAny (model prog w) A (ksk_tree a (.ref C) false) Q E ⟨h, g, d, t, os⟩ := by
  have hvl := paired_len hv
  have s1 := Heap.SameBut.update h a (Obj.mapSeq fun _ => (#[] : Array Value))
  obtain ⟨e1, ho1⟩ : ∃ e1, (h.update a (Obj.mapSeq fun _ => (#[] : Array Value))).get? a = some (lo #[] e1) := ⟨_, get?_update_seq ha fun _ => #[]⟩
  have j1 := jj.turn s1 ha ha0 h100
  have hzu : (h.update a (Obj.mapSeq fun _ => (#[] : Array Value))).objs.size = h.objs.size := Heap.size_update ..
  have hal := Heap.lt_size ha
  unfold ksk_tree
  refine wpAny_bind (listItems_at (s := ⟨h, g, d, t, os⟩) ha rfl ?_)
  refine wpAny_bind (listUpdate_at (s := ⟨h, g, d, t, os⟩) ha rfl ?_ (by rw [List.size_toArray, sizeLine_eq]; omega) (Nat.zero_le _))
  refine wpAny_bind (seqEpoch_at ho1 rfl ?_)
  refine wpAny_bind (wpAny_newTuple ?_ (by show vs.length ≤ _; rw [sizeLine_eq]; omega))
  refine wpAny_bind (wpAny_newList ?_ (Nat.zero_le _))
  refine wpAny_holding ?_
  have j2 := (j1.push (seqObj "tuple" vs.toArray 0)).push (lo #[] 0)
  have hkS : (((h.update a (Obj.mapSeq fun _ => (#[] : Array Value))).push (seqObj "tuple" vs.toArray 0)).push (lo #[] 0)).get? ((h.update a (Obj.mapSeq fun _ => (#[] : Array Value))).push (seqObj "tuple" vs.toArray 0)).objs.size = some (lo #[] 0) := Heap.get?_push_size _ rfl
  have ha2 : (((h.update a (Obj.mapSeq fun _ => (#[] : Array Value))).push (seqObj "tuple" vs.toArray 0)).push (lo #[] 0)).get? a = some (lo #[] e1) := Heap.get?_push_of_some _ (Heap.get?_push_of_some _ ho1)
  have hkz : ((h.update a (Obj.mapSeq fun _ => (#[] : Array Value))).push (seqObj "tuple" vs.toArray 0)).objs.size = h.objs.size + 1 := by rw [Heap.size_push, hzu]
  change wpAny _ _ (ksk_rest a (.ref C) false vs.toArray e1 (.ref ((h.update a (Obj.mapSeq fun _ => (#[] : Array Value))).push (seqObj "tuple" vs.toArray 0)).objs.size)) _ _ ⟨((h.update a (Obj.mapSeq fun _ => (#[] : Array Value))).push (seqObj "tuple" vs.toArray 0)).push (lo #[] 0), g, d, t, os⟩
  generalize ((h.update a (Obj.mapSeq fun _ => (#[] : Array Value))).push (seqObj "tuple" vs.toArray 0)).push (lo #[] 0) = hh at j2 hkS ha2 ⊢
  generalize ((h.update a (Obj.mapSeq fun _ => (#[] : Array Value))).push (seqObj "tuple" vs.toArray 0)).objs.size = kS at hkS hkz ⊢
  have hne : kS ≠ a := by rw [hkz]; exact Nat.ne_of_gt (Nat.lt_succ_of_lt hal)
  have hk0 : h0.objs.size ≤ kS := by rw [hkz]; exact Nat.le_succ_of_le jj.kp.size
  unfold ksk_rest
  refine wpAny_bind (wpAny_rule ?_)
  rw [List.forIn_toArray]
  refine wpAny_bind (key_loop kx si h100 hdp hv (by omega) j2 ha2 hkS ha0 hk0 hne fun h' tk kA e j' ha' hk' pk => ?_)
  refine wpAny_bind (listItems_at (s := ⟨h', g, d, tk, os⟩) hk' rfl ?_)
  exact end_K kx si sl h100 j' ha' hk' ha0 hk0 hne pk hvl hj6 h2 h60 hc fun h'' tk'' c j'' e'' hz => hq h'' tk'' c j'' e'' hz
end
end Mine
end
section
set_option maxHeartbeats 1000000
set_option pp.maxSteps 2500
set_option pp.deepTerms false
set_option pp.deepTerms.threshold 14
namespace Mine
open PySem PyProof.Rows PySem.Builtin PySem.Calls
open PySem.W (Frag findIn KasT kas_sort kas_item kas_st kas_cmp kas_runs kas_kind kas_range)
section
variable {prog : Program} {w : World} {A : Around} {E : Value → Shared → Prop} {g : Array GenState} {d : Drawn} {os : OsState} {P : Pm} {Z : Addr → Prop} {K : Frag} {C cell f cf cs : Addr} {fa sa : List UInt64} {h0 : Heap}
/-- a source of numbers -/
noncomputable def Col (prog : Program) (w : World) (P : Pm) (A : Around) (E : Value → Shared → Prop) (g : Array GenState) (d : Drawn) (os : OsState) (h0 : Heap) (t : Nat) (src : Addr) (js : List Nat) : Prop :=
  ∀ Q : List Value → Shared → Prop, (∀ h' tk vs, SJ P h0 h' tk → Paired IV vs js → Q vs ⟨h', g, d, tk, os⟩) → wpAny (model prog w) A (collect (.ref src)) Q E ⟨h0, g, d, t, os⟩
theorem col_list {t : Nat} {src : Addr} {vs : List Value} {js : List Nat} (rb : RB P h0) (ht : 0 < t) (hp : h0.PlainList src vs.toArray) (hv : Paired IV vs js) (hz : js.length ≤ 60) : Col prog w P A E g d os h0 t src js := fun Q hq => by
  obtain ⟨n, go⟩ := hp
  refine with_size (n := h0.objs.size) (Nat.le_refl _) (wpAny_collect_seq (s := ⟨h0, g, d, t, os⟩) src (.inl rfl) go rfl rfl (fun h' hk sz => ?_) (by rw [List.size_toArray, paired_len hv, sizeLine_eq]; omega))
  rw [List.toList_toArray]
  exact hq h' t vs ⟨ht, .all sz hk, rb.keeps sz hk⟩ hv
theorem collect_range {s : Shared} {r : Addr} {a b c : Int} {t u v : Tok} {n : Nat} {Q : List Value → Shared → Prop} (hh : A.handled = none) (hr : IsRange s.heap r a b c t u v) (hsmall : Builtin.Range.small a b c = true)
    (hn : Builtin.Range.rangeSize a b c = n) (hlen : n ≤ 2 ^ 24)
    (hq : ∀ h' tk acc, (∀ b o, s.heap.get? b = some o → h'.get? b = some o) → ItemsOf (fun i v => ∃ t, v = .int (a + i * c) t) acc n → Q acc.toList (up s h' tk)) :
    wpAny (model prog w) A (collect (.ref r)) Q E s := by
  unfold collect
  refine wpAny_bind (wpAny_runValue (codeAny_builtin entry_proto_collect' ?_))
  rw [Around.under_plainId PySem.F.plain_proto_collect _]
  show wpAny _ A.in1 (newList [] >>= fun l => again (.builtin "list.__iadd__" ⟨[l, .ref r], []⟩)) _ _ s
  refine wpAny_bind (wpAny_newObj_type ?_)
  refine wpAny_pure ⟨plainId_quiet PySem.F.plain_list_iadd _, codeAny_builtin entry_list_iadd' ?_⟩
  rw [Around.under_plainId PySem.F.plain_list_iadd _]
  have hS : (s.heap.push { cls := .type "list", data := .seq ([] : List Value).toArray }).get? s.heap.objs.size = some { cls := .type "list", data := .seq #[] } := Heap.get?_push_size _ rfl
  show wpAny _ A.in1 (Builtin.List.listExtendWith (.ref s.heap.objs.size) (.ref r) (.ref s.heap.objs.size)) _ _ _
  refine wpAny_mono (wpAny_extend_range (s := { s with heap := s.heap.push { cls := .type "list", data := .seq ([] : List Value).toArray } })
    (R := fun (q : Result) (s' : Shared) => ∃ (h' : Heap) (tk : Nat) (acc' : Array Value) (c' : Nat), q = .ok (.ret (.ref s.heap.objs.size)) ∧ s' = (up s h' tk) ∧
      (∀ b o, s.heap.get? b = some o → h'.get? b = some o) ∧ h'.get? s.heap.objs.size = some { cls := .type "list", dict := none, data := .seq acc' c', slots := #[] } ∧ ItemsOf (fun i v => ∃ t, v = .int (a + i * c) t) acc' n)
    hh (Heap.get?_push_of_some _ hr) hsmall hn hlen s.heap.objs.size (.ref s.heap.objs.size) 0 hS
    (fun h' tk acc' c' hk hS' hacc => ⟨h', tk, acc', c', rfl, rfl, fun b o e => hk b o (Nat.ne_of_lt (Heap.lt_size e)) (Heap.get?_push_of_some _ e), hS', hacc⟩)) (fun fin s' x => ?_) fun e s' x => ?_
  · cases fin with
    | done f =>
      obtain ⟨h', tk, acc', c', e, rfl, hk, hS', hacc⟩ := x
      cases e
      show wpAny _ A (load s.heap.objs.size >>= _) _ _ _
      exact wpAny_bind (wpAny_load hS' (wpAny_pure (hq h' tk acc' hk hacc)))
    | again c₁ =>
      refine ⟨x.1, codeAny_mono x.2 fun q s₂ y => ?_⟩
      obtain ⟨h', tk, acc', c', rfl, rfl, hk, hS', hacc⟩ := y
      show wpAny _ A (load s.heap.objs.size >>= _) _ _ _
      exact wpAny_bind (wpAny_load hS' (wpAny_pure (hq h' tk acc' hk hacc)))
  · obtain ⟨_, _, _, _, e', _⟩ := x
    cases e'
theorem col_range {t : Nat} {src : Addr} {n : Nat} {u v x : Tok} (hA : A.handled = none) (rb : RB P h0) (ht : 0 < t) (hr : IsRange h0 src 0 n 1 u v x) (hz : n ≤ 60) : Col prog w P A E g d os h0 t src (List.range n) := fun Q hq => by
  have hsmall : Builtin.Range.small 0 n 1 = true := by
    unfold Builtin.Range.small Builtin.Range.rangeSize Builtin.Range.rangeFitsLong
    simp
    split <;> omega
  have hsz : Builtin.Range.rangeSize 0 n 1 = n := by
    unfold Builtin.Range.rangeSize
    simp
    omega
  refine wpAny_with_toks (s := ⟨h0, g, d, t, os⟩) (Nat.le_refl t) (with_size (n := h0.objs.size) (Nat.le_refl _) (collect_range (s := ⟨h0, g, d, t, os⟩) hA hr hsmall hsz (by omega) fun h' tk acc hk hit sz tl => ?_))
  refine hq h' tk acc.toList ⟨Nat.lt_of_lt_of_le ht tl, .all sz hk, rb.keeps sz hk⟩ (paired_of ?_ fun i a b ha hb => ?_)
  · rw [Array.length_toList, hit.1, List.length_range]
  · obtain ⟨t, rfl⟩ := hit.2 i a (by simpa using ha)
    have hlt : i < n := by have := (List.getElem?_eq_some_iff.mp hb).1; simpa using this
    rw [List.getElem?_range hlt] at hb
    cases hb
    have e1 : (0 : Int) + i * 1 = i := by omega
    exact ⟨t, by rw [e1]⟩
theorem sorted_K {t : Nat} {src : Addr} {js : List Nat} {Q : Value → Shared → Prop} (kx : KX P.mg K cell C) (si : SI P Z K C cell f cf cs fa sa h0) (sl : Sl 5 A) (hu : Sl 5 A.in1.in1) (hdp : A.depth ≤ 600) (h100 : 100 ≤ h0.objs.size)
    (col : Col prog w P A.in1 E g d os h0 t src js) (hj6 : ∀ x ∈ js, x < 6) (h2 : 2 ≤ js.length) (h60 : js.length ≤ 60) (hc : bnd js.length (kas_sort js.length) = true) (hbd : ∀ a ∈ (sortP fa sa js).toList, a < js.length)
    (hq : ∀ D h' tk c out, SJ P h0 h' tk → h0.objs.size ≤ D → h'.get? D = some (lo out.toArray c) → Paired IV out ((sortP fa sa js).toList.map fun i => js.getD i 0) → Q (.ref D) ⟨h', g, d, tk, os⟩) :
    wpAny (model prog w) A (call (.builtin "sorted") [.ref src] [(Str.ofString "key", .ref C)]) Q E ⟨h0, g, d, t, os⟩ := by
  refine call_function_entry_kw kind_sorted plain_sorted entry_sorted (ksk_s1 _ _) ?_
  unfold Builtin.«sorted»
  refine wpAny_bind (m := checkCount "sorted" 1 1 _) (wpAny_pure ?_)
  refine wpAny_bind (col _ fun h1 tk1 vs j1 hv => ?_)
  have hvl := paired_len hv
  refine wpAny_bind (wpAny_newList ?_ (by rw [sizeLine_eq]; omega))
  have hoL : (h1.push (lo vs.toArray 0)).get? h1.objs.size = some (lo vs.toArray 0) := Heap.get?_push_size _ rfl
  have j2 := j1.push (lo vs.toArray 0)
  change wpAny _ _ _ _ _ ⟨h1.push (lo vs.toArray 0), g, d, tk1, os⟩
  generalize hD : h1.objs.size = D at hoL ⊢
  have hD0 : h0.objs.size ≤ D := by rw [← hD]; exact j1.kp.size
  refine wpAny_bind (wpAny_holding (wpAny_call_entry_kw (s := ⟨h1.push (lo vs.toArray 0), g, d, tk1, os⟩) slot_list_sort ⟨_, hoL, rfl⟩ entry_list_sort ?body (ksk_l1 _ _)))
  case body =>
    show wpAny (model prog w) A.in1.in1 (Builtin.«list.sort» ⟨[.ref D], [(Str.ofString "key", .ref C)]⟩) _ _ _
    rw [ksk_t1]
    refine sort_K kx si hu hdp h100 j2 hoL hD0 hv hj6 h2 h60 hc fun h' tk c j' e' hz => ⟨_, rfl, ?_⟩
    refine wpAny_pure ⟨_, rfl, hq D h' tk c _ j' hD0 e' ?_⟩
    refine paired_of (by rw [List.length_map, List.length_map]) fun i a b ha hb => ?_
    rw [List.getElem?_map] at ha hb
    obtain ⟨p, hp, rfl⟩ := Option.map_eq_some_iff.mp ha
    rw [hp] at hb
    cases hb
    have hpl := hbd p (List.mem_of_getElem? hp)
    obtain ⟨v, ev, iv⟩ := paired_get hv (show js[p]? = some (js.getD p 0) by simp [hpl])
    have : vs.getD p .none = v := by rw [List.getD_eq_getElem?_getD, ev]; rfl
    rw [this]; exact iv
end
end Mine
end
section
set_option maxHeartbeats 1000000
set_option pp.maxSteps 2500
set_option pp.deepTerms false
set_option pp.deepTerms.threshold 14
namespace Mine
open PySem PyProof.Rows PySem.Builtin PySem.Calls
open PySem.W (CodeHd Frag)
noncomputable abbrev lPos : Pos := cPos lst
noncomputable def LTab (h : Heap) : Prop := ∃ ps c', h.get? 54 = some (PySem.W.tabObj ps) ∧ TriplesOk ps.toList ∧ codeAmong lPos ps.toList = some (.ref c') ∧ CR h (.ref c') lq
/-- both tables are full -/
noncomputable def GoodT (o1 o2 : Obj) (l : List (Addr × Obj)) : Prop := ∀ h : Heap, (∀ p ∈ l, h.get? p.1 = some p.2) → h.get? 16 = some o1 → h.get? 54 = some o2 → KTab h ∧ LTab h
theorem cr_hard {h : Heap} {cd : Value} {q : Str} (x : CR h cd q) : ∃ c o, cd = .ref c ∧ h.get? c = some o ∧ o.cls = .type "code" ∧ ¬ Soft o ∧ ∀ h2 : Heap, h2.get? c = some o → CR h2 cd q := by
  obtain ⟨c, o, vs, t, rfl, g, r, v, z⟩ := x
  refine ⟨c, o, rfl, g, z, ?_, fun h2 e => ⟨c, o, vs, t, rfl, e, r, v, z⟩⟩
  rintro ((⟨_, _, q⟩ | ⟨_, q⟩) | q | q | q)
  · rw [r] at q; cases q
  · rw [r] at q; cases q
  · rw [z] at q; exact absurd q (by decide)
  · rw [z] at q; exact absurd q (by decide)
  · rw [z] at q; exact absurd q (by decide)
theorem hd_hard {h : Heap} {c Q : Addr} (x : CodeHd h c Q) : ∃ o, h.get? c = some o ∧ o.cls = .type "code" ∧ ¬ Soft o ∧ ∀ h2 : Heap, h2.get? c = some o → CodeHd h2 c Q := by
  obtain ⟨o, vs, file, tf, flags, tg, inF, text, tt, g, z, r, q⟩ := x
  refine ⟨o, g, z, ?_, fun h2 e => ⟨o, vs, file, tf, flags, tg, inF, text, tt, e, z, r, q⟩⟩
  rintro ((⟨_, _, q⟩ | ⟨_, q⟩) | q | q | q)
  · rw [r] at q; cases q
  · rw [r] at q; cases q
  · rw [z] at q; exact absurd q (by decide)
  · rw [z] at q; exact absurd q (by decide)
  · rw [z] at q; exact absurd q (by decide)
theorem tabst_hard {h : Heap} (tb : Tb h) {ps : Array Value} : ∀ {todo : List (Pos × Str)}, TabSt true h ps todo → ∃ l : List (Addr × Obj), (∀ p ∈ l, h.get? p.1 = some p.2 ∧ ¬ Soft p.2 ∧ NT p.1) ∧ ∀ h2 : Heap, (∀ p ∈ l, h2.get? p.1 = some p.2) → TabSt true h2 ps todo
  | [], _ => ⟨[], fun p hp => absurd hp List.not_mem_nil, fun h2 _ x hx => absurd hx List.not_mem_nil⟩
  | x :: todo, s => by
    obtain ⟨l, h1, h2⟩ := tabst_hard tb (todo := todo) fun y hy => s y (.tail _ hy)
    obtain ⟨c', e, r⟩ := (s x (.head _)).1 rfl
    obtain ⟨c, o, q, g, z, ns, k⟩ := cr_hard r
    cases q
    refine ⟨(c', o) :: l, fun p hp => ?_, fun h3 hl y hy => ?_⟩
    · rcases List.mem_cons.mp hp with rfl | hp
      · exact ⟨g, ns, tb.nt g z⟩
      · exact h1 p hp
    · rcases List.mem_cons.mp hy with rfl | hy
      · exact ⟨fun _ => ⟨c', e, k h3 (hl _ (.head _))⟩, nofun⟩
      · exact h2 h3 (fun p hp => hl p (.tail _ hp)) y hy
theorem tabs_of {h : Heap} (kt : KTab h) (lt : LTab h) : Tabs GoodT h := by
  obtain ⟨ps, cc, Pc, psc, a, b, c, d, e, f, gg, i, j, j2⟩ := kt
  obtain ⟨ps2, c', a2, b2, c2, d2⟩ := lt
  have tb : Tb h := ⟨_, _, a, a2, rfl, rfl⟩
  obtain ⟨l, l1, l2⟩ := tabst_hard tb i
  obtain ⟨_, o1, q1, g1, z1, n1, k1⟩ := cr_hard d
  cases q1
  obtain ⟨o2, g2, z2, n2, k2⟩ := hd_hard e
  obtain ⟨_, o3, q3, g3, z3, n3, k3⟩ := cr_hard d2
  cases q3
  refine ⟨_, _, (cc, o1) :: (cc, o2) :: (Pc, PySem.W.tabObj psc) :: (c', o3) :: l, a, a2, rfl, rfl, ns_tab ps, ns_tab ps2, fun p hp => ?_, .inr fun h3 hl e1 e2 => ⟨⟨ps, cc, Pc, psc, e1, b, c, k1 h3 (hl _ (.head _)), k2 h3 (hl _ (.tail _ (.head _))), hl _ (.tail _ (.tail _ (.head _))), gg, l2 h3 fun p hp => hl p (.tail _ (.tail _ (.tail _ (.tail _ hp)))), j, j2⟩, ps2, c', e2, b2, c2, k3 h3 (hl _ (.tail _ (.tail _ (.tail _ (.head _)))))⟩⟩
  rcases List.mem_cons.mp hp with rfl | hp
  · exact ⟨g1, n1, tb.nt g1 z1⟩
  rcases List.mem_cons.mp hp with rfl | hp
  · exact ⟨g2, n2, tb.nt g2 z2⟩
  rcases List.mem_cons.mp hp with rfl | hp
  · exact ⟨f, ns_tab psc, nt_hi j2⟩
  rcases List.mem_cons.mp hp with rfl | hp
  · exact ⟨g3, n3, tb.nt g3 z3⟩
  · exact l1 p hp
theorem tabs_in {P : Pm} {h : Heap} (hG : P.Good = GoodT) (rb : RB P h) : (h.get? 16 = some (PySem.W.tabObj #[]) ∧ h.get? 54 = some (PySem.W.tabObj #[])) ∨ (KTab h ∧ LTab h) := by
  obtain ⟨o1, o2, l, g1, g2, c1, c2, k1, k2, hl, hb⟩ := rb.tabs
  rcases hb with ⟨rfl, rfl⟩ | hb
  · exact .inl ⟨g1, g2⟩
  · rw [hG] at hb
    exact .inr (hb h (fun p hp => (hl p hp).1) g1 g2)
theorem rb_of {P : Pm} {h : Heap} (hG : P.Good = GoodT) (rb : RB (PW P) h) (kt : KTab h) (lt : LTab h) : RB P h := ⟨rb.base, by rw [hG]; exact tabs_of kt lt, rb.big⟩
theorem LTab.but16 {h h' : Heap} (x : LTab h) {ps : Array Value} (e : h.get? 16 = some (PySem.W.tabObj ps)) (k : ∀ b o, b ≠ 16 → h.get? b = some o → h'.get? b = some o) : LTab h' := by
  obtain ⟨ps2, c', a2, b2, c2, c, o, vs, t, q, g, r, v, z⟩ := x
  refine ⟨ps2, c', k _ _ (by decide) a2, b2, c2, c, o, vs, t, q, k _ _ (fun q => ?_) g, r, v, z⟩
  rw [q, e] at g
  cases g
  cases z
theorem NDk.cr {h h' : Heap} (k : NDk h h') {cd : Value} {q : Str} (x : CR h cd q) : CR h' cd q := k.rec_ x
theorem NDk.ltab {h h' : Heap} (k : NDk h h') (x : LTab h) : LTab h' := by
  obtain ⟨ps2, c', a2, b2, c2, d⟩ := x
  exact ⟨ps2, c', k _ _ nofun a2, b2, c2, k.cr d⟩
end Mine
end
section
set_option maxHeartbeats 1000000
set_option pp.maxSteps 2500
set_option pp.deepTerms false
set_option pp.deepTerms.threshold 14
namespace Mine
open PySem PyProof.Rows PySem.Builtin PySem.Calls
open PySem.W (CodeHd Frag kas_sort)
theorem body9 : ∃ a1 a2 a3 a4 a5 a6 a7 a8 : Pos, bodyOf (stAt 9) = [lst, .Return (some (.Call (.Name "sorted" a1) [.Name "places" a2] [⟨some "key", .Call (.Name "cmp_to_key" a3) [.Name "_law_compare" a4] [] a5, a6⟩] a7)) a8] := ⟨_, _, _, _, _, _, _, _, rfl⟩
theorem lst_eq : lst = .FunctionDef "_law_compare" (cArgs lst) (bodyOf lst) [] none [] (cScope lst) none "_law_compare" lPos := by kernel_rfl
/-- the places to sort -/
noncomputable def Src (pl : T) (js : List Nat) : Prop := (∃ n, pl = .rng n ∧ js = List.range n) ∨ pl = .lst (js.map fun (i : Nat) => ti (i : Int))
theorem src_col {prog : Program} {w : World} {P : Pm} {A : Around} {g : Array GenState} {d : Drawn} {os : OsState} {h0 : Heap} {t : Nat} {Z : Addr → Prop} {pl : T} {js : List Nat} {v : Value} (hA : A.handled = none) (rb : RB P h0) (ht : 0 < t) (h60 : js.length ≤ 60) (sr : Src pl js) (r : RT Z h0 v pl) : ∃ src, v = .ref src ∧ ∀ E, Col prog w P A E g d os h0 t src js := by
  rcases sr with ⟨n, rfl, rfl⟩ | rfl
  · cases r with
    | rng q => exact ⟨_, rfl, fun E => col_range hA rb ht q (by simpa using h60)⟩
  · cases r with
    | lst nz p pr hl =>
      refine ⟨_, rfl, fun E => col_list rb ht p ?_ h60⟩
      refine paired_of (by have := paired_len pr; simpa using this) fun i a b ha hb => ?_
      obtain ⟨a', ea, ra⟩ := paired_get pr (show (js.map fun (i : Nat) => ti (i : Int))[i]? = some (ti b) by rw [List.getElem?_map, hb]; rfl)
      rw [ha] at ea; cases ea
      cases ra with
      | sc q => cases q with
        | int _ t => exact ⟨t, rfl⟩
section
variable {prog : Program} {w : World} {P : Pm} {A : Around} {μ : Mu}
theorem sorted_ok (X : KB P) (hG : P.Good = GoodT) (hh : A.handled = none) (hdp : A.depth ≤ 310) (hu : A.units ≤ 3000) {pl : T} {js : List Nat} {fa sa : List UInt64} (sr : Src pl js) (lf : fa.length = 6) (ls : sa.length = 6)
    (hj6 : ∀ x ∈ js, x < 6) (h2 : 2 ≤ js.length) (h60 : js.length ≤ 60) (hc : bnd js.length (kas_sort js.length) = true) (hbd : ∀ a ∈ (sortP fa sa js).toList, a < js.length) (hsz : (sortP fa sa js).toList.length ≤ 4096) :
    OpL prog w P A μ (fun vs => call (.ref 59) vs) [pl, .lst (fa.map tf), .lst (sa.map tf)] (tis ((sortP fa sa js).toList.map fun i => ((js.getD i 0 : Nat) : Int))) := fun {Z} s xs Q E rb ht mo hz px o => by
  obtain ⟨h, g, d, t, os⟩ := s
  cases px with | cons rp px => cases px with | cons rf px => cases px with | cons rs px => cases px with | nil =>
  rename_i vp vf vs
  obtain ⟨ob, pm, doc, e59, d59⟩ := X.f59
  have rbw : RB (PW P) h := rb.to
  have e59 := rbw.base _ _ (by decide) ⟨by decide, by decide⟩ e59
  have hroom : A.depth < recursionLimit := Nat.lt_of_le_of_lt hdp (by decide)
  have hcd := base_rec rbw (by decide) ⟨by decide, by decide⟩ X.c58.2
  refine wpAny_call (codeAny_call_cells (s := ⟨h, g, d, t, os⟩) (fd := fdOf 9 pm (.ref 58) doc) (binds := [(("places" : Str), vp), (("first" : Str), vf), (("second" : Str), vs)]) hroom e59 d59 rb.nolimit hcd rfl (by kernel_rfl) rfl ?_ ?_)
  · intro x hx
    simp only [List.mem_cons, List.not_mem_nil, or_false] at hx
    rcases hx with rfl | rfl | rfl
    · exact .inl (by kernel_rfl)
    · exact .inr ⟨by kernel_rfl, by kernel_rfl⟩
    · exact .inr ⟨by kernel_rfl, by kernel_rfl⟩
  intro s₁ x
  obtain ⟨h₁, tk₁, rfl⟩ := x.toInCall.same
  have k1 : ∀ b o, h.get? b = some o → h₁.get? b = some o := x.toInCall.keep
  have hcf : h₁.IsCell (h.objs.size + 1) (some vf) := x.cell "first" _ (by kernel_rfl)
  have hcs : h₁.IsCell (h.objs.size + 2) (some vs) := x.cell "second" _ (by kernel_rfl)
  have hkf : (callEnvC (fdOf 9 pm (.ref 58) doc) h.objs.size 59).scope.kind = .function := by kernel_rfl
  have hL : (callEnvC (fdOf 9 pm (.ref 58) doc) h.objs.size 59).locals = h.objs.size := rfl
  have hns : h₁.Ns (callEnvC (fdOf 9 pm (.ref 58) doc) h.objs.size 59).locals (fun z => if z = (("places" : Str)) then some vp else none) := by
    have e : bindL (callEnvC (fdOf 9 pm (.ref 58) doc) h.objs.size 59).kindOf [(("places" : Str), vp), (("first" : Str), vf), (("second" : Str), vs)] (fun _ => none) = (fun z => if z = (("places" : Str)) then some vp else none) := by kernel_rfl
    exact e ▸ x.toInCall.ns
  have hz1 : h.objs.size ≤ h₁.objs.size := by have := hns.lt; rw [hL] at this; exact Nat.le_of_lt this
  have hcl : closureFor (cScope lst) (callEnvC (fdOf 9 pm (.ref 58) doc) h.objs.size 59) = pure [(("second" : Str), h.objs.size + 2), (("first" : Str), h.objs.size + 1)] := by kernel_rfl
  have hqn : qualnameIn (callEnvC (fdOf 9 pm (.ref 58) doc) h.objs.size 59) "_law_compare" "_law_compare" = lq := by kernel_rfl
  have hkp : (callEnvC (fdOf 9 pm (.ref 58) doc) h.objs.size 59).kindOf "places" = some .local := by kernel_rfl
  have hkc : (callEnvC (fdOf 9 pm (.ref 58) doc) h.objs.size 59).kindOf "_law_compare" = some .local := by kernel_rfl
  have hks : (callEnvC (fdOf 9 pm (.ref 58) doc) h.objs.size 59).kindOf "sorted" = some .globalImplicit := by kernel_rfl
  have hkk : (callEnvC (fdOf 9 pm (.ref 58) doc) h.objs.size 59).kindOf "cmp_to_key" = some .globalImplicit := by kernel_rfl
  have hcode : (callEnvC (fdOf 9 pm (.ref 58) doc) h.objs.size 59).code = .ref 58 := rfl
  have hglob : (callEnvC (fdOf 9 pm (.ref 58) doc) h.objs.size 59).globals = mainGlobals := rfl
  have hblt : (callEnvC (fdOf 9 pm (.ref 58) doc) h.objs.size 59).builtins = builtinsNs := rfl
  clear x
  change wpAny _ _ (execs (bodyOf (stAt 9)) (callEnvC (fdOf 9 pm (.ref 58) doc) h.objs.size 59)) _ _ ⟨h₁, g, d, tk₁, os⟩
  generalize callEnvC (fdOf 9 pm (.ref 58) doc) h.objs.size 59 = env at *
  obtain ⟨a1, a2, a3, a4, a5, a6, a7, a8, hb⟩ := body9
  rw [hb]
  have rb₁ : RB (PW P) h₁ := rbw.keeps hz1 k1
  have h54 : ∃ ps, h₁.get? 54 = some (PySem.W.tabObj ps) ∧ TriplesOk ps.toList ∧ (codeAmong lPos ps.toList = none ∨ ∃ c', codeAmong lPos ps.toList = some (.ref c') ∧ CR h₁ (.ref c') lq) := by
    rcases tabs_in hG rb with ⟨_, e⟩ | ⟨_, ps, c', e, tr, am, cr⟩
    · exact ⟨_, k1 _ _ e, trivial, .inl rfl⟩
    · exact ⟨ps, k1 _ _ e, tr, .inr ⟨c', am, cr.keeps k1⟩⟩
  obtain ⟨ps, h54, tri, hin⟩ := h54
  have h16 : h₁.get? 16 = some (PySem.W.tabObj #[]) ∨ KTab h₁ := by
    rcases tabs_in hG rb with ⟨e, _⟩ | ⟨kt, _⟩
    · exact .inl (k1 _ _ e)
    · exact .inr (kt.keeps k1)
  refine wpAny_execs_cons ?_
  rw [lst_eq]
  refine PySem.W.nestDef_K (by kernel_rfl) (by kernel_rfl) (by kernel_rfl) ?_
  rw [hqn]
  refine make_fn hcl hglob (X.gb rb₁) hcode (base_hd rb₁ (by decide) ⟨by decide, by decide⟩ X.c58.1) h54 tri hin (by kernel_rfl) fun c' f ctv h₂ tk₂ ps' htk F => ?_
  have h100 : 100 ≤ h.objs.size := rb.big
  have nL : ∀ {b : Addr} {o : Obj}, h.get? b = some o → b ≠ env.locals := fun {b o} e q => by
    have := Heap.lt_size e
    rw [q, hL] at this
    exact Nat.lt_irrefl _ this
  have n54 : ∀ {b : Nat}, h.objs.size ≤ b → b ≠ 54 := fun {b} hb q => absurd (Nat.le_trans h100 hb) (by rw [q]; decide)
  have n16 : ∀ {b : Nat}, h.objs.size ≤ b → b ≠ 16 := fun {b} hb q => absurd (Nat.le_trans h100 hb) (by rw [q]; decide)
  have nLoc54 : env.locals ≠ 54 := by rw [hL]; exact n54 (Nat.le_refl _)
  have hns₂ := ns_keeps hns fun o e => F.keep _ o nLoc54 e
  have rb₂ : RB (PW P) h₂ := rb₁.w54 F.keep F.tab F.size
  refine wpAny_storeName_local (s := ⟨h₂, g, d, tk₂, os⟩) hkc hns₂ (fun h₃ hns₃ hs₃ => ?_) (by rw [hkf]; rfl)
  obtain ⟨oL, esL, epL, gL, dL, _⟩ := id hns₂
  have nd : NDk h₂ h₃ := fun b o hn e => (hs₃.2 b (fun q => by rw [q, gL] at e; cases e; exact hn _ _ dL)).trans e
  have rb₃ : RB (PW P) h₃ := rb₂.turn hs₃ gL (.inl (.inl ⟨_, _, dL⟩)) (by rw [hL]; exact h100)
  have lt₃ : LTab h₃ := nd.ltab ⟨ps', c', F.tab, F.tri, F.here, F.rec_⟩
  have h16₃ : h₃.get? 16 = some (PySem.W.tabObj #[]) ∨ KTab h₃ := by
    have k2 : ∀ b o, b ≠ 54 → h₁.get? b = some o → h₂.get? b = some o := F.keep
    rcases tabs_in hG rb with ⟨e, _⟩ | ⟨kt, _⟩
    · exact .inl (nd _ _ nofun (k2 _ _ (by decide) (k1 _ _ e)))
    · refine .inr (nd.ktab ?_)
      obtain ⟨ps16, cc, Pc, psc, b1, b2, b3, b4, b5, b6, b7, b8, b9⟩ := kt.keeps k1
      have ncr : ∀ {cd : Value} {q : Str}, CR h₁ cd q → CR h₂ cd q := fun x => by
        obtain ⟨c, o, vs, t, q, gg, r, v, z⟩ := x
        exact ⟨c, o, vs, t, q, k2 _ _ (fun q => by rw [q, h54] at gg; cases gg; cases z) gg, r, v, z⟩
      have nhd : CodeHd h₂ cc Pc := by
        obtain ⟨o, vs, file, tf', flags, tg, inF, text, tt, gg, z, r⟩ := b5
        exact ⟨o, vs, file, tf', flags, tg, inF, text, tt, k2 _ _ (fun q => by rw [q, h54] at gg; cases gg; cases z) gg, z, r⟩
      exact ⟨ps16, cc, Pc, psc, k2 _ _ (by decide) b1, b2, b3, ncr b4, nhd, k2 _ _ (fun q => absurd b9.2 (by rw [q]; decide)) b6, b7, fun x hx => ⟨fun hm => let ⟨c, e, r⟩ := (b8 x hx).1 hm; ⟨c, e, ncr r⟩, (b8 x hx).2⟩, b9⟩
  have k13 : ∀ b o, NT b → h.get? b = some o → h₃.get? b = some o := fun b o nt e => (hs₃.2 b (nL e)).trans (F.keep b o nt.2 (k1 _ _ e))
  have z13 : h.objs.size ≤ h₃.objs.size := by rw [hs₃.1]; exact Nat.le_trans hz1 F.size
  have hf₃ : h₃.get? f = some (fnO (lfd P.mg [(("second" : Str), h.objs.size + 2), (("first" : Str), h.objs.size + 1)] c' ctv)) := nd _ _ nofun F.fn
  have hcf₃ : h₃.IsCell (h.objs.size + 1) (some vf) := let ⟨o, e, q⟩ := hcf; ⟨o, (hs₃.2 _ (by rw [hL]; exact Nat.succ_ne_self _)).trans (F.keep _ _ (n54 (Nat.le_succ _)) e), q⟩
  have hcs₃ : h₃.IsCell (h.objs.size + 2) (some vs) := let ⟨o, e, q⟩ := hcs; ⟨o, (hs₃.2 _ (by rw [hL]; exact fun q => absurd q (by simp))).trans (F.keep _ _ (n54 (Nat.le_add_right _ 2)) e), q⟩
  have f100 : 100 ≤ f := Nat.le_trans h100 (Nat.le_trans hz1 F.new)
  show wpAny _ _ (execs [_] env) _ _ _
  refine wpAny_execs_cons (wpAny_Return_some (wpAny_Call_Name_kw ?_))
  refine Calls.Name_function_global hkf hks (Calls.loadGlobal_builtin (mg := P.mg) (mb := P.mb) (by rw [hglob]; exact rb₃.glob) X.srt.1 (by rw [hblt]; exact rb₃.blt) X.srt.2 ?_) (by rfl)
  refine callWith_kw ?_
  rw [star_cons (by rfl) env, back_cons]
  refine Calls.spliced_cons (wpAny_Name (wpAny_loadName_local hkf hkp hns₃ (v := vp) (by kernel_rfl) ?_) (by rfl))
  refine Calls.spliced_nil ?_
  refine kws_cons ?_
  obtain ⟨ob21, pm21, doc21, e21, d21⟩ := X.f21
  have e21 := rb₃.base _ _ (by decide) ⟨by decide, by decide⟩ e21
  refine call_arm (Calls.Name_function_global hkf hkk (Calls.loadGlobal_global (mg := P.mg) (by rw [hglob]; exact rb₃.glob) X.ctk ?_) (by rfl))
  refine PyProof.Rows.callWith_def d21 ?_ (star_cons (by rfl) env)
  rw [star_cons (by rfl) env, back_cons]
  refine Calls.spliced_cons (wpAny_Name (wpAny_loadName_local hkf hkc hns₃ (v := .ref f) (by simp) ?_) (by rfl))
  refine Calls.spliced_nil ⟨e21, ?_⟩
  refine wpAny_with_toks (n := 1) (Nat.succ_pos _) ?_
  refine cmp_call X rb₃ hh (by show A.depth + 1 ≤ 390; omega) (by show A.units + 3 ≤ 3900; omega) h16₃ fun cell C h₄ tk₄ k4 z4 rb₄ ic lc4 kt kc tl => ?_
  refine kws_nil ?_
  have k14 : Keep [] h h₄ := ⟨Nat.le_trans z13 z4, fun b o e nt _ => k4 b o nt.1 (k13 b o nt e)⟩
  have h16' : ∃ ps0, h₃.get? 16 = some (PySem.W.tabObj ps0) := by
    rcases h16₃ with e | ⟨_, _, _, _, e, _⟩
    · exact ⟨_, e⟩
    · exact ⟨_, e⟩
  obtain ⟨ps0, h16'⟩ := h16'
  have rbP : RB P h₄ := rb_of hG rb₄ kt (lt₃.but16 h16' k4)
  obtain ⟨K, kx, kin, kcl⟩ := KX.of kc
  have tb4 : Tb h₄ := rbP.tb
  have e54 : CR h₄ (.ref c') lq := by
    obtain ⟨c, o, vs, t, q, gg, r, v, z⟩ := nd.cr F.rec_
    exact ⟨c, o, vs, t, q, k4 _ _ (fun q => by rw [q, h16'] at gg; cases gg; cases z) gg, r, v, z⟩
  have z100 : 100 ≤ h₄.objs.size := rbP.big
  have si : SI P Z K C cell f (h.objs.size + 1) (h.objs.size + 2) fa sa h₄ :=
    { rb := rbP
      hz := hz.mono k14.size
      kin := kin
      knt := fun a o e => let ⟨T, hT⟩ := kcl a o e; tb4.nt (kin a o e) hT
      lc := { fn := ⟨c', ctv, k4 _ _ (fun q => absurd f100 (by rw [q]; decide)) hf₃, e54⟩
              icf := ⟨vf, let ⟨o, e, q⟩ := hcf₃; ⟨o, k4 _ _ (n16 (Nat.le_succ _)) e, q⟩, rf.mono k14 rb.tb⟩
              ics := ⟨vs, let ⟨o, e, q⟩ := hcs₃; ⟨o, k4 _ _ (n16 (Nat.le_add_right _ 2)) e, q⟩, rs.mono k14 rb.tb⟩
              ne := by simp
              hf := Nat.le_trans h100 (Nat.le_succ _)
              hs := Nat.le_trans h100 (Nat.le_add_right _ 2)
              lf := lf, ls := ls, lt := f100 }
      ic := ic
      hc := Nat.le_trans rb₃.big lc4 }
  have tl4 : 0 < tk₄ := tl
  have hh' : (A.deeper env).handled = none := hh
  have dd : (A.deeper env).depth ≤ 311 := by show A.depth + 1 ≤ 311; omega
  have uu : (A.deeper env).units ≤ 3003 := by show A.units + 3 ≤ 3003; omega
  generalize A.deeper env = B at hh' dd uu ⊢
  have s5 : Sl 5 B := ⟨hh', by omega, by omega⟩
  have s5' : Sl 5 B.in1.in1 := ⟨hh', by show B.depth + 5 < 1000; omega, by show B.units + 1 + 1 + 100 * 5 < 9900; omega⟩
  obtain ⟨src, rfl, col⟩ := src_col (prog := prog) (w := w) (A := B.in1) (g := g) (d := d) (os := os) (t := tk₄) hh' rbP tl4 h60 sr (rp.mono k14 rb.tb)
  show wpAny _ _ (call (.builtin "sorted") [.ref src] [(Str.ofString "key", .ref C)]) _ _ ⟨h₄, g, d, tk₄, os⟩
  refine sorted_K kx si s5 s5' (by omega) z100 (col _) hj6 h2 h60 hc hbd fun D h₅ tk₅ c out sj hD eD iv => ?_
  have k15 : Keep [] h h₅ := k14.trans sj.kp
  refine o (.ref D) h₅ tk₅ sj.tp k15 sj.rb (.lst (fun q => ?_) ⟨c, eD⟩ ?_ (by rw [List.length_map, List.length_map]; exact hsz))
  · exact absurd (Nat.lt_of_lt_of_le (hz _ q) (Nat.le_trans k14.size hD)) (Nat.lt_irrefl _)
  · refine paired_of (by have := paired_len iv; simpa using this) fun i a b ha hb => ?_
    rw [List.getElem?_map, List.getElem?_map] at hb
    cases hp : (sortP fa sa js).toList[i]? with
    | none => rw [hp] at hb; cases hb
    | some p =>
      rw [hp] at hb
      cases hb
      obtain ⟨v, ev, tk, rfl⟩ := paired_get iv (show ((sortP fa sa js).toList.map fun i => js.getD i 0)[i]? = some (js.getD p 0) by rw [List.getElem?_map, hp]; rfl)
      rw [ha] at ev; cases ev
      exact .sc (.int _ _)
end
end Mine
end
section
namespace Mine
open PySem
/-! the order of the places -/
noncomputable abbrev L (r : Nat → Int) (a b : Nat) : Prop := r a < r b ∨ (r a = r b ∧ a < b)
theorem lex_trans {x y z : Int} {p q r : Prop} (h : x < y ∨ (x = y ∧ p)) (k : y < z ∨ (y = z ∧ q)) (f : p → q → r) : x < z ∨ (x = z ∧ r) :=
  h.elim (fun h => .inl (k.elim (Int.lt_trans h) fun k => k.1 ▸ h)) fun h => k.elim (fun k => .inl (h.1 ▸ k)) fun k => .inr ⟨h.1.trans k.1, f h.2 k.2⟩
theorem lex_irr {x : Int} {p : Prop} (n : ¬ p) : ¬ (x < x ∨ (x = x ∧ p)) := fun h => h.elim (Int.lt_irrefl _) fun h => n h.2
theorem L.trans {r : Nat → Int} {a b c : Nat} (h : L r a b) (k : L r b c) : L r a c := lex_trans h k Nat.lt_trans
theorem L.irr {r : Nat → Int} {a : Nat} : ¬ L r a a := lex_irr (Nat.lt_irrefl _)
theorem L.asym {r : Nat → Int} {a b : Nat} (h : L r a b) : ¬ L r b a := fun k => L.irr (h.trans k)
theorem srt_pw {r : Nat → Int} : ∀ {q : List Nat}, srt r q → q.Pairwise (L r)
  | [], _ => .nil
  | [a], _ => List.pairwise_singleton _ _
  | a :: b :: l, h => by
    have ih := srt_pw (q := b :: l) h.2
    refine .cons (fun c hc => ?_) ih
    rcases List.mem_cons.mp hc with rfl | hc
    · exact h.1
    · exact L.trans h.1 ((List.pairwise_cons.mp ih).1 c hc)
theorem mask_mem : ∀ (q : List Nat) (m i : Nat), (q.foldl (fun m a => m ||| (1 <<< a)) m).testBit i = (m.testBit i || q.contains i)
  | [], m, i => by simp
  | a :: q, m, i => by
    rw [List.foldl_cons, mask_mem q, Nat.testBit_or, Nat.one_shiftLeft, Nat.testBit_two_pow, List.contains_cons]
    by_cases h : a = i
    · subst h; simp
    · have h1 : (i == a) = false := by simpa using fun e => h e.symm
      have h2 : decide (a = i) = false := decide_eq_false h
      rw [h1, h2]; simp
structure Sorted (n : Nat) (r : Nat → Int) (q : List Nat) : Prop where
  mem : ∀ i, i ∈ q ↔ i < n
  pw : q.Pairwise (L r)
theorem sorted_of {n : Nat} {r : Nat → Int} {q : List Nat} (h2 : q.foldl (fun m a => m ||| (1 <<< a)) 0 = 2 ^ n - 1) (h3 : ∀ a ∈ q, a < n) (h4 : srt r q) : Sorted n r q :=
  ⟨fun i => ⟨h3 i, fun hi => by
    have := mask_mem q 0 i
    rw [h2, Nat.testBit_two_pow_sub_one, decide_eq_true hi, Nat.zero_testBit, Bool.false_or] at this
    simpa using this.symm⟩, srt_pw h4⟩
theorem Sorted.nodup {n : Nat} {r : Nat → Int} {q : List Nat} (h : Sorted n r q) : q.Nodup := by
  unfold List.Nodup
  exact List.Pairwise.imp (fun {a b} k e => by subst e; exact L.irr k) h.pw
theorem Sorted.perm {n : Nat} {r : Nat → Int} {q : List Nat} (h : Sorted n r q) : q.Perm (List.range n) :=
  (List.perm_ext_iff_of_nodup h.nodup List.nodup_range).mpr fun i => by rw [h.mem, List.mem_range]
theorem Sorted.len {n : Nat} {r : Nat → Int} {q : List Nat} (h : Sorted n r q) : q.length = n := by rw [h.perm.length_eq, List.length_range]
theorem before {r : Nat → Int} : ∀ {q : List Nat} {j x : Nat}, q.Pairwise (L r) → q[j]? = some x → (q.filter fun o => decide (L r o x)).length = j
  | a :: q, 0, x, h, e => by
    cases e
    have : (a :: q).filter (fun o => decide (L r o a)) = [] := by
      rw [List.filter_eq_nil_iff]
      intro o ho
      rcases List.mem_cons.mp ho with rfl | ho
      · simpa using L.irr
      · simpa using L.asym ((List.pairwise_cons.mp h).1 o ho)
    rw [this]; rfl
  | a :: q, j + 1, x, h, e => by
    have hx : x ∈ q := List.mem_of_getElem? e
    rw [List.filter_cons_of_pos (by simpa using (List.pairwise_cons.mp h).1 x hx), List.length_cons, before (List.pairwise_cons.mp h).2 e]
theorem rowF_at {f g : Nat → Int} (inj : ∀ i j, i < 6 → j < 6 → rankF f g i = rankF f g j → i = j) : ∀ k, k ≤ 6 → ∀ i, i < k → (rowF f g k)[rankF f g i]? = some (i : Int)
  | k + 1, hk, i, hi => by
    rw [rowF]
    have hl := rowF_len f g k
    have hr := rankF_lt f g (show k < 6 by omega)
    by_cases h : i = k
    · subst h
      rw [List.getElem?_set_self (by omega)]
    · rw [List.getElem?_set_ne (fun e => h (inj k i (by omega) (by omega) e).symm), rowF_at inj k (by omega) i (by omega)]
theorem counted_law {f g ρ : Nat → Int} {q : List Nat} (hρ : ∀ o i, o < 6 → i < 6 → ltI [f o, g o, o] [f i, g i, i] = decide (L ρ o i)) (hq : Sorted 6 ρ q) : rowF f g 6 = q.map fun (i : Nat) => (i : Int) := by
  have hrank : ∀ j x, q[j]? = some x → rankF f g x = j := fun j x e => by
    have hx : x < 6 := (hq.mem x).mp (List.mem_of_getElem? e)
    rw [← before hq.pw e]
    unfold rankF
    rw [(hq.perm.symm.filter _).length_eq]
    congr 1
    refine List.filter_congr fun o ho => hρ o x ((hq.mem o).mp ho) hx
  have inj : ∀ i j, i < 6 → j < 6 → rankF f g i = rankF f g j → i = j := fun i j hi hj e => by
    obtain ⟨a, ha⟩ := List.mem_iff_getElem?.mp ((hq.mem i).mpr hi)
    obtain ⟨b, hb⟩ := List.mem_iff_getElem?.mp ((hq.mem j).mpr hj)
    rw [hrank a i ha, hrank b j hb] at e
    subst e
    rw [ha] at hb; exact Option.some.inj hb
  refine List.ext_getElem? fun j => ?_
  by_cases hj : j < 6
  · obtain ⟨x, hx⟩ : ∃ x, q[j]? = some x := ⟨_, List.getElem?_eq_getElem (by rw [hq.len]; exact hj)⟩
    have := rowF_at inj 6 (Nat.le_refl _) x ((hq.mem x).mp (List.mem_of_getElem? hx))
    rw [hrank j x hx] at this
    rw [this, List.getElem?_map, hx]; rfl
  · rw [List.getElem?_eq_none (by rw [rowF_len]; omega), List.getElem?_eq_none (by rw [List.length_map, hq.len]; omega)]
end Mine
end
section
namespace Mine
open PySem
/-- the places of one mark -/
noncomputable def grp (key : Nat → Int) (q : List Nat) (v : Int) : List Nat := q.filter fun p => key p == v
noncomputable def nonE (s : List Nat) : Bool := !s.isEmpty
noncomputable def grps (key : Nat → Int) (q : List Nat) (V : List Int) : List (List Nat) := (V.map (grp key q)).filter nonE
theorem grp_snoc (key : Nat → Int) (q : List Nat) (p : Nat) (v : Int) : grp key (q ++ [p]) v = if key p = v then grp key q v ++ [p] else grp key q v := by
  unfold grp
  rw [List.filter_append]
  by_cases h : key p = v
  · rw [if_pos h, List.filter_cons_of_pos (by simpa using h)]; rfl
  · rw [if_neg h, List.filter_cons_of_neg (by simpa using h)]; simp
theorem grps_none {key : Nat → Int} {q : List Nat} {V : List Int} (h : ∀ v ∈ V, ∀ p ∈ q, key p ≠ v) : grps key q V = [] := by
  unfold grps
  rw [List.filter_eq_nil_iff]
  intro s hs
  obtain ⟨v, hv, rfl⟩ := List.mem_map.mp hs
  have : grp key q v = [] := by
    unfold grp
    rw [List.filter_eq_nil_iff]
    exact fun p hp => by simpa using h v hv p hp
  rw [this]; simp [nonE]
theorem grps_app (key : Nat → Int) (q : List Nat) (V W : List Int) : grps key q (V ++ W) = grps key q V ++ grps key q W := by
  unfold grps; rw [List.map_append, List.filter_append]
theorem lines_law {key : Nat → Int} {V : List Int} {ne : Nat → Nat → Bool} (hV : V.Pairwise (· < ·)) : ∀ (n : Nat) (q : List Nat), q.length = n → q.Pairwise (fun a b => key a ≤ key b) → (∀ p ∈ q, key p ∈ V) → (∀ a ∈ q, ∀ b ∈ q, ne a b = (key a != key b)) → linesF ne q = grps key q V
  | 0, q, hq, _, _, _ => by
    have : q = [] := List.eq_nil_of_length_eq_zero hq
    subst this
    rw [grps_none (fun v _ p hp => absurd hp List.not_mem_nil)]; rfl
  | n + 1, q, hq, hs, hm, hne => by
    rcases snoc_cases q with rfl | ⟨q, p, rfl⟩
    · cases hq
    have hs' := List.pairwise_append.mp hs
    have ih := lines_law hV n q (by simpa using hq) hs'.1 (fun x hx => hm x (List.mem_append_left _ hx)) (fun a ha b hb => hne a (List.mem_append_left _ ha) b (List.mem_append_left _ hb))
    have hle : ∀ x ∈ q, key x ≤ key p := fun x hx => hs'.2.2 x hx p (List.mem_singleton.mpr rfl)
    have step : linesF ne (q ++ [p]) = stepL ne (linesF ne q) p := by unfold linesF; rw [List.foldl_append]; rfl
    obtain ⟨V1, V2, rfl⟩ := List.append_of_mem (hm p (by simp))
    have hV' := List.pairwise_append.mp hV
    have hV2 := (List.pairwise_cons.mp hV'.2.1).1
    have lt1 : ∀ v ∈ V1, v < key p := fun v hv => hV'.2.2 v hv _ (.head _)
    have e1 : grps key (q ++ [p]) V1 = grps key q V1 := by
      unfold grps
      congr 1
      refine List.map_congr_left fun v hv => ?_
      have := lt1 v hv
      rw [grp_snoc, if_neg (by omega)]
    have e2 : ∀ Q : List Nat, (∀ x ∈ Q, key x ≤ key p) → grps key Q V2 = [] := fun Q hQ => grps_none fun v hv x hx => by
      have h1 := hV2 v hv
      have h2 := hQ x hx
      omega
    have split : ∀ Q : List Nat, grps key Q (V1 ++ key p :: V2) = grps key Q V1 ++ (if nonE (grp key Q (key p)) then [grp key Q (key p)] else []) ++ grps key Q V2 := fun Q => by
      rw [grps_app, show key p :: V2 = [key p] ++ V2 from rfl, grps_app, ← List.append_assoc]
      congr 2
      unfold grps
      rw [List.map_singleton]
      cases hn : nonE (grp key Q (key p)) with
      | true => rw [List.filter_cons_of_pos hn]; rfl
      | false => rw [List.filter_cons_of_neg (by rw [hn]; decide)]; rfl
    rw [step, ih, split, split, e2 q hle, e2 (q ++ [p]) (fun x hx => (List.mem_append.mp hx).elim (hle x) fun h => by rw [List.mem_singleton.mp h]; exact Int.le_refl _), e1, grp_snoc, if_pos rfl, List.append_nil, List.append_nil]
    have n1 : nonE (grp key q (key p) ++ [p]) = true := by unfold nonE; cases grp key q (key p) <;> rfl
    rw [n1, if_pos rfl]
    cases hg : grp key q (key p) with
    | nil =>
      have hnot : nonE ([] : List Nat) = false := rfl
      rw [hnot, if_neg (by decide), List.append_nil, List.nil_append]
      rcases snoc_cases (grps key q V1) with e | ⟨k, g, e⟩
      · rw [e]; rfl
      · rw [e, stepL_snoc]
        have hgm : g ∈ grps key q V1 := by rw [e]; simp
        unfold grps at hgm
        obtain ⟨hgm, hgn⟩ := List.mem_filter.mp hgm
        obtain ⟨v, hv, rfl⟩ := List.mem_map.mp hgm
        have hh : ∃ x, grp key q v = x :: (grp key q v).tail := by
          cases hx : grp key q v with
          | nil => rw [hx] at hgn; cases hgn
          | cons x t => exact ⟨x, rfl⟩
        obtain ⟨x, hx⟩ := hh
        have hxm : x ∈ grp key q v := by rw [hx]; simp
        unfold grp at hxm
        obtain ⟨hxq, hxv⟩ := List.mem_filter.mp hxm
        have hxv : key x = v := by simpa using hxv
        have : (grp key q v).headD 0 = x := by rw [hx]; rfl
        rw [this, hne p (by simp) x (List.mem_append_left _ hxq)]
        have h3 := lt1 v hv
        have : (key p != key x) = true := by simp; omega
        rw [if_pos this]
    | cons x t =>
      have hxm : x ∈ grp key q (key p) := by rw [hg]; simp
      unfold grp at hxm
      obtain ⟨hxq, hxv⟩ := List.mem_filter.mp hxm
      have hxv : key x = key p := by simpa using hxv
      have hnn : nonE (x :: t) = true := rfl
      rw [hnn, if_pos rfl, stepL_snoc]
      have : (x :: t).headD 0 = x := rfl
      rw [this, hne p (by simp) x (List.mem_append_left _ hxq)]
      have : (key p != key x) = false := by simp [hxv]
      rw [if_neg (by rw [this]; decide)]
end Mine
end
section
namespace Mine
open PySem
/-- what is left of the sequences -/
noncomputable def cutS (left : List Nat) (s : List Nat) : List Nat := s.filter left.contains
noncomputable def Fl (base : List (List Nat)) (left : List Nat) : List (List Nat) := (base.map (cutS left)).filter nonE
theorem merge_ne (k : Nat) (gs : List (List Nat)) (row : List Nat) : mergeF k (gs.filter nonE) row = mergeF k gs row := by
  cases k with
  | zero => rfl
  | succ k =>
    have : (gs.filter nonE).filter (fun s => !s.isEmpty) = gs.filter fun s => !s.isEmpty := by
      rw [List.filter_filter]
      refine List.filter_congr fun s _ => ?_
      show (_ && nonE s) = _
      unfold nonE; rw [Bool.and_self]
    unfold mergeF
    rw [this]
theorem cut_mem {left s : List Nat} {x : Nat} : x ∈ cutS left s ↔ x ∈ s ∧ x ∈ left := by
  unfold cutS; rw [List.mem_filter]; simp
theorem drop_cut {left s : List Nat} {c : Nat} (hl : left.Nodup) (hc : c ∉ (cutS left s).tail) : dropF c (cutS left s) = cutS (left.erase c) s := by
  have e : cutS (left.erase c) s = (cutS left s).filter fun x => x != c := by
    unfold cutS
    rw [List.filter_filter]
    refine List.filter_congr fun x _ => ?_
    rw [Bool.eq_iff_iff]
    simp only [List.contains_iff_mem, Bool.and_eq_true, bne_iff_ne, ne_eq]
    exact hl.mem_erase_iff
  rw [e]
  unfold dropF
  generalize cutS left s = t at hc
  cases t with
  | nil => split <;> rfl
  | cons a t =>
    have ht : t.filter (fun x => x != c) = t := List.filter_eq_self.mpr fun x hx => by
      simp only [bne_iff_ne, ne_eq]
      intro e; subst e; exact hc hx
    show (if a = c then t else a :: t) = _
    by_cases h : a = c
    · rw [if_pos h, List.filter_cons_of_neg (by simp [h]), ht]
    · rw [if_neg h, List.filter_cons_of_pos (by simp [h]), ht]
theorem ok_tail {qs : List (List Nat)} {c : Nat} (h : okHead qs c = true) {s : List Nat} (hs : s ∈ qs) : c ∉ s.tail := by
  unfold okHead at h
  have := List.all_eq_true.mp h s hs
  simpa using this
theorem next_F {base : List (List Nat)} {left : List Nat} {c : Nat} (hl : left.Nodup) (hc : okHead (Fl base left) c = true) : ((Fl base left).map (dropF c)).filter nonE = Fl base (left.erase c) := by
  have ht : ∀ s ∈ base, c ∉ (cutS left s).tail := fun s hs q => by
    cases hn : nonE (cutS left s) with
    | true => exact ok_tail hc (List.mem_filter.mpr ⟨List.mem_map.mpr ⟨s, hs, rfl⟩, hn⟩) q
    | false =>
      cases hx : cutS left s with
      | nil => rw [hx] at q; cases q
      | cons a t => rw [hx] at hn; cases hn
  unfold Fl
  clear hc
  induction base with
  | nil => rfl
  | cons s base ih =>
    have ih := ih fun s' hs' => ht s' (.tail _ hs')
    have e := drop_cut hl (ht s (.head _))
    rw [List.map_cons, List.map_cons]
    cases hn : nonE (cutS left s) with
    | true =>
      rw [List.filter_cons_of_pos hn, List.map_cons, e]
      cases hm : nonE (cutS (left.erase c) s) with
      | true => rw [List.filter_cons_of_pos hm, List.filter_cons_of_pos hm, ih]
      | false => rw [List.filter_cons_of_neg (by rw [hm]; decide), List.filter_cons_of_neg (by rw [hm]; decide), ih]
    | false =>
      have hs : cutS left s = [] := by
        cases hx : cutS left s with
        | nil => rfl
        | cons a t => rw [hx] at hn; cases hn
      have hm : nonE (cutS (left.erase c) s) = false := by
        have : cutS (left.erase c) s = [] := by
          rw [← e, hs]; unfold dropF; split <;> rfl
        rw [this]; rfl
      rw [List.filter_cons_of_neg (by rw [hn]; decide), List.filter_cons_of_neg (by rw [hm]; decide), ih]
theorem F_filter (base : List (List Nat)) (left : List Nat) : (Fl base left).filter (fun s => !s.isEmpty) = Fl base left := by
  unfold Fl
  rw [List.filter_filter]
  refine List.filter_congr fun s _ => ?_
  show (_ && nonE s) = _
  unfold nonE; rw [Bool.and_self]
theorem F_nil (base : List (List Nat)) : Fl base [] = [] := by
  unfold Fl
  rw [List.filter_eq_nil_iff]
  intro s hs
  obtain ⟨s', _, rfl⟩ := List.mem_map.mp hs
  have : cutS [] s' = [] := by
    unfold cutS; rw [List.filter_eq_nil_iff]; simp
  rw [this]; decide
theorem pick_ok {qs : List (List Nat)} {c : Nat} (h : pickF qs = some c) : okHead qs c = true := by
  unfold pickF at h
  exact List.find?_some h
theorem merge_step {base : List (List Nat)} {left row : List Nat} {k c : Nat} (hl : left.Nodup) (hp : pickF (Fl base left) = some c) : mergeF (k + 1) (Fl base left) row = mergeF k (Fl base (left.erase c)) (row ++ [c]) := by
  have hne : (Fl base left).isEmpty = false := by
    cases hx : Fl base left with
    | nil => rw [hx] at hp; cases hp
    | cons _ _ => rfl
  rw [mergeF, F_filter, hne, if_neg (by decide), hp]
  show mergeF k ((Fl base left).map (dropF c)) _ = _
  rw [← merge_ne, next_F hl (pick_ok hp)]
theorem merge_end {base : List (List Nat)} {row : List Nat} {k : Nat} : mergeF (k + 1) (Fl base []) row = some row := by
  rw [mergeF, F_nil]; rfl
/-- the merge takes what stands first -/
theorem merge_line {base : List (List Nat)} {q : List Nat} (hp : ∀ d c rest, q = d ++ c :: rest → pickF (Fl base (c :: rest)) = some c) : ∀ (left d row : List Nat), q = d ++ left → left.Nodup → ∀ k, left.length < k → mergeF k (Fl base left) row = some (row ++ left)
  | [], d, row, _, _, k + 1, _ => by rw [merge_end, List.append_nil]
  | c :: rest, d, row, e, hn, k + 1, hk => by
    rw [merge_step hn (hp d c rest e), List.erase_cons_head, merge_line hp rest (d ++ [c]) (row ++ [c]) (by rw [e]; simp) (List.nodup_cons.mp hn).2 k (by simpa using hk)]
    simp
theorem taken_step {Ah : Nat → List Nat} {M : Nat → Int} {left row r : List Nat} {k b : Nat} (hf : freeF Ah left = b :: r) : takenF Ah M (k + 1) left row = takenF Ah M k (left.erase (bestN M b r)) (row ++ [bestN M b r]) := by
  have hne : left.isEmpty = false := by
    cases left with
    | nil => cases hf
    | cons _ _ => rfl
  rw [takenF, hne, if_neg (by decide), hf]
/-- the merge takes what is free and farthest -/
theorem merge_taken {base : List (List Nat)} {Ah : Nat → List Nat} {M : Nat → Int} (hp : ∀ left : List Nat, left.Nodup → left ≠ [] → (∀ x ∈ left, x < 6) → ∃ b r, freeF Ah left = b :: r ∧ pickF (Fl base left) = some (bestN M b r) ∧ bestN M b r ∈ left) :
    ∀ (k : Nat) (left row : List Nat), left.Nodup → (∀ x ∈ left, x < 6) → left.length < k → ∃ res, takenF Ah M k left row = some res ∧ mergeF k (Fl base left) row = some res
  | k + 1, [], row, _, _, _ => ⟨row, by rw [takenF]; rfl, merge_end⟩
  | k + 1, a :: l, row, hn, h6, hk => by
    obtain ⟨b, r, hf, hpk, hm⟩ := hp (a :: l) hn (by simp) h6
    obtain ⟨res, e1, e2⟩ := merge_taken hp k ((a :: l).erase (bestN M b r)) (row ++ [bestN M b r]) (hn.erase _) (fun x hx => h6 x (List.mem_of_mem_erase hx)) (by rw [List.length_erase_of_mem hm]; simp at hk ⊢; omega)
    exact ⟨res, by rw [taken_step hf, e1], by rw [merge_step hn hpk, e2]⟩
end Mine
end
section
namespace Mine
open PySem
section
variable (key oth : Nat → Int)
noncomputable def LL (a b : Nat) : Prop := key a < key b ∨ (key a = key b ∧ (oth a < oth b ∨ (oth a = oth b ∧ a < b)))
/-- o stands ahead of c, in its row or in its column -/
noncomputable def AA (o c : Nat) : Prop := (key o = key c ∧ (oth o < oth c ∨ (oth o = oth c ∧ o < c))) ∨ (oth o = oth c ∧ (key o < key c ∨ (key o = key c ∧ o < c)))
end
section
variable {key oth : Nat → Int} {q q' left : List Nat} {W U : List Int}
theorem LL.trans {a b c : Nat} (h : LL key oth a b) (k : LL key oth b c) : LL key oth a c := lex_trans h k fun h k => lex_trans h k Nat.lt_trans
theorem LL.irr {a : Nat} : ¬ LL key oth a a := lex_irr (lex_irr (Nat.lt_irrefl _))
theorem LL.snd {o c : Nat} (e : key o = key c) (h : LL key oth o c) : oth o < oth c ∨ (oth o = oth c ∧ o < c) := h.elim (fun h => absurd (e ▸ h) (Int.lt_irrefl _)) (·.2)
theorem LL.le {o c : Nat} (h : LL key oth o c) : key o ≤ key c := h.elim Int.le_of_lt fun h => Int.le_of_eq h.1
theorem AA.ll {o c : Nat} (h : AA key oth o c) : LL key oth o c := h.elim .inr fun h => h.2.elim .inl fun k => .inr ⟨k.1, .inr ⟨h.1, k.2⟩⟩
theorem LL.asym {a b : Nat} (h : LL key oth a b) : ¬ LL key oth b a := fun k => LL.irr (h.trans k)
theorem tail_iff : ∀ {t : List Nat} {c : Nat}, t.Pairwise (LL key oth) → (c ∈ t.tail ↔ c ∈ t ∧ ∃ o ∈ t, LL key oth o c)
  | [], c, _ => by simp
  | h :: tl, c, hp => by
    have hp' := List.pairwise_cons.mp hp
    constructor
    · intro hc
      exact ⟨.tail _ hc, h, .head _, hp'.1 c hc⟩
    · rintro ⟨hc, o, ho, hl⟩
      rcases List.mem_cons.mp hc with rfl | hc
      · rcases List.mem_cons.mp ho with rfl | ho
        · exact absurd hl LL.irr
        · exact absurd hl (LL.asym (hp'.1 o ho))
      · exact hc
theorem cut_pw {v : Int} {k : Nat → Int} (h : q.Pairwise (LL key oth)) : (cutS left (grp k q v)).Pairwise (LL key oth) := (h.filter _).filter _
theorem cut_grp {v : Int} {k : Nat → Int} {x : Nat} : x ∈ cutS left (grp k q v) ↔ (x ∈ q ∧ k x = v) ∧ x ∈ left := by
  rw [cut_mem]
  unfold grp
  rw [List.mem_filter]
  simp
theorem in_F {base : List (List Nat)} {s : List Nat} : s ∈ Fl base left ↔ ∃ b ∈ base, cutS left b = s ∧ s ≠ [] := by
  unfold Fl
  rw [List.mem_filter, List.mem_map]
  constructor
  · rintro ⟨⟨b, hb, rfl⟩, hn⟩
    exact ⟨b, hb, rfl, fun e => by rw [e] at hn; cases hn⟩
  · rintro ⟨b, hb, rfl, hn⟩
    refine ⟨⟨b, hb, rfl⟩, ?_⟩
    cases hx : cutS left b with
    | nil => exact absurd hx hn
    | cons a t => rfl
/-- the two orders -/
structure TO (key oth : Nat → Int) (q q' : List Nat) (W U : List Int) : Prop where
  q1 : ∀ i, i ∈ q ↔ i < 6
  q2 : ∀ i, i ∈ q' ↔ i < 6
  p1 : q.Pairwise (LL key oth)
  p2 : q'.Pairwise (LL oth key)
  w : ∀ i, i < 6 → key i ∈ W
  u : ∀ i, i < 6 → oth i ∈ U
noncomputable abbrev bas (key oth : Nat → Int) (q q' : List Nat) (W U : List Int) : List (List Nat) := W.map (grp key q) ++ U.map (grp oth q')
theorem ok_iff (t : TO key oth q q' W U) (h6 : ∀ x ∈ left, x < 6) {c : Nat} (hc : c ∈ left) : okHead (Fl (bas key oth q q' W U) left) c = true ↔ ∀ o ∈ left, ¬ AA key oth o c := by
  have c6 := h6 c hc
  constructor
  · intro h o ho ha
    have o6 := h6 o ho
    rcases ha with ⟨e, ha⟩ | ⟨e, ha⟩
    · have m1 : c ∈ cutS left (grp key q (key c)) := cut_grp.mpr ⟨⟨(t.q1 c).mpr c6, rfl⟩, hc⟩
      have m2 : o ∈ cutS left (grp key q (key c)) := cut_grp.mpr ⟨⟨(t.q1 o).mpr o6, e⟩, ho⟩
      exact ok_tail h (in_F.mpr ⟨_, List.mem_append_left _ (List.mem_map.mpr ⟨_, t.w c c6, rfl⟩), rfl, List.ne_nil_of_mem m1⟩) ((tail_iff (cut_pw t.p1)).mpr ⟨m1, o, m2, .inr ⟨e, ha⟩⟩)
    · have m1 : c ∈ cutS left (grp oth q' (oth c)) := cut_grp.mpr ⟨⟨(t.q2 c).mpr c6, rfl⟩, hc⟩
      have m2 : o ∈ cutS left (grp oth q' (oth c)) := cut_grp.mpr ⟨⟨(t.q2 o).mpr o6, e⟩, ho⟩
      exact ok_tail h (in_F.mpr ⟨_, List.mem_append_right _ (List.mem_map.mpr ⟨_, t.u c c6, rfl⟩), rfl, List.ne_nil_of_mem m1⟩) ((tail_iff (cut_pw t.p2)).mpr ⟨m1, o, m2, .inr ⟨e, ha⟩⟩)
  · intro h
    unfold okHead
    refine List.all_eq_true.mpr fun s hs => ?_
    obtain ⟨b, hb, rfl, _⟩ := in_F.mp hs
    have key' : c ∉ (cutS left b).tail := fun q => by
      rcases List.mem_append.mp hb with hb | hb
      · obtain ⟨v, _, rfl⟩ := List.mem_map.mp hb
        obtain ⟨m, o, mo, hl⟩ := (tail_iff (cut_pw t.p1)).mp q
        obtain ⟨⟨_, e1⟩, _⟩ := cut_grp.mp m
        obtain ⟨⟨_, e2⟩, ho⟩ := cut_grp.mp mo
        exact h o ho (.inl ⟨e2.trans e1.symm, LL.snd (e2.trans e1.symm) hl⟩)
      · obtain ⟨v, _, rfl⟩ := List.mem_map.mp hb
        obtain ⟨m, o, mo, hl⟩ := (tail_iff (cut_pw t.p2)).mp q
        obtain ⟨⟨_, e1⟩, _⟩ := cut_grp.mp m
        obtain ⟨⟨_, e2⟩, ho⟩ := cut_grp.mp mo
        exact h o ho (.inr ⟨e2.trans e1.symm, LL.snd (e2.trans e1.symm) hl⟩)
    simpa using key'
/-- the heads of the first sequences -/
theorem heads (key : Nat → Int) (q left : List Nat) {T : Int → Int → Prop} : ∀ {W : List Int}, W.Pairwise T → ((Fl (W.map (grp key q)) left).map (·.headD 0)).Pairwise (fun a b => T (key a) (key b)) ∧ ∀ a ∈ (Fl (W.map (grp key q)) left).map (·.headD 0), key a ∈ W ∧ a ∈ left
  | [], _ => ⟨.nil, fun a h => absurd h List.not_mem_nil⟩
  | v :: W, h => by
    obtain ⟨h1, h2⟩ := List.pairwise_cons.mp h
    obtain ⟨i1, i2⟩ := heads key q left h2
    have e : Fl ((v :: W).map (grp key q)) left = (if nonE (cutS left (grp key q v)) then [cutS left (grp key q v)] else []) ++ Fl (W.map (grp key q)) left := by
      unfold Fl
      rw [List.map_cons, List.map_cons]
      cases hn : nonE (cutS left (grp key q v)) with
      | true => rw [List.filter_cons_of_pos hn]; rfl
      | false => rw [List.filter_cons_of_neg (by rw [hn]; decide)]; rfl
    rw [e]
    cases hx : cutS left (grp key q v) with
    | nil => exact ⟨i1, fun a ha => ⟨.tail _ (i2 a ha).1, (i2 a ha).2⟩⟩
    | cons x t =>
      have hm : x ∈ cutS left (grp key q v) := by rw [hx]; simp
      obtain ⟨⟨_, e1⟩, hl⟩ := cut_grp.mp hm
      refine ⟨.cons (fun b hb => ?_) i1, fun a ha => ?_⟩
      · show T (key x) (key b)
        rw [e1]; exact h1 _ (i2 b hb).1
      · rcases List.mem_cons.mp ha with ha | ha
        · have ha' : a = x := ha
          rw [ha', e1]
          exact ⟨.head _, hl⟩
        · exact ⟨.tail _ (i2 a ha).1, (i2 a ha).2⟩
theorem pick_spec (t : TO key oth q q' W U) {T : Int → Int → Prop} (hW : W.Pairwise T) (h6 : ∀ x ∈ left, x < 6) {e0 : Nat} (he : e0 ∈ left) (hf : ∀ o ∈ left, ¬ AA key oth o e0) :
    ∃ c, pickF (Fl (bas key oth q q' W U) left) = some c ∧ c ∈ left ∧ (∀ o ∈ left, ¬ AA key oth o c) ∧ ∀ e ∈ left, (∀ o ∈ left, ¬ AA key oth o e) → e = c ∨ T (key c) (key e) := by
  obtain ⟨i1, i2⟩ := heads key q left hW
  have isH : ∀ e ∈ left, (∀ o ∈ left, ¬ AA key oth o e) → e ∈ (Fl (W.map (grp key q)) left).map (·.headD 0) := fun e hel hef => by
    have m : e ∈ cutS left (grp key q (key e)) := cut_grp.mpr ⟨⟨(t.q1 e).mpr (h6 e hel), rfl⟩, hel⟩
    have inb : cutS left (grp key q (key e)) ∈ Fl (W.map (grp key q)) left := in_F.mpr ⟨_, List.mem_map.mpr ⟨_, t.w e (h6 e hel), rfl⟩, rfl, List.ne_nil_of_mem m⟩
    have nt : e ∉ (cutS left (grp key q (key e))).tail := ok_tail ((ok_iff t h6 hel).mpr hef) (in_F.mpr ⟨_, List.mem_append_left _ (List.mem_map.mpr ⟨_, t.w e (h6 e hel), rfl⟩), rfl, List.ne_nil_of_mem m⟩)
    refine List.mem_map.mpr ⟨_, inb, ?_⟩
    cases hx : cutS left (grp key q (key e)) with
    | nil => rw [hx] at m; cases m
    | cons x tl =>
      rw [hx] at m nt
      rcases List.mem_cons.mp m with rfl | m
      · rfl
      · exact absurd m nt
  have split : (Fl (bas key oth q q' W U) left).map (·.headD 0) = (Fl (W.map (grp key q)) left).map (·.headD 0) ++ (Fl (U.map (grp oth q')) left).map (·.headD 0) := by
    unfold Fl; rw [List.map_append, List.filter_append, List.map_append]
  unfold pickF
  rw [split, List.find?_append]
  obtain ⟨c, hc⟩ : ∃ c, ((Fl (W.map (grp key q)) left).map (·.headD 0)).find? (okHead (Fl (bas key oth q q' W U) left)) = some c := Option.isSome_iff_exists.mp (List.find?_isSome.mpr ⟨e0, isH e0 he hf, (ok_iff t h6 he).mpr hf⟩)
  rw [hc]
  obtain ⟨pc, as, bs, hab, hns⟩ := List.find?_eq_some_iff_append.mp hc
  have cm : c ∈ left := (i2 c (by rw [hab]; simp)).2
  refine ⟨c, rfl, cm, (ok_iff t h6 cm).mp pc, fun e hel hef => ?_⟩
  have := isH e hel hef
  rw [hab] at this i1
  rcases List.mem_append.mp this with h | h
  · have := hns e h
    rw [(ok_iff t h6 hel).mpr hef] at this
    cases this
  · rcases List.mem_cons.mp h with h | h
    · exact .inl h
    · exact .inr ((List.pairwise_cons.mp (List.pairwise_append.mp i1).2.1).1 e h)
/-- rows first, in their order: the one order -/
theorem line_law (t : TO key oth q q' W U) (hW : W.Pairwise (· < ·)) : mergeF 7 (bas key oth q q' W U) [] = some q := by
  have hnd : q.Nodup := by
    unfold List.Nodup
    exact List.Pairwise.imp (fun {a b} k e => by subst e; exact LL.irr k) t.p1
  have hlen : q.length = 6 := by
    have : q.Perm (List.range 6) := (List.perm_ext_iff_of_nodup hnd List.nodup_range).mpr fun i => by rw [t.q1, List.mem_range]
    rw [this.length_eq]; rfl
  have all : Fl (bas key oth q q' W U) q = (bas key oth q q' W U).filter nonE := by
    unfold Fl
    congr 1
    have hself : ∀ s ∈ bas key oth q q' W U, cutS q s = s := fun s hs => by
      unfold cutS
      refine List.filter_eq_self.mpr fun x hx => ?_
      rw [List.contains_iff_mem, t.q1]
      rcases List.mem_append.mp hs with hs | hs
      · obtain ⟨v, _, rfl⟩ := List.mem_map.mp hs
        exact (t.q1 x).mp (List.mem_filter.mp hx).1
      · obtain ⟨v, _, rfl⟩ := List.mem_map.mp hs
        exact (t.q2 x).mp (List.mem_filter.mp hx).1
    exact (List.map_congr_left hself).trans (List.map_id' _)
  rw [← merge_ne, ← all]
  refine merge_line (q := q) (fun d c rest e => ?_) q [] [] rfl hnd 7 (by omega)
  have h6 : ∀ x ∈ c :: rest, x < 6 := fun x hx => (t.q1 x).mp (by rw [e]; exact List.mem_append_right _ hx)
  have hp := t.p1
  rw [e] at hp
  have hp2 := (List.pairwise_cons.mp (List.pairwise_append.mp hp).2.1).1
  have hfree : ∀ o ∈ c :: rest, ¬ AA key oth o c := fun o ho ha => by
    have hl : LL key oth o c := AA.ll ha
    rcases List.mem_cons.mp ho with rfl | ho
    · exact LL.irr hl
    · exact LL.asym (hp2 o ho) hl
  obtain ⟨c', hpk, hm, _, hmin⟩ := pick_spec t hW h6 (.head _) hfree
  rcases hmin c (.head _) hfree with rfl | hlt
  · exact hpk
  · exfalso
    rcases List.mem_cons.mp hm with rfl | hm
    · exact absurd hlt (Int.lt_irrefl _)
    · exact absurd hlt (Int.not_lt.mpr (LL.le (hp2 c' hm)))
theorem ltI2 (a c : Int) (i j : Nat) : ltI [a, i] [c, j] = decide (a < c ∨ (a = c ∧ i < j)) := by
  unfold ltI
  by_cases h : a = c
  · subst h
    unfold ltI
    by_cases h3 : (i : Int) = j
    · have : i = j := by omega
      subst this
      unfold ltI
      simp
    · rw [if_pos rfl, if_neg h3]
      simp; try omega
  · rw [if_neg h]
    simp [h]
theorem best_is {M : Nat → Int} {c : Nat} : ∀ (r : List Nat) (b : Nat), c ∈ b :: r → (∀ e ∈ b :: r, e = c ∨ M e < M c) → bestN M b r = c
  | [], b, hc, _ => (List.mem_singleton.mp hc).symm
  | x :: r, b, hc, h => by
    rw [bestN, ltI2]
    refine best_is r _ ?_ fun e he => ?_
    · rcases h b (by simp) with rfl | h1
      · rcases h x (by simp) with rfl | h2
        · rw [if_neg (by simp)]; simp
        · rw [if_neg (by simp; omega)]; simp
      · rcases h x (by simp) with rfl | h2
        · rw [if_pos (by simp; omega)]; simp
        · have : c ∈ r := by
            rcases List.mem_cons.mp hc with rfl | hc
            · omega
            · rcases List.mem_cons.mp hc with rfl | hc
              · omega
              · exact hc
          exact .tail _ this
    · rcases List.mem_cons.mp he with rfl | he
      · split
        · exact h x (by simp)
        · exact h b (by simp)
      · exact h e (by simp [he])
/-- rows first, from the last to the first: the free one that lies farthest -/
theorem taken_law (t : TO key oth q q' W U) (hW : W.Pairwise (fun a b => b < a)) {Ah : Nat → List Nat} (hA : ∀ o c, o < 6 → c < 6 → (o ∈ Ah c ↔ AA key oth o c)) : ∃ res, takenF Ah key 7 (List.range 6) [] = some res ∧ mergeF 7 (bas key oth q q' W U) [] = some res := by
  have fm : ∀ left : List Nat, (∀ x ∈ left, x < 6) → ∀ c, c ∈ freeF Ah left ↔ c ∈ left ∧ ∀ o ∈ left, ¬ AA key oth o c := fun left h6 c => by
    unfold freeF
    rw [List.mem_filter]
    refine and_congr_right fun hc => ?_
    rw [List.isEmpty_iff, List.filter_eq_nil_iff]
    constructor
    · intro h o ho ha
      exact h o ((hA o c (h6 o ho) (h6 c hc)).mpr ha) (by simpa using ho)
    · intro h o ho ha
      have ho' : o ∈ left := by simpa using ha
      exact h o ho' ((hA o c (h6 o ho') (h6 c hc)).mp ho)
  obtain ⟨res, e1, e2⟩ := merge_taken (base := bas key oth q q' W U) (Ah := Ah) (M := key) (fun left hn hne h6 => by
    obtain ⟨m, hm⟩ : ∃ m, m ∈ cutS left q := by
      obtain ⟨x, hx⟩ := List.exists_mem_of_ne_nil left hne
      exact ⟨x, cut_mem.mpr ⟨(t.q1 x).mpr (h6 x hx), hx⟩⟩
    cases hx : cutS left q with
    | nil => rw [hx] at hm; cases hm
    | cons e0 tl =>
      have he : e0 ∈ left := (cut_mem.mp (by rw [hx]; simp)).2
      have hp : (e0 :: tl).Pairwise (LL key oth) := by rw [← hx]; exact t.p1.filter _
      have hfree : ∀ o ∈ left, ¬ AA key oth o e0 := fun o ho ha => by
        have hl : LL key oth o e0 := AA.ll ha
        have hom : o ∈ e0 :: tl := by rw [← hx]; exact cut_mem.mpr ⟨(t.q1 o).mpr (h6 o ho), ho⟩
        rcases List.mem_cons.mp hom with rfl | hom
        · exact LL.irr hl
        · exact LL.asym ((List.pairwise_cons.mp hp).1 o hom) hl
      obtain ⟨c, hpk, hm, hcf, hmax⟩ := pick_spec t hW h6 he hfree
      have hcm : c ∈ freeF Ah left := (fm left h6 c).mpr ⟨hm, hcf⟩
      cases hfr : freeF Ah left with
      | nil => rw [hfr] at hcm; cases hcm
      | cons b r =>
        have : bestN key b r = c := best_is r b (by rw [← hfr]; exact hcm) fun e hem => by
          have := (fm left h6 e).mp (by rw [hfr]; exact hem)
          exact hmax e this.1 this.2
        exact ⟨b, r, rfl, by rw [this]; exact hpk, by rw [this]; exact hm⟩) 7 (List.range 6) [] List.nodup_range (fun x hx => by simpa using hx) (by simp)
  refine ⟨res, e1, ?_⟩
  rw [← merge_ne, ← e2]
  congr 1
  unfold Fl
  congr 1
  refine ((List.map_congr_left fun s hs => ?_).trans (List.map_id' _)).symm
  unfold cutS
  refine List.filter_eq_self.mpr fun x hx => ?_
  rw [List.contains_iff_mem, List.mem_range]
  rcases List.mem_append.mp hs with hs | hs
  · obtain ⟨v, _, rfl⟩ := List.mem_map.mp hs
    exact (t.q1 x).mp (List.mem_filter.mp hx).1
  · obtain ⟨v, _, rfl⟩ := List.mem_map.mp hs
    exact (t.q2 x).mp (List.mem_filter.mp hx).1
end
end Mine
end
section
namespace Mine
open PySem
open PySem.W (kas_sort)
/-- a row of floats that are told apart as their numbers are -/
structure Enc (x : Nat → UInt64) (N : Nat) : Prop where
  z : ∀ a, a < N → ∀ b, b < N → Float64.isZero (Float64.sub (x a) (x b)) = decide (a = b)
  s : ∀ a, a < N → ∀ b, b < N → (Float64.cmpInt (Float64.sub (x a) (x b)) 0 == some Ordering.lt) = decide (a < b)
  e : ∀ a, a < N → ∀ b, b < N → (Float64.cmp (x a) (x b) != some Ordering.eq) = decide (a ≠ b)
noncomputable def q8 (k : Nat) : UInt64 := Float64.ofFrac false k 8
noncomputable def q16 (k : Nat) : UInt64 := Float64.ofFrac false k 16
noncomputable def q2 (k : Nat) : UInt64 := Float64.ofFrac false k 2
theorem enc8 : Enc q8 8 := ⟨by decide +kernel, by decide +kernel, by decide +kernel⟩
theorem enc16 : Enc q16 17 := ⟨by decide +kernel, by decide +kernel, by decide +kernel⟩
theorem enc2 : Enc q2 3 := ⟨by decide +kernel, by decide +kernel, by decide +kernel⟩
noncomputable abbrev F6 (x : Nat → UInt64) (f : Nat → Nat) : List UInt64 := (List.range 6).map fun i => x (f i)
theorem F6_at (x : Nat → UInt64) (f : Nat → Nat) {i : Nat} (h : i < 6) : (F6 x f).getD i 0 = x (f i) := by
  simp [h]
noncomputable def rho (f g : Nat → Nat) (i : Nat) : Int := 32 * f i + g i
theorem lt_law {x y : Nat → UInt64} {N M : Nat} (hx : Enc x N) (hy : Enc y M) (hM : M ≤ 32) {f g : Nat → Nat} (hf : ∀ i, f i < N) (hg : ∀ i, g i < M) {i j : Nat} (hi : i < 6) (hj : j < 6) : ltF (F6 x f) (F6 y g) i j = decide (rho f g i < rho f g j) := by
  unfold ltF cmpF
  rw [F6_at x f hi, F6_at x f hj, F6_at y g hi, F6_at y g hj, hx.z _ (hf i) _ (hf j)]
  have h1 := hg i
  have h2 := hg j
  unfold rho
  by_cases h : f i = f j
  · rw [if_pos (by simpa using h), hy.s _ (hg i) _ (hg j), h]
    exact decide_eq_decide.mpr (by omega)
  · rw [if_neg (by simpa using h), hx.s _ (hf i) _ (hf j)]
    exact decide_eq_decide.mpr (by omega)
theorem sort_law {x y : Nat → UInt64} {N M : Nat} (hx : Enc x N) (hy : Enc y M) (hM : M ≤ 32) {f g : Nat → Nat} (hf : ∀ i, f i < N) (hg : ∀ i, g i < M) : Sorted 6 (rho f g) (sortP (F6 x f) (F6 y g) (List.range 6)).toList := by
  have := chk_ok (n := 6) (r := rho f g) (lt := fun i j => ltF (F6 x f) (F6 y g) ((List.range 6).getD i 0) ((List.range 6).getD j 0)) (fun i j hi hj => by
    have e : ∀ i, i < 6 → (List.range 6).getD i 0 = i := fun i hi => by simp [hi]
    rw [e i hi, e j hj]
    exact lt_law hx hy hM hf hg hi hj) chk6 (sound0 6 _)
  exact sorted_of this.2.1 this.2.2.1 this.2.2.2
theorem two_of {r : Nat → Int} {q : List Nat} (h : Sorted 2 r q) : q = if r 1 < r 0 then [1, 0] else [0, 1] := by
  have hl := h.len
  match q, hl with
  | [a, b], _ =>
    have ha := (h.mem a).mp (by simp)
    have hb := (h.mem b).mp (by simp)
    have hp := (List.pairwise_cons.mp h.pw).1 b (by simp)
    unfold L at hp
    have ca : a = 0 ∨ a = 1 := by omega
    have cb : b = 0 ∨ b = 1 := by omega
    rcases ca with rfl | rfl <;> rcases cb with rfl | rfl
    · omega
    · rw [if_neg (by omega)]
    · rw [if_pos (by omega)]
    · omega
theorem pair_law {x : Nat → UInt64} {N : Nat} (hx : Enc x N) (hN : N ≤ 32) {f : Nat → Nat} (hf : ∀ i, f i < N) {p : Nat} (hp : p < 5) : (∀ a ∈ (sortP (F6 x f) (F6 x f) [p, p + 1]).toList, a < 2) ∧ (sortP (F6 x f) (F6 x f) [p, p + 1]).toList.length = 2 ∧ (sortP (F6 x f) (F6 x f) [p, p + 1]).toList.map (fun i => [p, p + 1].getD i 0) = if f (p + 1) < f p then [p + 1, p] else [p, p + 1] := by
  have := chk_ok (n := 2) (r := fun i => rho f f ([p, p + 1].getD i 0)) (lt := fun i j => ltF (F6 x f) (F6 x f) ([p, p + 1].getD i 0) ([p, p + 1].getD j 0)) (fun i j hi hj => by
    have e : ∀ i, i < 2 → [p, p + 1].getD i 0 < 6 := fun i hi => by
      have : i = 0 ∨ i = 1 := by omega
      rcases this with rfl | rfl
      · show p < 6; omega
      · show p + 1 < 6; omega
    exact lt_law hx hx hN hf hf (e i hi) (e j hj)) chk2 (sound0 2 _)
  refine ⟨this.2.2.1, this.1, ?_⟩
  have h2 := two_of (sorted_of this.2.1 this.2.2.1 this.2.2.2)
  show List.map _ (sortP (F6 x f) (F6 x f) [p, p + 1]).toList = _
  unfold sortP
  show List.map _ (kev _ (kas_sort 2)).toList = _
  rw [h2]
  have e : ([p, p + 1].getD 1 0 = p + 1) ∧ ([p, p + 1].getD 0 0 = p) := ⟨rfl, rfl⟩
  rw [e.1, e.2]
  unfold rho
  by_cases h : f (p + 1) < f p
  · rw [if_pos (by omega), if_pos h]; rfl
  · rw [if_neg (by omega), if_neg h]; rfl
/-- the orders, from the sorts -/
theorem rho_lt {f g : Nat → Nat} (hg : ∀ i, g i < 32) {a b : Nat} : rho f g a < rho f g b ↔ (f a : Int) < f b ∨ ((f a : Int) = f b ∧ (g a : Int) < g b) := by
  have h1 := hg a
  have h2 := hg b
  unfold rho
  omega
theorem rho_eq {f g : Nat → Nat} (hg : ∀ i, g i < 32) {a b : Nat} : rho f g a = rho f g b ↔ (f a : Int) = f b ∧ (g a : Int) = g b := by
  have h1 := hg a
  have h2 := hg b
  unfold rho
  omega
theorem L_LL {f g : Nat → Nat} (hg : ∀ i, g i < 32) {a b : Nat} : L (rho f g) a b ↔ LL (fun i => (f i : Int)) (fun i => (g i : Int)) a b :=
  ⟨fun h => h.elim (fun h => ((rho_lt hg).mp h).elim .inl fun h => .inr ⟨h.1, .inl h.2⟩) fun h => .inr ⟨((rho_eq hg).mp h.1).1, .inr ⟨((rho_eq hg).mp h.1).2, h.2⟩⟩,
    fun h => h.elim (fun h => .inl ((rho_lt hg).mpr (.inl h))) fun h => h.2.elim (fun k => .inl ((rho_lt hg).mpr (.inr ⟨h.1, k⟩))) fun k => .inr ⟨(rho_eq hg).mpr ⟨h.1, k.1⟩, k.2⟩⟩
theorem to_of {f g : Nat → Nat} {q q' : List Nat} {W U : List Int} (hf : ∀ i, f i < 32) (hg : ∀ i, g i < 32) (h : Sorted 6 (rho f g) q) (h' : Sorted 6 (rho g f) q') (hW : ∀ i, i < 6 → (f i : Int) ∈ W) (hU : ∀ i, i < 6 → (g i : Int) ∈ U) : TO (fun i => (f i : Int)) (fun i => (g i : Int)) q q' W U :=
  ⟨h.mem, h'.mem, h.pw.imp (fun {a b} k => (L_LL hg).mp k), h'.pw.imp (fun {a b} k => (L_LL hf).mp k), hW, hU⟩
theorem counted_law' {f g : Nat → Nat} (hg : ∀ i, g i < 32) {q : List Nat} (h : Sorted 6 (rho f g) q) : rowF (fun i => (f i : Int)) (fun i => (g i : Int)) 6 = q.map fun (i : Nat) => (i : Int) :=
  counted_law (fun o i _ _ => by
    rw [ltI_lex]
    exact decide_eq_decide.mpr (L_LL hg).symm) h
theorem lines_law' {x : Nat → UInt64} {N : Nat} (hx : Enc x N) {f g : Nat → Nat} (hf : ∀ i, f i < N) (hg : ∀ i, g i < 32) {q : List Nat} (h : Sorted 6 (rho f g) q) {V : List Int} (hV : V.Pairwise (· < ·)) (hm : ∀ i, i < 6 → (f i : Int) ∈ V) : linesF (neF fun i => x (f i)) q = grps (fun i => (f i : Int)) q V :=
  lines_law hV q.length q rfl (h.pw.imp fun {a b} k => LL.le ((L_LL hg).mp k)) (fun p hp => hm p ((h.mem p).mp hp)) fun a ha b hb => by
    show (Float64.cmp (x (f a)) (x (f b)) != some Ordering.eq) = _
    rw [hx.e _ (hf a) _ (hf b)]
    by_cases e : f a = f b
    · simp [e]
    · have e' : (f a : Int) ≠ f b := by omega
      simp [e, e']
theorem AA_swap {f g : Nat → Int} {o c : Nat} : AA f g o c ↔ AA g f o c := Or.comm
theorem ahead_law {r l : Nat → Int} {o c : Nat} (ho : o < 6) : o ∈ aheadF r l c ↔ AA r l o c := by
  unfold aheadF AA
  rw [List.mem_append, List.mem_filter, List.mem_filter]
  simp only [List.mem_range, ltI2, Bool.and_eq_true, beq_iff_eq, decide_eq_true_eq]
  constructor
  · rintro (⟨_, h⟩ | ⟨_, e, h⟩)
    · exact .inl h
    · exact .inr ⟨e, .inl h⟩
  · rintro (h | ⟨e, h | ⟨e', h⟩⟩)
    · exact .inl ⟨ho, h⟩
    · exact .inr ⟨ho, e, h⟩
    · exact .inl ⟨ho, e', .inr ⟨e, h⟩⟩
end Mine
end
section
namespace Mine
open PySem PyProof.Rows
noncomputable def m0 : Mu := fun _ => none
noncomputable abbrev C3 := UInt64 × UInt64 × UInt64
noncomputable def fltR (x : Sc) : Res (fun f : UInt64 => x = .flt f) := match x with
  | .flt f => .ok f rfl
  | _ => .no
noncomputable def threeR (l : List Sc) : Res (fun c : C3 => l = [.flt c.1, .flt c.2.1, .flt c.2.2]) := match l with
  | [x, y, z] => (fltR x).bind fun a ha => (fltR y).bind fun b hb => (fltR z).bind fun c hc => .ok (a, b, c) (by rw [ha, hb, hc])
  | _ => .no
noncomputable def tupR (r : Rf) : Res (fun c : C3 => r = .ret (.tup [.flt c.1, .flt c.2.1, .flt c.2.2])) := match r with
  | .ret t => match t with
    | .tup l => (threeR l).bind fun c hc => .ok c (by rw [hc])
    | _ => .no
  | _ => .no
noncomputable def runC (i : Nat) (a b c : UInt64) : Option C3 := (px m0 60 (namesOf (stAt i)) ((parsOf (stAt i)).zip [tf a, tf b, tf c]) (bodyOf (stAt i))).bind fun p => (tupR p.2).val
noncomputable def q4 (k : Nat) : UInt64 := Float64.ofFrac false k 4
noncomputable def colOk (k sh v : Nat) : Option Bool := (runC 6 (q8 k) (q4 sh) (q2 v)).bind fun c => (runC 4 c.1 c.2.1 c.2.2).bind fun d => (runC 5 c.1 c.2.1 c.2.2).map fun e => d.1 == q8 (if sh = 0 then 0 else k) && (d.2.1 == q16 (v * (8 - sh)) && e.2.2 == q2 v)
theorem col_all1 (k : Nat) (hk : k < 8) : ∀ s, s < 5 → colOk k s 1 = some true := by
  have e : k = 0 ∨ k = 1 ∨ k = 2 ∨ k = 3 ∨ k = 4 ∨ k = 5 ∨ k = 6 ∨ k = 7 := by omega
  rcases e with rfl | rfl | rfl | rfl | rfl | rfl | rfl | rfl
  all_goals decide +kernel
theorem col_all2 (k : Nat) (hk : k < 8) : ∀ s, s < 5 → colOk k s 2 = some true := by
  have e : k = 0 ∨ k = 1 ∨ k = 2 ∨ k = 3 ∨ k = 4 ∨ k = 5 ∨ k = 6 ∨ k = 7 := by omega
  rcases e with rfl | rfl | rfl | rfl | rfl | rfl | rfl | rfl
  all_goals decide +kernel
/-- the colour of three numbers and what is told of it -/
theorem col_of {k s v : Nat} (hk : k < 8) (hs : s < 5) (hv : v = 1 ∨ v = 2) : ∃ c, runC 6 (q8 k) (q4 s) (q2 v) = some c ∧ ∃ d, runC 4 c.1 c.2.1 c.2.2 = some d ∧ ∃ e, runC 5 c.1 c.2.1 c.2.2 = some e ∧ d.1 = q8 (if s = 0 then 0 else k) ∧ d.2.1 = q16 (v * (8 - s)) ∧ e.2.2 = q2 v := by
  have h : colOk k s v = some true := by
    rcases hv with rfl | rfl
    · exact col_all1 k hk s hs
    · exact col_all2 k hk s hs
  obtain ⟨c, h1, h⟩ := Option.bind_eq_some_iff.mp h
  obtain ⟨d, h2, h⟩ := Option.bind_eq_some_iff.mp h
  obtain ⟨e, h3, h⟩ := Option.map_eq_some_iff.mp h
  obtain ⟨h4, h5⟩ := (Bool.and_eq_true _ _).mp h
  obtain ⟨h5, h6⟩ := (Bool.and_eq_true _ _).mp h5
  exact ⟨c, h1, d, h2, e, h3, beq_iff_eq.mp h4, beq_iff_eq.mp h5, beq_iff_eq.mp h6⟩
section
variable {prog : Program} {w : World} {P : Pm} {A : Around} {μ : Mu} {a : Addr}
theorem op_m0 {f : List Value → Sem Value} {Ts : List T} {r : T} (h : OpL prog w P A m0 f Ts r) : OpL prog w P A μ f Ts r := fun s xs Q E rb ht mo hz px o => h s xs Q E rb ht (fun _ _ e => nomatch e) hz px o
theorem run_ok (B : Blt P) {i : Nat} (F : FnI P a i) (sl : Sl 5 A) {x y z r g b : UInt64} (hlen : (parsOf (stAt i)).length = 3) (h : runC i x y z = some (r, g, b)) : OpL prog w P A μ (fun vs => call (.ref a) vs) [tf x, tf y, tf z] (.tup [.flt r, .flt g, .flt b]) := by
  obtain ⟨fd, F⟩ := F
  obtain ⟨⟨v', rf⟩, hp, h⟩ := Option.bind_eq_some_iff.mp h
  have e := Res.get (p := fun c : C3 => rf = .ret (.tup [.flt c.1, .flt c.2.1, .flt c.2.2])) h
  cases e
  intro Z
  exact op_m0 (call_px (Ts := [tf x, tf y, tf z]) B F sl hlen 60 (v' := v') hp)
end
end Mine
end
section
namespace Mine
open PySem PyProof.Rows
noncomputable def fixN (i : Nat) : Int := [77, 33, 21, 73, 3, 55].getD i 0
noncomputable def numF (ns : List Int) (i : Nat) : Int := fixN i + sumI ((pickV (ns.map ti) (some (i : Int)) none (some 6)).filterMap fun t => match t with | .sc (.int k) => some k | _ => none)
section
variable {prog : Program} {w : World} {P : Pm} {A : Around} {μ : Mu} {a : Addr}
theorem pick_ints (ns : List Int) (a b c : Option Int) : intsOf (pickV (ns.map ti) a b c) = some ((pickV (ns.map ti) a b c).filterMap fun t => match t with | .sc (.int k) => some k | _ => none) := by
  have : ∀ l : List T, (∀ t ∈ l, ∃ k, t = ti k) → intsOf l = some (l.filterMap fun t => match t with | .sc (.int k) => some k | _ => none) := by
    intro l
    induction l with
    | nil => intro _; rfl
    | cons t l ih =>
      intro h
      obtain ⟨k, rfl⟩ := h t (by simp)
      show Option.bind (some k) (fun i => (intsOf l).map (i :: ·)) = _
      rw [ih fun t ht => h t (by simp [ht])]
      rfl
  refine this _ fun t ht => ?_
  unfold pickV at ht
  obtain ⟨i, _, e⟩ := List.mem_filterMap.mp ht
  rw [List.getElem?_map] at e
  obtain ⟨k, _, rfl⟩ := Option.map_eq_some_iff.mp e
  exact ⟨k, rfl⟩
theorem fixN_at {i : Nat} (h : i < 6) : ([77, 33, 21, 73, 3, 55].map ti)[i]? = some (ti (fixN i)) := by
  have e : ∀ i, i < 6 → ([77, 33, 21, 73, 3, 55] : List Int)[i]? = some (fixN i) := by decide
  rw [List.getElem?_map, e i h]; rfl
theorem pick_len (ns : List Int) (h : ns.length ≤ 63) {i : Nat} (hi : i < 6) : (pickV (ns.map ti) (some (i : Int)) none (some 6)).length ≤ 4096 := by
  unfold pickV
  refine Nat.le_trans (List.length_filterMap_le _ _) ?_
  unfold sliceRange
  dsimp only
  rw [List.length_map, List.length_range]
  have e2 : (sliceBounds (some (i : Int)) none (some 6) (ns.map ti).length).2.2 = 6 := rfl
  have e1 : (sliceBounds (some (i : Int)) none (some 6) (ns.map ti).length).2.1 = (ns.map ti).length := rfl
  have e0 : 0 ≤ (sliceBounds (some (i : Int)) none (some 6) (ns.map ti).length).1 := Int.le_max_left _ _
  rw [e2, e1, if_pos (by decide)]
  rw [List.length_map] at *
  split <;> omega
theorem part_some {env : Env} {fm : Fm} {e : Expr} {k : Int} (h : Ev prog w P A env fm μ (eval e env) (ti k)) : PartOk prog w P A env fm μ (some e) (some k) := ⟨k, rfl, h⟩
theorem part_none {env : Env} {fm : Fm} : PartOk prog w P A env fm μ none none := rfl
theorem numbers_ok (B : Blt P) (F : FnI P a 8) (sl : Sl 5 A) (ns : List Int) (hns : ns.length ≤ 63) : OpL prog w P A μ (fun vs => call (.ref a) vs) [tis ns] (tis (l6 (numF ns))) := by
  obtain ⟨fd, F⟩ := F
  intro Z
  refine call_ok F sl.room rfl (vars' := (Str.ofString "fixed", tis [77, 33, 21, 73, 3, 55]) :: List.zip (parsOf (stAt 8)) [tis ns]) fun env => ?_
  have s4 : Sl 4 (A.deeper env) := sl.deeper env
  intro Z
  refine ex_cons (v₁ := (Str.ofString "fixed", tis [77, 33, 21, 73, 3, 55]) :: List.zip (parsOf (stAt 8)) [tis ns]) ?_ ?_
  · intro Z; exact ex_assign (k := .cell) (by rfl) (.inr rfl) (ev_pe B s4 12 (by rfl)) (by rfl)
  · intro Z
    refine ex_stop (ex_return ?_) (fun e => nomatch e)
    intro Z
    have e6 : tis (l6 (numF ns)) = .lst (((List.range 6).filter fun _ => true).map fun i => ti (numF ns i)) := by
      rw [filter_tt]; unfold l6
      show T.lst (List.map ti (List.map (numF ns) (List.range 6))) = _
      rw [List.map_map]; rfl
    rw [e6]
    refine ev_cmp (List.range 6) (fun (i : Nat) => ti (i : Int)) (fun _ => true) (fun i => ti (numF ns i)) s4.1 (fun _ _ => rfl) (by rfl) (by rfl) (ev_pe B s4 4 (by rfl)) (by show some _ = some _; rw [range0]; rfl) (by decide) (fun _ _ _ _ e => by have := ti_eq e; subst this; exact ⟨rfl, rfl⟩) (fun _ _ _ => tests_nil) ?_
    intro i hi _ cenv
    have hi : i < 6 := by simpa using hi
    intro Z
    refine ev_binop (a := ti (fixN i)) (b := ti (sumI ((pickV (ns.map ti) (some (i : Int)) none (some 6)).filterMap fun t => match t with | .sc (.int k) => some k | _ => none))) ?_ ?_ (binS_ok s4.1 rfl)
    · intro Z; exact ev_at (ev_pe B s4 2 (by rfl)) (ev_pe B s4 2 (by rfl)) rfl (fixN_at hi) (by omega) (fun _ _ _ => by intro e; cases e)
    · intro Z
      refine bk_sum (y := .lst (pickV (ns.map ti) (some (i : Int)) none (some 6))) rfl (pick_ints ..) B (s4.mono (by decide)) (by rfl) (by rfl) (by rfl) ?_
      intro Z
      refine evl_cons (by rfl) ?_ evl_nil
      intro Z
      exact ev_slice (x := tis ns) (ev_pe B s4 2 (by rfl)) (part_some (ev_pe B s4 2 (by rfl))) part_none (part_some (ev_pe B s4 2 (by rfl))) rfl (by decide) (pick_len ns hns hi)
end
end Mine
end
section
namespace Mine
open PySem PyProof.Rows
noncomputable def incS : Str := "Inconsistent hierarchy"
theorem l6_get (f : Nat → Int) {k : Nat} (h : k < 6) : ((l6 f).map ti)[k]? = some (ti (f k)) := l6_at f h
noncomputable def agreedT (p : Nat) (v l : Nat → Int) : T := if (decide (v (p + 1) < v p) != decide (l (p + 1) < l p)) = true then .lst [.sc (.str incS)] else if v (p + 1) < v p then tns [p + 1, p] else tns [p, p + 1]
section
variable {prog : Program} {w : World} {P : Pm} {A : Around} {μ : Mu} {a : Addr}
theorem gt_ev {env : Env} {fm : Fm} {x : Str} {p1 p2 p3 p4 p5 p6 p7 p8 p9 : Pos} {kk p : Nat} (hA : A.handled = none) (hp : p < 5) (f : Nat → Int) (hx : ∀ q, Ev prog w P A env fm μ (eval (.Name x q) env) (tis (l6 f))) (hq : ∀ q, Ev prog w P A env fm μ (eval (.Name (Str.ofString "place") q) env) (ti p)) :
    Ev prog w P A env fm μ (eval (.Compare (.Subscript (.Name x p1) (.Name (Str.ofString "place") p2) p3) [.Gt] [.Subscript (.Name x p4) (.BinOp (.Name (Str.ofString "place") p5) .Add (.Constant (.int 1) kk p6) p7) p8] p9) env) (.sc (.bool (decide (f (p + 1) < f p)))) := by
  intro Z
  refine ev_compare (a := ti (f p)) (b := ti (f (p + 1))) ?_ ?_ (cmpS_ok (by rfl)) (by rfl)
  · intro Z; exact ev_at (hx _) (hq _) rfl (l6_at f (by omega)) (by omega) (fun _ _ _ => by intro e; cases e)
  · intro Z
    refine ev_at (k := p + 1) (hx _) ?_ rfl (l6_at f (by omega)) (by omega) (fun _ _ _ => by intro e; cases e)
    intro Z
    exact ev_binop (a := ti p) (b := ti 1) (hq _) ev_int (binS_ok (op := .Add) (r := .int ((p : Int) + 1)) hA rfl)
theorem agreed_ok (B : Blt P) (F : FnI P a 15) (sl : Sl 5 A) (v l : Nat → Int) {p : Nat} (hp : p < 5) : OpL prog w P A μ (fun vs => call (.ref a) vs) [ti p, tis (l6 v), tis (l6 l)] (agreedT p v l) := by
  obtain ⟨fd, F⟩ := F
  intro Z
  refine call_ok F sl.room rfl (vars' := List.zip (parsOf (stAt 15)) [ti p, tis (l6 v), tis (l6 l)]) fun env => ?_
  have s4 : Sl 4 (A.deeper env) := sl.deeper env
  have gv : ∀ {p1 p2 p3 p4 p5 p6 p7 p8 p9 : Pos} {kk : Nat}, Ev prog w P (A.deeper env) env ⟨namesOf (stAt 15), List.zip (parsOf (stAt 15)) [ti p, tis (l6 v), tis (l6 l)]⟩ μ (eval (.Compare (.Subscript (.Name (Str.ofString "value") p1) (.Name (Str.ofString "place") p2) p3) [.Gt] [.Subscript (.Name (Str.ofString "value") p4) (.BinOp (.Name (Str.ofString "place") p5) .Add (.Constant (.int 1) kk p6) p7) p8] p9) env) (.sc (.bool (decide (v (p + 1) < v p)))) :=
    gt_ev s4.1 hp v (fun _ => ev_pe B s4 2 (by rfl)) (fun _ => ev_pe B s4 2 (by rfl))
  have gl : ∀ {p1 p2 p3 p4 p5 p6 p7 p8 p9 : Pos} {kk : Nat}, Ev prog w P (A.deeper env) env ⟨namesOf (stAt 15), List.zip (parsOf (stAt 15)) [ti p, tis (l6 v), tis (l6 l)]⟩ μ (eval (.Compare (.Subscript (.Name (Str.ofString "light") p1) (.Name (Str.ofString "place") p2) p3) [.Gt] [.Subscript (.Name (Str.ofString "light") p4) (.BinOp (.Name (Str.ofString "place") p5) .Add (.Constant (.int 1) kk p6) p7) p8] p9) env) (.sc (.bool (decide (l (p + 1) < l p)))) :=
    gt_ev s4.1 hp l (fun _ => ev_pe B s4 2 (by rfl)) (fun _ => ev_pe B s4 2 (by rfl))
  have hne : ∀ b : Bool, (decide (v (p + 1) < v p) != decide (l (p + 1) < l p)) = b → Ex prog w P (A.deeper env) env (namesOf (stAt 15)) μ (execs (bodyOf (stAt 15)) env) (List.zip (parsOf (stAt 15)) [ti p, tis (l6 v), tis (l6 l)]) (List.zip (parsOf (stAt 15)) [ti p, tis (l6 v), tis (l6 l)]) (.ret (agreedT p v l)) := by
    intro b hb
    unfold agreedT
    rw [hb]
    cases b with
    | true =>
      intro Z
      refine ex_stop (ex_if (b := true) ?_ (fun _ => ex_stop (ex_return (ev_pe B s4 4 (by rfl))) (fun e => nomatch e)) (fun e => nomatch e)) (fun e => nomatch e)
      intro Z; rw [← hb]; exact evb_sc gv gl (by rfl) (by rfl)
    | false =>
      intro Z
      refine ex_cons (ex_if (b := false) ?_ (fun e => nomatch e) (fun _ => ex_nil)) ?_
      · intro Z; rw [← hb]; exact evb_sc gv gl (by rfl) (by rfl)
      · intro Z
        refine ex_stop (ex_return ?_) (fun e => nomatch e)
        intro Z
        refine ev_ifexp (c := decide (v (p + 1) < v p)) ?_ ?_ ?_
        · intro Z
          refine evb_sc (x := .int (v p)) (y := .int (v (p + 1))) ?_ ?_ (by rfl) (by rfl)
          · intro Z; exact ev_at (ev_pe B s4 2 (by rfl)) (ev_pe B s4 2 (by rfl)) rfl (l6_at v (by omega)) (by omega) (fun _ _ _ => by intro e; cases e)
          · intro Z; exact ev_at (k := p + 1) (ev_pe B s4 2 (by rfl)) (ev_pe B s4 3 (by rfl)) rfl (l6_at v (by omega)) (by omega) (fun _ _ _ => by intro e; cases e)
        · intro hc
          have hc : v (p + 1) < v p := by simpa using hc
          rw [if_neg (by decide), if_pos hc]
          intro Z; exact ev_pe B s4 5 (by rfl)
        · intro hc
          have hc : ¬ v (p + 1) < v p := by simpa using hc
          rw [if_neg (by decide), if_neg hc]
          intro Z; exact ev_pe B s4 5 (by rfl)
  intro Z
  exact hne _ rfl
end
end Mine
end
section
namespace Mine
open PySem PyProof.Rows
/-! the numbers of the law -/
section
variable (n : Nat → Int)
noncomputable def kk (i : Nat) : Nat := ((n i).fmod 8).toNat
noncomputable def sh (i : Nat) : Nat := (((n i).fdiv 8).fmod 5).toNat
noncomputable def va (i : Nat) : Nat := (((n i).fdiv 40).fmod 2).toNat + 1
noncomputable def hu (i : Nat) : Nat := if sh n i = 0 then 0 else kk n i
noncomputable def rg (i : Nat) : Nat := (((hu n i : Int) - hu n 0).fmod 8).toNat
noncomputable def lg (i : Nat) : Nat := va n i * (8 - sh n i)
end
section
variable {n : Nat → Int}
theorem kk_lt (i : Nat) : kk n i < 8 := by have := Int.fmod_lt_of_pos (n i) (show (0 : Int) < 8 by decide); unfold kk; omega
theorem kk_eq (i : Nat) : (kk n i : Int) = (n i).fmod 8 := by have := Int.fmod_nonneg_of_pos (n i) (show (0 : Int) < 8 by decide); unfold kk; omega
theorem sh_lt (i : Nat) : sh n i < 5 := by have := Int.fmod_lt_of_pos ((n i).fdiv 8) (show (0 : Int) < 5 by decide); unfold sh; omega
theorem sh_eq (i : Nat) : (sh n i : Int) = ((n i).fdiv 8).fmod 5 := by have := Int.fmod_nonneg_of_pos ((n i).fdiv 8) (show (0 : Int) < 5 by decide); unfold sh; omega
theorem va_eq (i : Nat) : (va n i : Int) = ((n i).fdiv 40).fmod 2 + 1 := by have := Int.fmod_nonneg_of_pos ((n i).fdiv 40) (show (0 : Int) < 2 by decide); unfold va; omega
theorem va_12 (i : Nat) : va n i = 1 ∨ va n i = 2 := by
  have h1 := Int.fmod_nonneg_of_pos ((n i).fdiv 40) (show (0 : Int) < 2 by decide)
  have h2 := Int.fmod_lt_of_pos ((n i).fdiv 40) (show (0 : Int) < 2 by decide)
  unfold va; omega
theorem hu_lt (i : Nat) : hu n i < 8 := by have := kk_lt (n := n) i; unfold hu; split <;> omega
theorem rg_lt (i : Nat) : rg n i < 8 := by have := Int.fmod_lt_of_pos ((hu n i : Int) - hu n 0) (show (0 : Int) < 8 by decide); unfold rg; omega
theorem rg_eq (i : Nat) : (rg n i : Int) = ((hu n i : Int) - hu n 0).fmod 8 := by have := Int.fmod_nonneg_of_pos ((hu n i : Int) - hu n 0) (show (0 : Int) < 8 by decide); unfold rg; omega
theorem lg_lt (i : Nat) : lg n i < 17 := by
  have := sh_lt (n := n) i
  unfold lg
  rcases va_12 (n := n) i with h | h <;> rw [h] <;> omega
theorem lg_eq (i : Nat) : (lg n i : Int) = va n i * (8 - sh n i) := by
  have := sh_lt (n := n) i
  unfold lg
  rcases va_12 (n := n) i with h | h <;> rw [h] <;> omega
end
noncomputable abbrev c6 (f : Nat → Nat) : T := tis (l6 fun i => (f i : Int))
section
variable {prog : Program} {w : World} {P : Pm} {A : Around} {env : Env} {vars : Vars}
noncomputable abbrev nL : List (Str × NameKind) := namesOf (stAt 16)
/-- a comprehension over six values -/
theorem asg6 {elt iter : Expr} {x y : Str} {k : NameKind} {px : Pos} {scope : Scope} {cpos pos' pos : Pos} {src : T} (g val : Nat → T) (hA : A.handled = none) (hk0 : nL.lookup y = some k) (hk' : k = .local ∨ k = .cell)
    (hs : ∀ env x, foldedSetIterable iter env x = pure x) (hk : scope.kind = .function) (ok : compOk ⟨nL, vars⟩ scope.names x = true) (hiter : Ev prog w P A env ⟨nL, vars⟩ m0 (eval iter env) src) (hitems : iterV m0 src = some ((List.range 6).map g)) (hg : ∀ a b, g a = g b → val a = val b)
    (hv : ∀ i, i < 6 → ∀ cenv, Ev prog w P A cenv (cfm ⟨nL, vars⟩ scope.names x (g i)) m0 (eval elt cenv) (val i)) :
    Ex prog w P A env nL m0 (exec (.Assign [.Name y pos'] (.ListComp elt [⟨.Name x px, iter, [], 0⟩] scope cpos) pos) env) vars ((y, .lst ((List.range 6).map val)) :: vars) .next := by
  have e : ((List.range 6).filter fun _ => true).map val = (List.range 6).map val := by rw [filter_tt]
  rw [← e]
  intro Z
  exact ex_assign_cmp (List.range 6) g (fun _ => true) val hA hk0 hk' hs hk ok hiter hitems (by decide) (fun a _ b _ h => ⟨rfl, hg a b h⟩) (fun _ _ _ => tests_nil) fun i hi _ cenv => hv i (by simpa using hi) cenv
theorem it6 (f : Nat → Int) : iterV m0 (tis (l6 f)) = some ((List.range 6).map fun i => ti (f i)) := by
  show some _ = some _
  unfold l6; rw [List.map_map]; rfl
theorem itr : iterV m0 (.rng 6) = some ((List.range 6).map fun (i : Nat) => ti (i : Int)) := by
  show some _ = some _
  rw [range0]
theorem tis_l6 (f : Nat → Int) : tis (l6 f) = .lst ((List.range 6).map fun i => ti (f i)) := by
  unfold l6
  show T.lst (List.map ti (List.map f (List.range 6))) = _
  rw [List.map_map]; rfl
theorem ti_inj {a b : Int} (h : ti a = ti b) : a = b := by injection h with h; injection h
theorem six {f : Nat → T} {k : Nat} (h : k < 6) : ((List.range 6).map f)[k]? = some (f k) := by simp [h]
variable (n : Nat → Int)
noncomputable abbrev v0 (ns : List Int) : Vars := [(Str.ofString "script", tis ns)]
noncomputable abbrev v1 (ns : List Int) : Vars := (Str.ofString "numbers", tis (l6 n)) :: v0 ns
noncomputable abbrev v2 (ns : List Int) : Vars := (Str.ofString "shares", c6 (sh n)) :: v1 n ns
noncomputable abbrev v3 (ns : List Int) : Vars := (Str.ofString "values", c6 (va n)) :: v2 n ns
noncomputable abbrev v4 (ns : List Int) : Vars := (Str.ofString "hues", c6 (hu n)) :: v3 n ns
noncomputable abbrev v5 (ns : List Int) : Vars := (Str.ofString "rings", c6 (rg n)) :: v4 n ns
noncomputable abbrev v6 (ns : List Int) : Vars := (Str.ofString "lights", c6 (lg n)) :: v5 n ns
noncomputable def lst16 (i : Nat) : Stmt := (bodyOf (stAt 16)).getD i (.Pass ⟨0, 0, 0, 0⟩)
theorem st2_ok (B : Blt P) (s4 : Sl 4 A) (ns : List Int) : Ex prog w P A env nL m0 (exec (lst16 1) env) (v1 n ns) (v2 n ns) .next := by
  unfold v2 c6
  rw [tis_l6]
  intro Z
  refine asg6 (k := .cell) (src := tis (l6 n)) (fun i => ti (n i)) (fun i => ti (sh n i : Int)) s4.1 (by rfl) (.inr rfl) (fun _ _ => rfl) (by rfl) (by rfl) (ev_pe B s4 2 (by rfl)) (it6 n) (fun a b h => by rw [sh_eq, sh_eq, ti_inj h]) fun i hi cenv => ?_
  rw [sh_eq]
  intro Z; exact ev_pe B s4 4 (by rfl)
theorem st3_ok (B : Blt P) (s4 : Sl 4 A) (ns : List Int) : Ex prog w P A env nL m0 (exec (lst16 2) env) (v2 n ns) (v3 n ns) .next := by
  unfold v3 c6
  rw [tis_l6]
  intro Z
  refine asg6 (k := .cell) (src := tis (l6 n)) (fun i => ti (n i)) (fun i => ti (va n i : Int)) s4.1 (by rfl) (.inr rfl) (fun _ _ => rfl) (by rfl) (by rfl) (ev_pe B s4 2 (by rfl)) (it6 n) (fun a b h => by rw [va_eq, va_eq, ti_inj h]) fun i hi cenv => ?_
  rw [va_eq]
  intro Z; exact ev_pe B s4 5 (by rfl)
theorem st4_ok (B : Blt P) (s4 : Sl 4 A) (ns : List Int) : Ex prog w P A env nL m0 (exec (lst16 3) env) (v3 n ns) (v4 n ns) .next := by
  unfold v4 c6
  rw [tis_l6]
  intro Z
  refine asg6 (k := .cell) (src := tis (l6 n)) (fun i => ti (n i)) (fun i => ti (hu n i : Int)) s4.1 (by rfl) (.inr rfl) (fun _ _ => rfl) (by rfl) (by rfl) (ev_pe B s4 2 (by rfl)) (it6 n) (fun a b h => by have := ti_inj h; unfold hu sh kk; rw [this]) fun i hi cenv => ?_
  intro Z
  refine ev_ifexp (c := (((n i).fdiv 8).fmod 5 != 0)) ?_ (fun hc => ?_) fun hc => ?_
  · intro Z
    exact evb_val (v := ti (((n i).fdiv 8).fmod 5)) (ev_pe B s4 4 (by rfl)) (by rfl) (by rfl)
  · have : sh n i ≠ 0 := fun e => by
      have := sh_eq (n := n) i
      rw [e] at this
      rw [← this] at hc
      exact absurd hc (by decide)
    have e : (hu n i : Int) = (n i).fmod 8 := by unfold hu; rw [if_neg this, kk_eq]
    rw [e]
    intro Z; exact ev_pe B s4 4 (by rfl)
  · have : sh n i = 0 := by
      have := sh_eq (n := n) i
      have hc : ((n i).fdiv 8).fmod 5 = 0 := by simpa using hc
      omega
    have e : (hu n i : Int) = 0 := by unfold hu; rw [if_pos this]; rfl
    rw [e]
    intro Z; exact ev_int
theorem st5_ok (B : Blt P) (s4 : Sl 4 A) (ns : List Int) : Ex prog w P A env nL m0 (exec (lst16 4) env) (v4 n ns) (v5 n ns) .next := by
  unfold v5 c6
  rw [tis_l6]
  intro Z
  refine asg6 (k := .cell) (src := c6 (hu n)) (fun i => ti (hu n i : Int)) (fun i => ti (rg n i : Int)) s4.1 (by rfl) (.inr rfl) (fun _ _ => rfl) (by rfl) (by rfl) (ev_pe B s4 2 (by rfl)) (it6 _) (fun a b h => by rw [rg_eq, rg_eq, ti_inj h]) fun i hi cenv => ?_
  rw [rg_eq]
  intro Z; exact ev_pe B s4 6 (by rfl)
theorem bin_mulI {a b : Int} (h : a.natAbs < 2 ^ 60) : binS .Mult (.int a) (.int b) = some (.int (a * b)) := by
  show Res.val (Res.bind (chkP _) _) = _
  rw [chkP_pos h]; rfl
theorem mul_va (i : Nat) : binS .Mult (.int (va n i : Int)) (.int (8 - (sh n i : Int))) = some (.int ((va n i : Int) * (8 - sh n i))) :=
  bin_mulI (by rcases va_12 (n := n) i with h | h <;> rw [h] <;> decide)
theorem st6_ok (B : Blt P) (s4 : Sl 4 A) (ns : List Int) : Ex prog w P A env nL m0 (exec (lst16 5) env) (v5 n ns) (v6 n ns) .next := by
  unfold v6 c6
  rw [tis_l6]
  intro Z
  refine asg6 (k := .cell) (src := .rng 6) (fun (i : Nat) => ti (i : Int)) (fun i => ti (lg n i : Int)) s4.1 (by rfl) (.inr rfl) (fun _ _ => rfl) (by rfl) (by rfl) (ev_pe B s4 4 (by rfl)) itr (fun a b h => by rw [ti_eq h]) fun i hi cenv => ?_
  rw [lg_eq]
  intro Z
  refine ev_binop (a := ti (va n i : Int)) (b := ti (8 - (sh n i : Int))) ?_ ?_ (binS_ok (op := .Mult) (x := .int (va n i : Int)) (y := .int (8 - (sh n i : Int))) (r := .int ((va n i : Int) * (8 - sh n i))) s4.1 (mul_va n i))
  · intro Z; exact ev_at (ev_pe B s4 2 (by rfl)) (ev_pe B s4 2 (by rfl)) rfl (l6_at (fun i => (va n i : Int)) hi) (by omega) (fun _ _ _ => by intro e; cases e)
  · intro Z
    refine ev_binop (a := ti 8) (b := ti (sh n i : Int)) ev_int ?_ (binS_ok (op := .Sub) (x := .int 8) (y := .int (sh n i : Int)) (r := .int (8 - (sh n i : Int))) s4.1 rfl)
    intro Z; exact ev_at (ev_pe B s4 2 (by rfl)) (ev_pe B s4 2 (by rfl)) rfl (l6_at (fun i => (sh n i : Int)) hi) (by omega) (fun _ _ _ => by intro e; cases e)
end
end Mine
end
section
namespace Mine
open PySem PyProof.Rows
structure LB (P : Pm) : Prop where
  B : Blt P
  X : KB P
  G : P.Good = GoodT
  hsv : P.mg "hsv_to_rgb" = some (.ref 47) ∧ FnI P 47 6
  hls : P.mg "rgb_to_hls" = some (.ref 33) ∧ FnI P 33 4
  rgb : P.mg "rgb_to_hsv" = some (.ref 40) ∧ FnI P 40 5
  num : P.mg "_law_numbers" = some (.ref 52) ∧ FnI P 52 8
  srt : P.mg "_law_sorted" = some (.ref 59)
  cnt : P.mg "_law_counted" = some (.ref 64) ∧ FnI P 64 10
  lin : P.mg "_law_lines" = some (.ref 71) ∧ FnI P 71 11
  mer : P.mg "_law_merged" = some (.ref 76) ∧ FnI P 76 12
  ahe : P.mg "_law_ahead" = some (.ref 81) ∧ FnI P 81 13
  tak : P.mg "_law_taken" = some (.ref 86) ∧ FnI P 86 14
  agr : P.mg "_law_agreed" = some (.ref 93) ∧ FnI P 93 15
  c3 : P.mg (Str.ofString "_c3_merge") = some (.ref 26) ∧ FnI P 26 2
theorem bin_divI {a b : Int} (h : b ≠ 0 ∧ a.natAbs < 2 ^ 64) : binS .Div (.int a) (.int b) = some (.flt (Float64.ofFrac (decide (a < 0) != decide (b < 0)) a.natAbs b.natAbs)) := by
  show Res.val (Res.bind (chkP _) _) = _
  rw [chkP_pos h]; rfl
theorem div_nat {m d : Nat} (hm : m < 2 ^ 64) (hd : d ≠ 0) : binS .Div (.int (m : Int)) (.int (d : Int)) = some (.flt (Float64.ofFrac false m d)) := by
  rw [bin_divI ⟨by omega, by simpa using hm⟩, decide_eq_false (show ¬ (m : Int) < 0 by omega), decide_eq_false (show ¬ (d : Int) < 0 by omega)]
  simp
section
variable (n : Nat → Int)
noncomputable def tup3 (c : C3) : T := .tup [.flt c.1, .flt c.2.1, .flt c.2.2]
noncomputable def colS (i : Nat) : C3 := (runC 6 (q8 (kk n i)) (q4 (sh n i)) (q2 (va n i))).getD (0, 0, 0)
noncomputable def hlsS (c : C3) : C3 := (runC 4 c.1 c.2.1 c.2.2).getD (0, 0, 0)
noncomputable def hsvS (c : C3) : C3 := (runC 5 c.1 c.2.1 c.2.2).getD (0, 0, 0)
theorem col_run (i : Nat) : runC 6 (q8 (kk n i)) (q4 (sh n i)) (q2 (va n i)) = some (colS n i) ∧ runC 4 (colS n i).1 (colS n i).2.1 (colS n i).2.2 = some (hlsS (colS n i)) ∧ runC 5 (colS n i).1 (colS n i).2.1 (colS n i).2.2 = some (hsvS (colS n i)) ∧
    (hlsS (colS n i)).1 = q8 (hu n i) ∧ (hlsS (colS n i)).2.1 = q16 (lg n i) ∧ (hsvS (colS n i)).2.2 = q2 (va n i) := by
  obtain ⟨c, h1, d, h2, e, h3, h4, h5, h6⟩ := col_of (kk_lt (n := n) i) (sh_lt (n := n) i) (va_12 (n := n) i)
  have e : colS n i = c := by unfold colS; rw [h1]; rfl
  rw [e]
  unfold hlsS hsvS
  rw [h1, h2, h3]
  exact ⟨rfl, rfl, rfl, h4, h5, h6⟩
theorem ring_f : ∀ a, a < 8 → ∀ b, b < 8 → (Float64.divmod (Float64.sub (q8 a) (q8 b)) (Float64.ofInt 1)).2 = q8 (((a : Int) - b).fmod 8).toNat := by decide +kernel
end
section
variable {prog : Program} {w : World} {P : Pm} {A : Around} {env : Env} {fm : Fm} {μ : Mu}
theorem ev_callI {x : Str} {p pos : Pos} {e : Expr} {rest : List Expr} {a i : Nat} {Ts : List T} {r : T} (F : FnI P a i) (hx : fm.names.lookup x = some .globalImplicit) (hd : (x == ("__debug__" : Str)) = false) (hg : P.mg x = some (.ref a)) (hs : noStar e = true)
    (h : EvL prog w P A env fm μ (spliced (backTo pos (starEach (e :: rest) env))) Ts) (hc : OpL prog w P A μ (fun vs => call (.ref a) vs) Ts r) : Ev prog w P A env fm μ (eval (.Call (.Name x p) (e :: rest) [] pos) env) r := by
  obtain ⟨fd, F⟩ := F
  obtain ⟨o, ho, hf⟩ := F.obj
  intro Z
  exact ev_call_fn hx hd hg F.lt F.nt ho hf hs h hc
theorem ev_callS {x : Str} {p pos ps : Pos} {e : Expr} {a i : Nat} {l : List Sc} {r : T} (F : FnI P a i) (hx : fm.names.lookup x = some .globalImplicit) (hd : (x == ("__debug__" : Str)) = false) (hg : P.mg x = some (.ref a)) (hlen : l.length ≤ 4096)
    (h : Ev prog w P A env fm μ (eval e env) (.tup l)) (hc : OpL prog w P A μ (fun vs => call (.ref a) vs) (l.map .sc) r) : Ev prog w P A env fm μ (eval (.Call (.Name x p) [.Starred e ps] [] pos) env) r := by
  obtain ⟨fd, F⟩ := F
  obtain ⟨o, ho, hf⟩ := F.obj
  intro Z
  exact ev_call_star hx hd hg F.lt F.nt ho hf hlen h hc
end
section
variable {prog : Program} {w : World} {P : Pm} {A : Around} {env : Env} (n : Nat → Int)
noncomputable abbrev l6t (f : Nat → T) : T := .lst ((List.range 6).map f)
noncomputable abbrev v7 (ns : List Int) : Vars := (Str.ofString "colours", l6t fun i => tup3 (colS n i)) :: v6 n ns
noncomputable abbrev v8 (ns : List Int) : Vars := (Str.ofString "told", l6t fun i => tup3 (hlsS (colS n i))) :: v7 n ns
noncomputable abbrev v9 (ns : List Int) : Vars := (Str.ofString "ring", l6t fun i => tf (q8 (rg n i))) :: v8 n ns
noncomputable abbrev v10 (ns : List Int) : Vars := (Str.ofString "light", l6t fun i => tf (q16 (lg n i))) :: v9 n ns
noncomputable abbrev v11 (ns : List Int) : Vars := (Str.ofString "value", l6t fun i => tf (q2 (va n i))) :: v10 n ns
theorem tup3_inj {a b : C3} (h : tup3 a = tup3 b) : a = b := by
  unfold tup3 at h
  injection h with h
  injection h with h1 h
  injection h with h2 h
  injection h with h3 h
  injection h1 with h1; injection h2 with h2; injection h3 with h3
  obtain ⟨a1, a2, a3⟩ := a
  obtain ⟨b1, b2, b3⟩ := b
  dsimp only at h1 h2 h3
  rw [h1, h2, h3]
theorem it6t (f : Nat → T) : iterV m0 (l6t f) = some ((List.range 6).map f) := rfl
theorem st7_ok (X : LB P) (s6 : Sl 6 A) (ns : List Int) : Ex prog w P A env nL m0 (exec (lst16 6) env) (v6 n ns) (v7 n ns) .next := by
  have s4 : Sl 4 A := s6.mono (by decide)
  have B := X.B
  intro Z
  refine asg6 (k := .local) (src := .rng 6) (fun (i : Nat) => ti (i : Int)) (fun i => tup3 (colS n i)) s4.1 (by rfl) (.inl rfl) (fun _ _ => rfl) (by rfl) (by rfl) (ev_pe B s4 4 (by rfl)) itr (fun a b h => by rw [ti_eq h]) fun i hi cenv => ?_
  obtain ⟨h1, h2, h3, h4, h5, h6⟩ := col_run n i
  intro Z
  refine ev_callI (Ts := [tf (q8 (kk n i)), tf (q4 (sh n i)), tf (q2 (va n i))]) X.hsv.2 (by rfl) (by rfl) X.hsv.1 (by rfl) ?_ (run_ok B X.hsv.2 (s6.mono (by decide)) (by rfl) h1)
  intro Z
  refine evl_cons (by rfl) ?_ (evl_cons (by rfl) ?_ (evl_cons (by rfl) ?_ evl_nil))
  · intro Z
    refine ev_binop (a := ti (kk n i : Int)) (b := ti 8) ?_ ev_int (binS_ok (op := .Div) (x := .int (kk n i : Int)) (y := .int 8) (r := .flt (q8 (kk n i))) s4.1 (div_nat (d := 8) (by have := kk_lt (n := n) i; omega) (by decide)))
    rw [kk_eq]
    intro Z
    refine ev_binop (a := ti (n i)) (b := ti 8) ?_ ev_int (binS_ok (op := .Mod) (x := .int (n i)) (y := .int 8) (r := .int ((n i).fmod 8)) s4.1 (by rfl))
    intro Z; exact ev_at (ev_pe B s4 2 (by rfl)) (ev_pe B s4 2 (by rfl)) rfl (l6_at n hi) (by omega) (fun _ _ _ => by intro e; cases e)
  · intro Z
    refine ev_binop (a := ti (sh n i : Int)) (b := ti 4) ?_ ev_int (binS_ok (op := .Div) (x := .int (sh n i : Int)) (y := .int 4) (r := .flt (q4 (sh n i))) s4.1 (div_nat (d := 4) (by have := sh_lt (n := n) i; omega) (by decide)))
    intro Z; exact ev_at (ev_pe B s4 2 (by rfl)) (ev_pe B s4 2 (by rfl)) rfl (l6_at (fun i => (sh n i : Int)) hi) (by omega) (fun _ _ _ => by intro e; cases e)
  · intro Z
    refine ev_binop (a := ti (va n i : Int)) (b := ti 2) ?_ ev_int (binS_ok (op := .Div) (x := .int (va n i : Int)) (y := .int 2) (r := .flt (q2 (va n i))) s4.1 (div_nat (d := 2) (by rcases va_12 (n := n) i with h | h <;> omega) (by decide)))
    intro Z; exact ev_at (ev_pe B s4 2 (by rfl)) (ev_pe B s4 2 (by rfl)) rfl (l6_at (fun i => (va n i : Int)) hi) (by omega) (fun _ _ _ => by intro e; cases e)
theorem st8_ok (X : LB P) (s6 : Sl 6 A) (ns : List Int) : Ex prog w P A env nL m0 (exec (lst16 7) env) (v7 n ns) (v8 n ns) .next := by
  have s4 : Sl 4 A := s6.mono (by decide)
  have B := X.B
  intro Z
  refine asg6 (k := .cell) (src := l6t fun i => tup3 (colS n i)) (fun i => tup3 (colS n i)) (fun i => tup3 (hlsS (colS n i))) s4.1 (by rfl) (.inr rfl) (fun _ _ => rfl) (by rfl) (by rfl) (ev_pe B s4 2 (by rfl)) (it6t _) (fun a b h => by rw [tup3_inj h]) fun i hi cenv => ?_
  obtain ⟨h1, h2, h3, h4, h5, h6⟩ := col_run n i
  intro Z
  exact ev_callS (l := [.flt (colS n i).1, .flt (colS n i).2.1, .flt (colS n i).2.2]) X.hls.2 (by rfl) (by rfl) X.hls.1 (by simp) (ev_pe B s4 2 (by rfl)) (run_ok B X.hls.2 (s6.mono (by decide)) (by rfl) h2)
theorem st9_ok (B : Blt P) (s4 : Sl 4 A) (ns : List Int) : Ex prog w P A env nL m0 (exec (lst16 8) env) (v8 n ns) (v9 n ns) .next := by
  intro Z
  refine asg6 (k := .local) (src := l6t fun i => tup3 (hlsS (colS n i))) (fun i => tup3 (hlsS (colS n i))) (fun i => tf (q8 (rg n i))) s4.1 (by rfl) (.inl rfl) (fun _ _ => rfl) (by rfl) (by rfl) (ev_pe B s4 2 (by rfl)) (it6t _) (fun a b h => ?_) fun i hi cenv => ?_
  · have e := tup3_inj h
    have e1 : q8 (hu n a) = q8 (hu n b) := by rw [← (col_run n a).2.2.2.1, ← (col_run n b).2.2.2.1, e]
    have : q8 (rg n a) = q8 (rg n b) := by
      have f : ∀ i, q8 (rg n i) = (Float64.divmod (Float64.sub (q8 (hu n i)) (q8 (hu n 0))) (Float64.ofInt 1)).2 := fun i => (ring_f _ (hu_lt i) _ (hu_lt 0)).symm
      rw [f, f, e1]
    rw [this]
  · have e0 := (col_run n 0).2.2.2.1
    have ei := (col_run n i).2.2.2.1
    have f : q8 (rg n i) = (Float64.divmod (Float64.sub (hlsS (colS n i)).1 (hlsS (colS n 0)).1) (Float64.ofInt 1)).2 := by
      rw [e0, ei]; exact (ring_f _ (hu_lt i) _ (hu_lt 0)).symm
    rw [f]
    intro Z; exact ev_pe B s4 8 (by rfl)
theorem st10_ok (B : Blt P) (s4 : Sl 4 A) (ns : List Int) : Ex prog w P A env nL m0 (exec (lst16 9) env) (v9 n ns) (v10 n ns) .next := by
  intro Z
  refine asg6 (k := .local) (src := l6t fun i => tup3 (hlsS (colS n i))) (fun i => tup3 (hlsS (colS n i))) (fun i => tf (q16 (lg n i))) s4.1 (by rfl) (.inl rfl) (fun _ _ => rfl) (by rfl) (by rfl) (ev_pe B s4 2 (by rfl)) (it6t _) (fun a b h => ?_) fun i hi cenv => ?_
  · rw [← (col_run n a).2.2.2.2.1, ← (col_run n b).2.2.2.2.1, tup3_inj h]
  · rw [← (col_run n i).2.2.2.2.1]
    intro Z; exact ev_pe B s4 4 (by rfl)
theorem st11_ok (X : LB P) (s6 : Sl 6 A) (ns : List Int) : Ex prog w P A env nL m0 (exec (lst16 10) env) (v10 n ns) (v11 n ns) .next := by
  have s4 : Sl 4 A := s6.mono (by decide)
  have B := X.B
  intro Z
  refine asg6 (k := .local) (src := l6t fun i => tup3 (colS n i)) (fun i => tup3 (colS n i)) (fun i => tf (q2 (va n i))) s4.1 (by rfl) (.inl rfl) (fun _ _ => rfl) (by rfl) (by rfl) (ev_pe B s4 2 (by rfl)) (it6t _) (fun a b h => ?_) fun i hi cenv => ?_
  · rw [← (col_run n a).2.2.2.2.2, ← (col_run n b).2.2.2.2.2, tup3_inj h]
  · obtain ⟨h1, h2, h3, h4, h5, h6⟩ := col_run n i
    rw [← h6]
    intro Z
    refine ev_sub (a := tup3 (hsvS (colS n i))) (b := ti 2) ?_ ev_int (sub_tup (k := 2) rfl (by decide) (fun _ _ _ => by intro e; cases e))
    intro Z
    exact ev_callS (l := [.flt (colS n i).1, .flt (colS n i).2.1, .flt (colS n i).2.2]) X.rgb.2 (by rfl) (by rfl) X.rgb.1 (by simp) (ev_pe B s4 2 (by rfl)) (run_ok B X.rgb.2 (s6.mono (by decide)) (by rfl) h3)
end
end Mine
end
section
namespace Mine
open PySem PyProof.Rows
/-! equal trees -/
theorem sm_int (a : Int) (k : Nat) : Se m0 k (ti a) := .sc (.int a)
theorem sm_str (a : Str) (k : Nat) : Se m0 k (.sc (.str a)) := .sc (.str a)
theorem sm_flt {a : UInt64} (h : (Float64.cmp a a == some Ordering.eq) = true) (k : Nat) : Se m0 k (tf a) := .sc (.flt h)
theorem sm_lst {l : List T} {k : Nat} (h : ∀ t ∈ l, Se m0 k t) : Se m0 (k + 1) (.lst l) := .lst rfl h
theorem sm_tns (q : List Nat) (k : Nat) : Se m0 (k + 1) (tns q) := sm_lst fun t ht => by
  obtain ⟨i, _, rfl⟩ := List.mem_map.mp ht
  exact sm_int _ k
section
variable {prog : Program} {w : World} {P : Pm} {A : Around} {env : Env} {fm : Fm}
theorem evb_ne {l r : Expr} {pos : Pos} {wh : Sem Value} {t : List T} (s4 : Sl 4 A) (h1 : Ev prog w P A env fm m0 (eval l env) (.lst t)) (h2 : Ev prog w P A env fm m0 (eval r env) (.lst t)) (hs : ∀ x ∈ t, Se m0 3 x) (hm : behindInMarks .NotEq r = false) :
    EvB prog w P A env fm m0 (isTrue (.Compare l [.NotEq] [r] pos) env wh) false := by
  intro Z
  exact evb_compare (c := false) h1 h2 (ne_same rfl rfl hs s4) hm
/-- a test that fails: go on -/
theorem ex_skip {nm : List (Str × NameKind)} {vars : Vars} {l r : Expr} {body : List Stmt} {p1 p2 : Pos} {t : List T} (s4 : Sl 4 A) (h1 : Ev prog w P A env ⟨nm, vars⟩ m0 (eval l env) (.lst t)) (h2 : Ev prog w P A env ⟨nm, vars⟩ m0 (eval r env) (.lst t)) (hs : ∀ x ∈ t, Se m0 3 x) (hm : behindInMarks .NotEq r = false) :
    Ex prog w P A env nm m0 (exec (.If (.Compare l [.NotEq] [r] p1) body [] p2) env) vars vars .next := by
  intro Z
  exact ex_if (b := false) (evb_ne s4 h1 h2 hs hm) (fun e => nomatch e) (fun _ => ex_nil)
variable (n : Nat → Int)
theorem ev6 {vars : Vars} {elt iter : Expr} {x : Str} {px : Pos} {scope : Scope} {pos : Pos} {src : T} (g val : Nat → T) (hA : A.handled = none)
    (hs : ∀ env x, foldedSetIterable iter env x = pure x) (hk : scope.kind = .function) (ok : compOk ⟨nL, vars⟩ scope.names x = true) (hiter : Ev prog w P A env ⟨nL, vars⟩ m0 (eval iter env) src) (hitems : iterV m0 src = some ((List.range 6).map g)) (hg : ∀ a b, g a = g b → val a = val b)
    (hv : ∀ i, i < 6 → ∀ cenv, Ev prog w P A cenv (cfm ⟨nL, vars⟩ scope.names x (g i)) m0 (eval elt cenv) (val i)) : Ev prog w P A env ⟨nL, vars⟩ m0 (eval (.ListComp elt [⟨.Name x px, iter, [], 0⟩] scope pos) env) (l6t val) := by
  have e : ((List.range 6).filter fun _ => true).map val = (List.range 6).map val := by rw [filter_tt]
  unfold l6t
  rw [← e]
  intro Z
  exact ev_cmp (List.range 6) g (fun _ => true) val hA hs hk ok hiter hitems (by decide) (fun a _ b _ h => ⟨rfl, hg a b h⟩) (fun _ _ _ => tests_nil) fun i hi _ cenv => hv i (by simpa using hi) cenv
noncomputable abbrev dueL : List T := ((List.range 6).map fun i => tf (q8 (rg n i))) ++ ((List.range 6).map fun i => tf (q16 (lg n i))) ++ ((List.range 6).map fun i => tf (q2 (va n i)))
noncomputable abbrev v12 (ns : List Int) : Vars := (Str.ofString "due", .lst (dueL n)) :: v11 n ns
theorem cat6 {prog : Program} {w : World} {P : Pm} {A : Around} {f g : Nat → T} : Op2 prog w P A m0 (binaryOp .Add) (l6t f) (l6t g) (.lst ((List.range 6).map f ++ (List.range 6).map g)) := cat_ok rfl rfl (by simp)
theorem cat66 {prog : Program} {w : World} {P : Pm} {A : Around} {f g h : Nat → T} : Op2 prog w P A m0 (binaryOp .Add) (.lst ((List.range 6).map f ++ (List.range 6).map g)) (l6t h) (.lst ((List.range 6).map f ++ (List.range 6).map g ++ (List.range 6).map h)) := cat_ok rfl rfl (by simp)
theorem st12_ok (B : Blt P) (s4 : Sl 4 A) (ns : List Int) : Ex prog w P A env nL m0 (exec (lst16 11) env) (v11 n ns) (v12 n ns) .next := by
  intro Z
  refine ex_assign (k := .local) (by rfl) (.inl rfl) ?_ (by rfl)
  intro Z
  refine ev_binop ?_ ?_ cat66
  · intro Z
    refine ev_binop ?_ ?_ cat6
    · intro Z
      refine ev6 (src := c6 (rg n)) (fun i => ti (rg n i : Int)) (fun i => tf (q8 (rg n i))) s4.1 (fun _ _ => rfl) (by rfl) (by rfl) (ev_pe B s4 2 (by rfl)) (it6 _) (fun a b h => by rw [ti_eq h]) fun i hi cenv => ?_
      intro Z
      exact ev_binop (a := ti (rg n i : Int)) (b := ti 8) (ev_pe B s4 2 (by rfl)) ev_int (binS_ok (op := .Div) (x := .int (rg n i : Int)) (y := .int 8) (r := .flt (q8 (rg n i))) s4.1 (div_nat (d := 8) (by have := rg_lt (n := n) i; omega) (by decide)))
    · intro Z
      refine ev6 (src := c6 (lg n)) (fun i => ti (lg n i : Int)) (fun i => tf (q16 (lg n i))) s4.1 (fun _ _ => rfl) (by rfl) (by rfl) (ev_pe B s4 2 (by rfl)) (it6 _) (fun a b h => by rw [ti_eq h]) fun i hi cenv => ?_
      intro Z
      exact ev_binop (a := ti (lg n i : Int)) (b := ti 16) (ev_pe B s4 2 (by rfl)) ev_int (binS_ok (op := .Div) (x := .int (lg n i : Int)) (y := .int 16) (r := .flt (q16 (lg n i))) s4.1 (div_nat (d := 16) (by have := lg_lt (n := n) i; omega) (by decide)))
  · intro Z
    refine ev6 (src := c6 (va n)) (fun i => ti (va n i : Int)) (fun i => tf (q2 (va n i))) s4.1 (fun _ _ => rfl) (by rfl) (by rfl) (ev_pe B s4 2 (by rfl)) (it6 _) (fun a b h => by rw [ti_eq h]) fun i hi cenv => ?_
    intro Z
    exact ev_binop (a := ti (va n i : Int)) (b := ti 2) (ev_pe B s4 2 (by rfl)) ev_int (binS_ok (op := .Div) (x := .int (va n i : Int)) (y := .int 2) (r := .flt (q2 (va n i))) s4.1 (div_nat (d := 2) (by rcases va_12 (n := n) i with h | h <;> omega) (by decide)))
theorem cmp8 : ∀ a, a < 8 → (Float64.cmp (q8 a) (q8 a) == some Ordering.eq) = true := by decide +kernel
theorem cmp16 : ∀ a, a < 17 → (Float64.cmp (q16 a) (q16 a) == some Ordering.eq) = true := by decide +kernel
theorem cmp2 : ∀ a, a < 3 → (Float64.cmp (q2 a) (q2 a) == some Ordering.eq) = true := by decide +kernel
theorem va_lt (i : Nat) : va n i < 3 := by rcases va_12 (n := n) i with h | h <;> omega
theorem st13_ok (B : Blt P) (s4 : Sl 4 A) (ns : List Int) : Ex prog w P A env nL m0 (exec (lst16 12) env) (v12 n ns) (v12 n ns) .next := by
  intro Z
  refine ex_skip (t := dueL n) s4 ?_ (ev_pe B s4 2 (by rfl)) (fun x hx => ?_) (by rfl)
  · intro Z
    refine ev_binop ?_ (ev_pe B s4 2 (by rfl)) cat66
    intro Z
    exact ev_binop (ev_pe B s4 2 (by rfl)) (ev_pe B s4 2 (by rfl)) cat6
  · rcases List.mem_append.mp hx with hx | hx
    · rcases List.mem_append.mp hx with hx | hx
      · obtain ⟨i, _, rfl⟩ := List.mem_map.mp hx
        exact sm_flt (cmp8 _ (rg_lt i)) 3
      · obtain ⟨i, _, rfl⟩ := List.mem_map.mp hx
        exact sm_flt (cmp16 _ (lg_lt i)) 3
    · obtain ⟨i, _, rfl⟩ := List.mem_map.mp hx
      exact sm_flt (cmp2 _ (va_lt n i)) 3
end
end Mine
end
section
namespace Mine
open PySem PyProof.Rows
section
variable (n : Nat → Int)
noncomputable def Q1 : List Nat := (sortP (F6 q8 (rg n)) (F6 q16 (lg n)) (List.range 6)).toList
noncomputable def Q2 : List Nat := (sortP (F6 q16 (lg n)) (F6 q8 (rg n)) (List.range 6)).toList
theorem Q1_s : Sorted 6 (rho (rg n) (lg n)) (Q1 n) := sort_law enc8 enc16 (by decide) (fun i => rg_lt i) (fun i => lg_lt i)
theorem Q2_s : Sorted 6 (rho (lg n) (rg n)) (Q2 n) := sort_law enc16 enc8 (by decide) (fun i => lg_lt i) (fun i => rg_lt i)
noncomputable def V8 : List Int := [0, 1, 2, 3, 4, 5, 6, 7]
noncomputable def V17 : List Int := [0, 1, 2, 3, 4, 5, 6, 7, 8, 9, 10, 11, 12, 13, 14, 15, 16]
theorem V8_p : V8.Pairwise (· < ·) := by decide
theorem V17_p : V17.Pairwise (· < ·) := by decide
theorem in8 : ∀ a, a < 8 → ((a : Nat) : Int) ∈ V8 := by decide
theorem in17 : ∀ a, a < 17 → ((a : Nat) : Int) ∈ V17 := by decide
noncomputable abbrev rI (i : Nat) : Int := rg n i
noncomputable abbrev lI (i : Nat) : Int := lg n i
noncomputable def R1 : List (List Nat) := linesF (neF fun i => q8 (rg n i)) (Q1 n)
noncomputable def R2 : List (List Nat) := linesF (neF fun i => q16 (lg n i)) (Q2 n)
theorem R1_eq : R1 n = grps (rI n) (Q1 n) V8 := lines_law' enc8 (fun i => rg_lt i) (fun i => by have := lg_lt (n := n) i; omega) (Q1_s n) V8_p fun i _ => in8 _ (rg_lt i)
theorem R2_eq : R2 n = grps (lI n) (Q2 n) V17 := lines_law' enc16 (fun i => lg_lt i) (fun i => by have := rg_lt (n := n) i; omega) (Q2_s n) V17_p fun i _ => in17 _ (lg_lt i)
theorem to1 (W U : List Int) (hW : ∀ a : Nat, a < 8 → (a : Int) ∈ W) (hU : ∀ a : Nat, a < 17 → (a : Int) ∈ U) : TO (rI n) (lI n) (Q1 n) (Q2 n) W U :=
  to_of (fun i => by have := rg_lt (n := n) i; omega) (fun i => by have := lg_lt (n := n) i; omega) (Q1_s n) (Q2_s n) (fun i _ => hW _ (rg_lt i)) (fun i _ => hU _ (lg_lt i))
theorem to2 (W U : List Int) (hW : ∀ a : Nat, a < 17 → (a : Int) ∈ W) (hU : ∀ a : Nat, a < 8 → (a : Int) ∈ U) : TO (lI n) (rI n) (Q2 n) (Q1 n) W U :=
  to_of (fun i => by have := lg_lt (n := n) i; omega) (fun i => by have := rg_lt (n := n) i; omega) (Q2_s n) (Q1_s n) (fun i _ => hW _ (lg_lt i)) (fun i _ => hU _ (rg_lt i))
theorem ne_app (key oth : Nat → Int) (q q' : List Nat) (W U : List Int) (k : Nat) (row : List Nat) : mergeF k (grps key q W ++ grps oth q' U) row = mergeF k (bas key oth q q' W U) row := by
  rw [← merge_ne k (bas key oth q q' W U)]
  unfold grps bas
  rw [List.filter_append]
theorem grps_rev (key : Nat → Int) (q : List Nat) (W : List Int) : (grps key q W).reverse = grps key q W.reverse := by
  unfold grps
  rw [List.map_reverse, List.filter_reverse]
theorem m1 : mergeF 7 (R1 n ++ R2 n) [] = some (Q1 n) := by
  rw [R1_eq, R2_eq, ne_app]; exact line_law (to1 n V8 V17 in8 in17) V8_p
theorem m2 : mergeF 7 (R2 n ++ R1 n) [] = some (Q2 n) := by
  rw [R1_eq, R2_eq, ne_app]; exact line_law (to2 n V17 V8 in17 in8) V17_p
theorem m3 : ∃ res, takenF (aheadF (rI n) (lI n)) (rI n) 7 (List.range 6) [] = some res ∧ mergeF 7 ((R1 n).reverse ++ R2 n) [] = some res := by
  rw [R1_eq, R2_eq, grps_rev, ne_app]
  exact taken_law (to1 n V8.reverse V17 (fun a h => List.mem_reverse.mpr (in8 a h)) in17) (List.pairwise_reverse.mpr V8_p) fun o c ho hc => ahead_law ho
theorem m4 : ∃ res, takenF (aheadF (rI n) (lI n)) (lI n) 7 (List.range 6) [] = some res ∧ mergeF 7 ((R2 n).reverse ++ R1 n) [] = some res := by
  rw [R1_eq, R2_eq, grps_rev, ne_app]
  exact taken_law (to2 n V17.reverse V8 (fun a h => List.mem_reverse.mpr (in17 a h)) in8) (List.pairwise_reverse.mpr V17_p) fun o c ho hc => (ahead_law ho).trans AA_swap
theorem grp_len (key : Nat → Int) {q : List Nat} (hq : q.length = 6) (W : List Int) : ∀ g ∈ grps key q W, g.length ≤ 8 := fun g hg => by
  unfold grps at hg
  obtain ⟨hg, _⟩ := List.mem_filter.mp hg
  obtain ⟨v, _, rfl⟩ := List.mem_map.mp hg
  have := List.length_filter_le (fun p => key p == v) q
  unfold grp; omega
theorem grps_len (key : Nat → Int) (q : List Nat) (W : List Int) : (grps key q W).length ≤ W.length := by
  unfold grps
  exact Nat.le_trans (List.length_filter_le _ _) (by rw [List.length_map]; exact Nat.le_refl _)
theorem R1_sz : (R1 n).length ≤ 8 ∧ ∀ g ∈ R1 n, g.length ≤ 8 := by rw [R1_eq]; exact ⟨grps_len _ _ _, grp_len _ (Q1_s n).len _⟩
theorem R2_sz : (R2 n).length ≤ 17 ∧ ∀ g ∈ R2 n, g.length ≤ 8 := by rw [R2_eq]; exact ⟨grps_len _ _ _, grp_len _ (Q2_s n).len _⟩
theorem cnt1 : rowF (rI n) (lI n) 6 = (Q1 n).map fun (i : Nat) => (i : Int) := counted_law' (fun i => by have := lg_lt (n := n) i; omega) (Q1_s n)
theorem cnt2 : rowF (lI n) (rI n) 6 = (Q2 n).map fun (i : Nat) => (i : Int) := counted_law' (fun i => by have := rg_lt (n := n) i; omega) (Q2_s n)
theorem tns_of (q : List Nat) : tis (q.map fun (i : Nat) => (i : Int)) = tns q := by
  show T.lst (List.map ti (List.map _ q)) = _
  rw [List.map_map]; rfl
theorem src6 : Src (.rng 6) (List.range 6) := .inl ⟨6, rfl, rfl⟩
theorem getD6 (q : List Nat) (h : ∀ a ∈ q, a < 6) : (q.map fun i => (((List.range 6).getD i 0 : Nat) : Int)) = q.map fun (i : Nat) => (i : Int) := List.map_congr_left fun i hi => by
  have := h i hi
  simp [this]
theorem l6t_F6 (x : Nat → UInt64) (f : Nat → Nat) : l6t (fun i => tf (x (f i))) = .lst ((F6 x f).map tf) := by
  unfold l6t F6
  rw [List.map_map]; rfl
theorem fm_some {α : Type} (l : List α) (d : α) : ∀ js : List Nat, (∀ j ∈ js, j < l.length) → js.filterMap (l[·]?) = js.map fun j => l.getD j d
  | [], _ => rfl
  | j :: js, h => by
    have hj := h j (.head _)
    rw [List.filterMap_cons, List.getElem?_eq_getElem hj, List.map_cons, fm_some l d js fun x hx => h x (.tail _ hx)]
    have : l.getD j d = l[j] := by simp [hj]
    rw [this]
theorem pick_rev {α : Type} (l : List α) : pickV l none none (some (-1)) = l.reverse := by
  cases l with
  | nil => rfl
  | cons x l =>
    generalize hL : x :: l = L
    unfold pickV
    have e1 : (sliceBounds none none (some (-1)) L.length).1 = (L.length : Int) - 1 := rfl
    have e2 : (sliceBounds none none (some (-1)) L.length).2.1 = -1 := rfl
    have e3 : (sliceBounds none none (some (-1)) L.length).2.2 = -1 := rfl
    rw [e1, e2, e3]
    unfold sliceRange
    dsimp only
    rw [if_neg (by decide)]
    have hn : 0 < L.length := by rw [← hL]; simp
    have hc : (if (L.length : Int) - 1 > -1 then ((L.length : Int) - 1 - -1 - -1 - 1) / - -1 else 0).toNat = L.length := by
      rw [if_pos (by omega), show (- -1 : Int) = 1 by decide, Int.ediv_one]
      omega
    rw [hc, fm_some L x _ fun j hj => by
      obtain ⟨k, hk, rfl⟩ := List.mem_map.mp hj
      have : k < L.length := by simpa using hk
      omega, List.map_map]
    refine List.ext_getElem? fun i => ?_
    by_cases hi : i < L.length
    · rw [List.getElem?_map, List.getElem?_range hi, List.getElem?_reverse hi]
      show some (L.getD ((L.length : Int) - 1 + -1 * (i : Int)).toNat x) = _
      have e : ((L.length : Int) - 1 + -1 * (i : Int)).toNat = L.length - 1 - i := by omega
      rw [e]
      have h2 : L.length - 1 - i < L.length := by omega
      simp [h2]
    · rw [List.getElem?_eq_none (by simp; omega), List.getElem?_eq_none (by simp; omega)]
end
end Mine
end
section
namespace Mine
open PySem PyProof.Rows
section
variable {prog : Program} {w : World} {P : Pm} {A : Around} {env : Env} (n : Nat → Int)
noncomputable abbrev v13 (ns : List Int) : Vars := (Str.ofString "by_hue", tns (Q1 n)) :: v12 n ns
noncomputable abbrev v14 (ns : List Int) : Vars := (Str.ofString "by_light", tns (Q2 n)) :: v13 n ns
noncomputable abbrev v16 (ns : List Int) : Vars := (Str.ofString "rows", .lst ((R1 n).map tns)) :: v14 n ns
noncomputable abbrev v17 (ns : List Int) : Vars := (Str.ofString "columns", .lst ((R2 n).map tns)) :: v16 n ns
noncomputable abbrev v19 (ns : List Int) : Vars := (Str.ofString "ahead", l6t fun i => tns (aheadF (rI n) (lI n) i)) :: v17 n ns
/-- the sort is called -/
theorem ev_sorted (X : LB P) {fm : Fm} {p pos : Pos} {e : Expr} {rest : List Expr} {pl : T} {js q : List Nat} {x y : Nat → UInt64} {f g : Nat → Nat} (hh : A.handled = none) (hdp : A.depth ≤ 310) (hu : A.units ≤ 3000) (hx : fm.names.lookup (Str.ofString "_law_sorted") = some .globalImplicit) (hs : noStar e = true)
    (sr : Src pl js) (hj6 : ∀ x ∈ js, x < 6) (h2 : 2 ≤ js.length) (h60 : js.length ≤ 60) (hc : bnd js.length (PySem.W.kas_sort js.length) = true) (hbd : ∀ a ∈ (sortP (F6 x f) (F6 y g) js).toList, a < js.length) (hl : (sortP (F6 x f) (F6 y g) js).toList.length ≤ 4096)
    (hq : (sortP (F6 x f) (F6 y g) js).toList.map (fun i => js.getD i 0) = q)
    (h : EvL prog w P A env fm m0 (spliced (backTo pos (starEach (e :: rest) env))) [pl, l6t fun i => tf (x (f i)), l6t fun i => tf (y (g i))]) : Ev prog w P A env fm m0 (eval (.Call (.Name (Str.ofString "_law_sorted") p) (e :: rest) [] pos) env) (tns q) := by
  obtain ⟨ob, pm, doc, e59, d59⟩ := X.X.f59
  have e : tns q = tis ((sortP (F6 x f) (F6 y g) js).toList.map fun i => ((js.getD i 0 : Nat) : Int)) := by
    rw [← hq, ← tns_of, List.map_map]; rfl
  rw [e]
  rw [l6t_F6, l6t_F6] at h
  intro Z
  exact ev_call_fn hx (by rfl) X.srt (by decide) ⟨by decide, by decide⟩ e59 d59 hs h (sorted_ok X.X X.G hh hdp hu sr (by simp) (by simp) hj6 h2 h60 hc hbd hl)
theorem st14_ok (X : LB P) (s4 : Sl 4 A) (hdp : A.depth ≤ 310) (hu : A.units ≤ 3000) (ns : List Int) : Ex prog w P A env nL m0 (exec (lst16 13) env) (v12 n ns) (v13 n ns) .next := by
  intro Z
  refine ex_assign (k := .local) (by rfl) (.inl rfl) ?_ (by rfl)
  intro Z
  refine ev_sorted (pl := .rng 6) (js := List.range 6) (x := q8) (f := rg n) (y := q16) (g := lg n) X s4.1 hdp hu (by rfl) (by rfl) src6 (fun x hx => by simpa using hx) (by decide) (by decide) (chk_bnd chk6) (fun a ha => (Q1_s n).mem a |>.mp ha) (by have := (Q1_s n).len; unfold Q1 at this; rw [this]; decide) ?_ ?_
  · have : ∀ a ∈ Q1 n, a < 6 := fun a ha => ((Q1_s n).mem a).mp ha
    exact (List.map_congr_left fun i hi => by have := this i hi; simp [this]).trans (List.map_id' _)
  · intro Z
    exact evl_cons (by rfl) (ev_pe X.B s4 4 (by rfl)) (evl_cons (by rfl) (ev_pe X.B s4 2 (by rfl)) (evl_cons (by rfl) (ev_pe X.B s4 2 (by rfl)) evl_nil))
theorem st15_ok (X : LB P) (s4 : Sl 4 A) (hdp : A.depth ≤ 310) (hu : A.units ≤ 3000) (ns : List Int) : Ex prog w P A env nL m0 (exec (lst16 14) env) (v13 n ns) (v14 n ns) .next := by
  intro Z
  refine ex_assign (k := .local) (by rfl) (.inl rfl) ?_ (by rfl)
  intro Z
  refine ev_sorted (pl := .rng 6) (js := List.range 6) (x := q16) (f := lg n) (y := q8) (g := rg n) X s4.1 hdp hu (by rfl) (by rfl) src6 (fun x hx => by simpa using hx) (by decide) (by decide) (chk_bnd chk6) (fun a ha => (Q2_s n).mem a |>.mp ha) (by have := (Q2_s n).len; unfold Q2 at this; rw [this]; decide) ?_ ?_
  · have : ∀ a ∈ Q2 n, a < 6 := fun a ha => ((Q2_s n).mem a).mp ha
    exact (List.map_congr_left fun i hi => by have := this i hi; simp [this]).trans (List.map_id' _)
  · intro Z
    exact evl_cons (by rfl) (ev_pe X.B s4 4 (by rfl)) (evl_cons (by rfl) (ev_pe X.B s4 2 (by rfl)) (evl_cons (by rfl) (ev_pe X.B s4 2 (by rfl)) evl_nil))
theorem sm_two {a b : List Nat} : ∀ x ∈ [tns a, tns b], Se m0 3 x := fun x hx => by
  rcases List.mem_cons.mp hx with rfl | hx
  · exact sm_tns _ 2
  · rw [List.mem_singleton.mp hx]; exact sm_tns _ 2
theorem st16_ok (X : LB P) (s6 : Sl 6 A) (ns : List Int) : Ex prog w P A env nL m0 (exec (lst16 15) env) (v14 n ns) (v14 n ns) .next := by
  have s4 : Sl 4 A := s6.mono (by decide)
  have s5 : Sl 5 A := s6.mono (by decide)
  intro Z
  refine ex_skip (t := [tns (Q1 n), tns (Q2 n)]) s4 (ev_pe X.B s4 4 (by rfl)) ?_ sm_two (by rfl)
  intro Z
  refine ev_list (evl_cons (by rfl) ?_ (evl_cons (by rfl) ?_ evl_nil)) (by simp)
  · rw [← tns_of, ← cnt1]
    intro Z
    exact ev_callI X.cnt.2 (by rfl) (by rfl) X.cnt.1 (by rfl) (evl_cons (by rfl) (ev_pe X.B s4 2 (by rfl)) (evl_cons (by rfl) (ev_pe X.B s4 2 (by rfl)) evl_nil)) (counted_ok X.B X.cnt.2 s5 (rI n) (lI n))
  · rw [← tns_of, ← cnt2]
    intro Z
    exact ev_callI X.cnt.2 (by rfl) (by rfl) X.cnt.1 (by rfl) (evl_cons (by rfl) (ev_pe X.B s4 2 (by rfl)) (evl_cons (by rfl) (ev_pe X.B s4 2 (by rfl)) evl_nil)) (counted_ok X.B X.cnt.2 s5 (lI n) (rI n))
theorem st17_ok (X : LB P) (s6 : Sl 6 A) (ns : List Int) : Ex prog w P A env nL m0 (exec (lst16 16) env) (v14 n ns) (v16 n ns) .next := by
  have s4 : Sl 4 A := s6.mono (by decide)
  intro Z
  refine ex_assign (k := .local) (by rfl) (.inl rfl) ?_ (by rfl)
  intro Z
  exact ev_callI X.lin.2 (by rfl) (by rfl) X.lin.1 (by rfl) (evl_cons (by rfl) (ev_pe X.B s4 2 (by rfl)) (evl_cons (by rfl) (ev_pe X.B s4 2 (by rfl)) evl_nil)) (lines_ok X.B X.lin.2 (s6.mono (by decide)) (fun i => q8 (rg n i)) (Q1 n) (fun p hp => ((Q1_s n).mem p).mp hp) (by rw [(Q1_s n).len]; decide))
theorem st18_ok (X : LB P) (s6 : Sl 6 A) (ns : List Int) : Ex prog w P A env nL m0 (exec (lst16 17) env) (v16 n ns) (v17 n ns) .next := by
  have s4 : Sl 4 A := s6.mono (by decide)
  intro Z
  refine ex_assign (k := .local) (by rfl) (.inl rfl) ?_ (by rfl)
  intro Z
  exact ev_callI X.lin.2 (by rfl) (by rfl) X.lin.1 (by rfl) (evl_cons (by rfl) (ev_pe X.B s4 2 (by rfl)) (evl_cons (by rfl) (ev_pe X.B s4 2 (by rfl)) evl_nil)) (lines_ok X.B X.lin.2 (s6.mono (by decide)) (fun i => q16 (lg n i)) (Q2 n) (fun p hp => ((Q2_s n).mem p).mp hp) (by rw [(Q2_s n).len]; decide))
theorem cat_tns {prog : Program} {w : World} {P : Pm} {A : Around} {a b : List (List Nat)} (h : a.length + b.length ≤ 4096) : Op2 prog w P A m0 (binaryOp .Add) (.lst (a.map tns)) (.lst (b.map tns)) (.lst ((a ++ b).map tns)) := by
  rw [List.map_append]
  intro Z
  exact cat_ok rfl rfl (by rw [List.length_map, List.length_map]; exact h)
theorem ev_merged {fm : Fm} {p pos : Pos} {e : Expr} {gs : List (List Nat)} {res : List Nat} (X : LB P) (s6 : Sl 6 A) (hx : fm.names.lookup (Str.ofString "_law_merged") = some .globalImplicit) (hs : noStar e = true) (h : Ev prog w P A env fm m0 (eval e env) (.lst (gs.map tns))) (hz : gs.length ≤ 100) (hm : ∀ g ∈ gs, g.length ≤ 8) (hr : mergeF 7 gs [] = some res) :
    Ev prog w P A env fm m0 (eval (.Call (.Name (Str.ofString "_law_merged") p) [e] [] pos) env) (tns res) := by
  intro Z
  exact ev_callI X.mer.2 hx (by rfl) X.mer.1 hs (evl_cons hs h evl_nil) (merged_ok X.B X.mer.2 X.c3.1 X.c3.2 s6 gs hz hm (k := 7) (by decide) hr)
theorem sz12 : (R1 n ++ R2 n).length ≤ 100 ∧ ∀ g ∈ R1 n ++ R2 n, g.length ≤ 8 := by
  have h1 := R1_sz n
  have h2 := R2_sz n
  exact ⟨by rw [List.length_append]; omega, fun g hg => (List.mem_append.mp hg).elim (h1.2 g) (h2.2 g)⟩
theorem sz21 : (R2 n ++ R1 n).length ≤ 100 ∧ ∀ g ∈ R2 n ++ R1 n, g.length ≤ 8 := by
  have h1 := R1_sz n
  have h2 := R2_sz n
  exact ⟨by rw [List.length_append]; omega, fun g hg => (List.mem_append.mp hg).elim (h2.2 g) (h1.2 g)⟩
theorem c12 : (R1 n).length + (R2 n).length ≤ 4096 := by have h1 := R1_sz n; have h2 := R2_sz n; omega
theorem c21 : (R2 n).length + (R1 n).length ≤ 4096 := by have h1 := R1_sz n; have h2 := R2_sz n; omega
theorem st19_ok (X : LB P) (s6 : Sl 6 A) (ns : List Int) : Ex prog w P A env nL m0 (exec (lst16 18) env) (v17 n ns) (v17 n ns) .next := by
  have s4 : Sl 4 A := s6.mono (by decide)
  intro Z
  refine ex_skip (t := [tns (Q1 n), tns (Q2 n)]) s4 ?_ (ev_pe X.B s4 4 (by rfl)) sm_two (by rfl)
  intro Z
  refine ev_list (evl_cons (by rfl) ?_ (evl_cons (by rfl) ?_ evl_nil)) (by simp)
  · intro Z
    refine ev_merged X s6 (by rfl) (by rfl) ?_ (sz12 n).1 (sz12 n).2 (m1 n)
    intro Z
    exact ev_binop (ev_pe X.B s4 2 (by rfl)) (ev_pe X.B s4 2 (by rfl)) (cat_tns (c12 n))
  · intro Z
    refine ev_merged X s6 (by rfl) (by rfl) ?_ (sz21 n).1 (sz21 n).2 (m2 n)
    intro Z
    exact ev_binop (ev_pe X.B s4 2 (by rfl)) (ev_pe X.B s4 2 (by rfl)) (cat_tns (c21 n))
theorem st20_ok (X : LB P) (s6 : Sl 6 A) (ns : List Int) : Ex prog w P A env nL m0 (exec (lst16 19) env) (v17 n ns) (v19 n ns) .next := by
  have s4 : Sl 4 A := s6.mono (by decide)
  intro Z
  refine asg6 (k := .local) (src := .rng 6) (fun (i : Nat) => ti (i : Int)) (fun i => tns (aheadF (rI n) (lI n) i)) s4.1 (by rfl) (.inl rfl) (fun _ _ => rfl) (by rfl) (by rfl) (ev_pe X.B s4 4 (by rfl)) itr (fun a b h => by rw [ti_eq h]) fun i hi cenv => ?_
  intro Z
  exact ev_callI X.ahe.2 (by rfl) (by rfl) X.ahe.1 (by rfl) (evl_cons (by rfl) (ev_pe X.B s4 2 (by rfl)) (evl_cons (by rfl) (ev_pe X.B s4 2 (by rfl)) (evl_cons (by rfl) (ev_pe X.B s4 2 (by rfl)) evl_nil))) (ahead_ok X.B X.ahe.2 (s6.mono (by decide)) (rI n) (lI n) i hi)
theorem ahead_len (r l : Nat → Int) (i : Nat) : (aheadF r l i).length ≤ 4096 := by
  unfold aheadF
  rw [List.length_append]
  have h1 := List.length_filter_le (fun o => r o == r i && ltI [l o, o] [l i, i]) (List.range 6)
  have h2 := List.length_filter_le (fun o => l o == l i && decide (r o < r i)) (List.range 6)
  simp only [List.length_range] at h1 h2
  omega
theorem ev_rev {fm : Fm} {x : Str} {p p1 p2 p3 p4 : Pos} {kk : Nat} {gs : List (List Nat)} (h : Ev prog w P A env fm m0 (eval (.Name x p) env) (.lst (gs.map tns))) (hz : gs.length ≤ 4096) : Ev prog w P A env fm m0 (eval (.Subscript (.Name x p) (.Slice none none (some (.UnaryOp .USub (.Constant (.int 1) kk p1) p2)) p3) p4) env) (.lst (gs.reverse.map tns)) := by
  have e : gs.reverse.map tns = pickV (gs.map tns) none none (some (-1)) := by rw [pick_rev, List.map_reverse]
  rw [e]
  intro Z
  exact ev_slice h part_none part_none (part_some ev_neg) rfl (by decide) (by rw [pick_rev, List.length_reverse, List.length_map]; exact hz)
theorem sm_all (q : List Nat) : ∀ x ∈ q.map (fun (i : Nat) => ti (i : Int)), Se m0 3 x := fun x hx => by
  obtain ⟨i, _, rfl⟩ := List.mem_map.mp hx
  exact sm_int _ 3
theorem st21_ok (X : LB P) (s6 : Sl 6 A) (ns : List Int) : Ex prog w P A env nL m0 (exec (lst16 20) env) (v19 n ns) (v19 n ns) .next := by
  have s4 : Sl 4 A := s6.mono (by decide)
  obtain ⟨res, e1, e2⟩ := m3 n
  have h1 := R1_sz n
  have h2 := R2_sz n
  intro Z
  refine ex_skip (t := res.map fun (i : Nat) => ti (i : Int)) s4 ?_ ?_ (sm_all res) (by rfl)
  · intro Z
    refine ev_merged X s6 (by rfl) (by rfl) (gs := (R1 n).reverse ++ R2 n) ?_ (by rw [List.length_append, List.length_reverse]; omega) (fun g hg => (List.mem_append.mp hg).elim (fun q => h1.2 g (List.mem_reverse.mp q)) (h2.2 g)) e2
    intro Z
    exact ev_binop (ev_rev (ev_pe X.B s4 2 (by rfl)) (by omega)) (ev_pe X.B s4 2 (by rfl)) (cat_tns (by rw [List.length_reverse]; exact c12 n))
  · intro Z
    exact ev_callI X.tak.2 (by rfl) (by rfl) X.tak.1 (by rfl) (evl_cons (by rfl) (ev_pe X.B s4 2 (by rfl)) (evl_cons (by rfl) (ev_pe X.B s4 2 (by rfl)) evl_nil)) (taken_ok X.B X.tak.2 (s6.mono (by decide)) (aheadF (rI n) (lI n)) (rI n) (fun i _ => ahead_len _ _ i) e1)
theorem st22_ok (X : LB P) (s6 : Sl 6 A) (ns : List Int) : Ex prog w P A env nL m0 (exec (lst16 21) env) (v19 n ns) (v19 n ns) .next := by
  have s4 : Sl 4 A := s6.mono (by decide)
  obtain ⟨res, e1, e2⟩ := m4 n
  have h1 := R1_sz n
  have h2 := R2_sz n
  intro Z
  refine ex_skip (t := res.map fun (i : Nat) => ti (i : Int)) s4 ?_ ?_ (sm_all res) (by rfl)
  · intro Z
    refine ev_merged X s6 (by rfl) (by rfl) (gs := (R2 n).reverse ++ R1 n) ?_ (by rw [List.length_append, List.length_reverse]; omega) (fun g hg => (List.mem_append.mp hg).elim (fun q => h2.2 g (List.mem_reverse.mp q)) (h1.2 g)) e2
    intro Z
    exact ev_binop (ev_rev (ev_pe X.B s4 2 (by rfl)) (by omega)) (ev_pe X.B s4 2 (by rfl)) (cat_tns (by rw [List.length_reverse]; exact c21 n))
  · intro Z
    exact ev_callI X.tak.2 (by rfl) (by rfl) X.tak.1 (by rfl) (evl_cons (by rfl) (ev_pe X.B s4 2 (by rfl)) (evl_cons (by rfl) (ev_pe X.B s4 2 (by rfl)) evl_nil)) (taken_ok X.B X.tak.2 (s6.mono (by decide)) (aheadF (rI n) (lI n)) (lI n) (fun i _ => ahead_len _ _ i) e1)
end
end Mine
end
section
namespace Mine
open PySem PyProof.Rows
/-- a merge that is refused -/
noncomputable def RaiseSpec (prog : Program) (w : World) (P : Pm) (A : Around) (env : Env) : Prop :=
  ∀ (Z : Addr → Prop) (fm : Fm) (s : Shared) (Q : Value → Shared → Prop) (E : Value → Shared → Prop) (v : Value) (x y : Nat), x ≠ y → Pre P Z env fm m0 s → RT Z s.heap v (.lst [tns [x, y], tns [y, x]]) →
    (∀ u h' tk, 0 < tk → Keep (XE env) s.heap h' → RB P h' → FrmOk Z env fm h' → RT Z h' u (.lst [.sc (.str incS)]) → Q u (up s h' tk)) → wpAny (model prog w) A (call (.ref 76) [v]) Q E s
section
variable {prog : Program} {w : World} {P : Pm} {A : Around} {env : Env} {nm : List (Str × NameKind)} {v v' v'' : Vars} {μ : Mu} {r : Rf}
theorem ex_less {t : Sem Flow} (h : Ex prog w P A env nm μ t v v' r) (hs : ∀ x y, v''.lookup x = some y → v'.lookup x = some y) : Ex prog w P A env nm μ t v v'' r := fun s Q E p o =>
  h s Q E p fun f h' tk tp k rb fo rf => o f h' tk tp k rb (fo.drop hs) rf
theorem merge_same : ∀ p, p < 5 → mergeF 7 [[p, p + 1], [p, p + 1]] [] = some [p, p + 1] ∧ mergeF 7 [[p + 1, p], [p + 1, p]] [] = some [p + 1, p] := by decide
noncomputable def lb (i : Nat) : Stmt := nth (forB (lst16 22)) i
end
section
variable {prog : Program} {w : World} {P : Pm} {A : Around} {env : Env} (n : Nat → Int)
noncomputable abbrev pA (f : Nat → Nat) (p : Nat) : List Nat := if f (p + 1) < f p then [p + 1, p] else [p, p + 1]
noncomputable def mT (p : Nat) : T := if (decide (va n (p + 1) < va n p) != decide (lg n (p + 1) < lg n p)) = true then .lst [.sc (.str incS)] else tns (pA (va n) p)
noncomputable abbrev w0 (p : Nat) (ns : List Int) : Vars := (Str.ofString "place", ti p) :: v19 n ns
noncomputable abbrev w1 (p : Nat) (ns : List Int) : Vars := (Str.ofString "pair", tns [p, p + 1]) :: w0 n p ns
noncomputable abbrev w2 (p : Nat) (ns : List Int) : Vars := (Str.ofString "merged", mT n p) :: w1 n p ns
theorem lb0_ok (X : LB P) (s4 : Sl 4 A) (p : Nat) (ns : List Int) : Ex prog w P A env nL m0 (exec (lb 0) env) (w0 n p ns) (w1 n p ns) .next := by
  intro Z
  refine ex_assign (k := .local) (by rfl) (.inl rfl) ?_ (by rfl)
  intro Z; exact ev_pe X.B s4 5 (by rfl)
theorem pair_args (X : LB P) (s4 : Sl 4 A) (hdp : A.depth ≤ 310) (hu : A.units ≤ 3000) {p : Nat} (hp : p < 5) (ns : List Int) {a1 a2 a3 a4 a5 a6 a7 a8 a9 b1 c1 : Pos} :
    Ev prog w P A env ⟨nL, w1 n p ns⟩ m0 (eval (.List [.Call (.Name (Str.ofString "_law_sorted") a1) [.Name (Str.ofString "pair") a2, .Name (Str.ofString "value") a3, .Name (Str.ofString "value") a4] [] a5, .Call (.Name (Str.ofString "_law_sorted") a6) [.Name (Str.ofString "pair") a7, .Name (Str.ofString "light") a8, .Name (Str.ofString "light") a9] [] b1] c1) env) (.lst [tns (pA (va n) p), tns (pA (lg n) p)]) := by
  have one : ∀ {x : Nat → UInt64} {N : Nat} (hx : Enc x N) (hN : N ≤ 32) {f : Nat → Nat} (hf : ∀ i, f i < N) {pos : Pos} {e : Expr} {rest : List Expr} {q : Pos} (hs : noStar e = true), EvL prog w P A env ⟨nL, w1 n p ns⟩ m0 (spliced (backTo pos (starEach (e :: rest) env))) [tns [p, p + 1], l6t fun i => tf (x (f i)), l6t fun i => tf (x (f i))] →
      Ev prog w P A env ⟨nL, w1 n p ns⟩ m0 (eval (.Call (.Name (Str.ofString "_law_sorted") q) (e :: rest) [] pos) env) (tns (pA f p)) := by
    intro x N hx hN f hf pos e rest q hs h
    obtain ⟨h1, h2, h3⟩ := pair_law hx hN hf hp
    intro Z
    exact ev_sorted (pl := tns [p, p + 1]) (js := [p, p + 1]) (x := x) (f := f) (y := x) (g := f) X s4.1 hdp hu (by rfl) hs (.inr rfl) (fun y hy => by
      simp only [List.mem_cons, List.not_mem_nil, or_false] at hy
      rcases hy with rfl | rfl <;> omega) (by simp) (by simp) (chk_bnd chk2) h1 (by rw [h2]; decide) h3 h
  intro Z
  refine ev_list (evl_cons (by rfl) ?_ (evl_cons (by rfl) ?_ evl_nil)) (by simp)
  · intro Z
    exact one enc2 (by decide) (va_lt n) (by rfl) (evl_cons (by rfl) (ev_pe X.B s4 2 (by rfl)) (evl_cons (by rfl) (ev_pe X.B s4 2 (by rfl)) (evl_cons (by rfl) (ev_pe X.B s4 2 (by rfl)) evl_nil)))
  · intro Z
    exact one enc16 (by decide) (fun i => lg_lt i) (by rfl) (evl_cons (by rfl) (ev_pe X.B s4 2 (by rfl)) (evl_cons (by rfl) (ev_pe X.B s4 2 (by rfl)) (evl_cons (by rfl) (ev_pe X.B s4 2 (by rfl)) evl_nil)))
end
end Mine
end
section
namespace Mine
open PySem PyProof.Rows
theorem lb1_eq : ∃ a1 a2 a3 a4 a5 a6 a7 a8 a9 b1 c1 d1 d2 d3 d4 : Pos, lb 1 = .Assign [.Name (Str.ofString "merged") d1] (.Call (.Name (Str.ofString "_law_merged") d2) [.List [.Call (.Name (Str.ofString "_law_sorted") a1) [.Name (Str.ofString "pair") a2, .Name (Str.ofString "value") a3, .Name (Str.ofString "value") a4] [] a5, .Call (.Name (Str.ofString "_law_sorted") a6) [.Name (Str.ofString "pair") a7, .Name (Str.ofString "light") a8, .Name (Str.ofString "light") a9] [] b1] c1] [] d3) d4 := ⟨_, _, _, _, _, _, _, _, _, _, _, _, _, _, _, rfl⟩
section
variable {prog : Program} {w : World} {P : Pm} {A : Around} {env : Env} (n : Nat → Int)
theorem agreed_eq (p : Nat) : agreedT p (fun i => (va n i : Int)) (lI n) = mT n p := by
  unfold agreedT mT
  have e1 : decide ((va n (p + 1) : Int) < va n p) = decide (va n (p + 1) < va n p) := decide_eq_decide.mpr (by omega)
  have e2 : decide ((lg n (p + 1) : Int) < lg n p) = decide (lg n (p + 1) < lg n p) := decide_eq_decide.mpr (by omega)
  rw [e1, e2]
  by_cases h : va n (p + 1) < va n p
  · rw [if_pos (show (va n (p + 1) : Int) < va n p by omega)]
    unfold pA; rw [if_pos h]
  · rw [if_neg (show ¬ (va n (p + 1) : Int) < va n p by omega)]
    unfold pA; rw [if_neg h]
theorem lb1_ok (X : LB P) (s6 : Sl 6 A) (hdp : A.depth ≤ 310) (hu : A.units ≤ 3000) (RS : RaiseSpec prog w P A env) {p : Nat} (hp : p < 5) (ns : List Int) : Ex prog w P A env nL m0 (exec (lb 1) env) (w1 n p ns) (w2 n p ns) .next := by
  have s4 : Sl 4 A := s6.mono (by decide)
  obtain ⟨a1, a2, a3, a4, a5, a6, a7, a8, a9, b1, c1, d1, d2, d3, d4, e⟩ := lb1_eq
  rw [e]
  have args := @pair_args prog w P A env n X s4 hdp hu p hp ns a1 a2 a3 a4 a5 a6 a7 a8 a9 b1 c1
  intro Z
  by_cases hb : (decide (va n (p + 1) < va n p) != decide (lg n (p + 1) < lg n p)) = true
  · have em : mT n p = .lst [.sc (.str incS)] := by unfold mT; rw [if_pos hb]
    have two : ∃ x y, x ≠ y ∧ pA (va n) p = [x, y] ∧ pA (lg n) p = [y, x] := by
      unfold pA
      by_cases h1 : va n (p + 1) < va n p
      · have h2 : ¬ lg n (p + 1) < lg n p := fun h2 => by rw [decide_eq_true h1, decide_eq_true h2] at hb; cases hb
        rw [if_pos h1, if_neg h2]
        exact ⟨p + 1, p, by omega, rfl, rfl⟩
      · have h2 : lg n (p + 1) < lg n p := by
          rcases Nat.lt_or_ge (lg n (p + 1)) (lg n p) with h | h
          · exact h
          · rw [decide_eq_false h1, decide_eq_false (by omega)] at hb; cases hb
        rw [if_neg h1, if_pos h2]
        exact ⟨p, p + 1, by omega, rfl, rfl⟩
    obtain ⟨x, y, hxy, ea, eb⟩ := two
    rw [ea, eb] at args
    unfold w2
    rw [em]
    intro s Q E pr o
    obtain ⟨fd, F⟩ := X.mer.2
    obtain ⟨ob, ho, hf⟩ := F.obj
    have ek : env.kindOf (Str.ofString "_law_merged") = some .globalImplicit := by unfold Env.kindOf; rw [pr.fo.names]; rfl
    refine wpAny_Assign_Name ?_ (swaps_false (by rfl) _ _ _)
    refine call_arm (Calls.Name_function_global pr.fo.kind ek (Calls.loadGlobal_global (mg := P.mg) (by rw [pr.fo.glob]; exact pr.rb.glob) X.mer.1 ?_) (by rfl))
    refine PyProof.Rows.callWith_def hf ?_ (star_cons (by rfl) env)
    rw [star_cons (by rfl) env, back_cons]
    refine Calls.spliced_cons (args s _ E pr fun v h' tk tp k rb rv => Calls.spliced_nil ⟨rb.base _ ob (by decide) ⟨by decide, by decide⟩ ho, ?_⟩)
    have p1 := pr.next tp k rb
    refine RS Z _ _ _ E v x y hxy p1 rv fun u h2 tk2 tp2 k2 rb2 fo2 ru => ?_
    exact store_ok (k := .local) (by rfl) (.inl rfl) rb2 tp2 fo2 ru fun h3 tk3 tp3 k3 rb3 f3 _ => o _ h3 tk3 tp3 ((k.weak.trans k2).trans k3) rb3 f3 .next
  · have em : mT n p = tns (pA (va n) p) := by unfold mT; rw [if_neg hb]
    have same : pA (lg n) p = pA (va n) p := by
      unfold pA
      by_cases h1 : va n (p + 1) < va n p
      · have h2 : lg n (p + 1) < lg n p := by
          rcases Nat.lt_or_ge (lg n (p + 1)) (lg n p) with h | h
          · exact h
          · exact absurd (by rw [decide_eq_true h1, decide_eq_false (by omega)]; rfl) hb
        rw [if_pos h1, if_pos h2]
      · have h2 : ¬ lg n (p + 1) < lg n p := fun h2 => hb (by rw [decide_eq_false h1, decide_eq_true h2]; rfl)
        rw [if_neg h1, if_neg h2]
    rw [same] at args
    unfold w2
    rw [em]
    refine ex_assign (k := .local) (by rfl) (.inl rfl) ?_ (by rfl)
    intro Z
    refine ev_merged X s6 (by rfl) (by rfl) (gs := [pA (va n) p, pA (va n) p]) args (by simp) (fun g hg => ?_) ?_
    · have : g = pA (va n) p := by
        rcases List.mem_cons.mp hg with rfl | hg
        · rfl
        · exact List.mem_singleton.mp hg
      rw [this]
      unfold pA; split <;> simp
    · obtain ⟨h1, h2⟩ := merge_same p hp
      unfold pA
      split
      · exact h2
      · exact h1
theorem lb2_ok (X : LB P) (s6 : Sl 6 A) {p : Nat} (hp : p < 5) (ns : List Int) : Ex prog w P A env nL m0 (exec (lb 2) env) (w2 n p ns) (w2 n p ns) .next := by
  have s4 : Sl 4 A := s6.mono (by decide)
  have ag : ∀ {p1 p2 p3 p4 p5 : Pos}, Ev prog w P A env ⟨nL, w2 n p ns⟩ m0 (eval (.Call (.Name (Str.ofString "_law_agreed") p1) [.Name (Str.ofString "place") p2, .Name (Str.ofString "values") p3, .Name (Str.ofString "lights") p4] [] p5) env) (mT n p) := by
    intro p1 p2 p3 p4 p5
    rw [← agreed_eq]
    intro Z
    exact ev_callI X.agr.2 (by rfl) (by rfl) X.agr.1 (by rfl) (evl_cons (by rfl) (ev_pe X.B s4 2 (by rfl)) (evl_cons (by rfl) (ev_pe X.B s4 2 (by rfl)) (evl_cons (by rfl) (ev_pe X.B s4 2 (by rfl)) evl_nil))) (agreed_ok X.B X.agr.2 (s6.mono (by decide)) (fun i => (va n i : Int)) (lI n) hp)
  have nm : ∀ {p1 : Pos}, Ev prog w P A env ⟨nL, w2 n p ns⟩ m0 (eval (.Name (Str.ofString "merged") p1) env) (mT n p) := fun {p1} => by
    intro Z; exact ev_pe X.B s4 2 (by rfl)
  unfold mT at ag nm
  intro Z
  by_cases hb : (decide (va n (p + 1) < va n p) != decide (lg n (p + 1) < lg n p)) = true
  · rw [if_pos hb] at ag nm
    exact ex_skip s4 nm ag (fun x hx => by rw [List.mem_singleton.mp hx]; exact sm_str _ 3) (by rfl)
  · rw [if_neg hb] at ag nm
    exact ex_skip s4 nm ag (sm_all _) (by rfl)
theorem loop_lk (p : Nat) (ns : List Int) : ∀ x y, (v19 n ns).lookup x = some y → (w2 n p ns).lookup x = some y := fun x y h => by
  have h1 : x ≠ Str.ofString "merged" := fun e => by subst e; exact nomatch (show (none : Option T) = some y from h)
  have h2 : x ≠ Str.ofString "pair" := fun e => by subst e; exact nomatch (show (none : Option T) = some y from h)
  have h3 : x ≠ Str.ofString "place" := fun e => by subst e; exact nomatch (show (none : Option T) = some y from h)
  unfold w2 w1 w0
  rw [lookup_cons_ne h1, lookup_cons_ne h2, lookup_cons_ne h3]
  exact h
theorem turn_ok (X : LB P) (s6 : Sl 6 A) (hdp : A.depth ≤ 310) (hu : A.units ≤ 3000) (RS : RaiseSpec prog w P A env) {p : Nat} (hp : p < 5) (ns : List Int) : Ex prog w P A env nL m0 (execs [lb 0, lb 1, lb 2] env) (w0 n p ns) (v19 n ns) .next := by
  have s4 : Sl 4 A := s6.mono (by decide)
  intro Z
  refine ex_less (v' := w2 n p ns) ?_ (loop_lk n p ns)
  intro Z
  exact ex_cons (lb0_ok n X s4 p ns) (ex_cons (lb1_ok n X s6 hdp hu RS hp ns) (ex_cons (lb2_ok n X s6 hp ns) ex_nil))
theorem for_ok (X : LB P) (s6 : Sl 6 A) (hdp : A.depth ≤ 310) (hu : A.units ≤ 3000) (RS : RaiseSpec prog w P A env) (ns : List Int) : Ex prog w P A env nL m0 (exec (lst16 22) env) (v19 n ns) (v19 n ns) .next := by
  have s4 : Sl 4 A := s6.mono (by decide)
  intro Z
  refine ex_for (k := .local) (src := .rng 5) (items := rangeT 0 5) s4.1 (by rfl) (.inl rfl) (fun _ _ => rfl) (ev_pe X.B s4 4 (by rfl)) (by rfl) ?_
  have go : ∀ (k p : Nat), p + k = 5 → ForOk (fun a b r => Ex prog w P A env nL m0 (execs [lb 0, lb 1, lb 2] env) a b r) (fun a b r => Ex prog w P A env nL m0 (execs [] env) a b r) (Str.ofString "place") (rangeT (p : Int) k) (v19 n ns) (v19 n ns) .next := by
    intro k
    induction k with
    | zero => intro p _; exact .nil ex_nil
    | succ k ih =>
      intro p hp
      rw [rangeT]
      have := ih (p + 1) (by omega)
      rw [show ((p + 1 : Nat) : Int) = (p : Int) + 1 by push_cast; rfl] at this
      exact .next (turn_ok n X s6 hdp hu RS (by omega) ns) this
  exact go 5 0 rfl
end
end Mine
end
section
namespace Mine
open PySem PyProof.Rows
theorem body16 : ∃ q1 q2 : Pos, bodyOf (stAt 16) = [lst16 0, lst16 1, lst16 2, lst16 3, lst16 4, lst16 5, lst16 6, lst16 7, lst16 8, lst16 9, lst16 10, lst16 11, lst16 12, lst16 13, lst16 14, lst16 15, lst16 16, lst16 17, lst16 18, lst16 19, lst16 20, lst16 21, lst16 22, .Return (some (.Constant (.bool true) 0 q1)) q2] := ⟨_, _, rfl⟩
section
variable {prog : Program} {w : World} {P : Pm} {A : Around} {env : Env}
theorem law_body (X : LB P) (s6 : Sl 6 A) (hdp : A.depth ≤ 310) (hu : A.units ≤ 3000) (RS : RaiseSpec prog w P A env) (ns : List Int) (hns : ns.length ≤ 63) : Ex prog w P A env nL m0 (execs (bodyOf (stAt 16)) env) (v0 ns) (v19 (numF ns) ns) (.ret (.sc (.bool true))) := by
  have s4 : Sl 4 A := s6.mono (by decide)
  obtain ⟨q1, q2, e⟩ := body16
  rw [e]
  have st1 : Ex prog w P A env nL m0 (exec (lst16 0) env) (v0 ns) (v1 (numF ns) ns) .next := by
    intro Z
    refine ex_assign (k := .cell) (by rfl) (.inr rfl) ?_ (by rfl)
    intro Z
    exact ev_callI X.num.2 (by rfl) (by rfl) X.num.1 (by rfl) (evl_cons (by rfl) (ev_pe X.B s4 2 (by rfl)) evl_nil) (numbers_ok X.B X.num.2 (s6.mono (by decide)) ns hns)
  generalize numF ns = n at *
  intro Z
  refine ex_cons st1 (ex_cons (st2_ok n X.B s4 ns) (ex_cons (st3_ok n X.B s4 ns) (ex_cons (st4_ok n X.B s4 ns) (ex_cons (st5_ok n X.B s4 ns) (ex_cons (st6_ok n X.B s4 ns) (ex_cons (st7_ok n X s6 ns) (ex_cons (st8_ok n X s6 ns) ?_)))))))
  refine ex_cons (st9_ok n X.B s4 ns) (ex_cons (st10_ok n X.B s4 ns) (ex_cons (st11_ok n X s6 ns) (ex_cons (st12_ok n X.B s4 ns) (ex_cons (st13_ok n X.B s4 ns) ?_))))
  refine ex_cons (st14_ok n X s4 hdp hu ns) (ex_cons (st15_ok n X s4 hdp hu ns) (ex_cons (st16_ok n X s6 ns) (ex_cons (st17_ok n X s6 ns) (ex_cons (st18_ok n X s6 ns) (ex_cons (st19_ok n X s6 ns) (ex_cons (st20_ok n X s6 ns) (ex_cons (st21_ok n X s6 ns) (ex_cons (st22_ok n X s6 ns) (ex_cons (for_ok n X s6 hdp hu RS ns) ?_)))))))))
  intro Z
  exact ex_stop (ex_return (ev_pe X.B s4 2 (by rfl))) (fun e => nomatch e)
end
end Mine
end
section
namespace Mine
open PySem PyProof.Rows
end Mine
end
section
namespace Mine
open PySem PyProof.Rows
noncomputable abbrev incW : Str := Str.ofString "Inconsistent hierarchy"
noncomputable abbrev sRE : Str := Str.ofString "RuntimeError"
section
variable {prog : Program} {w : World} {P : Pm} {A : Around} {env : Env} {μ : Mu} {n : Nat} {Z : Addr → Prop}
theorem c3_raise (B : Blt P) (hre : P.mg sRE = none ∧ P.mb sRE = some (.type "RuntimeError")) (s4 : Sl 4 A) (ps : Ps) (hs : Seqs μ ps) (hne : ∀ p ∈ ps, p.2 ≠ []) (h0 : ps ≠ []) (hz : ps.length ≤ 100) (hpk : pickF (ps.map (·.2)) = none)
    {s : Shared} {Q : Flow → Shared → Prop} {E1 E2 : Value → Shared → Prop} (p : PreG P n Z env ⟨namesOf (stAt 2), (parsOf (stAt 2)).zip [.lst (ps.map fun p => .mut p.1)]⟩ μ s)
    (o : ∀ h₁ h' e tk tok, 0 < tk → RB P h₁ → s.heap.objs.size ≤ h₁.objs.size → (∀ b ob, b < n → NT b → s.heap.get? b = some ob → h₁.get? b = some ob) → (∃ m, h₁.Ns env.locals m) → Heap.MadeExc h₁ h' e "RuntimeError" [.str incW tok] →
      wpAny (model prog w) A (leaving env (.ref e)) (fun _ s'' => E1 (.ref e) s'') E2 (up s h' tk)) :
    wpAny (model prog w) A (execs (bodyOf (stAt 2)) env) Q (fun e s' => wpAny (model prog w) A (leaving env e) (fun _ s'' => E1 e s'') E2 s') s := by
  refine wpAny_execs_cons (gx_assign_new (k := .local) (l := []) (q := []) (Post := fun v m r => r = .next ∧ ∃ aR, v = (Str.ofString "result", .mut aR) :: (parsOf (stAt 2)).zip [.lst (ps.map fun p => .mut p.1)] ∧ Seqs m ps) (by rfl) (.inl rfl) (ev_pe B s4 6 (by rfl)) (by rfl) (by rfl) (fun a ha => ?_) s _ _ p fun f h' tk Z' v m r hp' pr k z rf => ?_)
  · have hna : a ∉ ps.map (·.1) := fun q => by
      obtain ⟨p, hp, e⟩ := List.mem_map.mp q
      have := hs.at' p hp
      rw [e, ha] at this; cases this
    exact ⟨rfl, a, rfl, ⟨fun p hp => by rw [updM_ne (fun e => hna (by rw [← e]; exact List.mem_map_of_mem hp))]; exact hs.at' p hp, hs.nd, hs.sm⟩⟩
  obtain ⟨rfl, aR, rfl, hs1⟩ := hp'
  cases rf
  have pr1 : Pre P Z' env ⟨namesOf (stAt 2), c3v ps aR⟩ m (up s h' tk) := ⟨pr.pre.rb, pr.pre.ht, pr.pre.hz, pr.pre.mo, pr.pre.fo.drop (c3v_sub (by rfl) (by rfl))⟩
  refine wpAny_execs_cons (wpAny_While (codeAny_whileLoop (fun _ s' => s' = (up s h' tk)) ?_ 0 rfl))
  rintro _ _ rfl
  refine (@evb_val prog w P A env ⟨namesOf (stAt 2), c3v ps aR⟩ m _ _ true ev_bool (by rfl) (by rfl)) _ _ _ pr1 fun h₁ tk₁ tp₁ e₁ rb₁ => ?_
  simp only [if_true]
  refine wpAny_passesOwn PassesOwn.leaving ?_
  have p2 := pr1.next tp₁ e₁ rb₁
  refine wpAny_execs_cons (c3_first B s4 hs1 hz _ _ _ p2 fun f h2 tk2 tp2 k2 rb2 fo2 rf2 => ?_)
  cases rf2
  have eq : ps.filter (fun p => !p.2.isEmpty) = ps := List.filter_eq_self.mpr fun p hp => by
    have := hne p hp
    cases h : p.2 with
    | nil => exact absurd h this
    | cons _ _ => rfl
  rw [eq] at fo2
  have p3 := p2.nextS tp2 k2 rb2 (fo2.drop (vars' := c3v ps aR) (c3v_sub (by rfl) (by rfl)))
  have ht := @c3_empty prog w P A env B s4 m ps aR
  rw [show ps.isEmpty = false by cases ps with | nil => exact absurd rfl h0 | cons _ _ => rfl] at ht
  refine wpAny_execs_cons ((@ex_if prog w P A env _ _ m _ _ _ _ false (c3v ps aR) .next ht (fun q => nomatch q) (fun _ => ex_nil)) _ _ _ p3 fun f h3 tk3 tp3 k3 rb3 fo3 rf3 => ?_)
  cases rf3
  have p4 := p3.nextS tp3 k3 rb3 fo3
  refine wpAny_execs_cons (c3_for B s4 ps aR hs1 hne h0 _ _ _ p4 fun f h4 tk4 tp4 k4 rb4 fo4 rf4 => ?_)
  cases rf4
  rw [hpk] at fo4
  have p5 := p4.nextS tp4 k4 rb4 fo4
  refine wpAny_execs_cons (wpAny_If ((@ev_pb prog w P A env ⟨namesOf (stAt 2), (Str.ofString "candidate", candT none) :: c3v ps aR⟩ m B s4 4 _ true (by rfl)) _ _ _ p5 fun h5 tk5 tp5 k5 rb5 => ?_))
  simp only [if_true]
  have p6 := p5.next tp5 k5 rb5
  have kk : Keep (XE env) h' h5 := (((e₁.weak.trans k2).trans k3).trans k4).trans k5.weak
  have ek : env.kindOf sRE = some .globalImplicit := by unfold Env.kindOf; rw [p6.fo.names]; rfl
  refine wpAny_execs_cons (Raise_madeB PySem.F.excCall_RuntimeError PySem.F.excRaise_RuntimeError s4.1 (Calls.Name_function_global p6.fo.kind ek (Calls.loadGlobal_builtin (mg := P.mg) (mb := P.mb) (by rw [p6.fo.glob]; exact p6.rb.glob) hre.1 (by rw [p6.fo.blt]; exact p6.rb.blt) hre.2 ⟨rfl, ?_⟩) (by rfl)) (by rfl) (by rfl))
  rw [star_cons (by rfl) env, back_cons]
  refine Calls.spliced_cons ((@ev_pe prog w P A env ⟨namesOf (stAt 2), (Str.ofString "candidate", candT none) :: c3v ps aR⟩ m B s4 2 _ (.sc (.str incW)) (by rfl)) _ _ _ p6 fun v h6 tk6 tp6 k6 rb6 rv => Calls.spliced_nil ⟨(by show 1 ≤ sizeLine; rw [sizeLine_eq]; decide), fun h7 e M => ?_⟩)
  cases rv with
  | sc q =>
    cases q with
    | str _ t =>
      have p7 := p6.next tp6 k6 rb6
      obtain ⟨mm, hn, _⟩ := p7.fo.loc
      refine o h6 h7 e tk6 t tp6 rb6 (Nat.le_trans k.size (Nat.le_trans kk.size k6.size)) (fun b ob hb nt e => ?_) ⟨mm, hn⟩ M
      have nx : b ∉ XE env := fun hm => absurd (p.frm b hm) (Nat.not_le.mpr hb)
      exact k6.keep b ob (kk.keep b ob (k.keep b ob e nt (.inl hb) fun hm => absurd hm nx) nt fun hm => absurd hm nx) nt fun hm => nomatch hm
end
end Mine
end
section
namespace Mine
open PySem PyProof.Rows
theorem ns_obj {h : Heap} {a : Addr} {m : Str → Option Value} (x : h.Ns a m) : ∃ o, h.get? a = some o ∧ FO o := by
  obtain ⟨o, es, ep, ho, hd, _⟩ := x
  exact ⟨o, ho, .inl ⟨_, _, hd⟩⟩
theorem fo_nf {o : Obj} (x : FO o) : ∀ vs, o.data ≠ .fields vs := fun vs q => by
  rcases x with ⟨_, _, e⟩ | ⟨_, e⟩ <;> (rw [q] at e; cases e)
/-- after a refusal: the old heap, but for three frames -/
theorem rb_frames {P : Pm} {h h' : Heap} (rb : RB P h) {a b c : Addr} (ha : ∃ o, h.get? a = some o ∧ FO o) (hb : ∃ o, h.get? b = some o ∧ FO o) (hc : ∃ o, h.get? c = some o ∧ FO o) (la : 100 ≤ a) (lb : 100 ≤ b) (lc : 100 ≤ c) (sz : 100 ≤ h'.objs.size)
    (k : ∀ d o, h.get? d = some o → d ≠ a → d ≠ b → d ≠ c → h'.get? d = some o) : RB P h' := by
  have low : ∀ d o, d < 100 → h.get? d = some o → h'.get? d = some o := fun d o hd e => k d o e (Nat.ne_of_lt (Nat.lt_of_lt_of_le hd la)) (Nat.ne_of_lt (Nat.lt_of_lt_of_le hd lb)) (Nat.ne_of_lt (Nat.lt_of_lt_of_le hd lc))
  refine ⟨fun d o l n e => low d o l (rb.base d o l n e), ?_, sz⟩
  obtain ⟨o1, o2, g1, g2, _⟩ := rb.tb
  have ne : ∀ {x d : Addr} {o : Obj}, (∃ o, h.get? x = some o ∧ FO o) → h.get? d = some o → ¬ Soft o → d ≠ x := fun hx e ns q => by
    obtain ⟨o', e', f⟩ := hx
    rw [q, e'] at e; cases e
    exact ns (.inl f)
  exact rb.tabs.mono ((low 16 _ (by decide) g1).trans g1.symm) ((low 54 _ (by decide) g2).trans g2.symm) fun d o e ns _ => k d o e (ne ha e ns) (ne hb e ns) (ne hc e ns)
section
variable {prog : Program} {w : World} {P : Pm} {A : Around} {env : Env} {μ : Mu} {n : Nat} {Z : Addr → Prop}
theorem nil_str : ∃ q1 q2 q3 q4 q5 q6 q7 q8 q9 : Pos, ∃ b : List Stmt, bodyOf (stAt 12) = [.Try b [.ExceptHandler (some (.Name sRE q1)) (some (Str.ofString "refusal")) [.Return (some (.List [.Call (.Name (Str.ofString "str") q2) [.Name (Str.ofString "refusal") q3] [] q4] q5)) q6] q7] [] [] q8] := ⟨_, _, _, _, _, _, _, _, ⟨0, 0, 0, 0⟩, _, rfl⟩
/-- the clause that tells the refusal -/
theorem refused (s4 : Sl 4 A) (hre : P.mg sRE = none ∧ P.mb sRE = some (.type "RuntimeError")) (hst : P.mg (Str.ofString "str") = none ∧ P.mb (Str.ofString "str") = some (.type "str")) {env : Env} {base : Heap} {outer : List Env} {h7 : Heap} {g : Array GenState} {d : Drawn} {tk : Nat} {os : OsState} {e t : Addr} {tok : Tok} {q1 q2 q3 q4 q5 q6 q7 : Pos}
    {Q : Flow → Shared → Prop} {E : Value → Shared → Prop} (hk : env.scope.kind = .function) (hg : env.globals = mainGlobals) (hb : env.builtins = builtinsNs) (hn : env.scope.names = namesOf (stAt 12)) {m : Str → Option Value} (ns : h7.Ns env.locals m) (h100 : 100 ≤ env.locals)
    (hl : base.get? env.locals = none) (low : ∀ h', base.StaysIn h' → h'.Ns mainGlobals P.mg ∧ h'.Ns builtinsNs P.mb) (FW : Heap.FlyingW base outer e (.type "RuntimeError") (.ref t) h7) (TA : h7.TupAt t [.str incW tok]) (tn : base.get? t = none)
    (o : ∀ h' D h8, base.StaysIn h' → h'.PlainList D #[.str incW tok] → h7.UpToSlots h8 → env.locals < h'.objs.size → (∀ b ob, b ≠ env.locals → h8.get? b = some ob → h'.get? b = some ob) → env.locals < D → Q (.ret (.ref D)) ⟨h', g, d, tk + 2, os⟩) :
    wpAny (model prog w) A (handleBy (.ref e) env [.ExceptHandler (some (.Name sRE q1)) (some (Str.ofString "refusal")) [.Return (some (.List [.Call (.Name (Str.ofString "str") q2) [.Name (Str.ofString "refusal") q3] [] q4] q5)) q6] q7]) Q E ⟨h7, g, d, tk, os⟩ := by
  have ek1 : env.kindOf sRE = some .globalImplicit := by unfold Env.kindOf; rw [hn]; rfl
  have ek2 : env.kindOf (Str.ofString "str") = some .globalImplicit := by unfold Env.kindOf; rw [hn]; rfl
  have ek3 : env.kindOf (Str.ofString "refusal") = some .local := by unfold Env.kindOf; rw [hn]; rfl
  have hp : (env.scope.kind == .class || (env.scope.kind == .module && env.locals != env.globals)) = false := by rw [hk]; rfl
  obtain ⟨g7, b7⟩ := low _ FW.1
  refine wpAny_handleBy_builtin_as (X := "RuntimeError") (T := "RuntimeError") (b := true) PySem.F.isExc_RuntimeError PySem.F.notTuple_RuntimeError (by rw [isSubtype_type]; kernel_rfl)
    (Calls.Name_function_global hk ek1 (Calls.loadGlobal_builtin (mg := P.mg) (mb := P.mb) (by rw [hg]; exact g7) hre.1 (by rw [hb]; exact b7) hre.2 ⟨rfl, FW.there, ?_⟩) (by rfl))
  rw [if_pos rfl]
  refine lands_againW FW fun h8 FW8 U8 => ?_
  refine wpAny_storeName_local ek3 (U8.ns ns) (fun h9 ns9 sb9 => ?_) hp
  have st9 : base.StaysIn h9 := fun b ob q => (sb9.2 b (fun x => by rw [x, hl] at q; cases q)).trans (FW8.1 b ob q)
  obtain ⟨g9, b9⟩ := low _ st9
  obtain ⟨oe, ws, hoe, hoec, hoed, hoe0⟩ := FW8.first
  obtain ⟨ot, nt, hot, hotc, hotd⟩ := TA.of_slots U8
  obtain ⟨oL, esL, epL, hoL, hdL, _⟩ := U8.ns ns
  have ne : e ≠ env.locals := fun q => by rw [q, hoL] at hoe; cases hoe; rw [hdL] at hoed; cases hoed
  have nt' : t ≠ env.locals := fun q => by rw [q, hoL] at hot; cases hot; rw [hdL] at hotd; cases hotd
  refine wpAny_execs_cons (wpAny_Return_some (wpAny_List ?_))
  rw [star_cons (by rfl) env, back_cons]
  refine Calls.spliced_cons (call_arm (Calls.Name_function_global hk ek2 (Calls.loadGlobal_builtin (mg := P.mg) (mb := P.mb) (by rw [hg]; exact g9) hst.1 (by rw [hb]; exact b9) hst.2 ?_) (by rfl)))
  refine PyProof.Rows.callWith_type1 ?_ (star_cons (by rfl) env) (by rfl)
  rw [star_cons (by rfl) env, back_cons]
  refine Calls.spliced_cons (wpAny_Name (wpAny_loadName_local hk ek3 ns9 (v := .ref e) (by simp) ?_) (by rfl))
  refine Calls.spliced_nil ?_
  have x1 : h9.ExcAt e "RuntimeError" (.ref t) := ⟨oe, ws, (sb9.2 e ne).trans hoe, hoec, hoed, hoe0⟩
  have x2 : h9.TupAt t [.str incW tok] := ⟨ot, nt, (sb9.2 t nt').trans hot, hotc, hotd⟩
  have hu : (A.mark (some (.ref e))).units + 2 < cLine := by have := s4.2.2; show A.units + 2 < 9900; omega
  refine PySem.P.str_of_exc_one (s := ⟨h9, g, d, tk + 1, os⟩) PySem.F.excStr_RuntimeError hu x1 x2 ?_
  refine Calls.spliced_nil ⟨(by show 1 ≤ sizeLine; rw [sizeLine_eq]; decide), ?_⟩
  have kp : ∀ b ob, h9.get? b = some ob → (h9.push { cls := .type "list", data := .seq ([Value.str incW tok] : List Value).toArray }).get? b = some ob := fun b ob q => Heap.get?_push_of_some _ q
  have ns10 := ns_keeps ns9 fun ob q => kp _ ob q
  refine wpAny_nameGoes ek3 ns10 hp fun h11 m' ns11 sb11 => ?_
  have hD : h9.objs.size ≠ env.locals := Nat.ne_of_gt ns9.lt
  refine o h11 h9.objs.size h8 (fun b ob q => (sb11.2 b (fun x => by rw [x, hl] at q; cases q)).trans (kp _ _ (st9 b ob q))) ⟨_, (sb11.2 _ hD).trans (Heap.get?_push_size h9 rfl)⟩ U8 ns11.lt (fun b ob hb q => (sb11.2 b hb).trans (kp _ _ ((sb9.2 b hb).trans q))) ns9.lt
end
end Mine
end
section
namespace Mine
open PySem PyProof.Rows
open PySem.W (hideAll hideAll_get hideAll_none of_hideAll)
theorem pick_two {x y : Nat} (h : x ≠ y) : pickF [[x, y], [y, x]] = none := by
  unfold pickF okHead
  simp [List.find?, Ne.symm h, h]
section
variable {prog : Program} {w : World} {P : Pm} {A : Around} {a c : Addr}
theorem merged_raise (B : Blt P) (F : FnI P a 12) (hg : P.mg (Str.ofString "_c3_merge") = some (.ref c)) (Fc : FnI P c 2) (hre : P.mg sRE = none ∧ P.mb sRE = some (.type "RuntimeError")) (hst : P.mg (Str.ofString "str") = none ∧ P.mb (Str.ofString "str") = some (.type "str")) (sl : Sl 6 A)
    {env : Env} (hfr : A.frames = some [env]) (hf : env.frame = some env.locals) {Z : Addr → Prop} {fm : Fm} {s : Shared} {Q : Value → Shared → Prop} {E : Value → Shared → Prop} {v : Value} {x y : Nat} (hxy : x ≠ y) (p : Pre P Z env fm m0 s) (rv : RT Z s.heap v (.lst [tns [x, y], tns [y, x]]))
    (o : ∀ u h' tk, 0 < tk → Keep (XE env) s.heap h' → RB P h' → FrmOk Z env fm h' → RT Z h' u (.lst [.sc (.str incW)]) → Q u (up s h' tk)) :
    wpAny (model prog w) A (call (.ref a) [v]) Q E s := by
  obtain ⟨fd, F⟩ := F
  obtain ⟨fdc, Fc⟩ := Fc
  refine call_in F sl.room rfl p.rb p.ht (fun _ _ e => nomatch e) p.hz (μ := m0) (.cons rv .nil) fun env1 h1 tk1 L1 f1 X1 z1 k1 p1 => ?_
  have s5 : Sl 5 (A.deeper env1) := sl.deeper env1
  have s4 : Sl 4 (A.deeper env1) := s5.mono (by decide)
  refine wpAny_execs_cons (wpAny_Try_except (wpAny_execs_cons (wpAny_Return_some ?_)))
  obtain ⟨oc, go, hd⟩ := Fc.obj
  have ek : env1.kindOf (Str.ofString "_c3_merge") = some .globalImplicit := by unfold Env.kindOf; rw [p1.fo.names]; rfl
  refine call_arm (Calls.Name_function_global p1.fo.kind ek (Calls.loadGlobal_global (mg := P.mg) (by rw [p1.fo.glob]; exact p1.rb.glob) hg ?_) (by rfl))
  refine PyProof.Rows.callWith_def hd ?_ (star_cons (by rfl) env1)
  rw [star_cons (by rfl) env1, back_cons]
  refine Calls.spliced_cons ?_
  refine comp_fresh (fm := ⟨namesOf (stAt 12), List.zip (parsOf (stAt 12)) [.lst ([[x, y], [y, x]].map tns)]⟩) (src := .lst ([[x, y], [y, x]].map tns)) (items := [[x, y], [y, x]].map tns) id s4.1 (fun _ _ => rfl) (by rfl) (by rfl) (ev_pe B s4 2 (by rfl)) (by rfl) (by simp) ?_ p1 ?_
  · -- list(line)
    intro it hit cenv Z s Q E p o
    obtain ⟨g, hgm, rfl⟩ := List.mem_map.mp hit
    have ek : cenv.kindOf (Str.ofString "list") = some .globalImplicit := by unfold Env.kindOf; rw [p.fo.names]; rfl
    refine call_arm (Calls.Name_function_global p.fo.kind ek (Calls.loadGlobal_builtin (mg := P.mg) (mb := P.mb) (by rw [p.fo.glob]; exact p.rb.glob) B.list.1 (by rw [p.fo.blt]; exact p.rb.blt) B.list.2 ?_) (by rfl))
    refine PyProof.Rows.callWith_type1 ?_ (star_cons (by rfl) cenv) (by rfl)
    rw [star_cons (by rfl) cenv, back_cons]
    refine Calls.spliced_cons ((ev_pe (μ := m0) B s4 2 (r := tns g) (by rfl)) s _ E p fun v h' tk tp k rb rv => Calls.spliced_nil ?_)
    cases rv with
    | lst na pl pr hl =>
      rename_i ad vs
      obtain ⟨n, pl⟩ := pl
      refine with_size (Nat.le_refl _) (call_list_seq ad (.inl rfl) pl rfl rfl (fun h₂ c' hk hD sz => ?_) (by rw [List.size_toArray, paired_len pr, sizeLine_eq]; omega))
      have k2 : Keep [] h' h₂ := .all sz hk
      refine o _ h₂ tk tp (k.trans k2) (rb.keeps sz hk) k.size (Heap.lt_size hD) ?_
      exact .lst (fun q => absurd (Nat.lt_of_lt_of_le (p.hz _ q) k.size) (Nat.lt_irrefl _)) ⟨c', hD⟩ (paired_mono (fun a b r => RT.mono k2 rb.tb b a r) pr) hl
  · intro D as h' tk tp k rb pl hD hnd has pr
    refine Calls.spliced_nil ⟨rb.base _ oc Fc.lt Fc.nt go, ?_⟩
    rw [List.map_id] at pr
    generalize hgs : [[x, y], [y, x]] = gs at *
    have hlen : as.length = gs.length := by have := paired_len pr; simpa using this
    have prz := paired_unmap pr
    have nd := List.nodup_cons.mp hnd
    have e1 : (as.zip gs).map (·.1) = as := zip_fst hlen
    have e2 : (as.zip gs).map (·.2) = gs := zip_snd hlen
    have atp : ∀ q ∈ as.zip gs, (as.zip gs).lookup q.1 = some q.2 := fun q hq => lookup_nodup (by rw [e1]; exact nd.2) hq
    have hmem : ∀ b, b ∈ as → ∃ g, (as.zip gs).lookup b = some g := fun b hb => by
      rw [← e1] at hb
      obtain ⟨q, hq, rfl⟩ := List.mem_map.mp hb
      exact ⟨_, atp q hq⟩
    have hmem2 : ∀ b g, (as.zip gs).lookup b = some g → (b, g) ∈ as.zip gs := fun b g e => lookup_mem e
    have hg2 : ∀ g ∈ gs, g.length ≤ 8 ∧ g ≠ [] := fun g hg => by
      rw [← hgs] at hg
      simp only [List.mem_cons, List.not_mem_nil, or_false] at hg
      rcases hg with rfl | rfl <;> exact ⟨by simp, by simp⟩
    have seqs : Seqs (fun b => ((as.zip gs).lookup b).map fun g => g.map tn) (as.zip gs) :=
      ⟨fun q hq => by simp only [atp q hq]; rfl, by rw [e1]; exact nd.2, fun q hq => (hg2 _ (List.of_mem_zip hq).2).1⟩
    have len2 : gs.length = 2 := by rw [← hgs]; rfl
    have mo : MuOk (fun b => Z b ∨ b ∈ as) (fun b => ((as.zip gs).lookup b).map fun g => g.map tn) h' := by
      intro b l e
      dsimp only at e
      cases hl : (as.zip gs).lookup b with
      | none => rw [hl] at e; cases e
      | some g =>
        rw [hl] at e
        cases e
        have hm := hmem2 b g hl
        have hba : b ∈ as := (List.of_mem_zip hm).1
        have r := paired_zip prz _ hm
        cases r with
        | lst na pl pr hl => exact ⟨Nat.le_trans p1.rb.big (has b hba), _, pl, scs_tn pr, hl⟩
    have hz' : Hz (fun b => Z b ∨ b ∈ as) h' := by
      intro b q
      rcases q with q | q
      · exact Nat.lt_of_lt_of_le (p1.hz b q) k.size
      · obtain ⟨g, e⟩ := hmem b q
        have r := paired_zip prz _ (hmem2 b g e)
        cases r with
        | lst na pl pr hl => obtain ⟨_, g⟩ := pl; exact Heap.lt_size g
    have px : Paired (RT (fun b => Z b ∨ b ∈ as) h') [Value.ref D] [T.lst ((as.zip gs).map fun p => .mut p.1)] := by
      refine .cons (.lst ?_ pl ?_ ?_) .nil
      · intro q
        rcases q with q | q
        · exact absurd (p1.hz D q) (Nat.not_lt.mpr hD)
        · exact nd.1 q
      · have := paired_mut (Z := fun b => Z b ∨ b ∈ as) (h := h') (as.zip gs)
        rw [e1] at this
        exact this
      · rw [List.length_map, List.length_zip]; omega
    refine call_in (Z := fun b => Z b ∨ b ∈ as) (μ := fun b => ((as.zip gs).lookup b).map fun g => g.map tn) (Ts := [.lst ((as.zip gs).map fun p => .mut p.1)]) Fc s5.room rfl rb tp mo hz' px fun env2 h2 tk2 L2 f2 X2 z2 k2 p2 => ?_
    refine c3_raise (n := h1.objs.size) B hre (s5.deeper env2) (as.zip gs) seqs (fun q hq => (hg2 _ (List.of_mem_zip hq).2).2) (fun q => by have := congrArg List.length e2; rw [q, len2] at this; cases this) (by rw [List.length_zip]; omega) (by rw [e2, ← hgs]; exact pick_two hxy)
      ⟨p2, ?_, ?_, fun b hb => Nat.le_trans k.size (X2 b hb), p1.rb.big, Nat.le_trans k.size z2⟩ fun h3 h4 e tk3 tok tp3 rb3 sz3 k3 ⟨m2, hn2⟩ M => ?_
    · intro b l e
      cases hl : (as.zip gs).lookup b with
      | none => rw [hl] at e; cases e
      | some g =>
        have hba := (List.of_mem_zip (hmem2 b g hl)).1
        exact ⟨.inr hba, has b hba⟩
    · intro b q hb
      rcases q with q | q
      · exact absurd (p1.hz b q) (Nat.not_lt.mpr hb)
      · obtain ⟨g, e⟩ := hmem b q
        exact ⟨g.map tn, by rw [e]; rfl⟩
    have up : ∀ b ob, b < h1.objs.size → NT b → h1.get? b = some ob → h3.get? b = some ob := fun b ob hb nt q => k3 b ob hb nt (k2 b ob (k.keep b ob q nt fun hm => nomatch hm))
    have up0 : ∀ b ob, NT b → s.heap.get? b = some ob → h3.get? b = some ob := fun b ob nt q => up b ob (Heap.lt_size (k1 b ob q)) nt (k1 b ob q)
    obtain ⟨m0', n0, hm0⟩ := p.fo.loc
    obtain ⟨m1, n1, _⟩ := p1.fo.loc
    have nt0 : NT env.locals := nt_hi p.fo.hi
    have nt1 : NT env1.locals := nt_hi p1.fo.hi
    have n0' : h3.Ns env.locals m0' := ns_keeps n0 fun ob q => up0 _ ob nt0 q
    have n1' : h3.Ns env1.locals m1 := ns_keeps n1 fun ob q => up _ ob n1.lt nt1 q
    obtain ⟨o0, g0, fo0⟩ := ns_obj n0'
    obtain ⟨o1, g1, fo1⟩ := ns_obj n1'
    obtain ⟨o2, g2, fo2⟩ := ns_obj hn2
    have mem : ∀ x ∈ [env2.locals, env1.locals, env.locals], (hideAll h3 [env2.locals, env1.locals, env.locals]).get? x = none := fun x hx => hideAll_none _ hx
    have ff : h3.FunFrames (hideAll h3 [env2.locals, env1.locals, env.locals]) [env2, env1, env] :=
      ⟨by rw [p2.fo.kind]; decide, ⟨_, o2, f2, mem _ (by simp), g2, fo_nf fo2⟩, by rw [p1.fo.kind]; decide, ⟨_, o1, f1, mem _ (by simp), g1, fo_nf fo1⟩, by rw [p.fo.kind]; decide, ⟨_, o0, hf, mem _ (by simp), g0, fo_nf fo0⟩, trivial⟩
    have fr1 : (A.deeper env1).frames = some [env1, env] := Around.frames_deeper hfr
    refine wpAny_leaves_madeW (base := hideAll h3 [env2.locals, env1.locals, env.locals]) (Around.frames_deeper fr1) f2 (fun b ob q => of_hideAll _ q) ff M.of fun h5 t FW TA bt U => ?_
    refine wpAny_looks_onW fr1 f1 FW fun h6 HW U6 => ?_
    refine wpAny_landsW HW fun h7 FW7 U7 => ?_
    have U37 : h3.UpToSlots h7 := (Heap.UpToSlots.of_keeps M.keeps).trans ((U.trans U6).trans U7)
    have st : ∀ {h : Heap}, (hideAll h3 [env2.locals, env1.locals, env.locals]).StaysIn h → ∀ b ob, h3.get? b = some ob → b ≠ env.locals → b ≠ env1.locals → b ≠ env2.locals → h.get? b = some ob := fun sx b ob q x y z => sx b ob (hideAll_get _ q (by simp only [List.mem_cons, List.not_mem_nil, or_false]; rintro (q | q | q) <;> contradiction))
    refine refused (base := hideAll h3 [env2.locals, env1.locals, env.locals]) s4 hre hst p1.fo.kind p1.fo.glob p1.fo.blt p1.fo.names (U37.ns n1') p1.fo.hi (mem _ (by simp)) (fun hh sx => ?_) FW7 ((TA.of_slots U6).of_slots U7) bt fun h9 D h8 sx pD U8 lt9 kp hD1 => ?_
    · exact ⟨ns_keeps rb3.glob fun ob q => st sx _ ob q (Nat.ne_of_lt (Nat.lt_of_lt_of_le (by decide) p.fo.hi)) (Nat.ne_of_lt (Nat.lt_of_lt_of_le (by decide) p1.fo.hi)) (Nat.ne_of_lt (Nat.lt_of_lt_of_le (by decide) p2.fo.hi)),
        ns_keeps rb3.blt fun ob q => st sx _ ob q (Nat.ne_of_lt (Nat.lt_of_lt_of_le (by decide) p.fo.hi)) (Nat.ne_of_lt (Nat.lt_of_lt_of_le (by decide) p1.fo.hi)) (Nat.ne_of_lt (Nat.lt_of_lt_of_le (by decide) p2.fo.hi))⟩
    · have lt2 : s.heap.objs.size ≤ env2.locals := Nat.le_trans z1 (Nat.le_trans k.size (Nat.le_of_eq L2.symm))
      have szf : s.heap.objs.size ≤ h9.objs.size := by rw [← L1]; exact Nat.le_of_lt lt9
      have old : ∀ b ob, NT b → s.heap.get? b = some ob → b ≠ env.locals → h9.get? b = some ob := fun b ob nt q hb =>
        st sx b ob (up0 b ob nt q) hb (Nat.ne_of_lt (by rw [L1]; exact Heap.lt_size q)) (Nat.ne_of_lt (Nat.lt_of_lt_of_le (Heap.lt_size q) lt2))
      obtain ⟨os, gs0, fos⟩ := ns_obj n0
      have K : Keep (XE env) s.heap h9 := ⟨szf, fun b ob q nt hx => old b ob nt q fun e => hx (by rw [e]; exact List.mem_cons_self ..) (by rw [e, gs0] at q; cases q; exact fos)⟩
      have ne01 : env.locals ≠ env1.locals := Nat.ne_of_lt (by rw [L1]; exact n0.lt)
      refine o (.ref D) h9 _ (Nat.succ_pos _) K (rb_frames rb3 ⟨o0, g0, fo0⟩ ⟨o1, g1, fo1⟩ ⟨o2, g2, fo2⟩ p.fo.hi p1.fo.hi p2.fo.hi (Nat.le_trans p.rb.big szf) fun d ob q x y z => st sx d ob q x y z)
        ⟨p.fo.kind, p.fo.names, p.fo.glob, p.fo.blt, p.fo.hi, ⟨m0', ns_keeps ((U37.trans U8).ns n0') fun ob q => kp _ ob ne01 q, fun x y a b => ?_⟩, fun x kx => ?_, p.fo.inj⟩ (.lst (fun q => ?_) pD (.cons (.sc (.str _ _)) .nil) (by decide))
      · obtain ⟨v, e, q⟩ := hm0 x y a b
        exact ⟨v, e, q.mono K p.rb.tb⟩
      · obtain ⟨c, ov, a, ⟨oc, gc, dc⟩, d, q⟩ := p.fo.cel x kx
        refine ⟨c, ov, a, ⟨oc, old c oc (nt_hi d) gc fun e => ?_, dc⟩, d, fun y z => ?_⟩
        · obtain ⟨o', es, ep, ho', hd', _⟩ := n0
          rw [e, ho'] at gc; cases gc
          rw [hd'] at dc; cases dc
        · obtain ⟨v, p', q⟩ := q y z
          exact ⟨v, p', q.mono K p.rb.tb⟩
      · have := p.hz D q
        rw [← L1] at this
        exact absurd this (Nat.not_lt.mpr (Nat.le_of_lt hD1))
end
end Mine
end
section
namespace Mine
open PySem PyProof.Rows
section
variable {prog : Program} {w : World} {P : Pm} {A : Around}
theorem law_ok (X : LB P) (F : FnI P 98 16) (hre : P.mg sRE = none ∧ P.mb sRE = some (.type "RuntimeError")) (hst : P.mg (Str.ofString "str") = none ∧ P.mb (Str.ofString "str") = some (.type "str")) (sl : Sl 7 A) (hdp : A.depth + 1 ≤ 310) (hu : A.units + 3 ≤ 3000) (hfr : A.frames = some [])
    {ns : List Int} (hns : ns.length ≤ 63) {s : Shared} {Q : Value → Shared → Prop} {E : Value → Shared → Prop} {v : Value} (rb : RB P s.heap) (ht : 0 < s.toks) (rv : RT (fun _ => False) s.heap v (tis ns))
    (o : ∀ h' tk, (∀ b ob, s.heap.get? b = some ob → NT b → h'.get? b = some ob) → s.heap.objs.size ≤ h'.objs.size → RB P h' → Q (.bool true) (up s h' tk)) : wpAny (model prog w) A (call (.ref 98) [v]) Q E s := by
  obtain ⟨fd, F⟩ := F
  refine call_in (μ := m0) F sl.room rfl rb ht (fun _ _ e => nomatch e) (fun _ q => q.elim) (.cons rv .nil) fun env h1 tk1 L1 f1 X1 z1 k1 p1 => ?_
  have s6 : Sl 6 (A.deeper env) := sl.deeper env
  refine law_body X s6 hdp hu (fun Z fm s Q E v x y hxy p rv o => merged_raise X.B X.mer.2 X.c3.1 X.c3.2 hre hst s6 (Around.frames_deeper hfr) f1 hxy p rv o) ns hns _ _ _ p1 fun f h' tk tp k rb' fo rf => ?_
  cases rf with
  | ret q =>
    cases q with
    | sc q =>
      cases q
      exact o h' tk (fun b ob e nt => k.keep b ob (k1 b ob e) nt fun hm => absurd (Heap.lt_size e) (Nat.not_lt.mpr (X1 b hm))) (Nat.le_trans z1 k.size) rb'
end
end Mine
end
section
namespace Mine
open PySem PyProof.Rows PySem.Builtin PySem.Calls
open PySem.W (CodeHd Frag nsIn)
theorem ns_of {K : Frag} {h : Heap} {a : Addr} {m : Str → Option Value} {n : Str} {r : Option Value} (X : K.In h) (G : h.Ns a m) (e : nsIn K a n = some r) : m n = r := by
  obtain ⟨o, es, ep, ho, hd, sk, hf⟩ := G
  unfold nsIn at e
  split at e
  · rename_i c d es' n' sl q
    have := X _ _ q
    rw [ho] at this
    cases this
    cases hd
    rw [← hf]
    unfold nsFind findBy
    rw [← Array.find?_toList]
    split at e
    · rename_i en he
      cases e
      rw [he]; rfl
    · rename_i he
      split at e
      · cases e
      · cases e
        rw [he]; rfl
  · cases e
theorem free_of {nm : List (Str × NameKind)} (h : nm.all (fun p => match p.2 with | .free => false | _ => true) = true) (x : Str) : nm.lookup x ≠ some .free := fun e => by
  have := List.all_eq_true.mp h _ (lookup_mem e)
  exact absurd this Bool.false_ne_true
theorem len_1 {α : Type} {l : List α} (h : l.length = 1) : ∃ a, l = [a] := by
  match l, h with
  | [a], _ => exact ⟨a, rfl⟩
theorem len_2 {α : Type} {l : List α} (h : l.length = 2) : ∃ a b, l = [a, b] := by
  match l, h with
  | [a, b], _ => exact ⟨a, b, rfl⟩
theorem len_3 {α : Type} {l : List α} (h : l.length = 3) : ∃ a b c, l = [a, b, c] := by
  match l, h with
  | [a, b, c], _ => exact ⟨a, b, c, rfl⟩
/-- the closed facts of a function's text -/
structure FnS (i : Nat) : Prop where
  names : (cScope (stAt i)).names = namesOf (stAt i)
  co : (cScope (stAt i)).isCoroutine = false
  gen : (cScope (stAt i)).isGenerator = false
  kind : (cScope (stAt i)).kind = .function
  bind : ∀ (pm cd doc : Value) (vals : List Value), vals.length = (parsOf (stAt i)).length → bindArgs (fdOf i pm cd doc) ⟨vals, []⟩ = pure ((parsOf (stAt i)).zip vals)
  nodup : (parsOf (stAt i)).Nodup
  par : ∀ x ∈ parsOf (stAt i), (namesOf (stAt i)).lookup x = some .local ∨ (namesOf (stAt i)).lookup x = some .cell
  free : (namesOf (stAt i)).all (fun p => match p.2 with | .free => false | _ => true) = true
noncomputable def objK (K : Frag) (a : Addr) : Obj := (K.lookup a).getD { cls := .none, data := .plain }
noncomputable def fnK (o : Obj) : Value × Value := match o.data with | .func fd => (fd.pyModule, fd.doc) | _ => (.none, .none)
noncomputable def vsK (o : Obj) : Array Value := match o.data with | .fields vs => vs | _ => #[]
noncomputable def tokK (v : Value) : Tok := match v with | .str _ t => t | .int _ t => t | _ => 0
theorem fnI_of {P : Pm} {K : Frag} (X : K.In P.H0) (a i c : Nat) (S : FnS i) (lt : a < 100 ∧ c < 100 ∧ NT a ∧ NT c) (e1 : K.lookup a = some (objK K a)) (e2 : (objK K a).data = .func (fdOf i (fnK (objK K a)).1 (.ref c) (fnK (objK K a)).2)) (e3 : K.lookup c = some (objK K c)) (e4 : (objK K c).data = .fields (vsK (objK K c)))
    (e5 : (vsK (objK K c))[1]? = some (.str (fdName (stAt i)) (tokK ((vsK (objK K c)).getD 1 .none)))) : FnI P a i :=
  ⟨fdOf i (fnK (objK K a)).1 (.ref c) (fnK (objK K a)).2, lt.1, lt.2.2.1, ⟨_, X _ _ e1, e2⟩, rfl, rfl, S.names, rfl, rfl, S.co, S.gen, S.kind, ⟨c, _, _, _, rfl, lt.2.1, lt.2.2.2, X _ _ e3, e4, e5⟩, fun vals h => S.bind _ _ _ vals h, S.nodup, S.par, free_of S.free⟩
theorem fs2 : FnS 2 := ⟨by kernel_rfl, by kernel_rfl, by kernel_rfl, by kernel_rfl, fun pm cd doc vals h => by obtain ⟨a, rfl⟩ := len_1 h; kernel_rfl, by decide, by decide, by kernel_rfl⟩
theorem fs4 : FnS 4 := ⟨by kernel_rfl, by kernel_rfl, by kernel_rfl, by kernel_rfl, fun pm cd doc vals h => by obtain ⟨a, b, c, rfl⟩ := len_3 h; kernel_rfl, by decide, by decide, by kernel_rfl⟩
theorem fs5 : FnS 5 := ⟨by kernel_rfl, by kernel_rfl, by kernel_rfl, by kernel_rfl, fun pm cd doc vals h => by obtain ⟨a, b, c, rfl⟩ := len_3 h; kernel_rfl, by decide, by decide, by kernel_rfl⟩
theorem fs6 : FnS 6 := ⟨by kernel_rfl, by kernel_rfl, by kernel_rfl, by kernel_rfl, fun pm cd doc vals h => by obtain ⟨a, b, c, rfl⟩ := len_3 h; kernel_rfl, by decide, by decide, by kernel_rfl⟩
theorem fs8 : FnS 8 := ⟨by kernel_rfl, by kernel_rfl, by kernel_rfl, by kernel_rfl, fun pm cd doc vals h => by obtain ⟨a, rfl⟩ := len_1 h; kernel_rfl, by decide, by decide, by kernel_rfl⟩
theorem fs10 : FnS 10 := ⟨by kernel_rfl, by kernel_rfl, by kernel_rfl, by kernel_rfl, fun pm cd doc vals h => by obtain ⟨a, b, rfl⟩ := len_2 h; kernel_rfl, by decide, by decide, by kernel_rfl⟩
theorem fs11 : FnS 11 := ⟨by kernel_rfl, by kernel_rfl, by kernel_rfl, by kernel_rfl, fun pm cd doc vals h => by obtain ⟨a, b, rfl⟩ := len_2 h; kernel_rfl, by decide, by decide, by kernel_rfl⟩
theorem fs12 : FnS 12 := ⟨by kernel_rfl, by kernel_rfl, by kernel_rfl, by kernel_rfl, fun pm cd doc vals h => by obtain ⟨a, rfl⟩ := len_1 h; kernel_rfl, by decide, by decide, by kernel_rfl⟩
theorem fs13 : FnS 13 := ⟨by kernel_rfl, by kernel_rfl, by kernel_rfl, by kernel_rfl, fun pm cd doc vals h => by obtain ⟨a, b, c, rfl⟩ := len_3 h; kernel_rfl, by decide, by decide, by kernel_rfl⟩
theorem fs14 : FnS 14 := ⟨by kernel_rfl, by kernel_rfl, by kernel_rfl, by kernel_rfl, fun pm cd doc vals h => by obtain ⟨a, b, rfl⟩ := len_2 h; kernel_rfl, by decide, by decide, by kernel_rfl⟩
theorem fs15 : FnS 15 := ⟨by kernel_rfl, by kernel_rfl, by kernel_rfl, by kernel_rfl, fun pm cd doc vals h => by obtain ⟨a, b, c, rfl⟩ := len_3 h; kernel_rfl, by decide, by decide, by kernel_rfl⟩
theorem fs16 : FnS 16 := ⟨by kernel_rfl, by kernel_rfl, by kernel_rfl, by kernel_rfl, fun pm cd doc vals h => by obtain ⟨a, rfl⟩ := len_1 h; kernel_rfl, by decide, by decide, by kernel_rfl⟩
end Mine
end
section
namespace Mine
open PySem PyProof.Rows
open PySem.W (tabObj CodeHd Frag)
theorem ints_rt {Z : Addr → Prop} {h : Heap} : ∀ {vs : List Value} {ns : List Int}, IntsAre vs ns → Paired (RT Z h) vs (ns.map ti)
  | _, _, .nil => .nil
  | _, _, .cons n t r => .cons (.sc (.int n t)) (ints_rt r)
theorem ints_len : ∀ {vs : List Value} {ns : List Int}, IntsAre vs ns → vs.length = ns.length
  | _, _, .nil => rfl
  | _, _, .cons n t r => by rw [List.length_cons, List.length_cons, ints_len r]
theorem old_of {P : Pm} {h h' : Heap} (hG : P.Good = GoodT) (rb : RB P h') (k : ∀ b ob, h.get? b = some ob → NT b → h'.get? b = some ob) (g1 : h.get? 16 = some (tabObj #[])) (g2 : h.get? 54 = some (tabObj #[])) (c1 : isCodeTable h 16) (c2 : isCodeTable h 54) : OldK h h' := by
  have tab : (∃ ps, h'.get? 16 = some (tabObj ps)) ∧ ∃ ps, h'.get? 54 = some (tabObj ps) := by
    rcases tabs_in hG rb with ⟨a, b⟩ | ⟨⟨ps, _, _, _, a, _⟩, ⟨ps2, _, b, _⟩⟩
    · exact ⟨⟨_, a⟩, _, b⟩
    · exact ⟨⟨_, a⟩, _, b⟩
  obtain ⟨⟨p1, t1⟩, ⟨p2, t2⟩⟩ := tab
  refine ⟨fun b o e => ?_, fun b o e => ?_⟩
  · by_cases h1 : b = 16
    · subst h1
      rw [g1] at e; cases e
      exact .inr (.inl ⟨c1, rfl, #[], p1, rfl, by rw [t1]; simp [tabObj]⟩)
    · by_cases h2 : b = 54
      · subst h2
        rw [g2] at e; cases e
        exact .inr (.inl ⟨c2, rfl, #[], p2, rfl, by rw [t2]; simp [tabObj]⟩)
      · exact .inl (k b o e ⟨h1, h2⟩)
  · by_cases h1 : b = 16
    · exact ⟨_, h1 ▸ t1⟩
    · by_cases h2 : b = 54
      · exact ⟨_, h2 ▸ t2⟩
      · exact ⟨o, k b o e ⟨h1, h2⟩⟩
noncomputable def nsV (K : Frag) (a : Addr) (n : Str) : Value := match PySem.W.nsIn K a n with | some (some v) => v | _ => .none
noncomputable def strK (v : Value) : Str := match v with | .str x _ => x | _ => default
noncomputable def intK (v : Value) : Int := match v with | .int x _ => x | _ => 0
noncomputable def bolK (v : Value) : Bool := match v with | .bool x => x | _ => false
theorem hd_of {K : Frag} {h : Heap} (X : K.In h) (c p : Nat) (e1 : K.lookup c = some (objK K c)) (e2 : (objK K c).cls = .type "code") (e3 : (objK K c).data = .fields (vsK (objK K c))) (e4 : (vsK (objK K c))[11]? = some (.ref p)) (e5 : (vsK (objK K c)).getD 11 .none = .ref p)
    (e6 : (vsK (objK K c)).getD 18 .none = .str (strK ((vsK (objK K c)).getD 18 .none)) (tokK ((vsK (objK K c)).getD 18 .none))) (e7 : (vsK (objK K c)).getD 7 .none = .int (intK ((vsK (objK K c)).getD 7 .none)) (tokK ((vsK (objK K c)).getD 7 .none)))
    (e8 : (vsK (objK K c)).getD 9 .none = .bool (bolK ((vsK (objK K c)).getD 9 .none))) (e9 : (vsK (objK K c)).getD 10 .none = .int (intK ((vsK (objK K c)).getD 10 .none)) (tokK ((vsK (objK K c)).getD 10 .none))) (ne : c ≠ p) : CodeHd h c p :=
  ⟨_, _, _, _, _, _, _, _, _, X _ _ e1, e2, e3, e4, e5, e6, e7, e8, e9, ne⟩
theorem hd_tab {h : Heap} {c p : Addr} (x : CodeHd h c p) : isCodeTable h p := by
  obtain ⟨o, vs, _, _, _, _, _, _, _, g, cl, dt, v, _⟩ := x
  exact ⟨c, o, vs, g, cl, dt, v⟩
theorem rb0 {P : Pm} (g1 : P.H0.get? 16 = some (tabObj #[])) (g2 : P.H0.get? 54 = some (tabObj #[])) (sz : 100 ≤ P.H0.objs.size) : RB P P.H0 := by
  have ns : ¬ Soft (tabO #[]) := by rintro ((⟨_, _, q⟩ | ⟨_, q⟩) | q | q | q) <;> cases q
  exact ⟨fun _ _ _ _ e => e, ⟨tabO #[], tabO #[], [], g1, g2, rfl, rfl, ns, ns, fun _ h => absurd h List.not_mem_nil, .inl ⟨rfl, rfl⟩⟩, sz⟩
theorem not_tab {h : Heap} {a b : Addr} {o : Obj} (g : h.get? b = some (tabObj #[])) (e : h.get? a = some o) (c : o.cls = .type "module") : a ≠ b := fun q => by
  rw [q, g] at e; cases e; cases c
end Mine
end
section
namespace Mine
open PySem PyProof.Rows PySem.W PySem.W.X PySem.W.ZRun
/-! the first heap: what is asked of it, and the one run of the text that shows it -/
noncomputable def vw : Program := { PySem.Challenge.pw_mq0197_01 with main := { PySem.Challenge.pw_mq0197_01.main with body := PySem.Challenge.pw_mq0197_01.main.body.filter (fun s => Nat.beq s.ctorIdx 0) } }
noncomputable def fO (i : Nat) (pm : Value) (c : Addr) (doc : Value) : Obj := { cls := .type "function", data := .func (fdOf i pm (.ref c) doc) }
noncomputable def cO (vs : List Value) : Obj := { cls := .type "code", data := .fields vs.toArray }
noncomputable def kF : Frag :=
  [(16, PySem.W.tabObj #[]),
    (54, PySem.W.tabObj #[]),
    (21, fO 1 (.str "cpy313.functools" 187) 20 (.none)),
    (20, cO [.str "cmp_to_key" 189, .str "cmp_to_key" 190, .str "/claim/cut.py" 191, .int 2 0, .int 1 0, .int 0 0, .int 0 0, .int 3 0, .ref 15, .bool true, .int 181 0, .ref 16, .none, .ref 17, .ref 18, .ref 19, .int 195 0, .int 2 0, .str "/claim/cut.py" 196]),
    (26, fO 2 (.str "cpy313.functools" 187) 25 (.none)),
    (25, cO [.str "_c3_merge" 198, .str "_c3_merge" 199, .str "/claim/cut.py" 200, .int 27 0, .int 1 0, .int 0 0, .int 0 0, .int 3 0, .ref 22, .bool true, .int 181 0, .ref 23, .none, .none, .none, .ref 24, .int 201 0, .int 27 0, .str "/claim/cut.py" 202]),
    (33, fO 4 (.str "cpy313.colorsys" 204) 32 (.none)),
    (32, cO [.str "rgb_to_hls" 206, .str "rgb_to_hls" 207, .str "/claim/cut.py" 208, .int 48 0, .int 3 0, .int 0 0, .int 0 0, .int 3 0, .ref 27, .bool true, .int 181 0, .ref 28, .none, .ref 29, .ref 30, .ref 31, .int 222 0, .int 48 0, .str "/claim/cut.py" 223]),
    (40, fO 5 (.str "cpy313.colorsys" 204) 39 (.none)),
    (39, cO [.str "rgb_to_hsv" 225, .str "rgb_to_hsv" 226, .str "/claim/cut.py" 227, .int 71 0, .int 3 0, .int 0 0, .int 0 0, .int 3 0, .ref 34, .bool true, .int 181 0, .ref 35, .none, .ref 36, .ref 37, .ref 38, .int 240 0, .int 71 0, .str "/claim/cut.py" 241]),
    (47, fO 6 (.str "cpy313.colorsys" 204) 46 (.none)),
    (46, cO [.str "hsv_to_rgb" 243, .str "hsv_to_rgb" 244, .str "/claim/cut.py" 245, .int 90 0, .int 3 0, .int 0 0, .int 0 0, .int 3 0, .ref 41, .bool true, .int 181 0, .ref 42, .none, .ref 43, .ref 44, .ref 45, .int 254 0, .int 90 0, .str "/claim/cut.py" 255]),
    (52, fO 8 (.str "law_mq0197_01" 257) 51 (.none)),
    (51, cO [.str "_law_numbers" 259, .str "_law_numbers" 260, .str "/claim/cut.py" 261, .int 112 0, .int 1 0, .int 0 0, .int 0 0, .int 3 0, .ref 48, .bool true, .int 181 0, .ref 49, .none, .none, .none, .ref 50, .int 262 0, .int 112 0, .str "/claim/cut.py" 263]),
    (59, fO 9 (.str "law_mq0197_01" 257) 58 (.none)),
    (58, cO [.str "_law_sorted" 265, .str "_law_sorted" 266, .str "/claim/cut.py" 267, .int 115 0, .int 3 0, .int 0 0, .int 0 0, .int 3 0, .ref 53, .bool true, .int 181 0, .ref 54, .none, .ref 55, .ref 56, .ref 57, .int 274 0, .int 115 0, .str "/claim/cut.py" 275]),
    (64, fO 10 (.str "law_mq0197_01" 257) 63 (.none)),
    (63, cO [.str "_law_counted" 277, .str "_law_counted" 278, .str "/claim/cut.py" 279, .int 120 0, .int 2 0, .int 0 0, .int 0 0, .int 3 0, .ref 60, .bool true, .int 181 0, .ref 61, .none, .none, .none, .ref 62, .int 280 0, .int 120 0, .str "/claim/cut.py" 281]),
    (71, fO 11 (.str "law_mq0197_01" 257) 70 (.none)),
    (70, cO [.str "_law_lines" 283, .str "_law_lines" 284, .str "/claim/cut.py" 285, .int 126 0, .int 2 0, .int 0 0, .int 0 0, .int 3 0, .ref 65, .bool true, .int 181 0, .ref 66, .none, .ref 67, .ref 68, .ref 69, .int 290 0, .int 126 0, .str "/claim/cut.py" 291]),
    (76, fO 12 (.str "law_mq0197_01" 257) 75 (.none)),
    (75, cO [.str "_law_merged" 293, .str "_law_merged" 294, .str "/claim/cut.py" 295, .int 133 0, .int 1 0, .int 0 0, .int 0 0, .int 3 0, .ref 72, .bool true, .int 181 0, .ref 73, .none, .none, .none, .ref 74, .int 296 0, .int 133 0, .str "/claim/cut.py" 297]),
    (81, fO 13 (.str "law_mq0197_01" 257) 80 (.none)),
    (80, cO [.str "_law_ahead" 299, .str "_law_ahead" 300, .str "/claim/cut.py" 301, .int 138 0, .int 3 0, .int 0 0, .int 0 0, .int 3 0, .ref 77, .bool true, .int 181 0, .ref 78, .none, .none, .none, .ref 79, .int 302 0, .int 138 0, .str "/claim/cut.py" 303]),
    (86, fO 14 (.str "law_mq0197_01" 257) 85 (.none)),
    (85, cO [.str "_law_taken" 305, .str "_law_taken" 306, .str "/claim/cut.py" 307, .int 141 0, .int 2 0, .int 0 0, .int 0 0, .int 3 0, .ref 82, .bool true, .int 181 0, .ref 83, .none, .none, .none, .ref 84, .int 308 0, .int 141 0, .str "/claim/cut.py" 309]),
    (93, fO 15 (.str "law_mq0197_01" 257) 92 (.none)),
    (92, cO [.str "_law_agreed" 311, .str "_law_agreed" 312, .str "/claim/cut.py" 313, .int 149 0, .int 3 0, .int 0 0, .int 0 0, .int 3 0, .ref 87, .bool true, .int 181 0, .ref 88, .none, .ref 89, .ref 90, .ref 91, .int 317 0, .int 149 0, .str "/claim/cut.py" 318]),
    (98, fO 16 (.str "law_mq0197_01" 257) 97 (.none)),
    (97, cO [.str "law" 320, .str "law" 321, .str "/claim/cut.py" 322, .int 153 0, .int 1 0, .int 0 0, .int 0 0, .int 3 0, .ref 94, .bool true, .int 181 0, .ref 95, .none, .none, .none, .ref 96, .int 323 0, .int 153 0, .str "/claim/cut.py" 324])]
noncomputable def kAs : List Addr := [16, 54, 21, 20, 26, 25, 33, 32, 40, 39, 47, 46, 52, 51, 59, 58, 64, 63, 71, 70, 76, 75, 81, 80, 86, 85, 93, 92, 98, 97]
noncomputable def gl : List (Str × Option Value) := [(sRange, none), (sLen, none), (sSum, none), (sInt, none), (sList, none), (sMax, none), (sMin, none), ("object", none), ("sorted", none), ("RuntimeError", none), ("str", none), ("cmp_to_key", some (.ref 21)), ("__name__", some (.str "law_mq0197_01" 257)),
  ("hsv_to_rgb", some (.ref 47)), ("rgb_to_hls", some (.ref 33)), ("rgb_to_hsv", some (.ref 40)), ("_law_numbers", some (.ref 52)), ("_law_sorted", some (.ref 59)), ("_law_counted", some (.ref 64)), ("_law_lines", some (.ref 71)), ("_law_merged", some (.ref 76)), ("_law_ahead", some (.ref 81)), ("_law_taken", some (.ref 86)), ("_law_agreed", some (.ref 93)), ("_c3_merge", some (.ref 26)), ("law", some (.ref 98))]
noncomputable def bl : List (Str × Option Value) := [(sRange, some (.type "range")), (sLen, some (.builtin "len")), (sSum, some (.builtin "sum")), (sInt, some (.type "int")), (sList, some (.type "list")), (sMax, some (.builtin "max")), (sMin, some (.builtin "min")), ("object", some (.type "object")), ("sorted", some (.builtin "sorted")), ("__build_class__", some (.builtin "__build_class__")), ("RuntimeError", some (.type "RuntimeError")), ("str", some (.type "str"))]
noncomputable def sl : List (Str × Option Value) := [(sharingNotToldKey, none), ("thirdparty.any", none)]
noncomputable def obs (s : Shared) : List (Option Obj) × Nat × Nat × Bool × List (Option Value) × List (Option Value) × List (Option Value) × Bool :=
  (kAs.map s.heap.get?, s.heap.objs.size, s.toks, (s.heap.isNs mainGlobals && (s.heap.isNs builtinsNs && s.heap.isNs cStatics)), gl.map (fun p => s.heap.nsMap mainGlobals p.1), bl.map (fun p => s.heap.nsMap builtinsNs p.1), sl.map (fun p => s.heap.nsMap cStatics p.1), (s.heap.get? sysModules).isSome)
noncomputable def val (w : World) : List (Option Obj) × Nat × Nat × Bool × List (Option Value) × List (Option Value) × List (Option Value) × Bool :=
  (kF.map (fun p => some p.2), 99, 326, true, gl.map (·.2), bl.map (·.2), sl.map (·.2), true)
noncomputable abbrev rw0 : OpenRow := PySem.Challenge.rw_mq0197_01.row
noncomputable abbrev xt (s : Shared) : Bool := xlAt vw [] s && recOk (RowW.records rw0.toRowW) s
theorem left : LeftO rw0.prog vw [] xt obs val 1034 := by
  intro w
  kernel_rfl
theorem map_fst {α β γ : Type} {f : α → γ} {g : α × β → γ} {l : List (α × β)} (e : (l.map (·.1)).map f = l.map g) : ∀ p ∈ l, f p.1 = g p := by
  rw [List.map_map] at e
  exact List.map_inj_left.mp e
/-- what the first heap holds -/
structure H0 (h h' : Heap) (mg mb : Str → Option Value) : Prop where
  kin : Frag.In kF h'
  g : ∀ n r, gl.lookup n = some r → mg n = r
  b : ∀ n r, bl.lookup n = some r → mb n = r
  s : ∃ mc, h'.Ns cStatics mc ∧ ∀ n r, sl.lookup n = some r → mc n = r
  sysm : ∃ o, h'.get? sysModules = some o
theorem facts {s : Shared} {w : World} {h' : Heap} {mg mb : Str → Option Value} (y : obs s = val w) (k : ∀ b o, s.heap.get? b = some o → h'.get? b = some o) (Gg : h'.Ns mainGlobals mg) (Gb : h'.Ns builtinsNs mb) : H0 s.heap h' mg mb ∧ s.heap.objs.size = 99 ∧ s.toks = 326 := by
  obtain ⟨e1, y⟩ := Prod.mk.inj y
  obtain ⟨e2, y⟩ := Prod.mk.inj y
  obtain ⟨e3, y⟩ := Prod.mk.inj y
  obtain ⟨e4, y⟩ := Prod.mk.inj y
  obtain ⟨e5, y⟩ := Prod.mk.inj y
  obtain ⟨e6, y⟩ := Prod.mk.inj y
  obtain ⟨e7, e8⟩ := Prod.mk.inj y
  obtain ⟨i1, i⟩ := (Bool.and_eq_true _ _).mp e4
  obtain ⟨i2, i3⟩ := (Bool.and_eq_true _ _).mp i
  have ng := (Heap.Ns.of_isNs i1).keeps k
  have nb := (Heap.Ns.of_isNs i2).keeps k
  have ns := (Heap.Ns.of_isNs i3).keeps k
  have mem : ∀ p ∈ kF, s.heap.get? p.1 = some p.2 := map_fst (l := kF) (f := s.heap.get?) (g := fun p => some p.2) e1
  refine ⟨⟨fun a o e => k a o (mem (a, o) (lk_mem e)), fun n r e => ?_, fun n r e => ?_, ⟨_, ns, fun n r e => ?_⟩, ?_⟩, e2, e3⟩
  · rw [Gg.eq_nsMap, ← ng.eq_nsMap]
    exact List.map_inj_left.mp e5 (n, r) (lk_mem e)
  · rw [Gb.eq_nsMap, ← nb.eq_nsMap]
    exact List.map_inj_left.mp e6 (n, r) (lk_mem e)
  · exact List.map_inj_left.mp e7 (n, r) (lk_mem e)
  · obtain ⟨o, e⟩ := Option.isSome_iff_exists.mp e8
    exact ⟨o, k _ _ e⟩
end Mine
end
section
open PySem PySem.W PyProof.Rows PySem.W.X PySem.W.ZRun
set_option maxRecDepth 100000 in
set_option maxHeartbeats 0 in
theorem PySem.Challenge.cw_mq0197_01_holds : PySem.Challenge.rw_mq0197_01.Holds := by
  w_on
  refine holds_law ?_ fun said => ?_
  · unfold OpenLaw.wellSaid OpenLaw.row OpenRow.wellSaid OpenRow.partSaid looksOpen
    repeat' (with_reducible refine look_both ?_ ?_)
    all_goals decide +kernel
  refine holds_openX (q := Mine.vw) (loose := []) (Xt := Mine.xt) (XP := XL Mine.vw []) (Yf := Mine.obs) (Ya := Mine.val) (N := 1034) Mine.left (fun s e => xl_of s (Bool.and_eq_true_iff.mp e).1) XL.keeps (by rfl) (by rfl) (by rfl) (fun s e => recFacts_of (Bool.and_eq_true_iff.mp e).2) (by rfl) (by assumption) (by decide +kernel) ⟨rfl, rfl, rfl, rfl, rfl, by decide +kernel⟩ ?hw ?hc
  case hw => w_witness2
  intro w s₀ s₁ mg mb G y fa o pm cd doc dV kV ho hd hcd hD hmg hg args vals as L hpre hlay hrd hwl hlo
  refine Ground.open G ?_
  intro T B D TE TW
  wrow_args hpre hlay hrd hwl hlo
  obtain ⟨X0, ZN, ZT⟩ := Mine.facts y L.keeps T.g T.b
  have KX := X0.kin
  obtain ⟨hat, hsz⟩ := script_at L
  have htk := script_toks L ZT
  rw [ZN] at hat hsz
  subst hat
  have hfa : some (Value.ref fa) = some (Value.ref 98) := hmg.symm.trans (X0.g "law" _ (by kernel_rfl))
  obtain rfl : fa = 98 := Value.ref.inj (Option.some.inj hfa)
  rename IntsAre _ _ => hI
  rename s₁.heap.IsList 99 _ => hL
  rename ¬ (_ < _) => hlen
  clear hd hcd hD hmg
  obtain ⟨mc, hmc, hms⟩ := X0.s
  have nb : NoneBooked s₁.heap := ⟨mc, hmc, hms _ _ (by kernel_rfl)⟩
  let P : Mine.Pm := ⟨s₁.heap, Mine.GoodT, mg, mb, T.g, T.b, T.nolimit, nb⟩
  have XB : Mine.Blt P := ⟨⟨X0.g _ _ (by kernel_rfl), X0.b _ _ (by kernel_rfl)⟩, ⟨X0.g _ _ (by kernel_rfl), X0.b _ _ (by kernel_rfl)⟩, ⟨X0.g _ _ (by kernel_rfl), X0.b _ _ (by kernel_rfl)⟩, ⟨X0.g _ _ (by kernel_rfl), X0.b _ _ (by kernel_rfl)⟩, ⟨X0.g _ _ (by kernel_rfl), X0.b _ _ (by kernel_rfl)⟩, ⟨X0.g _ _ (by kernel_rfl), X0.b _ _ (by kernel_rfl)⟩, ⟨X0.g _ _ (by kernel_rfl), X0.b _ _ (by kernel_rfl)⟩⟩
  have f52 : Mine.FnI P 52 8 := Mine.fnI_of (P := P) KX 52 8 51 Mine.fs8 (by unfold Mine.NT; decide) (by kernel_rfl) (by kernel_rfl) (by kernel_rfl) (by kernel_rfl) (by kernel_rfl)
  have f26 : Mine.FnI P 26 2 := Mine.fnI_of (P := P) KX 26 2 25 Mine.fs2 (by unfold Mine.NT; decide) (by kernel_rfl) (by kernel_rfl) (by kernel_rfl) (by kernel_rfl) (by kernel_rfl)
  have f33 : Mine.FnI P 33 4 := Mine.fnI_of (P := P) KX 33 4 32 Mine.fs4 (by unfold Mine.NT; decide) (by kernel_rfl) (by kernel_rfl) (by kernel_rfl) (by kernel_rfl) (by kernel_rfl)
  have f40 : Mine.FnI P 40 5 := Mine.fnI_of (P := P) KX 40 5 39 Mine.fs5 (by unfold Mine.NT; decide) (by kernel_rfl) (by kernel_rfl) (by kernel_rfl) (by kernel_rfl) (by kernel_rfl)
  have f47 : Mine.FnI P 47 6 := Mine.fnI_of (P := P) KX 47 6 46 Mine.fs6 (by unfold Mine.NT; decide) (by kernel_rfl) (by kernel_rfl) (by kernel_rfl) (by kernel_rfl) (by kernel_rfl)
  have f64 : Mine.FnI P 64 10 := Mine.fnI_of (P := P) KX 64 10 63 Mine.fs10 (by unfold Mine.NT; decide) (by kernel_rfl) (by kernel_rfl) (by kernel_rfl) (by kernel_rfl) (by kernel_rfl)
  have f71 : Mine.FnI P 71 11 := Mine.fnI_of (P := P) KX 71 11 70 Mine.fs11 (by unfold Mine.NT; decide) (by kernel_rfl) (by kernel_rfl) (by kernel_rfl) (by kernel_rfl) (by kernel_rfl)
  have f76 : Mine.FnI P 76 12 := Mine.fnI_of (P := P) KX 76 12 75 Mine.fs12 (by unfold Mine.NT; decide) (by kernel_rfl) (by kernel_rfl) (by kernel_rfl) (by kernel_rfl) (by kernel_rfl)
  have f81 : Mine.FnI P 81 13 := Mine.fnI_of (P := P) KX 81 13 80 Mine.fs13 (by unfold Mine.NT; decide) (by kernel_rfl) (by kernel_rfl) (by kernel_rfl) (by kernel_rfl) (by kernel_rfl)
  have f86 : Mine.FnI P 86 14 := Mine.fnI_of (P := P) KX 86 14 85 Mine.fs14 (by unfold Mine.NT; decide) (by kernel_rfl) (by kernel_rfl) (by kernel_rfl) (by kernel_rfl) (by kernel_rfl)
  have f93 : Mine.FnI P 93 15 := Mine.fnI_of (P := P) KX 93 15 92 Mine.fs15 (by unfold Mine.NT; decide) (by kernel_rfl) (by kernel_rfl) (by kernel_rfl) (by kernel_rfl) (by kernel_rfl)
  have f98 : Mine.FnI P 98 16 := Mine.fnI_of (P := P) KX 98 16 97 Mine.fs16 (by unfold Mine.NT; decide) (by kernel_rfl) (by kernel_rfl) (by kernel_rfl) (by kernel_rfl) (by kernel_rfl)
  have hs100 : s₁.heap.objs.size = 100 := hsz
  have ht0 : 0 < s₁.toks := Nat.lt_of_lt_of_le (by decide : 0 < 326) htk
  have hn63 := Nat.not_lt.mp (fun q => hlen (Int.ofNat_lt.mpr q))
  have g16 : s₁.heap.get? 16 = some (tabObj #[]) := KX 16 _ (by kernel_rfl)
  have g54 : s₁.heap.get? 54 = some (tabObj #[]) := KX 54 _ (by kernel_rfl)
  have h20 : CodeHd s₁.heap 20 16 := Mine.hd_of KX 20 16 (by kernel_rfl) (by kernel_rfl) (by kernel_rfl) (by kernel_rfl) (by kernel_rfl) (by kernel_rfl) (by kernel_rfl) (by kernel_rfl) (by kernel_rfl) (by decide)
  have h58 : CodeHd s₁.heap 58 54 := Mine.hd_of KX 58 54 (by kernel_rfl) (by kernel_rfl) (by kernel_rfl) (by kernel_rfl) (by kernel_rfl) (by kernel_rfl) (by kernel_rfl) (by kernel_rfl) (by kernel_rfl) (by decide)
  obtain ⟨bm, ob, b1, b2, b3, b4, b5, b6⟩ := T.bmain
  have XK : Mine.KB P := ⟨⟨X0.g _ _ (by kernel_rfl), X0.b _ _ (by kernel_rfl)⟩, X0.b _ _ (by kernel_rfl), ⟨X0.g _ _ (by kernel_rfl), X0.b _ _ (by kernel_rfl)⟩, X0.g _ _ (by kernel_rfl),
    ⟨.str "law_mq0197_01" 257, X0.g "__name__" _ (by kernel_rfl)⟩, ⟨bm, ob, b1, b2, by have := Heap.lt_size b3; rw [hs100] at this; exact this, ⟨Mine.not_tab g16 b3 b4, Mine.not_tab g54 b3 b4⟩, b3, b4, b5, b6⟩,
    ⟨mc, hmc, hms _ _ (by kernel_rfl)⟩, X0.sysm,
    ⟨Mine.objK Mine.kF 21, (Mine.fnK (Mine.objK Mine.kF 21)).1, (Mine.fnK (Mine.objK Mine.kF 21)).2, KX 21 _ (by kernel_rfl), by kernel_rfl⟩,
    ⟨h20, 20, Mine.objK Mine.kF 20, Mine.vsK (Mine.objK Mine.kF 20), Mine.tokK ((Mine.vsK (Mine.objK Mine.kF 20)).getD 1 .none), rfl, KX 20 _ (by kernel_rfl), by kernel_rfl, by kernel_rfl⟩,
    ⟨Mine.objK Mine.kF 59, (Mine.fnK (Mine.objK Mine.kF 59)).1, (Mine.fnK (Mine.objK Mine.kF 59)).2, KX 59 _ (by kernel_rfl), by kernel_rfl⟩,
    ⟨h58, 58, Mine.objK Mine.kF 58, Mine.vsK (Mine.objK Mine.kF 58), Mine.tokK ((Mine.vsK (Mine.objK Mine.kF 58)).getD 1 .none), rfl, KX 58 _ (by kernel_rfl), by kernel_rfl, by kernel_rfl⟩⟩
  have XL : Mine.LB P := ⟨XB, XK, rfl, ⟨X0.g _ _ (by kernel_rfl), f47⟩, ⟨X0.g _ _ (by kernel_rfl), f33⟩, ⟨X0.g _ _ (by kernel_rfl), f40⟩, ⟨X0.g _ _ (by kernel_rfl), f52⟩, X0.g _ _ (by kernel_rfl), ⟨X0.g _ _ (by kernel_rfl), f64⟩, ⟨X0.g _ _ (by kernel_rfl), f71⟩, ⟨X0.g _ _ (by kernel_rfl), f76⟩, ⟨X0.g _ _ (by kernel_rfl), f81⟩, ⟨X0.g _ _ (by kernel_rfl), f86⟩, ⟨X0.g _ _ (by kernel_rfl), f93⟩, ⟨X0.g _ _ (by kernel_rfl), f26⟩⟩
  refine Mine.law_ok (P := P) XL f98 ⟨X0.g _ _ (by kernel_rfl), X0.b _ _ (by kernel_rfl)⟩ ⟨X0.g _ _ (by kernel_rfl), X0.b _ _ (by kernel_rfl)⟩ ⟨rfl, by decide, by decide⟩ (by decide) (by decide) rfl hn63 (Mine.rb0 g16 g54 (Nat.le_of_eq hs100.symm)) ht0 (.lst (fun q => q) ⟨_, script_obj L hL⟩ (Mine.ints_rt hI) (by rw [List.length_map]; exact Nat.le_trans hn63 (by decide))) fun h' tk k sz rb => ?_
  refine ⟨.inl ⟨.bool true, .bool true, [], rfl, raisesW_false ?_, .bool true, ?_, fun _ => ⟨List.nodup_nil, fun _ h => absurd h List.not_mem_nil⟩⟩, Mine.old_of (P := P) rfl rb k g16 g54 (Mine.hd_tab h20) (Mine.hd_tab h58), rfl, .of_eq hg⟩
  · wrow_none_raised
  · wrow_post
end

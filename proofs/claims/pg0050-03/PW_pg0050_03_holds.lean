import PyProof.Rows.All
import Wide.All
import OpenK.AllK
import Wide.FinOn
import Lean
import PySem.Challenge.RW_pg0050_03
open PySem PySem.W PyProof.Rows PySem.Calls
set_option Elab.async false
set_option linter.all false
set_option maxRecDepth 100000
set_option maxHeartbeats 8000000
set_option genSizeOf false
set_option genSizeOfSpec false
set_option genInjectivity false
namespace Mine

/-- abstract values: no tokens, tuples deep, mutable things by address -/
inductive AV where
  | none
  | bool (b : Bool)
  | int (i : Int)
  | str (x : Str)
  | bytes (b : Array UInt8)
  | tup (xs : List AV)
  | ref (a : Addr)
  | raw (v : Value)

/-- abstract objects -/
inductive AO where
  | list (xs : List AV)
  | ns (es : List (Str × AV))
  | inst (C d : Addr)
  | cell (v : AV)
  | obj (o : Obj)

/-- a tuple, just as it is made -/
noncomputable def IsTp (h : Heap) (a : Addr) (vs : Array Value) : Prop := ∃ n, h.get? a = some { cls := .type "tuple", data := .seq vs n }
theorem IsTp.isTuple {h : Heap} {a : Addr} {vs : Array Value} (x : IsTp h a vs) : h.IsTuple a vs := let ⟨n, e⟩ := x; ⟨_, e, rfl, n, rfl⟩
/-- places that no tuple of the program has (zip's own pair) -/
abbrev Avd := Addr → Prop
mutual
inductive VRel (av : Avd) (h : Heap) : AV → Value → Prop
  | none : VRel av h .none .none
  | bool (b : Bool) : VRel av h (.bool b) (.bool b)
  | int (i : Int) (t : Tok) : VRel av h (.int i) (.int i t)
  | str (x : Str) (t : Tok) : VRel av h (.str x) (.str x t)
  | bytes (b : Array UInt8) (t : Tok) : VRel av h (.bytes b) (.bytes b t)
  | tup {a : Addr} {xs : List AV} {vs : List Value} : ¬ av a → IsTp h a vs.toArray → VRels av h xs vs → VRel av h (.tup xs) (.ref a)
  | ref (a : Addr) : VRel av h (.ref a) (.ref a)
  | raw (v : Value) : VRel av h (.raw v) v
inductive VRels (av : Avd) (h : Heap) : List AV → List Value → Prop
  | nil : VRels av h [] []
  | cons {x : AV} {v : Value} {xs : List AV} {vs : List Value} : VRel av h x v → VRels av h xs vs → VRels av h (x :: xs) (v :: vs)
end

/-- tuples stay -/
noncomputable def TK (av : Avd) (h h' : Heap) : Prop := ∀ a vs, ¬ av a → IsTp h a vs → IsTp h' a vs
theorem TK.refl {av : Avd} (h : Heap) : TK av h h := fun _ _ _ x => x
theorem TK.trans {av : Avd} {h₁ h₂ h₃ : Heap} (x : TK av h₁ h₂) (y : TK av h₂ h₃) : TK av h₁ h₃ := fun a vs n t => y a vs n (x a vs n t)
theorem TK.of_keeps {av : Avd} {h h' : Heap} (k : ∀ b o, h.get? b = some o → h'.get? b = some o) : TK av h h' := fun a _ _ ⟨n, ho⟩ => ⟨n, k a _ ho⟩
theorem TK.of_ext {av : Avd} {h h' : Heap} {a : Addr} {o : Obj} (ho : h.get? a = some o) (hn : ∀ vs n, o ≠ { cls := .type "tuple", data := .seq vs n }) (k : Heap.ExtBut a h h') : TK av h h' := fun b vs _ ⟨n, ho'⟩ => by
  by_cases e : b = a
  · subst e; rw [ho] at ho'; cases ho'; exact absurd rfl (hn _ _)
  · exact ⟨n, k b _ e ho'⟩
theorem TK.of_ext_seq {av : Avd} {h h' : Heap} {a : Addr} {o : Obj} (ho : h.get? a = some o) (hn : ∀ xs n, o.data ≠ .seq xs n) (k : Heap.ExtBut a h h') : TK av h h' := fun b vs _ ⟨n, ho'⟩ => by
  by_cases e : b = a
  · subst e; rw [ho] at ho'; cases ho'; exact absurd rfl (hn _ _)
  · exact ⟨n, k b _ e ho'⟩

mutual
theorem VRel.mono {av : Avd} {h h' : Heap} (k : TK av h h') : ∀ {x : AV} {v : Value}, VRel av h x v → VRel av h' x v
  | _, _, .none => .none
  | _, _, .bool b => .bool b
  | _, _, .int i t => .int i t
  | _, _, .str x t => .str x t
  | _, _, .bytes b t => .bytes b t
  | _, _, .tup n t r => .tup n (k _ _ n t) (VRels.mono k r)
  | _, _, .ref a => .ref a
  | _, _, .raw v => .raw v
theorem VRels.mono {av : Avd} {h h' : Heap} (k : TK av h h') : ∀ {x : List AV} {v : List Value}, VRels av h x v → VRels av h' x v
  | _, _, .nil => .nil
  | _, _, .cons a b => .cons (VRel.mono k a) (VRels.mono k b)
end

theorem VRels.length {av : Avd} {h : Heap} : ∀ {xs : List AV} {vs : List Value}, VRels av h xs vs → vs.length = xs.length
  | _, _, .nil => rfl
  | _, _, .cons _ r => by simp [VRels.length r]
theorem VRels.append {av : Avd} {h : Heap} : ∀ {xs ys : List AV} {vs ws : List Value}, VRels av h xs vs → VRels av h ys ws → VRels av h (xs ++ ys) (vs ++ ws)
  | _, _, _, _, .nil, y => y
  | _, _, _, _, .cons a r, y => .cons a (VRels.append r y)
theorem VRels.get {av : Avd} {h : Heap} : ∀ {xs : List AV} {vs : List Value}, VRels av h xs vs → ∀ {i : Nat} {x : AV}, xs[i]? = some x → ∃ v, vs[i]? = some v ∧ VRel av h x v
  | _, _, .nil, i, x, e => by simp at e
  | _, _, .cons a r, 0, x, e => by simp at e; subst e; exact ⟨_, rfl, a⟩
  | _, _, .cons a r, i + 1, x, e => by simp only [List.getElem?_cons_succ] at e ⊢; exact VRels.get r e
theorem VRels.get' {av : Avd} {h : Heap} : ∀ {xs : List AV} {vs : List Value}, VRels av h xs vs → ∀ {i : Nat} {v : Value}, vs[i]? = some v → ∃ x, xs[i]? = some x ∧ VRel av h x v
  | _, _, .nil, i, x, e => by simp at e
  | _, _, .cons a r, 0, x, e => by simp at e; subst e; exact ⟨_, rfl, a⟩
  | _, _, .cons a r, i + 1, x, e => by simp only [List.getElem?_cons_succ] at e ⊢; exact VRels.get' r e
theorem VRels.take {av : Avd} {h : Heap} : ∀ {xs : List AV} {vs : List Value}, VRels av h xs vs → ∀ (n : Nat), VRels av h (xs.take n) (vs.take n)
  | _, _, .nil, n => by simp; exact .nil
  | _, _, .cons a r, 0 => by simp; exact .nil
  | _, _, .cons a r, n + 1 => by simp only [List.take_succ_cons]; exact .cons a (VRels.take r n)
theorem VRels.drop {av : Avd} {h : Heap} : ∀ {xs : List AV} {vs : List Value}, VRels av h xs vs → ∀ (n : Nat), VRels av h (xs.drop n) (vs.drop n)
  | _, _, .nil, n => by simp; exact .nil
  | _, _, .cons a r, 0 => .cons a r
  | _, _, .cons a r, n + 1 => by simp only [List.drop_succ_cons]; exact VRels.drop r n

/-- the entries of a dict whose keys are texts -/
inductive EnRel (av : Avd) (h : Heap) : List (Str × AV) → List DictEntry → Prop
  | nil : EnRel av h [] []
  | cons {x : Str} {v : AV} {e : DictEntry} {es : List (Str × AV)} {l : List DictEntry} : (∃ t, e.key = .str x t) → VRel av h v e.val → EnRel av h es l → EnRel av h ((x, v) :: es) (e :: l)
theorem EnRel.mono {av : Avd} {h h' : Heap} (k : TK av h h') {es : List (Str × AV)} {l : List DictEntry} (r : EnRel av h es l) : EnRel av h' es l := by
  induction r with
  | nil => exact .nil
  | cons a b _ ih => exact .cons a (b.mono k) ih
/-- an abstract object and an object of the heap -/
noncomputable def ORel (av : Avd) (h : Heap) : AO → Obj → Prop
  | .list xs, o => ∃ vs n, o = { cls := .type "list", data := .seq vs.toArray n } ∧ VRels av h xs vs
  | .ns es, o => ∃ l n, o = { cls := .type "dict", data := .dict l.toArray n } ∧ EnRel av h es l
  | .inst C d, o => o = { cls := .ref C, dict := some d }
  | .cell v, o => ∃ V, o.data = .cell (some V) ∧ VRel av h v V
  | .obj ob, o => o = ob ∧ ∀ vs n, ob ≠ { cls := .type "tuple", data := .seq vs n }

theorem ORel.mono {av : Avd} {h h' : Heap} (k : TK av h h') : ∀ {o : AO} {ob : Obj}, ORel av h o ob → ORel av h' o ob
  | .list _, _, ⟨vs, n, e, r⟩ => ⟨vs, n, e, r.mono k⟩
  | .ns _, _, ⟨l, n, d, e⟩ => ⟨l, n, d, e.mono k⟩
  | .inst _ _, _, e => e
  | .cell _, _, ⟨V, e, r⟩ => ⟨V, e, r.mono k⟩
  | .obj _, _, e => e
theorem ORel.not_tuple {av : Avd} {h : Heap} : ∀ {o : AO} {ob : Obj}, ORel av h o ob → ∀ vs n, ob ≠ { cls := .type "tuple", data := .seq vs n }
  | .list _, _, ⟨vs, n, e, r⟩, _, _, e' => by rw [e] at e'; exact absurd (congrArg Obj.cls e') (by show Value.type "list" ≠ Value.type "tuple"; decide)
  | .ns _, _, ⟨en, n, d, _⟩, _, _, e' => by rw [d] at e'; exact absurd (congrArg Obj.cls e') (by show Value.type "dict" ≠ Value.type "tuple"; decide)
  | .inst _ _, _, e, _, _, e' => by cases e; cases e'
  | .cell _, _, ⟨V, e, r⟩, _, _, e' => by subst e'; cases e
  | .obj _, _, ⟨e, e2⟩, _, _, e' => by subst e; exact e2 _ _ e'

abbrev Sto := List (Addr × AO)
/-- what is protected; of it what no value of the program is -/
structure Kap where
  p : Addr → Option Obj
  av : Avd
  ok : ∀ a, av a → p a ≠ none

/-- the store is in the heap, apart from what is protected -/
structure RepS (κ : Kap) (σ : Sto) (h : Heap) : Prop where
  prot : ∀ b o, κ.p b = some o → h.get? b = some o
  objs : ∀ p ∈ σ, ∃ ob, h.get? p.1 = some ob ∧ ORel κ.av h p.2 ob
  nodup : (σ.map (·.1)).Nodup
  new : ∀ p ∈ σ, κ.p p.1 = none

/-- an entry replaced in its place -/
inductive At : Sto → Addr → AO → AO → Sto → Prop
  | head {a : Addr} {o o' : AO} {r : Sto} : At ((a, o) :: r) a o o' ((a, o') :: r)
  | tail {a : Addr} {o o' : AO} {p : Addr × AO} {r r' : Sto} : At r a o o' r' → At (p :: r) a o o' (p :: r')

theorem At.mem {σ σ' : Sto} {a : Addr} {o o' : AO} (x : At σ a o o' σ') : (a, o) ∈ σ := by
  induction x with
  | head => exact .head _
  | tail _ ih => exact .tail _ ih
theorem At.keys {σ σ' : Sto} {a : Addr} {o o' : AO} (x : At σ a o o' σ') : σ'.map (·.1) = σ.map (·.1) := by
  induction x with
  | head => rfl
  | tail _ ih => simp [ih]
theorem At.mem_cases {σ σ' : Sto} {a : Addr} {o o' : AO} (x : At σ a o o' σ') : ∀ p ∈ σ', p = (a, o') ∨ p ∈ σ := by
  induction x with
  | head => intro p hp; rcases List.mem_cons.mp hp with e | e; exact .inl e; exact .inr (.tail _ e)
  | tail _ ih => intro p hp; rcases List.mem_cons.mp hp with e | e; exact .inr (e ▸ .head _); exact (ih p e).imp id (.tail _)
theorem At.mem_ne {σ σ' : Sto} {a : Addr} {o o' : AO} (x : At σ a o o' σ') (hn : (σ.map (·.1)).Nodup) : ∀ p ∈ σ', p = (a, o') ∨ (p ∈ σ ∧ p.1 ≠ a) := by
  induction x with
  | head =>
    intro p hp
    rcases List.mem_cons.mp hp with e | e
    · exact .inl e
    · refine .inr ⟨.tail _ e, fun h => ?_⟩
      simp only [List.map_cons, List.nodup_cons] at hn
      exact hn.1 (h ▸ List.mem_map_of_mem e)
  | tail y ih =>
    intro p hp
    simp only [List.map_cons, List.nodup_cons] at hn
    rcases List.mem_cons.mp hp with e | e
    · subst e
      refine .inr ⟨.head _, fun h => hn.1 (h ▸ List.mem_map_of_mem y.mem)⟩
    · exact (ih hn.2 p e).imp id fun q => ⟨.tail _ q.1, q.2⟩
theorem At.self {σ : Sto} {a : Addr} {o : AO} (h : (a, o) ∈ σ) : At σ a o o σ := by
  induction σ with
  | nil => cases h
  | cons p r ih => rcases List.mem_cons.mp h with e | e; exact e ▸ .head; exact .tail (ih e)

namespace RepS
variable {κ : Kap} {σ σ' : Sto} {h h' : Heap}
theorem keep (R : RepS κ σ h) (k : ∀ b o, h.get? b = some o → h'.get? b = some o) : RepS κ σ h' where
  prot b o e := k b o (R.prot b o e)
  objs p hp := let ⟨ob, e, r⟩ := R.objs p hp; ⟨ob, k _ _ e, r.mono (.of_keeps k)⟩
  nodup := R.nodup
  new := R.new
/-- an object that is neither protected nor in the store is changed -/
theorem ext (R : RepS κ σ h) {a : Addr} (hκ : κ.p a = none) (hσ : a ∉ σ.map (·.1)) (k : Heap.ExtBut a h h') (tk : TK κ.av h h') : RepS κ σ h' where
  prot b o e := k b o (fun he => by rw [he, hκ] at e; cases e) (R.prot b o e)
  objs p hp := let ⟨ob, e, r⟩ := R.objs p hp; ⟨ob, k _ _ (fun he => hσ (he ▸ List.mem_map_of_mem hp)) e, r.mono tk⟩
  nodup := R.nodup
  new := R.new
theorem upd (R : RepS κ σ h) {a : Addr} {o o' : AO} (at' : At σ a o o' σ') {ob : Obj} (k : Heap.ExtBut a h h') (hob : h'.get? a = some ob) (r : ORel κ.av h' o' ob) : RepS κ σ' h' where
  prot b o e := k b o (fun he => by rw [he, R.new _ at'.mem] at e; cases e) (R.prot b o e)
  objs p hp := by
    obtain ⟨oa, ea, ra⟩ := R.objs _ at'.mem
    have tk : TK κ.av h h' := .of_ext ea ra.not_tuple k
    rcases at'.mem_ne R.nodup p hp with e | ⟨e, ne⟩
    · subst e; exact ⟨ob, hob, r⟩
    · obtain ⟨ob', e', r'⟩ := R.objs p e
      exact ⟨ob', k _ _ ne e', r'.mono tk⟩
  nodup := at'.keys ▸ R.nodup
  new p hp := by
    rcases at'.mem_cases p hp with e | e
    · subst e; exact R.new (a, o) at'.mem
    · exact R.new p e
theorem tk_upd (R : RepS κ σ h) {a : Addr} {o : AO} (hm : (a, o) ∈ σ) (k : Heap.ExtBut a h h') : TK κ.av h h' := by
  obtain ⟨oa, ea, ra⟩ := R.objs _ hm
  exact .of_ext ea ra.not_tuple k
theorem add (R : RepS κ σ h) {a : Addr} {o : AO} {ob : Obj} (hn : h.get? a = none) (k : ∀ b o, h.get? b = some o → h'.get? b = some o) (hob : h'.get? a = some ob) (r : ORel κ.av h' o ob) : RepS κ ((a, o) :: σ) h' where
  prot b o e := k b o (R.prot b o e)
  objs p hp := by
    rcases List.mem_cons.mp hp with e | e
    · subst e; exact ⟨ob, hob, r⟩
    · obtain ⟨ob', e', r'⟩ := R.objs p e
      exact ⟨ob', k _ _ e', r'.mono (.of_keeps k)⟩
  nodup := by
    simp only [List.map_cons, List.nodup_cons]
    refine ⟨fun hm => ?_, R.nodup⟩
    obtain ⟨p, hp, e⟩ := List.mem_map.mp hm
    obtain ⟨ob', e', _⟩ := R.objs p hp
    rw [e, hn] at e'; cases e'
  new p hp := by
    rcases List.mem_cons.mp hp with e | e
    · subst e
      cases hk : κ.p a with
      | none => rfl
      | some o' => have := R.prot _ _ hk; rw [hn] at this; cases this
    · exact R.new p e
/-- fewer things known -/
theorem sub (R : RepS κ σ h) (hs : σ'.Sublist σ) : RepS κ σ' h where
  prot := R.prot
  objs p hp := R.objs p (hs.subset hp)
  nodup := R.nodup.sublist (hs.map _)
  new p hp := R.new p (hs.subset hp)
theorem perm (R : RepS κ σ h) (hs : σ'.Perm σ) : RepS κ σ' h where
  prot := R.prot
  objs p hp := R.objs p (hs.subset hp)
  nodup := (hs.map _).nodup_iff.mpr R.nodup
  new p hp := R.new p (hs.subset hp)
theorem weak (R : RepS κ σ h) {κ' : Kap} (ha : κ'.av = κ.av) (hk : ∀ b o, κ'.p b = some o → κ.p b = some o) : RepS κ' σ h where
  prot b o e := R.prot b o (hk b o e)
  objs := ha ▸ R.objs
  nodup := R.nodup
  new p hp := by
    cases hk' : κ'.p p.1 with
    | none => rfl
    | some o => have := hk _ _ hk'; rw [R.new p hp] at this; cases this
end RepS
end Mine
namespace Mine

abbrev keys (σ : Sto) : List Addr := σ.map (·.1)
abbrev Loc := List (Str × AV)

/-- a local set -/
noncomputable def lset : Loc → Str → AV → Loc
  | [], x, v => [(x, v)]
  | (y, w) :: r, x, v => if x == y then (y, v) :: r else (y, w) :: lset r x v
theorem lookup_lset (loc : Loc) (x : Str) (v : AV) (y : Str) : (lset loc x v).lookup y = if y = x then some v else loc.lookup y := by
  induction loc with
  | nil =>
    show (match y == x with | true => some v | false => none) = _
    by_cases e : y = x
    · subst e; rw [beq_self_eq_true, if_pos rfl]
    · rw [beq_eq_false_iff_ne.mpr e, if_neg e]; rfl
  | cons p r ih =>
    obtain ⟨z, w⟩ := p
    unfold lset
    by_cases e : x = z
    · subst e
      rw [if_pos (beq_self_eq_true x), List.lookup_cons, List.lookup_cons]
      by_cases f : y = x
      · subst f; rw [beq_self_eq_true, if_pos rfl]
      · rw [beq_eq_false_iff_ne.mpr f, if_neg f]
    · rw [if_neg (by rw [beq_eq_false_iff_ne.mpr e]; decide), List.lookup_cons, List.lookup_cons, ih]
      by_cases f : y = z
      · subst f; rw [beq_self_eq_true]; show some w = if y = x then some v else some w; rw [if_neg (fun h => e h.symm)]
      · rw [beq_eq_false_iff_ne.mpr f]

structure Gd where
  prog : Program
  w : World
  hB : Heap
abbrev Gd.M (Γ : Gd) : Model := model Γ.prog Γ.w
noncomputable def Gd.le (Γ : Gd) (κ : Kap) : Prop := ∀ b o, Γ.hB.get? b = some o → κ.p b = some o

noncomputable def AOk (k : Nat) (A : Around) : Prop := A.handled = none ∧ A.depth + k < recursionLimit ∧ A.units + 50 * (k + 1) < cLine
theorem AOk.deeper {k : Nat} {A : Around} (h : AOk (k + 1) A) (env : Env) : AOk k (A.deeper env) := by
  obtain ⟨a, b, c⟩ := h
  refine ⟨a, ?_, ?_⟩
  · show A.depth + 1 + k < _; omega
  · show A.units + 3 + 50 * (k + 1) < _; omega
theorem AOk.room {k : Nat} {A : Around} (h : AOk (k + 1) A) : A.depth < recursionLimit := by have := h.2.1; omega
theorem AOk.units {k : Nat} {A : Around} (h : AOk k A) : A.units < cLine := by have := h.2.2; omega
theorem AOk.units40 {k : Nat} {A : Around} (h : AOk k A) : A.units + 40 < cLine := by have := h.2.2; omega

abbrev No : Value → Shared → Prop := fun _ _ => False

/-- all that lives and is not the store's -/
noncomputable def mxp (σ : Sto) (h : Heap) : Addr → Option Obj := fun b => if b ∈ keys σ then none else h.get? b
theorem mx_of {σ : Sto} {h : Heap} {b : Addr} {o : Obj} (hb : b ∉ keys σ) (ho : h.get? b = some o) : mxp σ h b = some o := by
  unfold mxp; rw [if_neg hb]; exact ho
theorem of_mx {σ : Sto} {h : Heap} {b : Addr} {o : Obj} (e : mxp σ h b = some o) : b ∉ keys σ ∧ h.get? b = some o := by
  unfold mxp at e
  by_cases hb : b ∈ keys σ
  · rw [if_pos hb] at e; cases e
  · rw [if_neg hb] at e; exact ⟨hb, e⟩
theorem RepS.not_key {κ : Kap} {σ : Sto} {h : Heap} (R : RepS κ σ h) {b : Addr} {o : Obj} (e : κ.p b = some o) : b ∉ keys σ := fun hm => by
  obtain ⟨p, hp, rfl⟩ := List.mem_map.mp hm
  rw [R.new p hp] at e; cases e
theorem RepS.live {κ : Kap} {σ : Sto} {h : Heap} (R : RepS κ σ h) {b : Addr} (hb : b ∈ keys σ) : ∃ o, h.get? b = some o ∧ ∀ vs n, o ≠ { cls := .type "tuple", data := .seq vs n } := by
  obtain ⟨p, hp, rfl⟩ := List.mem_map.mp hb
  obtain ⟨ob, e, r⟩ := R.objs p hp
  exact ⟨ob, e, r.not_tuple⟩
noncomputable def mx {κ : Kap} {σ : Sto} {h : Heap} (R : RepS κ σ h) : Kap where
  p := mxp σ h
  av := κ.av
  ok a ha := by
    cases e : κ.p a with
    | none => exact absurd e (κ.ok a ha)
    | some o => rw [mx_of (R.not_key e) (R.prot _ _ e)]; simp
theorem RepS.mx {κ : Kap} {σ : Sto} {h : Heap} (R : RepS κ σ h) : RepS (mx R) σ h where
  prot b o e := (of_mx e).2
  objs := R.objs
  nodup := R.nodup
  new p hp := by show mxp σ h p.1 = none; unfold mxp; rw [if_pos (List.mem_map_of_mem hp)]
theorem Gd.le_mx {Γ : Gd} {κ : Kap} {σ : Sto} {h : Heap} (R : RepS κ σ h) (l : Γ.le κ) : Γ.le (Mine.mx R) := fun b o e =>
  mx_of (R.not_key (l b o e)) (R.prot _ _ (l b o e))
/-- what is new is no place to be avoided -/
theorem RepS.not_av {κ : Kap} {σ : Sto} {h : Heap} (R : RepS κ σ h) {a : Addr} (hn : h.get? a = none) : ¬ κ.av a := fun hv => by
  cases e : κ.p a with
  | none => exact κ.ok a hv e
  | some o => rw [R.prot _ _ e] at hn; cases hn
/-- what a step leaves alone -/
structure Stp (av : Avd) (σ : Sto) (h : Heap) (σ' : Sto) (h' : Heap) : Prop where
  keep : ∀ b o, b ∉ keys σ → h.get? b = some o → h'.get? b = some o
  new : ∀ a ∈ keys σ', a ∈ keys σ ∨ h.get? a = none
  tk : TK av h h'
theorem Stp.of_mx {κ : Kap} {σ σ' : Sto} {h h' : Heap} (R : RepS κ σ h) (R' : RepS (Mine.mx R) σ' h') : Stp κ.av σ h σ' h' where
  keep b o hb ho := R'.prot b o (mx_of hb ho)
  new a ha := by
    obtain ⟨p, hp, rfl⟩ := List.mem_map.mp ha
    have : mxp σ h p.1 = none := R'.new p hp
    unfold mxp at this
    by_cases hm : p.1 ∈ keys σ
    · exact .inl hm
    · rw [if_neg hm] at this; exact .inr this
  tk a vs := fun _ ⟨n, ho⟩ => by
    refine ⟨n, R'.prot a _ (mx_of (fun hm => ?_) ho)⟩
    obtain ⟨o', e', n'⟩ := R.live hm
    rw [ho] at e'; cases e'; exact n' _ _ rfl
theorem RepS.of_mx {κ : Kap} {σ σ' : Sto} {h h' : Heap} (R : RepS κ σ h) (R' : RepS (Mine.mx R) σ' h') : RepS κ σ' h' :=
  R'.weak rfl fun b o e => mx_of (R.not_key e) (R.prot b o e)

structure Fits (sc : Scope) (env : Env) : Prop where
  scope : env.scope = sc
  kind : sc.kind = .function
  glob : env.globals = mainGlobals
  blt : env.builtins = builtinsNs
  fn : sc.names.lookup (Str.ofString ".0") = none → env.func.isSome = true

theorem Fits.kindOf {sc : Scope} {env : Env} (f : Fits sc env) (x : Str) : env.kindOf x = sc.names.lookup x := by
  unfold Env.kindOf; rw [f.scope]
theorem Fits.fkind {sc : Scope} {env : Env} (f : Fits sc env) : env.scope.kind = .function := by rw [f.scope]; exact f.kind
theorem Fits.hp {sc : Scope} {env : Env} (f : Fits sc env) : (env.scope.kind == .class || (env.scope.kind == .module && env.locals != env.globals)) = false := by rw [f.fkind]; rfl

/-- the frame -/
structure FRel (κ : Kap) (env : Env) (loc : Loc) (σ : Sto) (h : Heap) : Prop where
  ns : ∃ m, h.Ns env.locals m ∧ ∀ x v, loc.lookup x = some v → env.kindOf x = some .local → ∃ V, m x = some V ∧ VRel κ.av h v V
  cell : ∀ x, env.kindOf x = some .cell → ∃ c V, env.cells.lookup x = some c ∧ h.IsCell c V ∧ ∀ v, loc.lookup x = some v → ∃ V', V = some V' ∧ VRel κ.av h v V'
  free : ∀ x v, loc.lookup x = some v → env.kindOf x = some .free → ∃ c o V, env.cells.lookup x = some c ∧ κ.p c = some o ∧ o.data = .cell (some V) ∧ VRel κ.av h v V
  apart : ∀ x y c, env.kindOf x = some .cell → env.kindOf y = some .cell → env.cells.lookup x = some c → env.cells.lookup y = some c → x = y
  Lnew : κ.p env.locals = none ∧ env.locals ∉ keys σ
  cnew : ∀ x c, env.kindOf x = some .cell → env.cells.lookup x = some c → c ∉ keys σ ∧ (env.func.isSome = true → κ.p c = none) ∧ ∀ o, κ.p c = some o → ∃ V, o.data = .cell V

structure Rep (κ : Kap) (env : Env) (loc : Loc) (σ : Sto) (h : Heap) : Prop where
  s : RepS κ σ h
  f : FRel κ env loc σ h

theorem FRel.stp {κ : Kap} {env : Env} {loc : Loc} {σ σ' : Sto} {h h' : Heap} (F : FRel κ env loc σ h) (S : Stp κ.av σ h σ' h') : FRel κ env loc σ' h' where
  ns := by
    obtain ⟨m, hn, hm⟩ := F.ns
    refine ⟨m, ?_, fun x v hx hk => let ⟨V, e, r⟩ := hm x v hx hk; ⟨V, e, r.mono S.tk⟩⟩
    obtain ⟨o, es, ep, ho, r⟩ := hn
    exact ⟨o, es, ep, S.keep _ _ F.Lnew.2 ho, r⟩
  cell x hx := by
    obtain ⟨c, V, hc, ⟨o, ho, hd⟩, hv⟩ := F.cell x hx
    exact ⟨c, V, hc, ⟨o, S.keep _ _ (F.cnew x c hx hc).1 ho, hd⟩, fun v h => let ⟨V', e, r⟩ := hv v h; ⟨V', e, r.mono S.tk⟩⟩
  free x v hx hk := let ⟨c, o, V, a, b, d, e⟩ := F.free x v hx hk; ⟨c, o, V, a, b, d, e.mono S.tk⟩
  apart := F.apart
  Lnew := by
    refine ⟨F.Lnew.1, fun hm => ?_⟩
    rcases S.new _ hm with e | e
    · exact F.Lnew.2 e
    · obtain ⟨m, ⟨o, es, ep, ho, _⟩, _⟩ := F.ns
      rw [ho] at e; cases e
  cnew x c hx hc := by
    refine ⟨fun hm => ?_, (F.cnew x c hx hc).2⟩
    rcases S.new _ hm with e | e
    · exact (F.cnew x c hx hc).1 e
    · obtain ⟨c', V, hc', ⟨o, ho, _⟩, _⟩ := F.cell x hx
      rw [hc] at hc'; cases hc'
      rw [ho] at e; cases e

/-- fewer locals known -/
theorem FRel.forget {κ : Kap} {env : Env} {loc loc' : Loc} {σ : Sto} {h : Heap} (F : FRel κ env loc σ h) (hl : ∀ x v, loc'.lookup x = some v → loc.lookup x = some v) : FRel κ env loc' σ h where
  ns := let ⟨m, hn, hm⟩ := F.ns; ⟨m, hn, fun x v hx hk => hm x v (hl x v hx) hk⟩
  cell x hx := let ⟨c, V, a, b, d⟩ := F.cell x hx; ⟨c, V, a, b, fun v h => d v (hl x v h)⟩
  free x v hx hk := F.free x v (hl x v hx) hk
  apart := F.apart
  Lnew := F.Lnew
  cnew := F.cnew
theorem FRel.sub {κ : Kap} {env : Env} {loc : Loc} {σ σ' : Sto} {h : Heap} (F : FRel κ env loc σ h) (hs : ∀ a ∈ keys σ', a ∈ keys σ) : FRel κ env loc σ' h where
  ns := F.ns
  cell := F.cell
  free := F.free
  apart := F.apart
  Lnew := ⟨F.Lnew.1, fun hm => F.Lnew.2 (hs _ hm)⟩
  cnew x c hx hc := ⟨fun hm => (F.cnew x c hx hc).1 (hs _ hm), (F.cnew x c hx hc).2⟩

/-- posts -/
abbrev PstS (κ : Kap) (s : Shared) (P : AV → Sto → Prop) : Value → Shared → Prop := fun V s' => ∃ v σ' h' tk, s' = { s with heap := h', toks := tk } ∧ RepS κ σ' h' ∧ VRel κ.av h' v V ∧ P v σ'
abbrev PstB (κ : Kap) (s : Shared) (P : Bool → Sto → Prop) : Bool → Shared → Prop := fun b s' => ∃ σ' h' tk, s' = { s with heap := h', toks := tk } ∧ RepS κ σ' h' ∧ P b σ'
abbrev PstE (κ : Kap) (env : Env) (loc : Loc) (s : Shared) (P : AV → Sto → Prop) : Value → Shared → Prop := fun V s' => ∃ v σ' h' tk, s' = { s with heap := h', toks := tk } ∧ TK κ.av s.heap h' ∧ Rep κ env loc σ' h' ∧ VRel κ.av h' v V ∧ P v σ'
abbrev PstT (κ : Kap) (env : Env) (loc : Loc) (s : Shared) (P : Bool → Sto → Prop) : Bool → Shared → Prop := fun b s' => ∃ σ' h' tk, s' = { s with heap := h', toks := tk } ∧ TK κ.av s.heap h' ∧ Rep κ env loc σ' h' ∧ P b σ'
abbrev PstL (κ : Kap) (env : Env) (loc : Loc) (s : Shared) (P : List AV → Sto → Prop) : List Value → Shared → Prop := fun V s' => ∃ v σ' h' tk, s' = { s with heap := h', toks := tk } ∧ TK κ.av s.heap h' ∧ Rep κ env loc σ' h' ∧ VRels κ.av h' v V ∧ P v σ'

inductive AFl where
  | next | brk | cont
  | ret (v : AV)
inductive FlRel (av : Avd) (h : Heap) : AFl → Flow → Prop
  | next : FlRel av h .next .next
  | brk : FlRel av h .brk .brk
  | cont : FlRel av h .cont .cont
  | ret {v : AV} {V : Value} : VRel av h v V → FlRel av h (.ret v) (.ret V)
abbrev PstX (κ : Kap) (env : Env) (s : Shared) (P : AFl → Loc → Sto → Prop) : Flow → Shared → Prop := fun f s' => ∃ fl loc' σ' h' tk, s' = { s with heap := h', toks := tk } ∧ TK κ.av s.heap h' ∧ Rep κ env loc' σ' h' ∧ FlRel κ.av h' fl f ∧ P fl loc' σ'

section
variable (Γ : Gd) (k : Nat)
/-- operations on one, two values; calls -/
noncomputable def Op1 (t : Value → Sem Value) (x : AV) (σ : Sto) (P : AV → Sto → Prop) : Prop :=
  ∀ A κ s X, AOk k A → Γ.le κ → RepS κ σ s.heap → VRel κ.av s.heap x X → wpAny Γ.M A (t X) (PstS κ s P) No s
noncomputable def Op2 (t : Value → Value → Sem Value) (x y : AV) (σ : Sto) (P : AV → Sto → Prop) : Prop :=
  ∀ A κ s X Y, AOk k A → Γ.le κ → RepS κ σ s.heap → VRel κ.av s.heap x X → VRel κ.av s.heap y Y → wpAny Γ.M A (t X Y) (PstS κ s P) No s
noncomputable def Ops (t : List Value → Sem Value) (xs : List AV) (σ : Sto) (P : AV → Sto → Prop) : Prop :=
  ∀ A κ s Xs, AOk k A → Γ.le κ → RepS κ σ s.heap → VRels κ.av s.heap xs Xs → wpAny Γ.M A (t Xs) (PstS κ s P) No s
noncomputable def Tr (x : AV) (σ : Sto) (P : Bool → Sto → Prop) : Prop :=
  ∀ A κ s X, AOk k A → Γ.le κ → RepS κ σ s.heap → VRel κ.av s.heap x X → wpAny Γ.M A (truthy X) (PstB κ s P) No s
/-- in a frame -/
noncomputable def Ev (sc : Scope) (e : Expr) (loc : Loc) (σ : Sto) (P : AV → Sto → Prop) : Prop :=
  ∀ A κ env s, AOk k A → Γ.le κ → Fits sc env → Rep κ env loc σ s.heap → wpAny Γ.M A (eval e env) (PstE κ env loc s P) No s
noncomputable def Ts (sc : Scope) (e : Expr) (loc : Loc) (σ : Sto) (P : Bool → Sto → Prop) : Prop :=
  ∀ A κ env s, AOk k A → Γ.le κ → Fits sc env → Rep κ env loc σ s.heap → wpAny Γ.M A (isTrue e env (eval e env)) (PstT κ env loc s P) No s
noncomputable def Evs (sc : Scope) (es : List Expr) (loc : Loc) (σ : Sto) (P : List AV → Sto → Prop) : Prop :=
  ∀ A κ env s pos, AOk k A → Γ.le κ → Fits sc env → Rep κ env loc σ s.heap → wpAny Γ.M A (spliced (backTo pos (starEach es env))) (PstL κ env loc s P) No s
noncomputable def Ex (sc : Scope) (st : Stmt) (loc : Loc) (σ : Sto) (P : AFl → Loc → Sto → Prop) : Prop :=
  ∀ A κ env s, AOk k A → Γ.le κ → Fits sc env → Rep κ env loc σ s.heap → wpAny Γ.M A (exec st env) (PstX κ env s P) No s
noncomputable def Exs (sc : Scope) (st : List Stmt) (loc : Loc) (σ : Sto) (P : AFl → Loc → Sto → Prop) : Prop :=
  ∀ A κ env s, AOk k A → Γ.le κ → Fits sc env → Rep κ env loc σ s.heap → wpAny Γ.M A (execs st env) (PstX κ env s P) No s
/-- a target given a value -/
noncomputable def Asg (sc : Scope) (t : Expr) (v : AV) (loc : Loc) (σ : Sto) (P : Loc → Sto → Prop) : Prop :=
  ∀ A κ env s V, AOk k A → Γ.le κ → Fits sc env → Rep κ env loc σ s.heap → VRel κ.av s.heap v V → wpAny Γ.M A (assign t env V)
    (fun _ s' => ∃ loc' σ' h' tk, s' = { s with heap := h', toks := tk } ∧ TK κ.av s.heap h' ∧ Rep κ env loc' σ' h' ∧ P loc' σ') No s
end

section
variable {Γ : Gd} {k : Nat} {sc : Scope} {loc : Loc} {σ : Sto}

theorem wp_no {α : Type} {M : Model} {A : Around} {t : Sem α} {Q Q' : α → Shared → Prop} {E : Value → Shared → Prop} {s : Shared} (h : wpAny M A t Q No s) (hq : ∀ a s, Q a s → Q' a s) : wpAny M A t Q' E s :=
  wpAny_mono h hq fun _ _ x => x.elim

end
section
variable {M : Model} {A : Around} {κ : Kap} {env : Env} {loc : Loc} {s : Shared} {E : Value → Shared → Prop}
theorem wpE {t : Sem Value} {P : AV → Sto → Prop} {Q : Value → Shared → Prop} (h : wpAny M A t (PstE κ env loc s P) No s)
    (q : ∀ V v σ' h' tk, TK κ.av s.heap h' → Rep κ env loc σ' h' → VRel κ.av h' v V → P v σ' → Q V { s with heap := h', toks := tk }) : wpAny M A t Q E s :=
  wp_no h fun V s' pst => pst.elim fun v p => p.elim fun σ' p => p.elim fun h' p => p.elim fun tk p => p.1 ▸ q V v σ' h' tk p.2.1 p.2.2.1 p.2.2.2.1 p.2.2.2.2
theorem wpL {t : Sem (List Value)} {P : List AV → Sto → Prop} {Q : List Value → Shared → Prop} (h : wpAny M A t (PstL κ env loc s P) No s)
    (q : ∀ V v σ' h' tk, TK κ.av s.heap h' → Rep κ env loc σ' h' → VRels κ.av h' v V → P v σ' → Q V { s with heap := h', toks := tk }) : wpAny M A t Q E s :=
  wp_no h fun V s' pst => pst.elim fun v p => p.elim fun σ' p => p.elim fun h' p => p.elim fun tk p => p.1 ▸ q V v σ' h' tk p.2.1 p.2.2.1 p.2.2.2.1 p.2.2.2.2
theorem wpS {t : Sem Value} {P : AV → Sto → Prop} {Q : Value → Shared → Prop} (h : wpAny M A t (PstS κ s P) No s)
    (q : ∀ V v σ' h' tk, RepS κ σ' h' → VRel κ.av h' v V → P v σ' → Q V { s with heap := h', toks := tk }) : wpAny M A t Q E s :=
  wp_no h fun V s' pst => pst.elim fun v p => p.elim fun σ' p => p.elim fun h' p => p.elim fun tk p => p.1 ▸ q V v σ' h' tk p.2.1 p.2.2.1 p.2.2.2
theorem wpT {t : Sem Bool} {P : Bool → Sto → Prop} {Q : Bool → Shared → Prop} (h : wpAny M A t (PstT κ env loc s P) No s)
    (q : ∀ V σ' h' tk, TK κ.av s.heap h' → Rep κ env loc σ' h' → P V σ' → Q V { s with heap := h', toks := tk }) : wpAny M A t Q E s :=
  wp_no h fun V s' pst => pst.elim fun σ' p => p.elim fun h' p => p.elim fun tk p => p.1 ▸ q V σ' h' tk p.2.1 p.2.2.1 p.2.2.2
theorem wpX {t : Sem Flow} {P : AFl → Loc → Sto → Prop} {Q : Flow → Shared → Prop} (h : wpAny M A t (PstX κ env s P) No s)
    (q : ∀ V fl loc' σ' h' tk, TK κ.av s.heap h' → Rep κ env loc' σ' h' → FlRel κ.av h' fl V → P fl loc' σ' → Q V { s with heap := h', toks := tk }) : wpAny M A t Q E s :=
  wp_no h fun V s' pst => pst.elim fun fl p => p.elim fun l p => p.elim fun σ' p => p.elim fun h' p => p.elim fun tk p => p.1 ▸ q V fl l σ' h' tk p.2.1 p.2.2.1 p.2.2.2.1 p.2.2.2.2
theorem wpA {t : Sem Unit} {P : Loc → Sto → Prop} {Q : Unit → Shared → Prop} (h : wpAny M A t (fun _ s' => ∃ loc' σ' h' tk, s' = { s with heap := h', toks := tk } ∧ TK κ.av s.heap h' ∧ Rep κ env loc' σ' h' ∧ P loc' σ') No s)
    (q : ∀ loc' σ' h' tk, TK κ.av s.heap h' → Rep κ env loc' σ' h' → P loc' σ' → Q () { s with heap := h', toks := tk }) : wpAny M A t Q E s :=
  wp_no h fun _ s' pst => pst.elim fun l p => p.elim fun σ' p => p.elim fun h' p => p.elim fun tk p => p.1 ▸ q l σ' h' tk p.2.1 p.2.2.1 p.2.2.2
theorem wpU {t : Sem Unit} {P : Sto → Prop} {Q : Unit → Shared → Prop} (h : wpAny M A t (fun _ s' => ∃ σ' h' tk, s' = { s with heap := h', toks := tk } ∧ RepS κ σ' h' ∧ P σ') No s)
    (q : ∀ σ' h' tk, RepS κ σ' h' → P σ' → Q () { s with heap := h', toks := tk }) : wpAny M A t Q E s :=
  wp_no h fun _ s' pst => pst.elim fun σ' p => p.elim fun h' p => p.elim fun tk p => p.1 ▸ q σ' h' tk p.2.1 p.2.2
end

section
variable {Γ : Gd} {k : Nat} {sc : Scope} {loc : Loc} {σ : Sto}
/-- a step without the frame, in a frame -/
theorem frame_step {κ : Kap} {env : Env} {h : Heap} (R : Rep κ env loc σ h) {σ' : Sto} {h' : Heap} (R' : RepS (mx R.s) σ' h') : TK κ.av h h' ∧ Rep κ env loc σ' h' :=
  let S := Stp.of_mx R.s R'
  ⟨S.tk, R.s.of_mx R', R.f.stp S⟩
theorem Op1.at {t : Value → Sem Value} {x : AV} {P : AV → Sto → Prop} (o : Op1 Γ k t x σ P) {A : Around} {κ : Kap} {env : Env} {s : Shared} {X : Value} (hA : AOk k A) (l : Γ.le κ) (R : Rep κ env loc σ s.heap) (hx : VRel κ.av s.heap x X) :
    wpAny Γ.M A (t X) (PstE κ env loc s P) No s :=
  wpS (o A (mx R.s) s X hA (Gd.le_mx R.s l) R.s.mx hx) fun V v σ' h' tk R' r p =>
    let ⟨q, R''⟩ := frame_step R R'; ⟨v, σ', h', tk, rfl, q, R'', r, p⟩
theorem Op2.at {t : Value → Value → Sem Value} {x y : AV} {P : AV → Sto → Prop} (o : Op2 Γ k t x y σ P) {A : Around} {κ : Kap} {env : Env} {s : Shared} {X Y : Value} (hA : AOk k A) (l : Γ.le κ) (R : Rep κ env loc σ s.heap) (hx : VRel κ.av s.heap x X) (hy : VRel κ.av s.heap y Y) :
    wpAny Γ.M A (t X Y) (PstE κ env loc s P) No s :=
  wpS (o A (mx R.s) s X Y hA (Gd.le_mx R.s l) R.s.mx hx hy) fun V v σ' h' tk R' r p =>
    let ⟨q, R''⟩ := frame_step R R'; ⟨v, σ', h', tk, rfl, q, R'', r, p⟩
theorem Ops.at {t : List Value → Sem Value} {xs : List AV} {P : AV → Sto → Prop} (o : Ops Γ k t xs σ P) {A : Around} {κ : Kap} {env : Env} {s : Shared} {Xs : List Value} (hA : AOk k A) (l : Γ.le κ) (R : Rep κ env loc σ s.heap) (hx : VRels κ.av s.heap xs Xs) :
    wpAny Γ.M A (t Xs) (PstE κ env loc s P) No s :=
  wpS (o A (mx R.s) s Xs hA (Gd.le_mx R.s l) R.s.mx hx) fun V v σ' h' tk R' r p =>
    let ⟨q, R''⟩ := frame_step R R'; ⟨v, σ', h', tk, rfl, q, R'', r, p⟩
theorem Tr.at {x : AV} {P : Bool → Sto → Prop} (o : Tr Γ k x σ P) {A : Around} {κ : Kap} {env : Env} {s : Shared} {X : Value} (hA : AOk k A) (l : Γ.le κ) (R : Rep κ env loc σ s.heap) (hx : VRel κ.av s.heap x X) :
    wpAny Γ.M A (truthy X) (PstT κ env loc s P) No s :=
  wp_no (o A (mx R.s) s X hA (Gd.le_mx R.s l) R.s.mx hx) fun V s' ⟨σ', h', tk, e, R', p⟩ =>
    let ⟨q, R''⟩ := frame_step R R'; ⟨σ', h', tk, e, q, R'', p⟩

/-- posts carried on: from s₁ = s with another heap -/
theorem PstE.trans {κ : Kap} {env : Env} {s : Shared} {h₁ : Heap} {tk₁ : Nat} {P : AV → Sto → Prop} {V : Value} {s' : Shared} (tk : TK κ.av s.heap h₁) (h : PstE κ env loc { s with heap := h₁, toks := tk₁ } P V s') : PstE κ env loc s P V s' :=
  let ⟨v, σ', h', t, e, q, R, r, p⟩ := h; ⟨v, σ', h', t, e, tk.trans q, R, r, p⟩
theorem PstL.trans {κ : Kap} {env : Env} {s : Shared} {h₁ : Heap} {tk₁ : Nat} {P : List AV → Sto → Prop} {V : List Value} {s' : Shared} (tk : TK κ.av s.heap h₁) (h : PstL κ env loc { s with heap := h₁, toks := tk₁ } P V s') : PstL κ env loc s P V s' :=
  let ⟨v, σ', h', t, e, q, R, r, p⟩ := h; ⟨v, σ', h', t, e, tk.trans q, R, r, p⟩
theorem PstT.trans {κ : Kap} {env : Env} {s : Shared} {h₁ : Heap} {tk₁ : Nat} {P : Bool → Sto → Prop} {V : Bool} {s' : Shared} (tk : TK κ.av s.heap h₁) (h : PstT κ env loc { s with heap := h₁, toks := tk₁ } P V s') : PstT κ env loc s P V s' :=
  let ⟨σ', h', t, e, q, R, p⟩ := h; ⟨σ', h', t, e, tk.trans q, R, p⟩
theorem PstX.trans {κ : Kap} {env : Env} {s : Shared} {h₁ : Heap} {tk₁ : Nat} {P : AFl → Loc → Sto → Prop} {V : Flow} {s' : Shared} (tk : TK κ.av s.heap h₁) (h : PstX κ env { s with heap := h₁, toks := tk₁ } P V s') : PstX κ env s P V s' :=
  let ⟨v, l, σ', h', t, e, q, R, r, p⟩ := h; ⟨v, l, σ', h', t, e, tk.trans q, R, r, p⟩

/-! rules -/
theorem ev_mono {e : Expr} {P Q : AV → Sto → Prop} (h : Ev Γ k sc e loc σ P) (hq : ∀ v σ, P v σ → Q v σ) : Ev Γ k sc e loc σ Q := fun A κ env s hA l f R =>
  wpE (h A κ env s hA l f R) fun _ v σ' h' tk b c d p => ⟨v, σ', h', tk, rfl, b, c, d, hq _ _ p⟩
theorem ts_mono {e : Expr} {P Q : Bool → Sto → Prop} (h : Ts Γ k sc e loc σ P) (hq : ∀ v σ, P v σ → Q v σ) : Ts Γ k sc e loc σ Q := fun A κ env s hA l f R =>
  wpT (h A κ env s hA l f R) fun _ σ' h' tk b c p => ⟨σ', h', tk, rfl, b, c, hq _ _ p⟩
theorem ex_mono {e : Stmt} {P Q : AFl → Loc → Sto → Prop} (h : Ex Γ k sc e loc σ P) (hq : ∀ f l σ, P f l σ → Q f l σ) : Ex Γ k sc e loc σ Q := fun A κ env s hA l f R =>
  wpX (h A κ env s hA l f R) fun _ v lo σ' h' tk b c d p => ⟨v, lo, σ', h', tk, rfl, b, c, d, hq _ _ _ p⟩
theorem exs_mono {e : List Stmt} {P Q : AFl → Loc → Sto → Prop} (h : Exs Γ k sc e loc σ P) (hq : ∀ f l σ, P f l σ → Q f l σ) : Exs Γ k sc e loc σ Q := fun A κ env s hA l f R =>
  wpX (h A κ env s hA l f R) fun _ v lo σ' h' tk b c d p => ⟨v, lo, σ', h', tk, rfl, b, c, d, hq _ _ _ p⟩
/-- from less known -/
theorem exs_weak {e : List Stmt} {loc' : Loc} {σ' : Sto} {P : AFl → Loc → Sto → Prop} (h : Exs Γ k sc e loc' σ' P) (hl : ∀ x v, loc'.lookup x = some v → loc.lookup x = some v) (hs : σ'.Sublist σ) : Exs Γ k sc e loc σ P := fun A κ env s hA l f R =>
  h A κ env s hA l f ⟨R.s.sub hs, (R.f.forget hl).sub fun _ ha => (hs.map _).subset ha⟩
theorem exs_perm {e : List Stmt} {σ' : Sto} {P : AFl → Loc → Sto → Prop} (h : Exs Γ k sc e loc σ' P) (hs : σ'.Perm σ) : Exs Γ k sc e loc σ P := fun A κ env s hA l f R =>
  h A κ env s hA l f ⟨R.s.perm hs, R.f.sub fun _ ha => (hs.map _).subset ha⟩

theorem ev_int {i : Int} {n : Nat} {pos : Pos} {P : AV → Sto → Prop} (h : P (.int i) σ) : Ev Γ k sc (.Constant (.int i) n pos) loc σ P := fun _ _ _ s _ _ _ R =>
  wpAny_Constant_int ⟨_, _, s.heap, _, rfl, .refl _, R, .int _ _, h⟩
theorem ev_str {x : Str} {n : Nat} {pos : Pos} {P : AV → Sto → Prop} (h : P (.str x) σ) : Ev Γ k sc (.Constant (.str x) n pos) loc σ P := fun _ _ _ s _ _ _ R =>
  wpAny_Constant_str ⟨_, _, s.heap, _, rfl, .refl _, R, .str _ _, h⟩
theorem ev_none {n : Nat} {pos : Pos} {P : AV → Sto → Prop} (h : P .none σ) : Ev Γ k sc (.Constant .none n pos) loc σ P := fun _ _ _ s _ _ _ R =>
  wpAny_Constant_none ⟨_, _, s.heap, s.toks, rfl, .refl _, R, .none, h⟩
theorem ev_bytes {b : List UInt8} {n : Nat} {pos : Pos} {P : AV → Sto → Prop} (h : P (.bytes b.toArray) σ) : Ev Γ k sc (.Constant (.bytes b) n pos) loc σ P := fun _ _ _ s _ _ _ R =>
  fun _ _ _ => ⟨_, _, s.heap, _, rfl, .refl _, R, .bytes _ _, h⟩

theorem ev_local {x : Str} {pos : Pos} {v : AV} {P : AV → Sto → Prop} (hk : sc.names.lookup x = some .local) (hv : loc.lookup x = some v) (h : P v σ) (hd : (x == ("__debug__" : Str)) = false) : Ev Γ k sc (.Name x pos) loc σ P := fun _ _ env s _ _ f R => by
  obtain ⟨m, hn, hm⟩ := R.f.ns
  have hl : env.kindOf x = some .local := by rw [f.kindOf]; exact hk
  obtain ⟨V, e, r⟩ := hm x v hv hl
  exact wpAny_Name (wpAny_loadName_local f.fkind hl hn e ⟨v, σ, s.heap, s.toks, rfl, .refl _, R, r, h⟩) hd
theorem ev_cell {x : Str} {pos : Pos} {v : AV} {P : AV → Sto → Prop} (hk : sc.names.lookup x = some .cell) (hv : loc.lookup x = some v) (h : P v σ) (hd : (x == ("__debug__" : Str)) = false) : Ev Γ k sc (.Name x pos) loc σ P := fun _ _ env s _ _ f R => by
  have hl : env.kindOf x = some .cell := by rw [f.kindOf]; exact hk
  obtain ⟨c, V, hc, hi, hV⟩ := R.f.cell x hl
  obtain ⟨V', rfl, r⟩ := hV v hv
  exact wpAny_Name (wpAny_loadName_cell f.fkind hl hc hi ⟨v, σ, s.heap, s.toks, rfl, .refl _, R, r, h⟩) hd
theorem ev_free {x : Str} {pos : Pos} {v : AV} {P : AV → Sto → Prop} (hk : sc.names.lookup x = some .free) (hv : loc.lookup x = some v) (h : P v σ) (hd : (x == ("__debug__" : Str)) = false) (hn : (x == ("__classdict__" : Str)) = false) : Ev Γ k sc (.Name x pos) loc σ P := fun _ _ env s _ _ f R => by
  have hl : env.kindOf x = some .free := by rw [f.kindOf]; exact hk
  obtain ⟨c, o, V, hc, hκ, hd', r⟩ := R.f.free x v hv hl
  exact wpAny_Name (wpAny_loadName_free f.fkind hl hc ⟨o, R.s.prot _ _ hκ, hd'⟩ ⟨v, σ, s.heap, s.toks, rfl, .refl _, R, r, h⟩ hn) hd

theorem ev_binop {l r : Expr} {op : Operator} {pos : Pos} {P : AV → Sto → Prop}
    (h : Ev Γ k sc l loc σ fun a σ₁ => Ev Γ k sc r loc σ₁ fun b σ₂ => Op2 Γ k (binaryOp op) a b σ₂ P) : Ev Γ k sc (.BinOp l op r pos) loc σ P := fun A κ env s hA l' f R =>
  wpAny_BinOp (wpE (h A κ env s hA l' f R) fun V₁ a σ₁ h₁ tk₁ q₁ R₁ r₁ p₁ => by
    refine wpE (p₁ A κ env _ hA l' f R₁) fun V₂ b σ₂ h₂ tk₂ q₂ R₂ r₂ p₂ => ?_
    exact wp_no (p₂.at hA l' R₂ (r₁.mono q₂) r₂) fun V₃ s₃ h₃ => (h₃.trans (tk₁ := tk₁) q₂).trans q₁)
theorem ev_compare {l r : Expr} {op : CmpOp} {pos : Pos} {P : AV → Sto → Prop}
    (h : Ev Γ k sc l loc σ fun a σ₁ => Ev Γ k sc r loc σ₁ fun b σ₂ => Op2 Γ k (compareOp op) a b σ₂ P) (hm : behindInMarks op r = false) : Ev Γ k sc (.Compare l [op] [r] pos) loc σ P := fun A κ env s hA l' f R =>
  wpAny_Compare1 (wpE (h A κ env s hA l' f R) fun V₁ a σ₁ h₁ tk₁ q₁ R₁ r₁ p₁ => by
    refine wpE (p₁ A κ env _ hA l' f R₁) fun V₂ b σ₂ h₂ tk₂ q₂ R₂ r₂ p₂ => ?_
    exact wp_no (p₂.at hA l' R₂ (r₁.mono q₂) r₂) fun V₃ s₃ h₃ => (h₃.trans (tk₁ := tk₁) q₂).trans q₁) hm
theorem ts_compare {l r : Expr} {op : CmpOp} {pos : Pos} {P : Bool → Sto → Prop}
    (h : Ev Γ k sc l loc σ fun a σ₁ => Ev Γ k sc r loc σ₁ fun b σ₂ => Op2 Γ k (compareOp op) a b σ₂ fun c σ₃ => Tr Γ k c σ₃ P) (hm : behindInMarks op r = false) : Ts Γ k sc (.Compare l [op] [r] pos) loc σ P := fun A κ env s hA l' f R =>
  wpAny_isTrue_Compare1 (wpE (h A κ env s hA l' f R) fun V₁ a σ₁ h₁ tk₁ q₁ R₁ r₁ p₁ => by
    refine wpE (p₁ A κ env _ hA l' f R₁) fun V₂ b σ₂ h₂ tk₂ q₂ R₂ r₂ p₂ => ?_
    refine wpE (p₂.at hA l' R₂ (r₁.mono q₂) r₂) fun V₃ c σ₃ h₃ tk₃ q₃ R₃ r₃ p₃ => ?_
    exact wp_no (p₃.at hA l' R₃ r₃) fun V₄ s₄ h₄ => ((h₄.trans (tk₁ := tk₁) q₃).trans (tk₁ := tk₁) q₂).trans q₁) hm

theorem exs_nil {P : AFl → Loc → Sto → Prop} (h : P .next loc σ) : Exs Γ k sc [] loc σ P := fun _ _ _ s _ _ _ R =>
  wpAny_execs_nil ⟨.next, loc, σ, s.heap, s.toks, rfl, .refl _, R, .next, h⟩
/-- a sequence -/
abbrev Seq (Γ : Gd) (k : Nat) (sc : Scope) (rest : List Stmt) (P : AFl → Loc → Sto → Prop) : AFl → Loc → Sto → Prop := fun f l σ => match f with
  | .next => Exs Γ k sc rest l σ P
  | f => P f l σ
theorem exs_cons {st : Stmt} {rest : List Stmt} {P : AFl → Loc → Sto → Prop} (h : Ex Γ k sc st loc σ (Seq Γ k sc rest P)) : Exs Γ k sc (st :: rest) loc σ P := fun A κ env s hA l f R =>
  wpAny_execs_cons (wpX (h A κ env s hA l f R) fun fl g loc₁ σ₁ h₁ tk₁ q R₁ r p => by
    cases r with
    | next => exact wp_no (p A κ env _ hA l f R₁) fun _ _ h => h.trans q
    | brk => exact ⟨_, _, _, _, _, rfl, q, R₁, .brk, p⟩
    | cont => exact ⟨_, _, _, _, _, rfl, q, R₁, .cont, p⟩
    | ret r => exact ⟨_, _, _, _, _, rfl, q, R₁, .ret r, p⟩)

theorem ex_return {e : Expr} {pos : Pos} {P : AFl → Loc → Sto → Prop} (h : Ev Γ k sc e loc σ fun v σ' => P (.ret v) loc σ') : Ex Γ k sc (.Return (some e) pos) loc σ P := fun A κ env s hA l f R =>
  wpAny_Return_some (wpE (h A κ env s hA l f R) fun V v σ' h' tk q R' r p => ⟨_, _, _, _, _, rfl, q, R', .ret r, p⟩)
theorem ex_break {pos : Pos} {P : AFl → Loc → Sto → Prop} (h : P .brk loc σ) : Ex Γ k sc (.Break pos) loc σ P := fun _ _ _ s _ _ _ R =>
  wpAny_Break ⟨_, _, _, s.heap, s.toks, rfl, .refl _, R, .brk, h⟩
theorem ex_continue {pos : Pos} {P : AFl → Loc → Sto → Prop} (h : P .cont loc σ) : Ex Γ k sc (.Continue pos) loc σ P := fun _ _ _ s _ _ _ R =>
  wpAny_Continue ⟨_, _, _, s.heap, s.toks, rfl, .refl _, R, .cont, h⟩
/-- both ways -/
noncomputable def Both (b : Bool) (T F : Prop) : Prop := (b = true → T) ∧ (b = false → F)
theorem ex_if {test : Expr} {body orelse : List Stmt} {pos : Pos} {P : AFl → Loc → Sto → Prop} (h : Ts Γ k sc test loc σ fun b σ' => Both b (Exs Γ k sc body loc σ' P) (Exs Γ k sc orelse loc σ' P)) : Ex Γ k sc (.If test body orelse pos) loc σ P := fun A κ env s hA l f R =>
  wpAny_If (wpT (h A κ env s hA l f R) fun b σ' h' tk q R' p => by
    cases b with
    | true => simp only [if_true]; exact wp_no (p.1 rfl A κ env _ hA l f R') fun _ _ h => h.trans q
    | false => simp only [Bool.false_eq_true, if_false]; exact wp_no (p.2 rfl A κ env _ hA l f R') fun _ _ h => h.trans q)
theorem ev_ifexp {test body orelse : Expr} {pos : Pos} {P : AV → Sto → Prop} (h : Ts Γ k sc test loc σ fun b σ' => Both b (Ev Γ k sc body loc σ' P) (Ev Γ k sc orelse loc σ' P)) : Ev Γ k sc (.IfExp test body orelse pos) loc σ P := fun A κ env s hA l f R =>
  wpAny_IfExp (wpT (h A κ env s hA l f R) fun b σ' h' tk q R' p => by
    cases b with
    | true => simp only [if_true]; exact wp_no (p.1 rfl A κ env _ hA l f R') fun _ _ h => h.trans q
    | false => simp only [Bool.false_eq_true, if_false]; exact wp_no (p.2 rfl A κ env _ hA l f R') fun _ _ h => h.trans q)
end
end Mine
namespace Mine
section
variable {κ : Kap} {env : Env} {loc : Loc} {σ : Sto} {h h' : Heap}

theorem Rep.set_local (R : Rep κ env loc σ h) {x : Str} {v : AV} {V : Value} {m : Str → Option Value} (hn : h.Ns env.locals m) (hm : ∀ x v, loc.lookup x = some v → env.kindOf x = some .local → ∃ V, m x = some V ∧ VRel κ.av h v V)
    (hk : env.kindOf x = some .local) (hn' : h'.Ns env.locals (fun y => if y = x then some V else m y)) (hs : Heap.SameBut env.locals h h') (r : VRel κ.av h v V) : TK κ.av h h' ∧ Rep κ env (lset loc x v) σ h' := by
  have tk : TK κ.av h h' := by
    obtain ⟨o, es, ep, ho, hd, _⟩ := hn
    exact .of_ext_seq ho (fun xs n e => by rw [hd] at e; cases e) hs.extBut
  refine ⟨tk, R.s.ext R.f.Lnew.1 R.f.Lnew.2 hs.extBut tk, ?_⟩
  exact {
    ns := ⟨_, hn', fun y w hy hky => by
      rw [lookup_lset] at hy
      by_cases e : y = x
      · rw [if_pos e] at hy; cases hy; exact ⟨V, by simp only [if_pos e], r.mono tk⟩
      · rw [if_neg e] at hy; obtain ⟨W, a, b⟩ := hm y w hy hky; exact ⟨W, by simp only [if_neg e]; exact a, b.mono tk⟩⟩
    cell := fun y hy => by
      obtain ⟨c, W, hc, ⟨o, ho, hd⟩, hw⟩ := R.f.cell y hy
      have hne : c ≠ env.locals := fun e => by
        obtain ⟨o', es, ep, ho', hd', _⟩ := hn
        rw [e, ho'] at ho; cases ho; rw [hd'] at hd; cases hd
      refine ⟨c, W, hc, ⟨o, hs.extBut _ _ hne ho, hd⟩, fun w hw' => ?_⟩
      rw [lookup_lset, if_neg (fun e => by rw [e, hk] at hy; cases hy)] at hw'
      obtain ⟨W', a, b⟩ := hw w hw'
      exact ⟨W', a, b.mono tk⟩
    free := fun y w hy hky => by
      rw [lookup_lset, if_neg (fun e => by rw [e, hk] at hky; cases hky)] at hy
      obtain ⟨c, o, W, a, b, d, e⟩ := R.f.free y w hy hky
      exact ⟨c, o, W, a, b, d, e.mono tk⟩
    apart := R.f.apart
    Lnew := R.f.Lnew
    cnew := R.f.cnew }

theorem Rep.set_cell (R : Rep κ env loc σ h) {x : Str} {v : AV} {V : Value} {c : Addr} {V₀ : Option Value} (hk : env.kindOf x = some .cell) (hc : env.cells.lookup x = some c) (hi : h.IsCell c V₀)
    (hi' : h'.IsCell c (some V)) (hs : Heap.SameBut c h h') (r : VRel κ.av h v V) (hf : env.func.isSome = true) : TK κ.av h h' ∧ Rep κ env (lset loc x v) σ h' := by
  have tk : TK κ.av h h' := by
    obtain ⟨o, ho, hd⟩ := hi
    exact .of_ext_seq ho (fun xs n e => by rw [hd] at e; cases e) hs.extBut
  have cn := R.f.cnew x c hk hc
  refine ⟨tk, R.s.ext (cn.2.1 hf) cn.1 hs.extBut tk, ?_⟩
  exact {
    ns := by
      obtain ⟨m, hn, hm⟩ := R.f.ns
      have hne : env.locals ≠ c := fun e => by
        obtain ⟨o', es, ep, ho', hd', _⟩ := hn
        obtain ⟨o, ho, hd⟩ := hi
        rw [e, ho] at ho'; cases ho'; rw [hd'] at hd; cases hd
      refine ⟨m, hn.sameBut hs hne, fun y w hy hky => ?_⟩
      rw [lookup_lset, if_neg (fun e => by rw [e, hk] at hky; cases hky)] at hy
      obtain ⟨W, a, b⟩ := hm y w hy hky
      exact ⟨W, a, b.mono tk⟩
    cell := fun y hy => by
      obtain ⟨c', W, hc', hw, hv⟩ := R.f.cell y hy
      by_cases e : y = x
      · subst e
        rw [hc] at hc'; cases hc'
        refine ⟨c, some V, hc, hi', fun w hw' => ?_⟩
        rw [lookup_lset, if_pos rfl] at hw'; cases hw'
        exact ⟨V, rfl, r.mono tk⟩
      · have hne : c' ≠ c := fun e' => e (R.f.apart y x c hy hk (e' ▸ hc') hc)
        refine ⟨c', W, hc', hw.sameBut hs hne, fun w hw' => ?_⟩
        rw [lookup_lset, if_neg e] at hw'
        obtain ⟨W', a, b⟩ := hv w hw'
        exact ⟨W', a, b.mono tk⟩
    free := fun y w hy hky => by
      rw [lookup_lset, if_neg (fun e => by rw [e, hk] at hky; cases hky)] at hy
      obtain ⟨c, o, W, a, b, d, e⟩ := R.f.free y w hy hky
      exact ⟨c, o, W, a, b, d, e.mono tk⟩
    apart := R.f.apart
    Lnew := R.f.Lnew
    cnew := R.f.cnew }
end

section
variable {Γ : Gd} {k : Nat} {sc : Scope} {loc : Loc} {σ : Sto}

/-- a local stored -/
theorem store_name {x : Str} {v : AV} {P : Loc → Sto → Prop} (hk : sc.names.lookup x = some .local ∨ (sc.names.lookup x = some .cell ∧ sc.names.lookup (Str.ofString ".0") = none)) (h : P (lset loc x v) σ) {A : Around} {κ : Kap} {env : Env} {s : Shared} {V : Value} (f : Fits sc env) (R : Rep κ env loc σ s.heap) (r : VRel κ.av s.heap v V) :
    wpAny Γ.M A (storeName env x V) (fun _ s' => ∃ loc' σ' h' tk, s' = { s with heap := h', toks := tk } ∧ TK κ.av s.heap h' ∧ Rep κ env loc' σ' h' ∧ P loc' σ') No s := by
  rcases hk with hk | hk
  · have hl : env.kindOf x = some .local := by rw [f.kindOf]; exact hk
    obtain ⟨m, hn, hm⟩ := R.f.ns
    exact wpAny_storeName_local hl hn (fun h' hn' hs => let ⟨a, b⟩ := R.set_local hn hm hl hn' hs r; ⟨_, _, h', _, rfl, a, b, h⟩) f.hp
  · have hl : env.kindOf x = some .cell := by rw [f.kindOf]; exact hk.1
    obtain ⟨c, W, hc, hi, _⟩ := R.f.cell x hl
    exact wpAny_storeName_cell f.fkind hl hc hi (fun h' hi' hs => let ⟨a, b⟩ := R.set_cell hl hc hi hi' hs r (f.fn hk.2); ⟨_, _, h', s.toks, rfl, a, b, h⟩)

theorem asg_name {x : Str} {pos : Pos} {v : AV} {P : Loc → Sto → Prop} (hk : sc.names.lookup x = some .local ∨ (sc.names.lookup x = some .cell ∧ sc.names.lookup (Str.ofString ".0") = none)) (h : P (lset loc x v) σ) : Asg Γ k sc (.Name x pos) v loc σ P :=
  fun A κ env s V _ _ f R r => wpAny_assign_Name (store_name hk h f R r)

/-- targets one by one -/
noncomputable def AsgL (Γ : Gd) (k : Nat) (sc : Scope) (ts : List Expr) (vs : List AV) (loc : Loc) (σ : Sto) (P : Loc → Sto → Prop) : Prop :=
  ∀ A κ env s Vs, AOk k A → Γ.le κ → Fits sc env → Rep κ env loc σ s.heap → VRels κ.av s.heap vs Vs → wpAny Γ.M A (assignInOrder ((assignEach ts env).map (·.2)) Vs)
    (fun _ s' => ∃ loc' σ' h' tk, s' = { s with heap := h', toks := tk } ∧ TK κ.av s.heap h' ∧ Rep κ env loc' σ' h' ∧ P loc' σ') No s
theorem asgL_nil {P : Loc → Sto → Prop} (h : P loc σ) : AsgL Γ k sc [] [] loc σ P := fun A κ env s Vs _ _ _ R _ => by
  have : assignInOrder ((assignEach [] env).map (·.2)) Vs = pure () := rfl
  rw [this]
  exact wpAny_pure ⟨_, _, s.heap, s.toks, rfl, .refl _, R, h⟩
theorem asgL_cons {t : Expr} {ts : List Expr} {v : AV} {vs : List AV} {P : Loc → Sto → Prop} (h : Asg Γ k sc t v loc σ fun loc' σ' => AsgL Γ k sc ts vs loc' σ' P)
    (hs : ∀ env, assignEach (t :: ts) env = (false, assign t env) :: assignEach ts env) : AsgL Γ k sc (t :: ts) (v :: vs) loc σ P := fun A κ env s Vs hA l f R r => by
  cases r with
  | cons r rs =>
    rename_i V Vs
    rw [hs]
    show wpAny _ _ (do holding Vs (assign t env V); assignInOrder ((assignEach ts env).map (·.2)) Vs) _ _ s
    refine wpAny_bind (wpAny_holding (wpA (h A κ env s V hA l f R r) fun loc' σ' h' tk q R' p => ?_))
    exact wpA (p A κ env _ Vs hA l f R' (rs.mono q)) fun l₂ σ₂ h₂ tk₂ q₂ R₂ p₂ => ⟨l₂, σ₂, h₂, tk₂, rfl, q.trans q₂, R₂, p₂⟩

theorem size_new {h : Heap} : h.get? h.objs.size = none := by
  cases e : h.get? h.objs.size with
  | none => rfl
  | some o => exact absurd (Heap.lt_size e) (Nat.lt_irrefl _)
theorem ext_new {h h' : Heap} (k : Heap.ExtBut h.objs.size h h') : ∀ b o, h.get? b = some o → h'.get? b = some o := fun b o e => k b o (Nat.ne_of_lt (Heap.lt_size e)) e
/-- the heap only grew -/
theorem Rep.grow {κ : Kap} {env : Env} {h h' : Heap} (R : Rep κ env loc σ h) (k : ∀ b o, h.get? b = some o → h'.get? b = some o) : TK κ.av h h' ∧ Rep κ env loc σ h' :=
  ⟨.of_keeps k, R.s.keep k, R.f.stp ⟨fun b o _ e => k b o e, fun a ha => .inl ha, .of_keeps k⟩⟩

theorem length_assignEach (ts : List Expr) (env : Env) : (assignEach ts env).length = ts.length := by
  induction ts with
  | nil => rfl
  | cons t ts ih => cases t <;> simp [assignEach, ih]

/-- a tuple unpacked -/
theorem asg_tuple {elts : List Expr} {n : Nat} {pos : Pos} {xs : List AV} {P : Loc → Sto → Prop} (h : AsgL Γ k sc elts xs loc σ P) (hl : elts.length = xs.length) (hst : ∀ env, (assignEach elts env).findIdx? (·.1) = none) :
    Asg Γ k sc (.Tuple elts n pos) (.tup xs) loc σ P := fun A κ env s V hA l f R r => by
  cases r with
  | tup na t rs =>
    rename_i a vs
    refine wpAny_assign_Tuple hA.1 t.isTuple (by rw [length_assignEach, hl, ← rs.length]; simp) (hst env) fun h' he => ?_
    obtain ⟨q, R'⟩ := R.grow (ext_new he)
    exact wpA (h A κ env _ _ hA l f R' (rs.mono q)) fun l₂ σ₂ h₂ tk₂ q₂ R₂ p₂ => ⟨l₂, σ₂, h₂, tk₂, rfl, q.trans q₂, R₂, p₂⟩

/-- x = e, one target, plain -/
theorem ex_assign {t value : Expr} {pos : Pos} {P : AFl → Loc → Sto → Prop} (h : Ev Γ k sc value loc σ fun v σ' => Asg Γ k sc t v loc σ' fun loc' σ'' => P .next loc' σ'')
    (hs : ∀ env, Fits sc env → swapsWithSole [t] value pos.line env = pure false) (hw : ∀ env, Fits sc env → swappedStores [t] value env = pure none) (he : ∀ env, (assignEach [t] env).map (·.2) = [assign t env]) : Ex Γ k sc (.Assign [t] value pos) loc σ P := fun A κ env s hA l f R =>
  wpAny_Assign_stores (wpE (h A κ env s hA l f R) fun V v σ₁ h₁ tk₁ q R₁ r p => by
    rw [he]
    show wpAny _ _ (assign t env V) _ _ _
    exact wpA (p A κ env _ V hA l f R₁ r) fun l₂ σ₂ h₂ tk₂ q₂ R₂ p₂ => ⟨_, l₂, σ₂, h₂, tk₂, rfl, q.trans q₂, R₂, .next, p₂⟩) (hs env f) (hw env f)

/-- the names stored from behind -/
noncomputable def lsets (loc : Loc) : List Str → List AV → Loc
  | x :: xs, v :: vs => lset (lsets loc xs vs) x v
  | _, _ => loc
theorem lsets_cons (loc : Loc) (x : Str) (xs : List Str) (v : AV) (vs : List AV) : lsets loc (x :: xs) (v :: vs) = lset (lsets loc xs vs) x v := rfl

noncomputable def AsgN (Γ : Gd) (k : Nat) (sc : Scope) (xs : List Str) (vs : List AV) (loc : Loc) (σ : Sto) (P : Loc → Sto → Prop) : Prop :=
  ∀ A κ env s Vs, AOk k A → Γ.le κ → Fits sc env → Rep κ env loc σ s.heap → VRels κ.av s.heap vs Vs → wpAny Γ.M A (assignInOrder (xs.map fun n => bindName env n) Vs)
    (fun _ s' => ∃ loc' σ' h' tk, s' = { s with heap := h', toks := tk } ∧ TK κ.av s.heap h' ∧ Rep κ env loc' σ' h' ∧ P loc' σ') No s
theorem asgN_nil {P : Loc → Sto → Prop} (h : P loc σ) : AsgN Γ k sc [] [] loc σ P := fun A κ env s Vs _ _ _ R _ => by
  have : assignInOrder (([] : List Str).map fun n => bindName env n) Vs = pure () := rfl
  rw [this]
  exact wpAny_pure ⟨_, _, s.heap, s.toks, rfl, .refl _, R, h⟩
theorem asgN_cons {x : Str} {xs : List Str} {v : AV} {vs : List AV} {P : Loc → Sto → Prop} (hk : sc.names.lookup x = some .local) (h : AsgN Γ k sc xs vs (lset loc x v) σ P) : AsgN Γ k sc (x :: xs) (v :: vs) loc σ P := fun A κ env s Vs hA l f R r => by
  cases r with
  | cons r rs =>
    rename_i V Vs
    show wpAny _ _ (do holding Vs (bindName env x V); assignInOrder (xs.map fun n => bindName env n) Vs) _ _ s
    refine wpAny_bind (wpAny_holding (wpAny_bindName (wpA (store_name (P := fun loc' σ' => AsgN Γ k sc xs vs loc' σ' P) (.inl hk) h f R r) fun loc' σ' h' tk q R' p => ?_)))
    exact wpA (p A κ env _ Vs hA l f R' (rs.mono q)) fun l₂ σ₂ h₂ tk₂ q₂ R₂ p₂ => ⟨l₂, σ₂, h₂, tk₂, rfl, q.trans q₂, R₂, p₂⟩
theorem VRels.reverse {av : Avd} {h : Heap} : ∀ {xs : List AV} {vs : List Value}, VRels av h xs vs → VRels av h xs.reverse vs.reverse
  | _, _, .nil => .nil
  | _, _, .cons a r => by simp only [List.reverse_cons]; exact (VRels.reverse r).append (.cons a .nil)

/-- two or three names at once -/
theorem ex_swapped {elts : List Expr} {n : Nat} {tpos pos : Pos} {value : Expr} {P : AFl → Loc → Sto → Prop} (names : List Str) (h : Ev Γ k sc value loc σ fun v σ' => ∃ xs, v = .tup xs ∧ xs.length = names.length ∧ AsgN Γ k sc names.reverse xs.reverse loc σ' fun loc' σ'' => P .next loc' σ'')
    (hs : ∀ env, Fits sc env → swapsWithSole [.Tuple elts n tpos] value pos.line env = pure false) (hw : ∀ env, Fits sc env → swappedStores [.Tuple elts n tpos] value env = pure (some names)) : Ex Γ k sc (.Assign [.Tuple elts n tpos] value pos) loc σ P := fun A κ env s hA l f R =>
  Assign_Tuple_swapped (wp_no (h A κ env s hA l f R) fun V s₁ pst => by
    obtain ⟨v, σ₁, h₁, tk₁, e, q, R₁, r, xs, ev, hl, p⟩ := pst
    subst e; subst ev
    cases r with
    | tup na t rs =>
      rename_i a vs
      have hn : names.length = vs.toArray.size := by rw [← hl, ← rs.length]; simp
      rw [hn]
      refine wpAny_unpackItems_tuple hA.1 t.isTuple fun h' he => ?_
      obtain ⟨q', R'⟩ := R₁.grow (ext_new he)
      exact wpA (p A κ env _ _ hA l f R' ((rs.mono q').reverse)) fun l₂ σ₂ h₂ tk₂ q₂ R₂ p₂ => ⟨_, l₂, σ₂, h₂, tk₂, rfl, (q.trans q').trans q₂, R₂, .next, p₂⟩) (hs env f) (hw env f)

/-- a call as a statement -/
theorem ex_expr {e : Expr} {pos : Pos} {P : AFl → Loc → Sto → Prop} (h : Ev Γ k sc e loc σ fun v σ' => v = .none ∧ P .next loc σ') (hs : ∀ env, Fits sc env → swapsWith e none pos.line env = pure false) : Ex Γ k sc (.Expr e pos) loc σ P := fun A κ env s hA l f R => by
  refine wpAny_Expr (wpE (h A κ env s hA l f R) fun V v σ₁ h₁ tk₁ q R₁ r ⟨ev, p⟩ => ?_) (by unfold interactive; rw [f.fkind]; rfl) (hs env f)
  subst ev
  cases r
  exact ⟨_, _, _, _, _, rfl, q, R₁, .next, p⟩

theorem ex_aug_name {x : Str} {op : Operator} {value : Expr} {pos' pos : Pos} {a : AV} {P : AFl → Loc → Sto → Prop} (hk : sc.names.lookup x = some .local) (hv : loc.lookup x = some a)
    (h : Ev Γ k sc value loc σ fun v σ' => Op2 Γ k (inplaceOp op) a v σ' fun r σ'' => P .next (lset loc x r) σ'') : Ex Γ k sc (.AugAssign (.Name x pos') op value pos) loc σ P := fun A κ env s hA l f R => by
  obtain ⟨m, hn, hm⟩ := R.f.ns
  have hl : env.kindOf x = some .local := by rw [f.kindOf]; exact hk
  obtain ⟨V, e, r⟩ := hm x a hv hl
  refine wpAny_AugAssign_Name (wpAny_loadName_local f.fkind hl hn e (wpE (h A κ env s hA l f R) fun V₁ v₁ σ₁ h₁ tk₁ q₁ R₁ r₁ p₁ => ?_))
  refine wpE (p₁.at hA l R₁ (r.mono q₁) r₁) fun V₂ v₂ σ₂ h₂ tk₂ q₂ R₂ r₂ p₂ => ?_
  exact wpA (store_name (P := fun loc' σ' => P .next loc' σ') (.inl hk) p₂ f R₂ r₂) fun l₃ σ₃ h₃ tk₃ q₃ R₃ p₃ => ⟨_, l₃, σ₃, h₃, tk₃, rfl, (q₁.trans q₂).trans q₃, R₃, .next, p₃⟩

/-- one turn of a while -/
abbrev Turn (P : AFl → Loc → Sto → Prop) (again : Loc → Sto → Prop) : AFl → Loc → Sto → Prop := fun f l σ => match f with
  | .next => again l σ
  | .cont => again l σ
  | .brk => P .next l σ
  | .ret v => P (.ret v) l σ
abbrev PstC (κ : Kap) (env : Env) (s : Shared) (P : AFl → Loc → Sto → Prop) : Result → Shared → Prop := fun r s' => match r with
  | .ok f => PstX κ env s P f s'
  | .error _ => False
noncomputable def Whl (Γ : Gd) (k : Nat) (sc : Scope) (test : Expr) (body : List Stmt) (loc : Loc) (σ : Sto) (P : AFl → Loc → Sto → Prop) : Prop :=
  ∀ A κ env s, AOk k A → Γ.le κ → Fits sc env → Rep κ env loc σ s.heap → codeAny Γ.M A (.whileLoop test body [] env) (PstC κ env s P) s
theorem whl {test : Expr} {body : List Stmt} {P : AFl → Loc → Sto → Prop}
    (h : Ts Γ k sc test loc σ fun b σ' => Both b (Exs Γ k sc body loc σ' (Turn P fun l σ'' => Whl Γ k sc test body l σ'' P)) (P .next loc σ')) : Whl Γ k sc test body loc σ P := fun A κ env s hA l f R => by
  refine codeAny_of_tree ?_
  show wpAny _ A ((whileTurn test body [] env).onRaise (fun x => do noteFrame x env; theTreesLotGoes x)) _ _ s
  refine wpAny_noted ?_
  simp only [whileTurn]
  refine wpAny_bind (wpT (h A κ env s hA l f R) fun b σ' h' tk q R' p => ?_)
  cases b with
  | true =>
    simp only [if_true]
    refine wpAny_bind (wpX (p.1 rfl A κ env _ hA l f R') fun fl g l₂ σ₂ h₂ tk₂ q₂ R₂ r₂ p₂ => ?_)
    have go : Whl Γ k sc test body l₂ σ₂ P → codeAny Γ.M A (.whileLoop test body [] env) (PstC κ env s P) { s with heap := h₂, toks := tk₂ } := fun again =>
      codeAny_mono (again A κ env { s with heap := h₂, toks := tk₂ } hA l f R₂) fun r s₃ x => by
        cases r with
        | ok fl => exact PstX.trans (s := s) (tk₁ := tk₂) (q.trans q₂) x
        | error _ => exact x
    cases r₂ with
    | next => exact wpAny_pure ⟨rfl, go p₂⟩
    | cont => exact wpAny_pure ⟨rfl, go p₂⟩
    | brk => exact wpAny_pure ⟨_, _, _, _, _, rfl, q.trans q₂, R₂, .next, p₂⟩
    | ret r => exact wpAny_pure ⟨_, _, _, _, _, rfl, q.trans q₂, R₂, .ret r, p₂⟩
  | false =>
    simp only [Bool.false_eq_true, if_false]
    exact wpAny_bind (wpAny_execs_nil (wpAny_pure ⟨_, _, _, _, _, rfl, q, R', .next, p.2 rfl⟩))
theorem ex_while {test : Expr} {body : List Stmt} {pos : Pos} {P : AFl → Loc → Sto → Prop} (h : Whl Γ k sc test body loc σ P) : Ex Γ k sc (.While test body [] pos) loc σ P := fun A κ env s hA l f R =>
  wpAny_While (codeAny_mono (h A κ env s hA l f R) fun r s' x => by
    cases r with
    | ok _ => exact x
    | error _ => exact x.elim)
end
end Mine
namespace Mine
section
variable {Γ : Gd} {k : Nat} {sc : Scope} {loc : Loc} {σ : Sto}

/-! lists of expressions -/
noncomputable def noStar : Expr → Bool
  | .Starred .. => false
  | _ => true
theorem starEach_eq {es : List Expr} (h : es.all noStar = true) (env : Env) : starEach es env = es.map fun e => (false, eval e env) := by
  induction es with
  | nil => rfl
  | cons e r ih =>
    simp only [List.all_cons, Bool.and_eq_true] at h
    have := ih h.2
    cases e <;> first | (exact absurd h.1 Bool.false_ne_true) | (simp only [starEach, List.map_cons, this])
theorem backTo_plain (pos : Pos) (env : Env) (es : List Expr) : backTo pos (es.map fun e => (false, eval e env)) = es.map fun e => (false, eval e env) := by
  induction es with
  | nil => rfl
  | cons e r ih => simp only [List.map_cons, backTo] at ih ⊢; rw [ih]; rfl

theorem evs_nil {P : List AV → Sto → Prop} (h : P [] σ) : Evs Γ k sc [] loc σ P := fun _ _ _ s _ _ _ _ R =>
  wpAny_items_nil ⟨_, _, s.heap, s.toks, rfl, .refl _, R, .nil, h⟩
theorem evs_cons {e : Expr} {es : List Expr} {P : List AV → Sto → Prop} (h : Ev Γ k sc e loc σ fun v σ' => Evs Γ k sc es loc σ' fun vs σ'' => P (v :: vs) σ'') (hs : (e :: es).all noStar = true) : Evs Γ k sc (e :: es) loc σ P := fun A κ env s pos hA l f R => by
  refine wpAny_items_cons (wpE (h A κ env s hA l f R) fun V v σ₁ h₁ tk₁ q R₁ r p => ?_) ?_
  · skip
    exact wpL (p A κ env _ pos hA l f R₁) fun Vs vs σ₂ h₂ tk₂ q₂ R₂ r₂ p₂ => ⟨_, σ₂, h₂, tk₂, rfl, q.trans q₂, R₂, .cons (r.mono q₂) r₂, p₂⟩
  · rw [starEach_eq hs, List.map_cons]
    simp only [List.all_cons, Bool.and_eq_true] at hs
    rw [starEach_eq hs.2]

/-! displays -/
theorem push_keeps {h : Heap} (o : Obj) : ∀ b o', h.get? b = some o' → (h.push o).get? b = some o' := fun _ _ e => Heap.get?_push_of_some _ e
theorem Rep.add {κ : Kap} {env : Env} {h h' : Heap} (R : Rep κ env loc σ h) {a : Addr} {o : AO} {ob : Obj} (hn : h.get? a = none) (k : ∀ b o, h.get? b = some o → h'.get? b = some o) (hob : h'.get? a = some ob) (r : ORel κ.av h' o ob) : Rep κ env loc ((a, o) :: σ) h' :=
  ⟨R.s.add hn k hob r, R.f.stp ⟨fun b o _ e => k b o e, fun b hb => by
    rcases List.mem_cons.mp hb with e | e
    · exact .inr (e ▸ hn)
    · exact .inl e, .of_keeps k⟩⟩

theorem ev_tuple {es : List Expr} {n : Nat} {pos : Pos} {P : AV → Sto → Prop} (h : Evs Γ k sc es loc σ fun vs σ' => vs.length ≤ sizeLine ∧ P (.tup vs) σ') : Ev Γ k sc (.Tuple es n pos) loc σ P := fun A κ env s hA l f R =>
  wpAny_Tuple (wpL (h A κ env s pos hA l f R) fun Vs vs σ₁ h₁ tk₁ q R₁ r ⟨hl, p⟩ => by
    refine ⟨by rw [r.length]; exact hl, .tup vs, σ₁, _, tk₁, rfl, q.trans (.of_keeps (push_keeps _)), (R₁.grow (push_keeps _)).2, .tup (R₁.s.not_av size_new) ⟨0, Heap.get?_push_size _ rfl⟩ (r.mono (.of_keeps (push_keeps _))), p⟩)
theorem ev_list {es : List Expr} {pos : Pos} {P : AV → Sto → Prop} (h : Evs Γ k sc es loc σ fun vs σ' => vs.length ≤ sizeLine ∧ ∀ a, P (.ref a) ((a, .list vs) :: σ')) : Ev Γ k sc (.List es pos) loc σ P := fun A κ env s hA l f R =>
  wpAny_List (wpL (h A κ env s pos hA l f R) fun Vs vs σ₁ h₁ tk₁ q R₁ r ⟨hl, p⟩ => by
    refine ⟨by rw [r.length]; exact hl, .ref _, _, _, tk₁, rfl, q.trans (.of_keeps (push_keeps _)), R₁.add size_new (push_keeps _) (Heap.get?_push_size _ rfl) (o := .list vs) ⟨Vs, 0, rfl, r.mono (.of_keeps (push_keeps _))⟩, .ref _, p _⟩)

/-! calls -/
/-- what a call does -/
abbrev Cal (Γ : Gd) (k : Nat) (F : Value) (xs : List AV) (σ : Sto) (P : AV → Sto → Prop) : Prop := Ops Γ k (fun Xs => call F Xs) xs σ P
noncomputable def Kpr (Γ : Gd) (σ : Sto) (F : Value) : Prop := ∀ κ h, Γ.le κ → RepS κ σ h → ∃ kp, (kp = Keeper.frame ∨ kp = Keeper.machine ∨ kp = Keeper.boundFrame) ∧ Looks Γ.M h (keeperOf F) kp
theorem kpr_builtin {id : String} : Kpr Γ σ (.builtin id) := fun _ _ _ _ => ⟨.machine, .inr (.inl rfl), .of_pure rfl⟩
theorem kpr_type {T : String} : Kpr Γ σ (.type T) := fun _ _ _ _ => ⟨.machine, .inr (.inl rfl), .of_pure rfl⟩
theorem kpr_fn {f : Addr} {o : Obj} {fd : FuncData} (ho : Γ.hB.get? f = some o) (hd : o.data = .func fd) : Kpr Γ σ (.ref f) := fun κ h l R =>
  ⟨.frame, .inl rfl, fun A Q E s kk q => by
    unfold keeperOf
    refine wpAny_bind (wpAny_load (kk _ _ (R.prot _ _ (l _ _ ho))) ?_)
    rw [hd]; exact wpAny_pure q⟩
theorem kpr_obj {f : Addr} {o : Obj} {fd : FuncData} (ho : (f, .obj o) ∈ σ) (hd : o.data = .func fd) : Kpr Γ σ (.ref f) := fun κ h l R =>
  ⟨.frame, .inl rfl, fun A Q E s kk q => by
    obtain ⟨ob, e, rfl, _⟩ := R.objs _ ho
    unfold keeperOf
    refine wpAny_bind (wpAny_load (kk _ _ e) ?_)
    rw [hd]; exact wpAny_pure q⟩

theorem call_args {F : Value} {first : List AV} {es : List Expr} {P : AV → Sto → Prop} (hs : es.all noStar = true)
    (h : Evs Γ k sc es loc σ fun vs σ' => Kpr Γ σ' F ∧ Cal Γ k F (first ++ vs) σ' P) {A : Around} {κ : Kap} {env : Env} {s : Shared} {Fs : List Value} (pos : Pos) (hA : AOk k A) (l : Γ.le κ) (f : Fits sc env) (R : Rep κ env loc σ s.heap) (hf : VRels κ.av s.heap first Fs) :
    wpAny Γ.M A (callWith pos F Fs (backTo pos (starEach es env)) []) (PstE κ env loc s P) No s := by
  refine callWith_of (P := fun h => ∃ kp, (kp = Keeper.frame ∨ kp = Keeper.machine ∨ kp = Keeper.boundFrame) ∧ Looks Γ.M h (keeperOf F) kp) ?_ (fun _ x => x) ?_
  · rw [starEach_eq hs, backTo_plain]
    simp
  · have fin : ∀ Vs s₁, PstL κ env loc s (fun vs σ' => Kpr Γ σ' F ∧ Cal Γ k F (first ++ vs) σ' P) Vs s₁ → (fun (a : Args) (s₁ : Shared) => (∃ kp, (kp = Keeper.frame ∨ kp = Keeper.machine ∨ kp = Keeper.boundFrame) ∧ Looks Γ.M s₁.heap (keeperOf F) kp) ∧ wpAny Γ.M A (call F (Fs ++ a.pos) a.kw) (PstE κ env loc s P) No s₁) ⟨Vs, []⟩ s₁ := by
      intro Vs s₁ ⟨vs, σ₁, h₁, tk₁, e₁, q, R₁, r, kp, p⟩
      subst e₁
      refine ⟨kp κ h₁ l R₁.s, ?_⟩
      exact wp_no (p.at hA l R₁ ((hf.mono q).append r)) fun _ _ x => x.trans q
    have w := h A κ env s pos hA l f R
    cases es with
    | nil => exact fun Θ p hΘ => evalArgs_nil3 (fin [] s (w Θ p hΘ)) Θ p hΘ
    | cons e es =>
      have he : starEach (e :: es) env = (false, eval e env) :: starEach es env := by
        rw [starEach_eq hs, List.map_cons]
        simp only [List.all_cons, Bool.and_eq_true] at hs
        rw [starEach_eq hs.2]
      rw [he] at w ⊢
      exact evalArgs_plain (wp_no w fin)
end
end Mine
namespace Mine

structure Gd.Ok (Γ : Gd) (mg mb : Str → Option Value) : Prop where
  g : Γ.hB.Ns mainGlobals mg
  b : Γ.hB.Ns builtinsNs mb
  nolimit : Γ.hB.NoLimit

section
variable {Γ : Gd} {k : Nat} {sc : Scope} {loc : Loc} {σ : Sto} {mg mb : Str → Option Value}
theorem Gd.le.up {κ : Kap} {h : Heap} (l : Γ.le κ) (R : RepS κ σ h) : ∀ b o, Γ.hB.get? b = some o → h.get? b = some o := fun b o e => R.prot _ _ (l _ _ e)

theorem ev_global {x : Str} {pos : Pos} {V : Value} {P : AV → Sto → Prop} (G : Γ.Ok mg mb) (hk : sc.names.lookup x = some .globalImplicit) (hv : mg x = some V) (h : P (.raw V) σ) (hd : (x == ("__debug__" : Str)) = false) : Ev Γ k sc (.Name x pos) loc σ P := fun A κ env s hA l f R =>
  Name_function_global f.fkind (by rw [f.kindOf]; exact hk) (loadGlobal_global (mg := mg) (by rw [f.glob]; exact G.g.keeps (l.up R.s)) hv ⟨_, _, s.heap, s.toks, rfl, .refl _, R, .raw _, h⟩) hd
theorem ev_builtin {x : Str} {pos : Pos} {V : Value} {P : AV → Sto → Prop} (G : Γ.Ok mg mb) (hk : sc.names.lookup x = some .globalImplicit) (hm : mg x = none) (hv : mb x = some V) (h : P (.raw V) σ) (hd : (x == ("__debug__" : Str)) = false) : Ev Γ k sc (.Name x pos) loc σ P := fun A κ env s hA l f R =>
  Name_function_global f.fkind (by rw [f.kindOf]; exact hk) (loadGlobal_builtin (mg := mg) (mb := mb) (by rw [f.glob]; exact G.g.keeps (l.up R.s)) hm (by rw [f.blt]; exact G.b.keeps (l.up R.s)) hv ⟨_, _, s.heap, s.toks, rfl, .refl _, R, .raw _, h⟩) hd

/-- f(args) -/
theorem ev_call {x : Str} {p pos : Pos} {es : List Expr} {P : AV → Sto → Prop} (hs : es.all noStar = true)
    (h : Ev Γ k sc (.Name x p) loc σ fun fv σ₁ => ∃ F, fv = .raw F ∧ Evs Γ k sc es loc σ₁ fun vs σ₂ => Kpr Γ σ₂ F ∧ Cal Γ k F vs σ₂ P) : Ev Γ k sc (.Call (.Name x p) es [] pos) loc σ P := fun A κ env s hA l f R => by
  rw [arm_eval_Call_Name']
  refine wpAny_bind (wp_no (h A κ env s hA l f R) fun V s₁ pst => ?_)
  obtain ⟨v, σ₁, h₁, tk₁, e₁, q, R₁, r, F, rfl, p⟩ := pst
  subst e₁
  cases r
  exact wp_no (call_args (first := []) hs p pos hA l f R₁ .nil) fun _ _ x => x.trans q

noncomputable def retv : AFl → AV
  | .ret v => v
  | _ => .none
theorem zip_rev_lookup : ∀ (names : List Str) (Xs : List Value), names.Nodup → ∀ x, (names.zip Xs).reverse.lookup x = (names.zip Xs).lookup x
  | [], _, _, x => by simp
  | _ :: _, [], _, x => by simp
  | n :: names, X :: Xs, hn, x => by
    simp only [List.nodup_cons] at hn
    simp only [List.zip_cons_cons, List.reverse_cons, List.lookup_append, zip_rev_lookup names Xs hn.2 x, List.lookup_cons, List.lookup_nil]
    by_cases e : x = n
    · subst e
      have : (names.zip Xs).lookup x = none := by
        rw [List.lookup_eq_none_iff]
        intro p hp
        have : p.1 ∈ names := by
          obtain ⟨a, b⟩ := p
          exact (List.of_mem_zip hp).1
        exact bne_iff_ne.mpr fun (e : x = p.1) => hn.1 (e ▸ this)
      rw [this]; simp
    · simp [beq_eq_false_iff_ne.mpr e]
theorem zip_lookup {av : Avd} {h : Heap} : ∀ {names : List Str} {xs : List AV} {Xs : List Value}, VRels av h xs Xs → ∀ {x : Str} {v : AV}, (names.zip xs).lookup x = some v → x ∈ names ∧ ∃ V, (names.zip Xs).lookup x = some V ∧ VRel av h v V
  | [], _, _, _, x, v, e => by simp at e
  | _ :: _, _, _, .nil, x, v, e => by simp at e
  | n :: names, _, _, .cons r rs, x, v, e => by
    simp only [List.zip_cons_cons, List.lookup_cons] at e ⊢
    by_cases ex : x = n
    · subst ex
      simp only [beq_self_eq_true] at e ⊢
      cases e
      exact ⟨.head _, _, rfl, r⟩
    · simp only [beq_eq_false_iff_ne.mpr ex] at e ⊢
      obtain ⟨m, V, a, b⟩ := zip_lookup rs e
      exact ⟨.tail _ m, V, a, b⟩

/-- what is asked of a def -/
structure FnOk (Γ : Gd) (f : Addr) (fd : FuncData) (body : List Stmt) (names : List Str) : Prop where
  obj : ∃ o, Γ.hB.get? f = some o ∧ o.data = .func fd
  hb : fd.body = .stmts body
  code : Γ.hB.CodeRec fd.code fd.qualname
  bind : ∀ Xs : List Value, Xs.length = names.length → bindArgs fd ⟨Xs, []⟩ = pure (names.zip Xs)
  nodup : names.Nodup
  glob : fd.globals = mainGlobals
  blt : fd.builtins = builtinsNs
  co : fd.scope.isCoroutine = false
  gen : fd.scope.isGenerator = false
  kind : fd.scope.kind = .function
  clo : fd.closure = []

/-- what is known may be less -/
noncomputable def Drp (σ : Sto) (Q : Sto → Prop) : Prop := ∃ σ', σ'.Sublist σ ∧ Q σ'
theorem drp {σ : Sto} {Q : Sto → Prop} (h : Q σ) : Drp σ Q := ⟨σ, .refl _, h⟩
/-- a call, as code -/
noncomputable def CalC (Γ : Gd) (k : Nat) (F : Value) (xs : List AV) (σ : Sto) (P : AV → Sto → Prop) : Prop :=
  ∀ A κ s Xs, AOk k A → Γ.le κ → RepS κ σ s.heap → VRels κ.av s.heap xs Xs → codeAny Γ.M A (.call F ⟨Xs, []⟩) (fun r s' => match r with | .ok (.ret V) => PstS κ s P V s' | .ok _ => False | .error e => No e s') s
theorem cal_of {F : Value} {xs : List AV} {P : AV → Sto → Prop} (h : CalC Γ k F xs σ P) : Cal Γ k F xs σ P := fun A κ s Xs hA l R rs => wpAny_call (h A κ s Xs hA l R rs)

theorem fn_def {f : Addr} {fd : FuncData} {body : List Stmt} {names : List Str} {xs : List AV} {P : AV → Sto → Prop} (G : Γ.Ok mg mb) (O : FnOk Γ f fd body names)
    (hlen : xs.length = names.length) (hloc : ∀ x ∈ names, fd.scope.names.lookup x = some .local) (hcell : ∀ x ∈ fd.scope.names, x.2 ≠ .cell)
    (h : Exs Γ k fd.scope body (names.zip xs) σ fun fl _ σ' => Drp σ' (P (retv fl))) : CalC Γ (k + 1) (.ref f) xs σ P := fun A κ s Xs hA l R rs => by
  obtain ⟨o, ho, hd⟩ := O.obj
  have up := l.up R
  refine (codeAny_call_def hA.room (up _ _ ho) hd (G.nolimit.keeps up) (O.code.keeps up) O.hb (.of_eq (O.bind Xs (by rw [rs.length, hlen]))) hcell (fun x hx => hloc x.1 (List.of_mem_zip hx).1) (fun h₀ hns hkeep => ?_) O.co O.gen O.kind)
  have fit : Fits fd.scope (callEnv fd s.heap.objs.size f) := ⟨rfl, O.kind, O.glob, O.blt, fun _ => rfl⟩
  have R₀ : RepS κ σ h₀ := R.keep hkeep
  have Lκ : κ.p s.heap.objs.size = none := by
    cases e : κ.p s.heap.objs.size with
    | none => rfl
    | some o => exact absurd (R.prot _ _ e) (by rw [size_new]; simp)
  have Lσ : s.heap.objs.size ∉ keys σ := fun hm => by
    obtain ⟨o, e, _⟩ := R.live hm
    rw [size_new] at e; cases e
  have F : FRel κ (callEnv fd s.heap.objs.size f) (names.zip xs) σ h₀ := {
    ns := ⟨_, hns, fun x v hx hk => by
      obtain ⟨_, V, a, b⟩ := zip_lookup rs hx
      refine ⟨V, ?_, b.mono (.of_keeps hkeep)⟩
      rw [zip_rev_lookup _ _ O.nodup]; exact a⟩
    cell := fun x hx => by
      rw [fit.kindOf] at hx
      obtain ⟨p, hp, e⟩ : ∃ p ∈ fd.scope.names, p.2 = .cell := ⟨(x, .cell), mem_of_lookup hx, rfl⟩
      exact absurd e (hcell p hp)
    free := fun x v hx hk => by
      obtain ⟨m, _⟩ := zip_lookup rs hx
      rw [fit.kindOf, hloc x m] at hk; cases hk
    apart := fun x y c hx => by
      rw [fit.kindOf] at hx
      exact absurd rfl (hcell (x, .cell) (mem_of_lookup hx))
    Lnew := ⟨Lκ, Lσ⟩
    cnew := fun x c hx => by
      rw [fit.kindOf] at hx
      exact absurd rfl (hcell (x, .cell) (mem_of_lookup hx)) }
  refine wp_no (h _ κ _ { s with heap := h₀, toks := s.toks + (names.zip Xs).length } (hA.deeper _) l fit ⟨R₀, F⟩) fun fl s' pst0 => ?_
  obtain ⟨g, loc', σ', h', tk, e, q, R', r, σ'', hsub, p⟩ := pst0
  subst e
  refine ⟨_, σ'', h', tk, rfl, R'.s.sub hsub, ?_, p⟩
  cases r with
  | next => exact .none
  | brk => exact .none
  | cont => exact .none
  | ret r => exact r

theorem bindL_local (kindOf : Str → Option NameKind) : ∀ (binds : List (Str × Value)) (m : Str → Option Value) (x : Str), (binds.map (·.1)).Nodup → kindOf x = some .local → bindL kindOf binds m x = (match binds.lookup x with | some V => some V | none => m x)
  | [], m, x, _, _ => rfl
  | (n, v) :: r, m, x, hn, hk => by
    simp only [List.map_cons, List.nodup_cons] at hn
    rw [bindL, bindL_local kindOf r _ x hn.2 hk, List.lookup_cons]
    by_cases e : x = n
    · subst e
      have : r.lookup x = none := by
        rw [List.lookup_eq_none_iff]
        intro p hp
        exact bne_iff_ne.mpr fun (e : x = p.1) => hn.1 (e ▸ List.mem_map_of_mem hp)
      rw [this, if_pos hk]; simp
    · rw [beq_eq_false_iff_ne.mpr e]
      cases r.lookup x with
      | some V => rfl
      | none =>
        simp only
        by_cases hl : kindOf n = some .local
        · rw [if_pos hl]; simp only [if_neg e]
        · rw [if_neg hl]
theorem bindC_other (kindOf : Str → Option NameKind) : ∀ (binds : List (Str × Value)) (m : Str → Option Value) (x : Str), (binds.map (·.1)).Nodup → kindOf x ≠ some .local → bindC kindOf binds m x = (match binds.lookup x with | some V => some V | none => m x)
  | [], m, x, _, _ => rfl
  | (n, v) :: r, m, x, hn, hk => by
    simp only [List.map_cons, List.nodup_cons] at hn
    rw [bindC, bindC_other kindOf r _ x hn.2 hk, List.lookup_cons]
    by_cases e : x = n
    · subst e
      have : r.lookup x = none := by
        rw [List.lookup_eq_none_iff]
        intro p hp
        exact bne_iff_ne.mpr fun (e : x = p.1) => hn.1 (e ▸ List.mem_map_of_mem hp)
      rw [this, if_neg hk]; simp
    · rw [beq_eq_false_iff_ne.mpr e]
      cases r.lookup x with
      | some V => rfl
      | none =>
        simp only
        by_cases hl : kindOf n = some .local
        · rw [if_pos hl]
        · rw [if_neg hl]; simp only [if_neg e]
theorem zip_keys : ∀ (names : List Str) (Xs : List Value), Xs.length = names.length → (names.zip Xs).map (·.1) = names
  | [], _, _ => rfl
  | _ :: _, [], e => by simp at e
  | n :: names, X :: Xs, e => by simp only [List.zip_cons_cons, List.map_cons]; rw [zip_keys names Xs (by simpa using e)]

/-- a def some of whose names comprehensions or inner defs read -/
theorem fn_cells {f : Addr} {fd : FuncData} {body : List Stmt} {names : List Str} {xs : List AV} {P : AV → Sto → Prop} (G : Γ.Ok mg mb) (O : FnOk Γ f fd body names)
    (hlen : xs.length = names.length) (hloc : ∀ x ∈ names, fd.scope.names.lookup x = some .local ∨ fd.scope.names.lookup x = some .cell)
    (h : Exs Γ k fd.scope body (names.zip xs) σ fun fl _ σ' => Drp σ' (P (retv fl))) : CalC Γ (k + 1) (.ref f) xs σ P := fun A κ s Xs hA l R rs => by
  obtain ⟨o, ho, hd⟩ := O.obj
  have up := l.up R
  have hX : Xs.length = names.length := by rw [rs.length, hlen]
  have hcs : ∀ n x, fd.scope.names.lookup x = some .cell → ((cellsFrom n fd.scope.names []).lookup x).isSome = true := fun n x e => cellsFrom_some _ _ _ (.inl e)
  refine (codeAny_call_cells hA.room (up _ _ ho) hd (G.nolimit.keeps up) (O.code.keeps up) O.hb (O.bind Xs hX) O.clo (fun x hx => (hloc x.1 (List.of_mem_zip hx).1).imp id fun e => ⟨e, hcs _ _ e⟩) (fun s₁ I => ?_) O.co O.gen O.kind)
  have fit : Fits fd.scope (callEnvC fd s.heap.objs.size f) := ⟨rfl, O.kind, O.glob, O.blt, fun _ => rfl⟩
  obtain ⟨h₀, tk₀, e₀⟩ := I.toInCall.same
  subst e₀
  have hkeep := I.toInCall.keep
  have hnd : ((names.zip Xs).map (·.1)).Nodup := by rw [zip_keys names Xs hX]; exact O.nodup
  have R₀ : RepS κ σ h₀ := R.keep hkeep
  have fresh : ∀ a, s.heap.objs.size ≤ a → κ.p a = none ∧ a ∉ keys σ := fun a ha => by
    refine ⟨?_, fun hm => ?_⟩
    · cases e : κ.p a with
      | none => rfl
      | some o => exact absurd (Heap.lt_size (R.prot _ _ e)) (Nat.not_lt.mpr ha)
    · obtain ⟨o, e, _⟩ := R.live hm
      exact absurd (Heap.lt_size e) (Nat.not_lt.mpr ha)
  have F : FRel κ (callEnvC fd s.heap.objs.size f) (names.zip xs) σ h₀ := {
    ns := ⟨_, I.toInCall.ns, fun x v hx hk => by
      obtain ⟨_, V, a, b⟩ := zip_lookup rs hx
      refine ⟨V, ?_, b.mono (.of_keeps hkeep)⟩
      rw [bindL_local _ _ _ _ hnd hk, a]⟩
    cell := fun x hx => by
      have hx' := hx
      rw [fit.kindOf] at hx'
      obtain ⟨c, hc⟩ := Option.isSome_iff_exists.mp (hcs (s.heap.objs.size + 1) x hx')
      refine ⟨c, _, hc, I.cell x c hc, fun v hv => ?_⟩
      obtain ⟨_, V, a, b⟩ := zip_lookup rs hv
      refine ⟨V, ?_, b.mono (.of_keeps hkeep)⟩
      rw [bindC_other _ _ _ _ hnd (by rw [hx]; simp), a]
    free := fun x v hx hk => by
      obtain ⟨m, _⟩ := zip_lookup rs hx
      rw [fit.kindOf] at hk
      rcases hloc x m with e | e <;> rw [e] at hk <;> cases hk
    apart := fun x y c _ _ ha hb => name_of_addr I.apart (mem_of_lookup ha) (mem_of_lookup hb)
    Lnew := fresh _ (Nat.le_refl _)
    cnew := fun x c _ hc => let fr := fresh c (Nat.le_of_lt (I.above x c (mem_of_lookup hc))); ⟨fr.2, fun _ => fr.1, fun o e => by rw [fr.1] at e; cases e⟩ }
  refine wp_no (h _ κ _ _ (hA.deeper _) l fit ⟨R₀, F⟩) fun fl s' pst0 => ?_
  obtain ⟨g, loc', σ', h', tk, e, q, R', r, σ'', hsub, p⟩ := pst0
  subst e
  refine ⟨_, σ'', h', tk, rfl, R'.s.sub hsub, ?_, p⟩
  cases r with
  | next => exact .none
  | brk => exact .none
  | cont => exact .none
  | ret r => exact r
end
end Mine
namespace Mine

noncomputable def ofL (l : List Nat) : Str := ⟨l.toArray⟩
theorem ofL_toL (x : Str) : ofL x.cps.toList = x := by cases x; rfl
theorem ofL_length (l : List Nat) : (ofL l).length = l.length := by simp [ofL, Str.length]
theorem ofL_append (a b : List Nat) : ofL a ++ ofL b = ofL (a ++ b) := by
  apply Str.ext'
  show a.toArray ++ b.toArray = (a ++ b).toArray
  simp
theorem ofL_inj {a b : List Nat} (h : ofL a = ofL b) : a = b := by
  have := congrArg (fun x => x.cps.toList) h
  simpa [ofL] using this

section
variable {Γ : Gd} {k : Nat} {sc : Scope} {loc : Loc} {σ : Sto} {P : AV → Sto → Prop}

/-! ints -/
section
variable {a b : Int}
theorem op_add (h : P (.int (a + b)) σ) : Op2 Γ k (binaryOp .Add) (.int a) (.int b) σ P := fun _ _ s _ _ _ _ R x y => by cases x; cases y; exact wpAny_add_int ⟨_, σ, s.heap, _, rfl, R, .int _ _, h⟩
theorem op_iadd (h : P (.int (a + b)) σ) : Op2 Γ k (inplaceOp .Add) (.int a) (.int b) σ P := fun _ _ s _ _ _ _ R x y => by cases x; cases y; exact wpAny_iadd_int ⟨_, σ, s.heap, _, rfl, R, .int _ _, h⟩
theorem op_sub (h : P (.int (a - b)) σ) : Op2 Γ k (binaryOp .Sub) (.int a) (.int b) σ P := fun _ _ s _ _ _ _ R x y => by cases x; cases y; exact PyProof.Rows.sub_int' ⟨_, σ, s.heap, _, rfl, R, .int _ _, h⟩
theorem op_mul (hm : IntMulOk a b) (h : P (.int (a * b)) σ) : Op2 Γ k (binaryOp .Mult) (.int a) (.int b) σ P := fun _ _ s _ _ _ _ R x y => by cases x; cases y; exact PyProof.Rows.mul_int ⟨_, σ, s.heap, _, rfl, R, .int _ _, h⟩ hm
theorem op_fdiv (hb : 0 < b) (hs : b < 1073741824) (h : P (.int (a / b)) σ) : Op2 Γ k (binaryOp .FloorDiv) (.int a) (.int b) σ P := fun _ _ s _ _ _ _ R x y => by
  cases x; cases y
  have e : a.fdiv b = a / b := Int.fdiv_eq_ediv_of_nonneg a (by omega)
  exact PyProof.Rows.floordiv_int (by omega) ⟨_, σ, s.heap, _, rfl, R, .int _ _, e ▸ h⟩ (.inl (PyProof.noPylong_small (by omega)))
theorem op_mod (hb : 0 < b) (h : P (.int (a % b)) σ) : Op2 Γ k (binaryOp .Mod) (.int a) (.int b) σ P := fun _ _ s _ _ _ _ R x y => by
  cases x; cases y
  have e : a.fmod b = a % b := Int.fmod_eq_emod_of_nonneg a (by omega)
  exact PyProof.Rows.mod_int' (by omega) ⟨_, σ, s.heap, _, rfl, R, .int _ _, e ▸ h⟩
theorem op_eq (h : P (.bool (a == b)) σ) : Op2 Γ k (compareOp .Eq) (.int a) (.int b) σ P := fun _ _ s _ _ _ _ R x y => by cases x; cases y; exact PyProof.Rows.eq_int ⟨_, σ, s.heap, s.toks, rfl, R, .bool _, h⟩
theorem op_ne (h : P (.bool (a != b)) σ) : Op2 Γ k (compareOp .NotEq) (.int a) (.int b) σ P := fun _ _ s _ _ _ _ R x y => by cases x; cases y; exact PyProof.Rows.ne_int ⟨_, σ, s.heap, s.toks, rfl, R, .bool _, h⟩
theorem op_lt (h : P (.bool (decide (a < b))) σ) : Op2 Γ k (compareOp .Lt) (.int a) (.int b) σ P := fun _ _ s _ _ _ _ R x y => by cases x; cases y; exact PyProof.Rows.lt_int ⟨_, σ, s.heap, s.toks, rfl, R, .bool _, h⟩
theorem op_le (h : P (.bool (decide (a ≤ b))) σ) : Op2 Γ k (compareOp .LtE) (.int a) (.int b) σ P := fun _ _ s _ _ _ _ R x y => by cases x; cases y; exact PyProof.Rows.le_int ⟨_, σ, s.heap, s.toks, rfl, R, .bool _, h⟩
theorem op_gt (h : P (.bool (decide (b < a))) σ) : Op2 Γ k (compareOp .Gt) (.int a) (.int b) σ P := fun _ _ s _ _ _ _ R x y => by cases x; cases y; exact PyProof.Rows.gt_int ⟨_, σ, s.heap, s.toks, rfl, R, .bool _, h⟩
theorem op_ge (h : P (.bool (decide (b ≤ a))) σ) : Op2 Γ k (compareOp .GtE) (.int a) (.int b) σ P := fun _ _ s _ _ _ _ R x y => by cases x; cases y; exact PyProof.Rows.ge_int ⟨_, σ, s.heap, s.toks, rfl, R, .bool _, h⟩
theorem op_neg (h : P (.int (-a)) σ) : Op1 Γ k (unaryOp .USub) (.int a) σ P := fun _ _ s _ _ _ R x => by cases x; exact PyProof.Rows.neg_int ⟨_, σ, s.heap, _, rfl, R, .int _ _, h⟩
end
theorem ev_unary {op : UnaryOp} {e : Expr} {pos : Pos} (h : Ev Γ k sc e loc σ fun a σ₁ => Op1 Γ k (unaryOp op) a σ₁ P) : Ev Γ k sc (.UnaryOp op e pos) loc σ P := fun A κ env s hA l f R =>
  wpAny_UnaryOp (wpE (h A κ env s hA l f R) fun V v σ₁ h₁ tk₁ q R₁ r p => by
    exact wp_no (p.at hA l R₁ r) fun _ _ x => x.trans q)

/-! truth -/
theorem tr_int {a : Int} {P : Bool → Sto → Prop} (h : P (a != 0) σ) : Tr Γ k (.int a) σ P := fun _ _ s _ _ _ R x => by cases x; exact PyProof.Rows.truthy_int ⟨σ, s.heap, s.toks, rfl, R, h⟩
theorem tr_bool {b : Bool} {P : Bool → Sto → Prop} (h : P b σ) : Tr Γ k (.bool b) σ P := fun _ _ s _ _ _ R x => by cases x; exact wpAny_truthy_bool ⟨σ, s.heap, s.toks, rfl, R, h⟩
theorem ts_value {e : Expr} {P : Bool → Sto → Prop} (h : Ev Γ k sc e loc σ fun v σ₁ => Tr Γ k v σ₁ P) (hi : ∀ env whole, isTrue e env whole = (do let v ← whole; standAt e.pos; holding [v] (truthy v))) : Ts Γ k sc e loc σ P := fun A κ env s hA l f R => by
  rw [hi]
  refine wpAny_bind (wpE (h A κ env s hA l f R) fun V v σ₁ h₁ tk₁ q R₁ r p => ?_)
  exact wpAny_bind (wpAny_standAt (wpAny_holding (wp_no (p.at hA l R₁ r) fun _ _ x => x.trans q)))
theorem ts_not {e : Expr} {pos : Pos} {P : Bool → Sto → Prop} (h : Ts Γ k sc e loc σ fun b σ₁ => P (!b) σ₁) : Ts Γ k sc (.UnaryOp .Not e pos) loc σ P := fun A κ env s hA l f R =>
  wpAny_isTrue_Not (h A κ env s hA l f R)
/-- and, or as tests -/
noncomputable def TsL (Γ : Gd) (k : Nat) (sc : Scope) (op : BoolOp) (es : List Expr) (loc : Loc) (σ : Sto) (P : Bool → Sto → Prop) : Prop :=
  ∀ A κ env s, AOk k A → Γ.le κ → Fits sc env → Rep κ env loc σ s.heap → wpAny Γ.M A (allTrue op es env) (PstT κ env loc s P) No s
theorem ts_bool {op : BoolOp} {es : List Expr} {pos : Pos} {P : Bool → Sto → Prop} (h : TsL Γ k sc op es loc σ P) : Ts Γ k sc (.BoolOp op es pos) loc σ P := fun A κ env s hA l f R =>
  wpAny_isTrue_BoolOp (h A κ env s hA l f R)
theorem tsl_and_nil {P : Bool → Sto → Prop} (h : P true σ) : TsL Γ k sc .And [] loc σ P := fun _ _ _ s _ _ _ R => wpAny_allTrue_And_nil ⟨σ, s.heap, s.toks, rfl, .refl _, R, h⟩
theorem tsl_or_nil {P : Bool → Sto → Prop} (h : P false σ) : TsL Γ k sc .Or [] loc σ P := fun _ _ _ s _ _ _ R => wpAny_allTrue_Or_nil ⟨σ, s.heap, s.toks, rfl, .refl _, R, h⟩
theorem tsl_and_cons {e : Expr} {es : List Expr} {P : Bool → Sto → Prop} (h : Ts Γ k sc e loc σ fun b σ₁ => Both b (TsL Γ k sc .And es loc σ₁ P) (P false σ₁)) : TsL Γ k sc .And (e :: es) loc σ P := fun A κ env s hA l f R =>
  wpAny_allTrue_And_cons (wpT (h A κ env s hA l f R) fun b σ₁ h₁ tk₁ q R₁ p => by
    cases b with
    | true => first | exact wp_no (p.1 rfl A κ env _ hA l f R₁) (fun _ _ x => x.trans q) | (simp only [if_true]; exact wp_no (p.1 rfl A κ env _ hA l f R₁) (fun _ _ x => x.trans q))
    | false => first | exact ⟨σ₁, h₁, tk₁, rfl, q, R₁, p.2 rfl⟩ | (simp only [Bool.false_eq_true, if_false]; exact ⟨σ₁, h₁, tk₁, rfl, q, R₁, p.2 rfl⟩))
theorem tsl_or_cons {e : Expr} {es : List Expr} {P : Bool → Sto → Prop} (h : Ts Γ k sc e loc σ fun b σ₁ => Both b (P true σ₁) (TsL Γ k sc .Or es loc σ₁ P)) : TsL Γ k sc .Or (e :: es) loc σ P := fun A κ env s hA l f R =>
  wpAny_allTrue_Or_cons (wpT (h A κ env s hA l f R) fun b σ₁ h₁ tk₁ q R₁ p => by
    cases b with
    | false => first | exact wp_no (p.2 rfl A κ env _ hA l f R₁) (fun _ _ x => x.trans q) | (simp only [Bool.false_eq_true, if_false]; exact wp_no (p.2 rfl A κ env _ hA l f R₁) (fun _ _ x => x.trans q))
    | true => first | exact ⟨σ₁, h₁, tk₁, rfl, q, R₁, p.1 rfl⟩ | (simp only [if_true]; exact ⟨σ₁, h₁, tk₁, rfl, q, R₁, p.1 rfl⟩))

/-! texts -/
theorem op_eq_str {x y : Str} (h : P (.bool (x == y)) σ) : Op2 Γ k (compareOp .Eq) (.str x) (.str y) σ P := fun _ _ s _ _ _ _ R a b => by cases a; cases b; exact PyProof.Rows.eq_str ⟨_, σ, s.heap, s.toks, rfl, R, .bool _, h⟩
theorem op_ne_str {x y : Str} (h : P (.bool (x != y)) σ) : Op2 Γ k (compareOp .NotEq) (.str x) (.str y) σ P := fun _ _ s _ _ _ _ R a b => by cases a; cases b; exact PyProof.Rows.ne_str ⟨_, σ, s.heap, s.toks, rfl, R, .bool _, h⟩
theorem op_in_str {x y : Str} (h : P (.bool !(Builtin.Str.occurrences x y 0 x.length 1).isEmpty) σ) : Op2 Γ k (compareOp .In) (.str y) (.str x) σ P := fun _ _ s _ _ _ _ R a b => by cases a; cases b; exact PySem.P.in_str ⟨_, σ, s.heap, s.toks, rfl, R, .bool _, h⟩
theorem str_len0 {x : Str} (h : (x.length == 0) = true) : x = ofL [] := by
  have : x.cps.size = 0 := by simpa [Str.length] using h
  apply Str.ext'
  show x.cps = #[]
  exact Array.eq_empty_of_size_eq_zero this
theorem add_texts {x y : Str} {t u : Tok} {A : Around} {s : Shared} {Q : Value → Shared → Prop} (hl : x.length + y.length ≤ sizeLine) (h : ∀ t tk, Q (.str (x ++ y) t) { s with toks := tk }) :
    (if x.length == 0 then Made.val (.str y u) else if y.length == 0 then Made.val (.str x t) else Made.str (x ++ y)).post Q s := by
  by_cases hx : (x.length == 0) = true
  · rw [if_pos hx]
    have e : x ++ y = y := by rw [str_len0 hx, ← ofL_toL y, ofL_append]; rfl
    rw [← e]; exact h u s.toks
  · rw [if_neg hx]
    by_cases hy : (y.length == 0) = true
    · rw [if_pos hy]
      have e : x ++ y = x := by rw [str_len0 hy, ← ofL_toL x, ofL_append]; simp
      have := h t s.toks
      rw [e] at this
      exact this
    · rw [if_neg hy]
      have hh : (x ++ y).length ≤ sizeLine := by rw [strLen_append]; exact hl
      exact ⟨hh, h _ _⟩
theorem op_add_str {x y : Str} (hl : x.length + y.length ≤ sizeLine) (h : P (.str (x ++ y)) σ) : Op2 Γ k (binaryOp .Add) (.str x) (.str y) σ P := fun A _ s _ _ _ _ R a b => by
  cases a; cases b
  exact PySem.P.add_str (add_texts (A := A) hl fun t tk => ⟨_, σ, s.heap, tk, rfl, R, .str _ _, h⟩)
theorem op_iadd_str {x y : Str} (hl : x.length + y.length ≤ sizeLine) (h : P (.str (x ++ y)) σ) : Op2 Γ k (inplaceOp .Add) (.str x) (.str y) σ P := fun A _ s _ _ _ _ R a b => by
  cases a; cases b
  exact PySem.P.iadd_str (add_texts (A := A) hl fun t tk => ⟨_, σ, s.heap, tk, rfl, R, .str _ _, h⟩)
theorem cal_len_str {x : Str} (hl : x.length ≤ sizeLine) (h : P (.int x.length) σ) : Cal Γ k (.builtin "len") [.str x] σ P := fun _ _ s _ _ _ R r => by
  cases r with
  | cons a r => cases a; cases r; exact PySem.P.len_str (by rw [sizeLine_eq] at hl; omega) ⟨_, σ, s.heap, _, rfl, R, .int _ _, h⟩
theorem cal_ord {c : Nat} (h : P (.int c) σ) : Cal Γ k (.builtin "ord") [.str (ofL [c])] σ P := fun _ _ s _ _ _ R r => by
  cases r with
  | cons a r => cases a; cases r; exact PySem.P.ord_of_char ⟨_, σ, s.heap, _, rfl, R, .int _ _, h⟩
theorem cal_chr {i : Int} (h0 : 0 ≤ i) (h1 : i ≤ 1114111) (h : P (.str (ofL [i.toNat])) σ) : Cal Γ k (.builtin "chr") [.int i] σ P := fun _ _ s _ _ _ R r => by
  cases r with
  | cons a r => cases a; cases r; exact PySem.P.chr_of_int (by simp; omega) ⟨_, σ, s.heap, _, rfl, R, .str _ _, h⟩
theorem cal_abs {a : Int} (h : P (.int (if a < 0 then -a else a)) σ) : Cal Γ k (.builtin "abs") [.int a] σ P := fun _ _ s _ _ _ R r => by
  cases r with
  | cons x r => cases x; cases r; exact PyProof.Rows.call_abs_int fun u tk => ⟨_, σ, s.heap, tk, rfl, R, .int _ _, h⟩
end
end Mine
namespace Mine
section
variable {Γ : Gd} {k : Nat} {sc : Scope} {loc : Loc} {σ : Sto} {P : AV → Sto → Prop}

/-! more calls -/
theorem cal_int {a : Int} (h : P (.int a) σ) : Cal Γ k (.type "int") [.int a] σ P := fun _ _ s _ _ _ R r => by
  cases r with
  | cons x r => cases x; cases r; exact PySem.call_int_int ⟨_, σ, s.heap, s.toks, rfl, R, .int _ _, h⟩
theorem cal_divmod {a b : Int} (hb : 0 < b) (hs : b < 1073741824) (h : P (.tup [.int (a / b), .int (a % b)]) σ) : Cal Γ k (.builtin "divmod") [.int a, .int b] σ P := fun _ κ s _ _ _ R r => by
  cases r with
  | cons x r =>
    cases x
    cases r with
    | cons y r =>
      cases y; cases r
      have e1 : a.fdiv b = a / b := Int.fdiv_eq_ediv_of_nonneg a (by omega)
      have e2 : a.fmod b = a % b := Int.fmod_eq_emod_of_nonneg a (by omega)
      refine PyProof.Rows.divmod_int (by omega) ⟨_, σ, _, _, rfl, R.keep (push_keeps _), .tup (xs := [.int (a / b), .int (a % b)]) (vs := [.int (a / b) s.toks, .int (a % b) (s.toks + 1)]) (R.not_av size_new) ⟨0, ?_⟩ (.cons (.int _ _) (.cons (.int _ _) .nil)), h⟩ (.inl (PyProof.noPylong_small (by omega)))
      · rw [← e1, ← e2]; exact Heap.get?_push_size _ rfl

/-! lists -/
theorem RepS.list {κ : Kap} {h : Heap} (R : RepS κ σ h) {a : Addr} {xs : List AV} (hm : (a, .list xs) ∈ σ) : ∃ vs n, h.get? a = some { cls := .type "list", data := .seq vs.toArray n } ∧ VRels κ.av h xs vs := by
  obtain ⟨ob, e, vs, n, rfl, r⟩ := R.objs _ hm
  exact ⟨vs, n, e, r⟩
theorem VRel.ref_inv {av : Avd} {h : Heap} {a : Addr} {V : Value} (r : VRel av h (.ref a) V) : V = .ref a := by cases r; rfl
theorem VRels.size {av : Avd} {h : Heap} {xs : List AV} {vs : List Value} (r : VRels av h xs vs) : vs.toArray.size = xs.length := by rw [List.size_toArray]; exact r.length

theorem cal_len_list {a : Addr} {xs : List AV} (hm : (a, .list xs) ∈ σ) (hl : xs.length ≤ sizeLine) (h : P (.int xs.length) σ) : Cal Γ k (.builtin "len") [.ref a] σ P := fun _ _ s _ _ _ R r => by
  cases r with
  | cons x r =>
    cases x; cases r
    obtain ⟨vs, n, e, rs⟩ := R.list hm
    refine call_len_list (items := vs.toArray) ⟨_, e, rfl, n, rfl⟩ (by rw [rs.size]; rw [sizeLine_eq] at hl; omega) ⟨.int xs.length, σ, s.heap, _, rfl, R, ?_, h⟩
    rw [rs.size]; exact .int _ _
theorem cal_append {a : Addr} {xs : List AV} {v : AV} {σ' : Sto} (hat : At σ a (.list xs) (.list (xs ++ [v])) σ') (hl : xs.length ≤ sizeLine) (h : P .none σ') : Cal Γ k (.builtin "list.append") [.ref a, v] σ P := fun _ κ s _ _ _ R r => by
  cases r with
  | cons x r =>
    cases x
    cases r with
    | cons y r =>
      cases r
      obtain ⟨vs, n, e, rs⟩ := R.list hat.mem
      refine wpAny_list_append_plain (items := vs.toArray) ⟨n, e⟩ (fun h' hp hs => ?_) (by rw [rs.size]; exact hl)
      obtain ⟨n', e'⟩ := hp
      have tk := R.tk_upd hat.mem hs.extBut
      refine ⟨.none, σ', h', s.toks, rfl, R.upd hat hs.extBut e' ⟨vs ++ [_], n', ?_, (rs.append (.cons y .nil)).mono tk⟩, .none, h⟩
      simp
theorem cal_pop0 {a : Addr} {x : AV} {xs : List AV} {σ' : Sto} (hat : At σ a (.list (x :: xs)) (.list xs) σ') (hl : xs.length < sizeLine) (h : P x σ') : Cal Γ k (.builtin "list.pop") [.ref a, .int 0] σ P := fun _ κ s _ _ _ R r => by
  cases r with
  | cons y r =>
    cases y
    cases r with
    | cons y r =>
      cases y; cases r
      obtain ⟨vs, n, e, rs⟩ := R.list hat.mem
      have hz : vs.toArray.size ≤ sizeLine := by rw [rs.size]; simp; omega
      cases rs with
      | cons r0 rs =>
        rename_i v vs
        refine call_meets PySem.F.slot_list_pop ⟨_, e, rfl⟩ PySem.F.entry_list_pop (PySem.F.args_list_pop_2 _ _) (PySem.MeetsSeq.list_pop_at a _ n 0 _ 0 v (by decide) (by simp [seqIndex?]) (by simp) hz) ⟨e, ?_⟩
        have q := PySem.IsL.update e (·.eraseIdxIfInBounds 0)
        have he : (v :: vs).toArray.eraseIdxIfInBounds 0 = vs.toArray := kl_erase [] vs v
        simp only [he] at q
        have hs : Heap.SameBut a s.heap (s.heap.update a (Obj.mapSeq (·.eraseIdxIfInBounds 0))) := Heap.SameBut.update ..
        have tk := R.tk_upd hat.mem hs.extBut
        exact ⟨x, σ', _, s.toks, rfl, R.upd hat hs.extBut q ⟨vs, _, rfl, rs.mono tk⟩, r0.mono tk, h⟩

/-! items -/
/-- no Python-written item reader -/
noncomputable def Plain (Γ : Gd) (σ : Sto) (o : AV) : Prop := ∀ A κ s O (Q : Bool → Shared → Prop), RepS κ σ s.heap → VRel κ.av s.heap o O → Q false s → wpAny Γ.M A (getitemInPython O) Q No s
theorem plain_of {o : AV} {T id : String} (hl : typeLookup (.type T) "__getitem__" = pure (some (.builtin id))) (ht : ∀ (κ : Kap) (s : Shared) (O : Value), RepS κ σ s.heap → VRel κ.av s.heap o O → s.TypeIs O T) : Plain Γ σ o := fun A κ s O Q R r h => by
  unfold getitemInPython
  refine wpAny_bind (wpAny_specialOf (ht κ s O R r) hl (wpAny_pure h))
theorem plain_list {a : Addr} {xs : List AV} (hm : (a, .list xs) ∈ σ) : Plain Γ σ (.ref a) := plain_of slot_list_getitem.lookup fun κ s O R r => by
  cases r
  obtain ⟨vs, n, e, _⟩ := R.list hm
  exact ⟨_, e, rfl⟩
theorem plain_tup {xs : List AV} : Plain Γ σ (.tup xs) := plain_of PySem.F.slot_tuple_getitem.lookup fun κ s O R r => by
  cases r with
  | tup _ t _ => exact t.isTuple.typeIs
theorem plain_str {x : Str} : Plain Γ σ (.str x) := plain_of PySem.F.slot_str_getitem.lookup fun κ s O R r => by
  cases r; exact typeIs_str _ _ _
theorem plain_bytes {x : Array UInt8} : Plain Γ σ (.bytes x) := plain_of PySem.W.FB.slot_bytes_getitem.lookup fun κ s O R r => by
  cases r; exact typeIs_bytes _ _ _

theorem ev_item {value slice : Expr} {pos : Pos} (h : Ev Γ k sc value loc σ fun o σ₁ => Ev Γ k sc slice loc σ₁ fun i σ₂ => Plain Γ σ₂ o ∧ Op2 Γ k getItem o i σ₂ P)
    (hs : ∀ o i, subscripted slice false o i = operate [o, i] (getItem o i)) : Ev Γ k sc (.Subscript value slice pos) loc σ P := fun A κ env s hA l f R => by
  rw [arm_eval_Subscript]
  refine wpAny_bind (wpE (h A κ env s hA l f R) fun V₁ o σ₁ h₁ tk₁ q₁ R₁ r₁ p₁ => ?_)
  refine wpAny_bind (wpAny_holding (wpE (p₁ A κ env _ hA l f R₁) fun V₂ i σ₂ h₂ tk₂ q₂ R₂ r₂ ⟨hp, p₂⟩ => ?_))
  refine wpAny_bind (wpAny_standAt (wpAny_bind (hp A κ _ V₁ _ R₂.s (r₁.mono q₂) ?_)))
  rw [hs]
  refine wpAny_bind (wpAny_operating (wp_no (p₂.at hA l R₂ (r₁.mono q₂) r₂) fun V₃ s₃ h₃ => ?_))
  exact wpAny_bind (wpAny_letTemporaryGo (wpAny_pure ((h₃.trans (tk₁ := tk₁) q₂).trans q₁)))

theorem get_list {a : Addr} {xs : List AV} {i : Int} {x : AV} (hm : (a, .list xs) ∈ σ) (h0 : 0 ≤ i) (hi : i < 2 ^ 63) (hx : xs[i.toNat]? = some x) (h : P x σ) : Op2 Γ k getItem (.ref a) (.int i) σ P := fun _ κ s _ _ _ _ R r r' => by
  cases r; cases r'
  obtain ⟨vs, n, e, rs⟩ := R.list hm
  obtain ⟨v, hv, rv⟩ := rs.get hx
  exact wpAny_getItem_list (items := vs.toArray) ⟨_, e, rfl, n, rfl⟩ h0 hi (by simpa using hv) ⟨x, σ, s.heap, s.toks, rfl, R, rv, h⟩
theorem get_list_neg {a : Addr} {xs : List AV} {i : Int} {x : AV} (hm : (a, .list xs) ∈ σ) (h0 : i < 0) (h1 : -(xs.length : Int) ≤ i) (hi : -(2 ^ 63) ≤ i) (hx : xs[(i + xs.length).toNat]? = some x) (h : P x σ) : Op2 Γ k getItem (.ref a) (.int i) σ P := fun _ κ s _ _ _ _ R r r' => by
  cases r; cases r'
  obtain ⟨vs, n, e, rs⟩ := R.list hm
  obtain ⟨v, hv, rv⟩ := rs.get hx
  refine wpAny_getItem_list_neg (items := vs.toArray) ⟨_, e, rfl, n, rfl⟩ h0 (by rw [rs.size]; exact h1) hi ?_ ⟨x, σ, s.heap, s.toks, rfl, R, rv, h⟩
  rw [rs.size]; simpa using hv
theorem get_tup {xs : List AV} {i : Int} {x : AV} (h0 : 0 ≤ i) (hi : i < 2 ^ 63) (hx : xs[i.toNat]? = some x) (h : P x σ) : Op2 Γ k getItem (.tup xs) (.int i) σ P := fun _ κ s _ _ _ _ R r r' => by
  cases r' 
  cases r with
  | tup na t rs =>
    obtain ⟨n, e⟩ := t
    obtain ⟨v, hv, rv⟩ := rs.get hx
    have hlt : i.toNat < xs.length := (List.getElem?_eq_some_iff.mp hx).1
    exact PySem.P.getItem_tuple e (by omega) hi (seqIndex_of h0 (by rw [rs.size]; omega)) (by simpa using hv) ⟨x, σ, s.heap, s.toks, rfl, R, rv, h⟩
theorem VRels.set {av : Avd} {h : Heap} : ∀ {xs : List AV} {vs : List Value}, VRels av h xs vs → ∀ {i : Nat} {v : AV} {V : Value}, VRel av h v V → VRels av h (xs.set i v) (vs.set i V)
  | _, _, .nil, _, _, _, _ => .nil
  | _, _, .cons _ r, 0, _, _, x => .cons x r
  | _, _, .cons a r, i + 1, _, _, x => .cons a (VRels.set r x)
theorem set_list {a : Addr} {xs : List AV} {i : Int} {v : AV} {σ' : Sto} {P : Sto → Prop} (hat : At σ a (.list xs) (.list (xs.set i.toNat v)) σ') (h0 : 0 ≤ i) (h1 : i < xs.length) (hi : i < 2 ^ 63) (h : P σ')
    {A : Around} {κ : Kap} {s : Shared} {V : Value} {t : Tok} (R : RepS κ σ s.heap) (r : VRel κ.av s.heap v V) : wpAny Γ.M A (setItem (.ref a) (.int i t) V) (fun _ s' => ∃ σ' h' tk, s' = { s with heap := h', toks := tk } ∧ RepS κ σ' h' ∧ P σ') No s := by
  obtain ⟨vs, n, e, rs⟩ := R.list hat.mem
  have hs : Heap.SameBut a s.heap (s.heap.update a (Obj.mapSeq (·.setIfInBounds i.toNat V))) := Heap.SameBut.update ..
  have tk := R.tk_upd hat.mem hs.extBut
  have q := PySem.IsL.update e (·.setIfInBounds i.toNat V)
  have e2 : vs.toArray.setIfInBounds i.toNat V = (vs.set i.toNat V).toArray := by simp
  rw [e2] at q
  exact ki_setAt (items := vs.toArray) (n := n) e h0 hi (by rw [rs.size]; exact h1) ⟨σ', _, s.toks, rfl, R.upd hat hs.extBut q ⟨vs.set i.toNat V, _, rfl, (rs.set r).mono tk⟩, h⟩

/-! slices -/
noncomputable def pick {α : Type} (l : List α) (lo hi : Option Int) : List α := (l.drop (lo.elim 0 (clipAt l.length))).take (hi.elim l.length (clipAt l.length) - lo.elim 0 (clipAt l.length))
theorem VRels.pick {av : Avd} {h : Heap} {xs : List AV} {vs : List Value} (r : VRels av h xs vs) (lo hi : Option Int) : VRels av h (Mine.pick xs lo hi) (Mine.pick vs lo hi) := by
  unfold Mine.pick; rw [r.length]; exact (r.drop _).take _
/-- a bound of a slice -/
noncomputable def EvO (Γ : Gd) (k : Nat) (sc : Scope) (e : Option Expr) (loc : Loc) (σ : Sto) (P : Option Int → Sto → Prop) : Prop := match e with
  | none => P none σ
  | some e => Ev Γ k sc e loc σ fun v σ' => ∃ i, v = .int i ∧ P (some i) σ'
theorem evO_at {e : Option Expr} {P : Option Int → Sto → Prop} (h : EvO Γ k sc e loc σ P) {A : Around} {κ : Kap} {env : Env} {s : Shared} (hA : AOk k A) (l : Γ.le κ) (f : Fits sc env) (R : Rep κ env loc σ s.heap) :
    wpAny Γ.M A (evalPart e env) (fun V s' => ∃ i σ' h' tk, s' = { s with heap := h', toks := tk } ∧ TK κ.av s.heap h' ∧ Rep κ env loc σ' h' ∧ IsPart V i ∧ P i σ') No s := by
  cases e with
  | none => exact wpAny_evalPart_none ⟨none, σ, s.heap, s.toks, rfl, .refl _, R, .none, h⟩
  | some e => exact wpAny_evalPart_some (wp_no (h A κ env s hA l f R) fun V s' pst => by
      obtain ⟨v, σ', h', tk, e, q, R', r, i, ei, p⟩ := pst
      subst ei; cases r
      exact ⟨some i, σ', h', tk, e, q, R', .int _ _, p⟩)
theorem wpO {e : Option Expr} {P : Option Int → Sto → Prop} {Q : Value → Shared → Prop} {E : Value → Shared → Prop} {A : Around} {κ : Kap} {env : Env} {s : Shared} (h : EvO Γ k sc e loc σ P) (hA : AOk k A) (l : Γ.le κ) (f : Fits sc env) (R : Rep κ env loc σ s.heap)
    (q : ∀ V i σ' h' tk, TK κ.av s.heap h' → Rep κ env loc σ' h' → IsPart V i → P i σ' → Q V { s with heap := h', toks := tk }) : wpAny Γ.M A (evalPart e env) Q E s :=
  wp_no (evO_at h hA l f R) fun V s' pst => pst.elim fun v p => p.elim fun σ' p => p.elim fun h' p => p.elim fun tk p => p.1 ▸ q V v σ' h' tk p.2.1 p.2.2.1 p.2.2.2.1 p.2.2.2.2
/-- what a slice makes of a value -/
noncomputable def Slc (Γ : Gd) (k : Nat) (o : AV) (lo hi : Option Int) (σ : Sto) (P : AV → Sto → Prop) : Prop :=
  ∀ A κ s O a vl vu, AOk k A → Γ.le κ → RepS κ σ s.heap → VRel κ.av s.heap o O → s.heap.IsSliceOf a vl vu .none → IsPart vl lo → IsPart vu hi → wpAny Γ.M A (getItem O (.ref a)) (PstS κ s P) No s
theorem ev_slice {value : Expr} {lower upper : Option Expr} {p pos : Pos} (h : Ev Γ k sc value loc σ fun o σ₁ => EvO Γ k sc lower loc σ₁ fun lo σ₂ => EvO Γ k sc upper loc σ₂ fun hi σ₃ => Plain Γ σ₃ o ∧ Slc Γ k o lo hi σ₃ P) :
    Ev Γ k sc (.Subscript value (.Slice lower upper none p) pos) loc σ P := fun A κ env s hA l f R => by
  rw [arm_eval_Subscript]
  refine wpAny_bind (wpE (h A κ env s hA l f R) fun V₁ o σ₁ h₁ tk₁ q₁ R₁ r₁ p₁ => ?_)
  refine wpAny_bind (wpAny_holding (wpAny_Slice ?_))
  refine wpO (s := { s with heap := h₁, toks := tk₁ }) p₁ hA l f R₁ fun V₂ lo σ₂ h₂ tk₂ q₂ R₂ i₂ p₂ => ?_
  refine wpO (s := { s with heap := h₂, toks := tk₂ }) p₂ hA l f R₂ fun V₃ hi σ₃ h₃ tk₃ q₃ R₃ i₃ ph => ?_
  obtain ⟨hp, p₃⟩ := ph
  refine wpAny_evalPart_none ?_
  obtain ⟨q₄, R₄⟩ := R₃.grow (push_keeps { cls := .type "slice", data := .fields #[V₂, V₃, .none] })
  have r₄ := ((r₁.mono q₂).mono q₃).mono q₄
  refine wpAny_bind (wpAny_standAt (wpAny_bind (hp A κ _ V₁ _ R₄.s r₄ ?_)))
  show wpAny _ _ ((operate [_, _] (getItem V₁ _)) >>= _) _ _ _
  refine wpAny_bind (wpAny_operating (wpS (p₃ A _ _ V₁ _ V₂ V₃ hA (Gd.le_mx R₄.s l) R₄.s.mx r₄ ⟨_, Heap.get?_push_size _ rfl, rfl, rfl⟩ i₂ i₃) fun V₅ v σ₅ h₅ tk₅ R₅ r₅ p₅ => ?_))
  obtain ⟨q₅, R₅'⟩ := frame_step R₄ R₅
  exact wpAny_bind (wpAny_letTemporaryGo (wpAny_pure ⟨v, σ₅, h₅, tk₅, rfl, (((q₁.trans q₂).trans q₃).trans q₄).trans q₅, R₅', r₅, p₅⟩))
end
end Mine
namespace Mine
section
variable {Γ : Gd} {k : Nat} {sc : Scope} {loc : Loc} {σ : Sto} {P : AV → Sto → Prop}

theorem pick_len {α : Type} (l : List α) (lo hi : Option Int) : (pick l lo hi).length ≤ l.length := by
  unfold pick; simp only [List.length_take, List.length_drop]; omega
theorem sliceText_pick (x : Str) (lo hi : Option Int) : StrLaws.sliceText x lo hi = ofL (pick x.cps.toList lo hi) := by
  have e : ((Builtin.Str.strSliceIndices lo hi 1 x.length).filterMap (x.cps[·]?)) = pick x.cps.toList lo hi := by
    have e1 : Builtin.Str.strSliceIndices lo hi 1 x.length = sliceRange (sliceBounds lo hi none x.length).1 (sliceBounds lo hi none x.length).2.1 (sliceBounds lo hi none x.length).2.2 := rfl
    rw [e1, sliceBounds_plain]
    simp only [sliceRange_one, pick_run]
    unfold pick
    simp [Str.length]
  unfold StrLaws.sliceText
  split
  · rename_i h
    have hl : (Builtin.Str.strSliceIndices lo hi 1 x.length).length = x.length := by simpa using h
    have e1 : Builtin.Str.strSliceIndices lo hi 1 x.length = sliceRange (sliceBounds lo hi none x.length).1 (sliceBounds lo hi none x.length).2.1 (sliceBounds lo hi none x.length).2.2 := rfl
    rw [e1, sliceBounds_plain, sliceRange_one] at hl
    simp only [List.length_map, List.length_range] at hl
    have hx : x.length = x.cps.toList.length := by simp [Str.length]
    have hc : ∀ i, clipAt x.length i ≤ x.length := fun i => by unfold clipAt; omega
    have h0 : lo.elim 0 (clipAt x.length) = 0 ∨ x.length = 0 := by
      by_cases hz : x.length = 0
      · exact .inr hz
      · left
        have : hi.elim x.length (clipAt x.length) ≤ x.length := by cases hi <;> simp [hc]
        omega
    unfold pick
    rw [← hx, hl]
    rcases h0 with h0 | h0
    · rw [h0, List.drop_zero, hx, List.take_length, ofL_toL]
    · rw [h0]
      have : x.cps.toList = [] := List.eq_nil_of_length_eq_zero (by rw [← hx]; exact h0)
      rw [← ofL_toL x, this]; simp [ofL]
  · rw [e]; rfl
theorem slc_str {x : Str} {lo hi : Option Int} (hl : x.length ≤ sizeLine) (h : P (.str (ofL (pick x.cps.toList lo hi))) σ) : Slc Γ k (.str x) lo hi σ P := fun A κ s O a vl vu hA l R r hs il iu => by
  cases r
  have key : ∀ (t₀ : Tok) (lt ut : Option (Int × Tok)), lt.map (·.1) = lo → ut.map (·.1) = hi → (sliceMade x t₀ lt ut none).post (PstS κ s P) s := fun t₀ lt ut e1 e2 => by
    subst e1; subst e2
    have hp : ∀ t tk, PstS κ s P (.str (ofL (pick x.cps.toList (lt.map (·.1)) (ut.map (·.1)))) t) { s with toks := tk } := fun t tk => ⟨_, σ, s.heap, tk, rfl, R, .str _ _, h⟩
    rw [← sliceText_pick] at hp
    have hlen : (StrLaws.sliceText x (lt.map (·.1)) (ut.map (·.1))).length ≤ sizeLine := by
      rw [sliceText_pick, ofL_length]; exact Nat.le_trans (pick_len _ _ _) (by simpa [Str.length] using hl)
    by_cases hc : ((1 : Int) == 1 && (Builtin.Str.strSliceIndices (lt.map (·.1)) (ut.map (·.1)) 1 x.length).length == x.length) = true
    · have e1 : StrLaws.sliceText x (lt.map (·.1)) (ut.map (·.1)) = x := if_pos hc
      have e2 : sliceMade x t₀ lt ut none = .val (.str x t₀) := if_pos hc
      rw [e1] at hp
      rw [e2]
      exact hp _ s.toks
    · have e1 : StrLaws.sliceText x (lt.map (·.1)) (ut.map (·.1)) = _ := if_neg hc
      have e2 : sliceMade x t₀ lt ut none = _ := if_neg hc
      rw [e1] at hp hlen
      rw [e2]
      exact ⟨hlen, hp _ _⟩
  cases il with
  | none => cases iu with
    | none => exact wpAny_getItem_str_slice (l := none) (u := none) (st := none) hs rfl (key _ none none rfl rfl)
    | int j u => exact wpAny_getItem_str_slice (l := none) (u := some (j, u)) (st := none) hs rfl (key _ none (some (j, u)) rfl rfl)
  | int i t => cases iu with
    | none => exact wpAny_getItem_str_slice (l := some (i, t)) (u := none) (st := none) hs rfl (key _ (some (i, t)) none rfl rfl)
    | int j u => exact wpAny_getItem_str_slice (l := some (i, t)) (u := some (j, u)) (st := none) hs rfl (key _ (some (i, t)) (some (j, u)) rfl rfl)
theorem slc_list {a : Addr} {xs : List AV} {lo hi : Option Int} (hm : (a, .list xs) ∈ σ) (hl : xs.length ≤ sizeLine) (h : ∀ b, P (.ref b) ((b, .list (pick xs lo hi)) :: σ)) : Slc Γ k (.ref a) lo hi σ P := fun A κ s O b vl vu hA l R r hs il iu => by
  cases r
  obtain ⟨vs, n, e, rs⟩ := R.list hm
  have ep : slicePick vs.toArray lo hi none = (pick vs lo hi).toArray := by
    rw [slicePick_plain]; unfold pick; simp
  refine wpAny_getItem_list_slice (items := vs.toArray) ⟨_, e, rfl, n, rfl⟩ hs il iu .none (by simp) ⟨.ref _, _, _, s.toks, rfl, R.add size_new (push_keeps _) (Heap.get?_push_size _ rfl) (o := .list (pick xs lo hi)) ⟨pick vs lo hi, 0, by rw [ep], (rs.pick lo hi).mono (.of_keeps (push_keeps _))⟩, .ref _, h _⟩ (by rw [rs.size]; exact hl)
theorem slc_bytes {b : Array UInt8} {lo hi : Option Int} (hl : b.size ≤ sizeLine) (h : P (.bytes (pick b.toList lo hi).toArray) σ) : Slc Γ k (.bytes b) lo hi σ P := fun A κ s O a vl vu hA l R r hs il iu => by
  cases r
  have ep : KBy.picked b lo hi = (pick b.toList lo hi).toArray := by rw [KBc.picked_eq]; unfold pick; simp
  refine getItem_meets (typeIs_bytes s b _) (by decide) PySem.W.FB.slot_bytes_getitem PySem.W.FB.entry_bytes_getitem (PySem.W.FB.args_bytes_getitem_2 _ _) (KBc.meets_slice2 b _ a il iu) ⟨hs, Nat.le_trans (KBc.size_picked_le _ _ _) hl, fun t' tk => ⟨_, σ, s.heap, tk, rfl, R, ?_, h⟩⟩
  rw [ep]; exact .bytes _ _
theorem op_add_bytes {b c : Array UInt8} (hl : b.size + c.size ≤ 16777216) (h : P (.bytes (b ++ c)) σ) : Op2 Γ k (binaryOp .Add) (.bytes b) (.bytes c) σ P := fun _ _ s _ _ _ _ R x y => by
  cases x; cases y
  exact KBy.add_bytes hl fun t tk => ⟨_, σ, s.heap, tk, rfl, R, .bytes _ _, h⟩

/-! methods -/
/-- what a method's name stands for -/
noncomputable def GM (Γ : Gd) (name : Str) (ov : AV) (σ : Sto) (F : Value) (first : List AV) : Prop :=
  ∀ A κ s OV pl (Q : Value × List Value → Shared → Prop), Γ.le κ → RepS κ σ s.heap → VRel κ.av s.heap ov OV → (∀ Fs tk, VRels κ.av s.heap first Fs → Q (F, Fs) { s with toks := tk }) → wpAny Γ.M A (getMethod OV name pl) Q No s
theorem ev_method {o : Expr} {name : Str} {apos pos : Pos} {args : List Expr} (hs : args.all noStar = true) (hb : ∀ env, attributeBase o name env (eval o env) = eval o env) (hn : args.length < 30) (hline : (apos.endLine == pos.line) = true)
    (h : Ev Γ k sc o loc σ fun ov σ₁ => ∃ F first, GM Γ name ov σ₁ F first ∧ Evs Γ k sc args loc σ₁ fun vs σ₂ => Kpr Γ σ₂ F ∧ Cal Γ k F (first ++ vs) σ₂ P) : Ev Γ k sc (.Call (.Attribute o name apos) args [] pos) loc σ P := fun A κ env s hA l f R => by
  rw [arm_eval_Call, hb]
  refine wpAny_bind (wp_no (h A κ env s hA l f R) fun V s₁ pst => ?_)
  obtain ⟨ov, σ₁, h₁, tk₁, e₁, q, R₁, r, F, first, gm, p⟩ := pst
  subst e₁
  refine wpAny_bind (wpAny_standAt ?_)
  have hform : methodCallForm (args.length + ([] : List Keyword).length) (backTo pos (starEach args env)) (backToKw pos (keywordEach [] env)) = true := by
    unfold methodCallForm
    rw [starEach_eq hs, backTo_plain]
    have e1 : (List.map (fun e => (false, eval e env)) args).all (fun x => !x.1) = true := by simp
    have e2 : (backToKw pos (keywordEach [] env)) = [] := rfl
    rw [e1, e2]
    simp [hn]
  have hpos : methodCallPos true o env apos pos = pure pos := by unfold methodCallPos; simp [hline]
  unfold methodCall
  rw [hform]
  refine wpAny_bind (wpAny_holding (gm A κ _ V _ _ l R₁.s r fun Fs tk' rf => ?_))
  refine wpAny_bind (wpAny_of_eq hpos ?_)
  exact wp_no (call_args (first := first) hs p pos hA l f R₁ rf) fun _ _ x => x.trans q
theorem gm_of {ov : AV} {T : String} {name : Str} {id : String} (pa : PlainAttrs T) (slot : Slot T name id) (hty : typeOf (.builtin id) = pure (.type "method_descriptor")) (ht : ∀ (κ : Kap) (s : Shared) (O : Value), RepS κ σ s.heap → VRel κ.av s.heap ov O → s.TypeIs O T)
    (hd : ∀ (κ : Kap) (s : Shared) (O : Value), RepS κ σ s.heap → VRel κ.av s.heap ov O → ∀ a, O = .ref a → ∃ o, s.heap.get? a = some o ∧ o.dict = none) : GM Γ name ov σ (.builtin id) [ov] := fun A κ s OV pl Q l R r h =>
  getMethod_builtin (ht κ s OV R r) pa slot hty (hd κ s OV R r) (h _ s.toks (.cons r .nil))
theorem gm_list {a : Addr} {xs : List AV} {name : Str} {id : String} (hm : (a, .list xs) ∈ σ) (slot : Slot "list" name id) (hty : typeOf (.builtin id) = pure (.type "method_descriptor")) : GM Γ name (.ref a) σ (.builtin id) [.ref a] :=
  gm_of PySem.F.plainAttrs_list slot hty (fun κ s O R r => by cases r; obtain ⟨vs, n, e, _⟩ := R.list hm; exact ⟨_, e, rfl⟩) fun κ s O R r b e => by
    cases r; cases e; obtain ⟨vs, n, e, _⟩ := R.list hm; exact ⟨_, e, rfl⟩
theorem gm_append {a : Addr} {xs : List AV} (hm : (a, .list xs) ∈ σ) : GM Γ "append" (.ref a) σ (.builtin "list.append") [.ref a] := gm_list hm PySem.F.slot_list_append PySem.F.type_list_append
theorem gm_pop {a : Addr} {xs : List AV} (hm : (a, .list xs) ∈ σ) : GM Γ "pop" (.ref a) σ (.builtin "list.pop") [.ref a] := gm_list hm PySem.F.slot_list_pop PySem.F.type_list_pop
theorem gm_str {x : Str} {name : Str} {id : String} (slot : Slot "str" name id) (hty : typeOf (.builtin id) = pure (.type "method_descriptor")) : GM Γ name (.str x) σ (.builtin id) [.str x] :=
  gm_of PySem.F.plainAttrs_str slot hty (fun κ s O R r => by cases r; exact typeIs_str _ _ _) fun κ s O R r b e => by cases r; cases e
theorem gm_join {x : Str} : GM Γ "join" (.str x) σ (.builtin "str.join") [.str x] := gm_str PySem.F.slot_str_join PySem.F.type_str_join
theorem gm_count {x : Str} : GM Γ "count" (.str x) σ (.builtin "str.count") [.str x] := gm_str PySem.F.slot_str_count PySem.F.type_str_count
theorem gm_decode {b : Array UInt8} : GM Γ "decode" (.bytes b) σ (.builtin "bytes.decode") [.bytes b] :=
  gm_of PySem.W.FB.plainAttrs_bytes PySem.W.FB.slot_bytes_decode PySem.W.FB.type_bytes_decode (fun κ s O R r => by cases r; exact typeIs_bytes _ _ _) fun κ s O R r b e => by cases r; cases e

theorem cal_count {x y : Str} (h : P (.int (Builtin.Str.occurrences x y 0 x.length (x.length + 1)).length) σ) : Cal Γ k (.builtin "str.count") [.str x, .str y] σ P := fun _ κ s _ _ _ R r => by
  cases r with
  | cons a r =>
    cases a
    cases r with
    | cons a r =>
      cases a; cases r
      exact call_meets PySem.F.slot_str_count (typeIs_str _ _ _) PySem.F.entry_str_count (PySem.F.args_str_count_2 _ _) (gives_str_count x y _ _).meets ⟨_, σ, s.heap, _, rfl, R, .int _ _, h⟩
end
end Mine
namespace Mine

mutual
theorem VRel.avoid {av av' : Avd} {h : Heap} (k : ∀ a, av' a → av a ∨ h.get? a = none) : ∀ {x : AV} {v : Value}, VRel av h x v → VRel av' h x v
  | _, _, .none => .none
  | _, _, .bool b => .bool b
  | _, _, .int i t => .int i t
  | _, _, .str x t => .str x t
  | _, _, .bytes b t => .bytes b t
  | _, _, .tup n t r => .tup (fun ha => (k _ ha).elim n fun e => by obtain ⟨m, hm⟩ := t; rw [hm] at e; cases e) t (VRels.avoid k r)
  | _, _, .ref a => .ref a
  | _, _, .raw v => .raw v
theorem VRels.avoid {av av' : Avd} {h : Heap} (k : ∀ a, av' a → av a ∨ h.get? a = none) : ∀ {x : List AV} {v : List Value}, VRels av h x v → VRels av' h x v
  | _, _, .nil => .nil
  | _, _, .cons a b => .cons (VRel.avoid k a) (VRels.avoid k b)
end
theorem EnRel.avoid {av av' : Avd} {h : Heap} (k : ∀ a, av' a → av a ∨ h.get? a = none) {es : List (Str × AV)} {l : List DictEntry} (r : EnRel av h es l) : EnRel av' h es l := by
  induction r with
  | nil => exact .nil
  | cons a b _ ih => exact .cons a (b.avoid k) ih
theorem ORel.avoid {av av' : Avd} {h : Heap} (k : ∀ a, av' a → av a ∨ h.get? a = none) : ∀ {o : AO} {ob : Obj}, ORel av h o ob → ORel av' h o ob
  | .list _, _, ⟨vs, n, e, r⟩ => ⟨vs, n, e, r.avoid k⟩
  | .ns _, _, ⟨l, n, d, e⟩ => ⟨l, n, d, e.avoid k⟩
  | .inst _ _, _, e => e
  | .cell _, _, ⟨V, e, r⟩ => ⟨V, e, r.avoid k⟩
  | .obj _, _, e => e

abbrev avU (κ : Kap) (avs : List Addr) : Avd := fun a => κ.av a ∨ a ∈ avs
/-- what an iterator holds is protected too -/
noncomputable def shield (κ : Kap) (pv avs : List Addr) (h : Heap) (live : ∀ a ∈ pv, h.get? a ≠ none) (sub : ∀ a ∈ avs, a ∈ pv) : Kap where
  p b := if b ∈ pv then h.get? b else κ.p b
  av := avU κ avs
  ok a ha := by
    by_cases hp : a ∈ pv
    · rw [if_pos hp]; exact live a hp
    · rw [if_neg hp]
      rcases ha with ha | ha
      · exact κ.ok a ha
      · exact absurd (sub a ha) hp

/-- κ', av' in place of κ, av: the objects of the store as they were -/
theorem RepS.turn {κ κ' : Kap} {σ : Sto} {h h' : Heap} (R : RepS κ σ h) (pr : ∀ b o, κ'.p b = some o → h'.get? b = some o) (nw : ∀ a ∈ keys σ, κ'.p a = none) (hs : ∀ a ∈ keys σ, ∀ o, h.get? a = some o → h'.get? a = some o) (va : ∀ a, κ'.av a → κ.av a ∨ h.get? a = none) (tk : TK κ'.av h h') : RepS κ' σ h' where
  prot := pr
  objs p hp := let ⟨ob, e, r⟩ := R.objs p hp; ⟨ob, hs _ (List.mem_map_of_mem hp) _ e, (r.avoid va).mono tk⟩
  nodup := R.nodup
  new p hp := nw _ (List.mem_map_of_mem hp)
theorem FRel.turn {κ κ' : Kap} {env : Env} {loc : Loc} {σ : Sto} {h h' : Heap} (F : FRel κ env loc σ h) (hL : ∀ o, h.get? env.locals = some o → h'.get? env.locals = some o) (hC : ∀ b o V, h.get? b = some o → o.data = .cell V → h'.get? b = some o) (ln : κ'.p env.locals = none)
    (pc : ∀ b o V, h.get? b = some o → o.data = .cell V → κ'.p b = κ.p b) (vt : ∀ v V, VRel κ.av h v V → VRel κ'.av h' v V) (pr : ∀ b o, κ.p b = some o → h.get? b = some o) : FRel κ' env loc σ h' where
  ns := by
    obtain ⟨m, hn, hm⟩ := F.ns
    refine ⟨m, ?_, fun x v hx hk => let ⟨V, e, r⟩ := hm x v hx hk; ⟨V, e, vt _ _ r⟩⟩
    obtain ⟨o, es, ep, ho, r⟩ := hn
    exact ⟨o, es, ep, hL _ ho, r⟩
  cell x hx := by
    obtain ⟨c, V, hc, ⟨o, ho, hd⟩, hv⟩ := F.cell x hx
    exact ⟨c, V, hc, ⟨o, hC _ _ _ ho hd, hd⟩, fun v h => let ⟨V', e, r⟩ := hv v h; ⟨V', e, vt _ _ r⟩⟩
  free x v hx hk := let ⟨c, o, V, a, b, d, e⟩ := F.free x v hx hk; ⟨c, o, V, a, by rw [pc c o _ (pr _ _ b) d]; exact b, d, vt _ _ e⟩
  apart := F.apart
  Lnew := ⟨ln, F.Lnew.2⟩
  cnew x c hx hc := by
    obtain ⟨c', V, hc', ⟨o, ho, hd⟩, _⟩ := F.cell x hx
    rw [hc] at hc'; cases hc'
    rw [pc c o _ ho hd]
    exact F.cnew x c hx hc

/-- an iterator -/
structure Itr (Γ : Gd) (k : Nat) (target : Expr) where
  IT : Value
  pv : List Addr
  avs : List Addr
  src : Sto
  cv : List (AV × Value)
  Inv : List AV → Heap → Prop
  sub : ∀ a ∈ avs, a ∈ pv
  live : ∀ vs h, Inv vs h → ∀ a ∈ pv, ∃ o, h.get? a = some o ∧ (a ∉ avs → o.cls ≠ .type "tuple") ∧ ∀ V, o.data ≠ .cell V
  frame : ∀ vs h h', Inv vs h → (∀ a ∈ pv, ∀ o, h.get? a = some o → h'.get? a = some o) → Inv vs h'
  self : ∀ A vs (s : Shared) (Q : Value → Shared → Prop), Inv vs s.heap → Q IT s → wpAny Γ.M A (pyIter IT) Q No s
  next : ∀ A κ σ (s : Shared) v vs (Q : Value → Shared → Prop), AOk k A → Γ.le κ → RepS κ σ s.heap → (∀ a ∈ pv, κ.p a = s.heap.get? a) → (∀ a ∈ avs, κ.av a) → (∀ p ∈ src, p ∈ σ) → (∀ p ∈ cv, VRel κ.av s.heap p.1 p.2) → Inv (v :: vs) s.heap →
    (∀ V h' tk, (∀ b o, b ∉ pv → s.heap.get? b = some o → h'.get? b = some o) → (∀ a ∈ pv, h'.get? a ≠ none) → (TK κ.av s.heap h' → VRel κ.av h' v V) → Inv vs h' → Q V { s with heap := h', toks := tk }) → wpAny Γ.M A (pyNext IT) (fun r s₁ => ∃ V, r = some V ∧ wpAny Γ.M A (letOwnedTupleGo target IT V) (fun _ s₂ => Q V s₂) No s₁) No s
  done : ∀ A κ σ (s : Shared) (Q : Shared → Prop), AOk k A → Γ.le κ → RepS κ σ s.heap → (∀ a ∈ pv, κ.p a = s.heap.get? a) → (∀ p ∈ src, p ∈ σ) → (∀ p ∈ cv, VRel κ.av s.heap p.1 p.2) → Inv [] s.heap →
    (∀ h' tk, (∀ b o, b ∉ pv → s.heap.get? b = some o → h'.get? b = some o) → Q { s with heap := h', toks := tk }) → wpAny Γ.M A (pyNext IT) (fun r s₁ => r = none ∧ Q s₁) No s

theorem Itr.lv {Γ : Gd} {k : Nat} {target : Expr} (I : Itr Γ k target) {vs : List AV} {h : Heap} (i : I.Inv vs h) : ∀ a ∈ I.pv, h.get? a ≠ none := fun a ha e => by
  obtain ⟨o, ho, _⟩ := I.live vs h i a ha
  rw [ho] at e; cases e

abbrev PstF (κ : Kap) (avs : List Addr) (env : Env) (s : Shared) (P : AFl → Loc → Sto → Prop) : Result → Shared → Prop := fun r s' => match r with
  | .ok f => ∃ fl loc' σ' h' tk, s' = { s with heap := h', toks := tk } ∧ TK (avU κ avs) s.heap h' ∧ Rep κ env loc' σ' h' ∧ FlRel κ.av h' fl f ∧ P fl loc' σ'
  | .error _ => False
theorem PstF.trans {κ : Kap} {avs : List Addr} {env : Env} {s : Shared} {h₁ : Heap} {tk₁ : Nat} {P : AFl → Loc → Sto → Prop} {r : Result} {s' : Shared} (tk : TK (avU κ avs) s.heap h₁) (h : PstF κ avs env { s with heap := h₁, toks := tk₁ } P r s') : PstF κ avs env s P r s' := by
  cases r with
  | ok f => obtain ⟨fl, l, σ', h', t, e, q, R, r, p⟩ := h; exact ⟨fl, l, σ', h', t, e, tk.trans q, R, r, p⟩
  | error _ => exact h

section
variable {Γ : Gd} {k : Nat} {sc : Scope} {loc : Loc} {σ : Sto} {target : Expr} {body : List Stmt} {P : AFl → Loc → Sto → Prop}

noncomputable def ForI (sc : Scope) (body : List Stmt) (I : Itr Γ k target) (vs : List AV) (loc : Loc) (σ : Sto) (P : AFl → Loc → Sto → Prop) : Prop :=
  ∀ A κ env s (i : I.Inv vs s.heap), AOk k A → Γ.le κ → Fits sc env → (∀ a ∈ I.pv, κ.p a = none) → Rep (shield κ I.pv I.avs s.heap (I.lv i) I.sub) env loc σ s.heap → (∀ p ∈ I.src, p ∈ σ) → (∀ p ∈ I.cv, VRel (avU κ I.avs) s.heap p.1 p.2) →
    codeAny Γ.M A (.forLoop target I.IT body [] env) (PstF κ I.avs env s P) s

/-- back to what was protected before -/
theorem unshield {κ : Kap} {pv avs : List Addr} {h₀ h : Heap} {l : ∀ a ∈ pv, h₀.get? a ≠ none} {sb : ∀ a ∈ avs, a ∈ pv} {env : Env} (R : Rep (shield κ pv avs h₀ l sb) env loc σ h) (hn : ∀ a ∈ pv, κ.p a = none) (hc : ∀ a ∈ pv, ∀ o, h₀.get? a = some o → ∀ V, o.data ≠ .cell V) : Rep κ env loc σ h := by
  have hp : ∀ b o, κ.p b = some o → (shield κ pv avs h₀ l sb).p b = some o := fun b o e => by
    show (if b ∈ pv then h₀.get? b else κ.p b) = some o
    rw [if_neg (fun hb => by rw [hn b hb] at e; cases e)]; exact e
  have hq : ∀ b, (shield κ pv avs h₀ l sb).p b = none → κ.p b = none := fun b e => by
    cases e' : κ.p b with
    | none => rfl
    | some o => rw [hp b o e'] at e; cases e
  refine ⟨R.s.turn (fun b o e => R.s.prot b o (hp b o e)) (fun a ha => hq a ?_) (fun _ _ _ e => e) (fun a ha => .inl (.inl ha)) (.refl _), ?_⟩
  · obtain ⟨p, hp', rfl⟩ := List.mem_map.mp ha; exact R.s.new p hp'
  · exact {
      ns := let ⟨m, hn', hm⟩ := R.f.ns; ⟨m, hn', fun x v hx hk => let ⟨V, a, b⟩ := hm x v hx hk; ⟨V, a, b.avoid fun a ha => .inl (.inl ha)⟩⟩
      cell := fun x hx => let ⟨c, V, a, b, d⟩ := R.f.cell x hx; ⟨c, V, a, b, fun v h => let ⟨V', e, r⟩ := d v h; ⟨V', e, r.avoid fun a ha => .inl (.inl ha)⟩⟩
      free := fun x v hx hk => by
        obtain ⟨c, o, V, a, b, d, e⟩ := R.f.free x v hx hk
        refine ⟨c, o, V, a, ?_, d, e.avoid fun a ha => .inl (.inl ha)⟩
        have b' : (if c ∈ pv then h₀.get? c else κ.p c) = some o := b
        by_cases hm : c ∈ pv
        · rw [if_pos hm] at b'; exact absurd d (hc c hm o b' _)
        · rw [if_neg hm] at b'; exact b'
      apart := R.f.apart
      Lnew := ⟨hq _ R.f.Lnew.1, R.f.Lnew.2⟩
      cnew := fun x c hx hcc => by
        obtain ⟨a, b, d⟩ := R.f.cnew x c hx hcc
        exact ⟨a, fun hf => hq _ (b hf), fun o e => d o (hp _ _ e)⟩ }
/-- the objects that an iterator holds turned, all else as it was -/
theorem reshield {κ : Kap} {pv avs : List Addr} {h₁ h h' : Heap} {l₁ : ∀ a ∈ pv, h₁.get? a ≠ none} {l₂ : ∀ a ∈ pv, h'.get? a ≠ none} {sb : ∀ a ∈ avs, a ∈ pv} {env : Env} (R : Rep (shield κ pv avs h₁ l₁ sb) env loc σ h)
    (hk : ∀ b o, b ∉ pv → h.get? b = some o → h'.get? b = some o) (hc : ∀ a ∈ pv, ∀ o, h₁.get? a = some o → (a ∉ avs → o.cls ≠ .type "tuple") ∧ ∀ V, o.data ≠ .cell V) : TK (avU κ avs) h h' ∧ Rep (shield κ pv avs h' l₂ sb) env loc σ h' := by
  have live1 : ∀ a ∈ pv, ∃ o, h₁.get? a = some o ∧ h.get? a = some o := fun a ha => by
    cases e : h₁.get? a with
    | none => exact absurd e (l₁ a ha)
    | some o => exact ⟨o, rfl, R.s.prot a o (by show (if a ∈ pv then h₁.get? a else κ.p a) = some o; rw [if_pos ha]; exact e)⟩
  have out : ∀ a, (shield κ pv avs h₁ l₁ sb).p a = none → a ∉ pv := fun a e ha => by
    obtain ⟨o, e1, _⟩ := live1 a ha
    have e' : (if a ∈ pv then h₁.get? a else κ.p a) = none := e
    rw [if_pos ha, e1] at e'; cases e'
  have nn : ∀ a, (shield κ pv avs h₁ l₁ sb).p a = none → (shield κ pv avs h' l₂ sb).p a = none := fun a e => by
    have ha := out a e
    have e' : (if a ∈ pv then h₁.get? a else κ.p a) = none := e
    show (if a ∈ pv then h'.get? a else κ.p a) = none
    rw [if_neg ha] at e' ⊢; exact e'
  have tk : TK (avU κ avs) h h' := fun a vs na ⟨n, e⟩ => by
    refine ⟨n, hk a _ (fun ha => ?_) e⟩
    obtain ⟨o, e1, e2⟩ := live1 a ha
    rw [e] at e2; cases e2
    exact (hc a ha _ e1).1 (fun hm => na (.inr hm)) rfl
  refine ⟨tk, R.s.turn (fun b o e => ?_) (fun a ha => nn a ?_) (fun a ha o e => hk a o (out a ?_) e) (fun a ha => .inl ha) tk, R.f.turn (fun o ho => hk _ o (out _ R.f.Lnew.1) ho) (fun b o V ho hd => hk b o (fun hb => ?_) ho) (nn _ R.f.Lnew.1) (fun b o V ho hd => ?_) (fun _ _ r => r.mono tk) R.s.prot⟩
  · have e' : (if b ∈ pv then h'.get? b else κ.p b) = some o := e
    by_cases hb : b ∈ pv
    · rw [if_pos hb] at e'; exact e'
    · rw [if_neg hb] at e'
      exact hk b o hb (R.s.prot b o (by show (if b ∈ pv then h₁.get? b else κ.p b) = some o; rw [if_neg hb]; exact e'))
  · obtain ⟨p, hp, rfl⟩ := List.mem_map.mp ha; exact R.s.new p hp
  · obtain ⟨p, hp, rfl⟩ := List.mem_map.mp ha; exact R.s.new p hp
  · obtain ⟨o', e1, e2⟩ := live1 b hb
    rw [ho] at e2; cases e2
    exact (hc b hb o e1).2 _ hd
  · have hb : b ∉ pv := fun hb => by
      obtain ⟨o', e1, e2⟩ := live1 b hb
      rw [ho] at e2; cases e2
      exact (hc b hb o e1).2 _ hd
    show (if b ∈ pv then h'.get? b else κ.p b) = (if b ∈ pv then h₁.get? b else κ.p b)
    rw [if_neg hb, if_neg hb]
/-- an iterator just made -/
theorem shield_new {κ : Kap} {pv avs : List Addr} {h h' : Heap} {l : ∀ a ∈ pv, h'.get? a ≠ none} {sb : ∀ a ∈ avs, a ∈ pv} {env : Env} (R : Rep κ env loc σ h) (hk : ∀ b o, h.get? b = some o → h'.get? b = some o) (hn : ∀ a ∈ pv, h.get? a = none) :
    (∀ a ∈ pv, κ.p a = none) ∧ Rep (shield κ pv avs h' l sb) env loc σ h' := by
  have out : ∀ a o, h.get? a = some o → a ∉ pv := fun a o e ha => by rw [hn a ha] at e; cases e
  have pn : ∀ a ∈ pv, κ.p a = none := fun a ha => by
    cases e : κ.p a with
    | none => rfl
    | some o => exact absurd ha (out a o (R.s.prot a o e))
  have nn : ∀ a o, h.get? a = some o → κ.p a = none → (shield κ pv avs h' l sb).p a = none := fun a o ho e => by
    show (if a ∈ pv then h'.get? a else κ.p a) = none
    rw [if_neg (out a o ho)]; exact e
  have va : ∀ a, (shield κ pv avs h' l sb).av a → κ.av a ∨ h.get? a = none := fun a ha => ha.imp id fun hm => hn a (sb a hm)
  have lo : ∃ o, h.get? env.locals = some o := let ⟨m, ⟨o, _, _, ho, _⟩, _⟩ := R.f.ns; ⟨o, ho⟩
  refine ⟨pn, R.s.turn (fun b o e => ?_) (fun a ha => ?_) (fun a ha o e => hk a o e) va (.of_keeps hk), R.f.turn (fun o ho => hk _ o ho) (fun b o V ho hd => hk b o ho) (let ⟨o, ho⟩ := lo; nn _ o ho R.f.Lnew.1) (fun b o V ho hd => ?_) (fun _ _ r => (r.avoid va).mono (.of_keeps hk)) R.s.prot⟩
  · have e' : (if b ∈ pv then h'.get? b else κ.p b) = some o := e
    by_cases hb : b ∈ pv
    · rw [if_pos hb] at e'; exact e'
    · rw [if_neg hb] at e'; exact hk b o (R.s.prot b o e')
  · obtain ⟨o, ho, _⟩ := R.s.live ha
    obtain ⟨p, hp, rfl⟩ := List.mem_map.mp ha; exact nn _ o ho (R.s.new p hp)
  · show (if b ∈ pv then h'.get? b else κ.p b) = κ.p b
    rw [if_neg (out b o ho)]

theorem le_shield {κ : Kap} {pv avs : List Addr} {h : Heap} {l : ∀ a ∈ pv, h.get? a ≠ none} {sb : ∀ a ∈ avs, a ∈ pv} (le : Γ.le κ) (hn : ∀ a ∈ pv, κ.p a = none) : Γ.le (shield κ pv avs h l sb) := fun b o e => by
  show (if b ∈ pv then h.get? b else κ.p b) = some o
  rw [if_neg (fun hb => by have := le b o e; rw [hn b hb] at this; cases this)]; exact le b o e

theorem forI_tree {it : Value} {A : Around} {env : Env} {R : Result → Shared → Prop} {s : Shared}
    (h : wpAny Γ.M A (pyNext it) (fun r s₁ => match r with
      | none => R (.ok .next) s₁
      | some v => wpAny Γ.M A (letOwnedTupleGo target it v) (fun _ s₁ => wpAny Γ.M A (assign target env v) (fun _ s₂ => wpAny Γ.M A (execs body env) (fun f s₃ => match f with
          | .next | .cont => codeAny Γ.M A (.forLoop target it body [] env) R s₃
          | .brk => R (.ok .next) s₃
          | .ret v => R (.ok (.ret v)) s₃) No s₂) No s₁) No s₁) No s) : codeAny Γ.M A (.forLoop target it body [] env) R s := by
  refine codeAny_of_tree ?_
  show wpAny _ A ((forTurn target it body [] env).onRaise (fun x => do noteFrame x env; theTreesLotGoes x)) _ _ s
  refine wpAny_noted ?_
  simp only [forTurn]
  refine wpAny_bind (wpAny_standAt (wpAny_bind (wpAny_onRaise (wpAny_mono h (fun r s₁ h₁ => ?_) fun _ _ x => x.elim))))
  cases r with
  | none => exact wpAny_pure ⟨rfl, codeAny_block (wpAny_execs_nil h₁)⟩
  | some v =>
    refine wpAny_bind (wp_no h₁ fun _ s₂ h₂ => wpAny_bind (wp_no h₂ fun _ s₃ h₃ => wpAny_bind (wp_no h₃ fun f s₄ h₄ => ?_)))
    cases f with
    | next => exact wpAny_pure ⟨rfl, h₄⟩
    | cont => exact wpAny_pure ⟨rfl, h₄⟩
    | brk => exact wpAny_pure h₄
    | ret v => exact wpAny_pure h₄

theorem Itr.cells {I : Itr Γ k target} {vs : List AV} {h : Heap} (i : I.Inv vs h) : ∀ a ∈ I.pv, ∀ o, h.get? a = some o → (a ∉ I.avs → o.cls ≠ .type "tuple") ∧ ∀ V, o.data ≠ .cell V := fun a ha o e => by
  obtain ⟨o', e', p⟩ := I.live vs h i a ha
  rw [e] at e'; cases e'; exact p

theorem forI_nil {I : Itr Γ k target} (h : P .next loc σ) : ForI sc body I [] loc σ P := fun A κ env s i hA le f hn R hs hcv => by
  refine forI_tree (wp_no (I.done A _ σ s (fun s' => PstF κ I.avs env s P (.ok .next) s') hA (le_shield le hn) R.s (fun a ha => ?_) hs hcv i fun h' tk hk => ?_) fun r s₁ pst0 => ?_)
  · show (if a ∈ I.pv then s.heap.get? a else κ.p a) = s.heap.get? a
    rw [if_pos ha]
  · have U := unshield R hn (fun a ha o e => (Itr.cells i a ha o e).2)
    have tk' : TK (avU κ I.avs) s.heap h' := fun a vs na ⟨n, e⟩ => ⟨n, hk a _ (fun ha => (Itr.cells i a ha _ e).1 (fun hm => na (.inr hm)) rfl) e⟩
    have out : ∀ a, κ.p a = none → (∃ o, s.heap.get? a = some o ∧ (shield κ I.pv I.avs s.heap (I.lv i) I.sub).p a = none) → a ∉ I.pv := fun a _ ⟨o, ho, e⟩ ha => by
      have e' : (if a ∈ I.pv then s.heap.get? a else κ.p a) = none := e
      rw [if_pos ha, ho] at e'; cases e'
    refine ⟨.next, loc, σ, h', tk, rfl, tk', ?_, .next, h⟩
    have R2 : RepS κ σ h' := {
      prot := fun b o e => hk b o (fun hb => by rw [hn b hb] at e; cases e) (U.s.prot b o e)
      objs := fun p hp => by
        obtain ⟨ob, e, r⟩ := R.s.objs p hp
        have hnp : p.1 ∉ I.pv := out p.1 (U.s.new p hp) ⟨ob, e, R.s.new p hp⟩
        exact ⟨ob, hk _ _ hnp e, (r.mono tk').avoid fun a ha => .inl (.inl ha)⟩
      nodup := U.s.nodup
      new := U.s.new }
    refine ⟨R2, ?_⟩
    have pvc : ∀ b o V, s.heap.get? b = some o → o.data = .cell V → b ∉ I.pv := fun b o V ho hd hb => (Itr.cells i b hb o ho).2 _ hd
    refine R.f.turn (κ' := κ) (fun o ho => hk _ o (out _ U.f.Lnew.1 ⟨o, ho, R.f.Lnew.1⟩) ho) (fun b o V ho hd => hk b o (pvc b o V ho hd) ho) U.f.Lnew.1 (fun b o V ho hd => ?_) (fun _ _ r => (r.mono tk').avoid fun a ha => .inl (.inl ha)) R.s.prot
    show κ.p b = (if b ∈ I.pv then s.heap.get? b else κ.p b)
    rw [if_neg (pvc b o V ho hd)]
  · obtain ⟨e, q⟩ := pst0; subst e; exact q

theorem forI_cons {I : Itr Γ k target} {v : AV} {vs : List AV} (h : Asg Γ k sc target v loc σ fun loc₁ σ₁ => Exs Γ k sc body loc₁ σ₁ (Turn P fun l σ' => (∀ p ∈ I.src, p ∈ σ') ∧ ForI sc body I vs l σ' P)) : ForI sc body I (v :: vs) loc σ P := fun A κ env s i hA le f hn R hs hcv => by
  refine forI_tree (wp_no (I.next A _ σ s v vs (fun V s₁ => ∃ h' tk, s₁ = { s with heap := h', toks := tk } ∧ TK (avU κ I.avs) s.heap h' ∧ ∃ (i' : I.Inv vs h'), Rep (shield κ I.pv I.avs h' (I.lv i') I.sub) env loc σ h' ∧ VRel (avU κ I.avs) h' v V) hA (le_shield le hn) R.s (fun a ha => ?_) (fun a ha => .inr ha) hs hcv i fun V h' tk hk hl hv i' => ?_) fun r s₁ pst0 => ?_)
  · show (if a ∈ I.pv then s.heap.get? a else κ.p a) = s.heap.get? a
    rw [if_pos ha]
  · obtain ⟨tk', R'⟩ := reshield (l₂ := I.lv i') R hk (Itr.cells i)
    exact ⟨h', tk, rfl, tk', i', R', hv tk'⟩
  · obtain ⟨V, e, q⟩ := pst0
    subst e
    refine wp_no q fun _ s₂ pst0 => ?_
    obtain ⟨h₂, tk₂, e₂, q₂, i₂, R₂, r₂⟩ := pst0
    subst e₂
    refine wpA (h A _ env _ V hA (le_shield le hn) f R₂ r₂) fun l₃ σ₃ h₃ tk₃ q₃ R₃ p₃ => ?_
    refine wpX (p₃ A _ env _ hA (le_shield le hn) f R₃) fun fl g l₄ σ₄ h₄ tk₄ q₄ R₄ r₄ p₄ => ?_
    have tkA : TK (avU κ I.avs) s.heap h₄ := (q₂.trans q₃).trans q₄
    have i₄ : I.Inv vs h₄ := I.frame vs h₂ h₄ i₂ fun a ha o e => R₄.s.prot a o (by show (if a ∈ I.pv then h₂.get? a else κ.p a) = some o; rw [if_pos ha]; exact e)
    have R₅ : Rep (shield κ I.pv I.avs h₄ (I.lv i₄) I.sub) env l₄ σ₄ h₄ := (reshield (l₂ := I.lv i₄) R₄ (fun _ _ _ e => e) (Itr.cells i₂)).2
    have go : (∀ p ∈ I.src, p ∈ σ₄) ∧ ForI sc body I vs l₄ σ₄ P → codeAny Γ.M A (.forLoop target I.IT body [] env) (PstF κ I.avs env s P) { s with heap := h₄, toks := tk₄ } := fun ⟨hs', again⟩ =>
      codeAny_mono (again A κ env { s with heap := h₄, toks := tk₄ } i₄ hA le f hn R₅ hs' fun p hp => (hcv p hp).mono tkA) fun r s₅ x => x.trans (tk₁ := tk₄) tkA
    have U : Rep κ env l₄ σ₄ h₄ := unshield R₅ hn (fun a ha o e => (Itr.cells i₄ a ha o e).2)
    cases r₄ with
    | next => exact go p₄
    | cont => exact go p₄
    | brk => exact ⟨_, _, _, _, _, rfl, tkA, U, .next, p₄⟩
    | ret r => exact ⟨_, _, _, _, _, rfl, tkA, U, .ret (r.avoid fun a ha => .inl (.inl ha)), p₄⟩

/-- a for over an iterator that is there -/
noncomputable def For (Γ : Gd) (k : Nat) (sc : Scope) (target : Expr) (body : List Stmt) (src : Sto) (vs : List AV) (loc : Loc) (σ : Sto) (P : AFl → Loc → Sto → Prop) : Prop :=
  ∀ I : Itr Γ k target, I.src = src → ForI sc body I vs loc σ P
theorem for_nil {src : Sto} (h : P .next loc σ) : For Γ k sc target body src [] loc σ P := fun I _ => forI_nil h
theorem for_cons {src : Sto} {v : AV} {vs : List AV} (h : Asg Γ k sc target v loc σ fun loc₁ σ₁ => Exs Γ k sc body loc₁ σ₁ (Turn P fun l σ' => (∀ p ∈ src, p ∈ σ') ∧ For Γ k sc target body src vs l σ' P)) : For Γ k sc target body src (v :: vs) loc σ P := fun I e => by
  subst e
  refine forI_cons fun A κ env s V hA le f R r => wpA (h A κ env s V hA le f R r) fun l σ' h' tk b c d => ⟨l, σ', h', tk, rfl, b, c, exs_mono d fun fl l₂ σ₂ t => ?_⟩
  cases fl with
  | next => exact ⟨t.1, t.2 I rfl⟩
  | cont => exact ⟨t.1, t.2 I rfl⟩
  | brk => exact t
  | ret v => exact t
end
end Mine
namespace Mine
section
variable {Γ : Gd} {k : Nat} {sc : Scope} {loc : Loc} {σ : Sto} {target : Expr} {body : List Stmt} {P : AFl → Loc → Sto → Prop}

/-- targets that we meet -/
inductive Tgt : Expr → Prop
  | name (x : Str) (p : Pos) : Tgt (.Name x p)
  | tup (es : List Expr) (n : Nat) (p : Pos) : Tgt (.Tuple es n p)

theorem letOwned_plain (T : Tgt target) {M : Model} {A : Around} {E : Value → Shared → Prop} {s : Shared} {I : Addr} {V : Value} {o : Obj} {ty : String} {fs : Array Value} {Q : Unit → Shared → Prop} (ho : s.heap.get? I = some o) (hc : o.cls = .type ty) (hd : o.data = .fields fs)
    (hn : (["enumerate", "zip", "dict_itemiterator", "dict_reverseitemiterator", "odict_iterator", "itertools.zip_longest", "itertools.pairwise"].contains ty) = false) (h : Q () s) : wpAny M A (letOwnedTupleGo target (.ref I) V) Q E s := by
  cases T with
  | name x p => exact wpAny_pure h
  | tup es n p =>
    cases V with
    | ref T =>
      unfold letOwnedTupleGo
      refine wpAny_bind (wpAny_load ho ?_)
      rw [hc, hd]
      show wpAny _ A (if (["enumerate", "zip", "dict_itemiterator", "dict_reverseitemiterator", "odict_iterator", "itertools.zip_longest", "itertools.pairwise"].contains ty && fs[0]? == some (rawInt T)) = true then _ else _) Q E s
      rw [if_neg (by rw [hn, Bool.false_and]; simp)]
      exact wpAny_pure h
    | _ => exact wpAny_pure h

/-- an iterator made of a value -/
noncomputable def Mk (Γ : Gd) (k : Nat) (target : Expr) (v : AV) (σ : Sto) (src : Sto) (vs : List AV) : Prop :=
  ∀ A κ (s : Shared) V, AOk k A → Γ.le κ → RepS κ σ s.heap → VRel κ.av s.heap v V → wpAny Γ.M A (pyIter V) (fun it s' => ∃ (I : Itr Γ k target) (h' : Heap) (tk : Nat), s' = { s with heap := h', toks := tk } ∧ I.src = src ∧ I.avs = [] ∧ it = I.IT ∧ I.Inv vs h' ∧ (∀ b o, s.heap.get? b = some o → h'.get? b = some o) ∧ (∀ a ∈ I.pv, s.heap.get? a = none) ∧ ∀ p ∈ I.cv, VRel κ.av s.heap p.1 p.2) No s

theorem ex_for {iter : Expr} {pos : Pos} (h : Ev Γ k sc iter loc σ fun v σ₁ => ∃ src vs, Mk Γ k target v σ₁ src vs ∧ (∀ p ∈ src, p ∈ σ₁) ∧ For Γ k sc target body src vs loc σ₁ P) (hs : ∀ env x, foldedSetIterable iter env x = pure x) : Ex Γ k sc (.For target iter body [] pos) loc σ P := fun A κ env s hA le f R => by
  refine wpAny_For (wp_no (h A κ env s hA le f R) fun V s₁ pst => ?_) (hs env)
  obtain ⟨v, σ₁, h₁, tk₁, e₁, q₁, R₁, r₁, src, vs, mk, hsr, p⟩ := pst
  subst e₁
  refine wp_no (mk A κ _ V hA le R₁.s r₁) fun it s₂ pst0 => ?_
  obtain ⟨I, h₂, tk₂, e₂, es, _, ei, i, hk, hn, hcv⟩ := pst0
  subst e₂; subst ei; subst es
  obtain ⟨pn, R₂⟩ := shield_new (avs := I.avs) (l := I.lv i) (sb := I.sub) R₁ hk hn
  refine codeAny_mono (p I rfl A κ env { s with heap := h₂, toks := tk₂ } i hA le f pn R₂ hsr fun p hp => ((hcv p hp).avoid fun a ha => ha.imp id fun hm => hn a (I.sub a hm)).mono (.of_keeps hk)) fun r s₃ x => ?_
  cases r with
  | error _ => exact x.elim
  | ok fl =>
    obtain ⟨g, l₃, σ₃, h₃, tk₃, e₃, q₃, R₃, r₃, p₃⟩ := x
    refine ⟨g, l₃, σ₃, h₃, tk₃, e₃, q₁.trans fun a vs na t => q₃ a vs (fun ha => ?_) (TK.of_keeps (av := κ.av) hk a vs na t), R₃, r₃, p₃⟩
    rcases ha with ha | ha
    · exact na ha
    · obtain ⟨n, e⟩ := t; rw [hn a (I.sub a ha)] at e; cases e

/-! lists -/
noncomputable def itrList (T : Tgt target) (I a : Addr) (xs : List AV) : Itr Γ k target where
  IT := .ref I
  pv := [I]
  avs := []
  src := [(a, .list xs)]
  cv := []
  Inv vs h := ∃ i, h.IsListIter I a i ∧ vs = xs.drop i
  sub a ha := nomatch ha
  live vs h := fun ⟨i, ⟨o, ho, hc, hd⟩, _⟩ b hb => by
    rw [List.mem_singleton] at hb; subst hb
    exact ⟨o, ho, fun _ => by rw [hc]; decide, fun V e => by rw [hd] at e; cases e⟩
  frame vs h h' := fun ⟨i, ⟨o, ho, r⟩, e⟩ hk => ⟨i, ⟨o, hk I (List.mem_singleton.mpr rfl) o ho, r⟩, e⟩
  self A vs s Q := fun ⟨i, hit, _⟩ q => wpAny_pyIter_listiter hit q
  next A κ σ s v vs Q hA le R hp ha hs _ i hQ := by
    obtain ⟨i, hit, e⟩ := i
    have hm := hs _ (List.mem_singleton.mpr rfl)
    obtain ⟨ws, n, el, rs⟩ := R.list hm
    have hx : xs[i]? = some v := by
      have := congrArg (fun l => l[0]?) e
      simpa using this.symm
    obtain ⟨V, hv, rv⟩ := rs.get hx
    refine wpAny_pyNext_list_item hit (items := ws.toArray) ⟨_, el, rfl, n, rfl⟩ (x := V) (by simpa using hv) fun h' hit' hsb => ⟨V, rfl, ?_⟩
    obtain ⟨o', ho', hc', hd'⟩ := id hit'
    refine letOwned_plain T (s := { s with heap := h' }) ho' hc' hd' (by decide) (hQ V h' s.toks (fun b o hb hbo => hsb.extBut b o (fun e => hb (e ▸ List.mem_singleton.mpr rfl)) hbo) (fun b hb => ?_) (fun tk => rv.mono tk) ⟨i + 1, hit', ?_⟩)
    · rw [List.mem_singleton] at hb; subst hb; rw [ho']; simp
    · have := congrArg List.tail e
      simpa using this
  done A κ σ s Q hA le R hp hs _ i hQ := by
    obtain ⟨i, hit, e⟩ := i
    have hm := hs _ (List.mem_singleton.mpr rfl)
    obtain ⟨ws, n, el, rs⟩ := R.list hm
    have hx : xs.length ≤ i := by simpa using e.symm
    exact wpAny_pyNext_list_end hA.1 hit (items := ws.toArray) ⟨_, el, rfl, n, rfl⟩ (by simp; rw [rs.length]; exact hx) fun h' he => ⟨rfl, hQ h' s.toks fun b o hb hbo => he b o (fun e => hb (e ▸ List.mem_singleton.mpr rfl)) hbo⟩
theorem mk_list (T : Tgt target) {a : Addr} {xs : List AV} (hm : (a, .list xs) ∈ σ) : Mk Γ k target (.ref a) σ [(a, .list xs)] xs := fun A κ s V hA le R r => by
  cases r
  obtain ⟨vs, n, e, rs⟩ := R.list hm
  exact wpAny_pyIter_list (items := vs.toArray) ⟨_, e, rfl, n, rfl⟩ ⟨itrList T s.heap.objs.size a xs, _, s.toks, rfl, rfl, rfl, rfl, ⟨0, ⟨_, Heap.get?_push_size _ rfl, rfl, rfl⟩, by simp⟩, push_keeps _, fun b hb => by rw [List.mem_singleton.mp hb]; exact size_new, fun _ h => nomatch h⟩

/-! tuples -/
noncomputable def itrTup (T : Tgt target) (I a : Addr) (xs : List AV) : Itr Γ k target where
  IT := .ref I
  pv := [I]
  avs := []
  src := []
  cv := [(.tup xs, .ref a)]
  Inv vs h := ∃ i, h.IsTupleIter I a i ∧ vs = xs.drop i
  sub a ha := nomatch ha
  live vs h := fun ⟨i, ⟨o, ho, hc, hd⟩, _⟩ b hb => by
    rw [List.mem_singleton] at hb; subst hb
    exact ⟨o, ho, fun _ => by rw [hc]; decide, fun V e => by rw [hd] at e; cases e⟩
  frame vs h h' := fun ⟨i, ⟨o, ho, r⟩, e⟩ hk => ⟨i, ⟨o, hk I (List.mem_singleton.mpr rfl) o ho, r⟩, e⟩
  self A vs s Q := fun ⟨i, hit, _⟩ q => wpAny_pyIter_tupleiter hit q
  next A κ σ s v vs Q hA le R hp ha hs hcv i hQ := by
    obtain ⟨i, hit, e⟩ := i
    cases hcv _ (List.mem_singleton.mpr rfl) with
    | tup na t rs =>
      rename_i ws
      have hx : xs[i]? = some v := by
        have := congrArg (fun l => l[0]?) e
        simpa using this.symm
      obtain ⟨V, hv, rv⟩ := rs.get hx
      refine wpAny_pyNext_tuple_item hit (items := ws.toArray) t.isTuple (x := V) (by simpa using hv) fun h' hit' hsb => ⟨V, rfl, ?_⟩
      obtain ⟨o', ho', hc', hd'⟩ := id hit'
      refine letOwned_plain T (s := { s with heap := h' }) ho' hc' hd' (by decide) (hQ V h' s.toks (fun b o hb hbo => hsb.extBut b o (fun e => hb (e ▸ List.mem_singleton.mpr rfl)) hbo) (fun b hb => ?_) (fun tk => rv.mono tk) ⟨i + 1, hit', ?_⟩)
      · rw [List.mem_singleton] at hb; subst hb; rw [ho']; simp
      · have := congrArg List.tail e
        simpa using this
  done A κ σ s Q hA le R hp hs hcv i hQ := by
    obtain ⟨i, hit, e⟩ := i
    cases hcv _ (List.mem_singleton.mpr rfl) with
    | tup na t rs =>
      rename_i ws
      have hx : xs.length ≤ i := by simpa using e.symm
      exact wpAny_pyNext_tuple_end hA.1 hit (items := ws.toArray) t.isTuple (by simp; rw [rs.length]; exact hx) fun h' he => ⟨rfl, hQ h' s.toks fun b o hb hbo => he b o (fun e => hb (e ▸ List.mem_singleton.mpr rfl)) hbo⟩
theorem mk_tup (T : Tgt target) {xs : List AV} : Mk Γ k target (.tup xs) σ [] xs := fun A κ s V hA le R r => by
  cases r with
  | tup na t rs =>
    exact wpAny_pyIter_tuple t.isTuple ⟨itrTup T s.heap.objs.size _ xs, _, s.toks, rfl, rfl, rfl, rfl, ⟨0, ⟨_, Heap.get?_push_size _ rfl, rfl, rfl⟩, by simp⟩, push_keeps _, fun b hb => by rw [List.mem_singleton.mp hb]; exact size_new, fun p hp => by rw [List.mem_singleton.mp hp]; exact .tup na t rs⟩

/-! texts -/
noncomputable def chars (x : Str) : List AV := x.cps.toList.map fun c => .str (ofL [c])
noncomputable def itrStr (T : Tgt target) (I : Addr) (ty : String) (hty : ty = "str_ascii_iterator" ∨ ty = "str_iterator") (x : Str) (t : Tok) : Itr Γ k target where
  IT := .ref I
  pv := [I]
  avs := []
  src := []
  cv := []
  Inv vs h := ∃ i, h.IsStrIter I ty x t i ∧ vs = (chars x).drop i
  sub a ha := nomatch ha
  live vs h := fun ⟨i, ⟨o, ho, hc, hd⟩, _⟩ b hb => by
    rw [List.mem_singleton] at hb; subst hb
    exact ⟨o, ho, fun _ => by rw [hc]; rcases hty with e | e <;> rw [e] <;> decide, fun V e => by rw [hd] at e; cases e⟩
  frame vs h h' := fun ⟨i, ⟨o, ho, r⟩, e⟩ hk => ⟨i, ⟨o, hk I (List.mem_singleton.mpr rfl) o ho, r⟩, e⟩
  self A vs s Q := fun ⟨i, hit, _⟩ q => by
    rcases hty with e | e
    · subst e; exact wpAny_pyIter_striter_ascii hit q
    · subst e; exact wpAny_pyIter_striter_wide hit q
  next A κ σ s v vs Q hA le R hp ha hs hcv i hQ := by
    obtain ⟨i, hit, e⟩ := i
    have hx : (chars x)[i]? = some v := by
      have := congrArg (fun l => l[0]?) e
      simpa using this.symm
    obtain ⟨c, hc, ev⟩ : ∃ c, x.cps[i]? = some c ∧ AV.str (ofL [c]) = v := by
      unfold chars at hx
      simpa using hx
    have et : vs = (chars x).drop (i + 1) := by
      have := congrArg List.tail e
      simpa using this
    subst ev
    have key : ∀ h', h'.IsStrIter I ty x t (i + 1) → Heap.SameBut I s.heap h' → wpAny Γ.M A (letOwnedTupleGo target (.ref I) (.str ⟨#[c]⟩ s.toks)) (fun _ s₂ => Q (.str ⟨#[c]⟩ s.toks) s₂) No { s with heap := h', toks := s.toks + 1 } := fun h' hit' hsb => by
      obtain ⟨o', ho', hc', hd'⟩ := id hit'
      refine letOwned_plain T (s := { s with heap := h', toks := s.toks + 1 }) ho' hc' hd' (by rcases hty with e | e <;> rw [e] <;> decide) (hQ _ h' (s.toks + 1) (fun b o hb hbo => hsb.extBut b o (fun e => hb (e ▸ List.mem_singleton.mpr rfl)) hbo) (fun b hb => ?_) (fun tk => .str _ _) ⟨i + 1, hit', et⟩)
      rw [List.mem_singleton] at hb; subst hb; rw [ho']; simp
    rcases hty with e' | e'
    · subst e'; exact wpAny_pyNext_ascii_item hit hc fun h' a b => ⟨_, rfl, key h' a b⟩
    · subst e'; exact wpAny_pyNext_wide_item hit hc fun h' a b => ⟨_, rfl, key h' a b⟩
  done A κ σ s Q hA le R hp hs hcv i hQ := by
    obtain ⟨i, hit, e⟩ := i
    have hx : x.cps[i]? = none := by
      have : (chars x).length ≤ i := by simpa using e.symm
      unfold chars at this
      simpa using this
    rcases hty with e' | e'
    · subst e'; exact wpAny_pyNext_ascii_end hA.1 hit hx fun h' he => ⟨rfl, hQ h' s.toks fun b o hb hbo => he b o (fun e => hb (e ▸ List.mem_singleton.mpr rfl)) hbo⟩
    · subst e'; exact wpAny_pyNext_wide_end hA.1 hit hx fun h' he => ⟨rfl, hQ h' s.toks fun b o hb hbo => he b o (fun e => hb (e ▸ List.mem_singleton.mpr rfl)) hbo⟩
theorem mk_str (T : Tgt target) {x : Str} : Mk Γ k target (.str x) σ [] (chars x) := fun A κ s V hA le R r => by
  cases r
  rename_i t
  cases ha : x.cps.all (· < 128) with
  | true => exact wpAny_pyIter_ascii ha ⟨itrStr T s.heap.objs.size _ (.inl rfl) x t, _, s.toks, rfl, rfl, rfl, rfl, ⟨0, ⟨_, Heap.get?_push_size _ rfl, rfl, rfl⟩, by simp⟩, push_keeps _, fun b hb => by rw [List.mem_singleton.mp hb]; exact size_new, fun _ h => nomatch h⟩
  | false => exact wpAny_pyIter_wide ha ⟨itrStr T s.heap.objs.size _ (.inr rfl) x t, _, s.toks, rfl, rfl, rfl, rfl, ⟨0, ⟨_, Heap.get?_push_size _ rfl, rfl, rfl⟩, by simp⟩, push_keeps _, fun b hb => by rw [List.mem_singleton.mp hb]; exact size_new, fun _ h => nomatch h⟩

/-! ranges -/
noncomputable def intsFrom (a : Int) : Nat → List AV
  | 0 => []
  | n + 1 => .int a :: intsFrom (a + 1) n
noncomputable def RangeObj (o : Obj) (a b : Int) : Prop := ∃ t u v, o = { cls := .type "range", data := .fields #[.int a t, .int b u, .int 1 v] }
noncomputable def itrRange (T : Tgt target) (I : Addr) : Itr Γ k target where
  IT := .ref I
  pv := [I]
  avs := []
  src := []
  cv := []
  Inv vs h := ∃ (x : Int) (n : Nat), IsRangeIter h I x n 1 ∧ vs = intsFrom x n
  sub a ha := nomatch ha
  live vs h := fun ⟨x, n, ho, _⟩ b hb => by
    rw [List.mem_singleton] at hb; subst hb
    exact ⟨_, ho, fun _ => by show Value.type "range_iterator" ≠ _; decide, fun V e => by cases e⟩
  frame vs h h' := fun ⟨x, n, ho, e⟩ hk => ⟨x, n, hk I (List.mem_singleton.mpr rfl) _ ho, e⟩
  self A vs s Q := fun ⟨x, n, hit, _⟩ q => wpAny_pyIter_rangeiter hit q
  next A κ σ s v vs Q hA le R hp ha hs hcv i hQ := by
    obtain ⟨x, n, hit, e⟩ := i
    cases n with
    | zero => cases e
    | succ n =>
      cases e
      refine wpAny_pyNext_range_item hit (by omega) fun h' hit' hsb => ⟨_, rfl, ?_⟩
      refine letOwned_plain T (s := { s with heap := h', toks := s.toks + 1 }) hit' rfl rfl (by decide) (hQ _ h' (s.toks + 1) (fun b o hb hbo => hsb.extBut b o (fun e => hb (e ▸ List.mem_singleton.mpr rfl)) hbo) (fun b hb => ?_) (fun tk => .int _ _) ⟨x + 1, n, ?_, rfl⟩)
      · rw [List.mem_singleton] at hb; subst hb; rw [hit']; simp
      · have : ((n + 1 : Nat) : Int) - 1 = (n : Int) := by omega
        rw [this] at hit'; exact hit'
  done A κ σ s Q hA le R hp hs hcv i hQ := by
    obtain ⟨x, n, hit, e⟩ := i
    cases n with
    | succ n => cases e
    | zero => exact wpAny_pyNext_range_end hA.1 hit (by omega) fun h' he => ⟨rfl, hQ h' s.toks fun b o hb hbo => he b o (fun e => hb (e ▸ List.mem_singleton.mpr rfl)) hbo⟩
theorem mk_range (T : Tgt target) {r : Addr} {o : Obj} {a b : Int} (hm : (r, .obj o) ∈ σ) (ho : RangeObj o a b) (ha : -(2 ^ 62) ≤ a) (ha' : a < 2 ^ 62) (hb : -(2 ^ 62) ≤ b) (hb' : b < 2 ^ 62) : Mk Γ k target (.ref r) σ [] (intsFrom a (b - a).toNat) := fun A κ s V hA le R rr => by
  cases rr
  obtain ⟨t, u, v, rfl⟩ := ho
  obtain ⟨ob, e, rfl, _⟩ := R.objs _ hm
  refine wpAny_pyIter_range e (small_one ha ha' hb hb') ⟨itrRange T s.heap.objs.size, _, s.toks, rfl, rfl, rfl, rfl, ⟨a, (b - a).toNat, ?_, rfl⟩, push_keeps _, fun b hb => by rw [List.mem_singleton.mp hb]; exact size_new, fun _ h => nomatch h⟩
  have : Builtin.Range.rangeSize a b 1 = ((b - a).toNat : Int) := by rw [rangeSize_one]; split <;> omega
  rw [this]
  exact Heap.get?_push_size _ rfl
theorem cal_range1 {n : Int} {P : AV → Sto → Prop} (h : ∀ r o, RangeObj o 0 n → P (.ref r) ((r, .obj o) :: σ)) : Cal Γ k (.type "range") [.int n] σ P := fun A κ s Xs hA le R rs => by
  cases rs with
  | cons x rs =>
    cases x; cases rs
    exact call_range_1 ⟨.ref _, _, _, _, rfl, R.add size_new (push_keeps _) (Heap.get?_push_size _ rfl) (o := .obj _) ⟨rfl, fun _ _ e => by have e2 := congrArg Obj.data e; cases e2⟩, .ref _, h _ _ ⟨_, _, _, rfl⟩⟩
theorem cal_range2 {a b : Int} {P : AV → Sto → Prop} (h : ∀ r o, RangeObj o a b → P (.ref r) ((r, .obj o) :: σ)) : Cal Γ k (.type "range") [.int a, .int b] σ P := fun A κ s Xs hA le R rs => by
  cases rs with
  | cons x rs =>
    cases x
    cases rs with
    | cons x rs =>
      cases x; cases rs
      exact call_range_2 ⟨.ref _, _, _, _, rfl, R.add size_new (push_keeps _) (Heap.get?_push_size _ rfl) (o := .obj _) ⟨rfl, fun _ _ e => by have e2 := congrArg Obj.data e; cases e2⟩, .ref _, h _ _ ⟨_, _, _, rfl⟩⟩
end
end Mine
namespace Mine

/-- the cells that a comprehension or an inner def reads -/
noncomputable def clos (env : Env) : List (Str × NameKind) → List (Str × Addr) → List (Str × Addr)
  | [], acc => acc
  | (n, k) :: r, acc => if k == .free then clos env r ((n, (env.cells.lookup n).getD 0) :: acc) else clos env r acc
theorem closure_loop (env : Env) (f : Str × NameKind → List (Str × Addr) → Sem (ForInStep (List (Str × Addr))))
    (hf : ∀ n k c, f (n, k) c = if (k == NameKind.free) = true then (do let a ← cellOf env n; pure (.yield ((n, a) :: c))) else pure (.yield c)) : ∀ (names : List (Str × NameKind)) (acc : List (Str × Addr)), (∀ x, (x, NameKind.free) ∈ names → ∃ c, env.cells.lookup x = some c) → forIn names acc f = pure (clos env names acc)
  | [], acc, _ => rfl
  | (n, k) :: r, acc, h => by
    rw [List.forIn_cons, hf, clos]
    by_cases hk : (k == NameKind.free) = true
    · rw [if_pos hk, if_pos hk]
      have hk' : k = .free := by simpa using hk
      obtain ⟨c, hc⟩ := h n (hk' ▸ .head _)
      have e : cellOf env n = pure c := by unfold cellOf; rw [hc]
      rw [e, hc]
      exact closure_loop env f hf r _ fun x hx => h x (.tail _ hx)
    · rw [if_neg hk, if_neg hk]
      exact closure_loop env f hf r _ fun x hx => h x (.tail _ hx)
theorem closureFor_of {scope : Scope} {env : Env} (h : ∀ x, (x, NameKind.free) ∈ scope.names → ∃ c, env.cells.lookup x = some c) : closureFor scope env = pure (clos env scope.names []) := by
  simp only [closureFor]
  rw [closure_loop env _ (fun n k c => by rfl) _ _ h]
  rfl
theorem clos_acc (env : Env) (x : Str) : ∀ (names : List (Str × NameKind)) (acc : List (Str × Addr)) (c : Addr), env.cells.lookup x = some c → ((x, NameKind.free) ∈ names ∨ acc.lookup x = some c) → (∀ d, acc.lookup x = some d → d = c) → (clos env names acc).lookup x = some c
  | [], acc, c, _, h, _ => h.elim (fun e => nomatch e) id
  | (n, k) :: r, acc, c, hc, h, hu => by
    rw [clos]
    by_cases hk : (k == NameKind.free) = true
    · rw [if_pos hk]
      by_cases e : x = n
      · subst e
        refine clos_acc env x r _ c hc (.inr ?_) ?_
        · rw [List.lookup_cons, beq_self_eq_true, hc]; rfl
        · intro d hd; rw [List.lookup_cons, beq_self_eq_true, hc] at hd; cases hd; rfl
      · have en : (x == n) = false := beq_eq_false_iff_ne.mpr e
        refine clos_acc env x r _ c hc ?_ ?_
        · rcases h with h | h
          · rcases List.mem_cons.mp h with h | h
            · cases h; exact absurd rfl e
            · exact .inl h
          · right; rw [List.lookup_cons, en]; exact h
        · intro d hd; rw [List.lookup_cons, en] at hd; exact hu d hd
    · rw [if_neg hk]
      refine clos_acc env x r acc c hc ?_ hu
      rcases h with h | h
      · rcases List.mem_cons.mp h with h | h
        · cases h; exact absurd rfl hk
        · exact .inl h
      · exact .inr h

/-- a comprehension's scope, as it is run in a def's frame -/
noncomputable def relS (scope sc : Scope) : Scope :=
  { scope with names := scope.names.map fun (n, k) => if (k == .free && sc.kind == .function && sc.names.lookup n == some .cell) then (n, .cell) else (n, k) }
theorem relabel_eq {scope sc : Scope} {env : Env} (f : Fits sc env) : relabel scope env = relS scope sc := by
  unfold relabel relS Env.kindOf
  rw [f.scope]
noncomputable def cloc (sc : Scope) (loc : Loc) : Loc := loc.filter fun p => sc.names.lookup p.1 == some .cell
theorem lookup_cloc {sc : Scope} : ∀ {loc : Loc} {x : Str} {v : AV}, (cloc sc loc).lookup x = some v → sc.names.lookup x = some .cell ∧ loc.lookup x = some v
  | [], x, v, h => by simp [cloc] at h
  | (y, w) :: r, x, v, h => by
    unfold cloc at h
    rw [List.filter_cons] at h
    by_cases e : x = y
    · subst e
      by_cases hk : (sc.names.lookup x == some .cell) = true
      · rw [if_pos hk, List.lookup_cons, beq_self_eq_true] at h
        cases h
        exact ⟨by simpa using hk, by rw [List.lookup_cons, beq_self_eq_true]⟩
      · rw [if_neg hk] at h
        have := (lookup_cloc (loc := r) h).1
        rw [this] at hk; exact absurd rfl hk
    · have en : (x == y) = false := beq_eq_false_iff_ne.mpr e
      rw [List.lookup_cons, en]
      by_cases hk : (sc.names.lookup y == some .cell) = true
      · rw [if_pos hk, List.lookup_cons, en] at h
        exact lookup_cloc (loc := r) h
      · rw [if_neg hk] at h
        exact lookup_cloc (loc := r) h
/-- a name that the comprehension takes from the def -/
theorem relS_cell {scope sc : Scope} (hc : ∀ y ∈ scope.names, y.2 ≠ .cell) {x : Str} (h : (relS scope sc).names.lookup x = some .cell) : (x, NameKind.free) ∈ scope.names ∧ sc.names.lookup x = some .cell := by
  have hm := mem_of_lookup h
  unfold relS at hm
  obtain ⟨p, hp, e⟩ := List.mem_map.mp hm
  obtain ⟨n, k⟩ := p
  simp only at e
  by_cases hk : (k == .free && sc.kind == .function && sc.names.lookup n == some .cell) = true
  · rw [if_pos hk] at e
    cases e
    simp only [Bool.and_eq_true, beq_iff_eq] at hk
    exact ⟨hk.1.1 ▸ hp, hk.2⟩
  · rw [if_neg hk] at e
    cases e
    exact absurd rfl (hc _ hp)

section
variable {Γ : Gd} {k : Nat} {sc : Scope} {loc : Loc} {σ : Sto} {target : Expr}

/-- tests of a comprehension -/
noncomputable def TsC (Γ : Gd) (k : Nat) (sc : Scope) (ifs : List Expr) (loc : Loc) (σ : Sto) (P : Bool → Sto → Prop) : Prop := match ifs with
  | [] => P true σ
  | [c] => Ts Γ k sc c loc σ P
  | _ => False
theorem tsC_at {ifs : List Expr} {P : Bool → Sto → Prop} (h : TsC Γ k sc ifs loc σ P) {A : Around} {κ : Kap} {env : Env} {s : Shared} (hA : AOk k A) (l : Γ.le κ) (f : Fits sc env) (R : Rep κ env loc σ s.heap) :
    wpAny Γ.M A (forIn ifs true fun c r => if r = true then do let ok ← isTrue c env (eval c env); pure (ForInStep.yield ok) else pure (ForInStep.yield r)) (PstT κ env loc s P) No s := by
  match ifs, h with
  | [], h => exact wpAny_tests_nil ⟨σ, s.heap, s.toks, rfl, .refl _, R, h⟩
  | [c], h => exact wpAny_tests_one (h A κ env s hA l f R)

/-- a comprehension's turns -/
noncomputable def CmpI (sc : Scope) (ifs : List Expr) (elt : Expr) (iter : Expr) (scope : Scope) (pos : Pos) (I : Itr Γ k target) (D : Addr) (vs : List AV) (loc : Loc) (σ : Sto) (P : Sto → Prop) : Prop :=
  ∀ A κ env s (i : I.Inv vs s.heap), AOk k A → Γ.le κ → Fits sc env → (∀ a ∈ I.pv, κ.p a = none) → Rep (shield κ I.pv I.avs s.heap (I.lv i) I.sub) env loc σ s.heap → (∀ p ∈ I.src, p ∈ σ) → (∀ p ∈ I.cv, VRel (avU κ I.avs) s.heap p.1 p.2) →
    codeAny Γ.M A (.compLoop (.ListComp elt [⟨target, iter, ifs, 0⟩] scope pos) 0 I.IT (.ref D) env) (fun r s' => match r with
      | .ok _ => ∃ loc' σ' h' tk, s' = { s with heap := h', toks := tk } ∧ Rep κ env loc' σ' h' ∧ P σ'
      | .error _ => False) s

theorem comp_tree {it : Value} {A : Around} {env : Env} {R : Result → Shared → Prop} {s : Shared} {ifs : List Expr} {elt iter : Expr} {scope : Scope} {pos : Pos} {acc : Value}
    (h : wpAny Γ.M A (pyNext it) (fun r s₁ => match r with
      | none => R (.ok .next) s₁
      | some v => wpAny Γ.M A (letOwnedTupleGo target it v) (fun _ s₁ => wpAny Γ.M A (assign target env v) (fun _ s₂ =>
          wpAny Γ.M A (forIn ifs true fun c r => if r = true then do let ok ← isTrue c env (eval c env); pure (ForInStep.yield ok) else pure (ForInStep.yield r)) (fun ok s₃ =>
            if ok = true then wpAny Γ.M A (eval elt env) (fun x s₄ => wpAny Γ.M A (call (.builtin "list.append") [acc, x]) (fun _ s₅ => codeAny Γ.M A (.compLoop (.ListComp elt [⟨target, iter, ifs, 0⟩] scope pos) 0 it acc env) R s₅) No s₄) No s₃
            else codeAny Γ.M A (.compLoop (.ListComp elt [⟨target, iter, ifs, 0⟩] scope pos) 0 it acc env) R s₃) No s₂) No s₁) No s₁) No s) :
    codeAny Γ.M A (.compLoop (.ListComp elt [⟨target, iter, ifs, 0⟩] scope pos) 0 it acc env) R s := by
  refine codeAny_of_tree ?_
  show wpAny _ A ((compTurn (.ListComp elt [⟨target, iter, ifs, 0⟩] scope pos) 0 it acc env).onRaise (fun x => do noteFrame x env; theTreesLotGoes x)) _ _ s
  refine wpAny_noted ?_
  rw [compTurn_list]
  refine wpAny_bind (wpAny_standAt (wpAny_bind (wp_no h fun r s₁ h₁ => ?_)))
  cases r with
  | none => exact wpAny_pure h₁
  | some v =>
    refine wpAny_bind (wp_no h₁ fun _ s₂ h₂ => wpAny_bind (wp_no h₂ fun _ s₃ h₃ => wpAny_bind (wp_no h₃ fun ok s₄ h₄ => ?_)))
    cases ok with
    | false => exact wpAny_pure ⟨rfl, h₄⟩
    | true => exact wpAny_bind (wpAny_bind (wp_no h₄ fun x s₅ h₅ => wpAny_bind (wp_no h₅ fun _ s₆ h₆ => wpAny_pure (wpAny_pure ⟨rfl, h₆⟩))))

theorem cmpI_nil {ifs : List Expr} {elt iter : Expr} {scope : Scope} {pos : Pos} {I : Itr Γ k target} {D : Addr} {P : Sto → Prop} (h : P σ) : CmpI sc ifs elt iter scope pos I D [] loc σ P := fun A κ env s i hA le f hn R hs hcv => by
  refine comp_tree (wp_no (I.done A _ σ s (fun s' => ∃ h' tk, s' = { s with heap := h', toks := tk } ∧ Rep κ env loc σ h') hA (le_shield le hn) R.s (fun a ha => ?_) hs hcv i fun h' tk hk => ?_) fun r s₁ pst0 => ?_)
  · show (if a ∈ I.pv then s.heap.get? a else κ.p a) = s.heap.get? a
    rw [if_pos ha]
  · have U := unshield R hn (fun a ha o e => (Itr.cells i a ha o e).2)
    have tk' : TK (avU κ I.avs) s.heap h' := fun a vs na ⟨n, e⟩ => ⟨n, hk a _ (fun ha => (Itr.cells i a ha _ e).1 (fun hm => na (.inr hm)) rfl) e⟩
    have out : ∀ a, (∃ o, s.heap.get? a = some o ∧ (shield κ I.pv I.avs s.heap (I.lv i) I.sub).p a = none) → a ∉ I.pv := fun a ⟨o, ho, e⟩ ha => by
      have e' : (if a ∈ I.pv then s.heap.get? a else κ.p a) = none := e
      rw [if_pos ha, ho] at e'; cases e'
    have pvc : ∀ b o V, s.heap.get? b = some o → o.data = .cell V → b ∉ I.pv := fun b o V ho hd hb => (Itr.cells i b hb o ho).2 _ hd
    refine ⟨h', tk, rfl, ?_, R.f.turn (κ' := κ) (fun o ho => hk _ o (out _ ⟨o, ho, R.f.Lnew.1⟩) ho) (fun b o V ho hd => hk b o (pvc b o V ho hd) ho) U.f.Lnew.1 (fun b o V ho hd => ?_) (fun _ _ r => (r.mono tk').avoid fun a ha => .inl (.inl ha)) R.s.prot⟩
    · exact {
        prot := fun b o e => hk b o (fun hb => by rw [hn b hb] at e; cases e) (U.s.prot b o e)
        objs := fun p hp => by
          obtain ⟨ob, e, r⟩ := R.s.objs p hp
          exact ⟨ob, hk _ _ (out p.1 ⟨ob, e, R.s.new p hp⟩) e, (r.mono tk').avoid fun a ha => .inl (.inl ha)⟩
        nodup := U.s.nodup
        new := U.s.new }
    · show κ.p b = (if b ∈ I.pv then s.heap.get? b else κ.p b)
      rw [if_neg (pvc b o V ho hd)]
  · obtain ⟨e, h', tk, q, R'⟩ := pst0; subst e; exact ⟨loc, σ, h', tk, q, R', h⟩

theorem cmpI_cons {ifs : List Expr} {elt iter : Expr} {scope : Scope} {pos : Pos} {I : Itr Γ k target} {D : Addr} {P : Sto → Prop} {v : AV} {vs : List AV}
    (h : Asg Γ k sc target v loc σ fun loc₁ σ₁ => TsC Γ k sc ifs loc₁ σ₁ fun b σ₂ => Both b (Ev Γ k sc elt loc₁ σ₂ fun x σ₃ => ∃ xs σ₄, At σ₃ D (.list xs) (.list (xs ++ [x])) σ₄ ∧ xs.length ≤ sizeLine ∧ (∀ p ∈ I.src, p ∈ σ₄) ∧ CmpI sc ifs elt iter scope pos I D vs loc₁ σ₄ P)
      ((∀ p ∈ I.src, p ∈ σ₂) ∧ CmpI sc ifs elt iter scope pos I D vs loc₁ σ₂ P)) : CmpI sc ifs elt iter scope pos I D (v :: vs) loc σ P := fun A κ env s i hA le f hn R hs hcv => by
  refine comp_tree (wp_no (I.next A _ σ s v vs (fun V s₁ => ∃ h' tk, s₁ = { s with heap := h', toks := tk } ∧ TK (avU κ I.avs) s.heap h' ∧ ∃ (i' : I.Inv vs h'), Rep (shield κ I.pv I.avs h' (I.lv i') I.sub) env loc σ h' ∧ VRel (avU κ I.avs) h' v V) hA (le_shield le hn) R.s (fun a ha => ?_) (fun a ha => .inr ha) hs hcv i fun V h' tk hk hl hv i' => ?_) fun r s₁ pst0 => ?_)
  · show (if a ∈ I.pv then s.heap.get? a else κ.p a) = s.heap.get? a
    rw [if_pos ha]
  · obtain ⟨tk', R'⟩ := reshield (l₂ := I.lv i') R hk (Itr.cells i)
    exact ⟨h', tk, rfl, tk', i', R', hv tk'⟩
  · obtain ⟨V, e, q⟩ := pst0
    subst e
    refine wp_no q fun _ s₂ pst0 => ?_
    obtain ⟨h₂, tk₂, e₂, q₂, i₂, R₂, r₂⟩ := pst0
    subst e₂
    refine wpA (h A _ env _ V hA (le_shield le hn) f R₂ r₂) fun l₃ σ₃ h₃ tk₃ q₃ R₃ p₃ => ?_
    -- behind the item: on with the rest
    have go : ∀ (σ₅ : Sto) (h₅ : Heap) (tk₅ : Nat), TK (avU κ I.avs) h₂ h₅ → Rep (shield κ I.pv I.avs h₂ (I.lv i₂) I.sub) env l₃ σ₅ h₅ → (∀ p ∈ I.src, p ∈ σ₅) → CmpI sc ifs elt iter scope pos I D vs l₃ σ₅ P →
        codeAny Γ.M A (.compLoop (.ListComp elt [⟨target, iter, ifs, 0⟩] scope pos) 0 I.IT (.ref D) env) (fun r s' => match r with
          | .ok _ => ∃ loc' σ' h' tk, s' = { s with heap := h', toks := tk } ∧ Rep κ env loc' σ' h' ∧ P σ'
          | .error _ => False) { s with heap := h₅, toks := tk₅ } := fun σ₅ h₅ tk₅ q₅ R₅ hs' again => by
      have i₅ : I.Inv vs h₅ := I.frame vs h₂ h₅ i₂ fun a ha o e => R₅.s.prot a o (by show (if a ∈ I.pv then h₂.get? a else κ.p a) = some o; rw [if_pos ha]; exact e)
      have R₆ : Rep (shield κ I.pv I.avs h₅ (I.lv i₅) I.sub) env l₃ σ₅ h₅ := (reshield (l₂ := I.lv i₅) R₅ (fun _ _ _ e => e) (Itr.cells i₂)).2
      exact codeAny_mono (again A κ env { s with heap := h₅, toks := tk₅ } i₅ hA le f hn R₆ hs' fun p hp => ((hcv p hp).mono q₂).mono q₅) fun r s₅ x => x
    refine wpT (tsC_at p₃ hA (le_shield le hn) f R₃) fun b σ₄ h₄ tk₄ q₄ R₄ p₄ => ?_
    cases b with
    | false => exact go σ₄ h₄ tk₄ (q₃.trans q₄) R₄ (p₄.2 rfl).1 (p₄.2 rfl).2
    | true =>
      simp only [if_true]
      refine wp_no (p₄.1 rfl A _ env _ hA (le_shield le hn) f R₄) fun X s₅ pst0 => ?_
      obtain ⟨x, σ₅, h₅, tk₅, e₅, q₅, R₅, r₅, xs, σ₆, hat, hl, hs', p₅⟩ := pst0
      subst e₅
      refine wpE (Ops.at (cal_append (Γ := Γ) (k := k) (P := fun _ σ' => σ' = σ₆) hat hl rfl) hA (le_shield le hn) R₅ (.cons (.ref D) (.cons r₅ .nil))) fun _ y σ₆' h₆ tk₆ q₆ R₆ _ ey => ?_
      subst ey
      exact go σ₆' h₆ tk₆ (((q₃.trans q₄).trans q₅).trans q₆) R₆ hs' p₅
end
end Mine
namespace Mine
section
variable {Γ : Gd} {k : Nat} {sc : Scope} {loc : Loc} {σ : Sto} {target : Expr}

noncomputable def Cmp (Γ : Gd) (k : Nat) (sc : Scope) (target : Expr) (ifs : List Expr) (elt iter : Expr) (scope : Scope) (pos : Pos) (src : Sto) (D : Addr) (vs : List AV) (loc : Loc) (σ : Sto) (P : Sto → Prop) : Prop :=
  ∀ I : Itr Γ k target, I.src = src → CmpI sc ifs elt iter scope pos I D vs loc σ P
theorem cmp_nil {ifs : List Expr} {elt iter : Expr} {scope : Scope} {pos : Pos} {src : Sto} {D : Addr} {P : Sto → Prop} (h : P σ) : Cmp Γ k sc target ifs elt iter scope pos src D [] loc σ P := fun I _ => cmpI_nil h
theorem cmp_cons {ifs : List Expr} {elt iter : Expr} {scope : Scope} {pos : Pos} {src : Sto} {D : Addr} {P : Sto → Prop} {v : AV} {vs : List AV}
    (h : Asg Γ k sc target v loc σ fun loc₁ σ₁ => TsC Γ k sc ifs loc₁ σ₁ fun b σ₂ => Both b (Ev Γ k sc elt loc₁ σ₂ fun x σ₃ => ∃ xs σ₄, At σ₃ D (.list xs) (.list (xs ++ [x])) σ₄ ∧ xs.length ≤ sizeLine ∧ (∀ p ∈ src, p ∈ σ₄) ∧ Cmp Γ k sc target ifs elt iter scope pos src D vs loc₁ σ₄ P)
      ((∀ p ∈ src, p ∈ σ₂) ∧ Cmp Γ k sc target ifs elt iter scope pos src D vs loc₁ σ₂ P)) : Cmp Γ k sc target ifs elt iter scope pos src D (v :: vs) loc σ P := fun I e => by
  subst e
  refine cmpI_cons fun A κ env s V hA le f R r => wpA (h A κ env s V hA le f R r) fun l σ' h' tk b c d => ⟨l, σ', h', tk, rfl, b, c, ?_⟩
  have tr : ∀ b σ₂, Both b (Ev Γ k sc elt l σ₂ fun x σ₃ => ∃ xs σ₄, At σ₃ D (.list xs) (.list (xs ++ [x])) σ₄ ∧ xs.length ≤ sizeLine ∧ (∀ p ∈ I.src, p ∈ σ₄) ∧ Cmp Γ k sc target ifs elt iter scope pos I.src D vs l σ₄ P) ((∀ p ∈ I.src, p ∈ σ₂) ∧ Cmp Γ k sc target ifs elt iter scope pos I.src D vs l σ₂ P) →
      Both b (Ev Γ k sc elt l σ₂ fun x σ₃ => ∃ xs σ₄, At σ₃ D (.list xs) (.list (xs ++ [x])) σ₄ ∧ xs.length ≤ sizeLine ∧ (∀ p ∈ I.src, p ∈ σ₄) ∧ CmpI sc ifs elt iter scope pos I D vs l σ₄ P) ((∀ p ∈ I.src, p ∈ σ₂) ∧ CmpI sc ifs elt iter scope pos I D vs l σ₂ P) := fun b σ₂ hb =>
    ⟨fun e => ev_mono (hb.1 e) fun x σ₃ ⟨xs, σ₄, a, b, c, d⟩ => ⟨xs, σ₄, a, b, c, d I rfl⟩, fun e => ⟨(hb.2 e).1, (hb.2 e).2 I rfl⟩⟩
  match ifs, d with
  | [], d => exact tr _ _ d
  | [c], d => exact ts_mono d tr

/-- an iterator that stands already, in a frame -/
theorem shield_in {κ : Kap} {pv : List Addr} {h : Heap} {l : ∀ a ∈ pv, h.get? a ≠ none} {sb : ∀ a ∈ ([] : List Addr), a ∈ pv} {env : Env} (R : Rep κ env loc σ h) (hn : ∀ a ∈ pv, κ.p a = none ∧ a ∉ keys σ ∧ a ≠ env.locals) (hc : ∀ a ∈ pv, ∀ o, h.get? a = some o → ∀ V, o.data ≠ .cell V) :
    Rep (shield κ pv [] h l sb) env loc σ h := by
  have va : ∀ a, (shield κ pv [] h l sb).av a → κ.av a ∨ h.get? a = none := fun a ha => .inl (ha.elim id fun h => nomatch h)
  refine ⟨R.s.turn (fun b o e => ?_) (fun a ha => ?_) (fun a ha o e => e) va (.refl _), R.f.turn (fun o ho => ho) (fun b o V ho hd => ho) ?_ (fun b o V ho hd => ?_) (fun _ _ r => r.avoid va) R.s.prot⟩
  · have e' : (if b ∈ pv then h.get? b else κ.p b) = some o := e
    by_cases hb : b ∈ pv
    · rw [if_pos hb] at e'; exact e'
    · rw [if_neg hb] at e'; exact R.s.prot b o e'
  · show (if a ∈ pv then h.get? a else κ.p a) = none
    rw [if_neg (fun hp => (hn a hp).2.1 ha)]
    obtain ⟨p, hp, rfl⟩ := List.mem_map.mp ha; exact R.s.new p hp
  · show (if env.locals ∈ pv then h.get? env.locals else κ.p env.locals) = none
    rw [if_neg (fun hp => (hn _ hp).2.2 rfl)]; exact R.f.Lnew.1
  · show (if b ∈ pv then h.get? b else κ.p b) = κ.p b
    rw [if_neg (fun hb => hc b hb o ho V hd)]

theorem Rep.extC {κ : Kap} {env : Env} {h h' : Heap} {C : Addr} (R : Rep κ env loc σ h) (hn : ∃ m, h.Ns C m) (hκ : κ.p C = none) (hσ : C ∉ keys σ) (hL : C ≠ env.locals) (hs : Heap.SameBut C h h') : TK κ.av h h' ∧ Rep κ env loc σ h' := by
  obtain ⟨m, o, es, ep, ho, hd, hr⟩ := hn
  have tk : TK κ.av h h' := .of_ext_seq ho (fun xs n e => by rw [hd] at e; cases e) hs.extBut
  refine ⟨tk, R.s.ext hκ hσ hs.extBut tk, ?_⟩
  exact {
    ns := by
      obtain ⟨m, ⟨o, es, ep, ho, r⟩, hm⟩ := R.f.ns
      exact ⟨m, ⟨o, es, ep, hs.extBut _ _ (Ne.symm hL) ho, r⟩, fun x v hx hk => let ⟨V, e, r⟩ := hm x v hx hk; ⟨V, e, r.mono tk⟩⟩
    cell := fun x hx => by
      obtain ⟨c, V, hc, ⟨oc, hoc, hdc⟩, hv⟩ := R.f.cell x hx
      refine ⟨c, V, hc, ⟨oc, hs.extBut _ _ (fun e => ?_) hoc, hdc⟩, fun v h => let ⟨V', e, r⟩ := hv v h; ⟨V', e, r.mono tk⟩⟩
      rw [e, ho] at hoc; cases hoc; rw [hd] at hdc; cases hdc
    free := fun x v hx hk => let ⟨c, o, V, a, b, d, e⟩ := R.f.free x v hx hk; ⟨c, o, V, a, b, d, e.mono tk⟩
    apart := R.f.apart
    Lnew := R.f.Lnew
    cnew := R.f.cnew }
theorem comp_core {use : Option (Value → Sem Unit)} {Q : Value → Shared → Prop} {ip : Pos} {elt iter : Expr} {ifs : List Expr} {scope : Scope} {pos : Pos} {P : AV → Sto → Prop}
    (hcell : ∀ y ∈ scope.names, y.2 ≠ .cell) (hkind : scope.kind = .function) (hnames : ∀ x ∈ scope.names, x.2 = .local → scope.names.lookup x.1 = some .local)
    (hfr : ∀ x ∈ scope.names, x.2 = .free → sc.names.lookup x.1 = some .cell) (h0 : (relS scope sc).names.lookup (Str.ofString ".0") ≠ none)
    (h : Ev Γ k sc iter loc σ fun v σ₁ => ∃ src vs, Mk Γ k target v σ₁ src vs ∧ (∀ p ∈ src, p ∈ σ₁) ∧ ∀ D, Cmp Γ k (relS scope sc) target ifs elt iter scope pos src D vs (cloc (relS scope sc) loc) ((D, .list []) :: σ₁) fun σ₂ => P (.ref D) σ₂)
    (hs : ∀ env x, foldedSetIterable iter env x = pure x) {A : Around} {κ : Kap} {env : Env} {s : Shared} (hA : AOk k A) (le : Γ.le κ) (f : Fits sc env) (R : Rep κ env loc σ s.heap)
    (post : ∀ D C σ' h' tk fl, TK κ.av s.heap h' → Rep κ env loc σ' h' → (∃ m, h'.Ns C m) → κ.p C = none → C ∉ keys σ' → C ≠ env.locals → P (.ref D) σ' → compPost Γ.M A No use Q (.ref D) C (.ok fl) { s with heap := h', toks := tk }) :
    wpAny Γ.M A (comprehension (.ListComp elt [⟨target, iter, ifs, 0⟩] scope pos) scope env ip (newList []) false (eval iter env) use) Q No s := by
  have hcl : ∀ x, (x, NameKind.free) ∈ scope.names → ∃ c, env.cells.lookup x = some c := fun x hx => by
    have := hfr _ hx rfl
    obtain ⟨c, _, hc, _⟩ := R.f.cell x (by rw [f.kindOf]; exact this)
    exact ⟨c, hc⟩
  refine wpAny_comprehension_free (g := ⟨target, iter, ifs, 0⟩) (gs := []) (use := use) rfl (hs env) (closureFor_of hcl) hkind hnames ?_
  refine wp_no (h A κ env s hA le f R) fun V s₁ pst => ?_
  obtain ⟨v, σ₁, h₁, tk₁, e₁, q₁, R₁, r₁, src, vs, mk, hsr, p⟩ := pst
  subst e₁
  refine wp_no (mk A κ _ V hA le R₁.s r₁) fun it s₂ pst0 => ?_
  obtain ⟨I, h₂, tk₂, e₂, es, ea, ei, i, hk, hn, hcv⟩ := pst0
  subst e₂; subst ei; subst es
  refine wpAny_newObj_type (wpAny_newFunctionEnv hcell (fun y hy => nomatch hy) (fun h₃ hns hsb => ?_) hkind)
  dsimp only at hns hsb ⊢
  generalize hH2 : h₂.push { cls := .type "list", dict := none, data := .seq ([] : List Value).toArray } = H2 at hns hsb ⊢
  have hC : H2.objs.size = h₂.objs.size + 1 := by rw [← hH2, Heap.size_push]
  have up3 : ∀ b o, h₂.get? b = some o → h₃.get? b = some o := fun b o e => hsb.extBut b o (by rw [hC]; exact Nat.ne_of_lt (Nat.lt_succ_of_lt (Heap.lt_size e))) (Heap.get?_push_of_some _ (hH2 ▸ Heap.get?_push_of_some _ e))
  have up1 : ∀ b o, h₁.get? b = some o → h₃.get? b = some o := fun b o e => up3 b o (hk b o e)
  have hD : h₃.get? h₂.objs.size = some { cls := .type "list", dict := none, data := .seq ([] : List Value).toArray } := hsb.extBut _ _ (by rw [hC]; exact Nat.ne_of_lt (Nat.lt_succ_self _)) (Heap.get?_push_of_some _ (hH2 ▸ Heap.get?_push_size _ rfl))
  have new1 : ∀ a, h₂.objs.size ≤ a → h₁.get? a = none := fun a ha => by
    cases e : h₁.get? a with
    | none => rfl
    | some o => exact absurd (Heap.lt_size (hk a o e)) (Nat.not_lt.mpr ha)
  have lt2 : ∀ a ∈ I.pv, a < h₂.objs.size := fun a ha => by
    obtain ⟨o, ho, _⟩ := I.live vs h₂ i a ha
    exact Heap.lt_size ho
  -- the comprehension's frame
  have RS : RepS (mx R₁.s) ((h₂.objs.size, .list []) :: σ₁) h₃ := R₁.s.mx.add (new1 _ (Nat.le_refl _)) up1 hD (o := .list []) ⟨[], 0, rfl, .nil⟩
  have pn : ∀ a, h₁.get? a = none → (mx R₁.s).p a = none := fun a e => by
    show mxp σ₁ h₁ a = none
    unfold mxp; split
    · rfl
    · exact e
  have fit : Fits (relS scope sc) (compEnvC scope (clos env scope.names []) H2.objs.size env) := ⟨relabel_eq f, hkind, f.glob, f.blt, fun e => absurd e h0⟩
  have hcells : ∀ x, (relS scope sc).names.lookup x = some .cell → ∃ c V, (clos env scope.names []).lookup x = some c ∧ env.kindOf x = some .cell ∧ env.cells.lookup x = some c ∧ h₁.IsCell c V ∧ ∀ v, loc.lookup x = some v → ∃ V', V = some V' ∧ VRel κ.av h₁ v V' := fun x hx => by
    obtain ⟨hm, hsc⟩ := relS_cell hcell hx
    have hkx : env.kindOf x = some .cell := by rw [f.kindOf]; exact hsc
    obtain ⟨c, V, hc, hi, hv⟩ := R₁.f.cell x hkx
    exact ⟨c, V, clos_acc env x _ _ c hc (.inl hm) (fun d hd => by simp at hd), hkx, hc, hi, hv⟩
  have F : FRel (mx R₁.s) (compEnvC scope (clos env scope.names []) H2.objs.size env) (cloc (relS scope sc) loc) ((h₂.objs.size, .list []) :: σ₁) h₃ := {
    ns := ⟨_, hns, fun x w hx hkx => by
      have := (lookup_cloc hx).1
      rw [fit.kindOf, this] at hkx; cases hkx⟩
    cell := fun x hx => by
      rw [fit.kindOf] at hx
      obtain ⟨c, W, hc, _, _, ⟨o, ho, hd⟩, hv⟩ := hcells x hx
      refine ⟨c, W, hc, ⟨o, up1 _ _ ho, hd⟩, fun w hw => ?_⟩
      obtain ⟨V', a, b⟩ := hv w (lookup_cloc hw).2
      exact ⟨V', a, b.mono (.of_keeps up1)⟩
    free := fun x w hx hkx => by
      have := (lookup_cloc hx).1
      rw [fit.kindOf, this] at hkx; cases hkx
    apart := fun x y c hx hy hcx hcy => by
      rw [fit.kindOf] at hx hy
      obtain ⟨c1, _, h1, k1, l1, _⟩ := hcells x hx
      obtain ⟨c2, _, h2, k2, l2, _⟩ := hcells y hy
      have e1 : c1 = c := by
        have : (clos env scope.names []).lookup x = some c := hcx
        rw [h1] at this; cases this; rfl
      have e2 : c2 = c := by
        have : (clos env scope.names []).lookup y = some c := hcy
        rw [h2] at this; cases this; rfl
      exact R₁.f.apart x y c k1 k2 (e1 ▸ l1) (e2 ▸ l2)
    Lnew := ⟨pn _ (new1 _ (by show h₂.objs.size ≤ H2.objs.size; omega)), fun hm => by
      have hm' : H2.objs.size ∈ h₂.objs.size :: keys σ₁ := hm
      rcases List.mem_cons.mp hm' with e | e
      · omega
      · obtain ⟨o, ho, _⟩ := R₁.s.live e
        rw [new1 _ (by omega)] at ho; cases ho⟩
    cnew := fun x c hx hcx => by
      rw [fit.kindOf] at hx
      obtain ⟨c1, V, h1, k1, l1, ⟨o, ho, hd⟩, _⟩ := hcells x hx
      have e1 : c1 = c := by
        have : (clos env scope.names []).lookup x = some c := hcx
        rw [h1] at this; cases this; rfl
      subst e1
      refine ⟨fun hm => ?_, (fun e => by cases e), fun o' e' => ?_⟩
      · have hm' : c1 ∈ h₂.objs.size :: keys σ₁ := hm
        rcases List.mem_cons.mp hm' with e | e
        · rw [e, new1 _ (Nat.le_refl _)] at ho; cases ho
        · exact (R₁.f.cnew x c1 k1 l1).1 e
      · have := (of_mx e').2
        rw [ho] at this; cases this
        exact ⟨V, hd⟩ }
  have i₃ : I.Inv vs h₃ := I.frame vs h₂ h₃ i fun a ha o e => up3 a o e
  have hpv : ∀ a ∈ I.pv, (mx R₁.s).p a = none := fun a ha => pn a (hn a ha)
  have fin : codeAny Γ.M A (.compLoop (.ListComp elt [⟨target, iter, ifs, 0⟩] scope pos) 0 I.IT (.ref h₂.objs.size) (compEnvC scope (clos env scope.names []) H2.objs.size env)) (compPost Γ.M A No use Q (.ref h₂.objs.size) H2.objs.size) { s with heap := h₃, toks := tk₂ + ([] : List (Str × Value)).length } := by
    obtain ⟨IT, pv, avs, src, cv, Inv, sub, live, frame, self, next, done⟩ := I
    cases ea
    have RR : Rep (shield (mx R₁.s) pv [] h₃ (Itr.lv ⟨IT, pv, [], src, cv, Inv, sub, live, frame, self, next, done⟩ i₃) sub) _ _ _ h₃ := shield_in ⟨RS, F⟩ (fun a ha => ⟨hpv a ha, fun hm => ?_, fun e => ?_⟩) (fun a ha o e V => ?_)
    · refine codeAny_mono (p h₂.objs.size ⟨IT, pv, [], src, cv, Inv, sub, live, frame, self, next, done⟩ rfl A (mx R₁.s) _ _ i₃ hA (Gd.le_mx R₁.s le) fit hpv RR (fun p hp => .tail _ (hsr p hp)) (fun p hp => ?_)) fun r s₅ x => ?_
      · exact ((hcv p hp).avoid fun a ha => .inl (ha.elim id fun h => nomatch h)).mono (.of_keeps up1)
      · cases r with
        | error _ => exact x.elim
        | ok fl =>
          obtain ⟨loc', σ', h', tk, e, R', pp⟩ := x
          subst e
          obtain ⟨m, hm, _⟩ := R'.f.ns
          obtain ⟨q6, R7⟩ := frame_step R₁ R'.s
          have hC0 : h₁.get? H2.objs.size = none := new1 _ (by omega)
          refine post h₂.objs.size H2.objs.size σ' h' tk fl (q₁.trans q6) R7 ⟨m, hm⟩ ?_ R'.f.Lnew.2 ?_ pp
          · cases e : κ.p H2.objs.size with
            | none => rfl
            | some o => rw [R₁.s.prot _ _ e] at hC0; cases hC0
          · intro e
            obtain ⟨m, ⟨o, es, ep, ho, _⟩, _⟩ := R₁.f.ns
            rw [← e, hC0] at ho; cases ho
    · have hm' : a ∈ h₂.objs.size :: keys σ₁ := hm
      rcases List.mem_cons.mp hm' with e | e
      · have := lt2 a ha; rw [e] at this; exact absurd this (Nat.lt_irrefl _)
      · obtain ⟨o, ho, _⟩ := R₁.s.live e
        rw [hn a ha] at ho; cases ho
    · have := lt2 a ha
      have e' : a = H2.objs.size := e
      rw [e', hC] at this
      exact absurd (Nat.lt_of_succ_lt this) (Nat.lt_irrefl _)
    · exact (Itr.cells (I := ⟨IT, pv, [], src, cv, Inv, sub, live, frame, self, next, done⟩) i₃ a ha o e).2 V
  exact codeAny_compStart_list fin (wp_no (I.self A vs _ _ i₃ fin) fun _ _ x => x)
theorem ev_listcomp {elt iter : Expr} {ifs : List Expr} {scope : Scope} {pos : Pos} {P : AV → Sto → Prop}
    (hcell : ∀ y ∈ scope.names, y.2 ≠ .cell) (hkind : scope.kind = .function) (hnames : ∀ x ∈ scope.names, x.2 = .local → scope.names.lookup x.1 = some .local)
    (hfr : ∀ x ∈ scope.names, x.2 = .free → sc.names.lookup x.1 = some .cell) (h0 : (relS scope sc).names.lookup (Str.ofString ".0") ≠ none)
    (h : Ev Γ k sc iter loc σ fun v σ₁ => ∃ src vs, Mk Γ k target v σ₁ src vs ∧ (∀ p ∈ src, p ∈ σ₁) ∧ ∀ D, Cmp Γ k (relS scope sc) target ifs elt iter scope pos src D vs (cloc (relS scope sc) loc) ((D, .list []) :: σ₁) fun σ₂ => P (.ref D) σ₂)
    (hs : ∀ env x, foldedSetIterable iter env x = pure x) : Ev Γ k sc (.ListComp elt [⟨target, iter, ifs, 0⟩] scope pos) loc σ P := fun A κ env s hA le f R => by
  rw [eval_ListComp]
  exact comp_core (use := none) hcell hkind hnames hfr h0 h hs hA le f R fun D C σ' h' tk fl q R' hn hκ hσ hL p =>
    let ⟨m, hm⟩ := hn
    ⟨m, hm, fun h₆ hs₆ => let ⟨q6, R6⟩ := R'.extC hn hκ hσ hL hs₆; ⟨_, σ', h₆, tk, rfl, q.trans q6, R6, .ref _, p⟩⟩
/-- name = a comprehension: stored inside -/
theorem ex_assign_comp {x : Str} {xp apos : Pos} {elt iter : Expr} {ifs : List Expr} {scope : Scope} {pos : Pos} {P : AFl → Loc → Sto → Prop}
    (hcell : ∀ y ∈ scope.names, y.2 ≠ .cell) (hkind : scope.kind = .function) (hnames : ∀ x ∈ scope.names, x.2 = .local → scope.names.lookup x.1 = some .local)
    (hfr : ∀ x ∈ scope.names, x.2 = .free → sc.names.lookup x.1 = some .cell) (h0 : (relS scope sc).names.lookup (Str.ofString ".0") ≠ none)
    (h : Ev Γ k sc iter loc σ fun v σ₁ => ∃ src vs, Mk Γ k target v σ₁ src vs ∧ (∀ p ∈ src, p ∈ σ₁) ∧ ∀ D, Cmp Γ k (relS scope sc) target ifs elt iter scope pos src D vs (cloc (relS scope sc) loc) ((D, .list []) :: σ₁) fun σ₂ => P .next (lset loc x (.ref D)) σ₂)
    (hs : ∀ env x, foldedSetIterable iter env x = pure x)
    (hx : sc.names.lookup x = some .local) (hsw : ∀ env, Fits sc env → swapsWith (.ListComp elt [⟨target, iter, ifs, 0⟩] scope pos) (some (.Name x xp)) apos.line env = pure true) :
    Ex Γ k sc (.Assign [.Name x xp] (.ListComp elt [⟨target, iter, ifs, 0⟩] scope pos) apos) loc σ P := fun A κ env s hA le f R => by
  rw [exec_Assign_Name_used _ _ _ _ (hsw env f)]
  refine wpAny_bind (wpAny_standAt (wpAny_bind ?_))
  show wpAny _ A (do let _ ← comprehension (.ListComp elt [⟨target, iter, ifs, 0⟩] scope pos) scope env _ (newList []) false (eval iter env) (some (assign (.Name x xp) env))) _ _ s
  refine wpAny_bind (wp_no (comp_core (P := fun v σ₂ => ∃ D, v = .ref D ∧ P .next (lset loc x (.ref D)) σ₂) (use := some (assign (.Name x xp) env)) (Q := fun _ s' => PstX κ env s P .next s') hcell hkind hnames hfr h0 (ev_mono h fun v σ₁ ⟨src, vs, a, b, c⟩ => ⟨src, vs, a, b, fun D I e A κ env s i hA le f hn R hs hcv => codeAny_mono (c D I e A κ env s i hA le f hn R hs hcv) fun r s' z => match r, z with
      | .ok _, ⟨l, σ', h', tk, e, R, p⟩ => ⟨l, σ', h', tk, e, R, D, rfl, p⟩⟩) hs hA le f R fun D C σ' h' tk fl q R' hn hκ hσ hL p => ?_) fun _ s' hq => wpAny_pure (wpAny_pure hq))
  obtain ⟨D', eD, p⟩ := p
  cases eD
  have hl : env.kindOf x = some .local := by rw [f.kindOf]; exact hx
  obtain ⟨mL, hnL, hmL⟩ := R'.f.ns
  show wpAny _ A (assign (.Name x xp) env (.ref D)) _ _ _
  refine wpAny_assign_Name (wpAny_storeName_local hl hnL (fun h₅ hn₅ hs₅ => ?_) f.hp)
  obtain ⟨q5, R5⟩ := R'.set_local hnL hmL hl hn₅ hs₅ (.ref D)
  obtain ⟨m, hm⟩ := hn
  have hm5 : h₅.Ns C m := hm.sameBut hs₅ hL
  refine ⟨m, hm5, fun h₆ hs₆ => ?_⟩
  obtain ⟨q6, R6⟩ := R5.extC ⟨m, hm5⟩ hκ hσ hL hs₆
  exact ⟨.next, _, σ', h₆, _, rfl, (q.trans q5).trans q6, R6, .next, p⟩
end
end Mine
namespace Mine

/-! dicts whose keys are texts -/
theorem EnRel.find {av : Avd} {h : Heap} {es : List (Str × AV)} {l : List DictEntry} (r : EnRel av h es l) (x : Str) :
    (es.lookup x = none ∧ l.find? (·.key.isStr x) = none) ∨ ∃ v e, es.lookup x = some v ∧ l.find? (·.key.isStr x) = some e ∧ VRel av h v e.val := by
  induction r with
  | nil => exact .inl ⟨rfl, rfl⟩
  | @cons y v e es l hk hv _ ih =>
    obtain ⟨t, hk⟩ := hk
    rw [List.lookup_cons, List.find?_cons]
    have hb : e.key.isStr x = (x == y) := by
      rw [hk]
      show (y == x) = (x == y)
      by_cases q : x = y
      · subst q; rfl
      · rw [beq_eq_false_iff_ne.mpr q, beq_eq_false_iff_ne.mpr fun q' => q q'.symm]
    rw [hb]
    cases x == y with
    | true => exact .inr ⟨v, e, rfl, rfl, hv⟩
    | false => exact ih
theorem EnRel.noref {av : Avd} {h : Heap} {es : List (Str × AV)} {l : List DictEntry} (r : EnRel av h es l) : l.any (·.refKey) = false := by
  induction r with
  | nil => rfl
  | cons hk hv _ ih => obtain ⟨t, hk⟩ := hk; rw [List.any_cons, ih]; simp [DictEntry.refKey, hk]
theorem EnRel.length {av : Avd} {h : Heap} {es : List (Str × AV)} {l : List DictEntry} (r : EnRel av h es l) : l.length = es.length := by
  induction r with
  | nil => rfl
  | cons hk hv _ ih => simp [ih]
theorem EnRel.look {av : Avd} {h : Heap} {es : List (Str × AV)} {l : List DictEntry} (r : EnRel av h es l) {n : Nat} (x : Str) {c : Value} :
    (es.lookup x = none ∧ lookIn x { cls := c, data := .dict l.toArray n } = some none) ∨ ∃ v V, es.lookup x = some v ∧ lookIn x { cls := c, data := .dict l.toArray n } = some (some V) ∧ VRel av h v V := by
  unfold lookIn
  dsimp only
  rcases r.find x with ⟨a, b⟩ | ⟨v, e, a, b, d⟩
  · refine .inl ⟨a, ?_⟩
    rw [b]; simp only; rw [r.noref]; rfl
  · exact .inr ⟨v, e.val, a, by rw [b], d⟩
/-- an entry set -/
theorem EnRel.put {av : Avd} {h : Heap} {es : List (Str × AV)} {l : List DictEntry} (r : EnRel av h es l) (x : Str) {v : AV} {V : Value} (hv : VRel av h v V) (hash : Int) (t : Tok) {n : Nat} {c : Value} :
    ∃ l' n', Obj.putName x hash (.str x t) V { cls := c, data := .dict l.toArray n } = { cls := c, data := .dict l'.toArray n' } ∧ EnRel av h (lset es x v) l' := by
  rw [Obj.putName_eq]
  unfold Obj.putNameByArray
  dsimp only
  have key : (l.findIdx? (·.key.isStr x) = none ∧ EnRel av h (lset es x v) (l ++ [⟨hash, .str x t, V⟩])) ∨ ∃ i, l.findIdx? (·.key.isStr x) = some i ∧ EnRel av h (lset es x v) (l.modify i fun e => { e with val := V }) := by
    induction r with
    | nil => exact .inl ⟨rfl, .cons ⟨t, rfl⟩ hv .nil⟩
    | @cons y w e es l hk hw hr ih =>
      obtain ⟨t', hk⟩ := hk
      have hb : e.key.isStr x = (x == y) := by
        rw [hk]
        show (y == x) = (x == y)
        by_cases q : x = y
        · subst q; rfl
        · rw [beq_eq_false_iff_ne.mpr q, beq_eq_false_iff_ne.mpr fun q' => q q'.symm]
      unfold lset
      rw [List.findIdx?_cons, hb]
      cases q : x == y with
      | true => exact .inr ⟨0, rfl, .cons ⟨t', hk⟩ hv hr⟩
      | false =>
        rcases ih with ⟨a, b⟩ | ⟨i, a, b⟩
        · refine .inl ⟨by rw [a]; rfl, .cons ⟨t', hk⟩ hw b⟩
        · refine .inr ⟨i + 1, by rw [a]; rfl, ?_⟩
          rw [List.modify_succ_cons]
          exact .cons ⟨t', hk⟩ hw b
  rcases key with ⟨a, b⟩ | ⟨i, a, b⟩
  · refine ⟨_, n + 1, ?_, b⟩
    rw [List.findIdx?_toArray, a]
    simp
  · refine ⟨_, n, ?_, b⟩
    rw [List.findIdx?_toArray, a]
    simp

theorem lset_length : ∀ (es : List (Str × AV)) (x : Str) (v : AV), (lset es x v).length ≤ es.length + 1
  | [], _, _ => Nat.le_refl _
  | (y, w) :: r, x, v => by
    unfold lset
    split
    · simp
    · have := lset_length r x v; simp only [List.length_cons]; omega
/-- what is asked of a class -/
structure ClsOk (K : Frag) (C : Addr) : Prop where
  ga : findIn K (.ref C) "__getattribute__" = some (some (.builtin "object.__getattribute__"))
  sa : findIn K (.ref C) "__setattr__" = some (some (.builtin "object.__setattr__"))
  gat : findIn K (.ref C) "__getattr__" = some none
  over : plainOver K C = true
  hd : (clsIn K C).any (·.hasDict) = true
  makes : makesIn K C = true

section
variable {Γ : Gd} {k : Nat} {sc : Scope} {loc : Loc} {σ : Sto} {K : Frag} {C x d : Addr} {es : List (Str × AV)} {κ : Kap} {h : Heap}
theorem RepS.inst (R : RepS κ σ h) (hi : (x, .inst C d) ∈ σ) : h.get? x = some { cls := .ref C, dict := some d } := by
  obtain ⟨ob, e, r⟩ := R.objs _ hi
  cases r; exact e
theorem RepS.ns (R : RepS κ σ h) (hn : (d, .ns es) ∈ σ) : ∃ l n, h.get? d = some { cls := .type "dict", data := .dict l.toArray n } ∧ EnRel κ.av h es l := by
  obtain ⟨ob, e, l, n, rfl, r⟩ := R.objs _ hn
  exact ⟨l, n, e, r⟩
theorem RepS.instAt (R : RepS κ σ h) (hi : (x, .inst C d) ∈ σ) {od : Obj} (hd : h.get? d = some od) : InstAt h x { cls := .ref C, dict := some d } C (some od) := ⟨R.inst hi, rfl, rfl, hd⟩

/-- an attribute of an object, its own -/
theorem findObj_own (O : ClsOk K C) {od : Obj} {name : Str} {V : Value} (hf : findIn K (.ref C) name = some none) (hl : lookIn name od = some (some V)) : findObj K C (some od) name = some (.value V) := by
  obtain ⟨cd, hc, hd⟩ := any_some O.hd
  have e1 : W.ownOf cd (some od) name = some (some V) := by
    unfold W.ownOf
    rw [if_pos hd]
    exact hl
  unfold findObj
  simp only [hc, Option.bind_some, hf, e1]

/-- an attribute read -/
noncomputable def At1 (Γ : Gd) (k : Nat) (name : Str) (ov : AV) (σ : Sto) (P : AV → Sto → Prop) : Prop := Op1 Γ k (fun O => getAttr O name true) ov σ P
theorem at_own (X : K.In Γ.hB) (O : ClsOk K C) {name : Str} (hi : (x, .inst C d) ∈ σ) (hn : (d, .ns es) ∈ σ) (hf : findIn K (.ref C) name = some none) {v : AV} (hv : es.lookup name = some v) (hr : ∀ w, v ≠ .raw w) {P : AV → Sto → Prop} (p : P v σ) : At1 Γ k name (.ref x) σ P := fun A κ s V hA l R r => by
  cases r
  obtain ⟨en, n, ed, er⟩ := R.ns hn
  rcases er.look name (n := n) (c := .type "dict") with ⟨a, _⟩ | ⟨v', V, a, b, c⟩
  · rw [hv] at a; cases a
  · rw [hv] at a; cases a
    refine get_value (X.keeps (l.up R)) (R.instAt hi ed) O.ga (findObj_own O hf b) ?_ ⟨v, σ, s.heap, _, rfl, R, c, p⟩
    cases c <;> first | rfl | exact absurd rfl (hr _)
theorem ev_attr {o : Expr} {name : Str} {pos : Pos} {P : AV → Sto → Prop} (h : Ev Γ k sc o loc σ fun ov σ₁ => At1 Γ k name ov σ₁ P) (hb : ∀ env, attributeBase o name env (eval o env) = eval o env) : Ev Γ k sc (.Attribute o name pos) loc σ P := fun A κ env s hA l f R => by
  rw [arm_eval_Attribute, hb]
  refine wpAny_bind (wpE (h A κ env s hA l f R) fun V v σ₁ h₁ tk₁ q R₁ r p => ?_)
  refine wpAny_bind (wpAny_standAt (wpAny_bind (wpAny_holding (wp_no (Op1.at p hA l R₁ r) fun W s₂ p₂ => ?_))))
  exact wpAny_bind (wpAny_letTemporaryGo (wpAny_pure (p₂.trans q)))

/-- an attribute set -/
noncomputable def St1 (Γ : Gd) (k : Nat) (name : Str) (ov v : AV) (σ : Sto) (P : Sto → Prop) : Prop :=
  ∀ A κ s O V, AOk k A → Γ.le κ → RepS κ σ s.heap → VRel κ.av s.heap ov O → VRel κ.av s.heap v V → wpAny Γ.M A (setAttr O name V) (fun _ s' => ∃ σ' h' tk, s' = { s with heap := h', toks := tk } ∧ RepS κ σ' h' ∧ P σ') No s
/-- a text key stored in an object's dict -/
theorem store_dict {A : Around} {s : Shared} {σ' : Sto} {name : Str} {v : AV} {V : Value} {tk : Tok} {Q : Fin → Shared → Prop} {E : Value → Shared → Prop} (R : RepS κ σ s.heap) (at' : At σ d (.ns es) (.ns (lset es name v)) σ') (hz : es.length < 1000) (hv : VRel κ.av s.heap v V)
    (q : ∀ h' tk', RepS κ σ' h' → Q (.done (.ret .none)) { s with heap := h', toks := tk' }) : wpAny Γ.M A (Builtin.ObjectAttr.storeInDict d (.str name tk) name V) Q E s := by
  obtain ⟨en, n, ed, er⟩ := R.ns at'.mem
  refine wpAny_bind (wpAny_pure (wpAny_bind ?_))
  unfold nsSet
  refine wpAny_bind (wpAny_bind (wpAny_askSetting (wpAny_pure (wpAny_bind (wpAny_mkText (wpAny_bind (wpAny_loadPart ed ?_)))))))
  dsimp only
  have c : (!en.toArray.any (·.key.isStr name) && en.toArray.any (·.refKey)) = false := by
    rw [← Array.any_toList (p := fun x : DictEntry => x.refKey), er.noref, Bool.and_false]
  rw [aRefKeyMayBeTheName_at, c]
  refine wpAny_updatePart ed ?_
  have go : ∀ hsh, Q (.done (.ret .none)) { s with heap := s.heap.update d (Obj.putName name hsh (.str name s.toks) V), toks := s.toks + 1 } ∧ ∃ o, (s.heap.update d (Obj.putName name hsh (.str name s.toks) V)).get? d = some o ∧ o.data.pastItsLine = none := fun hsh => by
    obtain ⟨l', n', ep, er'⟩ := er.put name hv hsh s.toks (n := n) (c := .type "dict")
    have hs : Heap.SameBut d s.heap (s.heap.update d (Obj.putName name hsh (.str name s.toks) V)) := Heap.SameBut.update ..
    have tk := R.tk_upd at'.mem hs.extBut
    have hg : (s.heap.update d (Obj.putName name hsh (.str name s.toks) V)).get? d = some { cls := .type "dict", data := .dict l'.toArray n' } := by
      rw [Heap.get?_update_self _ ed (by rw [ep]; rfl), ep]
    refine ⟨q _ _ (R.upd at' hs.extBut hg ⟨l', n', rfl, er'.mono tk⟩), _, hg, pastItsLine_dict ?_⟩
    have := er'.length
    have hl : (lset es name v).length ≤ es.length + 1 := lset_length es name v
    rw [List.size_toArray, this, sizeLine_eq]; omega
  obtain ⟨g1, o, g2, g3⟩ := go _
  exact wpAny_bind (wpAny_lookBehind g2 g3 (wpAny_pure g1))

theorem st_own (X : K.In Γ.hB) (O : ClsOk K C) {name : Str} {σ' : Sto} {v : AV} (hi : (x, .inst C d) ∈ σ) (at' : At σ d (.ns es) (.ns (lset es name v)) σ') (hz : es.length < 1000) (ht : takerIn K C name = some none) {P : Sto → Prop} (p : P σ') : St1 Γ k name (.ref x) v σ P := fun A κ s V W hA l R r rv => by
  cases r
  obtain ⟨en, n, ed, er⟩ := R.ns at'.mem
  have Xs := X.keeps (l.up R)
  have I := R.instAt hi ed
  obtain ⟨cd, hc, hd'⟩ := any_some O.hd
  refine set_plain Xs I O.sa (osa_open Xs I O.over ht fun b => ?_)
  refine wpAny_bind (wpAny_pure (wpAny_bind (wpAny_bind (wpAny_loadPart (R.inst hi) (wpAny_bind ((looks_clsIn Xs hc).here (s := { s with toks := s.toks + 1 }) ?_))))))
  rw [hd']
  refine wpAny_pure (a := some d) (store_dict (s := { s with toks := s.toks + 1 }) R at' hz rv fun h' tk' R' => ⟨σ', h', tk', rfl, R', p⟩)

theorem St1.at {name : Str} {ov v : AV} {P : Sto → Prop} (o : St1 Γ k name ov v σ P) {A : Around} {κ : Kap} {env : Env} {s : Shared} {O V : Value} (hA : AOk k A) (l : Γ.le κ) (R : Rep κ env loc σ s.heap) (ho : VRel κ.av s.heap ov O) (hv : VRel κ.av s.heap v V) :
    wpAny Γ.M A (setAttr O name V) (fun _ s' => ∃ σ' h' tk, s' = { s with heap := h', toks := tk } ∧ TK κ.av s.heap h' ∧ Rep κ env loc σ' h' ∧ P σ') No s :=
  wpU (o A (mx R.s) s O V hA (Gd.le_mx R.s l) R.s.mx ho hv) fun σ' h' tk R' p =>
    let ⟨q, R''⟩ := frame_step R R'; ⟨σ', h', tk, rfl, q, R'', p⟩
theorem wpV {M : Model} {A : Around} {env : Env} {s : Shared} {E : Value → Shared → Prop} {t : Sem Unit} {P : Sto → Prop} {Q : Unit → Shared → Prop} (h : wpAny M A t (fun _ s' => ∃ σ' h' tk, s' = { s with heap := h', toks := tk } ∧ TK κ.av s.heap h' ∧ Rep κ env loc σ' h' ∧ P σ') No s)
    (q : ∀ σ' h' tk, TK κ.av s.heap h' → Rep κ env loc σ' h' → P σ' → Q () { s with heap := h', toks := tk }) : wpAny M A t Q E s :=
  wp_no h fun _ s' pst => pst.elim fun σ' p => p.elim fun h' p => p.elim fun tk p => p.1 ▸ q σ' h' tk p.2.1 p.2.2.1 p.2.2.2
theorem asg_attr {o : Expr} {name : Str} {pos : Pos} {v : AV} {P : Loc → Sto → Prop} (h : Ev Γ k sc o loc σ fun ov σ₁ => St1 Γ k name ov v σ₁ (P loc)) : Asg Γ k sc (.Attribute o name pos) v loc σ P := fun A κ env s V hA l f R r => by
  rw [assign_Attribute]
  refine wpAny_bind (wpAny_holding (wpE (h A κ env s hA l f R) fun W w σ₁ h₁ tk₁ q R₁ r₁ p => ?_))
  refine wpAny_bind (wpAny_standAt (wpAny_bind (wpAny_holding (wpV (p.at hA l R₁ r₁ (r.mono q)) fun σ₂ h₂ tk₂ q₂ R₂ p₂ => ?_))))
  exact wpAny_release ⟨loc, σ₂, h₂, tk₂, rfl, q.trans q₂, R₂, p₂⟩
theorem ex_aug_attr {o value : Expr} {name : Str} {op : Operator} {tpos pos : Pos} {P : AFl → Loc → Sto → Prop} (h : Ev Γ k sc o loc σ fun ov σ₁ => At1 Γ k name ov σ₁ fun old σ₂ => Ev Γ k sc value loc σ₂ fun v σ₃ => Op2 Γ k (inplaceOp op) old v σ₃ fun new σ₄ => St1 Γ k name ov new σ₄ (P .next loc)) :
    Ex Γ k sc (.AugAssign (.Attribute o name tpos) op value pos) loc σ P := fun A κ env s hA l f R => by
  refine wpAny_AugAssign_AttributeAny (wpE (h A κ env s hA l f R) fun W w σ₁ h₁ tk₁ q₁ R₁ r₁ p₁ => ?_)
  refine wpE (Op1.at p₁ hA l R₁ r₁) fun W₂ w₂ σ₂ h₂ tk₂ q₂ R₂ r₂ p₂ => ?_
  refine wpE (p₂ A κ env _ hA l f R₂) fun W₃ w₃ σ₃ h₃ tk₃ q₃ R₃ r₃ p₃ => ?_
  refine wpE (p₃.at hA l R₃ (r₂.mono q₃) r₃) fun W₄ w₄ σ₄ h₄ tk₄ q₄ R₄ r₄ p₄ => ?_
  refine wpV (p₄.at hA l R₄ (((r₁.mono q₂).mono q₃).mono q₄) r₄) fun σ₅ h₅ tk₅ q₅ R₅ p₅ => ?_
  exact ⟨.next, loc, σ₅, h₅, tk₅, rfl, (((q₁.trans q₂).trans q₃).trans q₄).trans q₅, R₅, .next, p₅⟩

/-- a method of an object -/
theorem gm_inst (X : K.In Γ.hB) (O : ClsOk K C) {name : Str} {f : Addr} (hi : (x, .inst C d) ∈ σ) (hn : (d, .ns es) ∈ σ) (hf : findIn K (.ref C) name = some (some (.ref f))) (ht : typeIn K (.ref f) = some (.type "function")) (hs : es.lookup name = none) : GM Γ name (.ref x) σ (.ref f) [.ref x] := fun A κ s V pl Q l R r h => by
  cases r
  obtain ⟨en, n, ed, er⟩ := R.ns hn
  refine method_fn (X.keeps (l.up R)) (R.instAt hi ed) O.ga O.gat hf ht ?_ (h _ s.toks (.cons (.ref _) .nil))
  rcases er.look name (n := n) (c := .type "dict") with ⟨_, a⟩ | ⟨v', V, a, b, c⟩
  · show (lookIn name _).map _ = _; rw [a]; rfl
  · rw [hs] at a; cases a

/-- an object made -/
theorem cal_make (X : K.In Γ.hB) (O : ClsOk K C) {f : Addr} {xs : List AV} {P : AV → Sto → Prop} (hf : findIn K (.ref C) "__init__" = some (some (.ref f))) (ht : typeIn K (.ref f) = some (.type "function"))
    (h : ∀ x d, CalC Γ k (.ref f) (.ref x :: xs) ((x, .inst C d) :: (d, .ns []) :: σ) fun v σ' => v = .none ∧ P (.ref x) σ') : Cal Γ (k + 1) (.ref C) xs σ P := fun A κ s Xs hA l R rs => by
  have Xs' := X.keeps (l.up R)
  obtain ⟨hh, g, dr, t, os⟩ := s
  refine wpAny_call (make_core (makes_of Xs' O.makes) (looks_findIn Xs' hf) (fun self => bind_fn Xs' self ht) (.inl rfl) ?_)
  have k1 : ∀ b o, hh.get? b = some o → ((hh.push emptyDict).push (instObj C hh.objs.size)).get? b = some o := fun b o e => Heap.get?_push_of_some _ (Heap.get?_push_of_some _ e)
  have R1 : RepS κ ((hh.objs.size, .ns []) :: σ) (hh.push emptyDict) := R.add (o := .ns []) size_new (push_keeps _) (Heap.get?_push_size _ rfl) ⟨[], 0, rfl, .nil⟩
  have R2 : RepS κ ((hh.objs.size + 1, .inst C hh.objs.size) :: (hh.objs.size, .ns []) :: σ) ((hh.push emptyDict).push (instObj C hh.objs.size)) := by
    have := R1.add (a := (hh.push emptyDict).objs.size) (o := .inst C hh.objs.size) (h' := (hh.push emptyDict).push (instObj C hh.objs.size)) size_new (push_keeps _) (Heap.get?_push_size _ rfl) rfl
    rwa [Heap.size_push] at this
  have hA' : AOk k (A.under (.builtin "type.__call__" ⟨.ref C :: Xs, []⟩)) := by
    obtain ⟨a, b, c⟩ := hA
    refine ⟨a, ?_, ?_⟩
    · rw [depth_under_make]; omega
    · rw [units_under_make]; omega
  refine codeAny_mono (h _ _ _ κ _ _ hA' l R2 (.cons (.ref _) (rs.mono (.of_keeps k1)))) fun r s' z => ?_
  rcases r with e | (v | _ | _ | _) <;> first | exact z | exact z.elim | skip
  obtain ⟨v', σ', h', tk, e, R', r', hv, p⟩ := z
  subst hv; cases r'
  exact ⟨rfl, _, σ', h', tk, e, R', .ref _, p⟩
end
end Mine
namespace Mine

theorem slot_ci_next : Slot "callable_iterator" "__next__" "callable_iterator.__next__" :=
  .of (owner := "callable_iterator") (n := "__next__") (by rw [typeLookup_type, builtinLookup_eq_fast]; kernel_rfl) (by decide +kernel) (by decide +kernel) (by decide +kernel)
    (by first | exact .inl (by decide +kernel) | exact .inr (by decide +kernel)) (by rw [isSubtype_type]; kernel_rfl)
theorem slot_ci_iter : Slot "callable_iterator" "__iter__" "callable_iterator.__iter__" :=
  .of (owner := "callable_iterator") (n := "__iter__") (by rw [typeLookup_type, builtinLookup_eq_fast]; kernel_rfl) (by decide +kernel) (by decide +kernel) (by decide +kernel)
    (by first | exact .inl (by decide +kernel) | exact .inr (by decide +kernel)) (by rw [isSubtype_type]; kernel_rfl)
theorem entry_ci_next : entryFor table "callable_iterator.__next__" = some Builtin.«callable_iterator.__next__» := entryFor_of_fast (by kernel_rfl)
theorem entry_ci_iter : entryFor table "callable_iterator.__iter__" = some Builtin.«dict_keyiterator.__iter__» :=
  entryFor_alias (id' := "dict_keyiterator.__iter__") (by kernel_rfl) rfl (by decide +kernel) (by kernel_rfl)
theorem args_ci_next (a : Value) : argsOk "callable_iterator.__next__" ⟨[a], []⟩ := by unfold argsOk; kernel_rfl
theorem args_ci_iter (a : Value) : argsOk "callable_iterator.__iter__" ⟨[a], []⟩ := by unfold argsOk; kernel_rfl
theorem slot_meth_call : Slot "method" "__call__" "method.__call__" :=
  .of (owner := "method") (n := "__call__") (by rw [typeLookup_type, builtinLookup_eq_fast]; kernel_rfl) (by decide +kernel) (by decide +kernel) (by decide +kernel)
    (by first | exact .inl (by decide +kernel) | exact .inr (by decide +kernel)) (by rw [isSubtype_type]; kernel_rfl)
theorem args_iter2 (a b : Value) : argsOk "iter" ⟨[a, b], []⟩ := by unfold argsOk; kernel_rfl
theorem plain_iter : plainId "iter" = true := by decide +kernel
theorem kind_iter : builtinKind "iter" = none := by decide +kernel

abbrev ciObj (q : Addr) (t : Tok) : Obj := { cls := .type "callable_iterator", data := .fields #[.ref q, .str "" t, .bool false] }

section
variable {Γ : Gd} {k : Nat} {sc : Scope} {loc : Loc} {σ : Sto} {K : Frag} {C x d f q fi : Addr} {es : List (Str × AV)} {κ : Kap} {h : Heap} {target : Expr} {body : List Stmt}
theorem RepS.ob (R : RepS κ σ h) {o : Obj} (hm : (x, .obj o) ∈ σ) : h.get? x = some o := by
  obtain ⟨ob, e, r⟩ := R.objs _ hm
  obtain ⟨rfl, _⟩ := r; exact e

/-- a method, bound -/
theorem at_bound (X : K.In Γ.hB) (O : ClsOk K C) {name : Str} (hi : (x, .inst C d) ∈ σ) (hn : (d, .ns es) ∈ σ) (hf : findIn K (.ref C) name = some (some (.ref f))) (ht : typeIn K (.ref f) = some (.type "function"))
    (hg : specialIn K (.ref f) "__get__" = some (some (.builtin "function.__get__"))) (hk : takesIn K (.ref f) = some false) (hc : copiedNames.contains name = false) (hs : es.lookup name = none) {P : AV → Sto → Prop}
    (p : ∀ q, P (.ref q) ((q, .obj (methodObj (.ref f) (.ref x))) :: σ)) : At1 Γ k name (.ref x) σ P := fun A κ s V hA l R r => by
  cases r
  obtain ⟨en, n, ed, er⟩ := R.ns hn
  have hl : lookIn name { cls := .type "dict", data := .dict en.toArray n } = some none := by
    rcases er.look name (n := n) (c := .type "dict") with ⟨_, a⟩ | ⟨v', V, a, b, c⟩
    · exact a
    · rw [hs] at a; cases a
  have Xs := X.keeps (l.up R)
  refine get_bind Xs (R.instAt hi ed) O.ga (findObj_fn O.hd hf hg hk hc hl) O.gat ?_
  refine wpAny_call (fn_get (s := { s with toks := s.toks + 1 }) Xs ht (handed_on rfl ?_))
  exact ⟨.ref _, _, _, _, rfl, R.add (o := .obj (methodObj (.ref f) (.ref x))) size_new (push_keeps _) (Heap.get?_push_size _ rfl) ⟨rfl, fun _ _ e => by have e2 := congrArg Obj.data e; cases e2⟩, .ref _, p _⟩

/-- iter(f, '') -/
theorem cal_iter {self : Value} (hq : (q, .obj (methodObj (.ref f) self)) ∈ σ) {P : AV → Sto → Prop} (p : ∀ fi t, P (.ref fi) ((fi, .obj (ciObj q t)) :: σ)) : Cal Γ k (.builtin "iter") [.ref q, .str ""] σ P := fun A κ s Xs hA l R rs => by
  cases rs with
  | cons r1 rs =>
    cases r1
    cases rs with
    | cons r2 rs =>
      cases rs
      cases r2
      rename_i t
      have ho := R.ob hq
      have hT : s.TypeIs (.ref q) "method" := ⟨_, ho, rfl⟩
      refine call_function_entry (by decide +kernel) (by decide +kernel) kdk_entry_iter (args_iter2 _ _) ?_
      unfold Builtin.«iter»
      refine wpAny_bind (m := someArgs "iter" 1 2 _) (wpAny_of_eq (a := [Value.ref q, .str "" t]) (by first | rfl | kernel_rfl!) ?_)
      dsimp only
      refine wpAny_bind (wpAny_specialOf hT slot_meth_call.lookup ?_)
      refine wpAny_bind (wpAny_rule (wpAny_bind (wpAny_newObj_type (wpAny_pure ?_) (by size_fits))))
      exact ⟨_, rfl, .ref _, _, _, _, rfl, R.add (o := .obj (ciObj q t)) size_new (push_keeps _) (Heap.get?_push_size _ rfl) ⟨rfl, fun _ _ e => by have e2 := congrArg Obj.data e; cases e2⟩, .ref _, p _ _⟩

/-- the next of an iterator that is an object of the store -/
noncomputable def Nx (Γ : Gd) (k : Nat) (it : Addr) (σ : Sto) (P : Option AV → Sto → Prop) : Prop :=
  ∀ A κ s, AOk k A → Γ.le κ → RepS κ σ s.heap → wpAny Γ.M A (pyNext (.ref it)) (fun r s' => ∃ v σ' h' tk, s' = { s with heap := h', toks := tk } ∧ RepS κ σ' h' ∧ (match r, v with | none, none => True | some V, some v => VRel κ.av h' v V | _, _ => False) ∧ P v σ') No s

theorem AOk.in1 {A : Around} (hA : AOk (k + 1) A) : AOk k A.in1 := by
  obtain ⟨a, b, c⟩ := hA
  refine ⟨a, ?_, ?_⟩
  · rw [depth_in1]; omega
  · rw [units_in1]; omega
theorem wpAny_borrowed {M : Model} {A : Around} {E : Value → Shared → Prop} {s : Shared} {F : Value} {pos : List Value} {Q : Value → Shared → Prop}
    (hc : codeAny M A (.call F ⟨pos, []⟩) (fun r s' => match r with | .ok (.ret v) => Q v s' | .ok _ => False | .error e => E e s') s) : wpAny M A (callBorrowed F pos) Q E s := fun Γ p hΓ => by
  unfold callBorrowed
  rw [Sem.wp_call]
  refine (codeAny_mono hc (fun r s' z => ?_)) _ p rfl (hΓ.enter _ none p (by intro x; cases x))
  rcases r with e | (v | _ | _ | _) <;> first | exact z.elim | (simpa using z)
theorem looks_borrows {M : Model} {h : Heap} {self : Value} {fo : Obj} {fd : FuncData} (hq : h.get? q = some (methodObj (.ref f) self)) (hf : h.get? f = some fo) (hd : fo.data = .func fd) : Looks M h (borrowsExactly (.ref q)) true := fun A Q E s k z => by
  unfold borrowsExactly
  dsimp only
  refine wpAny_bind (wpAny_load (k _ _ hq) ?_)
  show wpAny M A (if (Value.type "method" == Value.type "method") = true then _ else _) _ _ _
  rw [if_pos (by decide)]
  dsimp only
  refine wpAny_bind (wpAny_load (k _ _ hf) ?_)
  rw [hd]
  exact wpAny_pure z
theorem fnIn_of {K : Frag} (e : fnIn K f = true) : ∃ o fd, K.lookup f = some o ∧ o.data = .func fd := by
  unfold fnIn at e
  split at e
  · rename_i a; exact ⟨_, _, a, rfl⟩
  · cases e
/-- what a call gives through a slot -/
theorem nx_step {t : Tok} (X : K.In Γ.hB) (ht : fnIn K f = true) (hi : (fi, .obj (ciObj q t)) ∈ σ) (hq : (q, .obj (methodObj (.ref f) (.ref x))) ∈ σ) {P : Option AV → Sto → Prop}
    (h : CalC Γ k (.ref f) [.ref x] σ fun v σ' => ∃ y, v = .str y ∧ (fi, .obj (ciObj q t)) ∈ σ' ∧ (q, .obj (methodObj (.ref f) (.ref x))) ∈ σ' ∧ (if y = "" then ∃ pre post, σ' = pre ++ (fi, .obj (ciObj q t)) :: post ∧ P none (pre ++ post) else P (some (.str y)) σ')) : Nx Γ (k + 1) fi σ P := fun A κ s hA l R => by
  obtain ⟨fo, fd, hfk, hfd⟩ := fnIn_of ht
  have ho := R.ob hi
  have hT : s.TypeIs (.ref fi) "callable_iterator" := ⟨_, ho, rfl⟩
  unfold pyNext
  refine wpAny_bind (wpAny_attempt (wpAny_callSpecial?_slot (name := Str.ofString "__next__") hT slot_ci_next
    (wpAny_call_entry slot_ci_next hT entry_ci_next ?_ (args_ci_next _))))
  unfold Builtin.«callable_iterator.__next__»
  refine wpAny_bind (m := slotArgs _ _ _) (wpAny_of_eq (a := (Value.ref fi, [])) (by first | rfl | kernel_rfl!) ?_)
  dsimp only
  refine wpAny_bind (wpAny_field ho rfl (x := .bool false) rfl ?_)
  rw [if_neg (by decide)]
  refine wpAny_bind (wpAny_field ho rfl (x := .ref q) rfl ?_)
  refine wpAny_bind (wpAny_attempt ?_)
  unfold callOutOfASlot
  refine wpAny_bind ((looks_borrows (R.ob hq) (l.up R _ _ (X _ _ hfk)) hfd).here ?_)
  rw [if_pos rfl]
  refine wpAny_borrowed (method_call (R.ob hq) (codeAny_mono (h A.in1 κ s [.ref x] hA.in1 l R (.cons (.ref _) .nil)) fun r s' z => ?_))
  rcases r with e | (v | _ | _ | _) <;> first | exact z.elim | skip
  obtain ⟨v', σ', h', tk, e, R', r', y, hv, hi', hq', p⟩ := z
  subst e; subst hv
  cases r'
  rename_i ty
  have ho' := R'.ob hi'
  dsimp only
  refine wpAny_bind (wpAny_field ho' rfl (x := .bool false) rfl ?_)
  rw [if_neg (by decide)]
  refine wpAny_bind (wpAny_field ho' rfl (x := .str "" t) rfl ?_)
  refine wpAny_bind (wpAny_holding (eqBool_str ?_))
  by_cases hy : y = ""
  · subst hy
    rw [if_pos rfl] at p
    obtain ⟨pre, post, es, p⟩ := p
    have hsub : (pre ++ post).Sublist σ' := by rw [es]; exact (List.Sublist.refl _).append (.cons _ (.refl _))
    have hnk : fi ∉ keys (pre ++ post) := by
      have nd := R'.nodup
      rw [es, List.map_append, List.map_cons] at nd
      have := (List.perm_middle.nodup_iff).mp nd
      rw [List.nodup_cons] at this
      rw [keys, List.map_append]; exact this.1
    generalize hσ : pre ++ post = σ'' at *
    rw [if_neg (by decide)]
    refine wpAny_bind (wpAny_rule (wpAny_bind ?_))
    show wpAny _ _ (field (.ref fi) 0 >>= _) _ _ _
    refine wpAny_bind (wpAny_field ho' rfl (x := .ref q) rfl (wpAny_bind ?_))
    unfold slotLetsGo
    dsimp only
    refine wpAny_bind ((looks_borrows (R'.ob hq') (l.up R' _ _ (X _ _ hfk)) hfd).here (s := { s with heap := h', toks := tk }) ?_)
    rw [if_pos rfl]
    refine wpAny_pure ?_
    refine wpAny_bind (wpAny_setField ho' rfl (by simp) ?_)
    have u1 := Heap.get?_update_self (Obj.mapFields (·.setIfInBounds 0 .none)) ho' rfl
    refine wpAny_bind (wpAny_setField (s := { s with heap := _, toks := tk }) u1 rfl (by simp) ?_)
    have u2 := Heap.get?_update_self (Obj.mapFields (·.setIfInBounds 1 .none)) u1 rfl
    refine wpAny_setField (s := { s with heap := _, toks := tk }) u2 rfl (by simp) ?_
    show wpAny _ _ (newExc (.type "StopIteration") [] >>= _) _ _ _
    refine wpAny_bind ?_
    simp only [newExc, newTuple]
    refine wpAny_bind (wpAny_newObj_type ?_ (by size_fits))
    refine wpAny_bind (m := firstArgMember _ _) (wpAny_of_eq (a := Value.none) (by first | rfl | (simp only [firstArgMember]; rfl)) ?_)
    refine wpAny_newObj_type ?_ (by size_fits)
    simp only [raiseNew]
    refine wpAny_bind (wpAny_handled ?_)
    rw [show A.in1.handled = none from hA.1]
    refine wpAny_bind (wpAny_pure (wpAny_throw ?_))
    refine wpAny_bind (wpAny_isInstance (T := "StopIteration") (b := true) ⟨_, Heap.get?_push_size _ rfl, rfl⟩ isSubtype_stop ?_)
    have fin : ∀ h₂, Heap.ExtBut fi h' h₂ → RepS κ σ'' h₂ := fun h₂ E => (R'.sub hsub).ext (R'.new _ hi') hnk E (.of_ext_seq ho' (fun xs n e => by cases e) E)
    exact wpAny_pure ⟨none, σ'', _, tk, rfl, fin _ ((((Heap.SameBut.update ..).extBut.trans ((Heap.SameBut.update ..).extBut.trans (Heap.SameBut.update ..).extBut)).push _).push _), trivial, p⟩
  · rw [if_neg hy] at p
    have hb : ((("" : Str) == y) = false) := beq_eq_false_iff_ne.mpr fun e => hy e.symm
    rw [hb]
    refine wpAny_pure ⟨_, rfl, wpAny_pure ⟨some (.str y), σ', h', tk, rfl, R', .str _ _, p⟩⟩

/-- a for over such an iterator -/
noncomputable def ForC (Γ : Gd) (k : Nat) (sc : Scope) (target : Expr) (body : List Stmt) (it : Addr) (loc : Loc) (σ : Sto) (P : AFl → Loc → Sto → Prop) : Prop :=
  ∀ A κ env s, AOk k A → Γ.le κ → Fits sc env → Rep κ env loc σ s.heap → codeAny Γ.M A (.forLoop target (.ref it) body [] env) (PstC κ env s P) s
theorem Nx.at {it : Addr} {P : Option AV → Sto → Prop} (o : Nx Γ k it σ P) {A : Around} {κ : Kap} {env : Env} {s : Shared} (hA : AOk k A) (l : Γ.le κ) (R : Rep κ env loc σ s.heap) :
    wpAny Γ.M A (pyNext (.ref it)) (fun r s' => ∃ v σ' h' tk, s' = { s with heap := h', toks := tk } ∧ TK κ.av s.heap h' ∧ Rep κ env loc σ' h' ∧ (match r, v with | none, none => True | some V, some v => VRel κ.av h' v V | _, _ => False) ∧ P v σ') No s :=
  wp_no (o A (mx R.s) s hA (Gd.le_mx R.s l) R.s.mx) fun r s' pst => pst.elim fun v p => p.elim fun σ' p => p.elim fun h' p => p.elim fun tk p =>
    have x := frame_step R p.2.1; ⟨v, σ', h', tk, p.1, x.1, x.2, p.2.2.1, p.2.2.2⟩
theorem forC {z : Str} {zp : Pos} {it : Addr} {P : AFl → Loc → Sto → Prop} (h : Nx Γ k it σ fun r σ₁ => match r with
      | none => P .next loc σ₁
      | some v => Asg Γ k sc (.Name z zp) v loc σ₁ fun l σ₂ => Exs Γ k sc body l σ₂ (Turn P fun l σ' => ForC Γ k sc (.Name z zp) body it l σ' P)) : ForC Γ k sc (.Name z zp) body it loc σ P := fun A κ env s hA le f R => by
  refine forI_tree (wp_no (h.at hA le R) fun r s₁ pst => ?_)
  obtain ⟨v, σ₁, h₁, tk₁, e₁, q₁, R₁, m, p⟩ := pst
  subst e₁
  cases r with
  | none =>
    cases v with
    | some _ => exact m.elim
    | none => exact ⟨.next, loc, σ₁, h₁, tk₁, rfl, q₁, R₁, .next, p⟩
  | some V =>
    cases v with
    | none => exact m.elim
    | some v =>
      refine wpAny_pure (wpA (p A κ env _ V hA le f R₁ m) fun l₂ σ₂ h₂ tk₂ q₂ R₂ p₂ => ?_)
      refine wpX (p₂ A κ env _ hA le f R₂) fun fl g l₃ σ₃ h₃ tk₃ q₃ R₃ r₃ p₃ => ?_
      have tkA := (q₁.trans q₂).trans q₃
      have go : ForC Γ k sc (.Name z zp) body it l₃ σ₃ P → codeAny Γ.M A (.forLoop (.Name z zp) (.ref it) body [] env) (PstC κ env s P) { s with heap := h₃, toks := tk₃ } := fun again =>
        codeAny_mono (again A κ env { s with heap := h₃, toks := tk₃ } hA le f R₃) fun r s₅ x => by
          cases r with
          | ok f => exact PstX.trans tkA x
          | error _ => exact x
      cases r₃ with
      | next => exact go p₃
      | cont => exact go p₃
      | brk => exact ⟨_, _, _, _, _, rfl, tkA, R₃, .next, p₃⟩
      | ret r => exact ⟨_, _, _, _, _, rfl, tkA, R₃, .ret r, p₃⟩
theorem ex_forC {z : Str} {zp pos : Pos} {iter : Expr} {P : AFl → Loc → Sto → Prop} (h : Ev Γ k sc iter loc σ fun v σ₁ => ∃ it q t, v = .ref it ∧ (it, .obj (ciObj q t)) ∈ σ₁ ∧ ForC Γ k sc (.Name z zp) body it loc σ₁ P) (hs : ∀ env x, foldedSetIterable iter env x = pure x) : Ex Γ k sc (.For (.Name z zp) iter body [] pos) loc σ P := fun A κ env s hA le f R => by
  refine wpAny_For (wp_no (h A κ env s hA le f R) fun V s₁ pst => ?_) (hs env)
  obtain ⟨v, σ₁, h₁, tk₁, e₁, q₁, R₁, r₁, it, q, t, hv, hm, p⟩ := pst
  subst e₁; subst hv; cases r₁
  have hT : ({ s with heap := h₁, toks := tk₁ } : Shared).TypeIs (.ref it) "callable_iterator" := ⟨_, R₁.s.ob hm, rfl⟩
  refine wpAny_pyIter_slot hT slot_ci_iter (wpAny_call_entry slot_ci_iter hT entry_ci_iter ?_ (args_ci_iter _))
  show wpAny _ _ (ret (.ref it)) _ _ _
  refine wpAny_pure ⟨_, rfl, "callable_iterator", _, hT, slot_ci_next.lookup, codeAny_mono (p A κ env _ hA le f R₁) fun r s₃ x => ?_⟩
  cases r with
  | error _ => exact x.elim
  | ok fl => exact PstX.trans q₁ x
end
end Mine
namespace Mine

theorem store_function : StoreFacts "function" [.type "function", .type "object"] "object.__setattr__" "object" where
  mro := by kernel_rfl
  slot := .of (owner := "object") (n := "__setattr__") (by rw [typeLookup_type, builtinLookup_eq_fast]; kernel_rfl) (by decide +kernel) (by decide +kernel) (by decide +kernel)
    (by first | exact .inl (by decide +kernel) | exact .inr (by decide +kernel)) (by rw [isSubtype_type]; kernel_rfl)
  entry := PySem.F.entry_object_sa
  kind := by decide +kernel
  split := by decide +kernel
  hasOwner := by decide +kernel
  args := fun a b c => by unfold argsOk; kernel_rfl
  passes := fun self => by kernel_rfl
theorem fn_read : typeLookup (.type "function") "read" = pure none := by rw [typeLookup_type, builtinLookup_eq_fast]; kernel_rfl
theorem fn_ga : typeLookup (.type "function") "__getattribute__" = pure (some (.builtin "object.__getattribute__")) := by rw [typeLookup_type, builtinLookup_eq_fast]; kernel_rfl
theorem fn_gat : typeLookup (.type "function") "__getattr__" = pure none := by rw [typeLookup_type, builtinLookup_eq_fast]; kernel_rfl

section
variable {Γ : Gd} {k : Nat} {sc : Scope} {loc : Loc} {σ : Sto} {κ : Kap} {h : Heap} {st d : Addr} {o : Obj} {fd : FuncData} {es : List (Str × AV)}
theorem looks_fnread {M : Model} {od : Obj} {V : Value} (ho : h.get? st = some o) (hc : o.cls = .type "function") (hf : o.data = .func fd) (hd : o.dict = some d) (hod : h.get? d = some od) (hl : lookIn "read" od = some (some V)) : Looks M h (Builtin.ObjectAttr.find (.ref st) (.type "function") "read") (.value V) := by
  refine (Looks.of_pure fn_read).andThen (Looks.now.andThen (Looks.now.andThen ?_))
  have D : Looks M h (Builtin.ObjectAttr.ownDict st) (some d) := fun A Q E s k z => by
    refine wpAny_bind (wpAny_loadPart (k _ _ ho) ?_)
    rw [hf]
    dsimp only
    unfold instanceDict
    refine wpAny_bind (wpAny_loadPart (k _ _ ho) ?_)
    rw [hc, hd]
    exact wpAny_pure z
  have N : Looks M h (nsGet d "read") (some V) := fun A Q E s k z => by
    refine wpAny_bind (wpAny_loadPart (k _ _ hod) ?_)
    rw [nsLook_of hl]; exact wpAny_pure z
  exact (show Looks M h (Builtin.ObjectAttr.inOwnDict "read" (.ref st)) (some V) from D.andThen N).andThen (Looks.tag .now)
theorem ga_plain : plainId "object.__getattribute__" = true := by decide +kernel
theorem slot_fn_ga : Slot "function" "__getattribute__" "object.__getattribute__" :=
  .of (owner := "object") (n := "__getattribute__") (by rw [typeLookup_type, builtinLookup_eq_fast]; kernel_rfl) (by decide +kernel) (by decide +kernel) (by decide +kernel)
    (by first | exact .inl (by decide +kernel) | exact .inr (by decide +kernel)) (by rw [isSubtype_type]; kernel_rfl)
theorem entry_ga : entryFor table "object.__getattribute__" = some Builtin.«object.__getattribute__» := entryFor_of_tree (by kernel_rfl)
theorem args_ga (a b : Value) : argsOk "object.__getattribute__" ⟨[a, b], []⟩ := by unfold argsOk; kernel_rfl
/-- the function that stands under read -/
theorem gm_fnread {rd : Addr} (hs : (st, .obj o) ∈ σ) (hc : o.cls = .type "function") (hf : o.data = .func fd) (hd : o.dict = some d) (hn : (d, .ns es) ∈ σ) (hr : es.lookup ("read" : Str) = some (.ref rd)) : GM Γ "read" (.ref st) σ (.ref rd) [] := fun A κ s V pl Q l R r hq => by
  cases r
  have ho := R.ob hs
  obtain ⟨en, n, ed, er⟩ := R.ns hn
  have hl : lookIn "read" { cls := .type "dict", data := .dict en.toArray n } = some (some (.ref rd)) := by
    rcases er.look "read" (n := n) (c := .type "dict") with ⟨a, _⟩ | ⟨v', V, a, b, c⟩
    · rw [hr] at a; cases a
    · rw [hr] at a; cases a; cases c; exact b
  have hT : Looks Γ.M s.heap (typeOf (.ref st)) (.type "function") := hc ▸ (Looks.ld ho).andThen .now
  have hS : ∀ {x : Str} {v : Option Value}, typeLookup (.type "function") x = pure v → Looks Γ.M s.heap (specialOf (.ref st) x) v := fun e => hT.andThen (Looks.of_pure e)
  have hF := looks_fnread (M := Γ.M) ho hc hf hd ed hl
  unfold getMethod
  refine wpAny_bind ((hS fn_ga).here ?_)
  dsimp only
  rw [PySem.F.canon_object_ga, if_neg (by decide)]
  refine wpAny_bind ((hS fn_gat).here ?_)
  refine wpAny_bind ((hS fn_read).here ?_)
  dsimp only
  refine wpAny_bind ?_
  unfold getAttr getAttrBy
  refine wpAny_bind (wpAny_mkText (wpAny_holding (wpAny_bind (hT.here (s := { s with toks := s.toks + 1 }) (wpAny_bind ((Looks.of_pure fn_ga).here ?_))))))
  show wpAny _ _ (getAttrByItsOwn _ _ _ _ _ _) _ _ _
  unfold getAttrByItsOwn
  refine wpAny_bind (wpAny_pure (wpAny_bind (wpAny_attempt (wpAny_holding ?_))))
  show wpAny _ _ (boundAndCalled _ _ _) _ _ _
  unfold boundAndCalled
  rw [slot_fn_ga.bind]
  refine wpAny_bind (wpAny_pure ?_)
  refine wpAny_call_entry slot_fn_ga ⟨_, ho, hc⟩ entry_ga ?_ (args_ga _ _)
  unfold Builtin.«object.__getattribute__»
  refine wpAny_bind (m := slotArgs _ _ _) (wpAny_of_eq (a := (Value.ref st, [.str "read" s.toks])) (by first | rfl | kernel_rfl!) ?_)
  dsimp only
  refine wpAny_bind (wpAny_pure (wpAny_bind (hT.here (s := { s with toks := s.toks + 1 }) (wpAny_bind (hF.here (s := { s with toks := s.toks + 1 }) ?_)))))
  refine wpAny_pure ⟨_, rfl, ?_⟩
  exact handed_on rfl (wpAny_pure (hq [] _ .nil))

/-- read set on a function that has no dict yet -/
theorem st_fnread {v : AV} {σ' : Addr → Sto} {P : Sto → Prop} (hc : o.cls = .type "function") (hf : o.data = .func fd) (hd : o.dict = none) (at' : ∀ d, At σ st (.obj o) (.obj { o with dict := some d }) (σ' d)) (p : ∀ d, P ((d, .ns [("read", v)]) :: σ' d)) : St1 Γ k "read" (.ref st) v σ P := by
  intro A κ s V W hA l R r rv
  cases r
  have ho := R.ob (at' 0).mem
  have SF := store_function
  have hT : Looks Γ.M s.heap (typeOf (.ref st)) (.type "function") := hc ▸ (Looks.ld ho).andThen .now
  unfold setAttr
  refine wpAny_bind (wpAny_mkText (wpAny_bind (wpAny_callSpecial?_slot (s := { s with toks := s.toks + 1 }) (T := "function") ⟨_, ho, hc⟩ SF.slot (wpAny_call_entry (s := { s with toks := s.toks + 1 }) (T := "function") SF.slot ⟨_, ho, hc⟩ SF.entry ?_ (SF.args _ _ _)))))
  rw [osa_eq, refuse_eq]
  refine wpAny_bind (wpAny_bind (hT.here (s := { s with toks := s.toks + 1 }) (wpAny_bind (wpAny_of_eq SF.mro ?_))))
  rw [SF.passes]
  refine wpAny_pure (wpAny_bind (hT.here (s := { s with toks := s.toks + 1 }) (wpAny_bind (wpAny_of_eq fn_read (wpAny_bind (wpAny_pure ?_))))))
  show wpAny _ _ (Builtin.ObjectAttr.storeInOwnDict _ _ _ _ _ _) _ _ _
  unfold Builtin.ObjectAttr.storeInOwnDict
  refine wpAny_bind (wpAny_of_eq (a := ()) (by first | rfl | kernel_rfl!) ?_)
  rw [if_neg (by decide)]
  refine wpAny_bind ?_
  show wpAny _ _ (instanceDict st true) _ _ _
  unfold instanceDict
  refine wpAny_bind (wpAny_loadPart ho ?_)
  rw [hc, hd]
  dsimp only
  rw [if_neg (by decide +kernel), hf]
  dsimp only
  refine wpAny_bind (wpAny_alloc (wpAny_bind ?_))
  have ho1 := Heap.get?_push_of_some emptyDict ho
  refine wpAny_update (s := { s with heap := s.heap.push emptyDict, toks := s.toks + 1 }) ho1 ?_
  refine wpAny_of_eq (a := some s.heap.objs.size) (by first | rfl | kernel_rfl!) ?_
  dsimp only
  have R1 : RepS κ ((s.heap.objs.size, .ns []) :: σ) (s.heap.push emptyDict) := R.add (o := .ns []) size_new (push_keeps _) (Heap.get?_push_size _ rfl) ⟨[], 0, rfl, .nil⟩
  have hs : Heap.SameBut st (s.heap.push emptyDict) ((s.heap.push emptyDict).update st fun o => { o with dict := some s.heap.objs.size }) := Heap.SameBut.update ..
  have at1 := At.tail (p := (s.heap.objs.size, AO.ns [])) (at' s.heap.objs.size)
  have R2 := R1.upd at1 hs.extBut (Heap.get?_update_self _ ho1 (by show Obj.isFreed { o with dict := _ } = false; unfold Obj.isFreed; rw [hf])) ⟨rfl, fun _ _ e => by have e2 := congrArg Obj.data e; rw [hf] at e2; cases e2⟩
  have tk1 : TK κ.av s.heap ((s.heap.push emptyDict).update st fun o => { o with dict := some s.heap.objs.size }) := (TK.of_keeps (push_keeps _)).trans (R1.tk_upd at1.mem hs.extBut)
  refine store_dict (s := { s with heap := _, toks := s.toks + 1 }) R2 (v := v) (σ' := (s.heap.objs.size, .ns [("read", v)]) :: σ' s.heap.objs.size) .head (by simp) (rv.mono tk1) fun h' tk' R' => ⟨_, rfl, wpAny_pure ⟨_, h', tk', rfl, R', p _⟩⟩
end
end Mine
namespace Mine

/-- in a frame whose code and cells are known -/
noncomputable def ExsF (Γ : Gd) (k : Nat) (sc : Scope) (cd : Value) (ql : Str) (cells : List (Str × Addr)) (st : List Stmt) (loc : Loc) (σ : Sto) (P : AFl → Loc → Sto → Prop) : Prop :=
  ∀ A κ env s, AOk k A → Γ.le κ → Fits sc env → env.code = cd → env.qual = ql → env.cells = cells → Rep κ env loc σ s.heap → wpAny Γ.M A (execs st env) (PstX κ env s P) No s

noncomputable def closL (cells : List (Str × Addr)) : List (Str × NameKind) → List (Str × Addr) → List (Str × Addr)
  | [], acc => acc
  | (n, k) :: r, acc => if k == .free then closL cells r ((n, (cells.lookup n).getD 0) :: acc) else closL cells r acc
theorem clos_eq (env : Env) : ∀ (names : List (Str × NameKind)) (acc : List (Str × Addr)), clos env names acc = closL env.cells names acc
  | [], acc => rfl
  | (n, k) :: r, acc => by unfold clos closL; rw [clos_eq env r, clos_eq env r]

section
variable {Γ : Gd} {k : Nat} {sc : Scope} {loc : Loc} {σ : Sto} {mg mb : Str → Option Value} {cd : Value} {ql : Str} {cells : List (Str × Addr)} {P : AFl → Loc → Sto → Prop} {rest : List Stmt}
theorem exsF_of (h : Exs Γ k sc rest loc σ P) : ExsF Γ k sc cd ql cells rest loc σ P := fun A κ env s hA l f _ _ _ R => h A κ env s hA l f R
theorem exsF_cons {st : Stmt} (h : Ex Γ k sc st loc σ fun f l σ' => match f with | .next => ExsF Γ k sc cd ql cells rest l σ' P | f => P f l σ') : ExsF Γ k sc cd ql cells (st :: rest) loc σ P := fun A κ env s hA l f e1 e3 e2 R =>
  wpAny_execs_cons (wpX (h A κ env s hA l f R) fun fl g loc₁ σ₁ h₁ tk₁ q R₁ r p => by
    cases r with
    | next => exact wp_no (p A κ env _ hA l f e1 e3 e2 R₁) fun _ _ h => h.trans q
    | brk => exact ⟨_, _, _, _, _, rfl, q, R₁, .brk, p⟩
    | cont => exact ⟨_, _, _, _, _, rfl, q, R₁, .cont, p⟩
    | ret r => exact ⟨_, _, _, _, _, rfl, q, R₁, .ret r, p⟩)

/-- what making a function asks for -/
structure MkOk (Γ : Gd) (mg mb : Str → Option Value) (c T : Addr) : Prop where
  ok : Γ.Ok mg mb
  code : CodeHd Γ.hB c T
  bm : ∃ bm ob, mg "__builtins__" = some (.ref bm) ∧ bm ≠ builtinsNs ∧ Γ.hB.get? bm = some ob ∧ ob.cls = .type "module" ∧ ob.dict = some builtinsNs ∧ ob.data = .plain

theorem MkOk.bat {c T : Addr} (W : MkOk Γ mg mb c T) {κ : Kap} {h : Heap} {ps : Array Value} (l : Γ.le κ) (R : RepS κ σ h) (hm : (T, .obj (tabObj ps)) ∈ σ) : h.Ns mainGlobals mg ∧ CodeHd h c T ∧ h.get? T = some (tabObj ps) ∧ mainGlobals ≠ T ∧ h.BuiltinsAt mg T := by
  obtain ⟨bm, ob, b1, b2, b3, b4, b5, b6⟩ := W.bm
  have hT := R.ob hm
  have hg := W.ok.g.keeps (l.up R)
  refine ⟨hg, W.code.keeps (l.up R), hT, fun q => ?_, bm, ob, b1, b2, fun q => ?_, fun q => ?_, l.up R _ _ b3, b4, b5, b6⟩
  · obtain ⟨o, es, ep, e, hd, _⟩ := hg
    rw [q, hT] at e; cases e; cases hd
  · obtain ⟨o, es, ep, e, hd, _⟩ := W.ok.g
    rw [q, e] at b3; cases b3; rw [hd] at b6; cases b6
  · have e := l.up R _ _ b3
    rw [q, hT] at e; cases e; cases b4

/-- what a making leaves: the table grown, a code record, a function -/
theorem made {κ : Kap} {env : Env} {h h' : Heap} {T c' : Addr} {ps ps' : Array Value} {σ' : Sto} {fo oc : Obj} {vs : Array Value} (R : Rep κ env loc σ h) (at' : At σ T (.obj (tabObj ps)) (.obj (tabObj ps')) σ') (hx : Heap.ExtBut T h h') (hge : h.objs.size ≤ c') (hlt : c' < h'.objs.size) (hT : h'.get? T = some (tabObj ps')) (hoc : h'.get? c' = some oc) (hd : oc.data = .fields vs) (hf : ∀ vs n, fo ≠ { cls := .type "tuple", data := .seq vs n }) (hfr : fo.isFreed = false) :
    TK κ.av h (h'.push fo) ∧ Rep κ env loc ((h'.objs.size, .obj fo) :: (c', .obj oc) :: σ') (h'.push fo) := by
  have R1 : RepS κ σ' h' := R.s.upd at' hx hT ⟨rfl, fun _ _ e => by have e2 := congrArg Obj.data e; cases e2⟩
  have tk1 : TK κ.av h h' := R.s.tk_upd at'.mem hx
  have hn : h.get? c' = none := Heap.get?_none_of_le hge
  have R2 : RepS κ ((c', .obj oc) :: σ') h' := {
    prot := R1.prot
    objs := fun p hp => by
      rcases List.mem_cons.mp hp with e | e
      · subst e; exact ⟨oc, hoc, rfl, fun _ _ e => by rw [e] at hd; cases hd⟩
      · exact R1.objs p e
    nodup := by
      simp only [List.map_cons, List.nodup_cons]
      refine ⟨fun hm => ?_, R1.nodup⟩
      rw [at'.keys] at hm
      obtain ⟨o, e, _⟩ := R.s.live hm
      rw [hn] at e; cases e
    new := fun p hp => by
      rcases List.mem_cons.mp hp with e | e
      · subst e
        cases e : κ.p c' with
        | none => rfl
        | some o => have := R.s.prot _ _ e; rw [hn] at this; cases this
      · exact R1.new p e }
  have F2 : FRel κ env loc ((c', .obj oc) :: σ') h' := R.f.stp {
    keep := fun b o hb e => hx b o (fun q => hb (q ▸ List.mem_map_of_mem at'.mem)) e
    new := fun a ha => by
      simp only [keys, List.map_cons] at ha
      rcases List.mem_cons.mp ha with e | e
      · exact .inr (e ▸ hn)
      · rw [at'.keys] at e; exact .inl e
    tk := tk1 }
  have R3 : Rep κ env loc ((h'.objs.size, .obj fo) :: (c', .obj oc) :: σ') (h'.push fo) := Rep.add ⟨R2, F2⟩ size_new (push_keeps _) (Heap.get?_push_size _ hfr) ⟨rfl, hf⟩
  exact ⟨tk1.trans (.of_keeps (push_keeps _)), R3⟩

theorem qual_in {env : Env} {name : Str} (f : Fits sc env) (hk : sc.names.lookup name = some .local) (e : env.qual = ql) : qualnameIn env name name = ql ++ name := by
  unfold qualnameIn
  rw [f.kindOf, hk, e]
  rfl
/-- an inner def, the first time -/
theorem exsF_def {name : Str} {args : Arguments} {body : List Stmt} {scope : Scope} {pos : Pos} {c T : Addr} {ps : Array Value} {σ' : Addr → Sto} (W : MkOk Γ mg mb c T) (hcd : cd = .ref c) (htr : TriplesOk ps.toList) (hnf : codeAmong pos ps.toList = none)
    (at' : ∀ c', At σ T (.obj (tabObj ps)) (.obj (tabObj (ps ++ #[rawInt pos.line, rawInt pos.col, .ref c']))) (σ' c')) (hcl : ∀ x, (x, NameKind.free) ∈ scope.names → ∃ c, cells.lookup x = some c)
    (hda : args.defaults = []) (hdk : args.kw_defaults = []) (han : ∀ e, annTrees args none e = []) (hk : sc.names.lookup name = some .local)
    (h : ∀ f c' oc vs t ctv doc pm qual, qual = ql ++ name → oc.data = .fields vs → vs[1]? = some (.str qual t) → ExsF Γ k sc cd ql cells rest (lset loc name (.ref f)) ((f, .obj (fnMade name qual args body scope (closL cells scope.names []) doc pm c' ctv)) :: (c', .obj oc) :: σ' c') P) :
    ExsF Γ k sc cd ql cells (.FunctionDef name args body [] none [] scope none name pos :: rest) loc σ P := fun A κ env s hA l f e1 e3 e2 R => by
  refine wpAny_execs_cons ?_
  rw [exec_def, defaultsOf_eq, hda, hdk, han]
  refine wpAny_bind (wpAny_standAt (wpAny_bind (wpAny_holding ?_)))
  refine wpAny_bind (wpAny_pure (wpAny_bind (wpAny_holding (wpAny_pure (wpAny_holding (wpAny_bind (wpAny_pure ?_)))))))
  obtain ⟨w1, w2, w3, w4, w5⟩ := W.bat l R.s (at' 0).mem
  refine makeFunction_K (mg := mg) (closureFor_of fun x hx => by rw [e2]; exact hcl x hx) f.glob w1 (by rw [e1, hcd]) w2 w3 htr hnf w4 w5 fun c' ctv doc h' tk hx hge hlt hrec htb => ?_
  obtain ⟨c₂, oc, vs, t, ec, hoc, hd, hv⟩ := hrec
  cases ec
  rw [clos_eq, e2]
  obtain ⟨tk1, R1⟩ := made R (at' c') hx hge hlt htb hoc hd (fo := fnMade name (qualnameIn env name name) args body scope (closL cells scope.names []) doc ((mg "__name__").getD .none) c' ctv) (fun _ _ e => by have e2 := congrArg Obj.data e; cases e2) rfl
  refine wpAny_bind (wpAny_standAt ?_)
  refine wpAny_bind (wpAny_bindName (wpA (store_name (P := fun l' σ₁ => ExsF Γ k sc cd ql cells rest l' σ₁ P) (.inl hk) (h _ c' oc vs t ctv doc _ _ (qual_in f hk e3) hd hv) f R1 (.ref _)) fun l₂ σ₂ h₂ tk₂ q₂ R₂ p₂ => ?_))
  refine wpAny_pure ?_
  exact wp_no (p₂ A κ env _ hA l f e1 e3 e2 R₂) fun _ _ h => (h.trans (tk₁ := tk) q₂).trans tk1

/-- name = lambda, the first time -/
theorem exsF_lam {name : Str} {params : Arguments} {body : Expr} {scope : Scope} {np lpos pos : Pos} {c T : Addr} {ps : Array Value} {σ' : Addr → Sto} (W : MkOk Γ mg mb c T) (hcd : cd = .ref c) (htr : TriplesOk ps.toList) (hnf : codeAmong lpos ps.toList = none)
    (at' : ∀ c', At σ T (.obj (tabObj ps)) (.obj (tabObj (ps ++ #[rawInt lpos.line, rawInt lpos.col, .ref c']))) (σ' c')) (hcl : ∀ x, (x, NameKind.free) ∈ scope.names → ∃ c, cells.lookup x = some c)
    (hdf : ∀ env, defaultsOf params env = ([], [])) (hk : sc.names.lookup name = some .local)
    (hs : ∀ env, Fits sc env → swapsWithSole [.Name name np] (.Lambda params body scope lpos) pos.line env = pure false) (hw : ∀ env, Fits sc env → swappedStores [.Name name np] (.Lambda params body scope lpos) env = pure none)
    (h : ∀ f c' oc vs t ctv pm qual, oc.data = .fields vs → vs[1]? = some (.str qual t) → ExsF Γ k sc cd ql cells rest (lset loc name (.ref f)) ((f, .obj (kla_obj "<lambda>" qual params body scope (closL cells scope.names []) pm c' ctv)) :: (c', .obj oc) :: σ' c') P) :
    ExsF Γ k sc cd ql cells (.Assign [.Name name np] (.Lambda params body scope lpos) pos :: rest) loc σ P := fun A κ env s hA l f e1 e3 e2 R => by
  refine wpAny_execs_cons (wpAny_Assign_stores ?_ (hs env f) (hw env f))
  refine kla_eval (hdf env) ?_
  obtain ⟨w1, w2, w3, w4, w5⟩ := W.bat l R.s (at' 0).mem
  refine kla_makeFunction (mg := mg) (closureFor_of fun x hx => by rw [e2]; exact hcl x hx) f.glob w1 (by rw [e1, hcd]) w2 w3 htr hnf w4 w5 fun c' ctv h' tk hx hge hlt hrec htb => ?_
  obtain ⟨c₂, oc, vs, t, ec, hoc, hd, hv⟩ := hrec
  cases ec
  rw [clos_eq, e2]
  obtain ⟨tk1, R1⟩ := made R (at' c') hx hge hlt htb hoc hd (fo := kla_obj "<lambda>" (env.qual ++ "<lambda>") params body scope (closL cells scope.names []) ((mg "__name__").getD .none) c' ctv) (fun _ _ e => by have e2 := congrArg Obj.data e; cases e2) rfl
  show wpAny _ _ (assign (.Name name np) env _) _ _ _
  refine wpAny_assign_Name (wpA (store_name (P := fun l' σ₁ => ExsF Γ k sc cd ql cells rest l' σ₁ P) (.inl hk) (h _ c' oc vs t ctv _ _ hd hv) f R1 (.ref _)) fun l₂ σ₂ h₂ tk₂ q₂ R₂ p₂ => ?_)
  exact wp_no (p₂ A κ env _ hA l f e1 e3 e2 R₂) fun _ _ h => (h.trans (tk₁ := tk) q₂).trans tk1

/-- a function made again: its code is there -/
theorem remade {κ : Kap} {env : Env} {h h' : Heap} {fo : Obj} (R : Rep κ env loc σ h) (hk : ∀ b o, h.get? b = some o → h'.get? b = some o) (hf : ∀ vs n, fo ≠ { cls := .type "tuple", data := .seq vs n }) (hfr : fo.isFreed = false) :
    TK κ.av h (h'.push fo) ∧ Rep κ env loc ((h'.objs.size, .obj fo) :: σ) (h'.push fo) := by
  have hk' : ∀ b o, h.get? b = some o → (h'.push fo).get? b = some o := fun b o e => push_keeps _ b o (hk b o e)
  refine ⟨.of_keeps hk', Rep.add R ?_ hk' (Heap.get?_push_size _ hfr) ⟨rfl, hf⟩⟩
  cases e : h.get? h'.objs.size with
  | none => rfl
  | some o => exact absurd (Heap.lt_size (hk _ _ e)) (Nat.lt_irrefl _)
theorem exsF_def_hit {name : Str} {args : Arguments} {body : List Stmt} {scope : Scope} {pos : Pos} {c T c' : Addr} {ps : Array Value} (W : MkOk Γ mg mb c T) (hcd : cd = .ref c) (htr : TriplesOk ps.toList) (hhit : codeAmong pos ps.toList = some (.ref c'))
    (hT : (T, .obj (tabObj ps)) ∈ σ) (hcl : ∀ x, (x, NameKind.free) ∈ scope.names → ∃ c, cells.lookup x = some c)
    (hda : args.defaults = []) (hdk : args.kw_defaults = []) (han : ∀ e, annTrees args none e = []) (hk : sc.names.lookup name = some .local)
    (h : ∀ f ctv doc pm qual, qual = ql ++ name → ExsF Γ k sc cd ql cells rest (lset loc name (.ref f)) ((f, .obj (fnMade name qual args body scope (closL cells scope.names []) doc pm c' ctv)) :: σ) P) :
    ExsF Γ k sc cd ql cells (.FunctionDef name args body [] none [] scope none name pos :: rest) loc σ P := fun A κ env s hA l f e1 e3 e2 R => by
  refine wpAny_execs_cons ?_
  rw [exec_def, defaultsOf_eq, hda, hdk, han]
  refine wpAny_bind (wpAny_standAt (wpAny_bind (wpAny_holding ?_)))
  refine wpAny_bind (wpAny_pure (wpAny_bind (wpAny_holding (wpAny_pure (wpAny_holding (wpAny_bind (wpAny_pure ?_)))))))
  obtain ⟨w1, w2, w3, w4, w5⟩ := W.bat l R.s hT
  refine makeFunction_hit (mg := mg) (closureFor_of fun x hx => by rw [e2]; exact hcl x hx) f.glob w1 (by rw [e1, hcd]) w2 w3 htr hhit w5 fun ctv doc h' tk hx hge => ?_
  rw [clos_eq, e2]
  obtain ⟨tk1, R1⟩ := remade R hx (fo := fnMade name (qualnameIn env name name) args body scope (closL cells scope.names []) doc ((mg "__name__").getD .none) c' ctv) (fun _ _ e => by have e2 := congrArg Obj.data e; cases e2) rfl
  refine wpAny_bind (wpAny_standAt ?_)
  refine wpAny_bind (wpAny_bindName (wpA (store_name (P := fun l' σ₁ => ExsF Γ k sc cd ql cells rest l' σ₁ P) (.inl hk) (h _ ctv doc _ _ (qual_in f hk e3)) f R1 (.ref _)) fun l₂ σ₂ h₂ tk₂ q₂ R₂ p₂ => ?_))
  refine wpAny_pure ?_
  exact wp_no (p₂ A κ env _ hA l f e1 e3 e2 R₂) fun _ _ h => (h.trans (tk₁ := tk) q₂).trans tk1
theorem exsF_lam_hit {name : Str} {params : Arguments} {body : Expr} {scope : Scope} {np lpos pos : Pos} {c T c' : Addr} {ps : Array Value} (W : MkOk Γ mg mb c T) (hcd : cd = .ref c) (htr : TriplesOk ps.toList) (hhit : codeAmong lpos ps.toList = some (.ref c'))
    (hT : (T, .obj (tabObj ps)) ∈ σ) (hcl : ∀ x, (x, NameKind.free) ∈ scope.names → ∃ c, cells.lookup x = some c)
    (hdf : ∀ env, defaultsOf params env = ([], [])) (hk : sc.names.lookup name = some .local)
    (hs : ∀ env, Fits sc env → swapsWithSole [.Name name np] (.Lambda params body scope lpos) pos.line env = pure false) (hw : ∀ env, Fits sc env → swappedStores [.Name name np] (.Lambda params body scope lpos) env = pure none)
    (h : ∀ f ctv pm qual, ExsF Γ k sc cd ql cells rest (lset loc name (.ref f)) ((f, .obj (kla_obj "<lambda>" qual params body scope (closL cells scope.names []) pm c' ctv)) :: σ) P) :
    ExsF Γ k sc cd ql cells (.Assign [.Name name np] (.Lambda params body scope lpos) pos :: rest) loc σ P := fun A κ env s hA l f e1 e3 e2 R => by
  refine wpAny_execs_cons (wpAny_Assign_stores ?_ (hs env f) (hw env f))
  refine kla_eval (hdf env) ?_
  obtain ⟨w1, w2, w3, w4, w5⟩ := W.bat l R.s hT
  refine kla_makeFunctionHit (mg := mg) (closureFor_of fun x hx => by rw [e2]; exact hcl x hx) f.glob w1 (by rw [e1, hcd]) w2 w3 htr hhit w5 fun ctv h' tk hx hge => ?_
  rw [clos_eq, e2]
  obtain ⟨tk1, R1⟩ := remade R hx (fo := kla_obj "<lambda>" (env.qual ++ "<lambda>") params body scope (closL cells scope.names []) ((mg "__name__").getD .none) c' ctv) (fun _ _ e => by have e2 := congrArg Obj.data e; cases e2) rfl
  show wpAny _ _ (assign (.Name name np) env _) _ _ _
  refine wpAny_assign_Name (wpA (store_name (P := fun l' σ₁ => ExsF Γ k sc cd ql cells rest l' σ₁ P) (.inl hk) (h _ ctv _ _) f R1 (.ref _)) fun l₂ σ₂ h₂ tk₂ q₂ R₂ p₂ => ?_)
  exact wp_no (p₂ A κ env _ hA l f e1 e3 e2 R₂) fun _ _ h => (h.trans (tk₁ := tk) q₂).trans tk1

/-- two cells of a frame that ends, as objects of the store -/
theorem two_cells {κ : Kap} {env : Env} {h : Heap} {x y : Str} {cx cy : Addr} {vx vy : AV} (R : Rep κ env loc σ h) (hf : env.func.isSome = true) (kx : env.kindOf x = some .cell) (ky : env.kindOf y = some .cell) (hxy : x ≠ y) (ex : env.cells.lookup x = some cx) (ey : env.cells.lookup y = some cy) (lx : loc.lookup x = some vx) (ly : loc.lookup y = some vy) :
    RepS κ ((cx, .cell vx) :: (cy, .cell vy) :: σ) h := by
  obtain ⟨c, V, e, ⟨o, ho, hd⟩, hv⟩ := R.f.cell x kx
  rw [ex] at e; cases e
  obtain ⟨W, rfl, rx⟩ := hv vx lx
  obtain ⟨c, V', e, ⟨o', ho', hd'⟩, hv'⟩ := R.f.cell y ky
  rw [ey] at e; cases e
  obtain ⟨W', rfl, ry⟩ := hv' vy ly
  have nx := R.f.cnew x cx kx ex
  have ny := R.f.cnew y cy ky ey
  have hne : cx ≠ cy := fun q => hxy (R.f.apart x y cx kx ky ex (q ▸ ey))
  exact {
    prot := R.s.prot
    objs := fun p hp => by
      rcases List.mem_cons.mp hp with e | hp
      · subst e; exact ⟨o, ho, W, hd, rx⟩
      · rcases List.mem_cons.mp hp with e | hp
        · subst e; exact ⟨o', ho', W', hd', ry⟩
        · exact R.s.objs p hp
    nodup := by
      simp only [List.map_cons, List.nodup_cons, List.mem_cons, not_or]
      exact ⟨⟨hne, nx.1⟩, ny.1, R.s.nodup⟩
    new := fun p hp => by
      rcases List.mem_cons.mp hp with e | hp
      · subst e; exact nx.2.1 hf
      · rcases List.mem_cons.mp hp with e | hp
        · subst e; exact ny.2.1 hf
        · exact R.s.new p hp }
end
end Mine
namespace Mine
section
variable {Γ : Gd} {k : Nat} {sc : Scope} {loc : Loc} {σ : Sto} {mg mb : Str → Option Value}

/-- a def two of whose names inner functions keep -/
theorem fn_cells2 {f : Addr} {fd : FuncData} {body : List Stmt} {names : List Str} {xs : List AV} {P : AV → Sto → Prop} {x y : Str} (G : Γ.Ok mg mb) (O : FnOk Γ f fd body names)
    (hlen : xs.length = names.length) (hloc : ∀ x ∈ names, fd.scope.names.lookup x = some .local ∨ fd.scope.names.lookup x = some .cell) (kx : fd.scope.names.lookup x = some .cell) (ky : fd.scope.names.lookup y = some .cell) (hxy : x ≠ y)
    (h : ∀ n cx cy, (cellsFrom n fd.scope.names []).lookup x = some cx → (cellsFrom n fd.scope.names []).lookup y = some cy → ExsF Γ k fd.scope fd.code (fd.qualname ++ ".<locals>.") (cellsFrom n fd.scope.names []) body (names.zip xs) σ fun fl l σ' => ∃ vx vy, l.lookup x = some vx ∧ l.lookup y = some vy ∧ Drp ((cx, .cell vx) :: (cy, .cell vy) :: σ') (P (retv fl))) : CalC Γ (k + 1) (.ref f) xs σ P := fun A κ s Xs hA l R rs => by
  obtain ⟨o, ho, hd⟩ := O.obj
  have up := l.up R
  have hX : Xs.length = names.length := by rw [rs.length, hlen]
  have hcs : ∀ n x, fd.scope.names.lookup x = some .cell → ((cellsFrom n fd.scope.names []).lookup x).isSome = true := fun n x e => cellsFrom_some _ _ _ (.inl e)
  refine (codeAny_call_cells hA.room (up _ _ ho) hd (G.nolimit.keeps up) (O.code.keeps up) O.hb (O.bind Xs hX) O.clo (fun x hx => (hloc x.1 (List.of_mem_zip hx).1).imp id fun e => ⟨e, hcs _ _ e⟩) (fun s₁ I => ?_) O.co O.gen O.kind)
  have fit : Fits fd.scope (callEnvC fd s.heap.objs.size f) := ⟨rfl, O.kind, O.glob, O.blt, fun _ => rfl⟩
  obtain ⟨h₀, tk₀, e₀⟩ := I.toInCall.same
  subst e₀
  have hkeep := I.toInCall.keep
  have hnd : ((names.zip Xs).map (·.1)).Nodup := by rw [zip_keys names Xs hX]; exact O.nodup
  have R₀ : RepS κ σ h₀ := R.keep hkeep
  have fresh : ∀ a, s.heap.objs.size ≤ a → κ.p a = none ∧ a ∉ keys σ := fun a ha => by
    refine ⟨?_, fun hm => ?_⟩
    · cases e : κ.p a with
      | none => rfl
      | some o => exact absurd (Heap.lt_size (R.prot _ _ e)) (Nat.not_lt.mpr ha)
    · obtain ⟨o, e, _⟩ := R.live hm
      exact absurd (Heap.lt_size e) (Nat.not_lt.mpr ha)
  have F : FRel κ (callEnvC fd s.heap.objs.size f) (names.zip xs) σ h₀ := {
    ns := ⟨_, I.toInCall.ns, fun x v hx hk => by
      obtain ⟨_, V, a, b⟩ := zip_lookup rs hx
      refine ⟨V, ?_, b.mono (.of_keeps hkeep)⟩
      rw [bindL_local _ _ _ _ hnd hk, a]⟩
    cell := fun x hx => by
      have hx' := hx
      rw [fit.kindOf] at hx'
      obtain ⟨c, hc⟩ := Option.isSome_iff_exists.mp (hcs (s.heap.objs.size + 1) x hx')
      refine ⟨c, _, hc, I.cell x c hc, fun v hv => ?_⟩
      obtain ⟨_, V, a, b⟩ := zip_lookup rs hv
      refine ⟨V, ?_, b.mono (.of_keeps hkeep)⟩
      rw [bindC_other _ _ _ _ hnd (by rw [hx]; simp), a]
    free := fun x v hx hk => by
      obtain ⟨m, _⟩ := zip_lookup rs hx
      rw [fit.kindOf] at hk
      rcases hloc x m with e | e <;> rw [e] at hk <;> cases hk
    apart := fun x y c _ _ ha hb => name_of_addr I.apart (mem_of_lookup ha) (mem_of_lookup hb)
    Lnew := fresh _ (Nat.le_refl _)
    cnew := fun x c _ hc => let fr := fresh c (Nat.le_of_lt (I.above x c (mem_of_lookup hc))); ⟨fr.2, fun _ => fr.1, fun o e => by rw [fr.1] at e; cases e⟩ }
  obtain ⟨cx, hcx⟩ := Option.isSome_iff_exists.mp (hcs (s.heap.objs.size + 1) x kx)
  obtain ⟨cy, hcy⟩ := Option.isSome_iff_exists.mp (hcs (s.heap.objs.size + 1) y ky)
  refine wp_no (h _ cx cy hcx hcy _ κ _ _ (hA.deeper _) l fit rfl rfl rfl ⟨R₀, F⟩) fun fl s' pst0 => ?_
  obtain ⟨g, loc', σ', h', tk, e, q, R', r, vx, vy, lx, ly, σ'', hsub, p⟩ := pst0
  subst e
  have R2 := two_cells R' rfl (by rw [fit.kindOf]; exact kx) (by rw [fit.kindOf]; exact ky) hxy hcx hcy lx ly
  refine ⟨_, σ'', h', tk, rfl, R2.sub hsub, ?_, p⟩
  cases r with
  | next => exact .none
  | brk => exact .none
  | cont => exact .none
  | ret r => exact r

theorem calC_perm {F : Value} {xs : List AV} {σ' : Sto} {P : AV → Sto → Prop} (h : CalC Γ k F xs σ' P) (hs : σ'.Perm σ) : CalC Γ k F xs σ P := fun A κ s Xs hA l R rs => h A κ s Xs hA l (R.perm hs) rs

/-- what is asked of an inner function that keeps two cells -/
structure CloOk (o oc : Obj) (fd : FuncData) (body : List Stmt) (names : List Str) (x y : Str) (cx cy c' : Addr) : Prop where
  data : o.data = .func fd
  hb : fd.body = .stmts body
  code : fd.code = .ref c'
  crec : ∃ vs t, oc.data = .fields vs ∧ vs[1]? = some (.str fd.qualname t)
  bind : ∀ Xs : List Value, Xs.length = names.length → bindArgs fd ⟨Xs, []⟩ = pure (names.zip Xs)
  nodup : names.Nodup
  glob : fd.globals = mainGlobals
  blt : fd.builtins = builtinsNs
  co : fd.scope.isCoroutine = false
  gen : fd.scope.isGenerator = false
  kind : fd.scope.kind = .function
  clx : fd.closure.lookup x = some cx
  cly : fd.closure.lookup y = some cy

/-- two entries of the store protected -/
theorem RepS.lock2 {κ : Kap} {h : Heap} {cx cy : Addr} {vx vy : AV} (R : RepS κ ((cx, .cell vx) :: (cy, .cell vy) :: σ) h) :
    ∃ κ', κ'.av = κ.av ∧ (∀ b o, κ.p b = some o → κ'.p b = some o) ∧ (∀ b, κ'.p b = none → κ.p b = none) ∧ (∀ b, b ≠ cx → b ≠ cy → κ'.p b = κ.p b) ∧ (∃ o V, h.get? cx = some o ∧ κ'.p cx = some o ∧ o.data = .cell (some V) ∧ VRel κ.av h vx V) ∧ (∃ o V, h.get? cy = some o ∧ κ'.p cy = some o ∧ o.data = .cell (some V) ∧ VRel κ.av h vy V) ∧ RepS κ' σ h := by
  obtain ⟨ox, hox, Vx, dx, rx⟩ := R.objs _ (.head _)
  obtain ⟨oy, hoy, Vy, dy, ry⟩ := R.objs _ (.tail _ (.head _))
  have nx := R.new _ (.head _)
  have ny := R.new _ (.tail _ (.head _))
  have nd := R.nodup
  simp only [List.map_cons, List.nodup_cons, List.mem_cons, not_or] at nd
  dsimp only at hox hoy nx ny
  have hp : ∀ b o, κ.p b = some o → (if b = cx then some ox else if b = cy then some oy else κ.p b) = some o := fun b o e => by
    rw [if_neg (fun q => by rw [q, nx] at e; cases e), if_neg (fun q => by rw [q, ny] at e; cases e)]; exact e
  refine ⟨⟨fun b => if b = cx then some ox else if b = cy then some oy else κ.p b, κ.av, fun a ha => ?_⟩, rfl, hp, fun b e => ?_, fun b h1 h2 => ?_, ⟨ox, Vx, hox, if_pos rfl, dx, rx⟩, ⟨oy, Vy, hoy, ?_, dy, ry⟩, ?_⟩
  · intro q
    cases e : κ.p a with
    | none => exact absurd e (κ.ok a ha)
    | some o => rw [hp a o e] at q; cases q
  · cases e' : κ.p b with
    | none => rfl
    | some o => have := hp b o e'; dsimp only at e; rw [this] at e; cases e
  · dsimp only; rw [if_neg h1, if_neg h2]
  · dsimp only; rw [if_neg (fun q => nd.1.1 q.symm), if_pos rfl]
  · exact {
      prot := fun b o e => by
        dsimp only at e
        by_cases q : b = cx
        · rw [if_pos q] at e; cases e; rw [q]; exact hox
        · rw [if_neg q] at e
          by_cases q' : b = cy
          · rw [if_pos q'] at e; cases e; rw [q']; exact hoy
          · rw [if_neg q'] at e; exact R.prot b o e
      objs := fun p hp => R.objs p (.tail _ (.tail _ hp))
      nodup := nd.2.2
      new := fun p hp => by
        have m1 : p.1 ∈ List.map (fun x => x.fst) σ := List.mem_map_of_mem hp
        dsimp only
        rw [if_neg (fun q : p.1 = cx => nd.1.2 (by rw [q] at m1; exact m1)), if_neg (fun q : p.1 = cy => nd.2.1 (by rw [q] at m1; exact m1))]
        exact R.new p (.tail _ (.tail _ hp)) }

/-- an inner function called -/
theorem fn_clo {f c' cx cy : Addr} {o oc : Obj} {fd : FuncData} {body : List Stmt} {names : List Str} {x y : Str} {xs : List AV} {vx vy : AV} {P : AV → Sto → Prop} (G : Γ.Ok mg mb) (O : CloOk o oc fd body names x y cx cy c') (hf : (f, .obj o) ∈ σ) (hoc : (c', .obj oc) ∈ σ)
    (hlen : xs.length = names.length) (hloc : ∀ x ∈ names, fd.scope.names.lookup x = some .local) (hcell : ∀ x ∈ fd.scope.names, x.2 ≠ .cell) (kx : fd.scope.names.lookup x = some .free) (ky : fd.scope.names.lookup y = some .free)
    (h : Exs Γ k fd.scope body (names.zip xs ++ [(x, vx), (y, vy)]) σ fun fl _ σ' => Drp σ' fun σ'' => P (retv fl) ((cx, .cell vx) :: (cy, .cell vy) :: σ'')) : CalC Γ (k + 1) (.ref f) xs ((cx, .cell vx) :: (cy, .cell vy) :: σ) P := fun A κ s Xs hA l R rs => by
  obtain ⟨κ', av', up', dn', oth', ⟨ox, Vx, hox, px, dx, rx⟩, ⟨oy, Vy, hoy, py, dy, ry⟩, R'⟩ := R.lock2
  have l' : Γ.le κ' := fun b o e => up' b o (l b o e)
  have up := l'.up R'
  have hcd : s.heap.CodeRec fd.code fd.qualname := by
    obtain ⟨vs, t, a, b⟩ := O.crec
    exact ⟨c', oc, vs, t, O.code, R'.ob hoc, a, b⟩
  refine (codeAny_call_def hA.room (R'.ob hf) O.data (G.nolimit.keeps up) hcd O.hb (.of_eq (O.bind Xs (by rw [rs.length, hlen]))) hcell (fun x hx => hloc x.1 (List.of_mem_zip hx).1) (fun h₀ hns hkeep => ?_) O.co O.gen O.kind)
  have fit : Fits fd.scope (callEnv fd s.heap.objs.size f) := ⟨rfl, O.kind, O.glob, O.blt, fun _ => rfl⟩
  have R₀ : RepS κ' σ h₀ := R'.keep hkeep
  have Lκ : κ'.p s.heap.objs.size = none := by
    cases e : κ'.p s.heap.objs.size with
    | none => rfl
    | some o => exact absurd (R'.prot _ _ e) (by rw [size_new]; simp)
  have Lσ : s.heap.objs.size ∉ keys σ := fun hm => by
    obtain ⟨o, e, _⟩ := R'.live hm
    rw [size_new] at e; cases e
  have look : ∀ z v, (names.zip xs ++ [(x, vx), (y, vy)]).lookup z = some v → (names.zip xs).lookup z = some v ∨ (z = x ∧ v = vx) ∨ (z = y ∧ v = vy) := fun z v e => by
    rw [List.lookup_append] at e
    cases e1 : (names.zip xs).lookup z with
    | some w => rw [e1] at e; cases e; exact .inl rfl
    | none =>
      rw [e1] at e
      simp only [Option.none_or, List.lookup_cons, List.lookup_nil] at e
      by_cases q : z = x
      · subst q; rw [beq_self_eq_true] at e; cases e; exact .inr (.inl ⟨rfl, rfl⟩)
      · rw [beq_eq_false_iff_ne.mpr q] at e
        by_cases q' : z = y
        · subst q'; simp only [beq_self_eq_true] at e; cases e; exact .inr (.inr ⟨rfl, rfl⟩)
        · simp only [beq_eq_false_iff_ne.mpr q'] at e; cases e
  have F : FRel κ' (callEnv fd s.heap.objs.size f) (names.zip xs ++ [(x, vx), (y, vy)]) σ h₀ := {
    ns := ⟨_, hns, fun z v hz hk => by
      rw [fit.kindOf] at hk
      rcases look z v hz with hz | ⟨rfl, rfl⟩ | ⟨rfl, rfl⟩
      · obtain ⟨_, V, a, b⟩ := zip_lookup rs hz
        refine ⟨V, ?_, av' ▸ b.mono (.of_keeps hkeep)⟩
        rw [zip_rev_lookup _ _ O.nodup]; exact a
      · rw [kx] at hk; cases hk
      · rw [ky] at hk; cases hk⟩
    cell := fun x hx => by
      rw [fit.kindOf] at hx
      obtain ⟨p, hp, e⟩ : ∃ p ∈ fd.scope.names, p.2 = .cell := ⟨(x, .cell), mem_of_lookup hx, rfl⟩
      exact absurd e (hcell p hp)
    free := fun z v hz hk => by
      rcases look z v hz with hz | ⟨rfl, rfl⟩ | ⟨rfl, rfl⟩
      · obtain ⟨m, _⟩ := zip_lookup rs hz
        rw [fit.kindOf, hloc z m] at hk; cases hk
      · exact ⟨cx, ox, Vx, O.clx, px, dx, av' ▸ rx.mono (.of_keeps hkeep)⟩
      · exact ⟨cy, oy, Vy, O.cly, py, dy, av' ▸ ry.mono (.of_keeps hkeep)⟩
    apart := fun x y c hx => by
      rw [fit.kindOf] at hx
      exact absurd rfl (hcell (x, .cell) (mem_of_lookup hx))
    Lnew := ⟨Lκ, Lσ⟩
    cnew := fun x c hx => by
      rw [fit.kindOf] at hx
      exact absurd rfl (hcell (x, .cell) (mem_of_lookup hx)) }
  refine wp_no (h _ κ' _ { s with heap := h₀, toks := s.toks + (names.zip Xs).length } (hA.deeper _) l' fit ⟨R₀, F⟩) fun fl s' pst0 => ?_
  obtain ⟨g, loc', σ', h', tk, e, q, R1, r, σ'', hsub, p⟩ := pst0
  subst e
  have R2 := R1.s.sub hsub
  have tkA : TK κ.av s.heap h' := (TK.of_keeps hkeep).trans (av' ▸ q)
  have nd := R.nodup
  simp only [List.map_cons, List.nodup_cons, List.mem_cons, not_or] at nd
  have R3 : RepS κ ((cx, .cell vx) :: (cy, .cell vy) :: σ'') h' := {
    prot := fun b o e => R2.prot b o (up' b o e)
    objs := fun p hp => by
      rcases List.mem_cons.mp hp with e | hp
      · subst e; exact ⟨ox, R2.prot _ _ px, Vx, dx, rx.mono tkA⟩
      · rcases List.mem_cons.mp hp with e | hp
        · subst e; exact ⟨oy, R2.prot _ _ py, Vy, dy, ry.mono tkA⟩
        · obtain ⟨ob, e, r⟩ := R2.objs p hp
          exact ⟨ob, e, av' ▸ r⟩
    nodup := by
      simp only [List.map_cons, List.nodup_cons, List.mem_cons, not_or]
      refine ⟨⟨nd.1.1, fun hm => ?_⟩, fun hm => ?_, R2.nodup⟩
      · exact R2.not_key px hm
      · exact R2.not_key py hm
    new := fun p hp => by
      rcases List.mem_cons.mp hp with e | hp
      · subst e; exact R.new _ (.head _)
      · rcases List.mem_cons.mp hp with e | hp
        · subst e; exact R.new _ (.tail _ (.head _))
        · exact dn' _ (R2.new p hp) }
  refine ⟨_, _, h', tk, rfl, R3, ?_, p⟩
  cases r with
  | next => exact .none
  | brk => exact .none
  | cont => exact .none
  | ret r => exact av' ▸ r

theorem locB {sc : Scope} {names : List Str} (h : (names.all fun x => sc.names.lookup x == some .local) = true) : ∀ x ∈ names, sc.names.lookup x = some .local := fun x hx => by
  simpa using List.all_eq_true.mp h x hx
theorem locB2 {sc : Scope} {names : List Str} (h : (names.all fun x => sc.names.lookup x == some .local || sc.names.lookup x == some .cell) = true) : ∀ x ∈ names, sc.names.lookup x = some .local ∨ sc.names.lookup x = some .cell := fun x hx => by
  simpa using List.all_eq_true.mp h x hx
theorem cellB {sc : Scope} (h : (sc.names.all fun x => x.2 != .cell) = true) : ∀ x ∈ sc.names, x.2 ≠ .cell := fun x hx => by
  simpa using List.all_eq_true.mp h x hx
theorem fn_defB {f : Addr} {fd : FuncData} {body : List Stmt} {names : List Str} {xs : List AV} {P : AV → Sto → Prop} (G : Γ.Ok mg mb) (O : FnOk Γ f fd body names)
    (hlen : xs.length = names.length) (hloc : (names.all fun x => fd.scope.names.lookup x == some .local) = true) (hcell : (fd.scope.names.all fun x => x.2 != .cell) = true)
    (h : Exs Γ k fd.scope body (names.zip xs) σ fun fl _ σ' => Drp σ' (P (retv fl))) : CalC Γ (k + 1) (.ref f) xs σ P := fn_def G O hlen (locB hloc) (cellB hcell) h
theorem fn_cellsB {f : Addr} {fd : FuncData} {body : List Stmt} {names : List Str} {xs : List AV} {P : AV → Sto → Prop} (G : Γ.Ok mg mb) (O : FnOk Γ f fd body names)
    (hlen : xs.length = names.length) (hloc : (names.all fun x => fd.scope.names.lookup x == some .local || fd.scope.names.lookup x == some .cell) = true)
    (h : Exs Γ k fd.scope body (names.zip xs) σ fun fl _ σ' => Drp σ' (P (retv fl))) : CalC Γ (k + 1) (.ref f) xs σ P := fn_cells G O hlen (locB2 hloc) h
end
end Mine
namespace Mine
/-- locals known here are known there -/
noncomputable def Sub (l' l : Loc) : Prop := ∀ x v, l'.lookup x = some v → l.lookup x = some v
theorem sub_nil {l : Loc} : Sub [] l := fun _ _ e => by cases e
theorem sub_cons {x : Str} {v : AV} {r l : Loc} (h : l.lookup x = some v) (hr : Sub r l) : Sub ((x, v) :: r) l := fun y w e => by
  rw [List.lookup_cons] at e
  by_cases q : y = x
  · subst q; rw [beq_self_eq_true] at e; cases e; exact h
  · rw [beq_eq_false_iff_ne.mpr q] at e; exact hr y w e
theorem Sub.refl (l : Loc) : Sub l l := fun _ _ e => e

section
variable {Γ : Gd} {k : Nat} {sc : Scope} {loc loc' : Loc} {σ σ' : Sto} {target : Expr} {body : List Stmt} {P : AFl → Loc → Sto → Prop}
theorem Rep.less {κ : Kap} {env : Env} {h : Heap} (R : Rep κ env loc σ h) (hl : Sub loc' loc) (hs : σ'.Sublist σ) : Rep κ env loc' σ' h :=
  ⟨R.s.sub hs, (R.f.forget hl).sub fun _ ha => (hs.map _).subset ha⟩
theorem exs_sub {st : List Stmt} (h : Exs Γ k sc st loc' σ' P) (hl : Sub loc' loc) (hs : σ'.Sublist σ) : Exs Γ k sc st loc σ P := fun A κ env s hA l f R => h A κ env s hA l f (R.less hl hs)
theorem whl_sub {test : Expr} (h : Whl Γ k sc test body loc' σ' P) (hl : Sub loc' loc) (hs : σ'.Sublist σ) : Whl Γ k sc test body loc σ P := fun A κ env s hA l f R => h A κ env s hA l f (R.less hl hs)
theorem forC_sub {it : Addr} (h : ForC Γ k sc target body it loc' σ' P) (hl : Sub loc' loc) (hs : σ'.Sublist σ) : ForC Γ k sc target body it loc σ P := fun A κ env s hA l f R => h A κ env s hA l f (R.less hl hs)
theorem for_sub {src : Sto} {vs : List AV} (h : For Γ k sc target body src vs loc' σ' P) (hl : Sub loc' loc) (hs : σ'.Sublist σ) (hm : ∀ p ∈ src, p ∈ σ') : For Γ k sc target body src vs loc σ P := fun I e A κ env s i hA l f hn R _ hcv =>
  h I e A κ env s i hA l f hn (R.less hl hs) (fun p hp => hm p (e ▸ hp)) hcv
theorem cmp_sub {ifs : List Expr} {elt iter : Expr} {scope : Scope} {pos : Pos} {src : Sto} {D : Addr} {vs : List AV} {P : Sto → Prop} (h : Cmp Γ k sc target ifs elt iter scope pos src D vs loc' σ P) (hl : Sub loc' loc) : Cmp Γ k sc target ifs elt iter scope pos src D vs loc σ P := fun I e A κ env s i hA l f hn R hs hcv =>
  h I e A κ env s i hA l f hn (R.less hl (.refl _)) hs hcv
theorem exs_drop {st : List Stmt} (hs : σ'.Sublist σ) (h : Exs Γ k sc st loc σ' P) : Exs Γ k sc st loc σ P := exs_sub h (.refl _) hs

/-- a for, by its turns -/
theorem for_ind {ι α : Type} {src : Sto} (L : ι → Loc) (S : ι → Sto) (g : α → AV) (I : List α → ι → Prop) (hsrc : ∀ i, ∀ p ∈ src, p ∈ S i)
    (step : ∀ x xs i, I (x :: xs) i → Asg Γ k sc target (g x) (L i) (S i) fun l₁ σ₁ => Exs Γ k sc body l₁ σ₁ (Turn P fun l σ' => ∃ j, I xs j ∧ Sub (L j) l ∧ (S j).Sublist σ'))
    (done : ∀ i, I [] i → P .next (L i) (S i)) : ∀ xs i, I xs i → For Γ k sc target body src (xs.map g) (L i) (S i) P
  | [], i, h => for_nil (done i h)
  | x :: xs, i, h => by
    refine for_cons fun A κ env s V hA l f R r => wpA (step x xs i h A κ env s V hA l f R r) fun l₁ σ₁ h' tk q R' p => ⟨l₁, σ₁, h', tk, rfl, q, R', exs_mono p fun fl l₂ σ₂ t => ?_⟩
    have go : (∃ j, I xs j ∧ Sub (L j) l₂ ∧ (S j).Sublist σ₂) → (∀ p ∈ src, p ∈ σ₂) ∧ For Γ k sc target body src (xs.map g) l₂ σ₂ P := fun ⟨j, hj, hl, hs⟩ =>
      ⟨fun p hp => hs.subset (hsrc j p hp), for_sub (for_ind L S g I hsrc step done xs j hj) hl hs (hsrc j)⟩
    cases fl with
    | next => exact go t
    | cont => exact go t
    | brk => exact t
    | ret v => exact t
/-- a while, by its turns -/
theorem whl_ind {ι : Type} {test : Expr} (L : ι → Loc) (S : ι → Sto) (rank : ι → Nat)
    (step : ∀ i, Ts Γ k sc test (L i) (S i) fun b σ' => Both b (Exs Γ k sc body (L i) σ' (Turn P fun l σ'' => ∃ j, rank j < rank i ∧ Sub (L j) l ∧ (S j).Sublist σ'')) (P .next (L i) σ')) : ∀ i, Whl Γ k sc test body (L i) (S i) P := by
  have key : ∀ n i, rank i < n → Whl Γ k sc test body (L i) (S i) P := by
    intro n
    induction n with
    | zero => intro i h; exact absurd h (Nat.not_lt_zero _)
    | succ n ih =>
      intro i h
      refine whl (ts_mono (step i) fun b σ' ⟨t, e⟩ => ⟨fun hb => exs_mono (t hb) fun fl l₂ σ₂ t => ?_, e⟩)
      have go : (∃ j, rank j < rank i ∧ Sub (L j) l₂ ∧ (S j).Sublist σ₂) → Whl Γ k sc test body l₂ σ₂ P := fun ⟨j, hj, hl, hs⟩ => whl_sub (ih j (by omega)) hl hs
      cases fl with
      | next => exact go t
      | cont => exact go t
      | brk => exact t
      | ret v => exact t
  exact fun i => key _ i (Nat.lt_succ_self _)
/-- a for over a callable's iterator, by its turns -/
theorem forC_ind {ι : Type} {z : Str} {zp : Pos} {it : Addr} (L : ι → Loc) (S : ι → Sto) (rank : ι → Nat)
    (step : ∀ i, Nx Γ k it (S i) fun r σ₁ => match r with
      | none => P .next (L i) σ₁
      | some v => Asg Γ k sc (.Name z zp) v (L i) σ₁ fun l σ₂ => Exs Γ k sc body l σ₂ (Turn P fun l σ' => ∃ j, rank j < rank i ∧ Sub (L j) l ∧ (S j).Sublist σ')) : ∀ i, ForC Γ k sc (.Name z zp) body it (L i) (S i) P := by
  have key : ∀ n i, rank i < n → ForC Γ k sc (.Name z zp) body it (L i) (S i) P := by
    intro n
    induction n with
    | zero => intro i h; exact absurd h (Nat.not_lt_zero _)
    | succ n ih =>
      intro i h
      refine forC fun A κ s hA l R => wp_no (step i A κ s hA l R) fun r s' ⟨v, σ', h', tk, e, R', m, p⟩ => ⟨v, σ', h', tk, e, R', m, ?_⟩
      cases v with
      | none => exact p
      | some v =>
        refine fun A κ env s V hA l f R r => wpA (p A κ env s V hA l f R r) fun l₁ σ₁ h' tk q R' p => ⟨l₁, σ₁, h', tk, rfl, q, R', exs_mono p fun fl l₂ σ₂ t => ?_⟩
        have go : (∃ j, rank j < rank i ∧ Sub (L j) l₂ ∧ (S j).Sublist σ₂) → ForC Γ k sc (.Name z zp) body it l₂ σ₂ P := fun ⟨j, hj, hl, hs⟩ => forC_sub (ih j (by omega)) hl hs
        cases fl with
        | next => exact go t
        | cont => exact go t
        | brk => exact t
        | ret v => exact t
  exact fun i => key _ i (Nat.lt_succ_self _)
end
end Mine
namespace Mine
theorem forIn_steps {β : Type} (f : Nat → β → Sem (ForInStep β)) (S : Nat → β) (n : Nat) (h : ∀ x i, i < n → f x (S i) = pure (.yield (S (i + 1)))) : ∀ (l : List Nat) (i : Nat), i + l.length = n → forIn l (S i) f = pure (S n)
  | [], i, e => by rw [List.forIn_nil]; simp at e; subst e; rfl
  | x :: l, i, e => by
    rw [List.forIn_cons, h x i (by simp at e; omega)]
    show forIn l (S (i + 1)) f = _
    exact forIn_steps f S n h l (i + 1) (by simp at e ⊢; omega)
open Builtin in
theorem dec_ascii (id : String) (l : List UInt8) (ha : ∀ c ∈ l, c.toNat < 128) (hl : l.length ≤ 1000) :
    _codecs.runDecoder id _codecs.utf8Decoder none true l.toArray 0 [] = pure ((l.map (·.toNat)).toArray, l.length) := by
  unfold _codecs.runDecoder
  simp only [Std.Legacy.Range.forIn_eq_forIn_range']
  refine Eq.trans (congr (congrArg Bind.bind (forIn_steps _ (fun i => (i, ((l.take i).map (·.toNat)).toArray, ({} : _codecs.Faults))) l.length ?_ _ 0 (by simp [Std.Legacy.Range.size]))) rfl) ?_
  · intro x i hi
    have h1 : ¬ (((l.take i).map (·.toNat)).toArray.size > sizeLine) := by rw [sizeLine_eq]; simp; omega
    have h2 : ¬ (i ≥ l.toArray.size) := by simp; omega
    have h3 : _codecs.utf8Decoder.find true l.toArray i = .text [(l[i]).toNat] (i + 1) := by
      have e : (l.toArray.getD i 0) = l[i] := by simp [Array.getD, hi]
      have hc : (l[i]).toNat < 128 := ha _ (List.getElem_mem _)
      have u : Bytes.utf8At l.toArray i = (.char (l[i]).toNat, i + 1) := by
        unfold Bytes.utf8At
        simp only [e, hc, if_true]
      unfold _codecs.utf8Decoder
      simp only [u]
      rfl
    simp only [if_neg h1, if_neg h2, h3]
    congr 3
    have et : l.take (i + 1) = l.take i ++ [l[i]] := by rw [List.take_add_one]; simp [hi]
    have em : (l.map (·.toNat)).take (i + 1) = (l.map (·.toNat)).take i ++ [(l[i]).toNat] := by rw [List.take_add_one]; simp [hi]
    simp [em]
  · rw [pure_bind]
    simp
section
variable {Γ : Gd} {k : Nat} {sc : Scope} {loc : Loc} {σ : Sto}
theorem cal_decode {l : List UInt8} {P : AV → Sto → Prop} (hne : l ≠ []) (ha : ∀ c ∈ l, c.toNat < 128) (hl : l.length ≤ 1000) (h : P (.str (ofL (l.map (·.toNat)))) σ) : Cal Γ k (.builtin "bytes.decode") [.bytes l.toArray] σ P := fun _ κ s _ _ _ R r => by
  cases r with
  | cons a r =>
    cases a; cases r
    cases l with
    | nil => exact absurd rfl hne
    | cons c cs => exact PySem.W.KBd.decode (fun id => dec_ascii id _ ha hl) (by show (ofL _).length ≤ _; rw [ofL_length]; simp at hl ⊢; omega) fun t' tk => ⟨_, σ, s.heap, tk, rfl, R, .str _ _, h⟩
theorem tr_list {a : Addr} {xs : List AV} {P : Bool → Sto → Prop} (hm : (a, .list xs) ∈ σ) (hl : xs.length < 2 ^ 62) (h : P (!xs.isEmpty) σ) : Tr Γ k (.ref a) σ P := fun _ κ s _ _ _ R r => by
  cases r
  obtain ⟨vs, n, e, rs⟩ := R.list hm
  refine wpAny_truthy_list (items := vs.toArray) ⟨_, e, rfl, n, rfl⟩ (by rw [rs.size]; omega) ⟨σ, s.heap, _, rfl, R, ?_⟩
  have : vs.toArray.isEmpty = xs.isEmpty := by
    have := rs.length
    cases vs <;> cases xs <;> simp_all
  rw [this]; exact h
theorem ev_or2 {x y : Expr} {pos : Pos} {P : AV → Sto → Prop} (h : Ev Γ k sc x loc σ fun v σ₁ => Tr Γ k v σ₁ fun b σ₂ => Both b (P v σ₂) (Ev Γ k sc y loc σ₂ P)) : Ev Γ k sc (.BoolOp .Or [x, y] pos) loc σ P := fun A κ env s hA l f R => by
  refine wpAny_Or2 (wpE (h A κ env s hA l f R) fun V v σ₁ h₁ tk₁ q₁ R₁ r₁ p₁ => ?_)
  refine wpT (p₁.at hA l R₁ r₁) fun b σ₂ h₂ tk₂ q₂ R₂ p₂ => ?_
  cases b with
  | true => simp only [if_true]; exact ⟨v, σ₂, h₂, tk₂, rfl, q₁.trans q₂, R₂, r₁.mono q₂, p₂.1 rfl⟩
  | false => simp only [Bool.false_eq_true, if_false]; exact wp_no (p₂.2 rfl A κ env _ hA l f R₂) fun _ _ h => (h.trans (tk₁ := tk₁) q₂).trans q₁
/-- an item set -/
noncomputable def It1 (Γ : Gd) (k : Nat) (ov i v : AV) (σ : Sto) (P : Sto → Prop) : Prop :=
  ∀ A κ s O I V, AOk k A → Γ.le κ → RepS κ σ s.heap → VRel κ.av s.heap ov O → VRel κ.av s.heap i I → VRel κ.av s.heap v V → wpAny Γ.M A (setItem O I V) (fun _ s' => ∃ σ' h' tk, s' = { s with heap := h', toks := tk } ∧ RepS κ σ' h' ∧ P σ') No s
theorem it_list {a : Addr} {xs : List AV} {i : Int} {v : AV} {σ' : Sto} {P : Sto → Prop} (hat : At σ a (.list xs) (.list (xs.set i.toNat v)) σ') (h0 : 0 ≤ i) (h1 : i < xs.length) (hi : i < 2 ^ 63) (h : P σ') : It1 Γ k (.ref a) (.int i) v σ P := fun A κ s O I V hA l R ro ri rv => by
  cases ro; cases ri
  exact set_list hat h0 h1 hi h R rv
theorem asg_item {o i : Expr} {pos : Pos} {v : AV} {P : Loc → Sto → Prop} (h : Ev Γ k sc o loc σ fun ov σ₁ => Ev Γ k sc i loc σ₁ fun iv σ₂ => It1 Γ k ov iv v σ₂ (P loc)) : Asg Γ k sc (.Subscript o i pos) v loc σ P := fun A κ env s V hA l f R r => by
  rw [assign_Subscript]
  refine wpAny_bind (wpAny_holding (wpE (h A κ env s hA l f R) fun W w σ₁ h₁ tk₁ q₁ R₁ r₁ p₁ => ?_))
  refine wpAny_bind (wpAny_holding (wpE (p₁ A κ env _ hA l f R₁) fun W₂ w₂ σ₂ h₂ tk₂ q₂ R₂ r₂ p₂ => ?_))
  refine wpAny_bind (wpAny_standAt (wpAny_bind (wpAny_holding (wpU (p₂ A (mx R₂.s) _ W W₂ V hA (Gd.le_mx R₂.s l) R₂.s.mx (r₁.mono q₂) r₂ ((r.mono q₁).mono q₂)) fun σ₃ h₃ tk₃ R₃ p₃ => ?_))))
  obtain ⟨q₃, R₃'⟩ := frame_step R₂ R₃
  exact wpAny_release ⟨loc, σ₃, h₃, tk₃, rfl, (q₁.trans q₂).trans q₃, R₃', p₃⟩

theorem strs_of {av : Avd} {h : Heap} : ∀ {ts : List Str} {vs : List Value}, VRels av h (ts.map .str) vs → ∃ l : List (Str × Tok), l.map (·.1) = ts ∧ vs = strValues l
  | [], _, .nil => ⟨[], rfl, rfl⟩
  | t :: ts, _, .cons r rs => by
    cases r
    rename_i u
    obtain ⟨l, e1, e2⟩ := strs_of rs
    exact ⟨(t, u) :: l, by simp [e1], by rw [e2]; rfl⟩
theorem cal_join {sep : Str} {a : Addr} {ts : List Str} {P : AV → Sto → Prop} (hm : (a, .list (ts.map .str)) ∈ σ) (hl : (ts.map (·.length)).sum + ts.length * sep.length ≤ 16777216) (h : P (.str (Builtin.Str.glued sep ts)) σ) : Cal Γ k (.builtin "str.join") [.str sep, .ref a] σ P := fun _ κ s _ _ _ R r => by
  cases r with
  | cons x r =>
    cases x
    cases r with
    | cons y r =>
      cases y; cases r
      obtain ⟨vs, n, e, rs⟩ := R.list hm
      obtain ⟨l, e1, rfl⟩ := strs_of rs
      have hok : JoinOk sep ts = true := by
        unfold JoinOk
        rw [StrLaws.joinTotal]
        unfold Builtin.Str.tooLong
        rw [sizeLine_eq]; simp; omega
      exact SC.join (l := l) ⟨_, e, rfl, n, rfl⟩ e1 hok fun t' tk => ⟨_, σ, s.heap, tk, rfl, R, .str _ _, h⟩
theorem glued_ofL : ∀ (ls : List (List Nat)), Builtin.Str.glued (ofL []) (ls.map ofL) = ofL ls.flatten
  | [] => rfl
  | l :: ls => by
    have key : ∀ (ls : List (List Nat)) (acc : List Nat), (ls.map ofL).foldl (fun acc p => acc ++ (ofL []).cps ++ p.cps) acc.toArray = (acc ++ ls.flatten).toArray := by
      intro ls
      induction ls with
      | nil => intro acc; simp
      | cons l ls ih =>
        intro acc
        simp only [List.map_cons, List.foldl_cons, List.flatten_cons]
        have : acc.toArray ++ (ofL []).cps ++ (ofL l).cps = (acc ++ l).toArray := by simp [ofL]
        rw [this, ih]; simp
    show (⟨(ls.map ofL).foldl (fun acc p => acc ++ (ofL []).cps ++ p.cps) l.toArray⟩ : Str) = _
    rw [key]; rfl
end
end Mine
namespace Mine
/-- what the head leaves -/
structure Wd (Γ : Gd) (K : Frag) (mg mb : Str → Option Value) : Prop where
  X : K.In Γ.hB
  ok : Γ.Ok mg mb
  boot : ∀ x : Str, x ≠ "__name__" → mb x = bootBuiltins x

section
variable {Γ : Gd} {k : Nat} {sc : Scope} {loc : Loc} {σ : Sto} {K : Frag} {mg mb : Str → Option Value}
theorem mg_none {h : Heap} {n : Str} (X : K.In h) (G : h.Ns mainGlobals mg) (e : nsIn K mainGlobals n = some none) : mg n = none := by
  obtain ⟨o, es, ep, ho, hd, _, hf⟩ := G
  unfold nsIn at e
  split at e
  · rename_i c d es' n' sl q
    have e1 := X _ _ q
    rw [ho] at e1; cases e1; cases hd
    split at e
    · cases e
    · rename_i q2
      rw [← hf]
      unfold nsFind findBy
      rw [← Array.find?_toList, q2]; rfl
  · cases e
/-- f(args), f a def or a class of the program -/
theorem ev_callG {x : Str} {p pos : Pos} {es : List Expr} {P : AV → Sto → Prop} (W : Wd Γ K mg mb) (f : Addr) (hs : es.all noStar = true) (hk : sc.names.lookup x = some .globalImplicit) (hg : nsIn K mainGlobals x = some (some (.ref f))) (hkp : keepIn K (.ref f) = true) (hd : (x == ("__debug__" : Str)) = false)
    (h : Evs Γ k sc es loc σ fun vs σ₂ => Cal Γ k (.ref f) vs σ₂ P) : Ev Γ k sc (.Call (.Name x p) es [] pos) loc σ P :=
  ev_call hs (ev_global W.ok hk (mg_of W.X W.ok.g hg) ⟨_, rfl, fun A κ env s pos hA l fi R => wpL (h A κ env s pos hA l fi R) fun Vs vs σ' h' tk b c d e => ⟨vs, σ', h', tk, rfl, b, c, d, fun κ' h₂ l' R' => keeps_K hkp h₂ (W.X.keeps (l'.up R')), e⟩⟩ hd)
/-- f(args), f a builtin -/
theorem ev_callB {x : Str} {p pos : Pos} {es : List Expr} {P : AV → Sto → Prop} (W : Wd Γ K mg mb) (id : String) (hs : es.all noStar = true) (hk : sc.names.lookup x = some .globalImplicit) (hg : nsIn K mainGlobals x = some none) (hx : x ≠ "__name__") (hb : bootBuiltins x = some (.builtin id)) (hd : (x == ("__debug__" : Str)) = false)
    (h : Evs Γ k sc es loc σ fun vs σ₂ => Cal Γ k (.builtin id) vs σ₂ P) : Ev Γ k sc (.Call (.Name x p) es [] pos) loc σ P :=
  ev_call hs (ev_builtin W.ok hk (mg_none W.X W.ok.g hg) (by rw [W.boot x hx]; exact hb) ⟨_, rfl, fun A κ env s pos hA l fi R => wpL (h A κ env s pos hA l fi R) fun Vs vs σ' h' tk b c d e => ⟨vs, σ', h', tk, rfl, b, c, d, kpr_builtin, e⟩⟩ hd)
theorem ev_callT {x : Str} {p pos : Pos} {es : List Expr} {P : AV → Sto → Prop} (W : Wd Γ K mg mb) (id : String) (hs : es.all noStar = true) (hk : sc.names.lookup x = some .globalImplicit) (hg : nsIn K mainGlobals x = some none) (hx : x ≠ "__name__") (hb : bootBuiltins x = some (.type id)) (hd : (x == ("__debug__" : Str)) = false)
    (h : Evs Γ k sc es loc σ fun vs σ₂ => Cal Γ k (.type id) vs σ₂ P) : Ev Γ k sc (.Call (.Name x p) es [] pos) loc σ P :=
  ev_call hs (ev_builtin W.ok hk (mg_none W.X W.ok.g hg) (by rw [W.boot x hx]; exact hb) ⟨_, rfl, fun A κ env s pos hA l fi R => wpL (h A κ env s pos hA l fi R) fun Vs vs σ' h' tk b c d e => ⟨vs, σ', h', tk, rfl, b, c, d, kpr_type, e⟩⟩ hd)
theorem evO_none {P : Option Int → Sto → Prop} (h : P none σ) : EvO Γ k sc none loc σ P := h
theorem evO_some {e : Expr} {P : Option Int → Sto → Prop} (h : Ev Γ k sc e loc σ fun v σ' => ∃ i, v = .int i ∧ P (some i) σ') : EvO Γ k sc (some e) loc σ P := h
theorem cal_calC {F : Value} {xs : List AV} {P : AV → Sto → Prop} (h : CalC Γ k F xs σ P) : Cal Γ k F xs σ P := cal_of h
end
end Mine
namespace Mine
section
variable {Γ : Gd} {k : Nat} {sc : Scope} {loc : Loc} {σ : Sto} {target : Expr}
/-- a list comprehension, its side conditions told by Bool -/
theorem ev_listcompB {elt iter : Expr} {ifs : List Expr} {scope : Scope} {pos : Pos} {P : AV → Sto → Prop}
    (hcell : (scope.names.all fun x => x.2 != .cell) = true) (hkind : scope.kind = .function) (hnames : (scope.names.all fun x => x.2 != .local || scope.names.lookup x.1 == some .local) = true)
    (hfr : (scope.names.all fun x => x.2 != .free || sc.names.lookup x.1 == some .cell) = true) (h0 : ((relS scope sc).names.lookup (Str.ofString ".0")).isSome = true)
    (h : Ev Γ k sc iter loc σ fun v σ₁ => ∃ src vs, Mk Γ k target v σ₁ src vs ∧ (∀ p ∈ src, p ∈ σ₁) ∧ ∀ D, Cmp Γ k (relS scope sc) target ifs elt iter scope pos src D vs (cloc (relS scope sc) loc) ((D, .list []) :: σ₁) fun σ₂ => P (.ref D) σ₂)
    (hs : ∀ env x, foldedSetIterable iter env x = pure x) : Ev Γ k sc (.ListComp elt [⟨target, iter, ifs, 0⟩] scope pos) loc σ P :=
  ev_listcomp (cellB hcell) hkind (fun x hx e => by have := List.all_eq_true.mp hnames x hx; simpa [e] using this) (fun x hx e => by have := List.all_eq_true.mp hfr x hx; simpa [e] using this) (fun e => by rw [e] at h0; cases h0) h hs
/-- a comprehension without tests, by its turns -/
theorem cmp_ind {ι α : Type} {elt iter : Expr} {scope : Scope} {pos : Pos} {src : Sto} {D : Addr} {P : Sto → Prop} (L : Loc) (S : ι → Sto) (g : α → AV) (I : List α → ι → Prop) (hsrc : ∀ i, ∀ p ∈ src, p ∈ S i)
    (step : ∀ x xs i, I (x :: xs) i → Asg Γ k sc target (g x) L (S i) fun l₁ σ₁ => Ev Γ k sc elt l₁ σ₁ fun y σ₃ => ∃ ys σ₄, At σ₃ D (.list ys) (.list (ys ++ [y])) σ₄ ∧ ys.length ≤ sizeLine ∧ ∃ j, I xs j ∧ Sub L l₁ ∧ σ₄ = S j)
    (done : ∀ i, I [] i → P (S i)) : ∀ xs i, I xs i → Cmp Γ k sc target [] elt iter scope pos src D (xs.map g) L (S i) P
  | [], i, h => cmp_nil (done i h)
  | x :: xs, i, h => by
    refine cmp_cons fun A κ env s V hA l f R r => wpA (step x xs i h A κ env s V hA l f R r) fun l₁ σ₁ h' tk q R' p => ⟨l₁, σ₁, h', tk, rfl, q, R', ?_⟩
    show Both true _ _
    refine ⟨fun _ => ev_mono p fun y σ₃ ⟨ys, σ₄, at', hl, j, hj, hsub, e⟩ => ⟨ys, σ₄, at', hl, e ▸ hsrc j, ?_⟩, fun h => by cases h⟩
    subst e
    exact cmp_sub (cmp_ind L S g I hsrc step done xs j hj) hsub
end
end Mine
namespace Mine
section
variable {Γ : Gd} {k : Nat} {sc : Scope} {loc : Loc} {σ : Sto}

/-! a list unpacked -/
theorem draw_list {prog : Program} {w : World} {A : Around} {E : Value → Shared → Prop} {it t : Addr} {items : Array Value} (hne : t ≠ it) : ∀ (n i : Nat) (s : Shared) (Q : List Value → Shared → Prop), s.heap.IsListIter it t i → s.heap.IsList t items → i + n ≤ items.size →
    (∀ h', h'.IsListIter it t (i + n) → Heap.SameBut it s.heap h' → Q ((items.toList.drop i).take n) { s with heap := h' }) → wpAny (model prog w) A (draw (.ref it) n) Q E s
  | 0, i, s, Q, hit, _, _, hQ => wpAny_pure (by simpa using hQ s.heap hit (Heap.SameBut.refl ..))
  | n + 1, i, s, Q, hit, ht, hle, hQ => by
    have hlt : i < items.size := by omega
    show wpAny _ _ (pyNext (.ref it) >>= _) Q E s
    refine wpAny_bind (wpAny_pyNext_list_item hit ht (x := items[i]) (by simp [hlt]) fun h₁ hit₁ hs₁ => ?_)
    refine wpAny_bind (wpAny_holding (draw_list hne n (i + 1) _ _ hit₁ (ht.extBut hs₁.extBut hne) (by omega) fun h₂ hit₂ hs₂ => wpAny_pure ?_))
    have hd : items.toList.drop i = items[i] :: items.toList.drop (i + 1) := by simp [List.drop_eq_getElem_cons, hlt]
    have := hQ h₂ (by rw [show i + (n + 1) = i + 1 + n by omega]; exact hit₂) (hs₁.trans hs₂)
    rw [hd, List.take_succ_cons] at this
    exact this
theorem unpack_list {prog : Program} {w : World} {A : Around} {E : Value → Shared → Prop} {s : Shared} {t : Addr} {items : Array Value} {Q : List Value → Shared → Prop} (hh : A.handled = none) (ht : s.heap.IsList t items)
    (hQ : ∀ h', Heap.ExtBut s.heap.objs.size s.heap h' → Q items.toList { s with heap := h' }) : wpAny (model prog w) A (unpackItems (.ref t) items.size none) Q E s := by
  have hlt : t ≠ s.heap.objs.size := by obtain ⟨o, ho, _⟩ := ht; exact Nat.ne_of_lt (Heap.lt_size ho)
  unfold unpackItems
  refine wpAny_bind ?_
  unfold notIterableAtAll
  refine wpAny_bind (wpAny_specialOf ht.typeIs F.slot_list_iter.lookup ?_)
  refine wpAny_pure ?_
  simp only [Bool.false_eq_true, if_false]
  refine wpAny_bind (wpAny_holding (wpAny_pyIter_list ht ?_))
  refine wpAny_bind (wpAny_holding (draw_list hlt items.size 0 _ _ ⟨_, Heap.get?_push_size _ rfl, rfl, rfl⟩ (ht.push _) (by omega) fun h₁ hit₁ hs₁ => ?_))
  have hall : List.take items.size (List.drop 0 items.toList) = items.toList := by
    rw [List.drop_zero]; exact List.take_of_length_le (by simp)
  rw [hall]
  rw [if_neg (by simp)]
  have ht₁ : h₁.IsList t items := (ht.push _).extBut hs₁.extBut hlt
  refine wpAny_bind (wpAny_holding (wpAny_pyNext_list_end hh hit₁ ht₁ (by simp) fun h₂ he₂ => ?_))
  simp only [Option.isSome_none, Bool.false_eq_true, if_false]
  refine wpAny_pure (hQ h₂ fun b o hb e => he₂ b o hb (hs₁.extBut b o hb (Heap.get?_push_of_some _ e)))
theorem asg_tupleL {elts : List Expr} {n : Nat} {pos : Pos} {a : Addr} {xs : List AV} {P : Loc → Sto → Prop} (hm : (a, .list xs) ∈ σ) (h : AsgL Γ k sc elts xs loc σ P) (hl : elts.length = xs.length) (hst : ∀ env, (assignEach elts env).findIdx? (·.1) = none) :
    Asg Γ k sc (.Tuple elts n pos) (.ref a) loc σ P := fun A κ env s V hA l f R r => by
  cases r
  obtain ⟨vs, m, e, rs⟩ := R.s.list hm
  rw [arm_assign_Tuple]
  unfold unpack
  rw [length_assignEach, hl, ← rs.size, hst]
  refine wpAny_bind (wpAny_standAt (wpAny_bind (wpAny_holding (unpack_list (items := vs.toArray) hA.1 ⟨_, e, rfl, m, rfl⟩ fun h' he => ?_))))
  obtain ⟨q, R'⟩ := R.grow (ext_new he)
  exact wp_no (h A κ env _ _ hA l f R' (rs.mono q)) fun _ s'' ⟨l₂, σ₂, h₂, tk₂, e₂, q₂, R₂, p₂⟩ => ⟨l₂, σ₂, h₂, tk₂, e₂, q.trans q₂, R₂, p₂⟩

/-! equality of deep data -/
mutual
inductive AvD (σ : Sto) : AV → PyData → Prop
  | none : AvD σ .none .none
  | bool (b : Bool) : AvD σ (.bool b) (.bool b)
  | int (i : Int) : AvD σ (.int i) (.int i)
  | str (x : Str) : AvD σ (.str x) (.str x)
  | tup {xs : List AV} {ds : List PyData} : AvDs σ xs ds → AvD σ (.tup xs) (.tuple ds)
  | list {a : Addr} {xs : List AV} {ds : List PyData} : (a, AO.list xs) ∈ σ → AvDs σ xs ds → AvD σ (.ref a) (.list ds)
inductive AvDs (σ : Sto) : List AV → List PyData → Prop
  | nil : AvDs σ [] []
  | cons {x : AV} {d : PyData} {xs : List AV} {ds : List PyData} : AvD σ x d → AvDs σ xs ds → AvDs σ (x :: xs) (d :: ds)
end
mutual
theorem AvD.reads {κ : Kap} {h : Heap} (R : RepS κ σ h) : ∀ {x : AV} {d : PyData} {V : Value}, AvD σ x d → VRel κ.av h x V → ∃ as, Reads h V d as
  | _, _, _, .none, r => by cases r; exact ⟨_, .none⟩
  | _, _, _, .bool b, r => by cases r; exact ⟨_, .bool _⟩
  | _, _, _, .int i, r => by cases r; exact ⟨_, .int _ _⟩
  | _, _, _, .str x, r => by cases r; exact ⟨_, .str _ _⟩
  | _, _, _, .tup ds, r => by
    cases r with
    | tup na t rs =>
      obtain ⟨n, e⟩ := t
      obtain ⟨as, q⟩ := AvDs.reads R ds rs
      exact ⟨_, .tuple e rfl rfl (by simpa using q)⟩
  | _, _, _, .list hm ds, r => by
    cases r
    obtain ⟨vs, n, e, rs⟩ := R.list hm
    obtain ⟨as, q⟩ := AvDs.reads R ds rs
    exact ⟨_, .list e rfl rfl (by simpa using q)⟩
theorem AvDs.reads {κ : Kap} {h : Heap} (R : RepS κ σ h) : ∀ {xs : List AV} {ds : List PyData} {Vs : List Value}, AvDs σ xs ds → VRels κ.av h xs Vs → ∃ as, ReadsAll h Vs ds as
  | _, _, _, .nil, r => by cases r; exact ⟨_, .nil⟩
  | _, _, _, .cons d ds, r => by
    cases r with
    | cons r rs =>
      obtain ⟨as, q⟩ := d.reads R r
      obtain ⟨bs, p⟩ := ds.reads R rs
      exact ⟨_, .cons q p⟩
end
theorem AOk.deep {A : Around} (hA : AOk k A) {n : Nat} (h : n ≤ 40) : A.units + n < cLine := by have := hA.2.2; omega
theorem op_eq_deep {x y : AV} {d e : PyData} {P : AV → Sto → Prop} (hx : AvD σ x d) (hy : AvD σ y e) (c1 : PyData.canLay0 d = true) (c2 : PyData.canLay0 e = true) (dp : d.depth ≤ 40) (p : P (.bool (PyData.eqv d e)) σ) : Op2 Γ k (compareOp .Eq) x y σ P := fun A κ s X Y hA l R rx ry => by
  obtain ⟨as, q1⟩ := hx.reads R rx
  obtain ⟨bs, q2⟩ := hy.reads R ry
  exact PySem.SeqAt.eqOverData Γ.prog Γ.w A No s X Y d e as bs _ q1 q2 c1 c2 (hA.deep (by omega)) ⟨_, σ, s.heap, s.toks, rfl, R, .bool _, p⟩
theorem op_ne_deep {x y : AV} {d e : PyData} {P : AV → Sto → Prop} (hx : AvD σ x d) (hy : AvD σ y e) (c1 : PyData.canLay0 d = true) (c2 : PyData.canLay0 e = true) (dp : d.depth ≤ 40) (p : P (.bool (!PyData.eqv d e)) σ) : Op2 Γ k (compareOp .NotEq) x y σ P := fun A κ s X Y hA l R rx ry => by
  obtain ⟨as, q1⟩ := hx.reads R rx
  obtain ⟨bs, q2⟩ := hy.reads R ry
  exact PySem.SeqAt.neOverData Γ.prog Γ.w A No s X Y d e as bs _ q1 q2 c1 c2 (hA.deep (by omega)) ⟨_, σ, s.heap, s.toks, rfl, R, .bool _, p⟩
end
end Mine
namespace Mine
section
variable {Γ : Gd} {k : Nat} {sc : Scope} {loc : Loc} {σ : Sto}
/-- a call's arguments, whatever comes behind -/
theorem call_argsQ {F : Value} {es : List Expr} {P : List AV → Sto → Prop} {Q : Value → Shared → Prop} (hs : es.all noStar = true)
    (h : Evs Γ k sc es loc σ P) {A : Around} {κ : Kap} {env : Env} {s : Shared} (pos : Pos) (hA : AOk k A) (l : Γ.le κ) (f : Fits sc env) (R : Rep κ env loc σ s.heap)
    (q : ∀ Vs vs σ' h' tk, TK κ.av s.heap h' → Rep κ env loc σ' h' → VRels κ.av h' vs Vs → P vs σ' → Kpr Γ σ' F ∧ wpAny Γ.M A (call F Vs) Q No { s with heap := h', toks := tk }) :
    wpAny Γ.M A (callWith pos F [] (backTo pos (starEach es env)) []) Q No s := by
  refine callWith_of (P := fun h => ∃ kp, (kp = Keeper.frame ∨ kp = Keeper.machine ∨ kp = Keeper.boundFrame) ∧ Looks Γ.M h (keeperOf F) kp) ?_ (fun _ x => x) ?_
  · rw [starEach_eq hs, backTo_plain]
    simp
  · have fin : ∀ Vs s₁, PstL κ env loc s P Vs s₁ → (fun (a : Args) (s₁ : Shared) => (∃ kp, (kp = Keeper.frame ∨ kp = Keeper.machine ∨ kp = Keeper.boundFrame) ∧ Looks Γ.M s₁.heap (keeperOf F) kp) ∧ wpAny Γ.M A (call F ([] ++ a.pos) a.kw) Q No s₁) ⟨Vs, []⟩ s₁ := by
      intro Vs s₁ ⟨vs, σ₁, h₁, tk₁, e₁, q₁, R₁, r, p⟩
      subst e₁
      obtain ⟨kp, w⟩ := q Vs vs σ₁ h₁ tk₁ q₁ R₁ r p
      exact ⟨kp κ h₁ l R₁.s, w⟩
    have w := h A κ env s pos hA l f R
    cases es with
    | nil => exact fun Θ p hΘ => evalArgs_nil3 (fin [] s (w Θ p hΘ)) Θ p hΘ
    | cons e es =>
      have he : starEach (e :: es) env = (false, eval e env) :: starEach es env := by
        rw [starEach_eq hs, List.map_cons]
        simp only [List.all_cons, Bool.and_eq_true] at hs
        rw [starEach_eq hs.2]
      rw [he] at w ⊢
      exact evalArgs_plain (wp_no w fin)

/-- two lists side by side -/
noncomputable def zipT (xs ys : List AV) : List AV := List.zipWith (fun a b => .tup [a, b]) xs ys
theorem zipT_drop {xs ys : List AV} {i : Nat} {v : AV} {vs : List AV} (e : v :: vs = (zipT xs ys).drop i) : ∃ a b, xs[i]? = some a ∧ ys[i]? = some b ∧ v = .tup [a, b] ∧ vs = (zipT xs ys).drop (i + 1) := by
  have h0 : (zipT xs ys)[i]? = some v := by
    have := congrArg (fun l => l[0]?) e
    simpa using this.symm
  have h1 : vs = (zipT xs ys).drop (i + 1) := by
    have := congrArg List.tail e
    simpa using this
  unfold zipT at h0
  rw [List.getElem?_zipWith] at h0
  cases ex : xs[i]? with
  | none => rw [ex] at h0; simp at h0
  | some a =>
    cases ey : ys[i]? with
    | none => rw [ex, ey] at h0; simp at h0
    | some b => rw [ex, ey] at h0; simp at h0; exact ⟨a, b, rfl, rfl, h0.symm, h1⟩
theorem zipT_end {xs ys : List AV} {i : Nat} (e : [] = (zipT xs ys).drop i) : xs.length ≤ i ∨ ys.length ≤ i := by
  have h : (zipT xs ys).length ≤ i := by simpa using e.symm
  unfold zipT at h
  rw [List.length_zipWith] at h
  omega
theorem getA {av : Avd} {h : Heap} {xs : List AV} {vs : List Value} (r : VRels av h xs vs) {i : Nat} {x : AV} (e : xs[i]? = some x) : ∃ v, vs.toArray[i]? = some v ∧ VRel av h x v := by
  obtain ⟨v, a, b⟩ := r.get e
  exact ⟨v, by simpa using a, b⟩

noncomputable def ZSt (z TI TO i1 i2 l1 l2 : Addr) (f0 : Value) (i : Nat) (h : Heap) : Prop :=
  IsZip h z TI TO f0 ∧ IsPair h TI (.ref i1) (.ref i2) ∧ (∃ a b, IsPair h TO a b) ∧ h.IsListIter i1 l1 i ∧ h.IsListIter i2 l2 i
theorem ZSt.keep {z TI TO i1 i2 l1 l2 : Addr} {f0 : Value} {i : Nat} {h h' : Heap} (S : ZSt z TI TO i1 i2 l1 l2 f0 i h) (hk : ∀ a ∈ [z, TI, TO, i1, i2], ∀ o, h.get? a = some o → h'.get? a = some o) : ZSt z TI TO i1 i2 l1 l2 f0 i h' := by
  obtain ⟨a, b, ⟨x, y, c⟩, d, e⟩ := S
  exact ⟨hk _ (by simp) _ a, hk _ (by simp) _ b, ⟨x, y, hk _ (by simp) _ c⟩, d.at fun o q => hk _ (by simp) o q, e.at fun o q => hk _ (by simp) o q⟩
theorem ZSt.obj {z TI TO i1 i2 l1 l2 : Addr} {f0 : Value} {i : Nat} {h : Heap} (S : ZSt z TI TO i1 i2 l1 l2 f0 i h) : ∀ a ∈ [z, TI, TO, i1, i2], ∃ o, h.get? a = some o ∧ (a ∉ [TI, TO] → o.cls ≠ .type "tuple") ∧ ∀ V, o.data ≠ .cell V := by
  obtain ⟨a, b, ⟨x, y, c⟩, ⟨o1, d1, d2, d3⟩, ⟨o2, e1, e2, e3⟩⟩ := S
  intro q hq
  simp only [List.mem_cons, List.not_mem_nil, or_false] at hq
  rcases hq with rfl | rfl | rfl | rfl | rfl
  · exact ⟨_, a, fun _ => by show Value.type "zip" ≠ Value.type "tuple"; decide, fun V e => by cases e⟩
  · exact ⟨_, b, fun hn => absurd (by simp) hn, fun V e => by cases e⟩
  · exact ⟨_, c, fun hn => absurd (by simp) hn, fun V e => by cases e⟩
  · exact ⟨_, d1, fun _ => by rw [d2]; decide, fun V e => by rw [d3] at e; cases e⟩
  · exact ⟨_, e1, fun _ => by rw [e2]; decide, fun V e => by rw [e3] at e; cases e⟩
noncomputable def itrZip {elts : List Expr} {n : Nat} {pos : Pos} {z TI TO i1 i2 l1 l2 : Addr} (D : ZipApart z TI TO i1 i2 l1 l2) (xs ys : List AV) : Itr Γ k (.Tuple elts n pos) where
  IT := .ref z
  pv := [z, TI, TO, i1, i2]
  avs := [TI, TO]
  src := [(l1, .list xs), (l2, .list ys)]
  cv := []
  Inv vs h := ∃ i, ZSt z TI TO i1 i2 l1 l2 .none i h ∧ vs = (zipT xs ys).drop i
  sub a ha := by simp at ha ⊢; rcases ha with rfl | rfl <;> simp
  live vs h := fun ⟨i, S, _⟩ => S.obj
  frame vs h h' := fun ⟨i, S, e⟩ hk => ⟨i, S.keep hk, e⟩
  self A vs s Q := fun ⟨i, S, _⟩ q => wpAny_pyIter_zip S.1 q
  next A κ σ s v vs Q hA le R hp ha hs _ i hQ := by
    obtain ⟨i, S, e⟩ := i
    obtain ⟨a, b, ea, eb, rfl, et⟩ := zipT_drop e
    obtain ⟨xv, n1, el1, r1⟩ := R.list (hs (l1, .list xs) (by simp))
    obtain ⟨yv, n2, el2, r2⟩ := R.list (hs (l2, .list ys) (by simp))
    obtain ⟨X, hX, rX⟩ := getA r1 ea
    obtain ⟨Y, hY, rY⟩ := getA r2 eb
    obtain ⟨S1, S2, ⟨p, q, S3⟩, S4, S5⟩ := id S
    refine wpAny_pyNext_zip_item D S1 S2 S3 S4 S5 (xs := xv.toArray) (ys := yv.toArray) ⟨_, el1, rfl, n1, rfl⟩ ⟨_, el2, rfl, n2, rfl⟩ hX hY fun h' a1 a2 a3 a4 a5 a6 hk => ⟨_, rfl, ?_⟩
    refine wpAny_letOwnedTupleGo_zip (s := { s with heap := h' }) a1 fun h'' z'' sb => ?_
    have S' : ZSt z TI TO i1 i2 l1 l2 .none (i + 1) h'' := ⟨z'', sb.extBut _ _ D.TIz (hk _ _ D.TIz D.TITO D.TIi1 D.TIi2 S2), ⟨_, _, sb.extBut _ _ D.TOz a2⟩, a3.extBut sb.extBut D.i1z, a4.extBut sb.extBut D.i2z⟩
    have hlt : s.heap.objs.size ≠ z := Nat.ne_of_gt (Heap.lt_size S1)
    refine hQ _ h'' s.toks (fun c o hc ho => ?_) (fun c hc => ?_) (fun tk => ?_) ⟨i + 1, S', et⟩
    · simp only [List.mem_cons, List.not_mem_nil, or_false, not_or] at hc
      exact sb.extBut _ _ hc.1 (hk c o hc.1 hc.2.2.1 hc.2.2.2.1 hc.2.2.2.2 ho)
    · obtain ⟨o, ho, _⟩ := S'.obj c hc
      rw [ho]; simp
    · exact .tup (vs := [X, Y]) (R.not_av size_new) ⟨_, sb.extBut _ _ hlt a5⟩ (.cons (rX.mono tk) (.cons (rY.mono tk) .nil))
  done A κ σ s Q hA le R hp hs _ i hQ := by
    obtain ⟨i, S, e⟩ := i
    obtain ⟨xv, n1, el1, r1⟩ := R.list (hs (l1, .list xs) (by simp))
    obtain ⟨yv, n2, el2, r2⟩ := R.list (hs (l2, .list ys) (by simp))
    obtain ⟨S1, S2, ⟨p, q, S3⟩, S4, S5⟩ := id S
    refine wpAny_pyNext_zip_end hA.1 D S1 S2 S3 S4 S5 (xs := xv.toArray) (ys := yv.toArray) ⟨_, el1, rfl, n1, rfl⟩ ⟨_, el2, rfl, n2, rfl⟩ ?_ fun h' hk => ⟨rfl, hQ h' s.toks fun c o hc ho => ?_⟩
    · refine (zipT_end e).imp (fun h => ?_) fun h => ?_
      · simp; rw [r1.length]; exact h
      · simp; rw [r2.length]; exact h
    · simp only [List.mem_cons, List.not_mem_nil, or_false, not_or] at hc
      exact hk c o hc.1 hc.2.2.1 hc.2.2.2.1 hc.2.2.2.2 ho

theorem zipD (m l1 l2 : Nat) (h1 : l1 < m) (h2 : l2 < m) : ZipApart (m + 4) (m + 2) (m + 3) m (m + 1) l1 l2 := by
  have ne : ∀ a b : Nat, a ≠ b → @Ne Addr a b := fun _ _ h => h
  constructor <;> (apply ne; omega)
/-- for .. in zip(a, b) -/
theorem ex_forZ {elts : List Expr} {n : Nat} {tpos p ipos pos : Pos} {es : List Expr} {body : List Stmt} {P : AFl → Loc → Sto → Prop} (hs : es.all noStar = true)
    (h : Ev Γ k sc (.Name "zip" p) loc σ fun fv σ₁ => fv = .raw (.type "zip") ∧ Evs Γ k sc es loc σ₁ fun vs σ₂ => ∃ l1 l2 xs ys, vs = [.ref l1, .ref l2] ∧ (l1, .list xs) ∈ σ₂ ∧ (l2, .list ys) ∈ σ₂ ∧ For Γ k sc (.Tuple elts n tpos) body [(l1, .list xs), (l2, .list ys)] (zipT xs ys) loc σ₂ P)
    (hf : ∀ env x, foldedSetIterable (.Call (.Name "zip" p) es [] ipos) env x = pure x) : Ex Γ k sc (.For (.Tuple elts n tpos) (.Call (.Name "zip" p) es [] ipos) body [] pos) loc σ P := fun A κ env s hA le f R => by
  refine wpAny_For ?_ (hf env)
  rw [arm_eval_Call_Name']
  refine wpAny_bind (wpE (h A κ env s hA le f R) fun V v σ₁ h₁ tk₁ q₁ R₁ r₁ p₁ => ?_)
  obtain ⟨rfl, p₁⟩ := p₁
  cases r₁
  refine call_argsQ (s := { s with heap := h₁, toks := tk₁ }) hs p₁ ipos hA le f R₁ fun Vs vs σ₂ h₂ tk₂ q₂ R₂ r₂ p₂ => ⟨kpr_type, ?_⟩
  obtain ⟨l1, l2, xs, ys, rfl, m1, m2, fo⟩ := p₂
  cases r₂ with
  | cons ra r₂ =>
    cases ra
    cases r₂ with
    | cons rb r₂ =>
      cases rb; cases r₂
      obtain ⟨xv, n1, e1, r1⟩ := R₂.s.list m1
      obtain ⟨yv, n2, e2, r2⟩ := R₂.s.list m2
      refine call_zip_2 (xs := xv.toArray) (ys := yv.toArray) ⟨_, e1, rfl, n1, rfl⟩ ⟨_, e2, rfl, n2, rfl⟩ fun h₃ z1 z2 z3 z4 z5 z6 hk => ?_
      have lt1 := Heap.lt_size e1
      have lt2 := Heap.lt_size e2
      dsimp only at lt1 lt2 z1 z2 z3 z4 z5
      have D := zipD h₂.objs.size l1 l2 lt1 lt2
      have S : ZSt (h₂.objs.size + 4) (h₂.objs.size + 2) (h₂.objs.size + 3) h₂.objs.size (h₂.objs.size + 1) l1 l2 .none 0 h₃ := ⟨z1, z2, ⟨_, _, z3⟩, z4, z5⟩
      have new : ∀ a, h₂.objs.size ≤ a → h₂.get? a = none := fun a ha => Heap.get?_none_of_le ha
      let I : Itr Γ k (.Tuple elts n tpos) := itrZip D xs ys
      have i : I.Inv (zipT xs ys) h₃ := ⟨0, S, by simp⟩
      have hn : ∀ a ∈ I.pv, h₂.get? a = none := fun a ha => by
        refine new a ?_
        have ha' : a ∈ [h₂.objs.size + 4, h₂.objs.size + 2, h₂.objs.size + 3, h₂.objs.size, h₂.objs.size + 1] := ha
        simp only [List.mem_cons, List.not_mem_nil, or_false] at ha'
        rcases ha' with rfl | rfl | rfl | rfl | rfl <;> first | exact Nat.le_refl _ | exact Nat.le_add_right _ _
      refine wpAny_pyIter_zip (s := { s with heap := h₃, toks := tk₂ }) z1 ?_
      obtain ⟨pn, R₃⟩ := shield_new (avs := I.avs) (l := I.lv i) (sb := I.sub) R₂ hk hn
      refine codeAny_mono (fo I rfl A κ env { s with heap := h₃, toks := tk₂ } i hA le f pn R₃ (fun p hp => ?_) (fun _ hp => nomatch hp)) fun r s₄ x => ?_
      · have hp' : p ∈ [(l1, AO.list xs), (l2, AO.list ys)] := hp
        simp only [List.mem_cons, List.not_mem_nil, or_false] at hp'
        rcases hp' with rfl | rfl
        · exact m1
        · exact m2
      cases r with
      | error _ => exact x.elim
      | ok fl =>
        obtain ⟨g, l₃, σ₃, h₄, tk₃, e₃, q₃, R₄, r₃, p₃⟩ := x
        refine ⟨g, l₃, σ₃, h₄, tk₃, e₃, (q₁.trans q₂).trans fun a vs na t => q₃ a vs (fun ha => ?_) (TK.of_keeps (av := κ.av) hk a vs na t), R₄, r₃, p₃⟩
        rcases ha with ha | ha
        · exact na ha
        · obtain ⟨m, e⟩ := t; rw [hn a (I.sub a ha)] at e; cases e
end
end Mine
namespace Mine
/-- a sort's questions answered by a table; each is one that may be asked -/
noncomputable def runT {α : Type} (lt : Nat → Nat → Bool) : KasT α → α
  | .ret a => a
  | .ask i j k => runT lt (k (lt i j))
noncomputable def okT {α : Type} (lt d : Nat → Nat → Bool) : KasT α → Bool
  | .ret _ => true
  | .ask i j k => d i j && okT lt d (k (lt i j))
theorem kasWp_run {α : Type} {lt d : Nat → Nat → Bool} {cmp : Nat → Nat → (Bool → Shared → Prop) → Shared → Prop} {Q : α → Shared → Prop} {s : Shared} (hc : ∀ i j C, d i j = true → C (lt i j) s → cmp i j C s) : ∀ (t : KasT α), okT lt d t = true → Q (runT lt t) s → t.kasWp cmp Q s
  | .ret a, _, h => h
  | .ask i j k, ho, h => by
    rw [okT, Bool.and_eq_true] at ho
    exact hc i j _ ho.1 (kasWp_run hc (k (lt i j)) ho.2 h)
section
variable {prog : Program} {w : World} {A : Around} {E : Value → Shared → Prop} {s : Shared}
theorem sort_tree {a : Addr} {vs out : List Value} {n : Nat} {P : PySem.Fin → Shared → Prop} (ho : s.heap.get? a = some (seqObj "list" vs.toArray n)) (h64 : vs.length < 64) (h1 : vs.length < 2 → out = vs) (hz : out.length = vs.length)
    (h2 : 2 ≤ vs.length → ∀ s' : Shared, (∀ b o, b ≠ a → s.heap.get? b = some o → s'.heap.get? b = some o) → wpAny (model prog w) A (keyKind' vs.toArray) (fun κ s'' => s'' = s' ∧ (kas_sort vs.length).kasWp (kas_ask prog w A κ vs) (fun p s''' => s''' = s' ∧ p.toList.map (fun i => vs.getD i Value.none) = out) s') (fun _ _ => False) s')
    (h : P (.done (.ret .none)) { s with heap := sortedHeap s.heap a vs out.toArray }) : wpAny (model prog w) A (Builtin.«list.sort» ⟨[.ref a], []⟩) P E s := by
  rw [list_sort_plain]
  have ha : a < s.heap.objs.size := Heap.lt_size ho
  refine wpAny_bind (listItems_at ho rfl ?_)
  refine wpAny_bind (listUpdate_at ho rfl ?_ (by rw [List.size_toArray, sizeLine_eq]; omega) (Nat.zero_le _))
  obtain ⟨e1, ho1⟩ : ∃ e1, (s.heap.update a (Obj.mapSeq fun _ => #[])).get? a = some (seqObj "list" #[] e1) := ⟨_, get?_update_seq ho (fun _ => #[])⟩
  refine wpAny_bind (seqEpoch_at ho1 rfl ?_)
  refine wpAny_bind (wpAny_newTuple ?_ (by show vs.length ≤ _; rw [sizeLine_eq]; omega))
  refine wpAny_bind (wpAny_newList ?_ (Nat.zero_le _))
  refine wpAny_holding ?_
  have ho6 : (((s.heap.update a (Obj.mapSeq fun _ => #[])).push (seqObj "tuple" vs.toArray 0)).push (seqObj "list" #[] 0)).get? a = some (seqObj "list" #[] e1) := by
    rw [Heap.get?_push_ne _ _ _ (by rw [size_push', Heap.size_update]; exact Nat.ne_of_lt (Nat.lt_succ_of_lt ha)), Heap.get?_push_ne _ _ _ (by rw [Heap.size_update]; exact Nat.ne_of_lt ha)]
    exact ho1
  show wpAny (model prog w) A _ P E { s with heap := ((s.heap.update a (Obj.mapSeq fun _ => #[])).push (seqObj "tuple" vs.toArray 0)).push (seqObj "list" #[] 0) }
  dsimp only
  have hs : vs.toArray.size = vs.length := by simp
  by_cases hv : vs.toArray.size < 2
  · rw [if_pos hv, if_pos hv]
    refine wpAny_bind (wpAny_pure ?_)
    rw [StateT.run_pure]
    refine wpAny_bind (wpAny_pure ?_)
    dsimp only
    refine wpAny_bind (seqEpoch_at ho6 rfl ?_)
    have eo : (arrOf (SortSt.mk' general' (vs.toArray.zip vs.toArray) #[] 7 none)).map (·.2) = out.toArray := by
      rw [h1 (by omega)]
      show (vs.toArray.zip vs.toArray).map (·.2) = _
      apply Array.ext
      · simp
      · intro i h1 h2; simp
    rw [eo]
    refine wpAny_bind (listUpdate_at ho6 rfl ?_ (Nat.zero_le _) (by rw [List.size_toArray, sizeLine_eq]; omega))
    simp only [bne_self_eq_false, Bool.false_eq_true, if_false]
    exact wpAny_pure h
  · rw [if_neg hv, if_neg hv]
    have hk : ∀ b o, b ≠ a → s.heap.get? b = some o → (((s.heap.update a (Obj.mapSeq fun _ => #[])).push (seqObj "tuple" vs.toArray 0)).push (seqObj "list" #[] 0)).get? b = some o := fun b o hb e =>
      Heap.get?_push_of_some _ (Heap.get?_push_of_some _ ((Heap.SameBut.update ..).extBut _ _ hb e))
    refine wpAny_bind (wpAny_mono (h2 (by omega) { s with heap := ((s.heap.update a (Obj.mapSeq fun _ => #[])).push (seqObj "tuple" vs.toArray 0)).push (seqObj "list" #[] 0) } hk) (fun κ s0 hq => ?_) fun _ _ x => x.elim)
    obtain ⟨rfl, hq⟩ := hq
    refine wpAny_bind (wpAny_mono (kat_run (Q := fun st' s' => s' = { s with heap := ((s.heap.update a (Obj.mapSeq fun _ => #[])).push (seqObj "tuple" vs.toArray 0)).push (seqObj "list" #[] 0) } ∧ (arrOf st').map (·.2) = out.toArray ∧ failedOf st' = none)
      rfl (by omega) h64 (fun p' st' s' a1 a2 a3 a4 => ⟨a4.1, by rw [kat_snds rfl a2, a4.2], a3⟩) hq) (fun r s' hr => ?_) fun _ _ e => e)
    obtain ⟨⟨⟩, st'⟩ := r
    obtain ⟨e', ho', hf⟩ := hr
    dsimp only at e' ho' hf
    subst e'
    dsimp only
    refine wpAny_bind (seqEpoch_at ho6 rfl ?_)
    rw [ho']
    refine wpAny_bind (listUpdate_at ho6 rfl ?_ (Nat.zero_le _) (by rw [List.size_toArray, sizeLine_eq]; omega))
    rw [hf]
    simp only [bne_self_eq_false, Bool.false_eq_true, if_false]
    exact wpAny_pure h
theorem sorted_tree {l : Addr} {vs out : List Value} {Q : Value → Shared → Prop} (hl : s.heap.IsList l vs.toArray) (h64 : vs.length < 64) (h1 : vs.length < 2 → out = vs) (hz : out.length = vs.length)
    (h2 : 2 ≤ vs.length → ∀ s' : Shared, (∀ b o, s.heap.get? b = some o → s'.heap.get? b = some o) → wpAny (model prog w) A.in1.in1 (keyKind' vs.toArray) (fun κ s'' => s'' = s' ∧ (kas_sort vs.length).kasWp (kas_ask prog w A.in1.in1 κ vs) (fun p s''' => s''' = s' ∧ p.toList.map (fun i => vs.getD i Value.none) = out) s') (fun _ _ => False) s')
    (h : Q (.ref (s.heap.objs.size + 1)) { s with heap := sortedAll s.heap vs out.toArray }) : wpAny (model prog w) A (call (.builtin "sorted") [.ref l]) Q E s := by
  refine Calls.call_function_entry kind_sorted plain_sorted entry_sorted (args_sorted1 _) ?_
  unfold Builtin.«sorted»
  refine wpAny_bind (m := checkCount "sorted" 1 1 _) (wpAny_pure ?_)
  refine wpAny_bind (collect_list hl ?_ (by rw [sizeLine_eq]; omega))
  refine wpAny_bind (wpAny_newList ?_ (by rw [sizeLine_eq]; omega))
  have hsz : ((s.heap.push (seqObj "list" #[] 0)).update s.heap.objs.size (Obj.mapSeq (· ++ vs.toArray))).objs.size = s.heap.objs.size + 1 := by
    rw [Heap.size_update, size_push']
  have hoL : (((s.heap.push (seqObj "list" #[] 0)).update s.heap.objs.size (Obj.mapSeq (· ++ vs.toArray))).push (seqObj "list" vs.toArray 0)).get? (s.heap.objs.size + 1) = some (seqObj "list" vs.toArray 0) := by
    rw [← hsz]; exact Heap.get?_push_size _ rfl
  have keep : ∀ b o, s.heap.get? b = some o → (((s.heap.push (seqObj "list" #[] 0)).update s.heap.objs.size (Obj.mapSeq (· ++ vs.toArray))).push (seqObj "list" vs.toArray 0)).get? b = some o := fun b o q => by
    have hlt : b < s.heap.objs.size := Heap.lt_size q
    rw [Heap.get?_push_ne _ _ _ (by rw [hsz]; exact Nat.ne_of_lt (Nat.lt_succ_of_lt hlt)), Heap.get?_update_ne _ _ _ _ (Nat.ne_of_lt hlt), Heap.get?_push_ne _ _ _ (Nat.ne_of_lt hlt)]
    exact q
  show wpAny _ _ _ _ _ { s with heap := ((s.heap.push (seqObj "list" #[] 0)).update s.heap.objs.size (Obj.mapSeq (· ++ vs.toArray))).push (seqObj "list" vs.toArray 0) }
  rw [hsz]
  refine wpAny_bind (wpAny_holding (wpAny_call_entry slot_list_sort ⟨_, hoL, rfl⟩ entry_list_sort (sort_tree hoL h64 h1 hz (fun hv s' hk => h2 hv s' fun b o e => hk b o (Nat.ne_of_lt (Nat.lt_succ_of_lt (Heap.lt_size e))) (keep b o e)) ⟨_, rfl, ?_⟩) (args_list_sort _)))
  exact wpAny_pure ⟨_, rfl, h⟩
end

/-! tuples whose first two are ints -/
abbrev K3 := Int × Int × AV
abbrev k3 (x : K3) : AV := .tup [.int x.1, .int x.2.1, x.2.2]
noncomputable def ltK (ks : List K3) (i j : Nat) : Bool := let a := ks.getD i (0, 0, .none); let b := ks.getD j (0, 0, .none); if a.1 = b.1 then decide (a.2.1 < b.2.1) else decide (a.1 < b.1)
noncomputable def dK (ks : List K3) (i j : Nat) : Bool := let a := ks.getD i (0, 0, .none); let b := ks.getD j (0, 0, .none); decide (i < ks.length) && decide (j < ks.length) && !(decide (a.1 = b.1) && decide (a.2.1 = b.2.1))
noncomputable def srtK (ks : List K3) : List K3 := if ks.length < 2 then ks else (runT (ltK ks) (kas_sort ks.length)).toList.map fun i => ks.getD i (0, 0, .none)
noncomputable def okK (ks : List K3) : Bool := decide (ks.length < 2) || (okT (ltK ks) (dK ks) (kas_sort ks.length) && decide ((runT (ltK ks) (kas_sort ks.length)).toList.length = ks.length) && (runT (ltK ks) (kas_sort ks.length)).toList.all fun i => decide (i < ks.length))
theorem k3_at {av : Avd} {h : Heap} {ks : List K3} {vs : List Value} (r : VRels av h (ks.map k3) vs) {i : Nat} (hi : i < ks.length) : ∃ a t u V n, vs.getD i Value.none = .ref a ∧ h.get? a = some { cls := .type "tuple", data := .seq #[.int (ks.getD i (0, 0, .none)).1 t, .int (ks.getD i (0, 0, .none)).2.1 u, V] n } := by
  have e0 : ks.getD i (0, 0, .none) = ks[i] := by simp [hi]
  have e1 : (ks.map k3)[i]? = some (k3 ks[i]) := by simp [hi]
  obtain ⟨v, hv, rv⟩ := r.get e1
  have e2 : vs.getD i Value.none = v := by rw [List.getD_eq_getElem?_getD, hv]; rfl
  rw [e0, e2]
  cases rv with
  | tup na t rs =>
    obtain ⟨n, e⟩ := t
    cases rs with
    | cons r1 rs =>
      cases r1
      cases rs with
      | cons r2 rs =>
        cases r2
        cases rs with
        | cons r3 rs => cases rs; exact ⟨_, _, _, _, n, rfl, e⟩
theorem tups_of {av : Avd} {h h' : Heap} (hk : ∀ b o, h.get? b = some o → h'.get? b = some o) : ∀ {ks : List K3} {vs : List Value}, VRels av h (ks.map k3) vs → ∃ fs : List Value, KatTups h' vs fs ∧ fs.length = ks.length ∧ ∀ v ∈ fs, ∃ i t, v = .int i t
  | [], _, .nil => ⟨[], .nil, rfl, fun _ h => nomatch h⟩
  | x :: ks, _, .cons r rs => by
    obtain ⟨fs, a, b, c⟩ := tups_of hk rs
    cases r with
    | tup na t rs =>
      obtain ⟨n, e⟩ := t
      cases rs with
      | cons r1 rs =>
        cases r1
        refine ⟨_ :: fs, .cons (hk _ _ e) rfl rfl rfl a, by simp [b], fun v hv => ?_⟩
        rcases List.mem_cons.mp hv with q | q
        · exact ⟨_, _, q⟩
        · exact c v q
theorem len_map {av : Avd} {h : Heap} {ks : List K3} {vs : List Value} (r : VRels av h (ks.map k3) vs) : vs.length = ks.length := by rw [r.length, List.length_map]
theorem pick_rel {av : Avd} {h : Heap} {ks : List K3} {vs : List Value} (r : VRels av h (ks.map k3) vs) : ∀ (l : List Nat), (∀ i ∈ l, i < ks.length) → VRels av h ((l.map fun i => ks.getD i (0, 0, .none)).map k3) (l.map fun i => vs.getD i Value.none)
  | [], _ => .nil
  | i :: l, hl => by
    have hi := hl i (.head _)
    have e0 : ks.getD i (0, 0, .none) = ks[i] := by simp [hi]
    have e1 : (ks.map k3)[i]? = some (k3 ks[i]) := by simp [hi]
    obtain ⟨v, hv, rv⟩ := r.get e1
    have e2 : vs.getD i Value.none = v := by rw [List.getD_eq_getElem?_getD, hv]; rfl
    simp only [List.map_cons]
    rw [e0, e2]
    exact .cons rv (pick_rel r l fun j hj => hl j (.tail _ hj))
section
variable {Γ : Gd} {k : Nat} {sc : Scope} {loc : Loc} {σ : Sto}
theorem cal_sorted3 {l : Addr} {ks : List K3} {P : AV → Sto → Prop} (hm : (l, .list (ks.map k3)) ∈ σ) (h64 : ks.length < 64) (ok : okK ks = true) (p : ∀ b, P (.ref b) ((b, .list ((srtK ks).map k3)) :: σ)) : Cal Γ k (.builtin "sorted") [.ref l] σ P := fun A κ s Xs hA le R rs => by
  cases rs with
  | cons r rs =>
    cases r; cases rs
    obtain ⟨vs, n, e, rs⟩ := R.list hm
    have hlen := len_map rs
    let out : List Value := if ks.length < 2 then vs else (runT (ltK ks) (kas_sort ks.length)).toList.map fun i => vs.getD i Value.none
    have oke : 2 ≤ ks.length → okT (ltK ks) (dK ks) (kas_sort ks.length) = true ∧ (runT (ltK ks) (kas_sort ks.length)).toList.length = ks.length ∧ ∀ i ∈ (runT (ltK ks) (kas_sort ks.length)).toList, i < ks.length := fun h2 => by
      unfold okK at ok
      rw [decide_eq_false (by omega), Bool.false_or, Bool.and_eq_true, Bool.and_eq_true] at ok
      exact ⟨ok.1.1, of_decide_eq_true ok.1.2, fun i hi => of_decide_eq_true (List.all_eq_true.mp ok.2 i hi)⟩
    have hz : out.length = vs.length := by
      show (if ks.length < 2 then vs else (runT (ltK ks) (kas_sort ks.length)).toList.map fun i => vs.getD i Value.none).length = _
      by_cases h2 : ks.length < 2
      · rw [if_pos h2]
      · rw [if_neg h2, List.length_map, (oke (by omega)).2.1, hlen]
    have ro : VRels κ.av s.heap ((srtK ks).map k3) out := by
      show VRels _ _ _ (if ks.length < 2 then vs else (runT (ltK ks) (kas_sort ks.length)).toList.map fun i => vs.getD i Value.none)
      unfold srtK
      by_cases h2 : ks.length < 2
      · rw [if_pos h2, if_pos h2]; exact rs
      · rw [if_neg h2, if_neg h2]; exact pick_rel rs _ (oke (by omega)).2.2
    refine sorted_tree (vs := vs) (out := out) ⟨_, e, rfl, n, rfl⟩ (by omega) (fun hv => if_pos (by omega)) hz (fun hv s' hk => ?_) ?_
    · obtain ⟨fs, kt, fl, fi⟩ := tups_of hk rs
      refine kat_kind (T := .type "int") kt (by omega) (fun v hv => ?_) rfl ⟨rfl, ?_⟩
      · obtain ⟨i, t, rfl⟩ := fi v hv
        exact .of_pure rfl
      rw [hlen]
      obtain ⟨o1, o2, o3⟩ := oke (by omega)
      refine kasWp_run (lt := ltK ks) (d := dK ks) (fun i j C hd hc => ?_) _ o1 ⟨rfl, ?_⟩
      · simp only [dK, Bool.and_eq_true, decide_eq_true_eq, Bool.not_eq_true'] at hd
        obtain ⟨⟨hi, hj⟩, hne⟩ := hd
        obtain ⟨a, t, u, V, na, ea, ga⟩ := k3_at rs hi
        obtain ⟨b, t', u', V', nb, eb, gb⟩ := k3_at rs hj
        unfold kas_ask
        rw [ea, eb]
        refine kat_lt (hk _ _ ga) rfl (hk _ _ gb) rfl ?_
        refine kat_cons (wpAny_eqBool_int ?_)
        unfold ltK at hc
        dsimp only at hc
        by_cases h1 : (ks.getD i (0, 0, .none)).1 = (ks.getD j (0, 0, .none)).1
        · rw [if_pos h1] at hc
          rw [decide_eq_true h1, Bool.true_and, decide_eq_false_iff_not] at hne
          rw [beq_iff_eq.mpr h1]
          refine kat_yes (kat_cons (wpAny_eqBool_int ?_))
          rw [beq_eq_false_iff_ne.mpr hne]
          refine kat_no (kat_one _ _ ?_)
          exact PyProof.Rows.lt_int hc
        · rw [if_neg h1] at hc
          rw [beq_eq_false_iff_ne.mpr h1]
          exact kat_no (oneLt_int hc)
      · exact (if_neg (by omega)).symm
    · obtain ⟨c, hc⟩ := sortedAll_at s.heap vs out.toArray
      exact ⟨.ref _, _, _, s.toks, rfl, R.add (o := .list ((srtK ks).map k3)) (Heap.get?_none_of_le (Nat.le_succ _)) (fun _ _ => sortedAll_old) hc ⟨out, c, rfl, ro.mono (.of_keeps fun _ _ => sortedAll_old)⟩, .ref _, p _⟩
end
end Mine
namespace Mine
section
variable {Γ : Gd} {k : Nat} {sc : Scope} {loc loc' : Loc} {σ σ' : Sto} {target : Expr} {body : List Stmt} {P : AFl → Loc → Sto → Prop}
theorem into6 {a b c d e f z : Addr × AO} {ρ : Sto} : List.Perm (a :: b :: c :: d :: e :: f :: z :: ρ) (z :: a :: b :: c :: d :: e :: f :: ρ) := List.perm_middle (l₁ := [a, b, c, d, e, f])
theorem Rep.perm {κ : Kap} {env : Env} {h : Heap} (R : Rep κ env loc σ h) (hs : σ'.Perm σ) : Rep κ env loc σ' h := ⟨R.s.perm hs, R.f.sub fun _ ha => (hs.map _).subset ha⟩
theorem ev_perm {e : Expr} {Q : AV → Sto → Prop} (h : Ev Γ k sc e loc σ' Q) (hs : σ'.Perm σ) : Ev Γ k sc e loc σ Q := fun A κ env s hA l f R => h A κ env s hA l f (R.perm hs)
theorem ops_perm {t : List Value → Sem Value} {xs : List AV} {Q : AV → Sto → Prop} (h : Ops Γ k t xs σ' Q) (hs : σ'.Perm σ) : Ops Γ k t xs σ Q := fun A κ s Xs hA l R rs => h A κ s Xs hA l (R.perm hs) rs
theorem whl_perm {test : Expr} (h : Whl Γ k sc test body loc σ' P) (hs : σ'.Perm σ) : Whl Γ k sc test body loc σ P := fun A κ env s hA l f R => h A κ env s hA l f (R.perm hs)
theorem for_perm {src : Sto} {vs : List AV} (h : For Γ k sc target body src vs loc σ' P) (hs : σ'.Perm σ) : For Γ k sc target body src vs loc σ P := fun I e A κ env s i hA l f hn R hm hcv => h I e A κ env s i hA l f hn (R.perm hs) (fun p hp => hs.mem_iff.mpr (hm p hp)) hcv
theorem cmp_perm {ifs : List Expr} {elt iter : Expr} {scope : Scope} {pos : Pos} {src : Sto} {D : Addr} {vs : List AV} {Q : Sto → Prop} (h : Cmp Γ k sc target ifs elt iter scope pos src D vs loc σ' Q) (hs : σ'.Perm σ) : Cmp Γ k sc target ifs elt iter scope pos src D vs loc σ Q := fun I e A κ env s i hA l f hn R hm hcv =>
  h I e A κ env s i hA l f hn (R.perm hs) (fun p hp => hs.mem_iff.mpr (hm p hp)) hcv
theorem cmp_drop {ifs : List Expr} {elt iter : Expr} {scope : Scope} {pos : Pos} {src : Sto} {D : Addr} {vs : List AV} {Q : Sto → Prop} (h : Cmp Γ k sc target ifs elt iter scope pos src D vs loc σ' Q) (hs : σ'.Sublist σ) (hm : ∀ p ∈ src, p ∈ σ') : Cmp Γ k sc target ifs elt iter scope pos src D vs loc σ Q := fun I e A κ env s i hA l f hn R _ hcv =>
  h I e A κ env s i hA l f hn (R.less (.refl _) hs) (fun p hp => hm p (e ▸ hp)) hcv
end
end Mine
namespace Mine
  open PySem.StrLaws PySem.Builtin.Str
theorem cnt_run (x : Str) (c : Nat) : ∀ (m cur : Nat) (st : Array Nat × Nat), st.1.size ≤ cur → st.2 ≤ cur → cur + m = x.length + 1 →
    (forIn (List.range' cur m) st (occBody x ⟨#[c]⟩ x.length (x.length + 1))).run.fst.size = st.1.size + (x.cps.toList.drop cur).count c
  | 0, cur, st, h1, h2, h3 => by
    have : x.cps.toList.drop cur = [] := by rw [List.drop_eq_nil_iff]; simp [Str.length] at h3 ⊢; omega
    rw [this]; rfl
  | m + 1, cur, st, h1, h2, h3 => by
    rw [List.range'_succ, List.forIn_cons]
    have key := subAt_one x c cur
    unfold occBody
    by_cases hc : x.cps.toList[cur]? = some c
    · obtain ⟨k1, k2⟩ := key.mpr hc
      rw [if_pos ⟨⟨⟨by omega, h2⟩, k1⟩, k2⟩]
      have ih := cnt_run x c m (cur + 1) (st.1.push cur, cur + (⟨#[c]⟩ : Str).length) (by simp; omega) (Nat.le_refl _) (by omega)
      have e : x.cps.toList.drop cur = c :: x.cps.toList.drop (cur + 1) := by
        obtain ⟨hl, he⟩ := List.getElem?_eq_some_iff.mp hc
        rw [← he, List.getElem_cons_drop]
      refine Eq.trans ih ?_
      rw [e, List.count_cons_self, Array.size_push]; omega
    · have hn : ¬ (((st.fst.size < x.length + 1 ∧ st.snd ≤ cur) ∧ cur + (⟨#[c]⟩ : Str).length ≤ x.length) ∧ subAt x ⟨#[c]⟩ cur = true) := fun h => hc (key.mp ⟨h.1.2, h.2⟩)
      rw [if_neg hn]
      have ih := cnt_run x c m (cur + 1) (st.1, st.2) (by dsimp only; omega) (by dsimp only; omega) (by omega)
      refine Eq.trans ih ?_
      congr 1
      cases hg : x.cps.toList[cur]? with
      | none => rw [List.drop_eq_nil_of_le (by have := List.getElem?_eq_none_iff.mp hg; omega), List.drop_eq_nil_of_le (by have := List.getElem?_eq_none_iff.mp hg; omega)]
      | some d =>
        obtain ⟨hl, he⟩ := List.getElem?_eq_some_iff.mp hg
        have e : x.cps.toList.drop cur = d :: x.cps.toList.drop (cur + 1) := by rw [← he, List.getElem_cons_drop]
        rw [e, List.count_cons_of_ne]
        intro q; exact hc (by rw [hg, q])
theorem cnt_one (l : List Nat) (c : Nat) : (Builtin.Str.occurrences (ofL l) (ofL [c]) 0 (ofL l).length ((ofL l).length + 1)).length = l.count c := by
  rw [occ_eq, Array.length_toList]
  have := cnt_run (ofL l) c ((ofL l).length + 1 - 0) 0 ((#[] : Array Nat), 0) (Nat.le_refl _) (Nat.le_refl _) (by omega)
  refine Eq.trans this ?_
  simp [ofL]
section
variable {Γ : Gd} {k : Nat} {σ : Sto} {P : AV → Sto → Prop}
theorem cal_count1 {l : List Nat} {c : Nat} (h : P (.int (l.count c)) σ) : Cal Γ k (.builtin "str.count") [.str (ofL l), .str (ofL [c])] σ P := cal_count (by rw [cnt_one]; exact h)
end
theorem pick_take {α : Type} (l : List α) (n : Nat) (h : n ≤ l.length) : pick l none (some (n : Int)) = l.take n := by
  unfold pick
  have : clipAt l.length (n : Int) = n := by unfold clipAt; omega
  simp only [Option.elim, List.drop_zero, Nat.sub_zero, this]
end Mine
namespace Mine
/-- a sort whose questions are answered by an order -/
noncomputable def Ends {α : Type} (lt d : Nat → Nat → Bool) (t : KasT α) (Q : α → Prop) : Prop := okT lt d t = true ∧ Q (runT lt t)
section
variable {lt d : Nat → Nat → Bool} {n : Nat}
theorem ends_ret {α : Type} {a : α} {Q : α → Prop} (h : Q a) : Ends lt d (.ret a) Q := ⟨rfl, h⟩
theorem ends_ask {α : Type} {i j : Nat} {k : Bool → KasT α} {Q : α → Prop} (hd : d i j = true) (h : Ends lt d (k (lt i j)) Q) : Ends lt d (.ask i j k) Q := ⟨by rw [okT, hd, h.1]; rfl, h.2⟩
theorem ends_mono {α : Type} {t : KasT α} {Q Q' : α → Prop} (h : Ends lt d t Q) (hq : ∀ a, Q a → Q' a) : Ends lt d t Q' := ⟨h.1, hq _ h.2⟩
theorem ends_bind {α β : Type} {f : α → KasT β} {Q : β → Prop} : ∀ {t : KasT α}, Ends lt d t (fun a => Ends lt d (f a) Q) → Ends lt d (t.bind f) Q
  | .ret a, h => h.2
  | .ask i j k, ⟨h1, h2⟩ => by
    rw [okT, Bool.and_eq_true] at h1
    exact ends_ask h1.1 (ends_bind (t := k (lt i j)) ⟨h1.2, h2⟩)
structure Ord (n : Nat) (lt d : Nat → Nat → Bool) : Prop where
  tot : ∀ i j, i < n → j < n → i ≠ j → lt i j = false → lt j i = true
  asym : ∀ i j, lt i j = true → lt j i = false
  tr : ∀ i j k, lt i j = true → lt j k = true → lt i k = true
  ask : ∀ i j, i < n → j < n → i ≠ j → d i j = true
abbrev pg (p : Array Nat) (i : Nat) : Nat := p.getD i 0
noncomputable def Prm (n : Nat) (p : Array Nat) : Prop := p.toList.Perm (List.range n)
theorem Prm.size {p : Array Nat} (h : Prm n p) : p.size = n := by have := h.length_eq; simpa using this
theorem pg_eq {p : Array Nat} {i : Nat} (hi : i < p.size) : p[i]? = some (pg p i) := by
  unfold pg
  rw [Array.getElem?_eq_getElem hi, Array.getD, dif_pos hi]; rfl
theorem Prm.bd {p : Array Nat} (h : Prm n p) {i : Nat} (hi : i < n) : pg p i < n := by
  have e := pg_eq (p := p) (by rw [h.size]; exact hi)
  have hm : pg p i ∈ p.toList := by rw [← Array.getElem?_toList] at e; exact List.mem_of_getElem? e
  exact List.mem_range.mp (h.mem_iff.mp hm)
theorem Prm.inj {p : Array Nat} (h : Prm n p) {i j : Nat} (hi : i < n) (hj : j < n) (hne : i ≠ j) : pg p i ≠ pg p j := fun e => by
  have hnd : p.toList.Nodup := h.nodup_iff.mpr List.nodup_range
  have e1 := pg_eq (p := p) (by rw [h.size]; exact hi)
  have e2 := pg_eq (p := p) (by rw [h.size]; exact hj)
  rw [← Array.getElem?_toList] at e1 e2
  rw [e] at e1
  have hl : i < p.toList.length := by rw [Array.length_toList, h.size]; exact hi
  exact hne ((List.getElem?_inj hl hnd).mp (e1.trans e2.symm))
theorem Prm.of_perm {p q : Array Nat} (h : Prm n p) (hq : q.Perm p) : Prm n q := (Array.Perm.toList hq).trans h
noncomputable def Srt (lt : Nat → Nat → Bool) (p : Array Nat) (k : Nat) : Prop := ∀ i j, i < j → j < k → lt (pg p i) (pg p j) = true
noncomputable def Dsc (lt : Nat → Nat → Bool) (p : Array Nat) (k : Nat) : Prop := ∀ i j, i < j → j < k → lt (pg p j) (pg p i) = true
theorem srt_one {p : Array Nat} : Srt lt p 1 := fun i j h1 h2 => by omega
theorem Srt.snoc (O : Ord n lt d) {p : Array Nat} {k : Nat} (S : Srt lt p (k + 1)) (h : lt (pg p k) (pg p (k + 1)) = true) : Srt lt p (k + 2) := fun i j h1 h2 => by
  by_cases hj : j = k + 1
  · subst hj
    by_cases hi : i = k
    · subst hi; exact h
    · exact O.tr _ _ _ (S i k (by omega) (by omega)) h
  · exact S i j h1 (by omega)
theorem Dsc.snoc (O : Ord n lt d) {p : Array Nat} {k : Nat} (S : Dsc lt p (k + 1)) (h : lt (pg p (k + 1)) (pg p k) = true) : Dsc lt p (k + 2) := fun i j h1 h2 => by
  by_cases hj : j = k + 1
  · subst hj
    by_cases hi : i = k
    · subst hi; exact h
    · exact O.tr _ _ _ h (S i k (by omega) (by omega))
  · exact S i j h1 (by omega)
theorem ends_asc (O : Ord n lt d) {p : Array Nat} (hp : Prm n p) : ∀ (f m : Nat), 1 ≤ m → m + f ≤ n → Srt lt p m → Ends lt d (kas_asc p f m) fun r => m ≤ r ∧ r ≤ m + f ∧ Srt lt p r ∧ (r < m + f → lt (pg p r) (pg p (r - 1)) = true)
  | 0, m, h1, h2, S => ends_ret ⟨Nat.le_refl _, Nat.le_refl _, S, fun h => by omega⟩
  | f + 1, m, h1, h2, S => by
    refine ends_ask (O.ask _ _ (hp.bd (by omega)) (hp.bd (by omega)) (hp.inj (by omega) (by omega) (by omega))) ?_
    cases hc : lt (p.getD m 0) (p.getD (m - 1) 0) with
    | true => exact ends_ret ⟨Nat.le_refl _, by omega, S, fun _ => hc⟩
    | false =>
      obtain ⟨k, rfl⟩ : ∃ k, m = k + 1 := ⟨m - 1, by omega⟩
      have hl := O.tot _ _ (hp.bd (show k + 1 < n by omega)) (hp.bd (show k < n by omega)) (hp.inj (by omega) (by omega) (by omega)) hc
      exact ends_mono (ends_asc O hp f (k + 2) (by omega) (by omega) (S.snoc O hl)) fun r ⟨a, b, c, e⟩ => ⟨by omega, by omega, c, fun h => e (by omega)⟩
theorem ends_desc (O : Ord n lt d) {p : Array Nat} (hp : Prm n p) : ∀ (f m : Nat), 1 ≤ m → m + f ≤ n → Dsc lt p m → Ends lt d (kas_desc f p m 0) fun r => r.1 = p ∧ m ≤ r.2.1 ∧ r.2.1 ≤ m + f ∧ r.2.2 = 0 ∧ Dsc lt p r.2.1
  | 0, m, h1, h2, S => ends_ret ⟨rfl, Nat.le_refl _, Nat.le_refl _, rfl, S⟩
  | f + 1, m, h1, h2, S => by
    refine ends_ask (O.ask _ _ (hp.bd (by omega)) (hp.bd (by omega)) (hp.inj (by omega) (by omega) (by omega))) ?_
    cases hc : lt (p.getD m 0) (p.getD (m - 1) 0) with
    | true =>
      obtain ⟨k, rfl⟩ : ∃ k, m = k + 1 := ⟨m - 1, by omega⟩
      exact ends_mono (ends_desc O hp f (k + 2) (by omega) (by omega) (S.snoc O hc)) fun r ⟨a, b, c, e, g⟩ => ⟨a, by omega, by omega, e, g⟩
    | false =>
      have hl := O.tot _ _ (hp.bd (show m < n by omega)) (hp.bd (show m - 1 < n by omega)) (hp.inj (by omega) (by omega) (by omega)) hc
      refine ends_ask (O.ask _ _ (hp.bd (by omega)) (hp.bd (by omega)) (hp.inj (by omega) (by omega) (by omega))) ?_
      rw [hl]
      exact ends_ret ⟨rfl, Nat.le_refl _, Nat.le_add_right _ _, rfl, S⟩
theorem pg_congr {p q : Array Nat} {i j : Nat} (h : p[i]? = q[j]?) : pg p i = pg q j := by
  unfold pg
  rw [Array.getD_eq_getD_getElem?, Array.getD_eq_getD_getElem?, h]
theorem rev_prm {p : Array Nat} (hp : Prm n p) (i j : Nat) : Prm n (kas_rev p i j) := hp.of_perm (mirror_perm _ _ _ _)
theorem rev_srt {p : Array Nat} (hp : Prm n p) {m : Nat} (hm : m ≤ n) (S : Dsc lt p m) : Srt lt (kas_rev p 0 m) m := fun i j h1 h2 => by
  have key : ∀ k, k < m → pg (kas_rev p 0 m) k = pg p (m - 1 - k) := fun k hk => by
    refine pg_congr ?_
    have e := getElem?_mirror_all (xs := p) (i := 0) (j := m) (by rw [hp.size]; exact hm) k
    rw [if_pos ⟨Nat.zero_le _, hk⟩] at e
    refine Eq.trans e ?_
    congr 1; omega
  rw [key i (by omega), key j h2]
  exact S _ _ (by omega) (by omega)
theorem ends_count (O : Ord n lt d) {p : Array Nat} (hp : Prm n p) (h1 : 1 ≤ n) : Ends lt d (kas_count n p) fun r => 1 ≤ r.1 ∧ r.1 ≤ n ∧ Prm n r.2 ∧ Srt lt r.2 r.1 := by
  refine ends_bind (ends_mono (ends_asc O hp (n - 1) 1 (Nat.le_refl _) (by omega) srt_one) fun m pst0 => ?_)
  obtain ⟨a, b, c, e⟩ := pst0
  by_cases hmn : m = n
  · rw [if_pos (by simp [hmn])]
    exact ends_ret ⟨a, by omega, hp, c⟩
  · rw [if_neg (by simp [hmn])]
    by_cases hm1 : m > 1
    · rw [if_pos hm1]
      refine ends_ask (O.ask _ _ (hp.bd (by omega)) (hp.bd (by omega)) (hp.inj (by omega) (by omega) (by omega))) ?_
      rw [c 0 (m - 1) (by omega) (by omega)]
      exact ends_ret ⟨a, by omega, hp, c⟩
    · rw [if_neg hm1]
      obtain rfl : m = 1 := by omega
      have e' := e (by omega)
      refine ends_bind (ends_mono (ends_desc O hp (n - 2) 2 (by omega) (by omega) fun i j h1 h2 => ?_) fun r pst0 => ?_)
      · obtain rfl : i = 0 := by omega
        obtain rfl : j = 1 := by omega
        exact e'
      · obtain ⟨x1, x2, x3, x4, x5⟩ := pst0
        rw [if_neg (by omega), x1]
        have hq := rev_prm hp 0 r.2.1
        refine ends_bind (ends_mono (ends_asc O hq (n - r.2.1) r.2.1 (by omega) (by omega) (rev_srt hp (by omega) x5)) fun m ⟨a, b, c, _⟩ => ends_ret ⟨by dsimp only; omega, by dsimp only; omega, hq, c⟩)
theorem ends_place (O : Ord n lt d) {p : Array Nat} (hp : Prm n p) {k : Nat} (hk : k < n) (S : Srt lt p k) : ∀ (f l r : Nat), l ≤ r → r ≤ k → r - l ≤ f → (∀ i, i < l → lt (pg p i) (pg p k) = true) → (∀ i, r ≤ i → i < k → lt (pg p k) (pg p i) = true) →
    Ends lt d (kas_place p k f l r) fun m => m ≤ k ∧ (∀ i, i < m → lt (pg p i) (pg p k) = true) ∧ ∀ i, m ≤ i → i < k → lt (pg p k) (pg p i) = true
  | 0, l, r, h1, h2, h3, hl, hr => ends_ret ⟨by omega, hl, fun i a b => hr i (by omega) b⟩
  | f + 1, l, r, h1, h2, h3, hl, hr => by
    unfold kas_place
    by_cases hlr : l ≥ r
    · rw [if_pos hlr]; exact ends_ret ⟨by omega, hl, fun i a b => hr i (by omega) b⟩
    · rw [if_neg hlr]
      have hmid : (l + r) / 2 < k := by omega
      refine ends_ask (O.ask _ _ (hp.bd hk) (hp.bd (by omega)) (hp.inj hk (by omega) (by omega))) ?_
      cases hc : lt (p.getD k 0) (p.getD ((l + r) / 2) 0) with
      | true =>
        refine ends_place O hp hk S f l _ (by omega) (by omega) (by omega) hl fun i a b => ?_
        by_cases e : i = (l + r) / 2
        · subst e; exact hc
        · exact O.tr _ _ _ hc (S _ _ (by omega) b)
      | false =>
        have hg := O.tot _ _ (hp.bd hk) (hp.bd (show (l + r) / 2 < n by omega)) (hp.inj hk (by omega) (by omega)) hc
        refine ends_place O hp hk S f _ r (by omega) h2 (by omega) (fun i a => ?_) hr
        by_cases e : i = (l + r) / 2
        · subst e; exact hg
        · exact O.tr _ _ _ (S _ _ (by omega) hmid) hg
theorem ends_bin (O : Ord n lt d) : ∀ (f : Nat) (p : Array Nat) (k : Nat), k + f = n → Prm n p → Srt lt p k → Ends lt d (kas_bin f p k) fun r => Prm n r ∧ Srt lt r n
  | 0, p, k, h1, hp, S => ends_ret ⟨hp, by rw [← h1]; exact S⟩
  | f + 1, p, k, h1, hp, S => by
    refine ends_bind (ends_mono (ends_place O hp (by omega) S k 0 k (by omega) (by omega) (by omega) (fun i h => by omega) fun i a b => by omega) fun m pst0 => ?_)
    obtain ⟨m1, m2, m3⟩ := pst0
    refine ends_bin O f _ (k + 1) (by omega) (hp.of_perm (bubble_perm _ _ _)) fun i j h2 h3 => ?_
    have key : ∀ t, pg (bubble p k (k - m)) t = if t = m then pg p k else if m < t ∧ t ≤ k then pg p (t - 1) else pg p t := fun t => by
      have e := getElem?_bubble (xs := p) (src := k) (by rw [hp.size]; omega) (k - m) (by omega) t
      rw [show k - (k - m) = m by omega] at e
      by_cases c1 : t = m
      · rw [if_pos c1] at e ⊢; exact pg_congr e
      · rw [if_neg c1] at e ⊢
        by_cases c2 : m < t ∧ t ≤ k
        · rw [if_pos c2] at e ⊢; exact pg_congr e
        · rw [if_neg c2] at e ⊢; exact pg_congr e
    rw [key i, key j]
    by_cases ci : i = m
    · rw [if_pos ci, if_neg (by omega), if_pos ⟨by omega, by omega⟩]
      exact m3 _ (by omega) (by omega)
    · rw [if_neg ci]
      by_cases cj : j = m
      · rw [if_pos cj, if_neg (by omega)]
        exact m2 _ (by omega)
      · rw [if_neg cj]
        by_cases di : m < i ∧ i ≤ k
        · rw [if_pos di, if_pos ⟨by omega, by omega⟩]; exact S _ _ (by omega) (by omega)
        · rw [if_neg di]
          by_cases dj : m < j ∧ j ≤ k
          · rw [if_pos dj]; exact S _ _ (by omega) (by omega)
          · rw [if_neg dj]; exact S _ _ (by omega) (by omega)
theorem ends_sort (O : Ord n lt d) (h1 : 1 ≤ n) : Ends lt d (kas_sort n) fun r => Prm n r ∧ Srt lt r n := by
  refine ends_bind (ends_mono (ends_count O (p := List.toArray (List.range n)) (.refl _) h1) fun r pst0 => ?_)
  obtain ⟨a, b, c, e⟩ := pst0
  by_cases h : r.1 < n
  · rw [if_pos h, show max r.1 1 = r.1 by omega]
    exact ends_bin O _ _ _ (by omega) c e
  · rw [if_neg h]
    exact ends_ret ⟨c, by rw [show n = r.1 by omega]; exact e⟩
end
/-! tuples whose first two differ -/
abbrev key2 (x : K3) : Int × Int := (x.1, x.2.1)
noncomputable def lt2 (a b : Int × Int) : Bool := if a.1 = b.1 then decide (a.2 < b.2) else decide (a.1 < b.1)
theorem lt2_asym {a b : Int × Int} (h : lt2 a b = true) : lt2 b a = false := by
  unfold lt2 at *
  split at h <;> rename_i q
  · have := of_decide_eq_true h; rw [if_pos q.symm]; exact decide_eq_false (by omega)
  · have := of_decide_eq_true h; rw [if_neg (fun e => q e.symm)]; exact decide_eq_false (by omega)
theorem lt2_tot {a b : Int × Int} (hn : a ≠ b) (h : lt2 a b = false) : lt2 b a = true := by
  unfold lt2 at *
  split at h <;> rename_i q
  · have := of_decide_eq_false h; rw [if_pos q.symm]
    refine decide_eq_true ?_
    have : a.2 ≠ b.2 := fun e => hn (Prod.ext q e)
    omega
  · have := of_decide_eq_false h; rw [if_neg (fun e => q e.symm)]; exact decide_eq_true (by omega)
theorem lt2_tr {a b c : Int × Int} (h1 : lt2 a b = true) (h2 : lt2 b c = true) : lt2 a c = true := by
  unfold lt2 at *
  split at h1 <;> split at h2 <;> rename_i q1 q2 <;> have := of_decide_eq_true h1 <;> have := of_decide_eq_true h2
  · rw [if_pos (q1.trans q2)]; exact decide_eq_true (by omega)
  · rw [if_neg (by omega)]; exact decide_eq_true (by omega)
  · rw [if_neg (by omega)]; exact decide_eq_true (by omega)
  · rw [if_neg (by omega)]; exact decide_eq_true (by omega)
theorem sorted_uniq {α : Type} {r : α → α → Bool} (asym : ∀ a b, r a b = true → r b a = false) : ∀ {l l' : List α}, l.Perm l' → l.Pairwise (fun a b => r a b = true) → l'.Pairwise (fun a b => r a b = true) → l = l'
  | [], _, p, _, _ => p.nil_eq
  | x :: l, l', p, h, h' => by
    cases l' with
    | nil => exact absurd p.length_eq (by simp)
    | cons y l' =>
      have e : x = y := by
        rcases List.mem_cons.mp (p.mem_iff.mp (.head _)) with q | q
        · exact q
        · rcases List.mem_cons.mp (p.mem_iff.mpr (.head _)) with q' | q'
          · exact q'.symm
          · have a1 := (List.pairwise_cons.mp h').1 x q
            have a2 := (List.pairwise_cons.mp h).1 y q'
            rw [asym _ _ a1] at a2; cases a2
      subst e
      rw [sorted_uniq asym p.cons_inv (List.pairwise_cons.mp h).2 (List.pairwise_cons.mp h').2]
/-- sorted by hand: the sort gives the same -/
theorem srtK_eq {ks out : List K3} (hp : out.Perm ks) (ho : out.Pairwise fun a b => lt2 (key2 a) (key2 b) = true) : okK ks = true ∧ srtK ks = out := by
  have hne : ∀ i j, i < ks.length → j < ks.length → i ≠ j → key2 (ks.getD i (0, 0, .none)) ≠ key2 (ks.getD j (0, 0, .none)) := by
    have hnd : (ks.map key2).Nodup := by
      refine (hp.map key2).nodup_iff.mp ?_
      rw [List.Nodup, List.pairwise_map]
      refine ho.imp fun {a b} h e => ?_
      have := lt2_asym h
      rw [e] at h this; rw [h] at this; cases this
    intro i j hi hj hij e
    refine hij ((List.getElem?_inj (by rw [List.length_map]; exact hi) hnd).mp ?_)
    rw [List.getElem?_map, List.getElem?_map, List.getElem?_eq_getElem hi, List.getElem?_eq_getElem hj]
    have e1 : ks.getD i (0, 0, .none) = ks[i] := by simp [hi]
    have e2 : ks.getD j (0, 0, .none) = ks[j] := by simp [hj]
    rw [e1, e2] at e
    exact congrArg some e
  have hlt : ∀ i j, ltK ks i j = lt2 (key2 (ks.getD i (0, 0, .none))) (key2 (ks.getD j (0, 0, .none))) := fun _ _ => rfl
  have O : Ord ks.length (ltK ks) (dK ks) := {
    tot := fun i j hi hj hij h => by rw [hlt] at h ⊢; exact lt2_tot (hne i j hi hj hij) h
    asym := fun i j h => by rw [hlt] at h ⊢; exact lt2_asym h
    tr := fun i j k h1 h2 => by rw [hlt] at h1 h2 ⊢; exact lt2_tr h1 h2
    ask := fun i j hi hj hij => by
      unfold dK
      dsimp only
      rw [decide_eq_true hi, decide_eq_true hj, Bool.true_and, Bool.true_and, Bool.not_eq_true']
      rw [Bool.and_eq_false_iff, decide_eq_false_iff_not, decide_eq_false_iff_not]
      by_cases h : (ks.getD i (0, 0, .none)).1 = (ks.getD j (0, 0, .none)).1
      · exact .inr fun h' => hne i j hi hj hij (Prod.ext h h')
      · exact .inl h }
  by_cases h2 : ks.length < 2
  · refine ⟨by unfold okK; rw [decide_eq_true h2]; rfl, ?_⟩
    unfold srtK
    rw [if_pos h2]
    match ks, h2 with
    | [], _ => exact hp.eq_nil.symm
    | [x], _ => exact (List.perm_singleton.mp hp).symm
  · obtain ⟨s1, s2, s3⟩ := ends_sort O (by omega)
    have hl : (runT (ltK ks) (kas_sort ks.length)).toList.length = ks.length := by rw [Array.length_toList]; exact s2.size
    have hm : ∀ i ∈ (runT (ltK ks) (kas_sort ks.length)).toList, i < ks.length := fun i hi => List.mem_range.mp (s2.mem_iff.mp hi)
    refine ⟨?_, ?_⟩
    · unfold okK
      rw [s1, decide_eq_true hl, Bool.and_true, Bool.true_and, Bool.or_eq_true]
      exact .inr (List.all_eq_true.mpr fun i hi => decide_eq_true (hm i hi))
    · unfold srtK
      rw [if_neg h2]
      refine sorted_uniq (r := fun a b => lt2 (key2 a) (key2 b)) (fun _ _ h => lt2_asym h) ?_ ?_ ho
      · refine List.Perm.trans ?_ hp.symm
        have e : (List.range ks.length).map (fun i => ks.getD i (0, 0, .none)) = ks := by
          refine List.ext_getElem (by simp) fun i h1 h2 => ?_
          simp [h2]
        exact (List.Perm.map (fun i => ks.getD i (0, 0, .none)) s2).trans (.of_eq e)
      · rw [List.pairwise_map]
        rw [List.pairwise_iff_getElem]
        intro i j hi hj hij
        have := s3 i j hij (by rw [← hl]; exact hj)
        rw [hlt] at this
        have ge : ∀ i (hi : i < (runT (ltK ks) (kas_sort ks.length)).toList.length), pg (runT (ltK ks) (kas_sort ks.length)) i = (runT (ltK ks) (kas_sort ks.length)).toList[i] := fun i hi => by
          have := pg_eq (p := runT (ltK ks) (kas_sort ks.length)) (i := i) (by rw [← Array.length_toList]; exact hi)
          rw [← Array.getElem?_toList, List.getElem?_eq_getElem hi] at this
          exact (Option.some.inj this).symm
        rw [ge i hi, ge j hj] at this
        exact this
end Mine
namespace Mine
/-- a list of ints that stands from the start -/
noncomputable def Fz (Γ : Gd) (a : Addr) (xs : List Int) : Prop := ∃ vs, Γ.hB.IsList a vs.toArray ∧ IntsAre vs xs
theorem ints_rel {av : Avd} {h : Heap} : ∀ {vs : List Value} {xs : List Int}, IntsAre vs xs → VRels av h (xs.map .int) vs
  | _, _, .nil => .nil
  | _, _, .cons k t r => .cons (.int k t) (ints_rel r)
section
variable {Γ : Gd} {k : Nat} {sc : Scope} {loc : Loc} {σ : Sto} {P : AV → Sto → Prop} {a : Addr} {xs : List Int}
theorem Fz.at (F : Fz Γ a xs) {κ : Kap} {h : Heap} (l : Γ.le κ) (R : RepS κ σ h) : ∃ vs, h.IsList a vs.toArray ∧ VRels κ.av h (xs.map .int) vs := by
  obtain ⟨vs, ⟨o, e, r⟩, hI⟩ := F
  exact ⟨vs, ⟨o, l.up R _ _ e, r⟩, ints_rel hI⟩
theorem fz_plain (F : Fz Γ a xs) : ∀ (A : Around) (κ : Kap) (s : Shared) (O : Value) (Q : Bool → Shared → Prop), Γ.le κ → RepS κ σ s.heap → VRel κ.av s.heap (.ref a) O → Q false s → wpAny Γ.M A (getitemInPython O) Q No s := fun A κ s O Q l R r h => by
  cases r
  obtain ⟨vs, ⟨o, e, hc, _⟩, _⟩ := F.at l R
  unfold getitemInPython
  exact wpAny_bind (wpAny_specialOf ⟨o, e, hc⟩ slot_list_getitem.lookup (wpAny_pure h))
theorem fz_slc (F : Fz Γ a xs) {lo hi : Option Int} (hl : xs.length ≤ sizeLine) (h : ∀ b, P (.ref b) ((b, .list ((pick xs lo hi).map .int)) :: σ)) : Slc Γ k (.ref a) lo hi σ P := fun A κ s O b vl vu hA l R r hs il iu => by
  cases r
  obtain ⟨vs, hL, rs⟩ := F.at l R
  have ep : slicePick vs.toArray lo hi none = (pick vs lo hi).toArray := by
    rw [slicePick_plain]; unfold pick; simp
  have em : (pick xs lo hi).map AV.int = pick (xs.map AV.int) lo hi := by unfold pick; rw [List.length_map, List.map_take, List.map_drop]
  refine wpAny_getItem_list_slice (items := vs.toArray) hL hs il iu .none (by simp) ⟨.ref _, _, _, s.toks, rfl, R.add size_new (push_keeps _) (Heap.get?_push_size _ rfl) (o := .list ((pick xs lo hi).map .int)) ⟨pick vs lo hi, 0, by rw [ep], em ▸ (rs.pick lo hi).mono (.of_keeps (push_keeps _))⟩, .ref _, h _⟩ (by rw [rs.size, List.length_map]; exact hl)
theorem fz_get (F : Fz Γ a xs) {i : Int} {x : Int} (h0 : 0 ≤ i) (hi : i < 2 ^ 63) (hx : xs[i.toNat]? = some x) (h : P (.int x) σ) : Op2 Γ k getItem (.ref a) (.int i) σ P := fun _ κ s _ _ _ l R r r' => by
  cases r; cases r'
  obtain ⟨vs, hL, rs⟩ := F.at l R
  obtain ⟨v, hv, rv⟩ := rs.get (i := i.toNat) (x := .int x) (by rw [List.getElem?_map, hx]; rfl)
  exact wpAny_getItem_list (items := vs.toArray) hL h0 hi (by simpa using hv) ⟨.int x, σ, s.heap, s.toks, rfl, R, rv, h⟩
theorem fz_len (F : Fz Γ a xs) (hl : xs.length ≤ sizeLine) (h : P (.int xs.length) σ) : Cal Γ k (.builtin "len") [.ref a] σ P := fun _ κ s _ _ l R r => by
  cases r with
  | cons x r =>
    cases x; cases r
    obtain ⟨vs, hL, rs⟩ := F.at l R
    refine call_len_list (items := vs.toArray) hL (by rw [rs.size, List.length_map]; rw [sizeLine_eq] at hl; omega) ⟨.int xs.length, σ, s.heap, _, rfl, R, ?_, h⟩
    rw [rs.size, List.length_map]; exact .int _ _
/-- items and slices of such a list -/
theorem ev_itemF {value slice : Expr} {pos : Pos} (F : Fz Γ a xs) (h : Ev Γ k sc value loc σ fun o σ₁ => o = .ref a ∧ Ev Γ k sc slice loc σ₁ fun i σ₂ => Op2 Γ k getItem o i σ₂ P)
    (hs : ∀ o i, subscripted slice false o i = operate [o, i] (getItem o i)) : Ev Γ k sc (.Subscript value slice pos) loc σ P := fun A κ env s hA l f R => by
  rw [arm_eval_Subscript]
  refine wpAny_bind (wpE (h A κ env s hA l f R) fun V₁ o σ₁ h₁ tk₁ q₁ R₁ r₁ p₁ => ?_)
  obtain ⟨rfl, p₁⟩ := p₁
  refine wpAny_bind (wpAny_holding (wpE (s := { s with heap := h₁, toks := tk₁ }) (p₁ A κ env _ hA l f R₁) fun V₂ i σ₂ h₂ tk₂ q₂ R₂ r₂ p₂ => ?_))
  refine wpAny_bind (wpAny_standAt (wpAny_bind (fz_plain F A κ _ V₁ _ l R₂.s (r₁.mono q₂) ?_)))
  rw [hs]
  refine wpAny_bind (wpAny_operating (wp_no (p₂.at (s := { s with heap := h₂, toks := tk₂ }) hA l R₂ (r₁.mono q₂) r₂) fun V₃ s₃ h₃ => ?_))
  exact wpAny_bind (wpAny_letTemporaryGo (wpAny_pure ((h₃.trans (s := { s with heap := h₁, toks := tk₁ }) (tk₁ := tk₂) q₂).trans q₁)))
theorem ev_sliceF {value : Expr} {lower upper : Option Expr} {p pos : Pos} (F : Fz Γ a xs) (h : Ev Γ k sc value loc σ fun o σ₁ => o = .ref a ∧ EvO Γ k sc lower loc σ₁ fun lo σ₂ => EvO Γ k sc upper loc σ₂ fun hi σ₃ => Slc Γ k o lo hi σ₃ P) :
    Ev Γ k sc (.Subscript value (.Slice lower upper none p) pos) loc σ P := fun A κ env s hA l f R => by
  rw [arm_eval_Subscript]
  refine wpAny_bind (wpE (h A κ env s hA l f R) fun V₁ o σ₁ h₁ tk₁ q₁ R₁ r₁ p₁ => ?_)
  obtain ⟨rfl, p₁⟩ := p₁
  refine wpAny_bind (wpAny_holding (wpAny_Slice ?_))
  refine wpO (s := { s with heap := h₁, toks := tk₁ }) p₁ hA l f R₁ fun V₂ lo σ₂ h₂ tk₂ q₂ R₂ i₂ p₂ => ?_
  refine wpO (s := { s with heap := h₂, toks := tk₂ }) p₂ hA l f R₂ fun V₃ hi σ₃ h₃ tk₃ q₃ R₃ i₃ p₃ => ?_
  refine wpAny_evalPart_none ?_
  obtain ⟨q₄, R₄⟩ := R₃.grow (push_keeps { cls := .type "slice", data := .fields #[V₂, V₃, .none] })
  have r₄ := ((r₁.mono q₂).mono q₃).mono q₄
  refine wpAny_bind (wpAny_standAt (wpAny_bind (fz_plain F A κ _ V₁ _ l R₄.s r₄ ?_)))
  show wpAny _ _ ((operate [_, _] (getItem V₁ _)) >>= _) _ _ _
  refine wpAny_bind (wpAny_operating (wpS (p₃ A _ _ V₁ _ V₂ V₃ hA (Gd.le_mx R₄.s l) R₄.s.mx r₄ ⟨_, Heap.get?_push_size _ rfl, rfl, rfl⟩ i₂ i₃) fun V₅ v σ₅ h₅ tk₅ R₅ r₅ p₅ => ?_))
  obtain ⟨q₅, R₅'⟩ := frame_step R₄ R₅
  exact wpAny_bind (wpAny_letTemporaryGo (wpAny_pure ⟨v, σ₅, h₅, tk₅, rfl, (((q₁.trans q₂).trans q₃).trans q₄).trans q₅, R₅', r₅, p₅⟩))
end
end Mine
namespace Mine
noncomputable def fdOf (K : Frag) (a : Addr) : FuncData := match K.lookup a with
  | some ⟨_, _, .func fd, _⟩ => fd
  | _ => default
noncomputable def bodyOf (fd : FuncData) : List Stmt := match fd.body with
  | .stmts b => b
  | _ => []
/-- a def of the program, looked at -/
noncomputable def fnB (K : Frag) (f : Addr) (names : List Str) : Bool := match K.lookup f with
  | some ⟨_, _, .func fd, _⟩ => (match fd.body with | .stmts _ => true | _ => false) && (match fd.code with
      | .ref c => (match K.lookup c with
        | some ⟨_, _, .fields vs, _⟩ => (match (vs[1]? : Option Value) with | some (.str q _) => q == fd.qualname | _ => false)
        | _ => false)
      | _ => false) && decide names.Nodup && fd.globals == mainGlobals && fd.builtins == builtinsNs && !fd.scope.isCoroutine && !fd.scope.isGenerator && (fd.scope.kind == .function) && fd.closure.isEmpty
  | _ => false
theorem fnOkB {Γ : Gd} {K : Frag} {f : Addr} {names : List Str} (X : K.In Γ.hB) (hc : fnB K f names = true) (hb : ∀ Xs : List Value, Xs.length = names.length → bindArgs (fdOf K f) ⟨Xs, []⟩ = pure (names.zip Xs)) : FnOk Γ f (fdOf K f) (bodyOf (fdOf K f)) names := by
  unfold fnB at hc
  split at hc
  · rename_i cl di fd sl hk
    have e : fdOf K f = fd := by unfold fdOf; rw [hk]
    rw [e] at hb ⊢
    simp only [Bool.and_eq_true, beq_iff_eq, Bool.not_eq_true', decide_eq_true_eq, List.isEmpty_iff] at hc
    obtain ⟨⟨⟨⟨⟨⟨⟨⟨h1, h2⟩, h3⟩, h4⟩, h5⟩, h6⟩, h7⟩, h8⟩, h9⟩ := hc
    refine { obj := ⟨_, X _ _ hk, rfl⟩, hb := ?_, code := ?_, bind := hb, nodup := h3, glob := h4, blt := h5, co := h6, gen := h7, kind := h8, clo := h9 }
    · unfold bodyOf
      split at h1
      · rename_i b hb'; rw [hb']
      · cases h1
    · split at h2
      · rename_i c hcd
        split at h2
        · rename_i vs _ hkc
          split at h2
          · rename_i q t hv
            exact ⟨c, _, vs, t, hcd, X _ _ hkc, rfl, by rw [hv, beq_iff_eq.mp h2]⟩
          · cases h2
        · cases h2
      · cases h2
  · cases hc
theorem bind1 {fd : FuncData} {x : Str} (h : ∀ a, bindArgs fd ⟨[a], []⟩ = pure [(x, a)]) (Xs : List Value) (hl : Xs.length = [x].length) : bindArgs fd ⟨Xs, []⟩ = pure ([x].zip Xs) := by
  match Xs, hl with
  | [a], _ => exact h a
theorem bind2 {fd : FuncData} {x y : Str} (h : ∀ a b, bindArgs fd ⟨[a, b], []⟩ = pure [(x, a), (y, b)]) (Xs : List Value) (hl : Xs.length = [x, y].length) : bindArgs fd ⟨Xs, []⟩ = pure ([x, y].zip Xs) := by
  match Xs, hl with
  | [a, b], _ => exact h a b
theorem bind3 {fd : FuncData} {x y z : Str} (h : ∀ a b c, bindArgs fd ⟨[a, b, c], []⟩ = pure [(x, a), (y, b), (z, c)]) (Xs : List Value) (hl : Xs.length = [x, y, z].length) : bindArgs fd ⟨Xs, []⟩ = pure ([x, y, z].zip Xs) := by
  match Xs, hl with
  | [a, b, c], _ => exact h a b c
theorem mul_small {a b : Int} (h1 : 0 ≤ a) (h2 : a < 1000000000) : IntMulOk a b := .of_left (intBits_le_64 (by omega) (by omega))
theorem mul_smallr {a b : Int} (h1 : 0 ≤ b) (h2 : b < 1000000000) : IntMulOk a b := .of_right (intBits_le_64 (by omega) (by omega))
theorem mul_nat {n : Nat} {b : Int} (h : n ≤ 100000) : IntMulOk n b := mul_small (by omega) (by omega)
theorem mul_two {b : Int} : IntMulOk 2 b := mul_small (by decide) (by decide)
theorem mul_three {b : Int} : IntMulOk 3 b := mul_small (by decide) (by decide)
theorem size_small {n : Nat} (h : n ≤ 100) : n ≤ sizeLine := by rw [sizeLine_eq]; omega
noncomputable def isG (K : Frag) (x : Str) (f : Addr) : Bool := match nsIn K mainGlobals x with
  | some (some (.ref g)) => g == f
  | _ => false
noncomputable def isN (K : Frag) (x : Str) : Bool := match nsIn K mainGlobals x with
  | some none => true
  | _ => false
noncomputable def isB (x : Str) (id : String) : Bool := match bootBuiltins x with
  | some (.builtin i) => i == id
  | _ => false
noncomputable def isT (x : Str) (id : String) : Bool := match bootBuiltins x with
  | some (.type i) => i == id
  | _ => false
theorem isG_eq {K : Frag} {x : Str} {f : Addr} (h : isG K x f = true) : nsIn K mainGlobals x = some (some (.ref f)) := by
  unfold isG at h; split at h
  · rename_i e; rw [e, beq_iff_eq.mp h]
  · cases h
theorem isN_eq {K : Frag} {x : Str} (h : isN K x = true) : nsIn K mainGlobals x = some none := by
  unfold isN at h; split at h
  · assumption
  · cases h
theorem isB_eq {x : Str} {id : String} (h : isB x id = true) : bootBuiltins x = some (.builtin id) := by
  unfold isB at h; split at h
  · rename_i e; rw [e, beq_iff_eq.mp h]
  · cases h
theorem isT_eq {x : Str} {id : String} (h : isT x id = true) : bootBuiltins x = some (.type id) := by
  unfold isT at h; split at h
  · rename_i e; rw [e, beq_iff_eq.mp h]
  · cases h
noncomputable def callK (sc : Scope) (x : Str) (es : List Expr) : Bool := es.all noStar && decide (sc.names.lookup x = some .globalImplicit) && !(x == ("__debug__" : Str))
theorem callK_eq {sc : Scope} {x : Str} {es : List Expr} (h : callK sc x es = true) : es.all noStar = true ∧ sc.names.lookup x = some .globalImplicit ∧ (x == ("__debug__" : Str)) = false := by
  unfold callK at h
  simp only [Bool.and_eq_true, Bool.not_eq_true', decide_eq_true_eq] at h
  exact ⟨h.1.1, h.1.2, h.2⟩
section
variable {Γ : Gd} {K : Frag} {mg mb : Str → Option Value} {k : Nat} {sc : Scope} {loc : Loc} {σ : Sto} {x : Str} {p pos : Pos} {es : List Expr} {P : AV → Sto → Prop}
theorem ev_calG (W : Wd Γ K mg mb) (f : Addr) (c : (callK sc x es && isG K x f && keepIn K (.ref f)) = true) (h : Evs Γ k sc es loc σ fun vs σ₂ => Cal Γ k (.ref f) vs σ₂ P) : Ev Γ k sc (.Call (.Name x p) es [] pos) loc σ P := by
  simp only [Bool.and_eq_true] at c
  exact ev_callG W f (callK_eq c.1.1).1 (callK_eq c.1.1).2.1 (isG_eq c.1.2) c.2 (callK_eq c.1.1).2.2 h
theorem ev_calB (W : Wd Γ K mg mb) (id : String) (c : (callK sc x es && isN K x && decide (x ≠ "__name__") && isB x id) = true) (h : Evs Γ k sc es loc σ fun vs σ₂ => Cal Γ k (.builtin id) vs σ₂ P) : Ev Γ k sc (.Call (.Name x p) es [] pos) loc σ P := by
  simp only [Bool.and_eq_true, decide_eq_true_eq] at c
  exact ev_callB W id (callK_eq c.1.1.1).1 (callK_eq c.1.1.1).2.1 (isN_eq c.1.1.2) c.1.2 (isB_eq c.2) (callK_eq c.1.1.1).2.2 h
theorem ev_calT (W : Wd Γ K mg mb) (id : String) (c : (callK sc x es && isN K x && decide (x ≠ "__name__") && isT x id) = true) (h : Evs Γ k sc es loc σ fun vs σ₂ => Cal Γ k (.type id) vs σ₂ P) : Ev Γ k sc (.Call (.Name x p) es [] pos) loc σ P := by
  simp only [Bool.and_eq_true, decide_eq_true_eq] at c
  exact ev_callT W id (callK_eq c.1.1.1).1 (callK_eq c.1.1.1).2.1 (isN_eq c.1.1.2) c.1.2 (isT_eq c.2) (callK_eq c.1.1.1).2.2 h
end
section
variable {Γ : Gd} {k : Nat} {sc : Scope} {loc loc' : Loc} {σ σ' : Sto} {target : Expr} {body : List Stmt} {P : AFl → Loc → Sto → Prop}
/-- loops by their turns; a turn sees nothing of what is behind the loop -/
theorem for_ind2 {ι α : Type} {src : Sto} (L : ι → Loc) (S : ι → Sto) (g : α → AV) (I : List α → ι → Prop) (hsrc : ∀ i, ∀ p ∈ src, p ∈ S i)
    (step : ∀ x xs i (P' : AFl → Loc → Sto → Prop) (A : Loc → Sto → Prop), (∀ j l σ', I xs j → Sub (L j) l → (S j).Sublist σ' → A l σ') → I (x :: xs) i → Asg Γ k sc target (g x) (L i) (S i) fun l₁ σ₁ => Exs Γ k sc body l₁ σ₁ (Turn P' A))
    (done : ∀ i, I [] i → P .next (L i) (S i)) (xs : List α) (i : ι) (h : I xs i) : For Γ k sc target body src (xs.map g) (L i) (S i) P :=
  for_ind L S g I hsrc (fun x xs i h => step x xs i P _ (fun j _ _ a b c => ⟨j, a, b, c⟩) h) done xs i h
theorem whl_ind2 {ι : Type} {test : Expr} (L : ι → Loc) (S : ι → Sto) (rank : ι → Nat) (X : ι → Prop)
    (step : ∀ i (P' : AFl → Loc → Sto → Prop) (A : Loc → Sto → Prop), (∀ j l σ', rank j < rank i → Sub (L j) l → (S j).Sublist σ' → A l σ') → Ts Γ k sc test (L i) (S i) fun b σ' => Both b (Exs Γ k sc body (L i) σ' (Turn P' A)) (X i ∧ σ' = S i))
    (done : ∀ i, X i → P .next (L i) (S i)) (i : ι) : Whl Γ k sc test body (L i) (S i) P :=
  whl_ind L S rank (fun i => ts_mono (step i P _ fun j _ _ a b c => ⟨j, a, b, c⟩) fun b σ' h => ⟨h.1, fun e => (h.2 e).2 ▸ done i (h.2 e).1⟩) i
/-- the same for a loop over iter(read, end): with one way out by 'return' -/
theorem forC_ind2 {ι : Type} {z : Str} {zp : Pos} {it : Addr} (L : ι → Loc) (S : ι → Sto) (rank : ι → Nat) (X : ι → Sto → Prop) (v0 : AV) (σ0 : Sto)
    (step : ∀ i (P' : AFl → Loc → Sto → Prop) (A : Loc → Sto → Prop), (∀ j l σ', rank j < rank i → Sub (L j) l → (S j).Sublist σ' → A l σ') → (∀ l σ', σ0.Sublist σ' → P' (.ret v0) l σ') → Nx Γ k it (S i) fun r σ₁ => match r with
      | none => X i σ₁
      | some v => Asg Γ k sc (.Name z zp) v (L i) σ₁ fun l σ₂ => Exs Γ k sc body l σ₂ (Turn P' A))
    (ret : ∀ l σ', σ0.Sublist σ' → P (.ret v0) l σ') (done : ∀ i σ₁, X i σ₁ → P .next (L i) σ₁) (i : ι) : ForC Γ k sc (.Name z zp) body it (L i) (S i) P := by
  refine forC_ind L S rank (fun i A κ s hA l R => wp_no (step i P (fun l σ' => ∃ j, rank j < rank i ∧ Sub (L j) l ∧ (S j).Sublist σ') (fun j _ _ a b c => ⟨j, a, b, c⟩) ret A κ s hA l R) fun r s' h => ?_) i
  obtain ⟨v, σ', h', tk, e, R', m, p⟩ := h
  refine ⟨v, σ', h', tk, e, R', m, ?_⟩
  cases v with
  | none => exact done i _ p
  | some v => exact p
theorem cmp_ind2 {ι α : Type} {elt iter : Expr} {scope : Scope} {pos : Pos} {src : Sto} {D : Addr} {P : Sto → Prop} (L : Loc) (S : ι → Sto) (g : α → AV) (I : List α → ι → Prop) (hsrc : ∀ i, ∀ p ∈ src, p ∈ S i)
    (step : ∀ x xs i (A : AV → Sto → Prop), (∀ y ys σ₃ σ₄ j, At σ₃ D (.list ys) (.list (ys ++ [y])) σ₄ → ys.length ≤ sizeLine → I xs j → σ₄ = S j → A y σ₃) → I (x :: xs) i → Asg Γ k sc target (g x) L (S i) fun l₁ σ₁ => Sub L l₁ ∧ Ev Γ k sc elt l₁ σ₁ A)
    (done : ∀ i, I [] i → P (S i)) (xs : List α) (i : ι) (h : I xs i) : Cmp Γ k sc target [] elt iter scope pos src D (xs.map g) L (S i) P :=
  cmp_ind L S g I hsrc (fun x xs i h A κ env s V hA le f R r => wpA (step x xs i (fun y σ₃ => ∃ ys j, At σ₃ D (.list ys) (.list (ys ++ [y])) (S j) ∧ ys.length ≤ sizeLine ∧ I xs j) (fun _ ys _ _ j a b c e => ⟨ys, j, e ▸ a, b, c⟩) h A κ env s V hA le f R r) fun l₁ σ₁ h' tk q R' p =>
    ⟨l₁, σ₁, h', tk, rfl, q, R', ev_mono p.2 fun y σ₃ z => z.elim fun ys z => z.elim fun j z => ⟨ys, S j, z.1, z.2.1, j, z.2.2, p.1, rfl⟩⟩) done xs i h
end
end Mine
namespace Mine
theorem a2 {a b g : Prop} (h : a ∧ b) (f : a → b → g) : g := f h.1 h.2
theorem a3 {a b c g : Prop} (h : a ∧ b ∧ c) (f : a → b → c → g) : g := f h.1 h.2.1 h.2.2
theorem a4 {a b c d g : Prop} (h : a ∧ b ∧ c ∧ d) (f : a → b → c → d → g) : g := f h.1 h.2.1 h.2.2.1 h.2.2.2
theorem a5 {a b c d e g : Prop} (h : a ∧ b ∧ c ∧ d ∧ e) (f : a → b → c → d → e → g) : g := f h.1 h.2.1 h.2.2.1 h.2.2.2.1 h.2.2.2.2
section
variable {Γ : Gd} {k : Nat} {sc : Scope} {loc loc' : Loc} {σ σ' : Sto} {target : Expr} {body : List Stmt} {P : AFl → Loc → Sto → Prop}
theorem whl_i {ι : Type} {test : Expr} (L : ι → Loc) (S : ι → Sto) (rank : ι → Nat) (I X : ι → Prop)
    (step : ∀ i (P' : AFl → Loc → Sto → Prop) (A : Loc → Sto → Prop), (∀ j l σ', I j → rank j < rank i → Sub (L j) l → (S j).Sublist σ' → A l σ') → I i → Ts Γ k sc test (L i) (S i) fun b σ' => Both b (Exs Γ k sc body (L i) σ' (Turn P' A)) (X i ∧ σ' = S i))
    (done : ∀ i, I i → X i → P .next (L i) (S i)) (i : ι) (h : I i) : Whl Γ k sc test body (L i) (S i) P :=
  whl_ind2 (ι := { i // I i }) (fun i => L i.1) (fun i => S i.1) (fun i => rank i.1) (fun i => X i.1) (fun i P' A hA => step i.1 P' A (fun j l σ' q => hA ⟨j, q⟩ l σ') i.2) (fun i => done i.1 i.2) ⟨i, h⟩
theorem forC_i {ι : Type} {z : Str} {zp : Pos} {it : Addr} (L : ι → Loc) (S : ι → Sto) (rank : ι → Nat) (I : ι → Prop) (X : Sto → Prop) (v0 : AV) (σ0 : Sto)
    (step : ∀ i (P' : AFl → Loc → Sto → Prop) (A : Loc → Sto → Prop), (∀ j l σ', I j → rank j < rank i → Sub (L j) l → (S j).Sublist σ' → A l σ') → (∀ l σ', σ0.Sublist σ' → P' (.ret v0) l σ') → I i → Nx Γ k it (S i) fun r σ₁ => match r with
      | none => X σ₁
      | some v => Asg Γ k sc (.Name z zp) v (L i) σ₁ fun l σ₂ => Exs Γ k sc body l σ₂ (Turn P' A))
    (ret : ∀ l σ', σ0.Sublist σ' → P (.ret v0) l σ') (done : ∀ i σ₁, X σ₁ → P .next (L i) σ₁) (i : ι) (h : I i) : ForC Γ k sc (.Name z zp) body it (L i) (S i) P :=
  forC_ind2 (ι := { i // I i }) (fun i => L i.1) (fun i => S i.1) (fun i => rank i.1) (fun _ => X) v0 σ0 (fun i P' A hA r => step i.1 P' A (fun j l σ' q => hA ⟨j, q⟩ l σ') r i.2) ret (fun i => done i.1) ⟨i, h⟩
theorem whl_c2 {α₁ α₂ : Type} {test : Expr} (L : α₁ → α₂ → Loc) (S : α₁ → α₂ → Sto) (rank : α₁ → α₂ → Nat) (I X : α₁ → α₂ → Prop)
    (step : ∀ a b (P' : AFl → Loc → Sto → Prop) (A : Loc → Sto → Prop), (∀ a' b' l σ', I a' b' → rank a' b' < rank a b → Sub (L a' b') l → (S a' b').Sublist σ' → A l σ') → I a b → Ts Γ k sc test (L a b) (S a b) fun t σ' => Both t (Exs Γ k sc body (L a b) σ' (Turn P' A)) (X a b ∧ σ' = S a b))
    (done : ∀ a b, I a b → X a b → P .next (L a b) (S a b)) (a b) (h : I a b) : Whl Γ k sc test body (L a b) (S a b) P :=
  whl_i (fun i => L i.1 i.2) (fun i => S i.1 i.2) (fun i => rank i.1 i.2) (fun i => I i.1 i.2) (fun i => X i.1 i.2) (fun i P' A hA h => step i.1 i.2 P' A (fun a' b' => hA (a', b')) h) (fun i => done i.1 i.2) (a, b) h
theorem whl_c3 {α₁ α₂ α₃ : Type} {test : Expr} (L : α₁ → α₂ → α₃ → Loc) (S : α₁ → α₂ → α₃ → Sto) (rank : α₁ → α₂ → α₃ → Nat) (I X : α₁ → α₂ → α₃ → Prop)
    (step : ∀ a b c (P' : AFl → Loc → Sto → Prop) (A : Loc → Sto → Prop), (∀ a' b' c' l σ', I a' b' c' → rank a' b' c' < rank a b c → Sub (L a' b' c') l → (S a' b' c').Sublist σ' → A l σ') → I a b c → Ts Γ k sc test (L a b c) (S a b c) fun t σ' => Both t (Exs Γ k sc body (L a b c) σ' (Turn P' A)) (X a b c ∧ σ' = S a b c))
    (done : ∀ a b c, I a b c → X a b c → P .next (L a b c) (S a b c)) (a b c) (h : I a b c) : Whl Γ k sc test body (L a b c) (S a b c) P :=
  whl_i (fun i => L i.1 i.2.1 i.2.2) (fun i => S i.1 i.2.1 i.2.2) (fun i => rank i.1 i.2.1 i.2.2) (fun i => I i.1 i.2.1 i.2.2) (fun i => X i.1 i.2.1 i.2.2) (fun i P' A hA h => step i.1 i.2.1 i.2.2 P' A (fun a' b' c' => hA (a', b', c')) h) (fun i => done i.1 i.2.1 i.2.2) (a, b, c) h
theorem whl_c5 {α₁ α₂ α₃ α₄ α₅ : Type} {test : Expr} (L : α₁ → α₂ → α₃ → α₄ → α₅ → Loc) (S : α₁ → α₂ → α₃ → α₄ → α₅ → Sto) (rank : α₁ → α₂ → α₃ → α₄ → α₅ → Nat) (I X : α₁ → α₂ → α₃ → α₄ → α₅ → Prop)
    (step : ∀ a b c d e (P' : AFl → Loc → Sto → Prop) (A : Loc → Sto → Prop), (∀ a' b' c' d' e' l σ', I a' b' c' d' e' → rank a' b' c' d' e' < rank a b c d e → Sub (L a' b' c' d' e') l → (S a' b' c' d' e').Sublist σ' → A l σ') → I a b c d e → Ts Γ k sc test (L a b c d e) (S a b c d e) fun t σ' => Both t (Exs Γ k sc body (L a b c d e) σ' (Turn P' A)) (X a b c d e ∧ σ' = S a b c d e))
    (done : ∀ a b c d e, I a b c d e → X a b c d e → P .next (L a b c d e) (S a b c d e)) (a b c d e) (h : I a b c d e) : Whl Γ k sc test body (L a b c d e) (S a b c d e) P :=
  whl_i (fun i => L i.1 i.2.1 i.2.2.1 i.2.2.2.1 i.2.2.2.2) (fun i => S i.1 i.2.1 i.2.2.1 i.2.2.2.1 i.2.2.2.2) (fun i => rank i.1 i.2.1 i.2.2.1 i.2.2.2.1 i.2.2.2.2) (fun i => I i.1 i.2.1 i.2.2.1 i.2.2.2.1 i.2.2.2.2) (fun i => X i.1 i.2.1 i.2.2.1 i.2.2.2.1 i.2.2.2.2) (fun i P' A hA h => step i.1 i.2.1 i.2.2.1 i.2.2.2.1 i.2.2.2.2 P' A (fun a' b' c' d' e' => hA (a', b', c', d', e')) h) (fun i => done i.1 i.2.1 i.2.2.1 i.2.2.2.1 i.2.2.2.2) (a, b, c, d, e) h
theorem whl_c6 {α₁ α₂ α₃ α₄ α₅ α₆ : Type} {test : Expr} (L : α₁ → α₂ → α₃ → α₄ → α₅ → α₆ → Loc) (S : α₁ → α₂ → α₃ → α₄ → α₅ → α₆ → Sto) (rank : α₁ → α₂ → α₃ → α₄ → α₅ → α₆ → Nat) (I X : α₁ → α₂ → α₃ → α₄ → α₅ → α₆ → Prop)
    (step : ∀ a b c d e f (P' : AFl → Loc → Sto → Prop) (A : Loc → Sto → Prop), (∀ a' b' c' d' e' f' l σ', I a' b' c' d' e' f' → rank a' b' c' d' e' f' < rank a b c d e f → Sub (L a' b' c' d' e' f') l → (S a' b' c' d' e' f').Sublist σ' → A l σ') → I a b c d e f → Ts Γ k sc test (L a b c d e f) (S a b c d e f) fun t σ' => Both t (Exs Γ k sc body (L a b c d e f) σ' (Turn P' A)) (X a b c d e f ∧ σ' = S a b c d e f))
    (done : ∀ a b c d e f, I a b c d e f → X a b c d e f → P .next (L a b c d e f) (S a b c d e f)) (a b c d e f) (h : I a b c d e f) : Whl Γ k sc test body (L a b c d e f) (S a b c d e f) P :=
  whl_i (fun i => L i.1 i.2.1 i.2.2.1 i.2.2.2.1 i.2.2.2.2.1 i.2.2.2.2.2) (fun i => S i.1 i.2.1 i.2.2.1 i.2.2.2.1 i.2.2.2.2.1 i.2.2.2.2.2) (fun i => rank i.1 i.2.1 i.2.2.1 i.2.2.2.1 i.2.2.2.2.1 i.2.2.2.2.2) (fun i => I i.1 i.2.1 i.2.2.1 i.2.2.2.1 i.2.2.2.2.1 i.2.2.2.2.2) (fun i => X i.1 i.2.1 i.2.2.1 i.2.2.2.1 i.2.2.2.2.1 i.2.2.2.2.2) (fun i P' A hA h => step i.1 i.2.1 i.2.2.1 i.2.2.2.1 i.2.2.2.2.1 i.2.2.2.2.2 P' A (fun a' b' c' d' e' f' => hA (a', b', c', d', e', f')) h) (fun i => done i.1 i.2.1 i.2.2.1 i.2.2.2.1 i.2.2.2.2.1 i.2.2.2.2.2) (a, b, c, d, e, f) h
theorem forC_c2 {α₁ α₂ : Type} {z : Str} {zp : Pos} {it : Addr} (L : α₁ → α₂ → Loc) (S : α₁ → α₂ → Sto) (rank : α₁ → α₂ → Nat) (I : α₁ → α₂ → Prop) (X : Sto → Prop) (v0 : AV) (σ0 : Sto)
    (step : ∀ a b (P' : AFl → Loc → Sto → Prop) (A : Loc → Sto → Prop), (∀ a' b' l σ', I a' b' → rank a' b' < rank a b → Sub (L a' b') l → (S a' b').Sublist σ' → A l σ') → (∀ l σ', σ0.Sublist σ' → P' (.ret v0) l σ') → I a b → Nx Γ k it (S a b) fun r σ₁ => match r with
      | none => X σ₁
      | some v => Asg Γ k sc (.Name z zp) v (L a b) σ₁ fun l σ₂ => Exs Γ k sc body l σ₂ (Turn P' A))
    (ret : ∀ l σ', σ0.Sublist σ' → P (.ret v0) l σ') (done : ∀ a b σ₁, X σ₁ → P .next (L a b) σ₁) (a b) (h : I a b) : ForC Γ k sc (.Name z zp) body it (L a b) (S a b) P :=
  forC_i (fun i => L i.1 i.2) (fun i => S i.1 i.2) (fun i => rank i.1 i.2) (fun i => I i.1 i.2) X v0 σ0 (fun i P' A hA r h => step i.1 i.2 P' A (fun a' b' => hA (a', b')) r h) ret (fun i => done i.1 i.2) (a, b) h
theorem forC_c4 {α₁ α₂ α₃ α₄ : Type} {z : Str} {zp : Pos} {it : Addr} (L : α₁ → α₂ → α₃ → α₄ → Loc) (S : α₁ → α₂ → α₃ → α₄ → Sto) (rank : α₁ → α₂ → α₃ → α₄ → Nat) (I : α₁ → α₂ → α₃ → α₄ → Prop) (X : Sto → Prop) (v0 : AV) (σ0 : Sto)
    (step : ∀ a b c d (P' : AFl → Loc → Sto → Prop) (A : Loc → Sto → Prop), (∀ a' b' c' d' l σ', I a' b' c' d' → rank a' b' c' d' < rank a b c d → Sub (L a' b' c' d') l → (S a' b' c' d').Sublist σ' → A l σ') → (∀ l σ', σ0.Sublist σ' → P' (.ret v0) l σ') → I a b c d → Nx Γ k it (S a b c d) fun r σ₁ => match r with
      | none => X σ₁
      | some v => Asg Γ k sc (.Name z zp) v (L a b c d) σ₁ fun l σ₂ => Exs Γ k sc body l σ₂ (Turn P' A))
    (ret : ∀ l σ', σ0.Sublist σ' → P (.ret v0) l σ') (done : ∀ a b c d σ₁, X σ₁ → P .next (L a b c d) σ₁) (a b c d) (h : I a b c d) : ForC Γ k sc (.Name z zp) body it (L a b c d) (S a b c d) P :=
  forC_i (fun i => L i.1 i.2.1 i.2.2.1 i.2.2.2) (fun i => S i.1 i.2.1 i.2.2.1 i.2.2.2) (fun i => rank i.1 i.2.1 i.2.2.1 i.2.2.2) (fun i => I i.1 i.2.1 i.2.2.1 i.2.2.2) X v0 σ0 (fun i P' A hA r h => step i.1 i.2.1 i.2.2.1 i.2.2.2 P' A (fun a' b' c' d' => hA (a', b', c', d')) r h) ret (fun i => done i.1 i.2.1 i.2.2.1 i.2.2.2) (a, b, c, d) h
theorem for_c2 {β α₁ α₂ : Type} {src : Sto} (L : α₁ → α₂ → Loc) (S : α₁ → α₂ → Sto) (g : β → AV) (I : List β → α₁ → α₂ → Prop) (hsrc : ∀ a b, ∀ p ∈ src, p ∈ S a b)
    (step : ∀ x xs a b (P' : AFl → Loc → Sto → Prop) (A : Loc → Sto → Prop), (∀ a' b' l σ', I xs a' b' → Sub (L a' b') l → (S a' b').Sublist σ' → A l σ') → I (x :: xs) a b → Asg Γ k sc target (g x) (L a b) (S a b) fun l₁ σ₁ => Exs Γ k sc body l₁ σ₁ (Turn P' A))
    (done : ∀ a b, I [] a b → P .next (L a b) (S a b)) (xs : List β) (a b) (h : I xs a b) : For Γ k sc target body src (xs.map g) (L a b) (S a b) P :=
  for_ind2 (fun i => L i.1 i.2) (fun i => S i.1 i.2) g (fun xs i => I xs i.1 i.2) (fun i => hsrc i.1 i.2) (fun x xs i P' A hA h => step x xs i.1 i.2 P' A (fun a' b' => hA (a', b')) h) (fun i => done i.1 i.2) xs (a, b) h
theorem cmp_c4 {β α₁ α₂ α₃ α₄ : Type} {elt iter : Expr} {scope : Scope} {pos : Pos} {src : Sto} {D : Addr} {P : Sto → Prop} (L : Loc) (S : α₁ → α₂ → α₃ → α₄ → Sto) (g : β → AV) (I : List β → α₁ → α₂ → α₃ → α₄ → Prop) (hsrc : ∀ a b c d, ∀ p ∈ src, p ∈ S a b c d)
    (step : ∀ x xs a b c d (A : AV → Sto → Prop), (∀ y ys σ₃ σ₄ a' b' c' d', At σ₃ D (.list ys) (.list (ys ++ [y])) σ₄ → ys.length ≤ sizeLine → I xs a' b' c' d' → σ₄ = S a' b' c' d' → A y σ₃) → I (x :: xs) a b c d → Asg Γ k sc target (g x) L (S a b c d) fun l₁ σ₁ => Sub L l₁ ∧ Ev Γ k sc elt l₁ σ₁ A)
    (done : ∀ a b c d, I [] a b c d → P (S a b c d)) (xs : List β) (a b c d) (h : I xs a b c d) : Cmp Γ k sc target [] elt iter scope pos src D (xs.map g) L (S a b c d) P :=
  cmp_ind2 L (fun i => S i.1 i.2.1 i.2.2.1 i.2.2.2) g (fun xs i => I xs i.1 i.2.1 i.2.2.1 i.2.2.2) (fun i => hsrc i.1 i.2.1 i.2.2.1 i.2.2.2) (fun x xs i A hA h => step x xs i.1 i.2.1 i.2.2.1 i.2.2.2 A (fun y ys σ₃ σ₄ a' b' c' d' => hA y ys σ₃ σ₄ (a', b', c', d')) h) (fun i => done i.1 i.2.1 i.2.2.1 i.2.2.2) xs (a, b, c, d) h
end
end Mine
namespace Mine
open PySem.SeqAt MeetsSeq MeetsSeq2 MeetsSeq3 SeqRoads2
open AutoSeq1 (wpAny_loadPart')
/-! tuples compared by <, and the least of a list of them -/
theorem tup_ltAt (l b : Addr) (items items2 : Array Value) (n n2 : Nat) (e : Nat → Bool) (r : Bool) :
    Meets (Builtin.«tuple.__lt__» ⟨[.ref l, .ref b], []⟩)
      (fun A R s => s.heap.get? l = some { cls := .type "tuple", data := .seq items n } ∧ s.heap.get? b = some { cls := .type "tuple", data := .seq items2 n2 } ∧
        (∀ j (h1 : j < items.size) (h2 : j < items2.size), EqAt A.in1 s items[j] items2[j] (e j)) ∧
        (∀ j (h1 : j < items.size) (h2 : j < items2.size), (∀ i, i < j → e i = true) → e j = false → ∀ (prog : Program) (w : World) (E Q : Value → Shared → Prop), Q (.bool r) s → wpAny (model prog w) A.in1 (richCompare .Lt items[j] items2[j]) Q E s) ∧
        ((∀ i, i < min items.size items2.size → e i = true) → decide (items.size < items2.size) = r) ∧
        R (.ok (.ret (.bool r))) s) :=
  .of_wp fun prog w A R s h => by
    obtain ⟨hp, g, d, tk, os⟩ := s; obtain ⟨hl, hb, he, hlt', hsz, hR⟩ := h
    have f2 := AutoSeq1.sub_tuple_tuple
    have hZ : (items.toList.zip items2.toList).length = min items.size items2.size := by simp
    wp_walk using wpAny_loadPart' hl, wpAny_loadPart' hb, wpAny_forIn_list _ (fun rest b s' => b.1 = none ∧ s' = ⟨hp, g, d, tk, os⟩ ∧ ∃ i, rest = (items.toList.zip items2.toList).drop i ∧ (∀ j, j < i → j < min items.size items2.size → e j = true)) _
    case turn =>
      rintro ⟨y, x⟩ rest b s' ⟨hb', rfl, i, hz, hi⟩
      have hlt : i < (items.toList.zip items2.toList).length := by
        rcases Nat.lt_or_ge i (items.toList.zip items2.toList).length with h' | h'
        · exact h'
        · rw [List.drop_of_length_le h'] at hz; cases hz
      have hm : i < min items.size items2.size := hZ ▸ hlt
      have h1 : i < items.size := Nat.lt_of_lt_of_le hm (Nat.min_le_left _ _)
      have h2 : i < items2.size := Nat.lt_of_lt_of_le hm (Nat.min_le_right _ _)
      rw [List.drop_eq_getElem_cons hlt] at hz
      injection hz with hyx hrest
      have hy : y = items[i] := by have := congrArg Prod.fst hyx; simpa using this
      have hx : x = items2[i] := by have := congrArg Prod.snd hyx; simpa using this
      subst hy hx
      refine wpAny_bind (he i h1 h2 prog w _ _ ?_)
      cases hy : e i with
      | true =>
        wp_walk
        refine ⟨rfl, rfl, i + 1, hrest, fun j hj hjm => ?_⟩
        rcases Nat.lt_succ_iff_lt_or_eq.mp hj with h | h
        · exact hi j h hjm
        · exact h ▸ hy
      | false =>
        show wpAny _ _ (do rule "tuple.compare.by-the-first-pair-that-differs"; let v ← richCompare .Lt items[i] items2[i]; let q ← ret v; pure (ForInStep.done (some q, ()))) _ _ _
        refine wpAny_bind (wpAny_rule (wpAny_bind (wpAny_mono (hlt' i h1 h2 (fun j hj => hi j hj (Nat.lt_trans hj hm)) hy prog w (fun _ _ => False) (fun v s' => v = .bool r ∧ s' = ⟨hp, g, d, tk, os⟩) ⟨rfl, rfl⟩) (fun v s' hv => ?_) fun _ _ x => x.elim)))
        obtain ⟨rfl, rfl⟩ := hv
        wp_walk
        exact ⟨_, rfl, hR⟩
    case fin =>
      rintro ⟨b1, b2⟩ s' ⟨hb', rfl, i, hz, hi⟩
      simp only at hb'
      subst hb'
      have hge : min items.size items2.size ≤ i := by
        rcases Nat.lt_or_ge i (items.toList.zip items2.toList).length with h' | h'
        · rw [List.drop_eq_getElem_cons h'] at hz; cases hz
        · exact hZ ▸ h'
      have hr := hsz fun j hj => hi j (Nat.lt_of_lt_of_le hj hge) hj
      subst hr
      wp_walk
      exact ⟨_, rfl, by simpa [Builtin.Tuple.tupleCompareSizes] using hR⟩
    case h =>
      exact ⟨rfl, rfl, 0, rfl, fun j hj => absurd hj (Nat.not_lt_zero j)⟩
abbrev IS := Int × Str
noncomputable def ltIS (p q : IS) : Bool := if p.1 = q.1 then decide (p.2.cps.toList < q.2.cps.toList) else decide (p.1 < q.1)
abbrev pIS (p : IS) : AV := .tup [.int p.1, .str p.2]
section
variable {prog : Program} {w : World} {A : Around} {E : Value → Shared → Prop} {s : Shared}
theorem rc_pair {l b : Addr} {a c : Int} {x y : Str} {t u t' u' : Tok} {n n2 : Nat} {Q : Value → Shared → Prop} (hl : s.heap.get? l = some { cls := .type "tuple", data := .seq #[.int a t, .str x t'] n })
    (hb : s.heap.get? b = some { cls := .type "tuple", data := .seq #[.int c u, .str y u'] n2 }) (hu : A.units < cLine) (h : Q (.bool (ltIS (a, x) (c, y))) s) : wpAny (model prog w) A (richCompare .Lt (.ref l) (.ref b)) Q E s := by
  refine richCompare_meets_room (op := .Lt) ⟨_, hl, rfl⟩ ⟨_, hb, rfl⟩ F.slot_tuple_lt F.entry_tuple_lt (F.args_tuple_lt_2 _ _) (tup_ltAt l b #[.int a t, .str x t'] #[.int c u, .str y u'] n n2 (fun j => if j = 0 then a == c else x == y) (ltIS (a, x) (c, y)))
    ⟨hl, hb, fun j h1 h2 => ?_, fun j h1 h2 he hf prog w E Q hq => ?_, fun he => ?_, show Value.bool (ltIS (a, x) (c, y)) ≠ Value.notImplemented ∧ Q (.bool (ltIS (a, x) (c, y))) s from ⟨(fun z => nomatch z), h⟩⟩ hu
  · match j, h1 with
    | 0, _ => exact EqAt.int_int a t c u
    | 1, _ => exact EqAt.str_str x t' y u'
  · match j, h1 with
    | 0, _ =>
      have hne : ¬ a = c := by simpa using hf
      unfold ltIS at hq
      dsimp only at hq
      rw [if_neg hne] at hq
      exact richCompare_gives (op := .Lt) (typeIs_int s _ t) (typeIs_int s _ u) F.slot_int_lt F.entry_int_lt (F.args_int_lt_2 _ _) (gives_int_lt _ _ t u) (fun x => nomatch x) hq
    | 1, _ =>
      have e0 : a = c := by simpa using he 0 (by decide)
      unfold ltIS at hq
      dsimp only at hq
      rw [if_pos e0] at hq
      exact richCompare_gives (op := .Lt) (typeIs_str s x t') (typeIs_str s y u') F.slot_str_lt F.entry_str_lt (F.args_str_lt_2 _ _) (gives_str_lt x y t' u') (fun e => nomatch e) hq
  · have e0 : a = c := by simpa using he 0 (by simp)
    have e1 : x = y := by simpa using he 1 (by simp)
    subst e0; subst e1
    unfold ltIS
    dsimp only
    rw [if_pos rfl]
    show decide (2 < 2) = _
    rw [decide_eq_false (by decide), decide_eq_false (List.lt_irrefl _)]
end
section
variable {prog : Program} {w : World} {A : Around} {E : Value → Shared → Prop} {R : Result → Shared → Prop} {I : Addr} {fp wr : List Addr} {n : Nat} {P : Nat → Value → Prop} {St : Nat → Heap → Prop}
/-- what stands while min goes round -/
noncomputable def Bs (K : Addr → Option Obj) (h : Heap) : Prop := ∀ b o, K b = some o → h.get? b = some o
noncomputable def CmpK (prog : Program) (w : World) (A : Around) (K : Addr → Option Obj) (P : Nat → Value → Prop) (bt : Nat → Nat → Bool) : Prop :=
  ∀ i j vi vj (s : Shared) (Q : Value → Shared → Prop) (E : Value → Shared → Prop), Bs K s.heap → P i vi → P j vj → Q (.bool (bt i j)) s → wpAny (model prog w) A (richCompare .Lt vi vj) Q E s
theorem min_loopK {K : Addr → Option Obj} (W : Walks prog w A.in1 I fp wr n P St) (bt : Nat → Nat → Bool) (hcmp : CmpK prog w A.in1 K P bt) (S : Addr) (hSf : S ∉ fp) (hK : ∀ b o, K b = some o → b ∉ wr ∧ b ≠ S) :
    ∀ (k j : Nat) (s : Shared) (vb : Value) (c : Nat), n - (j + 1) = k → j + 1 ≤ n → St (j + 1) s.heap → Bs K s.heap → P (argBest bt j) vb →
    s.heap.get? S = some { cls := .type "list", dict := none, data := .seq #[vb, vb] c, slots := #[] } →
    (∀ v h' tk, P (argBest bt (n - 1)) v → (∀ b o, b ∉ wr → b ≠ S → s.heap.get? b = some o → h'.get? b = some o) → R (.ok (.ret v)) { s with heap := h', toks := tk }) →
    codeAny (model prog w) A (.builtin "min.loop" ⟨[.ref I, .none, .ref S], []⟩) R s := by
  have hSw : S ∉ wr := fun h => hSf (W.sub _ h)
  have hname : (toString "min" ++ toString ".loop" : String) = "min.loop" := by decide
  intro k
  induction k with
  | zero =>
    intro j s vb c hk hj hst hB hPb hS hR
    have hin : j + 1 = n := by omega
    refine codeAny_builtin F.entry_min_loop ?_
    rw [Around.under_plainId F.plain_min_loop _]
    show wpAny _ A.in1 (seqItems? (.ref S) >>= _) _ _ s
    refine wpAny_bind (wpAny_seqItems hS rfl ?_)
    show wpAny _ A.in1 (tryCatch (pyNext (.ref I)) _ >>= _) _ _ s
    refine wpAny_bind (wpAny_tryCatch (W.done s _ _ (hin ▸ hst) fun h' tk hk' => ?_))
    have hS' := hk' S _ hSw hS
    show wpAny _ A.in1 (updateSeq S (fun _ => #[]) >>= _) _ _ _
    refine wpAny_bind ?_
    refine wpAny_updateSeq hS' rfl (wpAny_bind (wpAny_letGo (wpAny_pure ?_)))
    refine hR vb _ tk (by rw [← hin]; exact hPb) fun b o hbw hbS e => (Heap.get?_update_other _ _ (Ne.symm hbS)).trans (hk' b o hbw e)
  | succ k ih =>
    intro j s vb c hk hj hst hB hPb hS hR
    have hlt : j + 1 < n := by omega
    refine codeAny_builtin F.entry_min_loop ?_
    rw [Around.under_plainId F.plain_min_loop _]
    show wpAny _ A.in1 (seqItems? (.ref S) >>= _) _ _ s
    refine wpAny_bind (wpAny_seqItems hS rfl ?_)
    show wpAny _ A.in1 (tryCatch (pyNext (.ref I)) _ >>= _) _ _ s
    refine wpAny_bind (wpAny_tryCatch (W.item (j + 1) s _ _ hlt hst fun v h' tk hP hst' hk' => ?_))
    have hS' := hk' S _ hSw hS
    have hB' : Bs K h' := fun b o e => hk' b o (hK b o e).1 (hB b o e)
    show wpAny _ A.in1 (tryCatch (holding [v, v] (richCompare .Lt v vb >>= _)) _ >>= _) _ _ _
    refine wpAny_bind (wpAny_tryCatch (wpAny_holding (wpAny_bind (hcmp (j + 1) (argBest bt j) v vb _ _ _ hB' hP hPb ?_))))
    refine wpAny_bind (wpAny_holding (wpAny_truthy_bool ?_))
    refine wpAny_bind (wpAny_letGo (wpAny_pure ?_))
    cases hb : bt (j + 1) (argBest bt j) with
    | true =>
      simp only [if_true]
      refine wpAny_bind ?_
      refine wpAny_updateSeq hS' rfl (wpAny_bind (wpAny_letGo ?_))
      rw [hname]
      refine wpAny_pure ⟨plainId_quiet F.plain_min_loop _, ih (j + 1) _ v _ (by omega) hlt (W.frame _ _ _ hst' fun b hbf o e => ?_) (fun b o e => (Heap.get?_update_other _ _ (Ne.symm (hK b o e).2)).trans (hB' b o e)) (by simp only [argBest, hb, if_true]; exact hP) (Heap.get?_update_self _ hS' rfl)
        fun v' h'' tk'' hP' hk'' => ?_⟩
      · exact (Heap.get?_update_other _ _ (fun h : S = b => hSf (by rw [h]; exact hbf))).trans e
      · exact hR v' h'' tk'' hP' fun b o hbw hbS e => hk'' b o hbw hbS ((Heap.get?_update_other _ _ (Ne.symm hbS)).trans (hk' b o hbw e))
    | false =>
      simp only [Bool.false_eq_true, if_false]
      refine wpAny_bind (wpAny_letGo ?_)
      rw [hname]
      refine wpAny_pure ⟨plainId_quiet F.plain_min_loop _, ih (j + 1) _ vb c (by omega) hlt hst' hB' (by simp only [argBest, hb, Bool.false_eq_true, if_false]; exact hPb) hS' fun v' h'' tk'' hP' hk'' => ?_⟩
      exact hR v' h'' tk'' hP' fun b o hbw hbS e => hk'' b o hbw hbS (hk' b o hbw e)
theorem min_firstK {K : Addr → Option Obj} (W : Walks prog w A.in1 I fp wr n P St) (bt : Nat → Nat → Bool) (hcmp : CmpK prog w A.in1 K P bt) (S : Addr) (hSf : S ∉ fp) (hK : ∀ b o, K b = some o → b ∉ wr ∧ b ≠ S) (hn : 0 < n) {s : Shared} {c : Nat} (hst : St 0 s.heap) (hB : Bs K s.heap)
    (hS : s.heap.get? S = some { cls := .type "list", dict := none, data := .seq #[] c, slots := #[] })
    (hR : ∀ v h' tk, P (argBest bt (n - 1)) v → (∀ b o, b ∉ wr → b ≠ S → s.heap.get? b = some o → h'.get? b = some o) → R (.ok (.ret v)) { s with heap := h', toks := tk }) :
    codeAny (model prog w) A (.builtin "min.loop" ⟨[.ref I, .none, .ref S], []⟩) R s := by
  have hSw : S ∉ wr := fun h => hSf (W.sub _ h)
  have hname : (toString "min" ++ toString ".loop" : String) = "min.loop" := by decide
  refine codeAny_builtin F.entry_min_loop ?_
  rw [Around.under_plainId F.plain_min_loop _]
  show wpAny _ A.in1 (seqItems? (.ref S) >>= _) _ _ s
  refine wpAny_bind (wpAny_seqItems hS rfl ?_)
  show wpAny _ A.in1 (tryCatch (pyNext (.ref I)) _ >>= _) _ _ s
  refine wpAny_bind (wpAny_tryCatch (W.item 0 s _ _ hn hst fun v h' tk hP hst' hk' => ?_))
  have hS' := hk' S _ hSw hS
  have hB' : Bs K h' := fun b o e => hk' b o (hK b o e).1 (hB b o e)
  show wpAny _ A.in1 (updateSeq S (fun _ => #[v, v]) >>= _) _ _ _
  refine wpAny_bind ?_
  refine wpAny_updateSeq hS' rfl ?_
  rw [hname]
  refine wpAny_pure ⟨plainId_quiet F.plain_min_loop _, min_loopK W bt hcmp S hSf hK _ 0 _ v _ rfl hn (W.frame _ _ _ hst' fun b hbf o e => ?_) (fun b o e => (Heap.get?_update_other _ _ (Ne.symm (hK b o e).2)).trans (hB' b o e)) hP (Heap.get?_update_self _ hS' rfl) fun v' h'' tk'' hP' hk'' => ?_⟩
  · exact (Heap.get?_update_other _ _ (fun h : S = b => hSf (by rw [h]; exact hbf))).trans e
  · exact hR v' h'' tk'' hP' fun b o hbw hbS e => hk'' b o hbw hbS ((Heap.get?_update_other _ _ (Ne.symm hbS)).trans (hk' b o hbw e))
theorem call_minK {x : Value} {s : Shared} {Q : Value → Shared → Prop}
    (h : wpAny (model prog w) A.in1 (pyIter x) (fun it s₂ => ∃ I fp wr n P St bt K, it = .ref I ∧ Walks prog w A.in1 I fp wr n P St ∧ St 0 s₂.heap ∧ (∀ b ∈ fp, b < s₂.heap.objs.size) ∧ 0 < n ∧ CmpK prog w A.in1 K P bt ∧ (∀ b o, K b = some o → b ∉ wr ∧ s₂.heap.get? b = some o) ∧
      ∀ v h' tk, P (argBest bt (n - 1)) v → (∀ b o, b ∉ wr → s₂.heap.get? b = some o → h'.get? b = some o) → Q v { s₂ with heap := h', toks := tk }) E s) :
    wpAny (model prog w) A (call (.builtin "min") [x]) Q E s := by
  have hname : (toString "min" ++ toString ".loop" : String) = "min.loop" := by decide
  refine call_function_tree F.kind_min F.plain_min F.entry_min (F.args_min1 _) ?_
  show wpAny _ A.in1 (Builtin.Builtins.bindParams "min" ["key", "default"] 0 ⟨[], []⟩ >>= _) _ _ s
  refine wpAny_bind (wpAny_of_eq (show Builtin.Builtins.bindParams "min" ["key", "default"] 0 ⟨[], []⟩ = pure [none, none] from rfl) ?_)
  refine wpAny_bind (wpAny_pure ?_)
  refine wpAny_bind (wpAny_mono h (fun it s₂ h₂ => ?_) fun _ _ e => e)
  obtain ⟨I, fp, wr, n, P, St, bt, K, rfl, W, hst, hfp, hn, hcmp, hK, hQ⟩ := h₂
  refine wpAny_bind (wpAny_newObj_type ?_)
  have hSf : s₂.heap.objs.size ∉ fp := fun hm => Nat.lt_irrefl _ (hfp _ hm)
  rw [hname]
  refine wpAny_pure ⟨plainId_quiet F.plain_min_loop _, min_firstK W bt hcmp s₂.heap.objs.size hSf (fun b o e => ⟨(hK b o e).1, Nat.ne_of_lt (Heap.lt_size (hK b o e).2)⟩) hn (W.frame _ _ _ hst fun b _ o e => Heap.get?_push_of_some _ e) (fun b o e => Heap.get?_push_of_some _ (hK b o e).2) (Heap.get?_push_size _ rfl) fun v h' tk hP hk => ?_⟩
  exact hQ v h' tk hP fun b o hbw e => hk b o hbw (Nat.ne_of_lt (Heap.lt_size e)) (Heap.get?_push_of_some _ e)
end
end Mine
namespace Mine
open PySem.SeqAt MeetsSeq MeetsSeq2 MeetsSeq3 SeqRoads2
theorem ltIS_irr (p : IS) : ltIS p p = false := by unfold ltIS; rw [if_pos rfl]; exact decide_eq_false (List.lt_irrefl _)
theorem ltIS_tr {p q r : IS} (h1 : ltIS p q = true) (h2 : ltIS q r = true) : ltIS p r = true := by
  unfold ltIS at h1 h2 ⊢
  by_cases a : p.1 = q.1
  · rw [if_pos a] at h1
    by_cases b : q.1 = r.1
    · rw [if_pos b] at h2; rw [if_pos (a.trans b)]
      exact decide_eq_true (List.lt_trans (of_decide_eq_true h1) (of_decide_eq_true h2))
    · rw [if_neg b] at h2
      have := of_decide_eq_true h2
      rw [if_neg (by omega)]; exact decide_eq_true (by omega)
  · rw [if_neg a] at h1
    have h1 := of_decide_eq_true h1
    by_cases b : q.1 = r.1
    · rw [if_neg (by omega)]; exact decide_eq_true (by omega)
    · rw [if_neg b] at h2
      have := of_decide_eq_true h2
      rw [if_neg (by omega)]; exact decide_eq_true (by omega)
theorem argBest_min {bt : Nat → Nat → Bool} (irr : ∀ i, bt i i = false) (tr : ∀ i j l, bt i j = true → bt j l = true → bt i l = true) : ∀ k, argBest bt k ≤ k ∧ ∀ i, i ≤ k → bt i (argBest bt k) = false
  | 0 => ⟨Nat.le_refl _, fun i h => by rw [Nat.le_zero.mp h]; exact irr 0⟩
  | k + 1 => by
    obtain ⟨a, b⟩ := argBest_min irr tr k
    unfold argBest
    cases h : bt (k + 1) (argBest bt k) with
    | true =>
      rw [if_pos rfl]
      refine ⟨Nat.le_refl _, fun i hi => ?_⟩
      rcases Nat.le_succ_iff.mp hi with hi | rfl
      · cases e : bt i (k + 1) with
        | false => rfl
        | true => exact absurd (tr _ _ _ e h) (by rw [b i hi]; decide)
      · exact irr _
    | false =>
      rw [if_neg (by decide)]
      refine ⟨Nat.le_succ_of_le a, fun i hi => ?_⟩
      rcases Nat.le_succ_iff.mp hi with hi | rfl
      · exact b i hi
      · exact h
section
variable {Γ : Gd} {k : Nat} {sc : Scope} {loc : Loc} {σ : Sto} {P : AV → Sto → Prop}
theorem tupIS {av : Avd} {h : Heap} {p : IS} {V : Value} (r : VRel av h (pIS p) V) : ∃ a t u n, V = .ref a ∧ h.get? a = some { cls := .type "tuple", data := .seq #[.int p.1 t, .str p.2 u] n } := by
  cases r with
  | tup na ht rs =>
    cases rs with
    | cons r1 rs => cases r1; cases rs with
      | cons r2 rs => cases r2; cases rs
                      obtain ⟨n, e⟩ := ht
                      exact ⟨_, _, _, n, rfl, e⟩
/-- the least of a list of pairs -/
theorem cal_minIS {l : Addr} {ks : List IS} (hm : (l, .list (ks.map pIS)) ∈ σ) (hne : 0 < ks.length) (p : ∀ m, m ∈ ks → (∀ q, q ∈ ks → ltIS q m = false) → P (pIS m) σ) : Cal Γ (k + 1) (.builtin "min") [.ref l] σ P := fun A κ s Xs hA le R rs => by
  cases rs with
  | cons r rs =>
    cases r; cases rs
    obtain ⟨vs, n, e, rs⟩ := R.list hm
    have hlen : vs.length = ks.length := by rw [rs.length, List.length_map]
    have at_ : ∀ i v, vs.toArray[i]? = some v → ∃ h : i < ks.length, VRel κ.av s.heap (pIS ks[i]) v := fun i v hv => by
      rw [List.getElem?_toArray] at hv
      obtain ⟨x, hx, rx⟩ := VRels.get' rs hv
      rw [List.getElem?_map, Option.map_eq_some_iff] at hx
      obtain ⟨y, hy, rfl⟩ := hx
      obtain ⟨hi, rfl⟩ := List.getElem?_eq_some_iff.mp hy
      exact ⟨hi, rx⟩
    have gd : ∀ g (h : g < ks.length), ks.getD g (0, "") = ks[g] := fun g h => by simp [h]
    have hL : s.heap.IsList l vs.toArray := ⟨_, e, rfl, n, rfl⟩
    have hlt : l < s.heap.objs.size := Heap.lt_size e
    refine call_minK (wpAny_pyIter_list hL ?_)
    refine ⟨s.heap.objs.size, [s.heap.objs.size, l], [s.heap.objs.size], vs.length, fun i v => vs.toArray[i]? = some v, fun i h => h.IsListIter s.heap.objs.size l i ∧ h.IsList l vs.toArray, fun i j => ltIS (ks.getD i (0, "")) (ks.getD j (0, "")), s.heap.get?, rfl, ?_, ⟨⟨_, Heap.get?_push_size _ rfl, rfl, rfl⟩, hL.push _⟩, ?_, by omega, ?_, ?_, fun v h' tk hP hk => ?_⟩
    · have := Walks.list (prog := Γ.prog) (w := Γ.w) (A := A.in1) hA.1 s.heap.objs.size l (Nat.ne_of_lt hlt) vs.toArray
      rw [List.size_toArray] at this
      exact this
    · intro b hb
      show b < (s.heap.push _).objs.size
      rw [Heap.size_push]
      rcases List.mem_cons.mp hb with rfl | hb
      · exact Nat.lt_succ_self _
      · rw [List.mem_singleton.mp hb]; exact Nat.lt_succ_of_lt hlt
    · intro i j vi vj s' Q E hB hi hj hQ
      obtain ⟨h1, r1⟩ := at_ i vi hi
      obtain ⟨h2, r2⟩ := at_ j vj hj
      obtain ⟨a, t, u, n1, rfl, g1⟩ := tupIS r1
      obtain ⟨b, t', u', n2, rfl, g2⟩ := tupIS r2
      dsimp only at hQ
      rw [gd i h1, gd j h2] at hQ
      exact rc_pair (hB _ _ g1) (hB _ _ g2) (AOk.units (AOk.in1 hA)) hQ
    · intro b o hb
      refine ⟨fun hm => ?_, Heap.get?_push_of_some _ hb⟩
      have := Heap.lt_size hb
      rw [List.mem_singleton.mp hm] at this
      exact Nat.lt_irrefl _ this
    · obtain ⟨h1, r1⟩ := at_ _ v hP
      have hkeep : ∀ b o, s.heap.get? b = some o → h'.get? b = some o := fun b o hb => hk b o (fun hm => by
        have := Heap.lt_size hb
        rw [List.mem_singleton.mp hm] at this
        exact Nat.lt_irrefl _ this) (Heap.get?_push_of_some _ hb)
      obtain ⟨m1, m2⟩ := argBest_min (bt := fun i j => ltIS (ks.getD i (0, "")) (ks.getD j (0, ""))) (fun i => ltIS_irr _) (fun i j l a b => ltIS_tr a b) (vs.length - 1)
      refine ⟨_, σ, h', tk, rfl, R.keep hkeep, r1.mono (.of_keeps hkeep), p _ (List.getElem_mem h1) fun q hq => ?_⟩
      obtain ⟨i, hi, rfl⟩ := List.getElem_of_mem hq
      have := m2 i (by omega)
      rw [gd i hi, gd _ h1] at this
      exact this
theorem rel_ints {av : Avd} {h : Heap} : ∀ {xs : List Int} {vs : List Value}, VRels av h (xs.map .int) vs → IntsAre vs xs
  | [], _, .nil => .nil
  | x :: xs, _, .cons r rs => by cases r; exact .cons _ _ (rel_ints rs)
theorem cal_sorted_ints {l : Addr} {ns : List Int} (hm : (l, .list (ns.map .int)) ∈ σ) (h64 : ns.length < 64) (p : ∀ (b : Addr) (ns' : List Int), ns'.Perm ns → ns'.Pairwise (· ≤ ·) → P (.ref b) ((b, .list (ns'.map .int)) :: σ)) : Cal Γ k (.builtin "sorted") [.ref l] σ P := fun A κ s Xs hA le R rs => by
  cases rs with
  | cons r rs =>
    cases r; cases rs
    obtain ⟨vs, n, e, rs⟩ := R.list hm
    have hlen : vs.length = ns.length := by rw [rs.length, List.length_map]
    refine sorted_ints (vs := vs) (ns := ns) ⟨_, e, rfl, n, rfl⟩ (rel_ints rs) (by omega) fun out ns' hi hp hs => ?_
    obtain ⟨c, hc⟩ := sortedAll_at s.heap vs out
    exact ⟨.ref _, _, _, s.toks, rfl, R.add (o := .list (ns'.map .int)) (Heap.get?_none_of_le (Nat.le_succ _)) (fun _ _ => sortedAll_old) hc ⟨out.toList, c, by rw [Array.toArray_toList], ints_rel hi⟩, .ref _, p _ _ hp hs⟩
theorem op_notin_ints {x : Int} {a : Addr} {xs : List Int} (hm : (a, .list (xs.map .int)) ∈ σ) (h : P (.bool (!xs.any (· == x))) σ) : Op2 Γ k (compareOp .NotIn) (.int x) (.ref a) σ P := fun A κ s X Y hA l R rx ry => by
  cases rx; cases ry
  obtain ⟨vs, n, e, rs⟩ := R.list hm
  have hi := rel_ints rs
  let ef : Value → Bool := fun y => match y with | .int a _ => a == x | _ => false
  have key : ∀ {vs : List Value} {xs : List Int}, IntsAre vs xs → (vs.any ef = xs.any (· == x)) ∧ ∀ y ∈ vs, ∃ n t, y = .int n t := fun hi => by
    induction hi with
    | nil => exact ⟨rfl, fun y h => nomatch h⟩
    | cons n t r ih => exact ⟨by rw [List.any_cons, List.any_cons, ih.1], fun y hy => by rcases List.mem_cons.mp hy with rfl | hy; exact ⟨_, _, rfl⟩; exact ih.2 y hy⟩
  refine notIn_listAt ef (⟨_, e, rfl, n, rfl⟩ : s.heap.IsList a vs.toArray) (fun y hy => ?_) ⟨_, σ, s.heap, s.toks, rfl, R, .bool _, ?_⟩
  · obtain ⟨n, t, rfl⟩ := (key hi).2 y (by simpa using hy)
    exact EqAt.int_int n t x _
  · rw [List.any_toArray, (key hi).1]; exact h
theorem op_add_list {a b : Addr} {xs ys : List AV} (ha : (a, .list xs) ∈ σ) (hb : (b, .list ys) ∈ σ) (hl : xs.length + ys.length ≤ sizeLine) (h : ∀ c, P (.ref c) ((c, .list (xs ++ ys)) :: σ)) : Op2 Γ k (binaryOp .Add) (.ref a) (.ref b) σ P := fun A κ s X Y hA l R rx ry => by
  cases rx; cases ry
  obtain ⟨vs, n, e, rs⟩ := R.list ha
  obtain ⟨ws, n2, e2, rs2⟩ := R.list hb
  have hz : vs.length + ws.length ≤ sizeLine := by rw [rs.length, rs2.length]; exact hl
  refine concat_meets ⟨_, e, rfl⟩ ⟨_, e2, rfl⟩ noFill_list_add seq_list_add PySem.F.slot_list_add PySem.F.entry_list_add (PySem.F.args_list_add_2 _ _) (list_addW a b vs.toArray ws.toArray n n2 none none #[] #[] (by simpa using hz)) ⟨e, e2, ?_⟩
  refine ⟨.ref _, _, _, s.toks, rfl, R.add (o := .list (xs ++ ys)) size_new (push_keeps _) (Heap.get?_push_size _ rfl) ⟨vs ++ ws, 0, by simp, (rs.append rs2).mono (.of_keeps (push_keeps _))⟩, .ref _, h _⟩
theorem ev_and {x y : Expr} {rest : List Expr} {pos : Pos} (h : Ev Γ k sc x loc σ fun v σ₁ => Tr Γ k v σ₁ fun b σ₂ => Both b (Ev Γ k sc (.BoolOp .And (y :: rest) pos) loc σ₂ P) (P v σ₂)) : Ev Γ k sc (.BoolOp .And (x :: y :: rest) pos) loc σ P := fun A κ env s hA l f R => by
  refine BoolOp_and (wpE (h A κ env s hA l f R) fun V v σ₁ h₁ tk₁ q₁ R₁ r₁ p₁ => ?_)
  refine wpT (p₁.at hA l R₁ r₁) fun b σ₂ h₂ tk₂ q₂ R₂ p₂ => ?_
  cases b with
  | true => simp only [if_true]; exact wp_no (p₂.1 rfl A κ env _ hA l f R₂) fun _ _ h => (h.trans (tk₁ := tk₁) q₂).trans q₁
  | false => simp only [Bool.false_eq_true, if_false]; exact ⟨v, σ₂, h₂, tk₂, rfl, q₁.trans q₂, R₂, r₁.mono q₂, p₂.2 rfl⟩
theorem ev_and1 {x : Expr} {pos : Pos} (h : Ev Γ k sc x loc σ P) : Ev Γ k sc (.BoolOp .And [x] pos) loc σ P := fun A κ env s hA l f R => BoolOp_one (h A κ env s hA l f R)
end
end Mine
namespace Mine
section
variable {Γ : Gd} {k : Nat} {sc : Scope} {loc loc' : Loc} {σ σ' : Sto} {target : Expr} {body : List Stmt} {P : AFl → Loc → Sto → Prop}
/-- loops over n things, by the number of the turn -/
theorem for_n {src : Sto} (n : Nat) (L : Loc) (S : Nat → Sto) (g : Nat → AV) (hsrc : ∀ i, ∀ p ∈ src, p ∈ S i)
    (step : ∀ i (P' : AFl → Loc → Sto → Prop) (A : Loc → Sto → Prop), i < n → (∀ l σ', Sub L l → (S (i + 1)).Sublist σ' → A l σ') → Asg Γ k sc target (g i) L (S i) fun l₁ σ₁ => Exs Γ k sc body l₁ σ₁ (Turn P' A))
    (done : P .next L (S n)) : For Γ k sc target body src ((List.range n).map g) L (S 0) P :=
  for_ind2 (fun _ => L) S g (fun ys i => ys = (List.range n).drop i ∧ i ≤ n) (fun i => hsrc i)
    (fun x xs i P' A hA hI => by
      have hlt : i < n := by
        rcases Nat.lt_or_ge i n with h | h
        · exact h
        · have := hI.1; rw [List.drop_of_length_le (by simpa using h)] at this; cases this
      have e := hI.1
      rw [List.drop_eq_getElem_cons (by simpa using hlt), List.getElem_range] at e
      injection e with e1 e2
      subst e1
      exact step x P' A hlt fun l σ' => hA (x + 1) l σ' ⟨e2, hlt⟩)
    (fun i hI => by
      have : i = n := by
        rcases Nat.lt_or_ge i n with h | h
        · have := hI.1; rw [List.drop_eq_getElem_cons (by simpa using h)] at this; cases this
        · exact Nat.le_antisymm hI.2 h
      subst this; exact done)
    (List.range n) 0 ⟨by simp, Nat.zero_le _⟩
theorem cmp_n {elt iter : Expr} {scope : Scope} {pos : Pos} {src : Sto} {D : Addr} {P : Sto → Prop} (n : Nat) (L : Loc) (S : Nat → Sto) (g : Nat → AV) (hsrc : ∀ i, ∀ p ∈ src, p ∈ S i)
    (step : ∀ i (A : AV → Sto → Prop), i < n → (∀ y ys σ₃, At σ₃ D (.list ys) (.list (ys ++ [y])) (S (i + 1)) → ys.length ≤ sizeLine → A y σ₃) → Asg Γ k sc target (g i) L (S i) fun l₁ σ₁ => Sub L l₁ ∧ Ev Γ k sc elt l₁ σ₁ A)
    (done : P (S n)) : Cmp Γ k sc target [] elt iter scope pos src D ((List.range n).map g) L (S 0) P :=
  cmp_ind2 L S g (fun ys i => ys = (List.range n).drop i ∧ i ≤ n) (fun i => hsrc i)
    (fun x xs i A hA hI => by
      have hlt : i < n := by
        rcases Nat.lt_or_ge i n with h | h
        · exact h
        · have := hI.1; rw [List.drop_of_length_le (by simpa using h)] at this; cases this
      have e := hI.1
      rw [List.drop_eq_getElem_cons (by simpa using hlt), List.getElem_range] at e
      injection e with e1 e2
      subst e1
      exact step x A hlt fun y ys σ₃ at' hl => hA y ys σ₃ _ (x + 1) at' hl ⟨e2, hlt⟩ rfl)
    (fun i hI => by
      have : i = n := by
        rcases Nat.lt_or_ge i n with h | h
        · have := hI.1; rw [List.drop_eq_getElem_cons (by simpa using h)] at this; cases this
        · exact Nat.le_antisymm hI.2 h
      subst this; exact done)
    (List.range n) 0 ⟨by simp, Nat.zero_le _⟩
/-- the same, with one address that each turn makes anew -/
theorem for_na {src : Sto} (n : Nat) (L : Addr → Loc) (S : Nat → Addr → Sto) (g : Nat → AV) (hsrc : ∀ i a, ∀ p ∈ src, p ∈ S i a)
    (step : ∀ i a (P' : AFl → Loc → Sto → Prop) (A : Loc → Sto → Prop), i < n → (∀ a' l σ', Sub (L a') l → (S (i + 1) a').Sublist σ' → A l σ') → Asg Γ k sc target (g i) (L a) (S i a) fun l₁ σ₁ => Exs Γ k sc body l₁ σ₁ (Turn P' A))
    (done : ∀ a, P .next (L a) (S n a)) (a : Addr) : For Γ k sc target body src ((List.range n).map g) (L a) (S 0 a) P :=
  for_c2 (fun _ a => L a) (fun i a => S i a) g (fun ys i _ => ys = (List.range n).drop i ∧ i ≤ n) (fun i a => hsrc i a)
    (fun x xs i a P' A hA hI => by
      have hlt : i < n := by
        rcases Nat.lt_or_ge i n with h | h
        · exact h
        · have := hI.1; rw [List.drop_of_length_le (by simpa using h)] at this; cases this
      have e := hI.1
      rw [List.drop_eq_getElem_cons (by simpa using hlt), List.getElem_range] at e
      injection e with e1 e2
      subst e1
      exact step x a P' A hlt fun a' l σ' => hA (x + 1) a' l σ' ⟨e2, hlt⟩)
    (fun i a hI => by
      have : i = n := by
        rcases Nat.lt_or_ge i n with h | h
        · have := hI.1; rw [List.drop_eq_getElem_cons (by simpa using h)] at this; cases this
        · exact Nat.le_antisymm hI.2 h
      subst this; exact done a)
    (List.range n) 0 a ⟨by simp, Nat.zero_le _⟩
theorem swaps_of {env : Env} {elt : Expr} {gens : List Comprehension} {scope : Scope} {pos xp : Pos} {x : Str} {line : Nat} (f : Fits sc env) (hx : sc.names.lookup x = some .local) (hb : (xp.line == pos.line && !(scope.names.any fun (n, k) => n == x && (k == .local || k == .cell))) = true) :
    swapsWith (.ListComp elt gens scope pos) (some (.Name x xp)) line env = pure true := by
  rw [Bool.and_eq_true] at hb
  have hk : env.kindOf x = some .local := by rw [f.kindOf]; exact hx
  have hbk : env.blockKind = .function := by unfold Env.blockKind; rw [f.fkind]; rfl
  show (pure (env.blockKind == .function && env.kindOf x == some .local && xp.line == pos.line && !(scope.names.any fun (n, k) => n == x && (k == .local || k == .cell))) : Sem Bool) = _
  rw [hk, hbk, hb.1, hb.2]
  rfl
theorem swaps_cell {env : Env} {elt : Expr} {gens : List Comprehension} {scope : Scope} {pos xp : Pos} {x : Str} {line : Nat} (f : Fits sc env) (hx : sc.names.lookup x = some .cell) : swapsWith (.ListComp elt gens scope pos) (some (.Name x xp)) line env = pure false := by
  have hk : env.kindOf x = some .cell := by rw [f.kindOf]; exact hx
  show (pure (env.blockKind == .function && env.kindOf x == some .local && xp.line == pos.line && !(scope.names.any fun (n, k) => n == x && (k == .local || k == .cell))) : Sem Bool) = _
  rw [hk]
  have : (some NameKind.cell == some NameKind.local) = false := by decide
  rw [this, Bool.and_false, Bool.false_and, Bool.false_and]
theorem ex_assign_compC {x : Str} {xp apos : Pos} {elt : Expr} {gens : List Comprehension} {scope : Scope} {pos : Pos} (hx : sc.names.lookup x = some .cell)
    (h : Ev Γ k sc (.ListComp elt gens scope pos) loc σ fun v σ' => Asg Γ k sc (.Name x xp) v loc σ' fun loc' σ'' => P .next loc' σ'') : Ex Γ k sc (.Assign [.Name x xp] (.ListComp elt gens scope pos) apos) loc σ P :=
  ex_assign h (fun _ f => swaps_cell (line := apos.line) f hx) (fun _ _ => rfl) (fun _ => rfl)
theorem ex_assign_compB {x : Str} {xp apos : Pos} {elt iter : Expr} {ifs : List Expr} {scope : Scope} {pos : Pos}
    (hcell : (scope.names.all fun x => x.2 != .cell) = true) (hkind : scope.kind = .function) (hnames : (scope.names.all fun x => x.2 != .local || scope.names.lookup x.1 == some .local) = true)
    (hfr : (scope.names.all fun x => x.2 != .free || sc.names.lookup x.1 == some .cell) = true) (h0 : ((relS scope sc).names.lookup (Str.ofString ".0")).isSome = true) (hx : sc.names.lookup x = some .local)
    (hb : (xp.line == pos.line && !(scope.names.any fun (n, k) => n == x && (k == .local || k == .cell))) = true) (hs : ∀ env x, foldedSetIterable iter env x = pure x)
    (h : Ev Γ k sc iter loc σ fun v σ₁ => ∃ src vs, Mk Γ k target v σ₁ src vs ∧ (∀ p ∈ src, p ∈ σ₁) ∧ ∀ D, Cmp Γ k (relS scope sc) target ifs elt iter scope pos src D vs (cloc (relS scope sc) loc) ((D, .list []) :: σ₁) fun σ₂ => P .next (lset loc x (.ref D)) σ₂) :
    Ex Γ k sc (.Assign [.Name x xp] (.ListComp elt [⟨target, iter, ifs, 0⟩] scope pos) apos) loc σ P :=
  ex_assign_comp (cellB hcell) hkind (fun x hx e => by have := List.all_eq_true.mp hnames x hx; simpa [e] using this) (fun x hx e => by have := List.all_eq_true.mp hfr x hx; simpa [e] using this) (fun e => by rw [e] at h0; cases h0) h hs hx fun env f => swaps_of f hx hb
end
end Mine
namespace Mine
section
variable {Γ : Gd} {k : Nat} {sc : Scope} {loc loc' : Loc} {σ σ' : Sto} {target : Expr}
/-- a comprehension with a test, by its turns -/
theorem cmp_indF {ι α : Type} {c elt iter : Expr} {scope : Scope} {pos : Pos} {src : Sto} {D : Addr} {P : Sto → Prop} (L : Loc) (S : ι → Sto) (g : α → AV) (I : List α → ι → Prop) (hsrc : ∀ i, ∀ p ∈ src, p ∈ S i)
    (step : ∀ x xs i (A : AV → Sto → Prop) (B : Sto → Prop), (∀ y ys σ₃ j, At σ₃ D (.list ys) (.list (ys ++ [y])) (S j) → ys.length ≤ sizeLine → I xs j → A y σ₃) → (∀ j, I xs j → B (S j)) → I (x :: xs) i →
      Asg Γ k sc target (g x) L (S i) fun l₁ σ₁ => Sub L l₁ ∧ Ts Γ k sc c l₁ σ₁ fun b σ₂ => Both b (Ev Γ k sc elt l₁ σ₂ A) (B σ₂))
    (done : ∀ i, I [] i → P (S i)) : ∀ xs i, I xs i → Cmp Γ k sc target [c] elt iter scope pos src D (xs.map g) L (S i) P
  | [], i, h => cmp_nil (done i h)
  | x :: xs, i, h => by
    refine cmp_cons fun A κ env s V hA l f R r => wpA (step x xs i (fun y σ₃ => ∃ ys j, At σ₃ D (.list ys) (.list (ys ++ [y])) (S j) ∧ ys.length ≤ sizeLine ∧ I xs j) (fun σ₂ => ∃ j, I xs j ∧ σ₂ = S j) (fun y ys σ₃ j a b c => ⟨ys, j, a, b, c⟩) (fun j a => ⟨j, a, rfl⟩) h A κ env s V hA l f R r) fun l₁ σ₁ h' tk q R' p => ⟨l₁, σ₁, h', tk, rfl, q, R', ?_⟩
    show Ts Γ k sc c l₁ σ₁ _
    refine ts_mono p.2 fun b σ₂ hb => ⟨fun e => ev_mono (hb.1 e) fun y σ₃ z => ?_, fun e => ?_⟩
    · obtain ⟨ys, j, a, b, c⟩ := z
      exact ⟨ys, S j, a, b, hsrc j, cmp_sub (cmp_indF L S g I hsrc step done xs j c) p.1⟩
    · obtain ⟨j, a, rfl⟩ := hb.2 e
      exact ⟨hsrc j, cmp_sub (cmp_indF L S g I hsrc step done xs j a) p.1⟩
end
/-! data that equal themselves -/
structure OkD (d : PyData) (n : Nat) : Prop where
  lay : d.canLay0 = true
  dep : d.depth ≤ n
  eqv : PyData.eqv d d = true
structure OkDs (l : List PyData) (n : Nat) : Prop where
  lay : PyData.canLayAll0 l = true
  dep : PyData.depthAll l ≤ n
  eqv : PyData.eqvAll l l = true
theorem okDs {n : Nat} : ∀ {l : List PyData}, (∀ d ∈ l, OkD d n) → OkDs l n
  | [], _ => ⟨by simp [PyData.canLayAll0], by simp [PyData.depthAll], by simp [PyData.eqvAll]⟩
  | d :: l, h => by
    obtain ⟨a, b, c⟩ := h d (.head _)
    obtain ⟨a', b', c'⟩ := okDs (l := l) fun d hd => h d (.tail _ hd)
    exact ⟨by simp only [PyData.canLayAll0, a, a', Bool.and_self], by simp only [PyData.depthAll]; exact Nat.max_le.mpr ⟨b, b'⟩, by simp only [PyData.eqvAll, c, c', Bool.and_self]⟩
theorem okD_int (i : Int) (n : Nat) : OkD (.int i) n := ⟨by simp [PyData.canLay0], by simp [PyData.depth], by simp [PyData.eqv]⟩
theorem okD_str {l : List Nat} (h : ∀ c ∈ l, c < 0x110000) (n : Nat) : OkD (.str (ofL l)) n := ⟨by simp only [PyData.canLay0, PyData.strOk, ofL]; rw [List.all_toArray, List.all_eq_true]; exact fun c hc => decide_eq_true (h c hc), by simp [PyData.depth], by simp [PyData.eqv]⟩
theorem okD_list {l : List PyData} {n : Nat} (h : OkDs l n) : OkD (.list l) (n + 1) := ⟨by simp only [PyData.canLay0]; exact h.lay, by simp only [PyData.depth]; exact Nat.succ_le_succ h.dep, by simp only [PyData.eqv]; exact h.eqv⟩
theorem okD_tup {l : List PyData} {n : Nat} (h : OkDs l n) : OkD (.tuple l) (n + 1) := ⟨by simp only [PyData.canLay0]; exact h.lay, by simp only [PyData.depth]; exact Nat.succ_le_succ h.dep, by simp only [PyData.eqv]; exact h.eqv⟩
theorem okDs_map {α : Type} {g : α → PyData} {n : Nat} (h : ∀ a, OkD (g a) n) (l : List α) : OkDs (l.map g) n := okDs fun d hd => by obtain ⟨a, _, rfl⟩ := List.mem_map.mp hd; exact h a
theorem avds_map {σ : Sto} {α : Type} {g : α → AV} {d : α → PyData} (h : ∀ a, AvD σ (g a) (d a)) : ∀ l : List α, AvDs σ (l.map g) (l.map d)
  | [] => .nil
  | a :: l => .cons (h a) (avds_map h l)
theorem avds_map' {σ : Sto} {α : Type} {g : α → AV} {d : α → PyData} : ∀ {l : List α}, (∀ a ∈ l, AvD σ (g a) (d a)) → AvDs σ (l.map g) (l.map d)
  | [], _ => .nil
  | a :: _, h => .cons (h a (.head _)) (avds_map' fun b hb => h b (.tail _ hb))
section
variable {Γ : Gd} {k : Nat} {σ : Sto}
theorem op_eq_same {x y : AV} {d : PyData} {n : Nat} {P : AV → Sto → Prop} (hx : AvD σ x d) (hy : AvD σ y d) (h : OkD d n) (hn : n ≤ 40) (p : P (.bool true) σ) : Op2 Γ k (compareOp .Eq) x y σ P :=
  op_eq_deep hx hy h.lay h.lay (Nat.le_trans h.dep hn) (by rw [h.eqv]; exact p)
end
end Mine
namespace Mine
theorem left_of {p q : Program} {loose : List Str} {Xt : Shared → Bool} {α : Type} {Yf : Shared → α} {Ya : World → α} {N : Nat} {g0 : Bool} {H₀ : Params → Heap} {gs₀ : Array GenState} {d₀ : Drawn} {k₀ : Nat}
    (open_ : ∀ w : World, (fencedOpening treeTable p w N).map (fun s => (s.heap, s.gens, s.drawn, s.toks)) = some (H₀ w.params, gs₀, d₀, k₀))
    (run : ∀ (w : World) (os : OsState), (topFrom treeTable p w N ⟨H₀ w.params, gs₀, d₀, k₀, os⟩).map (fun s => (openSeen q loose (importedModules p.main.body) Xt g0 s, Yf s)) = some (openGood q loose, Ya w)) : LeftO p q loose Xt Yf Ya N g0 := fun w => by
  obtain ⟨⟨h, gs, d, k, os⟩, e, e'⟩ := Option.map_eq_some_iff.mp (open_ w)
  obtain ⟨rfl, rfl, rfl, rfl⟩ : h = H₀ w.params ∧ gs = gs₀ ∧ d = d₀ ∧ k = k₀ := by simpa using e'
  unfold openEnds
  rw [e]
  exact run w os
noncomputable abbrev vw : Program := view PySem.Challenge.pw_pg0050_03 [1, 3, 5, 6, 7, 8, 9, 10, 11, 12, 13]
local macro_rules | `(tactic| o_law) => `(tactic| refine holds_law (by decide +kernel) fun said => ?_)
local macro_rules | `(tactic| o_head $H) => `(tactic| (
  refine holds_open (q := vw) (loose := []) (Xt := fun s => xlAt vw [] s && recOk (RowW.records (OpenRow.toRowW (OpenLaw.row PySem.Challenge.rw_pg0050_03))) s) (XP := XL vw []) (Yf := Hook.obs $H) (Ya := Hook.val $H) (YP := Hook.says $H) (N := 1428) ?hl (Hook.of $H) (Hook.keeps $H) (fun s e => xl_of s (Bool.and_eq_true_iff.mp e).1) XL.keeps (by rfl) (by rfl) (by rfl) (fun s e => recFacts_of (Bool.and_eq_true_iff.mp e).2) (by rfl) (by assumption) (by decide +kernel) ⟨rfl, rfl, rfl, rfl, rfl, by decide +kernel⟩ ?hw ?hc
  (case hl => exact left_of (boot_open (by kernel_rfl) (by decide) (fun _ => by kernel_rfl)) (fun w os => by kernel_rfl))))
open_top hd for PySem.Challenge.rw_pg0050_03
end Mine
noncomputable section
namespace Mine
local macro_rules | `(tactic| walk_at "mem") => `(tactic| (repeat (first | exact List.Mem.head _ | assumption | refine List.Mem.tail _ ?_)))
local macro_rules | `(tactic| walk_at "a") => `(tactic| with_reducible first
  | refine exs_cons ?_
  | refine exs_nil ?_
  | refine ex_return ?_
  | refine ex_if ?_
  | refine ex_while ?_
  | refine ex_break ?_
  | refine ex_continue ?_
  | refine ev_int ?_
  | refine ev_str ?_
  | refine ev_none ?_
  | refine ev_bytes ?_
  | refine ev_binop ?_
  | refine ev_unary ?_
  | refine ev_list ?_
  | refine ev_tuple ?_
  | refine ev_slice ?_
  | refine evO_none ?_
  | refine evO_some ?_
  | refine ev_or2 ?_
  | refine evs_nil ?_
  | refine asg_attr ?_
  | refine asg_item ?_
  | refine asgL_nil ?_
  | refine ts_not ?_
  | refine ts_bool ?_
  | refine tsl_and_cons ?_
  | refine tsl_or_cons ?_
  | refine tsl_and_nil ?_
  | refine tsl_or_nil ?_
  | refine tr_int ?_
  | refine tr_bool ?_
  | refine op_add ?_
  | refine op_sub ?_
  | refine op_eq ?_
  | refine op_ne ?_
  | refine op_lt ?_
  | refine op_le ?_
  | refine op_gt ?_
  | refine op_ge ?_
  | refine op_neg ?_
  | refine op_eq_str ?_
  | refine op_in_str ?_)
local macro_rules | `(tactic| walk_at "m") => `(tactic| first
  | walk_at "a"
  | with_reducible refine ex_expr ?_ (fun _ _ => by kernel_rfl!)
  | with_reducible refine ex_assign ?_ (fun _ _ => by kernel_rfl!) (fun _ _ => by kernel_rfl!) (fun _ => by kernel_rfl!)
  | with_reducible refine ex_assign_compC (by kernel_rfl!) ?_
  | with_reducible refine ex_assign_compB (by kernel_rfl!) (by kernel_rfl!) (by kernel_rfl!) (by kernel_rfl!) (by kernel_rfl!) (by kernel_rfl!) (by kernel_rfl!) (fun _ _ => by kernel_rfl!) ?_
  | ((with_reducible refine ex_aug_name (a := ?v0) ?hk ?hv ?_); (case hk => kernel_rfl!); (case hv => exact rfl))
  | ((with_reducible refine ev_local (v := ?v0) ?hk ?hv ?_ ?hd); (case hk => kernel_rfl!); (case hv => exact rfl); (case hd => kernel_rfl!))
  | ((with_reducible refine ev_cell (v := ?v0) ?hk ?hv ?_ ?hd); (case hk => kernel_rfl!); (case hv => exact rfl); (case hd => kernel_rfl!))
  | ((with_reducible refine ev_free (v := ?v0) ?hk ?hv ?_ ?hd ?hn); (case hk => kernel_rfl!); (case hv => exact rfl); (case hd => kernel_rfl!); (case hn => kernel_rfl!))
  | with_reducible refine ev_compare ?_ (by kernel_rfl!)
  | with_reducible refine ev_listcompB (by kernel_rfl!) (by kernel_rfl!) (by kernel_rfl!) (by kernel_rfl!) (by kernel_rfl!) ?_ (fun _ _ => by kernel_rfl!)
  | with_reducible refine evs_cons ?_ (by kernel_rfl!)
  | with_reducible refine ev_item ?_ (fun _ _ => by kernel_rfl!)
  | with_reducible refine asg_name (.inl (by kernel_rfl!)) ?_
  | with_reducible refine asg_name (.inr ⟨by kernel_rfl!, by kernel_rfl!⟩) ?_
  | with_reducible refine asg_tuple ?_ (by kernel_rfl!) (fun _ => by kernel_rfl!)
  | with_reducible refine asgL_cons ?_ (fun _ => by kernel_rfl!)
  | with_reducible refine ev_method (by kernel_rfl!) (fun _ => by kernel_rfl!) (by decide) (by kernel_rfl!) ?_
  | with_reducible refine ev_attr ?_ (fun _ => by kernel_rfl!)
  | with_reducible refine ts_compare ?_ (by kernel_rfl!)
  | with_reducible refine ts_value ?_ (fun _ _ => by kernel_rfl!)
  | with_reducible refine ev_calB (by assumption) "abs" (by kernel_rfl!) ?_
  | with_reducible refine ev_calB (by assumption) "divmod" (by kernel_rfl!) ?_
  | with_reducible refine ev_calB (by assumption) "ord" (by kernel_rfl!) ?_
  | with_reducible refine ev_calB (by assumption) "len" (by kernel_rfl!) ?_
  | with_reducible refine ev_calB (by assumption) "iter" (by kernel_rfl!) ?_
  | with_reducible refine ev_calB (by assumption) "sorted" (by kernel_rfl!) ?_
  | with_reducible refine ev_calT (by assumption) "int" (by kernel_rfl!) ?_
  | with_reducible refine ev_calT (by assumption) "range" (by kernel_rfl!) ?_
  | with_reducible refine ev_calT (by assumption) "zip" (by kernel_rfl!) ?_)
local macro_rules | `(tactic| walk_at "g") => `(tactic| repeat (walk_at "m"))
abbrev KK (pp : Params) : Frag := Mine.hd.heap_1 pp
variable {Γ : Gd} {k : Nat} {σ : Sto} {mg mb : Str → Option Value} {pp : Params}
theorem ok_ap (X : (KK pp).In Γ.hB) : FnOk Γ 63 (fdOf (KK pp) 63) (bodyOf (fdOf (KK pp) 63)) ["num"] := fnOkB X (by kernel_rfl!) (bind1 fun _ => by kernel_rfl!)
/-- the letters of a number -/
noncomputable def ap (n : Nat) : List UInt8 := if h : n = 0 then [] else ap (n / 16) ++ [UInt8.ofNat (65 + n % 16)]
termination_by n
decreasing_by omega
theorem ap_zero : ap 0 = [] := by unfold ap; rfl
theorem ap_pos {n : Nat} (h : n ≠ 0) : ap n = ap (n / 16) ++ [UInt8.ofNat (65 + n % 16)] := by rw [ap]; simp [h]
theorem ap_len (n : Nat) : ∀ m, n < 16 ^ m → (ap n).length ≤ m := by
  intro m
  induction m generalizing n with
  | zero => intro h; have : n = 0 := by simpa using h
            subst this; simp [ap_zero]
  | succ m ih =>
    intro h
    by_cases hn : n = 0
    · subst hn; simp [ap_zero]
    · rw [ap_pos hn, List.length_append]
      have := ih (n / 16) (by rw [Nat.pow_succ] at h; omega)
      simp; omega
theorem ap_pick : ∀ m : Nat, m < 16 → pick [65, 66, 67, 68, 69, 70, 71, 72, 73, 74, 75, 76, 77, 78, 79, (80 : UInt8)] (some m) (some (m + 1)) = [UInt8.ofNat (65 + m)] := by decide +kernel
theorem int2ap (W : Wd Γ (KK pp) mg mb) {n : Int} (hn : n.natAbs < 16 ^ 100) {P : AV → Sto → Prop} (p : P (.bytes (ap n.natAbs).toArray) σ) : CalC Γ (k + 1) (.ref 63) [.int n] σ P := by
  refine fn_defB W.ok (ok_ap W.X) rfl (by kernel_rfl) (by kernel_rfl) ?_
  refine exs_cons ?_
  walk_at "g"
  refine cal_abs ?_
  walk_at "g"
  refine cal_int ?_
  walk_at "g"
  have e : (if n < 0 then -n else n) = (n.natAbs : Int) := by split <;> omega
  rw [e]
  refine whl_sub (whl_c2 (I := fun (m : Nat) (val : List UInt8) => ap m ++ val = ap n.natAbs) (L := fun (m : Nat) (val : List UInt8) => [("val", .bytes val.toArray), ("AP", .bytes [65, 66, 67, 68, 69, 70, 71, 72, 73, 74, 75, 76, 77, 78, 79, (80 : UInt8)].toArray), ("num", .int m)]) (S := fun _ _ => σ) (rank := fun (m : Nat) _ => m) (X := fun m _ => m = 0) ?_ ?_ n.natAbs [] (by simp)) (sub_cons rfl (sub_cons rfl (sub_cons rfl sub_nil))) (.refl _)
  · intro m val P' A hA hi
    walk_at "g"
    refine ⟨fun hb => ?_, fun hb => ⟨by simpa using hb, rfl⟩⟩
    have hm : m ≠ 0 := by intro h; subst h; simp at hb
    walk_at "g"
    refine cal_divmod (by decide) (by decide) ?_
    walk_at "g"
    refine ⟨_, rfl, ?_⟩
    walk_at "g"
    refine ⟨_, rfl, plain_bytes, slc_bytes (by decide) ?_⟩
    have e1 : ((m : Int) % 16) = ((m % 16 : Nat) : Int) := by omega
    have e2 : ((m : Int) / 16) = ((m / 16 : Nat) : Int) := by omega
    rw [e1, e2]
    rw [show (([65, 66, 67, 68, 69, 70, 71, 72, 73, 74, 75, 76, 77, 78, 79, (80 : UInt8)].toArray).toList) = [65, 66, 67, 68, 69, 70, 71, 72, 73, 74, 75, 76, 77, 78, 79, (80 : UInt8)] from rfl, ap_pick _ (Nat.mod_lt _ (by decide))]
    walk_at "g"
    have hlen : val.length ≤ 100 := by
      have := congrArg List.length hi
      have h2 := ap_len n.natAbs 100 hn
      rw [List.length_append] at this; omega
    refine op_add_bytes (by simp; omega) ?_
    walk_at "g"
    refine hA (m / 16) (UInt8.ofNat (65 + m % 16) :: val) _ _ ?_ (by omega) (sub_cons (by simp [lookup_lset]) (sub_cons rfl (sub_cons rfl sub_nil))) (.refl _)
    rw [← hi, ap_pos hm]; simp
  · rintro m val hi rfl
    walk_at "g"
    refine drp ?_
    rw [ap_zero] at hi
    simp only [List.nil_append] at hi
    rw [hi]
    exact p
theorem ok_fig (X : (KK pp).In Γ.hB) : FnOk Γ 70 (fdOf (KK pp) 70) (bodyOf (fdOf (KK pp) 70)) ["number", "bases"] := fnOkB X (by kernel_rfl!) (bind2 fun _ _ => by kernel_rfl!)
noncomputable def figs (x : Int) : List Int → List Int
  | [] => []
  | b :: bs => x % b :: figs (x / b) bs
theorem figs_length (x : Int) (bs : List Int) : (figs x bs).length = bs.length := by
  induction bs generalizing x with
  | nil => rfl
  | cons b bs ih => simp [figs, ih]
theorem fig (W : Wd Γ (KK pp) mg mb) {x : Int} {b : Addr} {bases : List Int} (hb : ∀ b ∈ bases, 0 < b ∧ b < 1073741824) (hl : bases.length < 1000) (hm : (b, .list (bases.map .int)) ∈ σ) {P : AV → Sto → Prop} (p : ∀ a, P (.ref a) ((a, .list ((figs x bases).map .int)) :: σ)) : CalC Γ (k + 1) (.ref 70) [.int x, .ref b] σ P := by
  refine fn_defB W.ok (ok_fig W.X) rfl (by kernel_rfl) (by kernel_rfl) ?_
  refine exs_cons ?_
  walk_at "g"
  refine ⟨by decide, fun a => ?_⟩
  walk_at "g"
  refine ex_for ?_ (fun _ _ => rfl)
  walk_at "g"
  refine ⟨_, _, mk_list (.name _ _) (.tail _ hm), fun p hp => by rw [List.mem_singleton.mp hp]; exact .tail _ hm, ?_⟩
  refine for_sub (loc' := [("number", .int x), ("figures", .ref a)]) (for_ind2 (ι := Int × List Int) (L := fun i => [("number", .int i.1), ("figures", .ref a)]) (S := fun i => (a, .list (i.2.map .int)) :: σ) (g := .int) (I := fun xs i => i.2 ++ figs i.1 xs = figs x bases ∧ ∀ b ∈ xs, 0 < b ∧ b < 1073741824) ?_ ?_ ?_ bases (x, []) ⟨rfl, hb⟩) (sub_cons rfl (sub_cons rfl sub_nil)) (.refl _) ?_
  · intro i p hp; rw [List.mem_singleton.mp hp]; exact .tail _ hm
  · intro y ys ⟨n, acc⟩ P' A hA ⟨h1, h2⟩
    have hy := h2 y (.head _)
    walk_at "g"
    refine ⟨_, _, gm_append (.head _), ?_⟩
    walk_at "g"
    refine op_mod hy.1 ?_
    walk_at "g"
    refine ⟨kpr_builtin, cal_append .head ?_ ⟨rfl, ?_⟩⟩
    · have := congrArg List.length h1
      simp only [List.length_append, figs_length, List.length_cons, List.length_map, sizeLine_eq] at this ⊢
      omega
    walk_at "g"
    refine op_fdiv hy.1 hy.2 ?_
    walk_at "g"
    refine hA (n / y, acc ++ [n % y]) _ _ ⟨?_, fun b hb => h2 b (.tail _ hb)⟩ (sub_cons rfl (sub_cons rfl sub_nil)) ?_
    · rw [← h1]; simp [figs]
    · simp
  · intro ⟨n, acc⟩ ⟨h1, _⟩
    walk_at "g"
    refine drp ?_
    have h1 : acc ++ [] = figs x bases := h1
    rw [List.append_nil] at h1
    subst h1
    exact p a
  · intro p hp; rw [List.mem_singleton.mp hp]; exact .tail _ hm
/-- the inner def of the stream's maker -/
noncomputable def rdStmt (pp : Params) : Stmt := (bodyOf (fdOf (KK pp) 77)).getD 1 (.Pass ⟨0, 0, 0, 0⟩)
noncomputable def rdBody (pp : Params) : List Stmt := match rdStmt pp with
  | .FunctionDef _ _ b _ _ _ _ _ _ _ => b
  | _ => []
noncomputable def rdScope (pp : Params) : Scope := match rdStmt pp with
  | .FunctionDef _ _ _ _ _ _ s _ _ _ => s
  | _ => default
noncomputable def rdPos (pp : Params) : Pos := match rdStmt pp with
  | .FunctionDef _ _ _ _ _ _ _ _ _ p => p
  | _ => ⟨0, 0, 0, 0⟩
noncomputable def lmPos (pp : Params) : Pos := match (bodyOf (fdOf (KK pp) 77)).getD 2 (.Pass ⟨0, 0, 0, 0⟩) with
  | .Assign _ (.Lambda _ _ _ p) _ => p
  | _ => ⟨0, 0, 0, 0⟩
noncomputable def rdQn (pp : Params) : Str := (fdOf (KK pp) 77).qualname ++ ".<locals>." ++ "_law_read"
noncomputable def rdArgs (pp : Params) : Arguments := match rdStmt pp with
  | .FunctionDef _ a _ _ _ _ _ _ _ _ => a
  | _ => default
/-- a stream that reads a text -/
structure Strm (pp : Params) (ρ : Sto) (st cx cy : Addr) : Prop where
  ex : ∃ sd rd rc ost orc fdS qual doc pm ctv vs t, (st, AO.obj ost) ∈ ρ ∧ ost.cls = .type "function" ∧ ost.data = .func fdS ∧ ost.dict = some sd ∧ (sd, AO.ns [("read", .ref rd)]) ∈ ρ ∧
    (rd, AO.obj (fnMade "_law_read" qual (rdArgs pp) (rdBody pp) (rdScope pp) [(("text" : Str), cx), (("place" : Str), cy)] doc pm rc ctv)) ∈ ρ ∧ (rc, AO.obj orc) ∈ ρ ∧ orc.data = .fields vs ∧ vs[1]? = some (.str qual t)
theorem Strm.cons {ρ : Sto} {st cx cy : Addr} (S : Strm pp ρ st cx cy) (p : Addr × AO) : Strm pp (p :: ρ) st cx cy :=
  let ⟨sd, rd, rc, ost, orc, fdS, qual, doc, pm, ctv, vs, t, a, b, c, d, e, f, g, h⟩ := S.ex
  ⟨sd, rd, rc, ost, orc, fdS, qual, doc, pm, ctv, vs, t, .tail _ a, b, c, d, .tail _ e, .tail _ f, .tail _ g, h⟩
theorem Strm.sub {ρ ρ' : Sto} {st cx cy : Addr} (S : Strm pp ρ st cx cy) (h : ∀ z ∈ ρ, z ∈ ρ') : Strm pp ρ' st cx cy :=
  let ⟨sd, rd, rc, ost, orc, fdS, qual, doc, pm, ctv, vs, t, a, b, c, d, e, f, g, i⟩ := S.ex
  ⟨sd, rd, rc, ost, orc, fdS, qual, doc, pm, ctv, vs, t, h _ a, b, c, d, h _ e, h _ f, h _ g, i⟩
/-- the codes that the stream's maker has made -/
inductive TabSt (pp : Params) : Array Value → Sto → Prop
  | fresh {ρ : Sto} : TabSt pp #[] ρ
  | made {ρ : Sto} {c c2 : Addr} {oc : Obj} {vs : Array Value} {t : Tok} : (c, AO.obj oc) ∈ ρ → oc.data = .fields vs → vs[1]? = some (.str (rdQn pp) t) → TabSt pp #[rawInt (rdPos pp).line, rawInt (rdPos pp).col, .ref c, rawInt (lmPos pp).line, rawInt (lmPos pp).col, .ref c2] ρ
theorem TabSt.sub {ρ ρ' : Sto} {ps : Array Value} (S : TabSt pp ps ρ) (h : ∀ z ∈ ρ, z ∈ ρ') : TabSt pp ps ρ' := by
  cases S with
  | fresh => exact .fresh
  | made a b c => exact .made (h _ a) b c
theorem ok_stream (X : (KK pp).In Γ.hB) : FnOk Γ 77 (fdOf (KK pp) 77) (bodyOf (fdOf (KK pp) 77)) ["text"] := fnOkB X (by kernel_rfl!) (bind1 fun _ => by kernel_rfl!)
theorem hx_stream {n cx cy : Addr} {x : Str} (ex : (cellsFrom n (fdOf (KK pp) 77).scope.names []).lookup ("text" : Str) = some cx) (ey : (cellsFrom n (fdOf (KK pp) 77).scope.names []).lookup ("place" : Str) = some cy) (hx' : (x, NameKind.free) ∈ (rdScope pp).names) : ∃ c, (cellsFrom n (fdOf (KK pp) 77).scope.names []).lookup x = some c := by
  have e1 : ∀ y : Str × NameKind, y ∈ (rdScope pp).names → y.2 = .free → y.1 = ("text" : Str) ∨ y.1 = ("place" : Str) := by
    intro y hy
    have e2 : (rdScope pp).names = [(("size" : Str), NameKind.local), (("piece" : Str), NameKind.local), (("place" : Str), NameKind.free), (("text" : Str), NameKind.free), (("len" : Str), NameKind.globalImplicit)] := by kernel_rfl!
    rw [e2] at hy
    simp only [List.mem_cons, List.not_mem_nil, or_false] at hy
    rcases hy with rfl | rfl | rfl | rfl | rfl <;> intro h <;> first | (exact .inl rfl) | (exact .inr rfl) | (cases h)
  rcases e1 _ hx' rfl with e | e
  · dsimp only at e; subst e; exact ⟨_, ex⟩
  · dsimp only at e; subst e; exact ⟨_, ey⟩
theorem stream (W : Wd Γ (KK pp) mg mb) (M : MkOk Γ mg mb 76 72) {text : Str} {ps : Array Value} {τ : Sto} (T : TabSt pp ps τ) (hτ : ∀ z ∈ τ, z ∈ σ) {P : AV → Sto → Prop}
    (p : ∀ st pl cx cy ρ ps', Strm pp (ρ ++ τ) st cx cy → TabSt pp ps' (ρ ++ τ) → P (.tup [.ref st, .ref pl]) ((cx, .cell (.str text)) :: (cy, .cell (.ref pl)) :: (ρ ++ (pl, .list [.int 0]) :: (72, .obj (tabObj ps')) :: σ))) : CalC Γ (k + 1) (.ref 77) [.str text] ((72, .obj (tabObj ps)) :: σ) P := by
  refine fn_cells2 (x := "text") (y := "place") W.ok (ok_stream W.X) rfl (locB2 (by kernel_rfl)) (by kernel_rfl) (by kernel_rfl) (by decide) fun n cx cy ex ey => ?_
  refine exsF_cons ?_
  walk_at "g"
  refine ⟨by decide, fun pl => ?_⟩
  walk_at "g"
  show ExsF _ _ _ _ _ _ _ _ _ _
  have ecl : closL (cellsFrom n (fdOf (KK pp) 77).scope.names []) (rdScope pp).names [] = [(("text" : Str), cx), (("place" : Str), cy)] := by
    have e0 : closL (cellsFrom n (fdOf (KK pp) 77).scope.names []) (rdScope pp).names [] = [(("text" : Str), ((cellsFrom n (fdOf (KK pp) 77).scope.names []).lookup ("text" : Str)).getD 0), (("place" : Str), ((cellsFrom n (fdOf (KK pp) 77).scope.names []).lookup ("place" : Str)).getD 0)] := by kernel_rfl!
    rw [e0, ex, ey]; rfl
  cases T with
  | fresh =>
    refine exsF_def (ps := #[]) M (by kernel_rfl!) trivial (by kernel_rfl!) (fun c' => .tail .head) (fun x hx => hx_stream ex ey hx) (by kernel_rfl!) (by kernel_rfl!) (fun _ => by kernel_rfl!) (by kernel_rfl!) fun f c' oc vs t ctv doc pm qual dq d1 d2 => ?_
    refine exsF_lam (ps := #[rawInt _, rawInt _, .ref c']) M (by kernel_rfl!) trivial ?_ (fun c' => .tail (.tail (.tail .head))) (fun x hx => by cases hx) (fun _ => by kernel_rfl!) (by kernel_rfl!) (fun _ _ => by kernel_rfl!) (fun _ _ => by kernel_rfl!) fun f2 c2 oc2 vs2 t2 ctv2 pm2 qual2 g1 g2 => ?_
    · simp [codeAmong, rawInt]
    refine exsF_of ?_
    walk_at "g"
    refine st_fnread rfl rfl rfl (fun d => .head) fun d => ?_
    walk_at "g"
    refine ⟨by rw [sizeLine_eq]; simp, ?_⟩
    walk_at "g"
    refine ⟨_, _, rfl, rfl, ?_⟩
    refine drp ?_
    refine p f2 pl cx cy [(d, _), (f2, _), (c2, _), (f, _), (c', _)] _ ?_ (.made (c := c') (c2 := c2) (oc := oc) (vs := vs) (t := t) (.tail _ (.tail _ (.tail _ (.tail _ (.head _))))) d1 (by rw [d2, dq]; rfl))
    refine ⟨⟨d, f, c', _, oc, _, qual, doc, pm, ctv, vs, t, .tail _ (.head _), rfl, rfl, rfl, .head _, ?_, .tail _ (.tail _ (.tail _ (.tail _ (.head _)))), d1, d2⟩⟩
    rw [← ecl]
    exact .tail _ (.tail _ (.tail _ (.head _)))
  | @made _ c' c2 oc vs t hc d1 d2 =>
    refine exsF_def_hit (ps := #[rawInt (rdPos pp).line, rawInt (rdPos pp).col, .ref c', rawInt (lmPos pp).line, rawInt (lmPos pp).col, .ref c2]) (c' := c') M (by kernel_rfl!) trivial (by kernel_rfl!) (.tail _ (.head _)) (fun x hx => hx_stream ex ey hx) (by kernel_rfl!) (by kernel_rfl!) (fun _ => by kernel_rfl!) (by kernel_rfl!) fun f ctv doc pm qual dq => ?_
    refine exsF_lam_hit (ps := #[rawInt (rdPos pp).line, rawInt (rdPos pp).col, .ref c', rawInt (lmPos pp).line, rawInt (lmPos pp).col, .ref c2]) (c' := c2) M (by kernel_rfl!) trivial (by kernel_rfl!) (.tail _ (.tail _ (.head _))) (fun x hx => by cases hx) (fun _ => by kernel_rfl!) (by kernel_rfl!) (fun _ _ => by kernel_rfl!) (fun _ _ => by kernel_rfl!) fun f2 ctv2 pm2 qual2 => ?_
    refine exsF_of ?_
    walk_at "g"
    refine st_fnread rfl rfl rfl (fun d => .head) fun d => ?_
    walk_at "g"
    refine ⟨by rw [sizeLine_eq]; simp, ?_⟩
    walk_at "g"
    refine ⟨_, _, rfl, rfl, ?_⟩
    refine drp ?_
    refine p f2 pl cx cy [(d, _), (f2, _), (f, _)] _ ?_ (.made (c := c') (c2 := c2) (oc := oc) (vs := vs) (t := t) (.tail _ (.tail _ (.tail _ hc))) d1 d2)
    refine ⟨⟨d, f, c', _, oc, _, qual, doc, pm, ctv, vs, t, .tail _ (.head _), rfl, rfl, rfl, .head _, ?_, .tail _ (.tail _ (.tail _ hc)), d1, by rw [d2, dq]; rfl⟩⟩
    rw [← ecl]
    exact .tail _ (.tail _ (.head _))
theorem cls_ok : ClsOk (KK pp) 52 where
  ga := by kernel_rfl!
  sa := by kernel_rfl!
  gat := by kernel_rfl!
  over := by kernel_rfl!
  hd := by kernel_rfl!
  makes := by kernel_rfl!
abbrev nsL (ln : Int) (st pb : Addr) : List (Str × AV) := [("lineno", .int ln), ("instream", .ref st), ("whitespace", .str "\n\t\r "), ("pushback", .ref pb)]
theorem ok_init (X : (KK pp).In Γ.hB) : FnOk Γ 28 (fdOf (KK pp) 28) (bodyOf (fdOf (KK pp) 28)) ["self", "fp"] := fnOkB X (by kernel_rfl!) (bind2 fun _ _ => by kernel_rfl!)
theorem lex_init (W : Wd Γ (KK pp) mg mb) {x d st : Addr} {P : AV → Sto → Prop} (p : ∀ pb, P (.ref x) ((pb, .list []) :: (x, .inst 52 d) :: (d, .ns (nsL 1 st pb)) :: σ)) : CalC Γ (k + 1) (.ref 28) [.ref x, .ref st] ((x, .inst 52 d) :: (d, .ns []) :: σ) fun v σ' => v = .none ∧ P (.ref x) σ' := by
  refine fn_defB W.ok (ok_init W.X) rfl (by kernel_rfl!) (by kernel_rfl!) ?_
  refine exs_cons ?_
  walk_at "g"
  refine st_own W.X cls_ok (.head _) (.tail .head) (by simp) (by kernel_rfl!) ?_
  walk_at "g"
  refine st_own W.X cls_ok (.head _) (.tail .head) (by show (1 : Nat) < 1000; decide) (by kernel_rfl!) ?_
  walk_at "g"
  refine st_own W.X cls_ok (.head _) (.tail .head) (by show (2 : Nat) < 1000; decide) (by kernel_rfl!) ?_
  walk_at "g"
  refine ⟨by rw [sizeLine_eq]; simp, fun pb => ?_⟩
  walk_at "g"
  refine st_own W.X cls_ok (.tail _ (.head _)) (.tail (.tail .head)) (by show (3 : Nat) < 1000; decide) (by kernel_rfl!) ?_
  walk_at "g"
  exact drp ⟨rfl, p pb⟩
theorem lex_make (W : Wd Γ (KK pp) mg mb) {st : Addr} {P : AV → Sto → Prop} (p : ∀ x d pb, P (.ref x) ((pb, .list []) :: (x, .inst 52 d) :: (d, .ns (nsL 1 st pb)) :: σ)) : Cal Γ (k + 2) (.ref 52) [.ref st] σ P :=
  cal_make W.X cls_ok (by kernel_rfl!) (by kernel_rfl!) fun x d => lex_init W fun pb => p x d pb
/-- one letter, or none -/
theorem pick_one (t : List Nat) (p : Nat) (hp : p ≤ t.length) : pick t (some p) (some (p + 1)) = (t.drop p).take 1 := by
  unfold pick
  have e1 : clipAt t.length (p : Int) = p := by unfold clipAt; omega
  simp only [Option.elim, e1]
  by_cases h : p < t.length
  · have e2 : clipAt t.length ((p : Int) + 1) = p + 1 := by unfold clipAt; omega
    rw [e2]; congr 1; omega
  · have e3 : t.drop p = [] := by simp; omega
    rw [e3]; simp
theorem read_one (W : Wd Γ (KK pp) mg mb) {st cx cy pl : Addr} {ρ τ τ' : Sto} {t : List Nat} {p : Nat} (S : Strm pp ρ st cx cy) (hρ : ∀ z ∈ ρ, z ∈ τ) (ht : t.length ≤ 1000000) (hp : p ≤ t.length) (hat : At τ pl (.list [.int p]) (.list [.int ((p + ((t.drop p).take 1).length : Nat) : Int)]) τ') : ∃ rd, GM Γ "read" (.ref st) ((cx, .cell (.str (ofL t))) :: (cy, .cell (.ref pl)) :: τ) (.ref rd) [] ∧ Kpr Γ ((cx, .cell (.str (ofL t))) :: (cy, .cell (.ref pl)) :: τ) (.ref rd) ∧ ∀ P : AV → Sto → Prop, P (.str (ofL ((t.drop p).take 1))) ((cx, .cell (.str (ofL t))) :: (cy, .cell (.ref pl)) :: τ') → CalC Γ (k + 1) (.ref rd) [.int 1] ((cx, .cell (.str (ofL t))) :: (cy, .cell (.ref pl)) :: τ) P := by
  obtain ⟨sd, rd, rc, ost, orc, fdS, qual, doc, pm, ctv, vs, tk, a, b, c, d, e, f, g, h1, h2⟩ := S.ex
  refine ⟨rd, gm_fnread (.tail _ (.tail _ (hρ _ a))) b c d (.tail _ (.tail _ (hρ _ e))) rfl, kpr_obj (.tail _ (.tail _ (hρ _ f))) rfl, fun P q => ?_⟩
  refine fn_clo (x := "text") (y := "place") (names := ["size"]) (body := rdBody pp) W.ok { data := rfl, hb := rfl, code := rfl, crec := ⟨vs, tk, h1, h2⟩, bind := ?_, nodup := by decide, glob := rfl, blt := rfl, co := by kernel_rfl!, gen := by kernel_rfl!, kind := by kernel_rfl!, clx := rfl, cly := rfl } (hρ _ f) (hρ _ g) rfl (locB (by kernel_rfl!)) (cellB (by kernel_rfl!)) (by kernel_rfl!) (by kernel_rfl!) ?_
  · intro Xs h
    match Xs, h with
    | [a], _ => kernel_rfl!
  show Exs Γ k (rdScope pp) _ _ _ _
  refine exs_cons ?_
  walk_at "g"
  have hm := hat.mem
  refine ⟨plain_list hm, get_list hm (by decide) (by decide) rfl ⟨_, rfl, ?_⟩⟩
  walk_at "g"
  refine ⟨plain_list hm, get_list hm (by decide) (by decide) rfl ?_⟩
  walk_at "g"
  refine ⟨_, rfl, plain_str, slc_str (by rw [ofL_length, sizeLine_eq]; omega) ?_⟩
  have e0 : (ofL t).cps.toList = t := by simp [ofL]
  rw [e0, pick_one t p hp]
  walk_at "g"
  refine ⟨plain_list hm, get_list hm (by decide) (by decide) rfl ?_⟩
  walk_at "g"
  refine cal_len_str (by rw [ofL_length, sizeLine_eq]; simp; omega) ?_
  rw [ofL_length]
  walk_at "g"
  refine it_list (xs := [.int p]) (by
    have e : (p : Int) + ((t.drop p).take 1).length = ((p + ((t.drop p).take 1).length : Nat) : Int) := by omega
    rw [e]; exact hat) (by decide) (by simp) (by decide) ?_
  walk_at "g"
  exact drp q
/-- a lexer, its text read up to p, with what is pushed back -/
abbrev lexS (x d st pb pl cx cy : Addr) (t : List Nat) (ln p : Nat) (toks : List AV) (ρ : Sto) : Sto :=
  (cx, .cell (.str (ofL t))) :: (cy, .cell (.ref pl)) :: (pl, .list [.int p]) :: (x, .inst 52 d) :: (d, .ns (nsL ln st pb)) :: (pb, .list toks) :: ρ
theorem ok_rdch (X : (KK pp).In Γ.hB) : FnOk Γ 35 (fdOf (KK pp) 35) (bodyOf (fdOf (KK pp) 35)) ["self"] := fnOkB X (by kernel_rfl!) (bind1 fun _ => by kernel_rfl!)
theorem read_char (W : Wd Γ (KK pp) mg mb) {x d st pb pl cx cy : Addr} {ρ : Sto} {t : List Nat} {ln p : Nat} {toks : List AV} (S : Strm pp ρ st cx cy) (ht : t.length ≤ 1000000) (hp : p ≤ t.length) {P : AV → Sto → Prop}
    (q : P (.str (ofL ((t.drop p).take 1))) (lexS x d st pb pl cx cy t (ln + if (t.drop p).take 1 = [10] then 1 else 0) (p + ((t.drop p).take 1).length) toks ρ)) : CalC Γ (k + 2) (.ref 35) [.ref x] (lexS x d st pb pl cx cy t ln p toks ρ) P := by
  refine fn_defB W.ok (ok_rdch W.X) rfl (by kernel_rfl!) (by kernel_rfl!) ?_
  refine exs_cons ?_
  walk_at "g"
  refine at_own W.X cls_ok (x := x) (d := d) (es := nsL ln st pb) (by walk_at "mem") (by walk_at "mem") (by kernel_rfl!) rfl (fun _ h => by cases h) ?_
  obtain ⟨rd, gm, kp, cl⟩ := read_one (k := k) W S (τ := (pl, .list [.int p]) :: (x, .inst 52 d) :: (d, .ns (nsL ln st pb)) :: (pb, .list toks) :: ρ) (fun z hz => .tail _ (.tail _ (.tail _ (.tail _ hz)))) ht hp .head
  refine ⟨_, _, gm, ?_⟩
  walk_at "g"
  refine ⟨kp, cal_of (cl _ ?_)⟩
  walk_at "g"
  have eb : ((ofL ((t.drop p).take 1)) == ("\n" : Str)) = decide ((t.drop p).take 1 = [10]) := by
    have e1 : ("\n" : Str) = ofL [10] := by kernel_rfl!
    rw [e1]
    by_cases h : (t.drop p).take 1 = [10]
    · rw [h]; simp
    · rw [decide_eq_false h]; exact beq_eq_false_iff_ne.mpr fun e => h (ofL_inj e)
  rw [eb]
  refine ⟨fun hb => ?_, fun hb => ?_⟩
  · have hb : (t.drop p).take 1 = [10] := by simpa using hb
    rw [if_pos hb] at q
    refine exs_cons (ex_aug_attr ?_)
    walk_at "g"
    refine at_own W.X cls_ok (x := x) (d := d) (es := nsL ln st pb) (by walk_at "mem") (by walk_at "mem") (by kernel_rfl!) rfl (fun _ h => by cases h) ?_
    walk_at "g"
    refine op_iadd ?_
    refine st_own W.X cls_ok (x := x) (d := d) (es := nsL ln st pb) (by walk_at "mem") (.tail (.tail (.tail (.tail .head)))) (by show (4 : Nat) < 1000; decide) (by kernel_rfl!) ?_
    walk_at "g"
    exact drp q
  · have hb : ¬ (t.drop p).take 1 = [10] := by simpa using hb
    rw [if_neg hb] at q
    walk_at "g"
    exact drp q
theorem ok_push (X : (KK pp).In Γ.hB) : FnOk Γ 49 (fdOf (KK pp) 49) (bodyOf (fdOf (KK pp) 49)) ["self", "token"] := fnOkB X (by kernel_rfl!) (bind2 fun _ _ => by kernel_rfl!)
theorem push_token (W : Wd Γ (KK pp) mg mb) {x d st pb pl cx cy : Addr} {ρ : Sto} {t : List Nat} {ln p : Nat} {toks : List AV} {v : AV} (hl : toks.length ≤ 1000000) {P : AV → Sto → Prop}
    (q : P .none (lexS x d st pb pl cx cy t ln p (toks ++ [v]) ρ)) : CalC Γ (k + 1) (.ref 49) [.ref x, v] (lexS x d st pb pl cx cy t ln p toks ρ) P := by
  refine fn_defB W.ok (ok_push W.X) rfl (by kernel_rfl!) (by kernel_rfl!) ?_
  refine exs_cons ?_
  walk_at "g"
  refine at_own W.X cls_ok (x := x) (d := d) (es := nsL ln st pb) (by walk_at "mem") (by walk_at "mem") (by kernel_rfl!) rfl (fun _ h => by cases h) ?_
  refine ⟨_, _, gm_append (xs := toks) (by walk_at "mem"), ?_⟩
  walk_at "g"
  refine ⟨kpr_builtin, cal_append (xs := toks) (.tail (.tail (.tail (.tail (.tail .head))))) (by rw [sizeLine_eq]; omega) ⟨rfl, ?_⟩⟩
  walk_at "g"
  exact drp q
theorem ok_get (X : (KK pp).In Γ.hB) : FnOk Γ 42 (fdOf (KK pp) 42) (bodyOf (fdOf (KK pp) 42)) ["self"] := fnOkB X (by kernel_rfl!) (bind1 fun _ => by kernel_rfl!)
/-- what was pushed back comes first -/
theorem get_back (W : Wd Γ (KK pp) mg mb) {x d st pb pl cx cy : Addr} {ρ : Sto} {t : List Nat} {ln p : Nat} {toks : List AV} {v : AV} (hl : toks.length ≤ 1000000) {P : AV → Sto → Prop}
    (q : P v (lexS x d st pb pl cx cy t ln p toks ρ)) : CalC Γ (k + 1) (.ref 42) [.ref x] (lexS x d st pb pl cx cy t ln p (v :: toks) ρ) P := by
  refine fn_defB W.ok (ok_get W.X) rfl (by kernel_rfl!) (by kernel_rfl!) ?_
  refine exs_cons ?_
  walk_at "g"
  refine at_own W.X cls_ok (x := x) (d := d) (es := nsL ln st pb) (by walk_at "mem") (by walk_at "mem") (by kernel_rfl!) rfl (fun _ h => by cases h) ?_
  refine tr_list (xs := v :: toks) (by walk_at "mem") (by simp; omega) ?_
  refine ⟨fun _ => ?_, fun h => by simp at h⟩
  walk_at "g"
  refine at_own W.X cls_ok (x := x) (d := d) (es := nsL ln st pb) (by walk_at "mem") (by walk_at "mem") (by kernel_rfl!) rfl (fun _ h => by cases h) ?_
  refine ⟨_, _, gm_pop (xs := v :: toks) (by walk_at "mem"), ?_⟩
  walk_at "g"
  refine ⟨kpr_builtin, cal_pop0 (x := v) (xs := toks) (.tail (.tail (.tail (.tail (.tail .head))))) (by rw [sizeLine_eq]; omega) ?_⟩
  walk_at "g"
  exact drp q
noncomputable def isWs (c : Nat) : Bool := decide (c ∈ [10, 9, 13, 32])
theorem ws_in (c : Nat) : (!(Builtin.Str.occurrences (Str.ofString "\n\t\r ") (ofL [c]) 0 (Str.ofString "\n\t\r ").length 1).isEmpty) = isWs c := by
  have e : (Str.ofString "\n\t\r ") = ofL [10, 9, 13, 32] := by kernel_rfl!
  rw [e]
  exact StrLaws.found_one _ c
/-- the rest of a word: plain, quoted; a word -/
noncomputable def rdW : Nat → List Nat → List Nat → Option (List Nat × List Nat)
  | 0, _, _ => none
  | _, [], _ => none
  | n + 1, c :: u, w => if isWs c then some (w, u) else if c = 92 then (match u with | [] => none | e :: u' => rdW n u' (w ++ [e])) else rdW n u (w ++ [c])
noncomputable def rdQ : Nat → List Nat → List Nat → Option (List Nat × List Nat)
  | 0, _, _ => none
  | _, [], _ => none
  | n + 1, c :: u, w => if c = 34 then some (w, u) else if c = 92 then (match u with | [] => none | e :: u' => rdQ n u' (w ++ [e])) else rdQ n u (w ++ [c])
noncomputable def rdO (n : Nat) : List Nat → Option (List Nat × List Nat)
  | [] => some ([], [])
  | c :: u => if isWs c then rdO n u else if c = 34 then rdQ n u [] else if c = 92 then (match u with | [] => none | e :: u' => rdW n u' [e]) else rdW n u [c]
theorem drop_suf {t u : List Nat} (h : u <:+ t) : t.drop (t.length - u.length) = u := by
  obtain ⟨pre, rfl⟩ := h
  simp
theorem suf_len {t u : List Nat} (h : u <:+ t) : u.length ≤ t.length := h.length_le
abbrev lexU (x d st pb pl cx cy : Addr) (t : List Nat) (ln : Nat) (u : List Nat) (toks : List AV) (ρ : Sto) : Sto := lexS x d st pb pl cx cy t ln (t.length - u.length) toks ρ
theorem suf_tail {c : Nat} {u t : List Nat} (h : (c :: u) <:+ t) : u <:+ t := (List.suffix_cons c u).trans h
section
variable {x d st pb pl cx cy : Addr} {ρ : Sto} {t : List Nat} {ln : Nat} {toks : List AV}
theorem read_nil (W : Wd Γ (KK pp) mg mb) (S : Strm pp ρ st cx cy) (ht : t.length ≤ 1000000) {P : AV → Sto → Prop} (q : P (.str "") (lexU x d st pb pl cx cy t ln [] toks ρ)) : CalC Γ (k + 2) (.ref 35) [.ref x] (lexU x d st pb pl cx cy t ln [] toks ρ) P := by
  refine read_char W S ht (by simp) ?_
  have e : t.drop (t.length - ([] : List Nat).length) = [] := by simp
  rw [e]
  exact q
theorem read_cons (W : Wd Γ (KK pp) mg mb) (S : Strm pp ρ st cx cy) (ht : t.length ≤ 1000000) {c : Nat} {u : List Nat} (hs : (c :: u) <:+ t) {P : AV → Sto → Prop} (q : P (.str (ofL [c])) (lexU x d st pb pl cx cy t (ln + if c = 10 then 1 else 0) u toks ρ)) : CalC Γ (k + 2) (.ref 35) [.ref x] (lexU x d st pb pl cx cy t ln (c :: u) toks ρ) P := by
  refine read_char W S ht (by omega) ?_
  have hl := suf_len hs
  simp only [List.length_cons] at hl
  have e2 : t.length - (c :: u).length + ([c] : List Nat).length = t.length - u.length := by simp; omega
  rw [drop_suf hs]
  show P _ (lexS x d st pb pl cx cy t (ln + if [c] = [10] then 1 else 0) (t.length - (c :: u).length + ([c] : List Nat).length) toks ρ)
  rw [e2]
  simpa using q
end
section
variable {x d st pb pl cx cy fi q : Addr} {ρ : Sto} {t : List Nat} {ln : Nat} {toks : List AV} {tk : Tok}
abbrev itS (x fi q : Addr) (tk : Tok) (ρ : Sto) : Sto := (fi, .obj (ciObj q tk)) :: (q, .obj (methodObj (.ref 35) (.ref x))) :: ρ
theorem Strm.it {ρ : Sto} (S : Strm pp ρ st cx cy) : Strm pp (itS x fi q tk ρ) st cx cy := (S.cons _).cons _
theorem nx_nil (W : Wd Γ (KK pp) mg mb) (S : Strm pp ρ st cx cy) (ht : t.length ≤ 1000000) {P : Option AV → Sto → Prop} (p : P none (lexU x d st pb pl cx cy t ln [] toks ((q, .obj (methodObj (.ref 35) (.ref x))) :: ρ))) :
    Nx Γ (k + 3) fi (lexU x d st pb pl cx cy t ln [] toks (itS x fi q tk ρ)) P := by
  refine nx_step W.X (by kernel_rfl! : fnIn (KK pp) 35 = true) (by walk_at "mem") (by walk_at "mem") (read_nil W S.it ht ⟨"", rfl, by walk_at "mem", by walk_at "mem", ?_⟩)
  rw [if_pos rfl]
  exact ⟨[_, _, _, _, _, _], _, rfl, p⟩
theorem nx_cons (W : Wd Γ (KK pp) mg mb) (S : Strm pp ρ st cx cy) (ht : t.length ≤ 1000000) {c : Nat} {u : List Nat} (hs : (c :: u) <:+ t) {P : Option AV → Sto → Prop} (p : P (some (.str (ofL [c]))) (lexU x d st pb pl cx cy t (ln + if c = 10 then 1 else 0) u toks (itS x fi q tk ρ))) :
    Nx Γ (k + 3) fi (lexU x d st pb pl cx cy t ln (c :: u) toks (itS x fi q tk ρ)) P := by
  refine nx_step W.X (by kernel_rfl! : fnIn (KK pp) 35 = true) (by walk_at "mem") (by walk_at "mem") (read_cons W S.it ht hs ⟨ofL [c], rfl, by walk_at "mem", by walk_at "mem", ?_⟩)
  rw [if_neg (fun e => by have : ofL [c] = ofL [] := e; have := ofL_inj this; cases this)]
  exact p
theorem eq_q (c : Nat) : ((ofL [c]) == ("\"" : Str)) = decide (c = 34) := by
  have e1 : ("\"" : Str) = ofL [34] := by kernel_rfl!
  rw [e1]
  by_cases h : c = 34
  · subst h; simp
  · rw [decide_eq_false h]; exact beq_eq_false_iff_ne.mpr fun e => h (by have := ofL_inj e; simpa using this)
theorem eq_b (c : Nat) : ((ofL [c]) == ("\\" : Str)) = decide (c = 92) := by
  have e1 : ("\\" : Str) = ofL [92] := by kernel_rfl!
  rw [e1]
  by_cases h : c = 92
  · subst h; simp
  · rw [decide_eq_false h]; exact beq_eq_false_iff_ne.mpr fun e => h (by have := ofL_inj e; simpa using this)
noncomputable def nl (c : Nat) : Nat := if c = 10 then 1 else 0
theorem forC_perm {sc : Scope} {target : Expr} {body : List Stmt} {it : Addr} {loc : Loc} {σ σ' : Sto} {P : AFl → Loc → Sto → Prop} (h : ForC Γ k sc target body it loc σ' P) (hs : σ'.Perm σ) : ForC Γ k sc target body it loc σ P := fun A κ env s hA l f R =>
  h A κ env s hA l f ⟨R.s.perm hs, R.f.sub fun _ ha => (hs.map _).subset ha⟩
theorem get_text (W : Wd Γ (KK pp) mg mb) (S : Strm pp ρ st cx cy) (ht : t.length ≤ 1000000) {u w r : List Nat} {n ln' : Nat} (hs : u <:+ t) (hr : rdO n u = some (w, r)) (hn : ln' + r.count 10 = ln + u.count 10) {P : AV → Sto → Prop}
    (p : P (.str (ofL w)) (lexU x d st pb pl cx cy t ln' r [] ρ)) : CalC Γ (k + 4) (.ref 42) [.ref x] (lexU x d st pb pl cx cy t ln u [] ρ) P := by
  refine fn_defB W.ok (ok_get W.X) rfl (by kernel_rfl!) (by kernel_rfl!) ?_
  refine exs_cons ?_
  walk_at "g"
  refine at_own W.X cls_ok (x := x) (d := d) (es := nsL ln st pb) (by walk_at "mem") (by walk_at "mem") (by kernel_rfl!) rfl (fun _ h => by cases h) ?_
  refine tr_list (xs := []) (by walk_at "mem") (by simp) ?_
  refine ⟨fun h => by simp at h, fun _ => ?_⟩
  walk_at "g"
  refine at_bound W.X cls_ok (x := x) (d := d) (es := nsL ln st pb) (f := 35) (by walk_at "mem") (by walk_at "mem") (by kernel_rfl!) (by kernel_rfl!) (by kernel_rfl!) (by kernel_rfl!) (by kernel_rfl!) rfl fun q => ?_
  walk_at "g"
  refine cal_iter (.head _) fun fi tk => ?_
  walk_at "g"
  refine ex_forC ?_ (fun _ _ => rfl)
  walk_at "g"
  refine ⟨fi, q, tk, rfl, .head _, ?_⟩
  refine forC_perm (σ' := lexU x d st pb pl cx cy t ln u [] (itS x fi q tk ρ)) ?_ (List.perm_append_comm_assoc [_, _, _, _, _, _] [_, _] ρ)
  refine forC_sub (forC_c2 (L := fun _ _ => [("self", .ref x), ("token", .str (ofL [])), ("fiter", .ref fi)]) (S := fun u ln => lexU x d st pb pl cx cy t ln u [] (itS x fi q tk ρ)) (rank := fun u _ => u.length) (I := fun u ln => u <:+ t ∧ rdO n u = some (w, r) ∧ ln' + r.count 10 = ln + u.count 10) (fun σ₁ => w = [] ∧ (lexU x d st pb pl cx cy t ln' r [] ρ).Sublist σ₁) (.str (ofL w)) (lexU x d st pb pl cx cy t ln' r [] ρ) ?_ ?_ ?_ u ln ⟨hs, hr, hn⟩) (sub_cons rfl (sub_cons rfl (sub_cons rfl sub_nil))) (.refl _)
  · clear hs hr hn p
    intro u ln P' A hA hR hI
    refine a3 hI fun hs hr hn => ?_
    clear hI
    cases u with
    | nil =>
      have hr' : some (([] : List Nat), ([] : List Nat)) = some (w, r) := hr
      cases hr'
      have hl : ln' = ln := by simpa using hn
      subst hl
      exact nx_nil W S ht ⟨rfl, (List.Sublist.refl [_, _, _, _, _, _]).append (.cons _ (.refl _))⟩
    | cons c u =>
      refine nx_cons W S ht hs ?_
      walk_at "g"
      refine at_own W.X cls_ok (x := x) (d := d) (es := nsL _ st pb) (by walk_at "mem") (by walk_at "mem") (by kernel_rfl!) rfl (fun _ h => by cases h) ?_
      walk_at "g"
      rw [ws_in]
      refine ⟨fun hw => ?_, fun hw => ?_⟩
      · walk_at "g"
        refine hA u (ln + if c = 10 then 1 else 0) _ _ ⟨suf_tail hs, ?_, ?_⟩ (by simp only [List.length_cons]; omega) (sub_cons rfl (sub_cons rfl (sub_cons rfl sub_nil))) (.refl _)
        · rw [← hr]; simp [rdO, hw]
        · rw [hn, List.count_cons]; by_cases h : c = 10 <;> simp [h] <;> omega
      · walk_at "g"
        rw [eq_q]
        have hc0 : ∀ (c : Nat) (u : List Nat) (m : Nat), m + (c :: u).count 10 = (m + if c = 10 then 1 else 0) + u.count 10 := fun c u m => by rw [List.count_cons]; by_cases h : c = 10 <;> simp [h] <;> omega
        have hlt := suf_len hs
        simp only [List.length_cons] at hlt
        refine ⟨fun h34 => ?_, fun h34 => ?_⟩
        · have h34 : c = 34 := of_decide_eq_true h34
          have hr1 : rdQ n u [] = some (w, r) := by rw [← hr]; show _ = if isWs c then _ else if c = 34 then _ else _; rw [hw, if_neg (by decide), if_pos h34]
          refine exs_cons (ex_forC ?_ (fun _ _ => rfl))
          walk_at "g"
          refine ⟨fi, q, tk, rfl, by walk_at "mem", ?_⟩
          refine forC_sub (forC_c4 (L := fun _ _ w0 _ => [("self", .ref x), ("token", .str (ofL w0)), ("fiter", .ref fi)]) (S := fun _ u _ ln => lexU x d st pb pl cx cy t ln u [] (itS x fi q tk ρ)) (rank := fun _ u _ _ => u.length) (I := fun m u w0 ln => u <:+ t ∧ rdQ m u w0 = some (w, r) ∧ ln' + r.count 10 = ln + u.count 10 ∧ w0.length + u.length ≤ t.length) (fun _ => False) (.str (ofL w)) (lexU x d st pb pl cx cy t ln' r [] ρ) ?_ (by intro l σ' h; exact hR l σ' h) (by intro _ _ _ _ _ h; exact h.elim) n u [] _ ⟨suf_tail hs, hr1, by rw [hn]; exact hc0 c u ln, by simp; omega⟩) (sub_cons rfl (sub_cons rfl (sub_cons rfl sub_nil))) (.refl _)
          clear hA hr1 hr hs hn hlt
          intro m u w0 ln P' A hA hR hI
          refine a4 hI fun hs hr hn hb => ?_
          clear hI
          cases m with
          | zero => simp [rdQ] at hr
          | succ m =>
            cases u with
            | nil => simp [rdQ] at hr
            | cons c u =>
              refine nx_cons W S ht hs ?_
              walk_at "g"
              rw [eq_q]
              refine ⟨fun hq => ?_, fun hq => ?_⟩
              · have hq : c = 34 := of_decide_eq_true hq
                have e : w0 = w ∧ u = r := by simpa [rdQ, hq] using hr
                obtain ⟨rfl, rfl⟩ := e
                have hl : ln' = ln + if c = 10 then 1 else 0 := by have := hc0 c u ln; omega
                subst hl
                walk_at "g"
                exact hR _ _ ((List.Sublist.refl [_, _, _, _, _, _]).append (.cons _ (.cons _ (.refl _))))
              · have hq : ¬ c = 34 := of_decide_eq_false hq
                walk_at "g"
                rw [eq_b]
                refine ⟨fun hbk => ?_, fun hbk => ?_⟩
                · have hbk : c = 92 := of_decide_eq_true hbk
                  cases u with
                  | nil => simp [rdQ, hbk] at hr
                  | cons e u =>
                    have hr2 : rdQ m u (w0 ++ [e]) = some (w, r) := by simpa [rdQ, hbk] using hr
                    walk_at "g"
                    refine ⟨_, _, gm_inst W.X cls_ok (x := x) (d := d) (es := nsL _ st pb) (f := 35) (by walk_at "mem") (by walk_at "mem") (by kernel_rfl!) (by kernel_rfl!) rfl, ?_⟩
                    walk_at "g"
                    refine ⟨fun κ' h₂ l' R' => keeps_K (K := KK pp) (by kernel_rfl!) h₂ (W.X.keeps (l'.up R')), cal_of (read_cons W S.it ht (suf_tail hs) ?_)⟩
                    walk_at "g"
                    refine op_iadd_str (by simp only [ofL_length, sizeLine_eq, List.length_cons] at hb ⊢; simp; omega) ?_
                    rw [ofL_append]
                    walk_at "g"
                    refine hA m u (w0 ++ [e]) _ _ _ ⟨suf_tail (suf_tail hs), hr2, ?_, ?_⟩ (by simp only [List.length_cons]; omega) (sub_cons rfl (sub_cons rfl (sub_cons rfl sub_nil))) (.refl _)
                    · rw [hn, hc0 c (e :: u) ln, hc0 e u]
                    · simp at hb ⊢; omega
                · have hbk : ¬ c = 92 := of_decide_eq_false hbk
                  have hr2 : rdQ m u (w0 ++ [c]) = some (w, r) := by simpa [rdQ, hbk, hq] using hr
                  walk_at "g"
                  refine op_iadd_str (by simp only [ofL_length, sizeLine_eq, List.length_cons] at hb ⊢; simp; omega) ?_
                  rw [ofL_append]
                  walk_at "g"
                  refine hA m u (w0 ++ [c]) _ _ _ ⟨suf_tail hs, hr2, ?_, ?_⟩ (by simp only [List.length_cons]; omega) (sub_cons rfl (sub_cons rfl (sub_cons rfl sub_nil))) (.refl _)
                  · rw [hn]; exact hc0 c u ln
                  · simp at hb ⊢; omega
        · have h34 : ¬ c = 34 := of_decide_eq_false h34
          refine exs_cons (ex_mono (P := fun f l σ' => f = .next ∧ ∃ w1 u1 ln1, Sub [("self", .ref x), ("token", .str (ofL [])), ("fiter", .ref fi), ("ch", .str (ofL w1))] l ∧ σ' = lexU x d st pb pl cx cy t ln1 u1 [] (itS x fi q tk ρ) ∧ rdW n u1 w1 = some (w, r) ∧ u1 <:+ t ∧ ln' + r.count 10 = ln1 + u1.count 10 ∧ w1.length + u1.length ≤ t.length) ?_ ?_)
          · walk_at "g"
            rw [eq_b]
            refine ⟨fun hbk => ?_, fun hbk => ?_⟩
            · have hbk : c = 92 := of_decide_eq_true hbk
              cases u with
              | nil => have hr' : (if isWs c then rdO n [] else if c = 34 then rdQ n [] [] else if c = 92 then none else rdW n [] [c]) = some (w, r) := hr
                       rw [hw, if_neg (by decide), if_neg h34, if_pos hbk] at hr'; cases hr'
              | cons e u =>
                have hr2 : rdW n u [e] = some (w, r) := by rw [← hr]; show _ = if isWs c then _ else if c = 34 then _ else if c = 92 then _ else _; rw [hw, if_neg (by decide), if_neg h34, if_pos hbk]
                walk_at "g"
                refine ⟨_, _, gm_inst W.X cls_ok (x := x) (d := d) (es := nsL _ st pb) (f := 35) (by walk_at "mem") (by walk_at "mem") (by kernel_rfl!) (by kernel_rfl!) rfl, ?_⟩
                walk_at "g"
                refine ⟨fun κ' h₂ l' R' => keeps_K (K := KK pp) (by kernel_rfl!) h₂ (W.X.keeps (l'.up R')), cal_of (read_cons W S.it ht (suf_tail hs) ?_)⟩
                walk_at "g"
                refine ⟨rfl, [e], u, _, sub_cons rfl (sub_cons rfl (sub_cons rfl (sub_cons rfl sub_nil))), rfl, hr2, suf_tail (suf_tail hs), ?_, ?_⟩
                · rw [hn, hc0 c (e :: u) ln, hc0 e u]
                · simp at hlt ⊢; omega
            · have hbk : ¬ c = 92 := of_decide_eq_false hbk
              have hr2 : rdW n u [c] = some (w, r) := by rw [← hr]; show _ = if isWs c then _ else if c = 34 then _ else if c = 92 then _ else _; rw [hw, if_neg (by decide), if_neg h34, if_neg hbk]
              walk_at "g"
              refine ⟨rfl, [c], u, _, sub_cons rfl (sub_cons rfl (sub_cons rfl (sub_cons rfl sub_nil))), rfl, hr2, suf_tail hs, ?_, ?_⟩
              · rw [hn]; exact hc0 c u ln
              · simp; omega
          · rintro f l σ' ⟨rfl, w1, u1, ln1, hsub, rfl, hr1, hs1, hn1, hb1⟩
            refine exs_sub ?_ hsub (.refl _)
            clear hA hr hs hn hlt
            walk_at "g"
            refine op_iadd_str (by simp only [ofL_length, sizeLine_eq]; simp; omega) ?_
            rw [ofL_append]
            refine exs_cons (ex_forC ?_ (fun _ _ => rfl))
            walk_at "g"
            refine ⟨fi, q, tk, rfl, by walk_at "mem", ?_⟩
            refine forC_sub (forC_c4 (L := fun _ _ w0 _ => [("self", .ref x), ("token", .str (ofL w0)), ("fiter", .ref fi)]) (S := fun _ u _ ln => lexU x d st pb pl cx cy t ln u [] (itS x fi q tk ρ)) (rank := fun _ u _ _ => u.length) (I := fun m u w0 ln => u <:+ t ∧ rdW m u w0 = some (w, r) ∧ ln' + r.count 10 = ln + u.count 10 ∧ w0.length + u.length ≤ t.length) (fun _ => False) (.str (ofL w)) (lexU x d st pb pl cx cy t ln' r [] ρ) ?_ (by intro l σ' h; exact hR l σ' h) (by intro _ _ _ _ _ h; exact h.elim) n u1 ([] ++ w1) ln1 ⟨hs1, hr1, hn1, hb1⟩) (sub_cons rfl (sub_cons rfl (sub_cons rfl sub_nil))) (.refl _)
            intro m u w0 ln P' A hA hR hI
            refine a4 hI fun hs hr hn hb => ?_
            clear hI
            cases m with
            | zero => simp [rdW] at hr
            | succ m =>
              cases u with
              | nil => simp [rdW] at hr
              | cons c u =>
                refine nx_cons W S ht hs ?_
                walk_at "g"
                refine at_own W.X cls_ok (x := x) (d := d) (es := nsL _ st pb) (by walk_at "mem") (by walk_at "mem") (by kernel_rfl!) rfl (fun _ h => by cases h) ?_
                walk_at "g"
                rw [ws_in]
                refine ⟨fun hq => ?_, fun hq => ?_⟩
                · have e : w0 = w ∧ u = r := by simpa [rdW, hq] using hr
                  obtain ⟨rfl, rfl⟩ := e
                  have hl : ln' = ln + if c = 10 then 1 else 0 := by have := hc0 c u ln; omega
                  subst hl
                  walk_at "g"
                  exact hR _ _ ((List.Sublist.refl [_, _, _, _, _, _]).append (.cons _ (.cons _ (.refl _))))
                · walk_at "g"
                  rw [eq_b]
                  refine ⟨fun hbk => ?_, fun hbk => ?_⟩
                  · have hbk : c = 92 := of_decide_eq_true hbk
                    cases u with
                    | nil => have hr' : (if isWs c then some (w0, []) else if c = 92 then none else rdW m [] (w0 ++ [c])) = some (w, r) := hr
                             rw [hq, if_neg (by decide), if_pos hbk] at hr'; cases hr'
                    | cons e u =>
                      have hr2 : rdW m u (w0 ++ [e]) = some (w, r) := by rw [← hr]; show _ = if isWs c then _ else if c = 92 then _ else _; rw [hq, if_neg (by decide), if_pos hbk]
                      walk_at "g"
                      refine ⟨_, _, gm_inst W.X cls_ok (x := x) (d := d) (es := nsL _ st pb) (f := 35) (by walk_at "mem") (by walk_at "mem") (by kernel_rfl!) (by kernel_rfl!) rfl, ?_⟩
                      walk_at "g"
                      refine ⟨fun κ' h₂ l' R' => keeps_K (K := KK pp) (by kernel_rfl!) h₂ (W.X.keeps (l'.up R')), cal_of (read_cons W S.it ht (suf_tail hs) ?_)⟩
                      walk_at "g"
                      refine op_iadd_str (by simp only [ofL_length, sizeLine_eq, List.length_cons] at hb ⊢; simp; omega) ?_
                      rw [ofL_append]
                      walk_at "g"
                      refine hA m u (w0 ++ [e]) _ _ _ ⟨suf_tail (suf_tail hs), hr2, ?_, ?_⟩ (by simp only [List.length_cons]; omega) (sub_cons rfl (sub_cons rfl (sub_cons rfl sub_nil))) (.refl _)
                      · rw [hn, hc0 c (e :: u) ln, hc0 e u]
                      · simp at hb ⊢; omega
                  · have hbk : ¬ c = 92 := of_decide_eq_false hbk
                    have hr2 : rdW m u (w0 ++ [c]) = some (w, r) := by rw [← hr]; show _ = if isWs c then _ else if c = 92 then _ else _; rw [hq, if_neg (by decide), if_neg hbk]
                    walk_at "g"
                    refine op_iadd_str (by simp only [ofL_length, sizeLine_eq, List.length_cons] at hb ⊢; simp; omega) ?_
                    rw [ofL_append]
                    walk_at "g"
                    refine hA m u (w0 ++ [c]) _ _ _ ⟨suf_tail hs, hr2, ?_, ?_⟩ (by simp only [List.length_cons]; omega) (sub_cons rfl (sub_cons rfl (sub_cons rfl sub_nil))) (.refl _)
                    · rw [hn]; exact hc0 c u ln
                    · simp at hb ⊢; omega
  
  · intro l σ' h
    exact ⟨_, h, p⟩
  · rintro _ _ _ ⟨rfl, h⟩
    walk_at "g"
    exact ⟨_, h, p⟩
end
theorem ok_number (X : (KK pp).In Γ.hB) : FnOk Γ 89 (fdOf (KK pp) 89) (bodyOf (fdOf (KK pp) 89)) ["word"] := fnOkB X (by kernel_rfl!) (bind1 fun _ => by kernel_rfl!)
/-- the number that a word tells -/
noncomputable def numOf (w : List Nat) : Int := w.foldl (fun (a : Int) (c : Nat) => a * 16 + c - 65) 0
theorem numOf_bound (w : List Nat) (hw : ∀ c ∈ w, 65 ≤ c ∧ c ≤ 80) (a : Int) (ha : 0 ≤ a) : 0 ≤ w.foldl (fun (a : Int) (c : Nat) => a * 16 + c - 65) a := by
  induction w generalizing a with
  | nil => exact ha
  | cons c w ih =>
    refine ih (fun c hc => hw c (.tail _ hc)) _ ?_
    have := hw c (.head _); show 0 ≤ a * 16 + (c : Int) - 65; omega
theorem number (W : Wd Γ (KK pp) mg mb) {w : List Nat} (hl : w.length ≤ 1000) (hh : w.head? ≠ some 65) (hmul : ∀ v u, w = v ++ u → IntMulOk (numOf v) 16) {P : AV → Sto → Prop} (q : P (.int (numOf w)) σ) : CalC Γ (k + 1) (.ref 89) [.str (ofL w)] σ P := by
  refine fn_defB W.ok (ok_number W.X) rfl (by kernel_rfl!) (by kernel_rfl!) ?_
  refine exs_cons ?_
  walk_at "g"
  refine ⟨_, rfl, plain_str, slc_str (by rw [ofL_length, sizeLine_eq]; omega) ?_⟩
  walk_at "g"
  have e0 : (ofL w).cps.toList = w := by simp [ofL]
  have e1 : (ofL (pick (ofL w).cps.toList none (some 1)) == ("A" : Str)) = false := by
    rw [e0]
    have e2 : ("A" : Str) = ofL [65] := by kernel_rfl!
    rw [e2]
    refine beq_eq_false_iff_ne.mpr fun e => hh ?_
    have e3 := ofL_inj e
    cases w with
    | nil => cases e3
    | cons c w =>
      have hc : clipAt (c :: w).length 1 = 1 := by unfold clipAt; simp only [List.length_cons]; omega
      have : pick (c :: w) none (some 1) = [c] := by unfold pick; simp only [Option.elim, hc]; rfl
      rw [this] at e3; cases e3; rfl
  rw [e1]
  refine ⟨(fun h => by cases h), fun _ => ?_⟩
  walk_at "g"
  refine ex_for ?_ (fun _ _ => rfl)
  walk_at "g"
  refine ⟨_, _, mk_str (.name _ _), (fun p hp => by cases hp), ?_⟩
  have e5 : chars (ofL w) = w.map fun c => .str (ofL [c]) := by unfold chars; rw [e0]
  rw [e5]
  refine for_sub (for_ind2 (ι := { v : List Nat × List Nat // v.1 ++ v.2 = w }) (L := fun i => [("number", .int (numOf i.1.1))]) (S := fun _ => σ) (g := fun c => .str (ofL [c])) (I := fun xs i => i.1.2 = xs) ?_ ?_ ?_ w ⟨([], w), rfl⟩ rfl) (sub_cons rfl sub_nil) (.refl _) (fun p hp => by cases hp)
  · intro i p hp; cases hp
  · rintro c xs ⟨⟨v, u⟩, hv⟩ P' A hA hu
    dsimp only at hv hu ⊢
    subst hu
    walk_at "g"
    refine op_mul (hmul v _ hv.symm) ?_
    walk_at "g"
    refine cal_ord ?_
    walk_at "g"
    refine hA ⟨(v ++ [c], xs), by simpa using hv⟩ _ _ rfl (sub_cons ?_ sub_nil) (.refl _)
    show some (AV.int _) = some (AV.int _)
    simp [numOf]
  · rintro ⟨⟨v, u⟩, hv⟩ hu
    dsimp only at hv hu ⊢
    subst hu
    have hv : v = w := by simpa using hv
    subst hv
    walk_at "g"
    exact drp q
theorem ok_written (X : (KK pp).In Γ.hB) : FnOk Γ 82 (fdOf (KK pp) 82) (bodyOf (fdOf (KK pp) 82)) ["word", "way"] := fnOkB X (by kernel_rfl!) (bind2 fun _ _ => by kernel_rfl!)
noncomputable def esc (w : List Nat) : List Nat := (w.map fun c => [92, c]).flatten
/-- a word, as it is written -/
noncomputable def wr (w : List Nat) : Nat → List Nat
  | 0 => w
  | 1 => [34] ++ w ++ [34]
  | 2 => esc w
  | _ => [34] ++ esc w ++ [34]
theorem esc_len (w : List Nat) : (esc w).length = 2 * w.length := by
  induction w with
  | nil => rfl
  | cons c w ih => simp only [esc, List.map_cons, List.flatten_cons, List.length_append] at ih ⊢; simp at ih ⊢; omega
theorem written (W : Wd Γ (KK pp) mg mb) {w : List Nat} {way : Nat} (hl : w.length ≤ 1000) (hw : way < 4) {P : AV → Sto → Prop} (q : P (.str (ofL (wr w way))) σ) : CalC Γ (k + 1) (.ref 82) [.str (ofL w), .int way] σ P := by
  refine fn_defB W.ok (ok_written W.X) rfl (by kernel_rfl!) (by kernel_rfl!) ?_
  refine exs_cons ?_
  walk_at "g"
  refine ⟨_, _, gm_join, ?_⟩
  walk_at "g"
  refine ⟨_, _, mk_str (.name _ _), (fun p hp => by cases hp), fun D => ?_⟩
  have e0 : (ofL w).cps.toList = w := by simp [ofL]
  have e5 : chars (ofL w) = w.map fun c => .str (ofL [c]) := by unfold chars; rw [e0]
  rw [e5]
  refine cmp_sub (cmp_ind2 (ι := { v : List Nat × List Nat // v.1 ++ v.2 = w }) (L := []) (S := fun i => (D, .list ((i.1.1.map fun c => ofL [92, c]).map .str)) :: σ) (g := fun c => .str (ofL [c])) (I := fun xs i => i.1.2 = xs) ?_ ?_ ?_ w ⟨([], w), rfl⟩ rfl) sub_nil
  · intro i p hp; cases hp
  · rintro c xs ⟨⟨v, u⟩, hv⟩ A hA hu
    dsimp only at hv hu ⊢
    subst hu
    walk_at "g"
    refine ⟨sub_nil, ?_⟩
    walk_at "g"
    have e6 : (Str.ofString "\\") = ofL [92] := by kernel_rfl!
    rw [e6]
    refine op_add_str (by simp only [ofL_length, sizeLine_eq]; simp) ?_
    rw [ofL_append]
    have hvl := congrArg List.length hv
    refine hA _ _ _ _ ⟨(v ++ [c], xs), by simpa using hv⟩ .head (by simp only [List.length_append] at hvl; simp [sizeLine_eq]; omega) rfl (by simp)
  · rintro ⟨⟨v, u⟩, hv⟩ hu
    dsimp only at hv hu ⊢
    subst hu
    have hv : v = w := by simpa using hv
    subst hv
    walk_at "g"
    refine ⟨kpr_builtin, cal_join (.head _) ?_ ?_⟩
    · have e8 : ∀ l : List Nat, ((l.map fun c => ofL [92, c]).map (·.length)).sum = 2 * l.length := by
        intro l
        induction l with
        | nil => rfl
        | cons c l ih => simp only [List.map_cons, List.sum_cons, ih, ofL_length, List.length_cons, List.length_nil]; omega
      rw [e8]
      have e9 : (Str.ofString "").length = 0 := by kernel_rfl!
      rw [e9]; omega
    have e7 : Builtin.Str.glued (Str.ofString "") (v.map fun c => ofL [92, c]) = ofL (esc v) := by
      have := glued_ofL (v.map fun c => [92, c])
      rw [List.map_map] at this
      exact this
    rw [e7]
    walk_at "g"
    have e6 : (Str.ofString "\"") = ofL [34] := by kernel_rfl!
    rw [e6]
    refine op_add_str (by simp only [ofL_length, sizeLine_eq]; simp; omega) ?_
    rw [ofL_append]
    walk_at "g"
    refine op_add_str (by simp only [ofL_length, sizeLine_eq]; simp; omega) ?_
    rw [ofL_append]
    walk_at "g"
    have el := esc_len v
    refine op_add_str (by simp only [ofL_length, sizeLine_eq]; simp; omega) ?_
    rw [ofL_append]
    walk_at "g"
    refine op_add_str (by simp only [ofL_length, sizeLine_eq]; simp; omega) ?_
    rw [ofL_append]
    walk_at "g"
    refine ⟨by rw [sizeLine_eq]; simp, fun a => ?_⟩
    walk_at "g"
    refine ⟨plain_list (.head _), get_list (x := .str (ofL (wr v way))) (.head _) (by omega) (by omega) ?_ ?_⟩
    · rw [Int.toNat_natCast]
      match way, hw with
      | 0, _ => rfl
      | 1, _ => rfl
      | 2, _ => rfl
      | 3, _ => rfl
    exact ⟨_, .cons _ (.cons _ (.refl _)), q⟩
theorem figs_range : ∀ (bs : List Int) (x : Int), (∀ b ∈ bs, 0 < b) → ∀ i b, bs[i]? = some b → 0 ≤ (figs x bs).getD i 0 ∧ (figs x bs).getD i 0 < b
  | [], x, _, i, b, e => by simp at e
  | c :: bs, x, h, 0, b, e => by
    simp at e; subst e
    have := h c (.head _)
    exact ⟨Int.emod_nonneg _ (by omega), Int.emod_lt_of_pos _ this⟩
  | c :: bs, x, h, i + 1, b, e => by
    simp only [List.getElem?_cons_succ] at e
    have := figs_range bs (x / c) (fun b hb => h b (.tail _ hb)) i b e
    simpa [figs] using this
noncomputable def apN (n : Nat) : List Nat := (ap n).map (·.toNat)
noncomputable def sepN : Nat → List Nat
  | 0 => [32]
  | 1 => [10]
  | 2 => [9]
  | _ => [13, 10, 32]
theorem ap_rng (n : Nat) : ∀ c ∈ ap n, 65 ≤ c.toNat ∧ c.toNat ≤ 80 := by
  induction n using Nat.strongRecOn with
  | _ n ih =>
    intro c hc
    by_cases hn : n = 0
    · subst hn; rw [ap_zero] at hc; cases hc
    · rw [ap_pos hn] at hc
      rcases List.mem_append.mp hc with h | h
      · exact ih (n / 16) (by omega) c h
      · rw [List.mem_singleton] at h; subst h
        have : (UInt8.ofNat (65 + n % 16)).toNat = 65 + n % 16 := by simp; omega
        rw [this]; omega
theorem ap_ne {n : Nat} (h : n ≠ 0) : ap n ≠ [] := by rw [ap_pos h]; simp
theorem apN_len (n : Nat) (m : Nat) (h : n < 16 ^ m) : (apN n).length ≤ m := by unfold apN; rw [List.length_map]; exact ap_len n m h
theorem wr_len (w : List Nat) (k : Nat) : (wr w k).length ≤ 2 * w.length + 2 := by
  have := esc_len w
  unfold wr; split <;> simp <;> omega
theorem sep_len (k : Nat) : (sepN k).length ≤ 3 := by unfold sepN; split <;> simp
theorem apN_pos {n : Nat} (h : n ≠ 0) : apN n = apN (n / 16) ++ [65 + n % 16] := by
  unfold apN
  rw [ap_pos h, List.map_append]
  congr 1
  simp; omega
theorem apN_zero : apN 0 = [] := by unfold apN; rw [ap_zero]; rfl
theorem numOf_apN (n : Nat) : numOf (apN n) = n := by
  induction n using Nat.strongRecOn with
  | _ n ih =>
    by_cases hn : n = 0
    · subst hn; rw [apN_zero]; rfl
    · rw [apN_pos hn]
      have h1 := ih (n / 16) (by omega)
      unfold numOf at h1 ⊢
      rw [List.foldl_append, h1]
      simp only [List.foldl_cons, List.foldl_nil]
      omega
theorem apN_head (n : Nat) : (apN n).head? ≠ some 65 := by
  induction n using Nat.strongRecOn with
  | _ n ih =>
    by_cases hn : n = 0
    · subst hn; rw [apN_zero]; simp
    · rw [apN_pos hn]
      by_cases h2 : n / 16 = 0
      · rw [h2, apN_zero]; simp; omega
      · have h3 := ih (n / 16) (by omega)
        have h4 : apN (n / 16) ≠ [] := by rw [apN_pos h2]; simp
        cases e : apN (n / 16) with
        | nil => exact absurd e h4
        | cons a l => rw [e] at h3; simpa using h3
theorem apN_rng (n : Nat) : ∀ c ∈ apN n, 65 ≤ c ∧ c ≤ 80 := by
  intro c hc
  unfold apN at hc
  obtain ⟨b, hb, rfl⟩ := List.mem_map.mp hc
  exact ap_rng n b hb
theorem apN_ne {n : Nat} (h : n ≠ 0) : apN n ≠ [] := by rw [apN_pos h]; simp
/-- letters that nothing is meant by -/
noncomputable def plainL (w : List Nat) : Prop := ∀ c ∈ w, 65 ≤ c ∧ c ≤ 80
theorem plain_ws {c : Nat} (h : 65 ≤ c ∧ c ≤ 80) : isWs c = false := by unfold isWs; simp; omega
theorem rdW_plain : ∀ (w : List Nat) (n : Nat) (acc r : List Nat) (c : Nat), plainL w → isWs c = true → w.length < n → rdW n (w ++ c :: r) acc = some (acc ++ w, r)
  | [], n + 1, acc, r, c, _, hc, _ => by simp [rdW, hc]
  | a :: w, n + 1, acc, r, c, hw, hc, hn => by
    have h1 := hw a (.head _)
    have h2 := plain_ws h1
    rw [List.cons_append]
    show (if isWs a then _ else if a = 92 then _ else rdW n (w ++ c :: r) (acc ++ [a])) = _
    rw [h2, if_neg (by decide), if_neg (by omega), rdW_plain w n _ r c (fun b hb => hw b (.tail _ hb)) hc (by simp at hn; omega)]
    simp
theorem rdW_esc : ∀ (w : List Nat) (n : Nat) (acc r : List Nat) (c : Nat), isWs c = true → w.length < n → rdW n (esc w ++ c :: r) acc = some (acc ++ w, r)
  | [], n + 1, acc, r, c, hc, _ => by simp [rdW, esc, hc]
  | a :: w, n + 1, acc, r, c, hc, hn => by
    have e : esc (a :: w) ++ c :: r = 92 :: a :: (esc w ++ c :: r) := by simp [esc]
    rw [e]
    show (if isWs 92 then _ else if 92 = 92 then rdW n (esc w ++ c :: r) (acc ++ [a]) else _) = _
    rw [if_neg (by decide), if_pos rfl, rdW_esc w n _ r c hc (by simp at hn; omega)]
    simp
theorem rdQ_plain : ∀ (w : List Nat) (n : Nat) (acc r : List Nat), plainL w → w.length < n → rdQ n (w ++ 34 :: r) acc = some (acc ++ w, r)
  | [], n + 1, acc, r, _, _ => by simp [rdQ]
  | a :: w, n + 1, acc, r, hw, hn => by
    have h1 := hw a (.head _)
    rw [List.cons_append]
    show (if a = 34 then _ else if a = 92 then _ else rdQ n (w ++ 34 :: r) (acc ++ [a])) = _
    rw [if_neg (by omega), if_neg (by omega), rdQ_plain w n _ r (fun b hb => hw b (.tail _ hb)) (by simp at hn; omega)]
    simp
theorem rdQ_esc : ∀ (w : List Nat) (n : Nat) (acc r : List Nat), w.length < n → rdQ n (esc w ++ 34 :: r) acc = some (acc ++ w, r)
  | [], n + 1, acc, r, _ => by simp [rdQ, esc]
  | a :: w, n + 1, acc, r, hn => by
    have e : esc (a :: w) ++ 34 :: r = 92 :: a :: (esc w ++ 34 :: r) := by simp [esc]
    rw [e]
    show (if 92 = 34 then _ else if 92 = 92 then rdQ n (esc w ++ 34 :: r) (acc ++ [a]) else _) = _
    rw [if_neg (by decide), if_pos rfl, rdQ_esc w n _ r (by simp at hn; omega)]
    simp
theorem rdO_ws : ∀ (b : List Nat) (n : Nat) (r : List Nat), (∀ c ∈ b, isWs c = true) → rdO n (b ++ r) = rdO n r
  | [], _, _, _ => rfl
  | c :: b, n, r, h => by
    show (if isWs c then rdO n (b ++ r) else _) = _
    rw [h c (.head _), if_pos rfl, rdO_ws b n r fun d hd => h d (.tail _ hd)]
/-- a written word read -/
theorem rdO_wr {w : List Nat} {way n : Nat} (hw : plainL w) (hne : w ≠ [] ∨ way % 2 = 1) (h4 : way < 4) (hn : w.length < n) {c : Nat} (hc : isWs c = true) (r : List Nat) :
    rdO n (wr w way ++ c :: r) = some (w, if way % 2 = 1 then c :: r else r) := by
  match way, h4 with
  | 0, _ =>
    cases w with
    | nil => rcases hne with h | h; exact absurd rfl h; cases h
    | cons a w =>
      have h1 := hw a (.head _)
      show (if isWs a then _ else if a = 34 then _ else if a = 92 then _ else rdW n (w ++ c :: r) [a]) = _
      rw [plain_ws h1, if_neg (by decide), if_neg (by omega), if_neg (by omega), rdW_plain w n _ r c (fun b hb => hw b (.tail _ hb)) hc (by simp at hn; omega)]
      rfl
  | 1, _ =>
    have e : wr w 1 ++ c :: r = 34 :: (w ++ 34 :: c :: r) := by simp [wr]
    rw [e]
    show (if isWs 34 then _ else if 34 = 34 then rdQ n (w ++ 34 :: c :: r) [] else _) = _
    rw [if_neg (by decide), if_pos rfl, rdQ_plain w n _ _ hw hn]
    rfl
  | 2, _ =>
    cases w with
    | nil => rcases hne with h | h; exact absurd rfl h; cases h
    | cons a w =>
      have e : wr (a :: w) 2 ++ c :: r = 92 :: a :: (esc w ++ c :: r) := by simp [wr, esc]
      rw [e]
      show (if isWs 92 then _ else if 92 = 34 then _ else if 92 = 92 then rdW n (esc w ++ c :: r) [a] else _) = _
      rw [if_neg (by decide), if_neg (by decide), if_pos rfl, rdW_esc w n _ r c hc (by simp at hn; omega)]
      rfl
  | 3, _ =>
    have e : wr w 3 ++ c :: r = 34 :: (esc w ++ 34 :: c :: r) := by simp [wr]
    rw [e]
    show (if isWs 34 then _ else if 34 = 34 then rdQ n (esc w ++ 34 :: c :: r) [] else _) = _
    rw [if_neg (by decide), if_pos rfl, rdQ_esc w n _ _ hn]
    rfl
theorem sep_ws (k : Nat) : ∃ c r, sepN k = c :: r ∧ isWs c = true ∧ ∀ d ∈ sepN k, isWs d = true := by
  unfold sepN
  split
  · exact ⟨_, _, rfl, rfl, by decide⟩
  · exact ⟨_, _, rfl, rfl, by decide⟩
  · exact ⟨_, _, rfl, rfl, by decide⟩
  · exact ⟨_, _, rfl, rfl, by decide⟩
/-- blanks, a word, blanks: what is left behind the word -/
theorem rdO_piece {bl w : List Nat} {way s n : Nat} (hb : ∀ c ∈ bl, isWs c = true) (hw : plainL w) (hne : w ≠ [] ∨ way % 2 = 1) (h4 : way < 4) (hn : w.length < n) (r : List Nat) :
    rdO n (bl ++ (wr w way ++ (sepN s ++ r))) = some (w, (sepN s).drop (1 - way % 2) ++ r) := by
  obtain ⟨c, q, e, hc, _⟩ := sep_ws s
  rw [rdO_ws _ _ _ hb, e, List.cons_append, rdO_wr hw hne h4 hn hc]
  by_cases h : way % 2 = 1
  · rw [if_pos h, h]; rfl
  · rw [if_neg h, show way % 2 = 0 by omega]; rfl
theorem sep_drop (s i : Nat) : ∀ c ∈ (sepN s).drop i, isWs c = true := by
  obtain ⟨_, _, _, _, h⟩ := sep_ws s
  exact fun c hc => h c (List.mem_of_mem_drop hc)
/-- what one get_token gives -/
inductive Gets (t : List Nat) : Nat × List Nat × List AV → List Nat → Nat × List Nat × List AV → Prop
  | back {ln : Nat} {u : List Nat} {w : List Nat} {toks : List AV} : toks.length ≤ 1000000 → Gets t (ln, u, .str (ofL w) :: toks) w (ln, u, toks)
  | text {ln ln' n : Nat} {u w r : List Nat} : u <:+ t → rdO n u = some (w, r) → ln' + r.count 10 = ln + u.count 10 → Gets t (ln, u, []) w (ln', r, [])
theorem get_any (W : Wd Γ (KK pp) mg mb) {x d st pb pl cx cy : Addr} {ρ : Sto} {t : List Nat} (S : Strm pp ρ st cx cy) (ht : t.length ≤ 1000000) {a b : Nat × List Nat × List AV} {w : List Nat} (g : Gets t a w b) {P : AV → Sto → Prop}
    (p : P (.str (ofL w)) (lexU x d st pb pl cx cy t b.1 b.2.1 b.2.2 ρ)) : CalC Γ (k + 4) (.ref 42) [.ref x] (lexU x d st pb pl cx cy t a.1 a.2.1 a.2.2 ρ) P := by
  cases g with
  | back hl => exact get_back W hl p
  | text hs hr hn => exact get_text W S ht hs hr hn p
theorem gets_piece {t u0 bl w R : List Nat} {way s : Nat} (e : u0 = bl ++ (wr w way ++ (sepN s ++ R))) (hs : u0 <:+ t) (hb : ∀ c ∈ bl, isWs c = true) (hw : plainL w) (hne : w ≠ [] ∨ way % 2 = 1) (h4 : way < 4) :
    ((sepN s).drop (1 - way % 2) ++ R) <:+ t ∧ Gets t (1 + t.count 10 - u0.count 10, u0, []) w (1 + t.count 10 - ((sepN s).drop (1 - way % 2) ++ R).count 10, (sepN s).drop (1 - way % 2) ++ R, []) := by
  have h1 : ((sepN s).drop (1 - way % 2) ++ R) <:+ u0 := ⟨bl ++ wr w way ++ (sepN s).take (1 - way % 2), by
    have := List.take_append_drop (1 - way % 2) (sepN s)
    rw [e]
    simp only [List.append_assoc]
    rw [← List.append_assoc ((sepN s).take _), this]⟩
  have h2 := h1.trans hs
  have c1 := h1.sublist.count_le 10
  have c2 := hs.sublist.count_le 10
  refine ⟨h2, .text (n := w.length + 1) hs (by rw [e]; exact rdO_piece hb hw hne h4 (Nat.lt_succ_self _) R) (by omega)⟩
theorem ok_drawn (X : (KK pp).In Γ.hB) : FnOk Γ 94 (fdOf (KK pp) 94) (bodyOf (fdOf (KK pp) 94)) ["script"] := fnOkB X (by kernel_rfl!) (bind1 fun _ => by kernel_rfl!)
noncomputable def bases3 : List Int := [30, 4, 4, 4, 4, 65536]
noncomputable def fgA (x : Int) (i : Nat) : Int := (figs x bases3).getD i 0
noncomputable def fgN (x : Int) (i : Nat) : Nat := (fgA x i).toNat
noncomputable def facN (x : Int) : Nat := 2 + fgN x 0
noncomputable def staN (x : Int) : Nat := 1 + fgN x 5
noncomputable def wayN (x : Int) (i : Nat) : Nat := fgN x (1 + i)
theorem fg_range (x : Int) (i : Nat) (b : Int) (e : bases3[i]? = some b) : fgA x i = (fgN x i : Int) ∧ (fgN x i : Int) < b := by
  have := figs_range bases3 x (by decide) i b e
  have h2 : fgA x i = (fgN x i : Int) := by unfold fgN; rw [Int.toNat_of_nonneg]; exact this.1
  exact ⟨h2, h2 ▸ this.2⟩
theorem figs6 (x : Int) : (figs x bases3).map AV.int = [.int (fgN x 0 : Nat), .int (fgN x 1 : Nat), .int (fgN x 2 : Nat), .int (fgN x 3 : Nat), .int (fgN x 4 : Nat), .int (fgN x 5 : Nat)] := by
  rw [← (fg_range x 0 30 rfl).1, ← (fg_range x 1 4 rfl).1, ← (fg_range x 2 4 rfl).1, ← (fg_range x 3 4 rfl).1, ← (fg_range x 4 4 rfl).1, ← (fg_range x 5 65536 rfl).1]
  rfl
/-- the script's numbers, and what stands for those that lack -/
noncomputable def scrA (xs : List Int) (k : Nat) : Int := (xs[k]?).getD (([0, 1, 3] : List Int).getD k 0)
noncomputable def scr3 (xs : List Int) : List Int := ([0, 1, 2] : List Nat).map (scrA xs)
noncomputable def rowE (r : Int × Addr) : Addr × AO := (r.2, .list ((figs r.1 bases3).map .int))
noncomputable def wayE (r : Int × Addr) : Addr × AO := (r.2, .list [.int (wayN r.1 0 : Nat), .int (wayN r.1 1 : Nat), .int (wayN r.1 2 : Nat), .int (wayN r.1 3 : Nat)])
theorem At.app {τ τ' l : Sto} {a : Addr} {o o' : AO} (h : At τ a o o' τ') : At (l ++ τ) a o o' (l ++ τ') := by
  induction l with
  | nil => exact h
  | cons p l ih => exact .tail ih
theorem drawn (W : Wd Γ (KK pp) mg mb) {sa : Addr} {xs : List Int} (hl : xs.length ≤ 63) (hm : Fz Γ sa xs) {P : AV → Sto → Prop}
    (q : ∀ fa wa (ws : List (Int × Addr)), ws.map (·.1) = scr3 xs → P (.tup [.ref fa, .int (staN (scrA xs 0) : Nat), .ref wa]) (ws.reverse.map wayE ++ (wa, .list (ws.map fun r => .ref r.2)) :: (fa, .list ((scr3 xs).map fun x => .int (facN x : Nat))) :: σ)) : CalC Γ (k + 2) (.ref 94) [.ref sa] σ P := by
  refine fn_defB W.ok (ok_drawn W.X) rfl (by kernel_rfl!) (by kernel_rfl!) ?_
  refine exs_cons ?_
  walk_at "g"
  refine ⟨by rw [sizeLine_eq]; simp, fun da => ?_⟩
  walk_at "g"
  refine ex_for ?_ (fun _ _ => rfl)
  walk_at "g"
  refine cal_range1 fun rg og hog => ?_
  refine ⟨_, _, mk_range (.name _ _) (.head _) hog (by decide) (by decide) (by decide) (by decide), (fun p hp => by cases hp), ?_⟩
  have e0 : intsFrom 0 ((3 : Int) - 0).toNat = ([0, 1, 2] : List Nat).map fun n : Nat => AV.int n := rfl
  rw [e0]
  refine for_sub (σ' := (da, .list []) :: σ) (for_ind2 (ι := List (Int × Addr)) (L := fun _ => [("script", .ref sa), ("drawn", .ref da)]) (S := fun rs => rs.map rowE ++ (da, .list (rs.reverse.map fun r => .ref r.2)) :: σ) (g := fun n : Nat => .int n) (I := fun ys rs => rs.reverse.map (·.1) ++ ys.map (scrA xs) = scr3 xs ∧ ∀ y ∈ ys, y < 3) ?_ ?_ ?_ [0, 1, 2] [] ⟨rfl, by decide⟩) (sub_cons rfl (sub_cons rfl sub_nil)) (.cons _ (.refl _)) (fun p hp => by cases hp)
  · intro i p hp; cases hp
  · intro y ys rs P' A hA ⟨h1, h2⟩
    have hy := h2 y (.head _)
    have hlen : rs.length ≤ 3 := by
      have := congrArg List.length h1
      simp [scr3] at this; omega
    walk_at "g"
    refine ev_mono (P := fun v σ₁ => v = .int (scrA xs y) ∧ ∃ g, σ₁ = g ++ (rs.map rowE ++ (da, .list (rs.reverse.map fun r => .ref r.2)) :: σ)) ?_ ?_
    · refine ev_ifexp ?_
      walk_at "g"
      refine fz_len hm (by rw [sizeLine_eq]; omega) ?_
      walk_at "g"
      refine ⟨fun hb => ?_, fun hb => ?_⟩
      · have hb : y < xs.length := by have := of_decide_eq_true hb; omega
        refine ev_itemF hm ?_ (fun _ _ => by kernel_rfl!)
        walk_at "g"
        refine ⟨rfl, ?_⟩
        walk_at "g"
        refine fz_get hm (by omega) (by omega) (by rw [Int.toNat_natCast]; exact List.getElem?_eq_getElem hb) ⟨?_, [], rfl⟩
        unfold scrA
        rw [List.getElem?_eq_getElem hb]; rfl
      · have hb : xs.length ≤ y := by have := of_decide_eq_false hb; omega
        walk_at "g"
        refine ⟨by rw [sizeLine_eq]; simp, fun la => ?_⟩
        walk_at "g"
        refine ⟨plain_list (.head _), get_list (x := .int (scrA xs y)) (.head _) (by omega) (by omega) ?_ ⟨rfl, [_], rfl⟩⟩
        unfold scrA
        rw [Int.toNat_natCast, List.getElem?_eq_none hb]
        match y, hy with
        | 0, _ => rfl
        | 1, _ => rfl
        | 2, _ => rfl
    · rintro v σ₁ ⟨rfl, g, rfl⟩
      walk_at "g"
      refine ⟨_, _, gm_append (xs := rs.reverse.map fun r => .ref r.2) (List.mem_append_right _ (List.mem_append_right _ (.head _))), ?_⟩
      walk_at "g"
      refine ev_calG W 70 (by kernel_rfl!) ?_
      walk_at "g"
      refine ⟨by rw [sizeLine_eq]; simp, fun ba => ?_⟩
      walk_at "g"
      refine cal_of (fig W (bases := bases3) (by decide) (by decide) (.head _) fun fb => ?_)
      walk_at "g"
      refine ⟨kpr_builtin, cal_append (xs := rs.reverse.map fun r => .ref r.2) (.tail (.tail (At.app (At.app .head)))) (by rw [sizeLine_eq]; simp; omega) ⟨rfl, ?_⟩⟩
      walk_at "g"
      refine hA ((scrA xs y, fb) :: rs) _ _ ⟨by rw [← h1]; simp, fun z hz => h2 z (.tail _ hz)⟩ (sub_cons rfl (sub_cons rfl sub_nil)) ?_
      simp only [List.map_cons, List.reverse_cons, List.map_append, List.map_nil]
      exact .cons₂ _ (.cons _ (List.sublist_append_right _ _))
  · intro rs ⟨h1, _⟩
    rw [List.map_nil, List.append_nil] at h1
    have hlen : rs.length = 3 := by
      have := congrArg List.length h1
      simpa [scr3] using this
    walk_at "g"
    have hda : ∀ τ : Sto, (da, AO.list (rs.reverse.map fun r => .ref r.2)) ∈ τ ++ (rs.map rowE ++ (da, .list (rs.reverse.map fun r => .ref r.2)) :: σ) := fun _ => List.mem_append_right _ (List.mem_append_right _ (.head _))
    have hrow : ∀ (τ : Sto) r, r ∈ rs.reverse → rowE r ∈ τ ++ (rs.map rowE ++ (da, .list (rs.reverse.map fun r => .ref r.2)) :: σ) := fun _ r hr => List.mem_append_right _ (List.mem_append_left _ (List.mem_map_of_mem (List.mem_reverse.mp hr)))
    refine ⟨_, _, mk_list (.name _ _) (xs := rs.reverse.map fun r => .ref r.2) (hda []), (fun p hp => by rw [List.mem_singleton.mp hp]; exact hda []), fun D => ?_⟩
    refine cmp_sub (cmp_ind2 (ι := List Int) (L := []) (S := fun zs => (D, .list (zs.map fun x => .int (facN x : Nat))) :: (rs.map rowE ++ (da, .list (rs.reverse.map fun r => .ref r.2)) :: σ)) (g := fun r : Int × Addr => .ref r.2) (I := fun ys zs => zs ++ ys.map (·.1) = scr3 xs ∧ ∀ r ∈ ys, r ∈ rs.reverse) ?_ ?_ ?_ rs.reverse [] ⟨h1, fun r hr => hr⟩) sub_nil
    · intro i p hp; rw [List.mem_singleton.mp hp]; exact hda [_]
    · rintro ⟨x, b⟩ ys zs A hA ⟨g1, g2⟩
      have hz := congrArg List.length g1
      simp only [List.length_append, List.length_map, List.length_cons] at hz
      have hz3 : (scr3 xs).length = 3 := rfl
      walk_at "g"
      refine ⟨sub_nil, ?_⟩
      walk_at "g"
      have hb := hrow [(D, .list (zs.map fun x => .int (facN x : Nat)))] _ (g2 _ (.head _))
      refine ⟨plain_list hb, get_list (x := .int (fgN x 0 : Nat)) hb (by decide) (by decide) (by rw [figs6]; rfl) ?_⟩
      walk_at "g"
      refine hA _ _ _ _ (zs ++ [x]) .head (by rw [sizeLine_eq, List.length_map]; omega) ⟨by rw [← g1]; simp, fun r hr => g2 r (.tail _ hr)⟩ ?_
      rw [List.map_append]
      unfold facN
      simp only [List.map_cons, List.map_nil, Int.natCast_add]
      rfl
    · rintro zs ⟨g1, _⟩
      rw [List.map_nil, List.append_nil] at g1
      subst g1
      walk_at "g"
      have e3 : rs.reverse = [(scrA xs 0, (rs.reverse.getD 0 (0, 0)).2), (scrA xs 1, (rs.reverse.getD 1 (0, 0)).2), (scrA xs 2, (rs.reverse.getD 2 (0, 0)).2)] := by
        have hl2 : rs.reverse.length = 3 := by rw [List.length_reverse]; exact hlen
        match e : rs.reverse, hl2 with
        | [a, b, c], _ =>
          rw [e] at h1
          simp only [scr3, List.map_cons, List.map_nil, List.cons.injEq] at h1
          obtain ⟨r1, r2, r3, _⟩ := h1
          rw [← r1, ← r2, ← r3]; rfl
      refine ⟨plain_list (hda [_]), get_list (x := .ref (rs.reverse.getD 0 (0, 0)).2) (hda [_]) (by decide) (by decide) (by rw [e3]; rfl) ?_⟩
      walk_at "g"
      have hr0 := hrow [(D, .list ((scr3 xs).map fun x => .int (facN x : Nat)))] (scrA xs 0, (rs.reverse.getD 0 (0, 0)).2) (by rw [e3]; exact .head _)
      refine ⟨plain_list hr0, get_list (x := .int (fgN (scrA xs 0) 5 : Nat)) hr0 (by decide) (by decide) (by rw [figs6]; rfl) ?_⟩
      walk_at "g"
      refine ⟨_, _, mk_list (.name _ _) (xs := rs.reverse.map fun r => .ref r.2) (hda [_]), (fun p hp => by rw [List.mem_singleton.mp hp]; exact hda [_]), fun E => ?_⟩
      refine cmp_sub (cmp_ind2 (ι := List (Int × Addr)) (L := []) (S := fun ws => ws.map wayE ++ (E, .list (ws.reverse.map fun r => .ref r.2)) :: (D, .list ((scr3 xs).map fun x => .int (facN x : Nat))) :: (rs.map rowE ++ (da, .list (rs.reverse.map fun r => .ref r.2)) :: σ)) (g := fun r : Int × Addr => .ref r.2) (I := fun ys ws => ws.reverse.map (·.1) ++ ys.map (·.1) = scr3 xs ∧ ∀ r ∈ ys, r ∈ rs.reverse) ?_ ?_ ?_ rs.reverse [] ⟨h1, fun r hr => hr⟩) sub_nil
      · intro i p hp; rw [List.mem_singleton.mp hp]; exact List.mem_append_right _ (hda [_, _])
      · rintro ⟨x, b⟩ ys ws A hA ⟨g1, g2⟩
        have hz := congrArg List.length g1
        simp only [List.length_append, List.length_map, List.length_cons, List.length_reverse] at hz
        have hz3 : (scr3 xs).length = 3 := rfl
        walk_at "g"
        refine ⟨sub_nil, ?_⟩
        walk_at "g"
        refine ⟨_, rfl, ?_⟩
        walk_at "g"
        have hb : rowE (x, b) ∈ ws.map wayE ++ (E, .list (ws.reverse.map fun r => .ref r.2)) :: (D, .list ((scr3 xs).map fun x => .int (facN x : Nat))) :: (rs.map rowE ++ (da, .list (rs.reverse.map fun r => .ref r.2)) :: σ) := List.mem_append_right _ (hrow [_, _] _ (g2 _ (.head _)))
        refine ⟨_, rfl, plain_list hb, slc_list hb (by rw [sizeLine_eq]; simp [figs_length, bases3]) fun wb => ?_⟩
        rw [figs6]
        refine hA _ _ _ _ ((x, wb) :: ws) (.tail (At.app .head)) (by rw [sizeLine_eq, List.length_map, List.length_reverse]; omega) ⟨by rw [← g1]; simp, fun r hr => g2 r (.tail _ hr)⟩ ?_
        simp only [List.map_cons, List.reverse_cons, List.map_append, List.map_nil]
        rfl
      · rintro ws ⟨g1, _⟩
        rw [List.map_nil, List.append_nil] at g1
        walk_at "g"
        refine ⟨by rw [sizeLine_eq]; simp, ?_⟩
        walk_at "g"
        refine ⟨ws.map wayE ++ (E, .list (ws.reverse.map fun r => .ref r.2)) :: (D, .list ((scr3 xs).map fun x => .int (facN x : Nat))) :: σ, (List.Sublist.refl _).append (.cons₂ _ (.cons₂ _ ((List.Sublist.cons _ (.refl _)).trans (List.sublist_append_right _ _)))), ?_⟩
        have := q D E ws.reverse g1
        rw [List.reverse_reverse] at this
        unfold staN at this
        exact this
theorem ok_file (X : (KK pp).In Γ.hB) : FnOk Γ 101 (fdOf (KK pp) 101) (bodyOf (fdOf (KK pp) 101)) ["factor", "start", "ways"] := fnOkB X (by kernel_rfl!) (bind3 fun _ _ _ => by kernel_rfl!)
/-- a text of two words -/
noncomputable def pre3 (f st w0 w1 w2 : Nat) : List Nat := wr (apN f) w0 ++ sepN w1 ++ wr (apN st) w2
noncomputable def txt3 (f st w0 w1 w2 w3 : Nat) : List Nat := pre3 f st w0 w1 w2 ++ sepN w3
noncomputable def spot3 (f st w0 w1 w2 : Nat) : Nat := (pre3 f st w0 w1 w2).length + 1 - w2 % 2
noncomputable def line3 (f st w0 w1 w2 w3 : Nat) : Nat := 1 + ((txt3 f st w0 w1 w2 w3).take (spot3 f st w0 w1 w2)).count 10
theorem pre3_len {f st : Nat} (w0 w1 w2 : Nat) (hf : f < 16 ^ 5) (hs : st < 16 ^ 5) : (pre3 f st w0 w1 w2).length ≤ 27 := by
  have h1 := wr_len (apN f) w0
  have h2 := wr_len (apN st) w2
  have h3 := apN_len f 5 hf
  have h4 := apN_len st 5 hs
  have h5 := sep_len w1
  unfold pre3; simp only [List.length_append]; omega
theorem sep_pos (k : Nat) : 1 ≤ (sepN k).length := by obtain ⟨c, r, e, _⟩ := sep_ws k; rw [e]; simp
theorem spot3_le (f st w0 w1 w2 w3 : Nat) : spot3 f st w0 w1 w2 ≤ (txt3 f st w0 w1 w2 w3).length := by
  have := sep_pos w3
  unfold spot3 txt3; rw [List.length_append]; omega
theorem sep_av : ∀ v : Nat, v < 4 → ([.str (Str.ofString " "), .str (Str.ofString "\n"), .str (Str.ofString "\t"), .str (Str.ofString "\r\n ")] : List AV)[((v : Nat) : Int).toNat]? = some (.str (ofL (sepN v))) := by
  intro v hv
  match v, hv with
  | 0, _ => kernel_rfl!
  | 1, _ => kernel_rfl!
  | 2, _ => kernel_rfl!
  | 3, _ => kernel_rfl!
theorem file (W : Wd Γ (KK pp) mg mb) {wb : Addr} {f st w0 w1 w2 w3 : Nat} (hf : f < 16 ^ 5) (hf0 : f ≠ 0) (hs : st < 16 ^ 5) (hs0 : st ≠ 0) (h0 : w0 < 4) (h1 : w1 < 4) (h2 : w2 < 4) (h3 : w3 < 4)
    (hm : (wb, .list [.int w0, .int w1, .int w2, .int w3]) ∈ σ) {P : AV → Sto → Prop}
    (q : P (.tup [.str (ofL (txt3 f st w0 w1 w2 w3)), .tup [.int (line3 f st w0 w1 w2 w3 : Nat), .int (spot3 f st w0 w1 w2 : Nat)]]) σ) : CalC Γ (k + 3) (.ref 101) [.int f, .int st, .ref wb] σ P := by
  refine fn_defB W.ok (ok_file W.X) rfl (by kernel_rfl!) (by kernel_rfl!) ?_
  have hl := pre3_len w0 w1 w2 hf hs
  have hl2 := hl
  unfold pre3 at hl2
  simp only [List.length_append] at hl2
  have hsl := sep_len w3
  refine exs_cons ?_
  walk_at "g"
  refine ⟨by rw [sizeLine_eq]; simp, fun ba => ?_⟩
  walk_at "g"
  have hm' : (wb, AO.list [.int w0, .int w1, .int w2, .int w3]) ∈ (ba, AO.list [.str (Str.ofString " "), .str (Str.ofString "\n"), .str (Str.ofString "\t"), .str (Str.ofString "\r\n ")]) :: σ := .tail _ hm
  refine ev_calG W 82 (by kernel_rfl!) ?_
  walk_at "g"
  refine ev_calG W 63 (by kernel_rfl!) ?_
  walk_at "g"
  refine cal_of (int2ap W (by rw [Int.natAbs_natCast]; exact Nat.lt_of_lt_of_le hf (by decide)) ?_)
  rw [Int.natAbs_natCast]
  refine ⟨_, _, gm_decode, ?_⟩
  walk_at "g"
  refine ⟨kpr_builtin, cal_decode (ap_ne hf0) (fun c hc => by have := ap_rng _ c hc; omega) (by have := ap_len _ 5 hf; omega) ?_⟩
  walk_at "g"
  refine ⟨plain_list hm', get_list (x := .int w0) hm' (by decide) (by decide) rfl ?_⟩
  walk_at "g"
  refine cal_of (written W (by rw [List.length_map]; have := ap_len _ 5 hf; omega) h0 ?_)
  walk_at "g"
  refine ⟨plain_list hm', get_list (x := .int w1) hm' (by decide) (by decide) rfl ?_⟩
  refine ⟨plain_list (.head _), get_list (.head _) (by omega) (by omega) (sep_av _ h1) ?_⟩
  have e1 : (ap f).map (fun x => x.toNat) = apN f := rfl
  have e2 : (ap st).map (fun x => x.toNat) = apN st := rfl
  rw [e1]
  refine op_add_str (by simp only [ofL_length, sizeLine_eq]; omega) ?_
  rw [ofL_append]
  walk_at "g"
  refine ev_calG W 82 (by kernel_rfl!) ?_
  walk_at "g"
  refine ev_calG W 63 (by kernel_rfl!) ?_
  walk_at "g"
  refine cal_of (int2ap W (by rw [Int.natAbs_natCast]; exact Nat.lt_of_lt_of_le hs (by decide)) ?_)
  rw [Int.natAbs_natCast]
  refine ⟨_, _, gm_decode, ?_⟩
  walk_at "g"
  refine ⟨kpr_builtin, cal_decode (ap_ne hs0) (fun c hc => by have := ap_rng _ c hc; omega) (by have := ap_len _ 5 hs; omega) ?_⟩
  walk_at "g"
  refine ⟨plain_list hm', get_list (x := .int w2) hm' (by decide) (by decide) rfl ?_⟩
  walk_at "g"
  refine cal_of (written W (by rw [List.length_map]; have := ap_len _ 5 hs; omega) h2 ?_)
  rw [e2]
  refine op_add_str (by simp only [ofL_length, sizeLine_eq, List.length_append]; omega) ?_
  rw [ofL_append]
  walk_at "g"
  have e3 : wr (apN f) w0 ++ sepN w1 ++ wr (apN st) w2 = pre3 f st w0 w1 w2 := rfl
  rw [e3]
  refine cal_len_str (by rw [ofL_length, sizeLine_eq]; omega) ?_
  rw [ofL_length]
  walk_at "g"
  refine ⟨plain_list hm', get_list (x := .int w2) hm' (by decide) (by decide) rfl ?_⟩
  walk_at "g"
  refine op_mod (by decide) ?_
  walk_at "g"
  refine ⟨plain_list hm', get_list (x := .int w3) hm' (by decide) (by decide) rfl ?_⟩
  refine ⟨plain_list (.head _), get_list (.head _) (by omega) (by omega) (sep_av _ h3) ?_⟩
  refine op_add_str (by simp only [ofL_length, sizeLine_eq]; omega) ?_
  rw [ofL_append]
  have e4 : pre3 f st w0 w1 w2 ++ sepN w3 = txt3 f st w0 w1 w2 w3 := rfl
  rw [e4]
  have e5 : (((pre3 f st w0 w1 w2).length : Nat) : Int) + 1 - (w2 : Int) % 2 = (spot3 f st w0 w1 w2 : Nat) := by unfold spot3; omega
  rw [e5]
  walk_at "g"
  refine ⟨_, rfl, plain_str, slc_str (by rw [ofL_length, sizeLine_eq, ← e4, List.length_append]; omega) ?_⟩
  have e0 : (ofL (txt3 f st w0 w1 w2 w3)).cps.toList = txt3 f st w0 w1 w2 w3 := by simp [ofL]
  rw [e0, pick_take _ _ (spot3_le f st w0 w1 w2 w3)]
  refine ⟨_, _, gm_count, ?_⟩
  walk_at "g"
  have enl : (Str.ofString "\n") = ofL [10] := by kernel_rfl!
  rw [enl]
  refine ⟨kpr_builtin, cal_count1 ?_⟩
  walk_at "g"
  refine ⟨by rw [sizeLine_eq]; simp, ?_⟩
  walk_at "g"
  refine ⟨by rw [sizeLine_eq]; simp, ?_⟩
  have e6 : (1 : Int) + (((txt3 f st w0 w1 w2 w3).take (spot3 f st w0 w1 w2)).count 10 : Nat) = (line3 f st w0 w1 w2 w3 : Nat) := by unfold line3; omega
  rw [e6]
  exact ⟨σ, .cons _ (.refl _), q⟩
theorem calC_post {F : Value} {as : List AV} {τ τ' : Sto} {w : AV} {P : AV → Sto → Prop} (h : CalC Γ k F as σ fun v σ' => v = w ∧ σ' = τ') (hp : τ.Perm τ') (p : P w τ) : CalC Γ k F as σ P := fun A κ s Xs hA l R rs =>
  codeAny_mono (h A κ s Xs hA l R rs) fun r s' pst => match r, pst with
    | .ok (.ret _), ⟨_, _, h', tk, e, R', rv, rfl, rfl⟩ => ⟨_, _, h', tk, e, R'.perm hp, rv, p⟩
/-- a lexer's places and its text -/
structure Lx where
  x : Addr
  d : Addr
  st : Addr
  pb : Addr
  pl : Addr
  cx : Addr
  cy : Addr
  t : List Nat
/-- a lexer, the line, what is left of its text, what is pushed back -/
abbrev LS := Lx × Nat × List Nat × List AV
noncomputable def seg (l : LS) : Sto := lexU l.1.x l.1.d l.1.st l.1.pb l.1.pl l.1.cx l.1.cy l.1.t l.2.1 l.2.2.1 l.2.2.2 []
noncomputable def segs (ss : List LS) : Sto := (ss.map seg).flatten
theorem segs_perm : ∀ {ss : List LS} {i : Nat} {l : LS}, ss[i]? = some l → (seg l ++ segs (ss.eraseIdx i)).Perm (segs ss)
  | [], i, l, e => by simp at e
  | a :: ss, 0, l, e => by simp at e; subst e; exact .refl _
  | a :: ss, i + 1, l, e => by
    simp only [List.getElem?_cons_succ] at e
    have h := segs_perm e
    show (seg l ++ (seg a ++ segs (ss.eraseIdx i))).Perm (seg a ++ segs ss)
    have h2 := (List.perm_append_comm (l₁ := seg l) (l₂ := seg a)).append_right (segs (ss.eraseIdx i))
    rw [List.append_assoc, List.append_assoc] at h2
    exact h2.trans (h.append_left _)
theorem perm_at {pre ρ : Sto} {ss : List LS} {i : Nat} {l : LS} (e : ss[i]? = some l) : (seg l ++ (pre ++ (segs (ss.eraseIdx i) ++ ρ))).Perm (pre ++ (segs ss ++ ρ)) := by
  have h1 : (seg l ++ (pre ++ (segs (ss.eraseIdx i) ++ ρ))).Perm (pre ++ (seg l ++ (segs (ss.eraseIdx i) ++ ρ))) := by
    have := (List.perm_append_comm (l₁ := seg l) (l₂ := pre)).append_right (segs (ss.eraseIdx i) ++ ρ)
    rwa [List.append_assoc, List.append_assoc] at this
  refine h1.trans (List.Perm.append_left _ ?_)
  rw [← List.append_assoc]
  exact (segs_perm e).append_right _
theorem mem_at {pre ρ : Sto} {ss : List LS} {i : Nat} {l : LS} (e : ss[i]? = some l) {z : Addr × AO} (hz : z ∈ seg l) : z ∈ pre ++ (segs ss ++ ρ) :=
  (perm_at e).subset (List.mem_append_left _ hz)
theorem mem_behind {pre ρ : Sto} {ss : List LS} {z : Addr × AO} (hz : z ∈ ρ) : z ∈ pre ++ (segs ss ++ ρ) := List.mem_append_right _ (List.mem_append_right _ hz)
theorem erase_set {ss : List LS} {i : Nat} {l : LS} : (ss.set i l).eraseIdx i = ss.eraseIdx i := by
  induction ss generalizing i with
  | nil => rfl
  | cons a ss ih => cases i with
    | zero => rfl
    | succ i => show a :: _ = a :: _; rw [ih]
theorem set_at {ss : List LS} {i : Nat} {l m : LS} (e : ss[i]? = some l) : (ss.set i m)[i]? = some m := by
  obtain ⟨hi, _⟩ := List.getElem?_eq_some_iff.mp e
  rw [List.getElem?_set_self hi]
/-- one lexer of several gives a word -/
theorem get_at (W : Wd Γ (KK pp) mg mb) {ss : List LS} {i : Nat} {l : Lx} {a b : Nat × List Nat × List AV} {w : List Nat} {pre ρ : Sto} (hi : ss[i]? = some (l, a)) (S : Strm pp ρ l.st l.cx l.cy) (ht : l.t.length ≤ 1000000) (g : Gets l.t a w b) {P : AV → Sto → Prop}
    (p : P (.str (ofL w)) (pre ++ (segs (ss.set i (l, b)) ++ ρ))) : CalC Γ (k + 4) (.ref 42) [.ref l.x] (pre ++ (segs ss ++ ρ)) P := by
  have h2 := perm_at (pre := pre) (ρ := ρ) (set_at (m := (l, b)) hi)
  rw [erase_set] at h2
  refine calC_post (τ' := lexU l.x l.d l.st l.pb l.pl l.cx l.cy l.t b.1 b.2.1 b.2.2 (pre ++ (segs (ss.eraseIdx i) ++ ρ))) (calC_perm (get_any W (a := a) (S.sub fun z hz => List.mem_append_right _ (List.mem_append_right _ hz)) ht g ⟨rfl, rfl⟩) (perm_at hi)) h2.symm p
theorem push_at (W : Wd Γ (KK pp) mg mb) {ss : List LS} {i : Nat} {l : Lx} {ln : Nat} {u : List Nat} {toks : List AV} {v : AV} {pre ρ : Sto} (hi : ss[i]? = some (l, ln, u, toks)) (hl : toks.length ≤ 1000000) {P : AV → Sto → Prop}
    (p : P .none (pre ++ (segs (ss.set i (l, ln, u, toks ++ [v])) ++ ρ))) : CalC Γ (k + 1) (.ref 49) [.ref l.x, v] (pre ++ (segs ss ++ ρ)) P := by
  have h2 := perm_at (pre := pre) (ρ := ρ) (set_at (m := (l, ln, u, toks ++ [v])) hi)
  rw [erase_set] at h2
  refine calC_post (τ' := lexU l.x l.d l.st l.pb l.pl l.cx l.cy l.t ln u (toks ++ [v]) (pre ++ (segs (ss.eraseIdx i) ++ ρ))) (calC_perm (push_token W hl ⟨rfl, rfl⟩) (perm_at hi)) h2.symm p
theorem gm_lex (W : Wd Γ (KK pp) mg mb) {ss : List LS} {i : Nat} {l : Lx} {a : Nat × List Nat × List AV} {pre ρ : Sto} {name : Str} {f : Addr} (hi : ss[i]? = some (l, a)) (hf : findIn (KK pp) (.ref 52) name = some (some (.ref f))) (ht : typeIn (KK pp) (.ref f) = some (.type "function")) (hs : (nsL a.1 l.st l.pb).lookup name = none) :
    GM Γ name (.ref l.x) (pre ++ (segs ss ++ ρ)) (.ref f) [.ref l.x] :=
  gm_inst W.X cls_ok (x := l.x) (d := l.d) (es := nsL a.1 l.st l.pb) (mem_at hi (.tail _ (.tail _ (.tail _ (.head _))))) (mem_at hi (.tail _ (.tail _ (.tail _ (.tail _ (.head _)))))) hf ht hs
theorem at_lex (W : Wd Γ (KK pp) mg mb) {ss : List LS} {i : Nat} {l : Lx} {a : Nat × List Nat × List AV} {pre ρ : Sto} {name : Str} {v : AV} (hi : ss[i]? = some (l, a)) (hf : findIn (KK pp) (.ref 52) name = some none) (hv : (nsL a.1 l.st l.pb).lookup name = some v) (hr : ∀ w, v ≠ .raw w) {P : AV → Sto → Prop} (p : P v (pre ++ (segs ss ++ ρ))) :
    At1 Γ k name (.ref l.x) (pre ++ (segs ss ++ ρ)) P :=
  at_own W.X cls_ok (x := l.x) (d := l.d) (es := nsL a.1 l.st l.pb) (mem_at hi (.tail _ (.tail _ (.tail _ (.head _))))) (mem_at hi (.tail _ (.tail _ (.tail _ (.tail _ (.head _)))))) hf hv hr p
/-- a number, written -/
abbrev wrd (n : Nat) : AV := .str (ofL (apN n))
noncomputable def least3 (h : Nat → Nat) : Nat := min (h 0) (min (h 1) (h 2))
theorem least3_le (h : Nat → Nat) : ∀ i, i < 3 → least3 h ≤ h i := fun i hi => by
  unfold least3
  match i, hi with
  | 0, _ => omega
  | 1, _ => omega
  | 2, _ => omega
theorem least3_at (h : Nat → Nat) : ∃ i, i < 3 ∧ least3 h = h i := by
  unfold least3
  rcases Nat.le_total (h 0) (min (h 1) (h 2)) with a | a
  · exact ⟨0, by decide, Nat.min_eq_left a⟩
  · rw [Nat.min_eq_right a]
    rcases Nat.le_total (h 1) (h 2) with b | b
    · exact ⟨1, by decide, Nat.min_eq_left b⟩
    · exact ⟨2, by decide, Nat.min_eq_right b⟩
/-- the words in hand and what is pushed back, after n turns -/
noncomputable def stT (f : Nat → Nat) (s : Nat) : Nat → (Nat → Nat) × (Nat → List Nat)
  | 0 => (fun _ => s, fun _ => [])
  | n + 1 =>
    (fun i => if (stT f s n).1 i = least3 (stT f s n).1 then ((stT f s n).2 i ++ [least3 (stT f s n).1 * f i]).headD 0 else (stT f s n).1 i,
     fun i => if (stT f s n).1 i = least3 (stT f s n).1 then ((stT f s n).2 i ++ [least3 (stT f s n).1 * f i]).tail else (stT f s n).2 i ++ [least3 (stT f s n).1 * f i])
noncomputable def toT (f : Nat → Nat) (s n : Nat) : Nat := least3 (stT f s n).1
structure Fac (f : Nat → Nat) (s : Nat) : Prop where
  lo : ∀ i, 2 ≤ f i
  hi : ∀ i, f i ≤ 31
  s1 : 1 ≤ s
  s2 : s ≤ 65536
theorem stT_bd {f : Nat → Nat} {s : Nat} (F : Fac f s) : ∀ n, (∀ i, 1 ≤ (stT f s n).1 i ∧ (stT f s n).1 i ≤ s * 31 ^ n) ∧ (∀ i, ∀ x ∈ (stT f s n).2 i, 1 ≤ x ∧ x ≤ s * 31 ^ n) ∧ ∀ i, ((stT f s n).2 i).length ≤ n
  | 0 => ⟨fun _ => ⟨F.s1, by simp [stT]⟩, fun _ x hx => by simp [stT] at hx, fun _ => by simp [stT]⟩
  | n + 1 => by
    obtain ⟨a, b, c⟩ := stT_bd F n
    obtain ⟨j, _, ej⟩ := least3_at (stT f s n).1
    have hm1 : 1 ≤ least3 (stT f s n).1 := ej ▸ (a j).1
    have hm2 : least3 (stT f s n).1 ≤ s * 31 ^ n := ej ▸ (a j).2
    have hup : s * 31 ^ n ≤ s * 31 ^ (n + 1) := Nat.mul_le_mul_left _ (by rw [Nat.pow_succ]; omega)
    have hmf : ∀ i, 1 ≤ least3 (stT f s n).1 * f i ∧ least3 (stT f s n).1 * f i ≤ s * 31 ^ (n + 1) := fun i => by
      have h1 := F.lo i
      refine ⟨Nat.le_trans (by omega) (Nat.mul_le_mul hm1 h1), ?_⟩
      rw [Nat.pow_succ, ← Nat.mul_assoc]
      exact Nat.mul_le_mul hm2 (F.hi i)
    have hq : ∀ i, ∀ x ∈ (stT f s n).2 i ++ [least3 (stT f s n).1 * f i], 1 ≤ x ∧ x ≤ s * 31 ^ (n + 1) := fun i x hx => by
      rcases List.mem_append.mp hx with hx | hx
      · exact ⟨(b i x hx).1, Nat.le_trans (b i x hx).2 hup⟩
      · rw [List.mem_singleton.mp hx]; exact hmf i
    refine ⟨fun i => ?_, fun i x hx => ?_, fun i => ?_⟩
    · unfold stT
      dsimp only
      split
      · have hne : (stT f s n).2 i ++ [least3 (stT f s n).1 * f i] ≠ [] := by simp
        obtain ⟨y, r, e⟩ := List.exists_cons_of_ne_nil hne
        rw [e]; exact hq i y (by rw [e]; exact .head _)
      · exact ⟨(a i).1, Nat.le_trans (a i).2 hup⟩
    · unfold stT at hx
      dsimp only at hx
      split at hx
      · exact hq i x (List.mem_of_mem_tail hx)
      · exact hq i x hx
    · unfold stT
      dsimp only
      have := c i
      split
      · rw [List.length_tail, List.length_append]; simp only [List.length_cons, List.length_nil]; omega
      · rw [List.length_append]; simp only [List.length_cons, List.length_nil]; omega
theorem toT_bd {f : Nat → Nat} {s : Nat} (F : Fac f s) {n : Nat} (hn : n ≤ 20) : 1 ≤ toT f s n ∧ toT f s n < 16 ^ 31 ∧ ∀ i, toT f s n * f i < 16 ^ 31 := by
  obtain ⟨a, _, _⟩ := stT_bd F n
  obtain ⟨j, _, ej⟩ := least3_at (stT f s n).1
  have h1 : 31 ^ n ≤ 31 ^ 20 := Nat.pow_le_pow_right (by decide) hn
  have h2 : s * 31 ^ n ≤ 65536 * 31 ^ 20 := Nat.mul_le_mul F.s2 h1
  have h3 : toT f s n ≤ 65536 * 31 ^ 20 := Nat.le_trans (by unfold toT; rw [ej]; exact (a j).2) h2
  refine ⟨by unfold toT; rw [ej]; exact (a j).1, Nat.lt_of_le_of_lt h3 (by decide), fun i => ?_⟩
  exact Nat.lt_of_le_of_lt (Nat.mul_le_mul h3 (F.hi i)) (by decide)
/-- words by length and letters are numbers by size -/
theorem lex_snoc {a b : Nat} : ∀ {u v : List Nat}, u.length = v.length → u < v → u ++ [a] < v ++ [b]
  | [], [], _, h => absurd h (List.lt_irrefl _)
  | x :: u, y :: v, e, h => by
    rw [List.cons_append, List.cons_append]
    rw [List.cons_lt_cons_iff] at h ⊢
    rcases h with h | ⟨h1, h2⟩
    · exact .inl h
    · exact .inr ⟨h1, lex_snoc (Nat.succ.inj e) h2⟩
theorem lex_last {a b : Nat} (h : a < b) : ∀ u : List Nat, u ++ [a] < u ++ [b]
  | [] => by rw [List.nil_append, List.nil_append, List.cons_lt_cons_iff]; exact .inl h
  | x :: u => by
    rw [List.cons_append, List.cons_append, List.cons_lt_cons_iff]
    exact .inr ⟨rfl, lex_last h u⟩
theorem apN_lt (b : Nat) : ∀ a, a < b → (apN a).length < (apN b).length ∨ ((apN a).length = (apN b).length ∧ apN a < apN b) := by
  induction b using Nat.strongRecOn with
  | _ b ih =>
    intro a h
    have hb : b ≠ 0 := by omega
    by_cases ha : a = 0
    · subst ha; rw [apN_zero, apN_pos hb]; left; simp
    · rw [apN_pos ha, apN_pos hb]
      simp only [List.length_append, List.length_cons, List.length_nil]
      by_cases e : a / 16 = b / 16
      · rw [e]; exact .inr ⟨rfl, lex_last (by omega) _⟩
      · rcases ih (b / 16) (by omega) (a / 16) (by omega) with h | ⟨h1, h2⟩
        · left; omega
        · exact .inr ⟨by omega, lex_snoc h1 h2⟩
noncomputable def prN (n : Nat) : IS := (((apN n).length : Nat), ofL (apN n))
theorem ltIS_pr {a b : Nat} (h : a < b) : ltIS (prN a) (prN b) = true := by
  unfold ltIS prN
  dsimp only
  have e : ∀ l : List Nat, (ofL l).cps.toList = l := fun l => by simp [ofL]
  rw [e, e]
  rcases apN_lt b a h with h | ⟨h1, h2⟩
  · rw [if_neg (by omega)]; exact decide_eq_true (by omega)
  · rw [if_pos (by omega)]; exact decide_eq_true h2
theorem least_pr {h : Nat → Nat} {m : IS} (hm : m ∈ (List.range 3).map fun i => prN (h i)) (hmin : ∀ q, q ∈ (List.range 3).map (fun i => prN (h i)) → ltIS q m = false) : m = prN (least3 h) := by
  obtain ⟨j, hj, rfl⟩ := List.mem_map.mp hm
  obtain ⟨i, hi, ei⟩ := least3_at h
  have h1 := hmin _ (List.mem_map_of_mem (List.mem_range.mpr hi))
  have h2 := least3_le h j (List.mem_range.mp hj)
  rcases Nat.lt_or_ge (h i) (h j) with h3 | h3
  · rw [ltIS_pr h3] at h1; cases h1
  · rw [ei] at h2 ⊢
    congr 1; omega
/-- three lexers, by their numbers -/
noncomputable def LSA (l : Nat → Lx) (a : Nat → Nat × List Nat × List AV) : List LS := (List.range 3).map fun i => (l i, a i)
theorem lsa_at {l : Nat → Lx} {a : Nat → Nat × List Nat × List AV} {i : Nat} (hi : i < 3) {b : Nat × List Nat × List AV} (e : a i = b) : (LSA l a)[i]? = some (l i, b) := by
  subst e
  match i, hi with
  | 0, _ => rfl
  | 1, _ => rfl
  | 2, _ => rfl
theorem lsa_congr {l : Nat → Lx} {a b : Nat → Nat × List Nat × List AV} (h : ∀ i, i < 3 → a i = b i) : LSA l a = LSA l b := by
  unfold LSA
  exact List.map_congr_left fun i hi => by rw [h i (List.mem_range.mp hi)]
noncomputable def mixA {α : Type} (i : Nat) (a b : Nat → α) : Nat → α := fun j => if j < i then b j else a j
theorem mix_at {α : Type} (i : Nat) (a b : Nat → α) : mixA i a b i = a i := if_neg (Nat.lt_irrefl _)
theorem mix_set {l : Nat → Lx} {i : Nat} (a b : Nat → Nat × List Nat × List AV) (hi : i < 3) : (LSA l (mixA i a b)).set i (l i, b i) = LSA l (mixA (i + 1) a b) := by
  unfold LSA mixA
  match i, hi with
  | 0, _ => rfl
  | 1, _ => rfl
  | 2, _ => rfl
theorem mix_end {l : Nat → Lx} (a b : Nat → Nat × List Nat × List AV) : LSA l (mixA 3 a b) = LSA l b := lsa_congr fun i hi => if_pos hi
theorem mix_zero {α : Type} (a b : Nat → α) : mixA 0 a b = a := by funext j; exact if_neg (Nat.not_lt_zero j)
theorem mul_sign {m : Nat} {b : Int} : IntMulOk (1 - (m : Int) % 2 * 2) b := by
  rcases Nat.mod_two_eq_zero_or_one m with h | h
  · rw [show (1 - (m : Int) % 2 * 2) = 1 by omega]; exact mul_small (by decide) (by decide)
  · rw [show (1 - (m : Int) % 2 * 2) = -1 by omega]; exact .of_left (by decide)
theorem abs_sign (m a b : Nat) : ((1 - (m : Int) % 2 * 2) * (a : Int) * (b : Int)).natAbs = a * b := by
  rw [Int.natAbs_mul, Int.natAbs_mul, Int.natAbs_natCast, Int.natAbs_natCast]
  have : (1 - (m : Int) % 2 * 2).natAbs = 1 := by omega
  rw [this, Nat.one_mul]
theorem apN_inj {a b : Nat} (h : apN a = apN b) : a = b := by
  have h1 := numOf_apN a
  rw [h, numOf_apN] at h1
  omega
theorem ints_range (n : Nat) : intsFrom 0 ((n : Int) - 0).toNat = (List.range n).map fun k : Nat => AV.int k := by
  have : ∀ (n a : Nat), intsFrom (a : Int) n = (List.range' a n).map fun k : Nat => AV.int k := fun n => by
    induction n with
    | zero => exact fun a => rfl
    | succ n ih =>
      intro a
      show AV.int a :: intsFrom ((a : Int) + 1) n = _
      rw [show (a : Int) + 1 = ((a + 1 : Nat) : Int) from by omega, ih (a + 1)]
      rfl
  rw [show ((n : Int) - 0).toNat = n by omega, List.range_eq_range']
  exact this n 0
theorem at3 {α : Type} (g : Nat → α) {i : Nat} (hi : i < 3) : ((List.range 3).map g)[((i : Nat) : Int).toNat]? = some (g i) := by
  rw [Int.toNat_natCast]
  match i, hi with
  | 0, _ => rfl
  | 1, _ => rfl
  | 2, _ => rfl
theorem exs_eq {sc : Scope} {st st' : List Stmt} {loc : Loc} {P : AFl → Loc → Sto → Prop} (e : st = st') (h : Exs Γ k sc st' loc σ P) : Exs Γ k sc st loc σ P := e ▸ h
theorem snoc {α : Type} (g : Nat → α) (i : Nat) : (List.range (i + 1)).map g = (List.range i).map g ++ [g i] := by rw [List.range_succ, List.map_append]; rfl
noncomputable def stQ (f : Nat → Nat) (s : Nat) (ln : Nat → Nat) (u : Nat → List Nat) (m : Nat) : Nat → Nat × List Nat × List AV := fun i => (ln i, u i, ((stT f s m).2 i).map wrd)
noncomputable def stP (f : Nat → Nat) (s : Nat) (ln : Nat → Nat) (u : Nat → List Nat) (m : Nat) : Nat → Nat × List Nat × List AV := fun i => (ln i, u i, ((stT f s m).2 i).map wrd ++ [wrd (toT f s m * f i)])
noncomputable def lineE (f : Nat → Nat) (s n : Nat) (r : Nat × Addr) : Addr × AO := (r.2, .list (wrd ((stT f s n).1 r.1) :: ((stT f s n).2 r.1).map wrd))
/-- what stands between the turns -/
noncomputable def runS (f : Nat → Nat) (s : Nat) (ln : Nat → Nat) (u : Nat → List Nat) (l : Nat → Lx) (fa pa la ta : Addr) (R : Sto) (m : Nat) (fr : Addr) : Sto :=
  (fr, .list ((List.range 3).map fun i => wrd ((stT f s m).1 i))) :: (ta, .list ((List.range m).map fun j => wrd (toT f s j))) :: (fa, .list ((List.range 3).map fun i => .int (f i : Nat))) :: (pa, .list ((List.range 3).map fun i => .ref (l i).pl)) :: (la, .list ((List.range 3).map fun i => .ref (l i).x)) :: (segs (LSA l (stQ f s ln u m)) ++ R)
noncomputable def forT : Stmt → Expr
  | .For t _ _ _ _ => t
  | _ => .Constant .none 0 ⟨0, 0, 0, 0⟩
noncomputable def forB : Stmt → List Stmt
  | .For _ _ b _ _ => b
  | _ => []
section
variable {f : Nat → Nat} {s n : Nat} {ln : Nat → Nat} {u : Nat → List Nat} {l : Nat → Lx} {fa pa la ta : Addr} {R : Sto}
/-- a turn -/
theorem run_turn (W : Wd Γ (KK pp) mg mb) (F : Fac f s) (hS : ∀ i, i < 3 → Strm pp R (l i).st (l i).cx (l i).cy) (ht : ∀ i, i < 3 → (l i).t.length ≤ 1000000) {m : Nat} (hm : m < 20) {fr : Addr} {P' : AFl → Loc → Sto → Prop} {A : Loc → Sto → Prop}
    (hA : ∀ fr' l' σ', Sub [("lexers", .ref la), ("places", .ref pa), ("factors", .ref fa), ("fronts", .ref fr'), ("told", .ref ta)] l' → (runS f s ln u l fa pa la ta R (m + 1) fr').Sublist σ' → A l' σ') :
    Asg Γ (k + 4) (fdOf (KK pp) 106).scope (forT ((bodyOf (fdOf (KK pp) 106)).getD 6 (.Pass ⟨0, 0, 0, 0⟩))) (.int m) [("lexers", .ref la), ("places", .ref pa), ("factors", .ref fa), ("fronts", .ref fr), ("told", .ref ta)] (runS f s ln u l fa pa la ta R m fr) fun l₁ σ₁ => Exs Γ (k + 4) (fdOf (KK pp) 106).scope (forB ((bodyOf (fdOf (KK pp) 106)).getD 6 (.Pass ⟨0, 0, 0, 0⟩))) l₁ σ₁ (Turn P' A) := by
  obtain ⟨bd1, bd2, bd3⟩ := stT_bd F m
  obtain ⟨t1, t2, t3⟩ := toT_bd F (Nat.le_of_lt hm)
  refine asg_name (.inl (by kernel_rfl!)) ?_
  refine exs_cons ?_
  walk_at "g"
  refine ev_calB W "min" (by kernel_rfl!) ?_
  walk_at "g"
  refine ⟨_, _, mk_list (.name _ _) (xs := (List.range 3).map fun i => wrd ((stT f s m).1 i)) (a := fr) (.head _), (fun p hp => by rw [List.mem_singleton.mp hp]; exact .head _), fun D => ?_⟩
  refine cmp_sub (cmp_n 3 [] (fun i => (D, .list ((List.range i).map fun j => pIS (prN ((stT f s m).1 j)))) :: runS f s ln u l fa pa la ta R m fr) (fun i => wrd ((stT f s m).1 i)) (fun i p hp => by rw [List.mem_singleton.mp hp]; exact .tail _ (.head _)) ?_ ?_) sub_nil
  · intro i A hi hC
    walk_at "g"
    refine ⟨sub_nil, ?_⟩
    walk_at "g"
    have hw : (apN ((stT f s m).1 i)).length ≤ 1000000 := by
      have h1 := (bd1 i).2
      have h2 := apN_len ((stT f s m).1 i) 31 (Nat.lt_of_le_of_lt h1 (Nat.lt_of_le_of_lt (Nat.mul_le_mul F.s2 (Nat.pow_le_pow_right (by decide) (Nat.le_of_lt hm))) (by decide)))
      omega
    refine cal_len_str (x := ofL (apN ((stT f s m).1 i))) (by rw [ofL_length, sizeLine_eq]; omega) ?_
    rw [ofL_length]
    walk_at "g"
    refine ⟨by rw [sizeLine_eq]; simp, ?_⟩
    refine hC _ ((List.range i).map fun j => pIS (prN ((stT f s m).1 j))) _ ?_ (by rw [sizeLine_eq]; simp; omega)
    rw [snoc]
    exact .head
  walk_at "g"
  refine cal_minIS (ks := (List.range 3).map fun i => prN ((stT f s m).1 i)) (by rw [List.map_map]; exact .head _) (by simp) fun mm h1 h2 => ?_
  obtain rfl := least_pr h1 h2
  walk_at "g"
  refine ⟨plain_tup, get_tup (x := wrd (toT f s m)) (by decide) (by decide) rfl ?_⟩
  walk_at "g"
  refine ⟨_, _, gm_append (xs := (List.range m).map fun j => wrd (toT f s j)) (.tail _ (.tail _ (.head _))), ?_⟩
  walk_at "g"
  refine ⟨kpr_builtin, cal_append (xs := (List.range m).map fun j => wrd (toT f s j)) (.tail (.tail .head)) (by rw [sizeLine_eq]; simp; omega) ⟨rfl, ?_⟩⟩
  rw [← snoc]
  walk_at "g"
  refine ev_calG W 89 (by kernel_rfl!) ?_
  walk_at "g"
  refine cal_of (number W (w := apN (toT f s m)) (by have := apN_len _ 31 t2; omega) (apN_head _) (fun v u _ => mul_smallr (by decide) (by decide)) ?_)
  rw [numOf_apN]
  walk_at "g"
  refine ex_for ?_ (fun _ _ => rfl)
  walk_at "g"
  refine cal_range1 fun rg og hog => ?_
  refine ⟨_, _, mk_range (.name _ _) (.head _) hog (by decide) (by decide) (by decide) (by decide), (fun p hp => by cases hp), ?_⟩
  rw [show intsFrom 0 ((3 : Int) - 0).toNat = (List.range 3).map fun n : Nat => AV.int n from rfl]
  refine for_sub (σ' := (fr, .list ((List.range 3).map fun i => wrd ((stT f s m).1 i))) :: (ta, .list ((List.range (m + 1)).map fun j => wrd (toT f s j))) :: (fa, .list ((List.range 3).map fun i => .int (f i : Nat))) :: (pa, .list ((List.range 3).map fun i => .ref (l i).pl)) :: (la, .list ((List.range 3).map fun i => .ref (l i).x)) :: (segs (LSA l (mixA 0 (stQ f s ln u m) (stP f s ln u m))) ++ R))
    (for_n 3 [("least", wrd (toT f s m)), ("number", .int (toT f s m : Nat)), ("turn", .int m), ("lexers", .ref la), ("places", .ref pa), ("factors", .ref fa), ("fronts", .ref fr), ("told", .ref ta)]
    (fun i => (fr, .list ((List.range 3).map fun i => wrd ((stT f s m).1 i))) :: (ta, .list ((List.range (m + 1)).map fun j => wrd (toT f s j))) :: (fa, .list ((List.range 3).map fun i => .int (f i : Nat))) :: (pa, .list ((List.range 3).map fun i => .ref (l i).pl)) :: (la, .list ((List.range 3).map fun i => .ref (l i).x)) :: (segs (LSA l (mixA i (stQ f s ln u m) (stP f s ln u m))) ++ R))
    (fun n => .int (n : Nat)) (fun i p hp => by cases hp) ?_ ?_) (sub_cons rfl (sub_cons rfl (sub_cons rfl (sub_cons rfl (sub_cons rfl (sub_cons rfl (sub_cons rfl (sub_cons rfl sub_nil)))))))) (by rw [mix_zero]; exact .cons _ (.cons _ (.refl _))) (fun p hp => by cases hp)
  · intro i P'' A' hi hB
    have hss := lsa_at (l := l) hi (mix_at i (stQ f s ln u m) (stP f s ln u m))
    walk_at "g"
    refine ⟨plain_list (a := la) (.tail _ (.tail _ (.tail _ (.tail _ (.head _))))), get_list (a := la) (.tail _ (.tail _ (.tail _ (.tail _ (.head _))))) (by omega) (by omega) (at3 (fun i => AV.ref (l i).x) hi) ?_⟩
    refine ⟨_, _, gm_lex (pre := [_, _, _, _, _]) (f := 49) W hss (by kernel_rfl!) (by kernel_rfl!) rfl, ?_⟩
    walk_at "g"
    refine ev_calG W 63 (by kernel_rfl!) ?_
    walk_at "g"
    refine op_mod (by decide) ?_
    walk_at "g"
    refine op_mul (mul_smallr (by decide) (by decide)) ?_
    walk_at "g"
    refine op_mul mul_sign ?_
    walk_at "g"
    refine ⟨plain_list (a := fa) (.tail _ (.tail _ (.head _))), get_list (a := fa) (.tail _ (.tail _ (.head _))) (by omega) (by omega) (at3 (fun i => AV.int (f i : Nat)) hi) ?_⟩
    refine op_mul (mul_smallr (by omega) (by have := F.hi i; omega)) ?_
    walk_at "g"
    refine cal_of (int2ap W (by rw [abs_sign]; exact Nat.lt_of_lt_of_le (t3 i) (by decide)) ?_)
    rw [abs_sign]
    have hne : toT f s m * f i ≠ 0 := Nat.mul_ne_zero (by omega) (by have := F.lo i; omega)
    refine ⟨_, _, gm_decode, ?_⟩
    walk_at "g"
    refine ⟨kpr_builtin, cal_decode (ap_ne hne) (fun c hc => by have := ap_rng _ c hc; omega) (by have := ap_len _ 31 (t3 i); omega) ?_⟩
    walk_at "g"
    refine ⟨fun κ' h₂ l' R' => keeps_K (K := KK pp) (by kernel_rfl!) h₂ (W.X.keeps (l'.up R')), cal_of (push_at (pre := [_, _, _, _, _]) W hss (by have := bd3 i; rw [List.length_map]; omega) ⟨rfl, ?_⟩)⟩
    walk_at "g"
    refine hB _ _ (sub_cons rfl (sub_cons rfl (sub_cons rfl (sub_cons rfl (sub_cons rfl (sub_cons rfl (sub_cons rfl (sub_cons rfl sub_nil)))))))) ?_
    rw [← mix_set _ _ hi]
    exact .refl _
  rw [mix_end]
  walk_at "g"
  refine cal_range1 fun rg2 og2 hog2 => ?_
  refine ⟨_, _, mk_range (.name _ _) (.head _) hog2 (by decide) (by decide) (by decide) (by decide), (fun p hp => by cases hp), fun D2 => ?_⟩
  rw [show intsFrom 0 ((3 : Int) - 0).toNat = (List.range 3).map fun n : Nat => AV.int n from rfl]
  refine cmp_drop (σ' := (D2, .list []) :: (fr, .list ((List.range 3).map fun i => wrd ((stT f s m).1 i))) :: (ta, .list ((List.range (m + 1)).map fun j => wrd (toT f s j))) :: (fa, .list ((List.range 3).map fun i => .int (f i : Nat))) :: (pa, .list ((List.range 3).map fun i => .ref (l i).pl)) :: (la, .list ((List.range 3).map fun i => .ref (l i).x)) :: (segs (LSA l (mixA 0 (stP f s ln u m) (stQ f s ln u (m + 1)))) ++ R)) ?_ (by rw [mix_zero]; exact .cons₂ _ (.cons _ (.refl _))) (fun p hp => by cases hp)
  refine cmp_sub (cmp_n 3 [("least", wrd (toT f s m)), ("lexers", .ref la), ("fronts", .ref fr)]
    (fun i => (D2, .list ((List.range i).map fun j => wrd ((stT f s (m + 1)).1 j))) :: (fr, .list ((List.range 3).map fun i => wrd ((stT f s m).1 i))) :: (ta, .list ((List.range (m + 1)).map fun j => wrd (toT f s j))) :: (fa, .list ((List.range 3).map fun i => .int (f i : Nat))) :: (pa, .list ((List.range 3).map fun i => .ref (l i).pl)) :: (la, .list ((List.range 3).map fun i => .ref (l i).x)) :: (segs (LSA l (mixA i (stP f s ln u m) (stQ f s ln u (m + 1)))) ++ R))
    (fun n => .int (n : Nat)) (fun i p hp => by cases hp) ?_ ?_) (sub_cons (by kernel_rfl!) (sub_cons (by kernel_rfl!) (sub_cons (by kernel_rfl!) sub_nil)))
  · intro i A' hi hC
    have hss := lsa_at (l := l) hi (mix_at i (stP f s ln u m) (stQ f s ln u (m + 1)))
    walk_at "g"
    refine ⟨sub_cons rfl (sub_cons rfl (sub_cons rfl sub_nil)), ?_⟩
    refine ev_ifexp ?_
    walk_at "g"
    refine ⟨plain_list (a := fr) (.tail _ (.head _)), get_list (a := fr) (.tail _ (.head _)) (by omega) (by omega) (at3 (fun i => wrd ((stT f s m).1 i)) hi) ?_⟩
    walk_at "g"
    have eb : (ofL (apN ((stT f s m).1 i)) == ofL (apN (toT f s m))) = decide ((stT f s m).1 i = toT f s m) := by
      by_cases h : (stT f s m).1 i = toT f s m
      · rw [h]; simp
      · rw [decide_eq_false h]; exact beq_eq_false_iff_ne.mpr fun e => h (apN_inj (ofL_inj e))
    rw [eb]
    have hC' : ∀ σ₃, σ₃ = (D2, .list ((List.range i).map fun j => wrd ((stT f s (m + 1)).1 j))) :: (fr, .list ((List.range 3).map fun i => wrd ((stT f s m).1 i))) :: (ta, .list ((List.range (m + 1)).map fun j => wrd (toT f s j))) :: (fa, .list ((List.range 3).map fun i => .int (f i : Nat))) :: (pa, .list ((List.range 3).map fun i => .ref (l i).pl)) :: (la, .list ((List.range 3).map fun i => .ref (l i).x)) :: (segs (LSA l (mixA (i + 1) (stP f s ln u m) (stQ f s ln u (m + 1)))) ++ R) → A' (wrd ((stT f s (m + 1)).1 i)) σ₃ := fun σ₃ e => by
      subst e
      refine hC _ ((List.range i).map fun j => wrd ((stT f s (m + 1)).1 j)) _ ?_ (by rw [sizeLine_eq]; simp; omega)
      rw [snoc (fun j => wrd ((stT f s (m + 1)).1 j)) i]
      exact .head
    refine ⟨fun hb => ?_, fun hb => ?_⟩
    · have hb : (stT f s m).1 i = least3 (stT f s m).1 := of_decide_eq_true hb
      obtain ⟨y, r, er⟩ := List.exists_cons_of_ne_nil (show (stT f s m).2 i ++ [toT f s m * f i] ≠ [] by simp)
      have e1 : (stT f s (m + 1)).1 i = y := by
        show (if (stT f s m).1 i = least3 (stT f s m).1 then _ else _) = _
        rw [if_pos hb]
        show ((stT f s m).2 i ++ [toT f s m * f i]).headD 0 = y
        rw [er]; rfl
      have e2 : (stT f s (m + 1)).2 i = r := by
        show (if (stT f s m).1 i = least3 (stT f s m).1 then _ else _) = _
        rw [if_pos hb]
        show ((stT f s m).2 i ++ [toT f s m * f i]).tail = r
        rw [er]; rfl
      have e3 : stP f s ln u m i = (ln i, u i, wrd y :: r.map wrd) := by
        show (ln i, u i, ((stT f s m).2 i).map wrd ++ [wrd (toT f s m * f i)]) = _
        have := congrArg (List.map wrd) er
        rw [List.map_append] at this
        rw [show ((stT f s m).2 i).map wrd ++ [wrd (toT f s m * f i)] = wrd y :: r.map wrd from this]
      have e4 : stQ f s ln u (m + 1) i = (ln i, u i, r.map wrd) := by unfold stQ; rw [e2]
      have hrl : (r.map wrd).length ≤ 1000000 := by
        have h1 := congrArg List.length er
        have h2 := bd3 i
        simp only [List.length_append, List.length_cons, List.length_nil] at h1
        rw [List.length_map]; omega
      walk_at "g"
      refine ⟨plain_list (a := la) (.tail _ (.tail _ (.tail _ (.tail _ (.tail _ (.head _)))))), get_list (a := la) (.tail _ (.tail _ (.tail _ (.tail _ (.tail _ (.head _)))))) (by omega) (by omega) (at3 (fun i => AV.ref (l i).x) hi) ?_⟩
      refine ⟨_, _, gm_lex (pre := [_, _, _, _, _, _]) (f := 42) W hss (by kernel_rfl!) (by kernel_rfl!) rfl, ?_⟩
      walk_at "g"
      refine ⟨fun κ' h₂ l' R' => keeps_K (K := KK pp) (by kernel_rfl!) h₂ (W.X.keeps (l'.up R')), cal_of (get_at (pre := [_, _, _, _, _, _]) (b := (ln i, u i, r.map wrd)) W (hss.trans (by rw [e3])) (hS i hi) (ht i hi) (.back hrl) ?_)⟩
      rw [← e1]
      refine hC' _ ?_
      rw [← mix_set _ _ hi, e4]
      rfl
    · have hb : ¬ (stT f s m).1 i = least3 (stT f s m).1 := of_decide_eq_false hb
      have e1 : (stT f s (m + 1)).1 i = (stT f s m).1 i := by
        show (if (stT f s m).1 i = least3 (stT f s m).1 then _ else _) = _
        rw [if_neg hb]
      have e4 : stQ f s ln u (m + 1) i = stP f s ln u m i := by
        unfold stQ stP
        have : (stT f s (m + 1)).2 i = (stT f s m).2 i ++ [toT f s m * f i] := by
          show (if (stT f s m).1 i = least3 (stT f s m).1 then _ else _) = _
          rw [if_neg hb]; rfl
        rw [this, List.map_append]; rfl
      walk_at "g"
      refine ⟨plain_list (a := fr) (.tail _ (.head _)), get_list (a := fr) (.tail _ (.head _)) (by omega) (by omega) (at3 (fun i => wrd ((stT f s m).1 i)) hi) ?_⟩
      rw [← e1]
      refine hC' _ ?_
      have e5 : LSA l (mixA (i + 1) (stP f s ln u m) (stQ f s ln u (m + 1))) = LSA l (mixA i (stP f s ln u m) (stQ f s ln u (m + 1))) := by
        refine lsa_congr fun j hj => ?_
        unfold mixA
        by_cases h1 : j < i
        · rw [if_pos h1, if_pos (by omega)]
        · by_cases h2 : j = i
          · subst h2; rw [if_neg h1, if_pos (Nat.lt_succ_self _), e4]
          · rw [if_neg h1, if_neg (by omega)]
      rw [e5]
  rw [mix_end]
  walk_at "g"
  refine hA D2 _ _ (sub_cons rfl (sub_cons rfl (sub_cons rfl (sub_cons rfl (sub_cons rfl sub_nil))))) ?_
  unfold runS
  exact .cons₂ _ (.cons _ (.refl _))
end
section
variable {f : Nat → Nat} {s : Nat} {ln : Nat → Nat} {u : Nat → List Nat} {l : Nat → Lx} {pa la : Addr} {R R0 : Sto} {a1 : Nat → Nat × List Nat × List AV} {N : Nat}
noncomputable def lineEE (f : Nat → Nat) (s n : Nat) (r : Nat × Addr × Addr) : Sto := [lineE f s n (r.1, r.2.1), (r.2.2, .list [wrd ((stT f s n).1 r.1)])]
theorem lineEE_sub (f : Nat → Nat) (s n : Nat) : ∀ ws : List (Nat × Addr × Addr), (ws.map (lineE f s n ∘ fun r => (r.1, r.2.1))).Sublist (ws.map (lineEE f s n)).flatten
  | [] => .refl _
  | r :: ws => .cons₂ _ (.cons _ (lineEE_sub f s n ws))
noncomputable abbrev iniA (l : Nat → Lx) : Nat → Nat × List Nat × List AV := fun i => (1, (l i).t, [])
theorem run_rest (W : Wd Γ (KK pp) mg mb) (F : Fac f s) (hS : ∀ i, i < 3 → Strm pp R (l i).st (l i).cx (l i).cy) (ht : ∀ i, i < 3 → (l i).t.length ≤ 1000000)
    (G1 : ∀ i, i < 3 → Gets (l i).t (iniA l i) (apN (f i)) (a1 i)) (G2 : ∀ i, i < 3 → Gets (l i).t (a1 i) (apN s) (ln i, u i, [])) (hR : R0.Sublist R) (hN : N ≤ 20) {P : AV → Sto → Prop}
    (q : ∀ fa ta li en (ws : List (Nat × Addr)), ws.map (·.1) = [0, 1, 2] → P (.tup [.ref fa, .ref ta, .ref li, .ref en]) ((en, .list ((List.range 3).map fun i => .tup [.int (ln i : Nat), .int ((l i).t.length - (u i).length : Nat)])) :: (ws.reverse.map (lineE f s N) ++ (li, .list (ws.map fun r => .ref r.2)) :: (ta, .list ((List.range N).map fun j => wrd (toT f s j))) :: (fa, .list ((List.range 3).map fun i => .int (f i : Nat))) :: R0))) :
    Exs Γ (k + 4) (fdOf (KK pp) 106).scope ((bodyOf (fdOf (KK pp) 106)).drop 3) [("lexers", .ref la), ("places", .ref pa), ("many", .int (N : Nat))] ((pa, .list ((List.range 3).map fun i => .ref (l i).pl)) :: (la, .list ((List.range 3).map fun i => .ref (l i).x)) :: (segs (LSA l (iniA l)) ++ R)) fun fl _ σ' => Drp σ' (P (retv fl)) := by
  refine exs_cons ?_
  walk_at "g"
  refine ⟨_, _, mk_list (.name _ _) (xs := (List.range 3).map fun i => .ref (l i).x) (a := la) (.tail _ (.head _)), (fun p hp => by rw [List.mem_singleton.mp hp]; exact .tail _ (.head _)), fun fa => ?_⟩
  have h0 : segs (LSA l (iniA l)) = segs (LSA l (mixA 0 (iniA l) a1)) := by rw [mix_zero]
  rw [h0]
  refine cmp_sub (cmp_n 3 [] (fun i => (fa, .list ((List.range i).map fun j => .int (f j : Nat))) :: (pa, .list ((List.range 3).map fun i => .ref (l i).pl)) :: (la, .list ((List.range 3).map fun i => .ref (l i).x)) :: (segs (LSA l (mixA i (iniA l) a1)) ++ R)) (fun i => .ref (l i).x) (fun i p hp => by rw [List.mem_singleton.mp hp]; exact .tail _ (.tail _ (.head _))) ?_ ?_) sub_nil
  · intro i A hi hC
    have hss := lsa_at (l := l) hi (mix_at i (iniA l) a1)
    walk_at "g"
    refine ⟨sub_nil, ?_⟩
    try walk_at "g"
    refine ev_calG W 89 (by kernel_rfl!) ?_
    walk_at "g"
    refine ⟨_, _, gm_lex (pre := [_, _, _]) (f := 42) W hss (by kernel_rfl!) (by kernel_rfl!) rfl, ?_⟩
    walk_at "g"
    refine ⟨fun κ' h₂ l' R' => keeps_K (K := KK pp) (by kernel_rfl!) h₂ (W.X.keeps (l'.up R')), cal_of (get_at (pre := [_, _, _]) W hss (hS i hi) (ht i hi) (G1 i hi) ?_)⟩
    walk_at "g"
    have hlen := apN_len (f i) 5 (Nat.lt_of_le_of_lt (F.hi i) (by decide))
    refine cal_of (number W (by omega) (apN_head _) (fun v u _ => mul_smallr (by decide) (by decide)) ?_)
    rw [numOf_apN]
    refine hC _ ((List.range i).map fun j => .int (f j : Nat)) _ ?_ (by rw [sizeLine_eq]; simp; omega)
    rw [snoc (fun j => AV.int (f j : Nat)) i, ← mix_set _ _ hi]
    exact .head
  rw [mix_end]
  walk_at "g"
  refine ⟨_, _, mk_list (.name _ _) (xs := (List.range 3).map fun i => .ref (l i).x) (a := la) (.tail _ (.tail _ (.head _))), (fun p hp => by rw [List.mem_singleton.mp hp]; exact .tail _ (.tail _ (.head _))), fun fr => ?_⟩
  have h1 : segs (LSA l a1) = segs (LSA l (mixA 0 a1 (stQ f s ln u 0))) := by rw [mix_zero]
  rw [h1]
  refine cmp_sub (cmp_n 3 [] (fun i => (fr, .list ((List.range i).map fun j => wrd ((stT f s 0).1 j))) :: (fa, .list ((List.range 3).map fun j => .int (f j : Nat))) :: (pa, .list ((List.range 3).map fun i => .ref (l i).pl)) :: (la, .list ((List.range 3).map fun i => .ref (l i).x)) :: (segs (LSA l (mixA i a1 (stQ f s ln u 0))) ++ R)) (fun i => .ref (l i).x) (fun i p hp => by rw [List.mem_singleton.mp hp]; exact .tail _ (.tail _ (.tail _ (.head _)))) ?_ ?_) sub_nil
  · intro i A hi hC
    have hss := lsa_at (l := l) hi (mix_at i a1 (stQ f s ln u 0))
    walk_at "g"
    refine ⟨sub_nil, ?_⟩
    try walk_at "g"
    refine ⟨_, _, gm_lex (pre := [_, _, _, _]) (f := 42) W hss (by kernel_rfl!) (by kernel_rfl!) rfl, ?_⟩
    walk_at "g"
    refine ⟨fun κ' h₂ l' R' => keeps_K (K := KK pp) (by kernel_rfl!) h₂ (W.X.keeps (l'.up R')), cal_of (get_at (pre := [_, _, _, _]) (b := stQ f s ln u 0 i) W hss (hS i hi) (ht i hi) (G2 i hi) ?_)⟩
    refine hC _ ((List.range i).map fun j => wrd ((stT f s 0).1 j)) _ ?_ (by rw [sizeLine_eq]; simp; omega)
    rw [snoc (fun j => wrd ((stT f s 0).1 j)) i, ← mix_set _ _ hi]
    exact .head
  rw [mix_end]
  walk_at "g"
  refine ⟨by rw [sizeLine_eq]; simp, fun ta => ?_⟩
  walk_at "g"
  refine ex_for ?_ (fun _ _ => rfl)
  walk_at "g"
  refine cal_range1 fun rg og hog => ?_
  refine ⟨_, _, mk_range (.name _ _) (.head _) hog (by decide) (by decide) (by omega) (by omega), (fun p hp => by cases hp), ?_⟩
  rw [ints_range N]
  refine for_perm (σ' := (rg, .obj og) :: runS f s ln u l fa pa la ta R 0 fr) ?_ (.cons _ (.swap _ _ _))
  refine for_sub (for_na N (fun fr => [("lexers", .ref la), ("places", .ref pa), ("factors", .ref fa), ("fronts", .ref fr), ("told", .ref ta)]) (fun m fr => runS f s ln u l fa pa la ta R m fr) (fun n => .int (n : Nat)) (fun i a p hp => by cases hp) (fun i a P' A hi hA => run_turn W F hS ht (Nat.lt_of_lt_of_le hi hN) hA) ?_ fr) (sub_cons rfl (sub_cons rfl (sub_cons rfl (sub_cons rfl (sub_cons rfl sub_nil))))) (.cons _ (.refl _)) (fun p hp => by cases hp)
  intro fr
  unfold runS
  walk_at "g"
  refine cal_range1 fun rg og hog => ?_
  refine ⟨_, _, mk_range (.name _ _) (.head _) hog (by decide) (by decide) (by decide) (by decide), (fun p hp => by cases hp), fun li => ?_⟩
  rw [show intsFrom 0 ((3 : Int) - 0).toNat = ([0, 1, 2] : List Nat).map fun n : Nat => AV.int n from rfl]
  obtain ⟨bd1, bd2, bd3⟩ := stT_bd F N
  refine cmp_drop (σ' := (li, .list []) :: runS f s ln u l fa pa la ta R N fr) ?_ (.cons₂ _ (.cons _ (.refl _))) (fun p hp => by cases hp)
  refine cmp_sub (cmp_ind2 (ι := List (Nat × Addr × Addr)) (L := [("lexers", .ref la), ("fronts", .ref fr)]) (S := fun ws => (ws.map (lineEE f s N)).flatten ++ (li, .list (ws.reverse.map fun r => .ref r.2.1)) :: runS f s ln u l fa pa la ta R N fr) (g := fun n : Nat => .int n) (I := fun ys ws => ws.reverse.map (·.1) ++ ys = [0, 1, 2] ∧ ∀ y ∈ ys, y < 3) ?_ ?_ ?_ [0, 1, 2] [] ⟨rfl, by decide⟩) (sub_cons (by kernel_rfl!) (sub_cons (by kernel_rfl!) sub_nil))
  · intro i p hp; cases hp
  · rintro i ys ws A hC ⟨g1, g2⟩
    have hi := g2 i (.head _)
    have hz := congrArg List.length g1
    simp only [List.length_append, List.length_map, List.length_cons, List.length_reverse, List.length_nil] at hz
    have hss := lsa_at (l := l) (a := stQ f s ln u N) hi rfl
    walk_at "g"
    refine ⟨sub_cons rfl (sub_cons rfl sub_nil), ?_⟩
    walk_at "g"
    have hfr : (fr, AO.list ((List.range 3).map fun i => wrd ((stT f s N).1 i))) ∈ (ws.map (lineEE f s N)).flatten ++ (li, .list (ws.reverse.map fun r => .ref r.2.1)) :: runS f s ln u l fa pa la ta R N fr := List.mem_append_right _ (.tail _ (.head _))
    refine ⟨plain_list hfr, get_list hfr (by omega) (by omega) (at3 (fun i => wrd ((stT f s N).1 i)) hi) ?_⟩
    walk_at "g"
    refine ⟨by rw [sizeLine_eq]; simp, fun ja => ?_⟩
    walk_at "g"
    have hla : ∀ τ : Sto, (la, AO.list ((List.range 3).map fun i => AV.ref (l i).x)) ∈ τ ++ ((ws.map (lineEE f s N)).flatten ++ (li, .list (ws.reverse.map fun r => .ref r.2.1)) :: runS f s ln u l fa pa la ta R N fr) := fun _ => List.mem_append_right _ (List.mem_append_right _ (.tail _ (.tail _ (.tail _ (.tail _ (.tail _ (.head _)))))))
    refine ⟨plain_list (hla [_]), get_list (hla [_]) (by omega) (by omega) (at3 (fun i => AV.ref (l i).x) hi) ?_⟩
    have hseg : ∀ z, z ∈ seg (l i, stQ f s ln u N i) → z ∈ (ja, AO.list [wrd ((stT f s N).1 i)]) :: ((ws.map (lineEE f s N)).flatten ++ (li, .list (ws.reverse.map fun r => .ref r.2.1)) :: runS f s ln u l fa pa la ta R N fr) := fun z hz =>
      .tail _ (List.mem_append_right _ (.tail _ (mem_at (pre := [_, _, _, _, _]) hss hz)))
    refine at_own W.X cls_ok (x := (l i).x) (d := (l i).d) (es := nsL (ln i) (l i).st (l i).pb) (hseg _ (.tail _ (.tail _ (.tail _ (.head _))))) (hseg _ (.tail _ (.tail _ (.tail _ (.tail _ (.head _)))))) (by kernel_rfl!) rfl (fun _ h => by cases h) ?_
    refine op_add_list (.head _) (hseg _ (.tail _ (.tail _ (.tail _ (.tail _ (.tail _ (.head _))))))) (by have := bd3 i; rw [sizeLine_eq]; simp [stQ]; omega) fun c => ?_
    refine hC _ (ws.reverse.map fun r => .ref r.2.1) _ _ ((i, c, ja) :: ws) (.tail (.tail (At.app .head))) (by rw [sizeLine_eq, List.length_map, List.length_reverse]; omega) ⟨by rw [← g1]; simp, fun y hy => g2 y (.tail _ hy)⟩ ?_
    simp only [List.map_cons, List.reverse_cons, List.map_append, List.map_nil, List.flatten_cons]
    rfl
  · rintro ws ⟨g1, _⟩
    rw [List.append_nil] at g1
    walk_at "g"
    refine cal_range1 fun rg og hog => ?_
    refine ⟨_, _, mk_range (.name _ _) (.head _) hog (by decide) (by decide) (by decide) (by decide), (fun p hp => by cases hp), fun en => ?_⟩
    rw [show intsFrom 0 ((3 : Int) - 0).toNat = (List.range 3).map fun n : Nat => AV.int n from rfl]
    have hpre : ∀ (e : AO) (τ : Sto), (en, e) :: ((ws.map (lineEE f s N)).flatten ++ (li, .list (ws.reverse.map fun r => .ref r.2.1)) :: runS f s ln u l fa pa la ta R N fr) = ((en, e) :: ((ws.map (lineEE f s N)).flatten ++ [(li, .list (ws.reverse.map fun r => .ref r.2.1)), (fr, .list ((List.range 3).map fun i => wrd ((stT f s N).1 i))), (ta, .list ((List.range N).map fun j => wrd (toT f s j))), (fa, .list ((List.range 3).map fun i => .int (f i : Nat))), (pa, .list ((List.range 3).map fun i => .ref (l i).pl)), (la, .list ((List.range 3).map fun i => .ref (l i).x))])) ++ (segs (LSA l (stQ f s ln u N)) ++ R) := fun e τ => by simp [runS]
    refine cmp_drop (σ' := (en, .list []) :: ((ws.map (lineEE f s N)).flatten ++ (li, .list (ws.reverse.map fun r => .ref r.2.1)) :: runS f s ln u l fa pa la ta R N fr)) ?_ (.cons₂ _ (.cons _ (.refl _))) (fun p hp => by cases hp)
    refine cmp_sub (cmp_n 3 [("lexers", .ref la), ("places", .ref pa)] (fun i => (en, .list ((List.range i).map fun i => .tup [.int (ln i : Nat), .int ((l i).t.length - (u i).length : Nat)])) :: ((ws.map (lineEE f s N)).flatten ++ (li, .list (ws.reverse.map fun r => .ref r.2.1)) :: runS f s ln u l fa pa la ta R N fr)) (fun n => .int (n : Nat)) (fun i p hp => by cases hp) ?_ ?_) (sub_cons (by kernel_rfl!) (sub_cons (by kernel_rfl!) sub_nil))
    · intro i A hi hC
      have hss := lsa_at (l := l) (a := stQ f s ln u N) hi rfl
      have hseg : ∀ z, z ∈ seg (l i, stQ f s ln u N i) → z ∈ (en, AO.list ((List.range i).map fun i => AV.tup [.int (ln i : Nat), .int ((l i).t.length - (u i).length : Nat)])) :: ((ws.map (lineEE f s N)).flatten ++ (li, .list (ws.reverse.map fun r => .ref r.2.1)) :: runS f s ln u l fa pa la ta R N fr) := fun z hz => by
        rw [hpre _ []]; exact mem_at hss hz
      have hla : (la, AO.list ((List.range 3).map fun i => AV.ref (l i).x)) ∈ (en, AO.list ((List.range i).map fun i => AV.tup [.int (ln i : Nat), .int ((l i).t.length - (u i).length : Nat)])) :: ((ws.map (lineEE f s N)).flatten ++ (li, .list (ws.reverse.map fun r => .ref r.2.1)) :: runS f s ln u l fa pa la ta R N fr) := .tail _ (List.mem_append_right _ (.tail _ (.tail _ (.tail _ (.tail _ (.tail _ (.head _)))))))
      have hpa : (pa, AO.list ((List.range 3).map fun i => AV.ref (l i).pl)) ∈ (en, AO.list ((List.range i).map fun i => AV.tup [.int (ln i : Nat), .int ((l i).t.length - (u i).length : Nat)])) :: ((ws.map (lineEE f s N)).flatten ++ (li, .list (ws.reverse.map fun r => .ref r.2.1)) :: runS f s ln u l fa pa la ta R N fr) := .tail _ (List.mem_append_right _ (.tail _ (.tail _ (.tail _ (.tail _ (.head _))))))
      walk_at "g"
      refine ⟨sub_cons rfl (sub_cons rfl sub_nil), ?_⟩
      walk_at "g"
      refine ⟨plain_list hla, get_list hla (by omega) (by omega) (at3 (fun i => AV.ref (l i).x) hi) ?_⟩
      refine at_own W.X cls_ok (x := (l i).x) (d := (l i).d) (es := nsL (ln i) (l i).st (l i).pb) (hseg _ (.tail _ (.tail _ (.tail _ (.head _))))) (hseg _ (.tail _ (.tail _ (.tail _ (.tail _ (.head _)))))) (by kernel_rfl!) rfl (fun _ h => by cases h) ?_
      walk_at "g"
      refine ⟨plain_list hpa, get_list hpa (by omega) (by omega) (at3 (fun i => AV.ref (l i).pl) hi) ?_⟩
      walk_at "g"
      have hpl := hseg _ (.tail _ (.tail _ (.head _)))
      refine ⟨plain_list hpl, get_list hpl (by decide) (by decide) rfl ?_⟩
      walk_at "g"
      refine ⟨by rw [sizeLine_eq]; simp, ?_⟩
      refine hC _ ((List.range i).map fun i => .tup [.int (ln i : Nat), .int ((l i).t.length - (u i).length : Nat)]) _ ?_ (by rw [sizeLine_eq]; simp; omega)
      rw [snoc (fun i => AV.tup [.int (ln i : Nat), .int ((l i).t.length - (u i).length : Nat)]) i]
      exact .head
    walk_at "g"
    refine ⟨by rw [sizeLine_eq]; simp, ?_⟩
    walk_at "g"
    have := q fa ta li en (ws.reverse.map fun r => (r.1, r.2.1)) (by rw [List.map_map]; exact g1)
    rw [← List.map_reverse, List.reverse_reverse] at this
    simp only [List.map_map] at this
    refine ⟨_, ?_, this⟩
    exact .cons₂ _ ((lineEE_sub f s N ws).append (.cons₂ _ (.cons _ (.cons₂ _ (.cons₂ _ (.cons _ (.cons _ (hR.trans (List.sublist_append_right _ _)))))))))
end
theorem ok_run (X : (KK pp).In Γ.hB) : FnOk Γ 106 (fdOf (KK pp) 106) (bodyOf (fdOf (KK pp) 106)) ["texts", "many"] := fnOkB X (by kernel_rfl!) (bind2 fun _ _ => by kernel_rfl!)
theorem perm_new {pb x d cx cy pl T pa la : Addr × AO} {ρ1 G ρ : Sto} : (pa :: la :: ((G ++ [cx, cy, pl, x, d, pb]) ++ T :: (ρ1 ++ ρ))).Perm (pb :: x :: d :: cx :: cy :: (ρ1 ++ pl :: T :: pa :: la :: (G ++ ρ))) := by
  have h1 : (G ++ ([cx, cy, pl, x, d, pb, T] ++ (ρ1 ++ ρ))).Perm ([cx, cy, pl, x, d, pb, T] ++ (ρ1 ++ (G ++ ρ))) := List.perm_append_comm_assoc _ _ _ |>.trans (List.Perm.append_left _ (List.perm_append_comm_assoc _ _ _))
  have h2 : (ρ1 ++ ([pl, T, pa, la] ++ (G ++ ρ))).Perm ([pl, T, pa, la] ++ (ρ1 ++ (G ++ ρ))) := List.perm_append_comm_assoc _ _ _
  have h3 : List.Perm [pa, la, cx, cy, pl, x, d, pb, T] [pb, x, d, cx, cy, pl, T, pa, la] := (show [0, 1, 2, 3, 4, 5, 6, 7, 8].Perm [7, 5, 6, 2, 3, 4, 8, 0, 1] by decide).map fun i => [pa, la, cx, cy, pl, x, d, pb, T].getD i pa
  have e : pa :: la :: ((G ++ [cx, cy, pl, x, d, pb]) ++ T :: (ρ1 ++ ρ)) = [pa, la] ++ (G ++ ([cx, cy, pl, x, d, pb, T] ++ (ρ1 ++ ρ))) := by simp
  rw [e]
  exact (List.Perm.append_left _ h1).trans ((h3.append_right (ρ1 ++ (G ++ ρ))).trans (List.Perm.append_left [pb, x, d, cx, cy] h2.symm))
theorem range_getD {α : Type} (d : α) {ls : List α} (h : ls.length = 3) : ls = (List.range 3).map fun i => ls.getD i d := by
  match ls, h with
  | [a, b, c], _ => rfl
section
variable {f : Nat → Nat} {s : Nat} {ln : Nat → Nat} {u t : Nat → List Nat} {a1 : Nat → Nat × List Nat × List AV} {N : Nat}
theorem run (W : Wd Γ (KK pp) mg mb) (M : MkOk Γ mg mb 76 72) {xa : Addr} (F : Fac f s) (ht : ∀ i, i < 3 → (t i).length ≤ 1000000)
    (G1 : ∀ i, i < 3 → Gets (t i) (1, t i, []) (apN (f i)) (a1 i)) (G2 : ∀ i, i < 3 → Gets (t i) (a1 i) (apN s) (ln i, u i, [])) (hm : (xa, .list ((List.range 3).map fun i => .str (ofL (t i)))) ∈ σ) (hN : N ≤ 20) {P : AV → Sto → Prop}
    (q : ∀ fa ta li en (ws : List (Nat × Addr)) ps, ws.map (·.1) = [0, 1, 2] → P (.tup [.ref fa, .ref ta, .ref li, .ref en]) ((en, .list ((List.range 3).map fun i => .tup [.int (ln i : Nat), .int ((t i).length - (u i).length : Nat)])) :: (ws.reverse.map (lineE f s N) ++ (li, .list (ws.map fun r => .ref r.2)) :: (ta, .list ((List.range N).map fun j => wrd (toT f s j))) :: (fa, .list ((List.range 3).map fun i => .int (f i : Nat))) :: (72, .obj (tabObj ps)) :: σ))) :
    CalC Γ (k + 5) (.ref 106) [.ref xa, .int (N : Nat)] ((72, .obj (tabObj #[])) :: σ) P := by
  refine fn_cellsB W.ok (ok_run W.X) rfl (by kernel_rfl!) ?_
  refine exs_cons ?_
  walk_at "g"
  refine ⟨by rw [sizeLine_eq]; simp, fun la => ?_⟩
  walk_at "g"
  refine ⟨by rw [sizeLine_eq]; simp, fun pa => ?_⟩
  walk_at "g"
  refine ex_for ?_ (fun _ _ => rfl)
  walk_at "g"
  refine ⟨_, _, mk_list (.name _ _) (xs := ([0, 1, 2] : List Nat).map fun i => .str (ofL (t i))) (a := xa) (.tail _ (.tail _ (.tail _ hm))), (fun p hp => by rw [List.mem_singleton.mp hp]; exact .tail _ (.tail _ (.tail _ hm))), ?_⟩
  refine for_sub (for_ind2 (ι := { i : List Lx × Array Value × Sto // σ.Sublist i.2.2 }) (L := fun _ => [("texts", .ref xa), ("many", .int (N : Nat)), ("lexers", .ref la), ("places", .ref pa)])
    (S := fun i => (pa, .list (i.1.1.map fun l => .ref l.pl)) :: (la, .list (i.1.1.map fun l => .ref l.x)) :: (segs (i.1.1.map fun l => (l, 1, l.t, [])) ++ (72, .obj (tabObj i.1.2.1)) :: i.1.2.2)) (g := fun n => .str (ofL (t n)))
    (I := fun ys i => i.1.1.map (·.t) ++ ys.map t = [t 0, t 1, t 2] ∧ (∀ l ∈ i.1.1, Strm pp i.1.2.2 l.st l.cx l.cy) ∧ TabSt pp i.1.2.1 i.1.2.2) ?_ ?_ ?_ [0, 1, 2] ⟨([], #[], σ), .refl _⟩ ⟨rfl, (fun l hl => by cases hl), .fresh⟩) (sub_cons rfl (sub_cons rfl (sub_cons rfl (sub_cons rfl sub_nil)))) (.refl _) ?_
  · rintro ⟨⟨ls, ps, ρ⟩, i4⟩ p hp
    rw [List.mem_singleton.mp hp]
    exact .tail _ (.tail _ (List.mem_append_right _ (.tail _ (i4.subset hm))))
  · rintro y ys ⟨⟨ls, ps, ρ⟩, i4⟩ P' A hA ⟨i1, i2, i3⟩
    dsimp only at i1 i2 i3 i4 ⊢
    have hlen : ls.length ≤ 3 := by have := congrArg List.length i1; simp at this; omega
    walk_at "g"
    refine ev_calG W 77 (by kernel_rfl!) ?_
    walk_at "g"
    refine cal_of (calC_perm (stream W M i3 (σ := (pa, .list (ls.map fun l => .ref l.pl)) :: (la, .list (ls.map fun l => .ref l.x)) :: (segs (ls.map fun l => (l, 1, l.t, [])) ++ ρ)) (fun z hz => .tail _ (.tail _ (List.mem_append_right _ hz))) fun st pl cx cy ρ1 ps' S1 T1 => ?_) (List.perm_middle (l₁ := (pa, _) :: (la, _) :: segs _)).symm)
    walk_at "g"
    have hla : ∀ (a b : Addr × AO) (τ : Sto), (la, AO.list (ls.map fun l => AV.ref l.x)) ∈ a :: b :: (ρ1 ++ (pl, .list [.int 0]) :: (72, .obj (tabObj ps')) :: (pa, .list (ls.map fun l => .ref l.pl)) :: (la, .list (ls.map fun l => .ref l.x)) :: τ) := fun _ _ _ => .tail _ (.tail _ (List.mem_append_right _ (.tail _ (.tail _ (.tail _ (.head _))))))
    refine ⟨_, _, gm_append (xs := ls.map fun l => .ref l.x) (hla _ _ _), ?_⟩
    walk_at "g"
    refine ev_calG W 52 (by kernel_rfl!) ?_
    walk_at "g"
    refine lex_make W fun x d pb => ?_
    walk_at "g"
    refine ⟨kpr_builtin, cal_append (xs := ls.map fun l => .ref l.x) (.tail (.tail (.tail (.tail (.tail (At.app (.tail (.tail (.tail .head)))))))))  (by rw [sizeLine_eq]; simp; omega) ⟨rfl, ?_⟩⟩
    have esg : segs ((ls ++ [(⟨x, d, st, pb, pl, cx, cy, t y⟩ : Lx)]).map fun l => (l, 1, l.t, [])) = segs (ls.map fun l => (l, 1, l.t, [])) ++ [(cx, .cell (.str (ofL (t y)))), (cy, .cell (.ref pl)), (pl, .list [.int 0]), (x, .inst 52 d), (d, .ns (nsL 1 st pb)), (pb, .list [])] := by
      unfold segs
      rw [List.map_append, List.map_append, List.flatten_append]
      congr 1
      simp [seg]
    refine exs_perm (σ' := (pa, .list (ls.map fun l => .ref l.pl)) :: (la, .list ((ls ++ [(⟨x, d, st, pb, pl, cx, cy, t y⟩ : Lx)]).map fun l => .ref l.x)) :: (segs ((ls ++ [(⟨x, d, st, pb, pl, cx, cy, t y⟩ : Lx)]).map fun l => (l, 1, l.t, [])) ++ (72, .obj (tabObj ps')) :: (ρ1 ++ ρ))) ?_ (by rw [esg, List.map_append]; exact perm_new)
    walk_at "g"
    refine ⟨_, _, gm_append (xs := ls.map fun l => .ref l.pl) (.head _), ?_⟩
    walk_at "g"
    refine ⟨kpr_builtin, cal_append (xs := ls.map fun l => .ref l.pl) .head (by rw [sizeLine_eq]; simp; omega) ⟨rfl, ?_⟩⟩
    walk_at "g"
    refine hA ⟨(ls ++ [(⟨x, d, st, pb, pl, cx, cy, t y⟩ : Lx)], ps', ρ1 ++ ρ), i4.trans (List.sublist_append_right _ _)⟩ _ _ ⟨by rw [← i1]; simp, ?_, T1⟩ (sub_cons rfl (sub_cons rfl (sub_cons rfl (sub_cons rfl sub_nil)))) ?_
    · intro l hl
      rcases List.mem_append.mp hl with hl | hl
      · exact (i2 l hl).sub fun z hz => List.mem_append_right _ hz
      · rw [List.mem_singleton.mp hl]; exact S1
    · rw [List.map_append]; exact .refl _
  · rintro ⟨⟨ls, ps, ρ⟩, i4⟩ ⟨i1, i2, i3⟩
    dsimp only at i1 i2 i3 i4 ⊢
    rw [List.map_nil, List.append_nil] at i1
    have hl3 : ls.length = 3 := by have := congrArg List.length i1; simpa using this
    generalize hl : (fun i => ls.getD i ⟨0, 0, 0, 0, 0, 0, 0, []⟩) = l
    have e1 : ls = (List.range 3).map l := by rw [← hl]; exact range_getD _ hl3
    have et : ∀ i, i < 3 → (l i).t = t i := fun i hi => by
      rw [e1] at i1
      match i, hi with
      | 0, _ => exact (List.cons.inj i1).1
      | 1, _ => exact (List.cons.inj (List.cons.inj i1).2).1
      | 2, _ => exact (List.cons.inj (List.cons.inj (List.cons.inj i1).2).2).1
    have hmem : ∀ i, i < 3 → l i ∈ ls := fun i hi => by rw [e1]; exact List.mem_map_of_mem (List.mem_range.mpr hi)
    rw [e1, List.map_map, List.map_map, List.map_map]
    refine exs_sub (loc' := [("lexers", .ref la), ("places", .ref pa), ("many", .int (N : Nat))]) (exs_eq (by kernel_rfl!) (run_rest (l := l) (ln := ln) (u := u) (a1 := a1) (R := (72, .obj (tabObj ps)) :: ρ) (R0 := (72, .obj (tabObj ps)) :: σ) W F (fun i hi => (i2 _ (hmem i hi)).sub fun z hz => .tail _ hz) (fun i hi => by rw [et i hi]; exact ht i hi) (fun i hi => by show Gets _ (1, (l i).t, []) _ _; rw [et i hi]; exact G1 i hi) (fun i hi => by rw [et i hi]; exact G2 i hi) (.cons₂ _ i4) hN fun fa ta li en ws hw => ?_)) (sub_cons rfl (sub_cons rfl (sub_cons rfl sub_nil))) (.refl _)
    have := q fa ta li en ws ps hw
    have e2 : ((List.range 3).map fun i => AV.tup [.int (ln i : Nat), .int ((l i).t.length - (u i).length : Nat)]) = (List.range 3).map fun i => AV.tup [.int (ln i : Nat), .int ((t i).length - (u i).length : Nat)] := List.map_congr_left fun i hi => by rw [et i (List.mem_range.mp hi)]
    rw [e2]
    exact this
  · intro p hp
    rw [List.mem_singleton.mp hp]
    exact .tail _ (.tail _ (.tail _ hm))
end
theorem ok_prods (X : (KK pp).In Γ.hB) : FnOk Γ 113 (fdOf (KK pp) 113) (bodyOf (fdOf (KK pp) 113)) ["start", "factors", "last"] := fnOkB X (by kernel_rfl!) (bind3 fun _ _ _ => by kernel_rfl!)
theorem nodup_le : ∀ (P T : List Nat), P.Nodup → (∀ x ∈ P, x ∈ T) → P.length ≤ T.length
  | [], _, _, _ => Nat.zero_le _
  | x :: P, T, hn, hs => by
    have hx := hs x (.head _)
    rw [List.nodup_cons] at hn
    have h := nodup_le P (T.erase x) hn.2 fun y hy => (List.mem_erase_of_ne fun e => hn.1 (by rw [← e]; exact hy)).mpr (hs y (.tail _ hy))
    rw [List.length_erase_of_mem hx] at h
    have : 0 < T.length := List.length_pos_of_mem hx
    rw [List.length_cons]; omega
theorem sorted_ext : ∀ (l l' : List Int), l.Pairwise (· < ·) → l'.Pairwise (· < ·) → (∀ x, x ∈ l ↔ x ∈ l') → l = l'
  | [], [], _, _, _ => rfl
  | [], y :: l', _, _, h => nomatch (h y).mpr (.head _)
  | x :: l, [], _, _, h => nomatch (h x).mp (.head _)
  | x :: l, y :: l', h1, h2, h => by
    rw [List.pairwise_cons] at h1 h2
    have e : x = y := by
      rcases List.mem_cons.mp ((h x).mp (.head _)) with e | m1
      · exact e
      · rcases List.mem_cons.mp ((h y).mpr (.head _)) with e | m2
        · exact e.symm
        · have a := h2.1 x m1
          have b := h1.1 y m2
          omega
    subst e
    rw [sorted_ext l l' h1.2 h2.2 fun z => ⟨fun hz => ?_, fun hz => ?_⟩]
    · rcases List.mem_cons.mp ((h z).mp (.tail _ hz)) with e | m
      · have := h1.1 z hz; omega
      · exact m
    · rcases List.mem_cons.mp ((h z).mpr (.tail _ hz)) with e | m
      · have := h2.1 z hz; omega
      · exact m
theorem any_nat (P : List Nat) (x : Nat) : ((P.map fun n : Nat => (n : Int)).any (· == (x : Int))) = decide (x ∈ P) := by
  rw [Bool.eq_iff_iff, List.any_eq_true, decide_eq_true_eq]
  constructor
  · rintro ⟨y, hy, e⟩
    obtain ⟨z, hz, rfl⟩ := List.mem_map.mp hy
    have e := eq_of_beq e
    have : z = x := by omega
    exact this ▸ hz
  · intro h
    exact ⟨x, List.mem_map_of_mem h, beq_self_eq_true _⟩
/-- what the products' loops keep -/
structure Pin (f : Nat → Nat) (s last : Nat) (T : List Nat) (i : Nat) (P : List Nat) : Prop where
  nd : P.Nodup
  sub : ∀ x ∈ P, x ∈ T
  st : s ∈ P
  cl : ∀ x ∈ P, ∀ j, j < i → x * f j ≤ last → x * f j ∈ P
structure Win (f : Nat → Nat) (last : Nat) (T P0 : List Nat) (i k : Nat) (P : List Nat) : Prop where
  nd : P.Nodup
  sub : ∀ x ∈ P, x ∈ T
  old : ∀ x ∈ P0, x ∈ P
  kl : k ≤ P.length
  done : ∀ j, j < k → ∀ x, P[j]? = some x → x * f i ≤ last → x * f i ∈ P
  gen : ∀ x ∈ P, x ∈ P0 ∨ ∃ y ∈ P, x = y * f i
theorem Win.out {f : Nat → Nat} {s last : Nat} {T P0 P : List Nat} {i k : Nat} (hf : ∀ i, 2 ≤ f i) (hpos : ∀ x ∈ T, 1 ≤ x) (B : Pin f s last T i P0) (h : Win f last T P0 i k P) (hk : P.length ≤ k) : Pin f s last T (i + 1) P where
  nd := h.nd
  sub := h.sub
  st := h.old _ B.st
  cl := by
    have own : ∀ x ∈ P, x * f i ≤ last → x * f i ∈ P := fun x hx hl => by
      obtain ⟨j, hj, e⟩ := List.getElem_of_mem hx
      exact h.done j (by omega) x (by rw [List.getElem?_eq_getElem hj, e]) hl
    intro x
    induction x using Nat.strongRecOn with
    | _ x ih =>
      intro hx j hj hl
      rcases Nat.lt_succ_iff_lt_or_eq.mp hj with hj | rfl
      · rcases h.gen x hx with h0 | ⟨y, hy, rfl⟩
        · exact h.old _ (B.cl x h0 j hj hl)
        · have y1 := hpos y (h.sub y hy)
          have f2 := hf i
          have hlt : y < y * f i := by
            have := Nat.mul_le_mul_left y f2
            omega
          have hle : y * f j ≤ y * f i * f j := Nat.mul_le_mul_right _ (Nat.le_of_lt hlt)
          have h1 := ih y hlt hy j (Nat.lt_succ_of_lt hj) (Nat.le_trans hle hl)
          have e : y * f i * f j = y * f j * f i := Nat.mul_right_comm _ _ _
          rw [e] at hl ⊢
          exact own _ h1 hl
      · exact own x hx hl
theorem Win.next {f : Nat → Nat} {last : Nat} {T P0 P : List Nat} {i k x : Nat} (hcl : ∀ x ∈ T, x * f i ≤ last → x * f i ∈ T) (h : Win f last T P0 i k P) (hx : P[k]? = some x) : (x * f i ≤ last ∧ x * f i ∉ P → Win f last T P0 i (k + 1) (P ++ [x * f i])) ∧ (¬ (x * f i ≤ last ∧ x * f i ∉ P) → Win f last T P0 i (k + 1) P) := by
  obtain ⟨hk, ex⟩ := List.getElem?_eq_some_iff.mp hx
  have hxm : x ∈ P := ex ▸ List.getElem_mem hk
  constructor
  · rintro ⟨h1, h2⟩
    exact {
      nd := by
        rw [List.nodup_append]
        refine ⟨h.nd, by simp, fun a ha b hb e => ?_⟩
        rw [List.mem_singleton.mp hb] at e
        exact h2 (e ▸ ha)
      sub := fun y hy => by
        rcases List.mem_append.mp hy with hy | hy
        · exact h.sub y hy
        · rw [List.mem_singleton.mp hy]; exact hcl x (h.sub x hxm) h1
      old := fun y hy => List.mem_append_left _ (h.old y hy)
      kl := by rw [List.length_append]; simp only [List.length_cons, List.length_nil]; omega
      done := fun j hj y hy hl => by
        rcases Nat.lt_succ_iff_lt_or_eq.mp hj with hj | rfl
        · rw [List.getElem?_append_left (by omega)] at hy
          exact List.mem_append_left _ (h.done j hj y hy hl)
        · rw [List.getElem?_append_left hk, hx] at hy
          cases hy
          exact List.mem_append_right _ (.head _)
      gen := fun y hy => by
        rcases List.mem_append.mp hy with hy | hy
        · rcases h.gen y hy with h | ⟨z, hz, e⟩
          · exact .inl h
          · exact .inr ⟨z, List.mem_append_left _ hz, e⟩
        · rw [List.mem_singleton.mp hy]; exact .inr ⟨x, List.mem_append_left _ hxm, rfl⟩ }
  · intro hn
    exact {
      nd := h.nd
      sub := h.sub
      old := h.old
      kl := hk
      done := fun j hj y hy hl => by
        rcases Nat.lt_succ_iff_lt_or_eq.mp hj with hj | rfl
        · exact h.done j hj y hy hl
        · rw [hx] at hy
          cases hy
          exact Classical.byContradiction fun hc => hn ⟨hl, hc⟩
      gen := h.gen }
theorem prods (W : Wd Γ (KK pp) mg mb) {fa : Addr} {f : Nat → Nat} (hf : ∀ i, 2 ≤ f i ∧ f i ≤ 31) {s last : Nat} {T : List Nat} (hT : T.Pairwise (· < ·)) (hl : T.length ≤ 20) (hs : s ∈ T) (hpos : ∀ x ∈ T, 1 ≤ x)
    (hcl : ∀ x ∈ T, ∀ i, i < 3 → x * f i ≤ last → x * f i ∈ T) (hbd : ∀ x ∈ T, x ≤ last) (hgen : ∀ x ∈ T, x = s ∨ ∃ y ∈ T, y < x ∧ ∃ i, i < 3 ∧ x = y * f i) (hm : (fa, .list ((List.range 3).map fun i => .int (f i : Nat))) ∈ σ) {P : AV → Sto → Prop}
    (q : ∀ b, P (.ref b) ((b, .list (T.map fun n : Nat => .int n)) :: σ)) : CalC Γ (k + 1) (.ref 113) [.int (s : Nat), .ref fa, .int (last : Nat)] σ P := by
  refine fn_defB W.ok (ok_prods W.X) rfl (by kernel_rfl!) (by kernel_rfl!) ?_
  refine exs_cons ?_
  walk_at "g"
  refine ⟨by rw [sizeLine_eq]; simp, fun pr => ?_⟩
  walk_at "g"
  refine ex_for ?_ (fun _ _ => rfl)
  walk_at "g"
  have hm' : ∀ e, (fa, AO.list (([0, 1, 2] : List Nat).map fun i => AV.int (f i : Nat))) ∈ (pr, e) :: σ := fun _ => .tail _ hm
  refine ⟨_, _, mk_list (.name _ _) (xs := ([0, 1, 2] : List Nat).map fun i => .int (f i : Nat)) (a := fa) (hm' _), (fun p hp => by rw [List.mem_singleton.mp hp]; exact hm' _), ?_⟩
  refine for_sub (for_ind2 (ι := Nat × List Nat) (L := fun _ => [("last", .int (last : Nat)), ("products", .ref pr)]) (S := fun i => (pr, .list (i.2.map fun n : Nat => .int n)) :: σ) (g := fun i => .int (f i : Nat)) (I := fun ys i => ys = ([0, 1, 2] : List Nat).drop i.1 ∧ i.1 ≤ 3 ∧ Pin f s last T i.1 i.2) ?_ ?_ ?_ [0, 1, 2] (0, [s]) ⟨rfl, Nat.zero_le _, ⟨by simp, fun x hx => by rw [List.mem_singleton.mp hx]; exact hs, .head _, fun _ _ j hj => absurd hj (Nat.not_lt_zero j)⟩⟩) (sub_cons rfl (sub_cons rfl sub_nil)) (.refl _) (fun p hp => by rw [List.mem_singleton.mp hp]; exact hm' _)
  · intro i p hp; rw [List.mem_singleton.mp hp]; exact hm' _
  · rintro y ys ⟨i, P0⟩ P' A hA ⟨i1, i2, i3⟩
    dsimp only at i1 i2 i3 ⊢
    obtain ⟨rfl, hi, ei⟩ : y = i ∧ i < 3 ∧ ys = ([0, 1, 2] : List Nat).drop (i + 1) := by
      match i, i2 with
      | 0, _ => cases i1; exact ⟨rfl, by decide, rfl⟩
      | 1, _ => cases i1; exact ⟨rfl, by decide, rfl⟩
      | 2, _ => cases i1; exact ⟨rfl, by decide, rfl⟩
      | 3, _ => cases i1
    have hfy := hf y
    walk_at "g"
    refine whl_sub (whl_c2 (I := fun k P => Win f last T P0 y k P) (L := fun k _ => [("last", .int (last : Nat)), ("products", .ref pr), ("factor", .int (f y : Nat)), ("k", .int (k : Nat))]) (S := fun _ P => (pr, .list (P.map fun n : Nat => .int n)) :: σ) (rank := fun k _ => 20 - k) (X := fun k P => P.length ≤ k) ?_ ?_ 0 P0 ⟨i3.nd, i3.sub, fun x hx => hx, Nat.zero_le _, fun j hj => absurd hj (Nat.not_lt_zero j), fun x hx => .inl hx⟩) (sub_cons rfl (sub_cons rfl (sub_cons rfl (sub_cons rfl sub_nil)))) (.refl _)
    · intro k P P' A hW hI
      have hP20 := Nat.le_trans (nodup_le P T hI.nd hI.sub) hl
      walk_at "g"
      refine cal_len_list (xs := P.map fun n : Nat => .int n) (.head _) (by rw [sizeLine_eq, List.length_map]; omega) ?_
      rw [List.length_map]
      walk_at "g"
      refine ⟨fun hb => ?_, fun hb => ⟨by have := of_decide_eq_false hb; omega, rfl⟩⟩
      have hb : k < P.length := by have := of_decide_eq_true hb; omega
      have hx : P[k]? = some P[k] := List.getElem?_eq_getElem hb
      obtain ⟨n1, n2⟩ := hI.next (fun x hx => hcl x hx y hi) hx
      generalize P[k] = x at hx n1 n2
      walk_at "g"
      refine ⟨plain_list (.head _), get_list (x := .int (x : Nat)) (.head _) (by omega) (by omega) (by rw [Int.toNat_natCast, List.getElem?_map, hx]; rfl) ?_⟩
      walk_at "g"
      refine op_mul (mul_smallr (by omega) (by omega)) ?_
      rw [show ((x : Int) * (f y : Int)) = ((x * f y : Nat) : Int) from by simp]
      walk_at "g"
      have hle : decide (((x * f y : Nat) : Int) ≤ (last : Int)) = decide (x * f y ≤ last) := decide_eq_decide.mpr Int.ofNat_le
      rw [hle]
      refine ⟨fun h1 => ?_, fun h1 => ?_⟩
      · have h1 := of_decide_eq_true h1
        walk_at "g"
        refine op_notin_ints (xs := P.map fun n : Nat => (n : Int)) (by rw [List.map_map]; exact .head _) ?_
        rw [any_nat]
        walk_at "g"
        refine ⟨fun h2 => ?_, fun h2 => ?_⟩
        · have h2 : x * f y ∉ P := by simpa using h2
          walk_at "g"
          refine ⟨fun _ => ?_, fun h => nomatch h⟩
          walk_at "g"
          refine ⟨_, _, gm_append (xs := P.map fun n : Nat => .int n) (.head _), ?_⟩
          walk_at "g"
          refine ⟨kpr_builtin, cal_append (xs := P.map fun n : Nat => .int n) .head (by rw [sizeLine_eq, List.length_map]; omega) ⟨rfl, ?_⟩⟩
          walk_at "g"
          refine hW (k + 1) (P ++ [x * f y]) _ _ (n1 ⟨h1, h2⟩) (by omega) (sub_cons rfl (sub_cons rfl (sub_cons rfl (sub_cons rfl sub_nil)))) ?_
          rw [List.map_append]; exact .refl _
        · have h2 : x * f y ∈ P := by simpa using h2
          refine ⟨(fun h => nomatch h), fun _ => ?_⟩
          walk_at "g"
          exact hW (k + 1) P _ _ (n2 fun h => h.2 h2) (by omega) (sub_cons rfl (sub_cons rfl (sub_cons rfl (sub_cons rfl sub_nil)))) (.refl _)
      · have h1 := of_decide_eq_false h1
        refine ⟨(fun h => nomatch h), fun _ => ?_⟩
        walk_at "g"
        exact hW (k + 1) P _ _ (n2 fun h => h1 h.1) (by omega) (sub_cons rfl (sub_cons rfl (sub_cons rfl (sub_cons rfl sub_nil)))) (.refl _)
    · intro k P hI hX
      walk_at "g"
      exact hA (y + 1, P) _ _ ⟨ei, hi, hI.out (fun i => (hf i).1) hpos i3 hX⟩ (sub_cons rfl (sub_cons rfl sub_nil)) (.refl _)
  · rintro ⟨i, Q⟩ ⟨i1, i2, i3⟩
    dsimp only at i1 i2 i3 ⊢
    have hi3 : i = 3 := by
      match i, i2 with
      | 0, _ => cases i1
      | 1, _ => cases i1
      | 2, _ => cases i1
      | 3, _ => rfl
    subst hi3
    have all : ∀ x, x ∈ T → x ∈ Q := fun x => by
      induction x using Nat.strongRecOn with
      | _ x ih =>
        intro hx
        rcases hgen x hx with rfl | ⟨y, hy, hlt, j, hj, rfl⟩
        · exact i3.st
        · exact i3.cl y (ih y hlt hy) j hj (hbd _ hx)
    walk_at "g"
    have hQ20 := Nat.le_trans (nodup_le Q T i3.nd i3.sub) hl
    refine cal_sorted_ints (ns := Q.map fun n : Nat => (n : Int)) (by rw [List.map_map]; exact .head _) (by rw [List.length_map]; omega) fun b ns' hp hs' => ?_
    have hnd : (Q.map fun n : Nat => (n : Int)).Nodup := by
      unfold List.Nodup
      rw [List.pairwise_map]
      exact i3.nd.imp fun h e => h (by omega)
    have hst : ns'.Pairwise (· < ·) := by
      have h1 : ns'.Nodup := hp.nodup_iff.mpr hnd
      exact (hs'.and h1).imp fun h => by have := h.1; have := h.2; omega
    have e : ns' = T.map fun n : Nat => (n : Int) := sorted_ext _ _ hst (by rw [List.pairwise_map]; exact hT.imp fun h => by omega) fun z => by
      rw [hp.mem_iff, List.mem_map, List.mem_map]
      exact ⟨fun ⟨a, ha, e⟩ => ⟨a, i3.sub a ha, e⟩, fun ⟨a, ha, e⟩ => ⟨a, all a ha, e⟩⟩
    subst e
    rw [List.map_map]
    exact ⟨_, .cons₂ _ (.cons _ (.refl _)), q b⟩
noncomputable def told (f : Nat → Nat) (s n : Nat) : List Nat := (List.range n).map (toT f s)
noncomputable def lst (f : Nat → Nat) (s : Nat) : Nat → Nat
  | 0 => 0
  | n + 1 => toT f s n
theorem told_succ (f : Nat → Nat) (s n : Nat) : told f s (n + 1) = told f s n ++ [toT f s n] := by unfold told; rw [List.range_succ, List.map_append]; rfl
structure Ham (f : Nat → Nat) (s n : Nat) : Prop where
  a : ∀ i, i < 3 → (stT f s n).1 i :: (stT f s n).2 i = (s :: (told f s n).map (· * f i)).filter fun x => decide (lst f s n < x)
  b : (told f s n).Pairwise (· < ·)
  e : ∀ x ∈ told f s n, s ≤ x ∧ x ≤ lst f s n
  c : ∀ x ∈ told f s n, x = s ∨ ∃ y ∈ told f s n, y < x ∧ ∃ i, i < 3 ∧ x = y * f i
  d : ∀ x ∈ told f s n, ∀ i, i < 3 → x * f i ≤ lst f s n → x * f i ∈ told f s n
theorem ham_zero {f : Nat → Nat} {s : Nat} (F : Fac f s) : Ham f s 0 where
  a i _ := by
    have : decide (0 < s) = true := decide_eq_true F.s1
    show [s] = [s].filter _
    rw [List.filter_cons_of_pos (by show decide (0 < s) = true; exact this)]; rfl
  b := .nil
  e _ h := nomatch h
  c _ h := nomatch h
  d _ h := nomatch h
theorem ham_step {f : Nat → Nat} {s n : Nat} (F : Fac f s) (H : Ham f s n) : Ham f s (n + 1) := by
  have hst : ∀ i, i < 3 → ((stT f s n).1 i :: (stT f s n).2 i).Pairwise (· < ·) := fun i hi => by
    rw [H.a i hi]
    refine List.Pairwise.filter _ ?_
    rw [List.pairwise_cons, List.pairwise_map]
    refine ⟨fun y hy => ?_, H.b.imp fun {x y} h => ?_⟩
    · obtain ⟨x, hx, rfl⟩ := List.mem_map.mp hy
      have h1 := (H.e x hx).1
      have h2 := Nat.mul_le_mul_left x (F.lo i)
      have h3 := F.s1
      show s < x * f i
      omega
    · exact Nat.mul_lt_mul_of_pos_right h (by have := F.lo i; omega)
  have hmem : ∀ i, i < 3 → ∀ x, x ∈ (stT f s n).1 i :: (stT f s n).2 i → (x = s ∨ ∃ y ∈ told f s n, x = y * f i) ∧ lst f s n < x := fun i hi x hx => by
    rw [H.a i hi, List.mem_filter] at hx
    refine ⟨?_, of_decide_eq_true hx.2⟩
    rcases List.mem_cons.mp hx.1 with h | h
    · exact .inl h
    · obtain ⟨y, hy, rfl⟩ := List.mem_map.mp h
      exact .inr ⟨y, hy, rfl⟩
  obtain ⟨j, hj, ej⟩ := least3_at (stT f s n).1
  have hm : ∀ i, i < 3 → toT f s n ≤ (stT f s n).1 i := least3_le _
  have hgt : lst f s n < toT f s n := by
    show lst f s n < least3 _
    rw [ej]; exact (hmem j hj _ (.head _)).2
  have hpos : 1 ≤ toT f s n := by omega
  have hor := (hmem j hj _ (.head _)).1
  rw [← ej] at hor
  have hlm : ∀ i, toT f s n < toT f s n * f i := fun i => by
    have := Nat.mul_le_mul_left (toT f s n) (F.lo i)
    omega
  have hs : s ≤ toT f s n := by
    rcases hor with h | ⟨y, hy, h⟩
    · exact Nat.le_of_eq h.symm
    · have h1 := (H.e y hy).1
      have h2 := Nat.mul_le_mul_left y (F.lo j)
      have h3 : toT f s n = y * f j := h
      omega
  refine ⟨fun i hi => ?_, ?_, fun x hx => ?_, fun x hx => ?_, fun x hx i hi hl => ?_⟩
  · -- what is in hand and pushed back
    have e1 : (s :: (told f s (n + 1)).map (· * f i)).filter (fun x => decide (lst f s (n + 1) < x)) = ((stT f s n).1 i :: (stT f s n).2 i).filter (fun x => decide (toT f s n < x)) ++ [toT f s n * f i] := by
      rw [told_succ, List.map_append, ← List.cons_append, List.filter_append, H.a i hi, List.filter_filter]
      congr 1
      · refine List.filter_congr fun x _ => ?_
        show decide (toT f s n < x) = (decide (toT f s n < x) && decide (lst f s n < x))
        by_cases h : toT f s n < x
        · rw [decide_eq_true h, decide_eq_true (Nat.lt_trans hgt h)]; rfl
        · rw [decide_eq_false h]; rfl
      · exact List.filter_cons_of_pos (by show decide (toT f s n < toT f s n * f i) = true; exact decide_eq_true (hlm i))
    rw [e1]
    have hq : ((stT f s n).2 i).filter (fun x => decide (toT f s n < x)) = (stT f s n).2 i := List.filter_eq_self.mpr fun x hx => decide_eq_true (Nat.lt_of_le_of_lt (hm i hi) ((List.pairwise_cons.mp (hst i hi)).1 x hx))
    by_cases h : (stT f s n).1 i = least3 (stT f s n).1
    · have n1 : (stT f s (n + 1)).1 i = ((stT f s n).2 i ++ [least3 (stT f s n).1 * f i]).headD 0 := if_pos h
      have n2 : (stT f s (n + 1)).2 i = ((stT f s n).2 i ++ [least3 (stT f s n).1 * f i]).tail := if_pos h
      rw [n1, n2, List.filter_cons_of_neg (by show ¬ decide (toT f s n < _) = true; rw [decide_eq_false (by rw [h]; exact Nat.lt_irrefl _)]; decide), hq]
      obtain ⟨y, r, er⟩ := List.exists_cons_of_ne_nil (show (stT f s n).2 i ++ [least3 (stT f s n).1 * f i] ≠ [] by simp)
      show _ = (stT f s n).2 i ++ [least3 (stT f s n).1 * f i]
      rw [er]; rfl
    · have n1 : (stT f s (n + 1)).1 i = (stT f s n).1 i := if_neg h
      have n2 : (stT f s (n + 1)).2 i = (stT f s n).2 i ++ [least3 (stT f s n).1 * f i] := if_neg h
      have hlt : toT f s n < (stT f s n).1 i := Nat.lt_of_le_of_ne (hm i hi) fun e => h e.symm
      rw [n1, n2, List.filter_cons_of_pos (by show decide (toT f s n < _) = true; exact decide_eq_true hlt), hq]
      rfl
  · rw [told_succ, List.pairwise_append]
    refine ⟨H.b, by simp, fun x hx y hy => ?_⟩
    rw [List.mem_singleton.mp hy]
    exact Nat.lt_of_le_of_lt (H.e x hx).2 hgt
  · rw [told_succ] at hx
    rcases List.mem_append.mp hx with hx | hx
    · exact ⟨(H.e x hx).1, Nat.le_of_lt (Nat.lt_of_le_of_lt (H.e x hx).2 hgt)⟩
    · rw [List.mem_singleton.mp hx]; exact ⟨hs, Nat.le_refl _⟩
  · rw [told_succ] at hx ⊢
    rcases List.mem_append.mp hx with hx | hx
    · rcases H.c x hx with h | ⟨y, hy, hlt, i, hi, e⟩
      · exact .inl h
      · exact .inr ⟨y, List.mem_append_left _ hy, hlt, i, hi, e⟩
    · rw [List.mem_singleton.mp hx]
      rcases hor with h | ⟨y, hy, h⟩
      · exact .inl h
      · exact .inr ⟨y, List.mem_append_left _ hy, Nat.lt_of_le_of_lt (H.e y hy).2 hgt, j, hj, h⟩
  · rw [told_succ] at hx ⊢
    rcases List.mem_append.mp hx with hx | hx
    · rcases Nat.lt_or_ge (lst f s n) (x * f i) with h | h
      · have hin : x * f i ∈ (stT f s n).1 i :: (stT f s n).2 i := by
          rw [H.a i hi, List.mem_filter]
          exact ⟨.tail _ (List.mem_map.mpr ⟨x, hx, rfl⟩), decide_eq_true h⟩
        have hge : toT f s n ≤ x * f i := by
          rcases List.mem_cons.mp hin with e | e
          · rw [e]; exact hm i hi
          · exact Nat.le_of_lt (Nat.lt_of_le_of_lt (hm i hi) ((List.pairwise_cons.mp (hst i hi)).1 _ e))
        have hl : x * f i ≤ toT f s n := hl
        exact List.mem_append_right _ (List.mem_singleton.mpr (by omega))
      · exact List.mem_append_left _ (H.d x hx i hi h)
    · rw [List.mem_singleton.mp hx] at hl
      have hl : toT f s n * f i ≤ toT f s n := hl
      have := hlm i
      omega
theorem ham {f : Nat → Nat} {s : Nat} (F : Fac f s) : ∀ n, Ham f s n
  | 0 => ham_zero F
  | n + 1 => ham_step F (ham F n)
theorem told_s {f : Nat → Nat} {s n : Nat} (F : Fac f s) (hn : 0 < n) : s ∈ told f s n := by
  unfold told
  refine List.mem_map.mpr ⟨0, List.mem_range.mpr hn, ?_⟩
  show min s (min s s) = s
  omega
/-- the lines at the end -/
theorem ham_line {f : Nat → Nat} {s n : Nat} (F : Fac f s) (hn : 0 < n) {i : Nat} (hi : i < 3) : (stT f s n).1 i :: (stT f s n).2 i = ((told f s n).map (· * f i)).filter fun x => decide (lst f s n < x) := by
  have H := ham F n
  rw [H.a i hi, List.filter_cons_of_neg]
  have := (H.e s (told_s F hn)).2
  rw [decide_eq_false (by omega)]
  decide
theorem ok_law (X : (KK pp).In Γ.hB) : FnOk Γ 118 (fdOf (KK pp) 118) (bodyOf (fdOf (KK pp) 118)) ["script"] := fnOkB X (by kernel_rfl!) (bind1 fun _ => by kernel_rfl!)
noncomputable def fA (xs : List Int) (i : Nat) : Nat := facN (scrA xs i)
noncomputable def sA (xs : List Int) : Nat := staN (scrA xs 0)
noncomputable def wA (xs : List Int) (i j : Nat) : Nat := wayN (scrA xs i) j
theorem fac_ok (xs : List Int) : Fac (fA xs) (sA xs) where
  lo i := by unfold fA facN; omega
  hi i := by have := (fg_range (scrA xs i) 0 30 rfl).2; unfold fA facN; omega
  s1 := by unfold sA staN; omega
  s2 := by have := (fg_range (scrA xs 0) 5 65536 rfl).2; unfold sA staN; omega
theorem way_lt (xs : List Int) (i j : Nat) (hj : j < 4) : wA xs i j < 4 := by
  have : bases3[1 + j]? = some 4 := by
    match j, hj with
    | 0, _ => rfl
    | 1, _ => rfl
    | 2, _ => rfl
    | 3, _ => rfl
  have := (fg_range (scrA xs i) (1 + j) 4 this).2
  unfold wA wayN; omega
noncomputable def tA (xs : List Int) (i : Nat) : List Nat := txt3 (fA xs i) (sA xs) (wA xs i 0) (wA xs i 1) (wA xs i 2) (wA xs i 3)
noncomputable def uA (xs : List Int) (i : Nat) : List Nat := (sepN (wA xs i 1)).drop (1 - wA xs i 0 % 2) ++ (wr (apN (sA xs)) (wA xs i 2) ++ (sepN (wA xs i 3) ++ []))
noncomputable def uB (xs : List Int) (i : Nat) : List Nat := (sepN (wA xs i 3)).drop (1 - wA xs i 2 % 2) ++ []
noncomputable def lnA (xs : List Int) (i : Nat) (u : List Nat) : Nat := 1 + (tA xs i).count 10 - u.count 10
theorem gets3 (xs : List Int) (i : Nat) : Gets (tA xs i) (1, tA xs i, []) (apN (fA xs i)) (lnA xs i (uA xs i), uA xs i, []) ∧ Gets (tA xs i) (lnA xs i (uA xs i), uA xs i, []) (apN (sA xs)) (lnA xs i (uB xs i), uB xs i, []) := by
  have F := fac_ok xs
  have h1 := F.lo i
  have h2 := F.s1
  have e : tA xs i = [] ++ (wr (apN (fA xs i)) (wA xs i 0) ++ (sepN (wA xs i 1) ++ (wr (apN (sA xs)) (wA xs i 2) ++ (sepN (wA xs i 3) ++ [])))) := by simp [tA, txt3, pre3]
  obtain ⟨f1, g1⟩ := gets_piece (t := tA xs i) e (List.suffix_refl _) (fun c hc => nomatch hc) (apN_rng _) (.inl (apN_ne (by omega))) (way_lt xs i 0 (by decide))
  obtain ⟨f2, g2⟩ := gets_piece (t := tA xs i) rfl f1 (sep_drop _ _) (apN_rng _) (.inl (apN_ne (by omega))) (way_lt xs i 2 (by decide))
  rw [show 1 + (tA xs i).count 10 - (tA xs i).count 10 = 1 by omega] at g1
  exact ⟨g1, g2⟩
theorem ends3 (xs : List Int) (i : Nat) : lnA xs i (uB xs i) = line3 (fA xs i) (sA xs) (wA xs i 0) (wA xs i 1) (wA xs i 2) (wA xs i 3) ∧ (tA xs i).length - (uB xs i).length = spot3 (fA xs i) (sA xs) (wA xs i 0) (wA xs i 1) (wA xs i 2) := by
  have hp := sep_pos (wA xs i 3)
  have e1 : tA xs i = (pre3 (fA xs i) (sA xs) (wA xs i 0) (wA xs i 1) (wA xs i 2) ++ (sepN (wA xs i 3)).take (1 - wA xs i 2 % 2)) ++ uB xs i := by
    have := List.take_append_drop (1 - wA xs i 2 % 2) (sepN (wA xs i 3))
    unfold uB tA txt3
    rw [List.append_nil, List.append_assoc, this]
  have e2 : (pre3 (fA xs i) (sA xs) (wA xs i 0) (wA xs i 1) (wA xs i 2) ++ (sepN (wA xs i 3)).take (1 - wA xs i 2 % 2)).length = spot3 (fA xs i) (sA xs) (wA xs i 0) (wA xs i 1) (wA xs i 2) := by
    rw [List.length_append, List.length_take]
    unfold spot3; omega
  generalize pre3 (fA xs i) (sA xs) (wA xs i 0) (wA xs i 1) (wA xs i 2) ++ (sepN (wA xs i 3)).take (1 - wA xs i 2 % 2) = B at e1 e2
  have e4 : (tA xs i).take (spot3 (fA xs i) (sA xs) (wA xs i 0) (wA xs i 1) (wA xs i 2)) = B := by rw [← e2, e1]; simp
  have e5 : (tA xs i).length = B.length + (uB xs i).length := by rw [e1, List.length_append]
  have e6 : (tA xs i).count 10 = B.count 10 + (uB xs i).count 10 := by rw [e1, List.count_append]
  refine ⟨?_, by omega⟩
  have e7 : line3 (fA xs i) (sA xs) (wA xs i 0) (wA xs i 1) (wA xs i 2) (wA xs i 3) = 1 + B.count 10 := by
    unfold line3
    rw [show txt3 (fA xs i) (sA xs) (wA xs i 0) (wA xs i 1) (wA xs i 2) (wA xs i 3) = tA xs i from rfl, e4]
  rw [e7]
  unfold lnA; omega
theorem tA_len (xs : List Int) (i : Nat) : (tA xs i).length ≤ 1000000 := by
  have F := fac_ok xs
  have h1 := F.hi i
  have h2 := F.s2
  have h3 := pre3_len (f := fA xs i) (st := sA xs) (wA xs i 0) (wA xs i 1) (wA xs i 2) (Nat.lt_of_le_of_lt h1 (by decide)) (Nat.lt_of_le_of_lt h2 (by decide))
  have h4 := sep_len (wA xs i 3)
  unfold tA txt3; rw [List.length_append]; omega
theorem ws_fun {xs : List Int} {ws : List (Int × Addr)} (h : ws.map (·.1) = scr3 xs) : ∃ b : Nat → Addr, ws = (List.range 3).map fun i => (scrA xs i, b i) := by
  have hl : ws.length = 3 := by have := congrArg List.length h; simpa [scr3] using this
  refine ⟨fun i => (ws.getD i (0, 0)).2, ?_⟩
  match ws, hl with
  | [p, q, r], _ =>
    simp only [scr3, List.map_cons, List.map_nil, List.cons.injEq] at h
    obtain ⟨h1, h2, h3, _⟩ := h
    show _ = [(scrA xs 0, p.2), (scrA xs 1, q.2), (scrA xs 2, r.2)]
    rw [← h1, ← h2, ← h3]
theorem ln_fun {ws : List (Nat × Addr)} (h : ws.map (·.1) = [0, 1, 2]) : ∃ b : Nat → Addr, ws = (List.range 3).map fun i => (i, b i) := by
  have hl : ws.length = 3 := by have := congrArg List.length h; simpa using this
  refine ⟨fun i => (ws.getD i (0, 0)).2, ?_⟩
  match ws, hl with
  | [p, q, r], _ =>
    simp only [List.map_cons, List.map_nil, List.cons.injEq] at h
    obtain ⟨h1, h2, h3, _⟩ := h
    show _ = [(0, p.2), (1, q.2), (2, r.2)]
    rw [← h1, ← h2, ← h3]
noncomputable def endV (xs : List Int) (i : Nat) : AV := .tup [.int (line3 (fA xs i) (sA xs) (wA xs i 0) (wA xs i 1) (wA xs i 2) (wA xs i 3) : Nat), .int (spot3 (fA xs i) (sA xs) (wA xs i 0) (wA xs i 1) (wA xs i 2) : Nat)]
noncomputable def fileV (xs : List Int) (i : Nat) : AV := .tup [.str (ofL (tA xs i)), endV xs i]
/-- the words that wait, by number -/
noncomputable def wtN (f : Nat → Nat) (s n i : Nat) : List Nat := ((told f s n).map (· * f i)).filter fun x => decide (lst f s n < x)
noncomputable def waitE (f : Nat → Nat) (s n : Nat) (r : Nat × Addr) : Addr × AO := (r.2, .list ((wtN f s n r.1).map wrd))
theorem perm_stab {a b wa fa T : Addr × AO} {A τ : Sto} : (T :: a :: b :: (A ++ wa :: fa :: τ)).Perm (a :: b :: (A ++ wa :: fa :: T :: τ)) := by
  have := (List.perm_middle (l₁ := a :: b :: (A ++ [wa, fa])) (a := T) (l₂ := τ)).symm
  simpa using this
section
variable {f : Nat → Nat} {s m : Nat} {fa ta f2 li en fi : Addr} {c : Nat → Addr} {tx : Nat → List Nat} {ev : Nat → Nat × Nat} {Y : Sto}
theorem law3b (W : Wd Γ (KK pp) mg mb) (F : Fac f s) (hm : m + 1 ≤ 20) (hta : (ta, AO.list ((List.range (m + 1)).map fun j => wrd (toT f s j))) ∈ Y) (hfa : (fa, AO.list ((List.range 3).map fun i => .int (f i : Nat))) ∈ Y) (hf2 : (f2, AO.list ((List.range 3).map fun i => .int (f i : Nat))) ∈ Y)
    (hli : (li, AO.list ((List.range 3).map fun i => .ref (c i))) ∈ Y) (hlines : ∀ i, i < 3 → (c i, AO.list (wrd ((stT f s (m + 1)).1 i) :: ((stT f s (m + 1)).2 i).map wrd)) ∈ Y) (hen : (en, AO.list ((List.range 3).map fun i => .tup [.int ((ev i).1 : Nat), .int ((ev i).2 : Nat)])) ∈ Y)
    (hfi : (fi, AO.list ((List.range 3).map fun i => .tup [.str (ofL (tx i)), .tup [.int ((ev i).1 : Nat), .int ((ev i).2 : Nat)]])) ∈ Y) {P : AV → Sto → Prop} (hP : P (.bool true) Y) :
    Exs Γ (k + 5) (fdOf (KK pp) 118).scope ((bodyOf (fdOf (KK pp) 118)).drop 3) [("factors", .ref fa), ("start", .int (s : Nat)), ("files", .ref fi), ("read", .ref f2), ("told", .ref ta), ("lines", .ref li), ("ends", .ref en)] Y fun fl _ σ' => Drp σ' (P (retv fl)) := by
  have hT : ∀ j, j < m + 1 → 1 ≤ toT f s j ∧ toT f s j < 16 ^ 31 ∧ ∀ i, toT f s j * f i < 16 ^ 31 := fun j hj => toT_bd F (by omega)
  have H := ham F (m + 1)
  refine exs_cons ?_
  walk_at "g"
  refine ⟨_, _, mk_list (.name _ _) (xs := (List.range (m + 1)).map fun j => wrd (toT f s j)) (a := ta) hta, (fun p hp => by rw [List.mem_singleton.mp hp]; exact hta), fun nu => ?_⟩
  refine cmp_sub (cmp_n (m + 1) [] (fun i => (nu, .list ((List.range i).map fun j => .int (toT f s j : Nat))) :: Y) (fun j => wrd (toT f s j)) (fun i p hp => by rw [List.mem_singleton.mp hp]; exact .tail _ hta) ?_ ?_) sub_nil
  · intro i A hi hC
    obtain ⟨t1, t2, _⟩ := hT i hi
    walk_at "g"
    refine ⟨sub_nil, ?_⟩
    try walk_at "g"
    refine ev_calG W 89 (by kernel_rfl!) ?_
    walk_at "g"
    refine cal_of (number W (w := apN (toT f s i)) (by have := apN_len _ 31 t2; omega) (apN_head _) (fun v u _ => mul_smallr (by decide) (by decide)) ?_)
    rw [numOf_apN]
    refine hC _ ((List.range i).map fun j => .int (toT f s j : Nat)) _ ?_ (by rw [sizeLine_eq]; simp; omega)
    rw [snoc (fun j => AV.int (toT f s j : Nat)) i]
    exact .head
  walk_at "g"
  refine ev_calG W 113 (by kernel_rfl!) ?_
  walk_at "g"
  have hneg : ∀ g : Nat → AV, ((List.range (m + 1)).map g)[((-1 : Int) + ((List.range (m + 1)).map g).length).toNat]? = some (g m) := fun g => by
    rw [List.length_map, List.length_range, show ((-1 : Int) + ((m + 1 : Nat) : Int)).toNat = m by omega, List.getElem?_map, List.getElem?_range (Nat.lt_succ_self m)]
    rfl
  refine ⟨plain_list (.head _), get_list_neg (x := .int (toT f s m : Nat)) (.head _) (by decide) (by rw [List.length_map, List.length_range]; omega) (by decide) (hneg _) ?_⟩
  walk_at "g"
  refine cal_of (prods W (f := f) (s := s) (last := toT f s m) (T := told f s (m + 1)) (fun i => ⟨F.lo i, F.hi i⟩) H.b (by unfold told; simp; omega) (told_s F (Nat.succ_pos m)) (fun x hx => Nat.le_trans F.s1 (H.e x hx).1) H.d (fun x hx => (H.e x hx).2) H.c (.tail _ hfa) fun du => ?_)
  have edu : ((told f s (m + 1)).map fun n : Nat => AV.int n) = (List.range (m + 1)).map fun j => AV.int (toT f s j : Nat) := by unfold told; rw [List.map_map]; rfl
  rw [edu]
  walk_at "g"
  refine ⟨by rw [sizeLine_eq]; simp, fun wt => ?_⟩
  walk_at "g"
  refine ex_for ?_ (fun _ _ => rfl)
  walk_at "g"
  have hfa3 : ∀ a b d : Addr × AO, (fa, AO.list (([0, 1, 2] : List Nat).map fun i => AV.int (f i : Nat))) ∈ a :: b :: d :: Y := fun _ _ _ => .tail _ (.tail _ (.tail _ hfa))
  refine ⟨_, _, mk_list (.name _ _) (xs := ([0, 1, 2] : List Nat).map fun i => AV.int (f i : Nat)) (a := fa) (hfa3 _ _ _), (fun p hp => by rw [List.mem_singleton.mp hp]; exact hfa3 _ _ _), ?_⟩
  refine for_sub (for_ind2 (ι := List (Nat × Addr)) (L := fun _ => [("due", .ref du), ("waiting", .ref wt), ("numbers", .ref nu), ("factors", .ref fa), ("files", .ref fi), ("read", .ref f2), ("told", .ref ta), ("lines", .ref li), ("ends", .ref en)])
    (S := fun rows => rows.map (waitE f s (m + 1)) ++ (wt, .list (rows.reverse.map fun r => .ref r.2)) :: (du, .list ((List.range (m + 1)).map fun j => .int (toT f s j : Nat))) :: (nu, .list ((List.range (m + 1)).map fun j => .int (toT f s j : Nat))) :: Y) (g := fun i => .int (f i : Nat)) (I := fun ys rows => rows.reverse.map (·.1) ++ ys = [0, 1, 2] ∧ ∀ y ∈ ys, y < 3) ?_ ?_ ?_ [0, 1, 2] [] ⟨rfl, by decide⟩)
    (sub_cons rfl (sub_cons rfl (sub_cons rfl (sub_cons rfl (sub_cons rfl (sub_cons rfl (sub_cons rfl (sub_cons rfl (sub_cons rfl sub_nil))))))))) (.refl _) (fun p hp => by rw [List.mem_singleton.mp hp]; exact hfa3 _ _ _)
  · intro rows p hp
    rw [List.mem_singleton.mp hp]
    exact List.mem_append_right _ (hfa3 _ _ _)
  · rintro y ys rows P' A hA ⟨g1, g2⟩
    have hy := g2 y (.head _)
    have hz := congrArg List.length g1
    simp only [List.length_append, List.length_map, List.length_cons, List.length_reverse, List.length_nil] at hz
    walk_at "g"
    refine ⟨_, _, gm_append (xs := rows.reverse.map fun r => .ref r.2) (List.mem_append_right _ (.head _)), ?_⟩
    walk_at "g"
    have hdu : ∀ τ : Sto, (du, AO.list ((List.range (m + 1)).map fun j => AV.int (toT f s j : Nat))) ∈ τ ++ (rows.map (waitE f s (m + 1)) ++ (wt, .list (rows.reverse.map fun r => .ref r.2)) :: (du, .list ((List.range (m + 1)).map fun j => .int (toT f s j : Nat))) :: (nu, .list ((List.range (m + 1)).map fun j => .int (toT f s j : Nat))) :: Y) := fun _ => List.mem_append_right _ (List.mem_append_right _ (.tail _ (.head _)))
    refine ⟨_, _, mk_list (.name _ _) (xs := (List.range (m + 1)).map fun j => AV.int (toT f s j : Nat)) (a := du) (hdu []), (fun p hp => by rw [List.mem_singleton.mp hp]; exact hdu []), fun D => ?_⟩
    refine cmp_sub (cmp_indF (ι := List Nat) [("factor", .int (f y : Nat)), ("due", .ref du)] (fun acc => (D, .list (acc.map wrd)) :: (rows.map (waitE f s (m + 1)) ++ (wt, .list (rows.reverse.map fun r => .ref r.2)) :: (du, .list ((List.range (m + 1)).map fun j => .int (toT f s j : Nat))) :: (nu, .list ((List.range (m + 1)).map fun j => .int (toT f s j : Nat))) :: Y)) (fun j => .int (toT f s j : Nat))
      (fun js acc => acc ++ ((js.map fun j => toT f s j * f y).filter fun x => decide (lst f s (m + 1) < x)) = wtN f s (m + 1) y ∧ (∀ j ∈ js, j < m + 1) ∧ acc.length + js.length ≤ 20) ?_ ?_ ?_ (List.range (m + 1)) [] ⟨?_, fun j hj => List.mem_range.mp hj, ?_⟩) (sub_cons (by kernel_rfl!) (sub_cons (by kernel_rfl!) sub_nil))
    · intro acc p hp; rw [List.mem_singleton.mp hp]; exact hdu [_]
    · rintro j js acc A' B' hC hB ⟨a1, a2, a3⟩
      obtain ⟨t1, t2, t3⟩ := hT j (a2 j (.head _))
      have hf := F.lo y
      have hf' := F.hi y
      simp only [List.length_cons] at a3
      walk_at "g"
      refine ⟨sub_cons rfl (sub_cons rfl sub_nil), ?_⟩
      walk_at "g"
      refine op_mul (mul_smallr (by omega) (by omega)) ?_
      walk_at "g"
      refine ⟨plain_list (hdu [_]), get_list_neg (x := .int (toT f s m : Nat)) (hdu [_]) (by decide) (by rw [List.length_map, List.length_range]; omega) (by decide) (hneg _) ?_⟩
      rw [show ((toT f s j : Int) * (f y : Int)) = ((toT f s j * f y : Nat) : Int) from by simp]
      walk_at "g"
      have hd : decide (((toT f s m : Nat) : Int) < ((toT f s j * f y : Nat) : Int)) = decide (lst f s (m + 1) < toT f s j * f y) := decide_eq_decide.mpr Int.ofNat_lt
      rw [hd]
      refine ⟨fun hb => ?_, fun hb => ?_⟩
      · walk_at "g"
        refine ev_calG W 63 (by kernel_rfl!) ?_
        walk_at "g"
        refine op_mul (mul_smallr (by omega) (by omega)) ?_
        rw [show ((toT f s j : Int) * (f y : Int)) = ((toT f s j * f y : Nat) : Int) from by simp]
        walk_at "g"
        have hne : toT f s j * f y ≠ 0 := Nat.mul_ne_zero (by omega) (by omega)
        refine cal_of (int2ap W (by rw [Int.natAbs_natCast]; exact Nat.lt_of_lt_of_le (t3 y) (by decide)) ?_)
        rw [Int.natAbs_natCast]
        refine ⟨_, _, gm_decode, ?_⟩
        walk_at "g"
        refine ⟨kpr_builtin, cal_decode (ap_ne hne) (fun c hc => by have := ap_rng _ c hc; omega) (by have := ap_len _ 31 (t3 y); omega) ?_⟩
        refine hC _ (acc.map wrd) _ (acc ++ [toT f s j * f y]) ?_ (by rw [sizeLine_eq, List.length_map]; omega) ⟨?_, fun z hz => a2 z (.tail _ hz), by rw [List.length_append]; simp only [List.length_cons, List.length_nil]; omega⟩
        · rw [List.map_append]; exact .head
        · rw [← a1, List.map_cons, List.filter_cons_of_pos (p := fun x => decide (lst f s (m + 1) < x)) hb]; simp
      · refine hB acc ⟨?_, fun z hz => a2 z (.tail _ hz), by omega⟩
        rw [← a1, List.map_cons, List.filter_cons_of_neg (by rw [hb]; decide)]
    · rintro acc ⟨a1, _, _⟩
      have a1 : acc = wtN f s (m + 1) y := by simpa using a1
      subst a1
      walk_at "g"
      refine ⟨kpr_builtin, cal_append (xs := rows.reverse.map fun r => .ref r.2) (.tail (At.app .head)) (by rw [sizeLine_eq, List.length_map, List.length_reverse]; omega) ⟨rfl, ?_⟩⟩
      walk_at "g"
      refine hA ((y, D) :: rows) _ _ ⟨by rw [← g1]; simp, fun z hz => g2 z (.tail _ hz)⟩ (sub_cons rfl (sub_cons rfl (sub_cons rfl (sub_cons rfl (sub_cons rfl (sub_cons rfl (sub_cons rfl (sub_cons rfl (sub_cons rfl sub_nil))))))))) ?_
      simp only [List.map_cons, List.reverse_cons, List.map_append, List.map_nil]
      exact .refl _
    · unfold wtN told; rw [List.map_map]; rfl
    · simp; omega
  · rintro rows ⟨g1, _⟩
    rw [List.append_nil] at g1
    obtain ⟨e, he⟩ := ln_fun g1
    have hY : ∀ (z : Addr × AO) (τ : Sto), z ∈ Y → z ∈ τ ++ (rows.map (waitE f s (m + 1)) ++ (wt, .list (rows.reverse.map fun r => .ref r.2)) :: (du, .list ((List.range (m + 1)).map fun j => .int (toT f s j : Nat))) :: (nu, .list ((List.range (m + 1)).map fun j => .int (toT f s j : Nat))) :: Y) := fun z τ hz => List.mem_append_right _ (List.mem_append_right _ (.tail _ (.tail _ (.tail _ hz))))
    have hdu : ∀ τ : Sto, (du, AO.list ((List.range (m + 1)).map fun j => AV.int (toT f s j : Nat))) ∈ τ ++ (rows.map (waitE f s (m + 1)) ++ (wt, .list (rows.reverse.map fun r => .ref r.2)) :: (du, .list ((List.range (m + 1)).map fun j => .int (toT f s j : Nat))) :: (nu, .list ((List.range (m + 1)).map fun j => .int (toT f s j : Nat))) :: Y) := fun _ => List.mem_append_right _ (List.mem_append_right _ (.tail _ (.head _)))
    have hnu : ∀ τ : Sto, (nu, AO.list ((List.range (m + 1)).map fun j => AV.int (toT f s j : Nat))) ∈ τ ++ (rows.map (waitE f s (m + 1)) ++ (wt, .list (rows.reverse.map fun r => .ref r.2)) :: (du, .list ((List.range (m + 1)).map fun j => .int (toT f s j : Nat))) :: (nu, .list ((List.range (m + 1)).map fun j => .int (toT f s j : Nat))) :: Y) := fun _ => List.mem_append_right _ (List.mem_append_right _ (.tail _ (.tail _ (.head _))))
    have hwt : ∀ τ : Sto, (wt, AO.list ((List.range 3).map fun i => AV.ref (e i))) ∈ τ ++ (rows.map (waitE f s (m + 1)) ++ (wt, .list (rows.reverse.map fun r => .ref r.2)) :: (du, .list ((List.range (m + 1)).map fun j => .int (toT f s j : Nat))) :: (nu, .list ((List.range (m + 1)).map fun j => .int (toT f s j : Nat))) :: Y) := fun _ => by
      rw [he, List.map_map]
      exact List.mem_append_right _ (List.mem_append_right _ (.head _))
    have hwr : ∀ (τ : Sto) i, i < 3 → (e i, AO.list ((wtN f s (m + 1) i).map wrd)) ∈ τ ++ (rows.map (waitE f s (m + 1)) ++ (wt, .list (rows.reverse.map fun r => .ref r.2)) :: (du, .list ((List.range (m + 1)).map fun j => .int (toT f s j : Nat))) :: (nu, .list ((List.range (m + 1)).map fun j => .int (toT f s j : Nat))) :: Y) := fun τ i hi => by
      refine List.mem_append_right _ (List.mem_append_left _ (List.mem_map.mpr ⟨(i, e i), ?_, rfl⟩))
      rw [← List.mem_reverse, he]
      exact List.mem_map.mpr ⟨i, List.mem_range.mpr hi, rfl⟩
    have hln : ∀ i, i < 3 → (c i, AO.list ((wtN f s (m + 1) i).map wrd)) ∈ Y := fun i hi => by
      have := hlines i hi
      unfold wtN
      rw [← ham_line F (Nat.succ_pos m) hi]
      exact this
    have okw : ∀ n : Nat, OkD (.str (ofL (apN n))) 0 := fun n => okD_str (fun c hc => by have := apN_rng n c hc; omega) 0
    walk_at "g"
    refine ev_and ?_
    walk_at "g"
    refine op_eq_same (.list (hY _ [] hf2) (avds_map (fun i => .int _) _)) (.list (hY _ [] hfa) (avds_map (fun i => .int _) _)) (okD_list (okDs_map (fun i => okD_int _ 0) _)) (by decide) ?_
    walk_at "g"
    refine ⟨fun _ => ?_, fun h => nomatch h⟩
    refine ev_and ?_
    walk_at "g"
    refine op_eq_same (.list (hnu []) (avds_map (fun i => .int _) _)) (.list (hdu []) (avds_map (fun i => .int _) _)) (okD_list (okDs_map (fun i => okD_int _ 0) _)) (by decide) ?_
    walk_at "g"
    refine ⟨fun _ => ?_, fun h => nomatch h⟩
    refine ev_and ?_
    walk_at "g"
    refine ⟨_, _, mk_list (.name _ _) (xs := (List.range (m + 1)).map fun j => AV.int (toT f s j : Nat)) (a := du) (hdu []), (fun p hp => by rw [List.mem_singleton.mp hp]; exact hdu []), fun D => ?_⟩
    refine cmp_sub (cmp_n (m + 1) [] (fun i => (D, .list ((List.range i).map fun j => wrd (toT f s j))) :: (rows.map (waitE f s (m + 1)) ++ (wt, .list (rows.reverse.map fun r => .ref r.2)) :: (du, .list ((List.range (m + 1)).map fun j => .int (toT f s j : Nat))) :: (nu, .list ((List.range (m + 1)).map fun j => .int (toT f s j : Nat))) :: Y)) (fun j => .int (toT f s j : Nat)) (fun i p hp => by rw [List.mem_singleton.mp hp]; exact hdu [_]) ?_ ?_) sub_nil
    · intro i A hi hC
      obtain ⟨t1, t2, _⟩ := hT i hi
      walk_at "g"
      refine ⟨sub_nil, ?_⟩
      walk_at "g"
      refine ev_calG W 63 (by kernel_rfl!) ?_
      walk_at "g"
      refine cal_of (int2ap W (by rw [Int.natAbs_natCast]; exact Nat.lt_of_lt_of_le t2 (by decide)) ?_)
      rw [Int.natAbs_natCast]
      refine ⟨_, _, gm_decode, ?_⟩
      walk_at "g"
      refine ⟨kpr_builtin, cal_decode (ap_ne (by omega)) (fun c hc => by have := ap_rng _ c hc; omega) (by have := ap_len _ 31 t2; omega) ?_⟩
      refine hC _ ((List.range i).map fun j => wrd (toT f s j)) _ ?_ (by rw [sizeLine_eq]; simp; omega)
      rw [snoc (fun j => wrd (toT f s j)) i]
      exact .head
    refine op_eq_same (.list (hY _ [_] hta) (avds_map (fun i => .str _) _)) (.list (.head _) (avds_map (fun i => .str _) _)) (okD_list (okDs_map (fun i => okw _) _)) (by decide) ?_
    walk_at "g"
    refine ⟨fun _ => ?_, fun h => nomatch h⟩
    refine ev_and ?_
    walk_at "g"
    refine op_eq_same (d := .list ((List.range 3).map fun i => .list ((wtN f s (m + 1) i).map fun n => .str (ofL (apN n))))) (.list (hY _ [_] hli) (avds_map' fun i hi => .list (hY _ [_] (hln i (List.mem_range.mp hi))) (avds_map (fun n => .str _) _))) (.list (hwt [_]) (avds_map' fun i hi => .list (hwr [_] i (List.mem_range.mp hi)) (avds_map (fun n => .str _) _))) (okD_list (okDs_map (fun i => okD_list (okDs_map (fun n => okw n) _)) _)) (by decide) ?_
    walk_at "g"
    refine ⟨fun _ => ?_, fun h => nomatch h⟩
    refine ev_and1 ?_
    walk_at "g"
    have hfi' := hY _ [(D, AO.list ((List.range (m + 1)).map fun j => wrd (toT f s j)))] hfi
    refine ⟨_, _, mk_list (.tup _ _ _) (xs := (List.range 3).map fun i => .tup [.str (ofL (tx i)), .tup [.int ((ev i).1 : Nat), .int ((ev i).2 : Nat)]]) (a := fi) hfi', (fun p hp => by rw [List.mem_singleton.mp hp]; exact hfi'), fun E => ?_⟩
    refine cmp_sub (cmp_n 3 [] (fun i => (E, .list ((List.range i).map fun i => .tup [.int ((ev i).1 : Nat), .int ((ev i).2 : Nat)])) :: (D, AO.list ((List.range (m + 1)).map fun j => wrd (toT f s j))) :: (rows.map (waitE f s (m + 1)) ++ (wt, .list (rows.reverse.map fun r => .ref r.2)) :: (du, .list ((List.range (m + 1)).map fun j => .int (toT f s j : Nat))) :: (nu, .list ((List.range (m + 1)).map fun j => .int (toT f s j : Nat))) :: Y)) (fun i => .tup [.str (ofL (tx i)), .tup [.int ((ev i).1 : Nat), .int ((ev i).2 : Nat)]]) (fun i p hp => by rw [List.mem_singleton.mp hp]; exact .tail _ hfi') ?_ ?_) sub_nil
    · intro i A hi hC
      walk_at "g"
      refine ⟨sub_nil, ?_⟩
      try walk_at "g"
      refine hC _ ((List.range i).map fun i => .tup [.int ((ev i).1 : Nat), .int ((ev i).2 : Nat)]) _ ?_ (by rw [sizeLine_eq]; simp; omega)
      rw [snoc (fun i => AV.tup [.int ((ev i).1 : Nat), .int ((ev i).2 : Nat)]) i]
      exact .head
    refine op_eq_same (d := .list ((List.range 3).map fun i => .tuple [.int ((ev i).1 : Nat), .int ((ev i).2 : Nat)])) (.list (hY _ [_, _] hen) (avds_map (fun i => .tup (.cons (.int _) (.cons (.int _) .nil))) _)) (.list (.head _) (avds_map (fun i => .tup (.cons (.int _) (.cons (.int _) .nil))) _)) (okD_list (okDs_map (fun i => okD_tup (okDs (n := 0) fun d hd => ?_)) _)) (by decide) ?_
    · simp only [List.mem_cons, List.not_mem_nil, or_false] at hd
      rcases hd with rfl | rfl <;> exact okD_int _ 0
    walk_at "g"
    refine ⟨Y, .cons _ (.cons _ ((List.Sublist.cons _ (.cons _ (.cons _ (.refl _)))).trans (List.sublist_append_right _ _))), hP⟩
end
theorem law3 (W : Wd Γ (KK pp) mg mb) (M : MkOk Γ mg mb 76 72) {sa : Addr} {xs : List Int} (hl : xs.length ≤ 63) (hm : Fz Γ sa xs) {m : Nat} (hm20 : m + 1 = 20) :
    CalC Γ (k + 6) (.ref 118) [.ref sa] ((72, .obj (tabObj #[])) :: σ) fun v σ' => v = .bool true ∧ ∃ ps, (72, AO.obj (tabObj ps)) ∈ σ' := by
  have F := fac_ok xs
  refine fn_cellsB W.ok (ok_law W.X) rfl (by kernel_rfl!) ?_
  refine exs_cons ?_
  walk_at "g"
  refine ev_calG W 94 (by kernel_rfl!) ?_
  walk_at "g"
  refine cal_of (drawn W hl hm fun fa wa ws hws => ?_)
  obtain ⟨b, rfl⟩ := ws_fun hws
  have efa : ((scr3 xs).map fun x => AV.int (facN x : Nat)) = (List.range 3).map fun i => AV.int (fA xs i : Nat) := rfl
  rw [efa, List.map_map]
  walk_at "g"
  refine cal_range1 fun rg og hog => ?_
  refine ⟨_, _, mk_range (.name _ _) (.head _) hog (by decide) (by decide) (by decide) (by decide), (fun p hp => by cases hp), fun fi => ?_⟩
  rw [show intsFrom 0 ((3 : Int) - 0).toNat = (List.range 3).map fun n : Nat => AV.int n from rfl]
  have hwaZ : ∀ (τ ρ : Sto), (wa, AO.list ((List.range 3).map fun i => AV.ref (b i))) ∈ τ ++ (((List.range 3).map fun i => (scrA xs i, b i)).reverse.map wayE ++ (wa, .list ((List.range 3).map fun i => AV.ref (b i))) :: (fa, .list ((List.range 3).map fun i => AV.int (fA xs i : Nat))) :: ρ) := fun _ _ => List.mem_append_right _ (List.mem_append_right _ (.head _))
  have hfaZ : ∀ (τ ρ : Sto), (fa, AO.list ((List.range 3).map fun i => AV.int (fA xs i : Nat))) ∈ τ ++ (((List.range 3).map fun i => (scrA xs i, b i)).reverse.map wayE ++ (wa, .list ((List.range 3).map fun i => AV.ref (b i))) :: (fa, .list ((List.range 3).map fun i => AV.int (fA xs i : Nat))) :: ρ) := fun _ _ => List.mem_append_right _ (List.mem_append_right _ (.tail _ (.head _)))
  refine cmp_drop (σ' := (fi, .list []) :: (((List.range 3).map fun i => (scrA xs i, b i)).reverse.map wayE ++ (wa, .list ((List.range 3).map fun i => AV.ref (b i))) :: (fa, .list ((List.range 3).map fun i => AV.int (fA xs i : Nat))) :: (72, .obj (tabObj #[])) :: σ)) ?_ (.cons₂ _ (.cons _ (.refl _))) (fun p hp => by cases hp)
  refine cmp_sub (cmp_n 3 [("factors", .ref fa), ("start", .int (sA xs : Nat)), ("ways", .ref wa)] (fun i => (fi, .list ((List.range i).map (fileV xs))) :: (((List.range 3).map fun i => (scrA xs i, b i)).reverse.map wayE ++ (wa, .list ((List.range 3).map fun i => AV.ref (b i))) :: (fa, .list ((List.range 3).map fun i => AV.int (fA xs i : Nat))) :: (72, .obj (tabObj #[])) :: σ)) (fun n => .int (n : Nat)) (fun i p hp => by cases hp) ?_ ?_) (sub_cons (by kernel_rfl!) (sub_cons (by kernel_rfl!) (sub_cons (by kernel_rfl!) sub_nil)))
  · intro i A hi hC
    walk_at "g"
    refine ⟨sub_cons rfl (sub_cons rfl (sub_cons rfl sub_nil)), ?_⟩
    try walk_at "g"
    refine ev_calG W 101 (by kernel_rfl!) ?_
    walk_at "g"
    refine ⟨plain_list (hfaZ [_] _), get_list (hfaZ [_] _) (by omega) (by omega) (at3 (fun i => AV.int (fA xs i : Nat)) hi) ?_⟩
    walk_at "g"
    refine ⟨plain_list (hwaZ [_] _), get_list (hwaZ [_] _) (by omega) (by omega) (at3 (fun i => AV.ref (b i)) hi) ?_⟩
    walk_at "g"
    have h1 := F.hi i
    have h1' := F.lo i
    have h2 := F.s2
    have h2' := F.s1
    refine cal_of (file W (f := fA xs i) (st := sA xs) (w0 := wA xs i 0) (w1 := wA xs i 1) (w2 := wA xs i 2) (w3 := wA xs i 3) (Nat.lt_of_le_of_lt h1 (by decide)) (by omega) (Nat.lt_of_le_of_lt h2 (by decide)) (by omega) (way_lt xs i 0 (by decide)) (way_lt xs i 1 (by decide)) (way_lt xs i 2 (by decide)) (way_lt xs i 3 (by decide)) (.tail _ (List.mem_append_left _ (List.mem_map.mpr ⟨(scrA xs i, b i), List.mem_reverse.mpr (List.mem_map.mpr ⟨i, List.mem_range.mpr hi, rfl⟩), rfl⟩))) ?_)
    refine hC (fileV xs i) ((List.range i).map (fileV xs)) _ ?_ (by rw [sizeLine_eq]; simp; omega)
    rw [snoc (fileV xs) i]
    exact .head
  walk_at "g"
  refine ev_calG W 106 (by kernel_rfl!) ?_
  walk_at "g"
  refine ⟨_, _, mk_list (.tup _ _ _) (xs := (List.range 3).map (fileV xs)) (a := fi) (.head _), (fun p hp => by rw [List.mem_singleton.mp hp]; exact .head _), fun xa => ?_⟩
  refine cmp_sub (cmp_n 3 [] (fun i => (xa, .list ((List.range i).map fun i => .str (ofL (tA xs i)))) :: (fi, .list ((List.range 3).map (fileV xs))) :: (((List.range 3).map fun i => (scrA xs i, b i)).reverse.map wayE ++ (wa, .list ((List.range 3).map fun i => AV.ref (b i))) :: (fa, .list ((List.range 3).map fun i => AV.int (fA xs i : Nat))) :: (72, .obj (tabObj #[])) :: σ)) (fileV xs) (fun i p hp => by rw [List.mem_singleton.mp hp]; exact .tail _ (.head _)) ?_ ?_) sub_nil
  · intro i A hi hC
    unfold fileV
    walk_at "g"
    refine ⟨sub_nil, ?_⟩
    try walk_at "g"
    refine hC _ ((List.range i).map fun i => .str (ofL (tA xs i))) _ ?_ (by rw [sizeLine_eq]; simp; omega)
    rw [snoc (fun i => AV.str (ofL (tA xs i))) i]
    exact .head
  walk_at "g"
  rw [show (AV.int 20) = AV.int ((m + 1 : Nat) : Int) by rw [hm20]; rfl]
  refine cal_of (calC_perm (run W M (f := fA xs) (s := sA xs) (ln := fun i => lnA xs i (uB xs i)) (u := uB xs) (t := tA xs) (a1 := fun i => (lnA xs i (uA xs i), uA xs i, [])) (N := m + 1) F (fun i _ => tA_len xs i) (fun i _ => (gets3 xs i).1) (fun i _ => (gets3 xs i).2) (.head _) (by omega) fun f2 ta li en ls ps hls => ?_) perm_stab)
  obtain ⟨c, rfl⟩ := ln_fun hls
  rw [List.map_map]
  have een : ((List.range 3).map fun i => AV.tup [.int (lnA xs i (uB xs i) : Nat), .int ((tA xs i).length - (uB xs i).length : Nat)]) = (List.range 3).map (endV xs) := List.map_congr_left fun i _ => by
    obtain ⟨e1, e2⟩ := ends3 xs i
    unfold endV
    rw [e1, e2]
  rw [een]
  refine asg_tuple ?_ (by kernel_rfl!) (fun _ => by kernel_rfl!)
  iterate 4 (refine asgL_cons (asg_name (.inl (by kernel_rfl!)) ?_) (fun _ => by kernel_rfl!))
  refine asgL_nil ?_
  have hin : ∀ z : Addr × AO, z ∈ (li, AO.list ((List.range 3).map ((fun r => AV.ref r.2) ∘ fun i => (i, c i)))) :: (ta, .list ((List.range (m + 1)).map fun j => wrd (toT (fA xs) (sA xs) j))) :: (f2, .list ((List.range 3).map fun i => .int (fA xs i : Nat))) :: (72, .obj (tabObj ps)) :: (xa, .list ((List.range 3).map fun i => .str (ofL (tA xs i)))) :: (fi, .list ((List.range 3).map (fileV xs))) :: (((List.range 3).map fun i => (scrA xs i, b i)).reverse.map wayE ++ (wa, .list ((List.range 3).map fun i => AV.ref (b i))) :: (fa, .list ((List.range 3).map fun i => AV.int (fA xs i : Nat))) :: σ) →
      z ∈ (en, AO.list ((List.range 3).map (endV xs))) :: (((List.range 3).map fun i => (i, c i)).reverse.map (lineE (fA xs) (sA xs) (m + 1)) ++ (li, AO.list ((List.range 3).map ((fun r => AV.ref r.2) ∘ fun i => (i, c i)))) :: (ta, .list ((List.range (m + 1)).map fun j => wrd (toT (fA xs) (sA xs) j))) :: (f2, .list ((List.range 3).map fun i => .int (fA xs i : Nat))) :: (72, .obj (tabObj ps)) :: (xa, .list ((List.range 3).map fun i => .str (ofL (tA xs i)))) :: (fi, .list ((List.range 3).map (fileV xs))) :: (((List.range 3).map fun i => (scrA xs i, b i)).reverse.map wayE ++ (wa, .list ((List.range 3).map fun i => AV.ref (b i))) :: (fa, .list ((List.range 3).map fun i => AV.int (fA xs i : Nat))) :: σ)) := fun z hz => .tail _ (List.mem_append_right _ hz)
  have hline : ∀ i, i < 3 → lineE (fA xs) (sA xs) (m + 1) (i, c i) ∈ ((List.range 3).map fun i => (i, c i)).reverse.map (lineE (fA xs) (sA xs) (m + 1)) := fun i hi => List.mem_map_of_mem (List.mem_reverse.mpr (List.mem_map.mpr ⟨i, List.mem_range.mpr hi, rfl⟩))
  have main := law3b (k := k) (f := fA xs) (s := sA xs) (m := m) (fa := fa) (ta := ta) (f2 := f2) (li := li) (en := en) (fi := fi) (c := c) (tx := tA xs) (ev := fun i => (line3 (fA xs i) (sA xs) (wA xs i 0) (wA xs i 1) (wA xs i 2) (wA xs i 3), spot3 (fA xs i) (sA xs) (wA xs i 0) (wA xs i 1) (wA xs i 2))) (P := fun v σ' => v = .bool true ∧ ∃ ps, (72, AO.obj (tabObj ps)) ∈ σ') W F (by omega) (hin _ (.tail _ (.head _))) (hin _ (.tail _ (.tail _ (.tail _ (.tail _ (.tail _ (.tail _ (hfaZ [] _)))))))) (hin _ (.tail _ (.tail _ (.head _)))) (hin _ (.head _))
    (fun i hi => .tail _ (List.mem_append_left _ (hline i hi))) (.head _) (hin _ (.tail _ (.tail _ (.tail _ (.tail _ (.tail _ (.head _))))))) ⟨rfl, ps, hin _ (.tail _ (.tail _ (.tail _ (.head _))))⟩
  exact exs_sub (exs_eq (by kernel_rfl!) main) (sub_cons rfl (sub_cons rfl (sub_cons rfl (sub_cons rfl (sub_cons rfl (sub_cons rfl (sub_cons rfl sub_nil))))))) (.refl _)
theorem main (W : Wd Γ (KK pp) mg mb) (M : MkOk Γ mg mb 76 72) {sa : Addr} {xs : List Int} (hl : xs.length ≤ 63) (hm : Fz Γ sa xs) :
    CalC Γ (k + 6) (.ref 118) [.ref sa] ((72, .obj (tabObj #[])) :: σ) fun v σ' => v = .bool true ∧ ∃ ps, (72, AO.obj (tabObj ps)) ∈ σ' := law3 W M hl hm (m := 19) rfl
theorem gh_tab {h : Heap} (hT : h.get? 72 = some (tabObj #[])) {K : Frag} (X : K.In h) (e : codeHdIn K 76 72 = true) : TabsAt [(76, 72)] h := fun q hq => by
  rw [List.mem_singleton.mp hq]
  exact ⟨codeHd_of_K X e, hT⟩
theorem bridge {w : World} {s₁ : Shared} {mg mb : Str → Option Value} {p : Program} {loose : List Str} {mean : ExcName → Option Value} (KX : (KK w.params).In s₁.heap) (hT : s₁.heap.get? 72 = some (tabObj #[])) (T : Top p loose mean mg mb s₁.heap) (hg : s₁.gens = #[])
    {fa sa : Addr} {vs : List Value} {xs : List Int} {prog : Program} (hmg : mg "law" = some (.ref fa)) (hL : s₁.heap.IsList sa vs.toArray) (hI : IntsAre vs xs)
    (main : ∀ Γ : Gd, Γ.prog = prog → Γ.w = w → Wd Γ (KK w.params) mg mb → MkOk Γ mg mb 76 72 → Fz Γ sa xs → CalC Γ 6 (.ref 118) [.ref sa] [(72, .obj (tabObj #[]))] fun v σ' => v = .bool true ∧ ∃ ps, (72, AO.obj (tabObj ps)) ∈ σ')
    {c : ClaimW} {cl : Str → Option Addr} {args : List WData} (hr : ∀ a x, c.raises a x = false) (hp : c.post args (.bool true) args = true) :
    codeAny (model prog w) callerA (.call (.ref fa) ⟨[.ref sa], []⟩) (GoodWG c cl mean args s₁) s₁ := by
  have hTA := gh_tab hT KX (by kernel_rfl!)
  refine kn_post hTA hr ?_
  have hX := ghost_K hTA KX (by kernel_rfl!)
  have hfa : fa = 118 := by
    have h := mg_of KX T.g (n := "law") (v := .ref 118) (by kernel_rfl!)
    rw [hmg] at h
    exact Value.ref.inj (Option.some.inj h)
  subst hfa
  let hB := ghostOf s₁.heap [(76, 72)]
  let Γ : Gd := ⟨prog, w, hB⟩
  have T' := ghost_top hTA T
  have W : Wd Γ (KK w.params) mg mb := ⟨hX, ⟨T'.g, T'.b, T'.nolimit⟩, T'.builtins⟩
  have M : MkOk Γ mg mb 76 72 := ⟨⟨T'.g, T'.b, T'.nolimit⟩, (ghost_code hTA).1, T'.bmain⟩
  let κ : Kap := ⟨hB.get?, fun _ => False, fun _ h => h.elim⟩
  have le : Γ.le κ := fun _ _ e => e
  have R : RepS κ [(72, .obj (tabObj #[]))] s₁.heap := {
    prot := fun b o e => of_hideAll _ e
    objs := fun q hq => by
      rw [List.mem_singleton.mp hq]
      exact ⟨_, hT, rfl, fun _ _ e => by have e2 := congrArg Obj.data e; cases e2⟩
    nodup := by simp
    new := fun q hq => by
      rw [List.mem_singleton.mp hq]
      exact hideAll_none _ (.head _) }
  have hA : AOk 6 callerA := ⟨rfl, by decide +kernel, by decide +kernel⟩
  refine codeAny_mono (main Γ rfl rfl W M ⟨vs, ghost_list hTA hL, hI⟩ callerA κ s₁ [.ref sa] hA le R (.cons (.ref sa) .nil)) fun r s' z => ?_
  rcases r with e | (V | _ | _ | _) <;> first | exact z.elim | skip
  obtain ⟨v, σ', h', tk, e, R', rv, rfl, ps, hm⟩ := z
  subst e
  cases rv
  refine ⟨⟨.inl ⟨.bool true, .bool true, [], rfl, fun x => hr _ x, .bool true, hp, fun _ => ⟨.nil, fun _ h => nomatch h⟩⟩, fun b o e => R'.prot b o e, rfl, hg⟩, ⟨ps, ?_⟩, trivial⟩
  exact R'.ob hm
end Mine
end
set_option maxHeartbeats 8000000 in
theorem PySem.Challenge.cw_pg0050_03_holds : PySem.Challenge.rw_pg0050_03.Holds := by
  exact Mine.hd (by
    k_fill
    intro w s₀ s₁ mg mb G Y fa o pm cd doc dV kV ho hd hcd hD hmg hg args vals as hpre hlay hrd hwl hlo
    have KX := km_in_of Y
    have hT8 := km_tabs_of Y
    have X := (Ground.X G).1
    have V := (Ground.X G).2
    refine Ground.open G ?_
    intro T B D TE TW
    try (refine guard_noD D (by decide +kernel) ?_; clear D)
    wrow_args hpre hlay hrd hwl hlo
    all_goals (
      first | refine callC_kw (enter_call ?_) | refine enter_call ?_
      w_top on)
    rename_i hcond _
    exact Mine.bridge KX (hT8 72 (by simp)) T hg hmg (by assumption) (by assumption) (fun Γ e1 e2 W M F => Mine.main W M (by omega) F) (fun _ _ => rfl) (by kernel_rfl!))

import PyProof.Rows.All
import Wide.All
import OpenK.AllK
import Wide.FinOn
import Lean
import PySem.Challenge.RW_pg0050_01
open PySem PySem.W PyProof.Rows PySem.Calls
set_option Elab.async false
set_option linter.all false
set_option maxRecDepth 100000
set_option maxHeartbeats 8000000
set_option genSizeOf false
set_option genSizeOfSpec false
set_option genInjectivity false
namespace Mine

/-- abstract values: no tokens, tuples deep, mutable things by address -/
inductive AV where
  | none
  | bool (b : Bool)
  | int (i : Int)
  | str (x : Str)
  | bytes (b : Array UInt8)
  | tup (xs : List AV)
  | ref (a : Addr)
  | raw (v : Value)

/-- abstract objects -/
inductive AO where
  | list (xs : List AV)
  | ns (es : List (Str × AV))
  | inst (C d : Addr)
  | cell (v : AV)
  | obj (o : Obj)

/-- a tuple, just as it is made -/
noncomputable def IsTp (h : Heap) (a : Addr) (vs : Array Value) : Prop := ∃ n, h.get? a = some { cls := .type "tuple", data := .seq vs n }
theorem IsTp.isTuple {h : Heap} {a : Addr} {vs : Array Value} (x : IsTp h a vs) : h.IsTuple a vs := let ⟨n, e⟩ := x; ⟨_, e, rfl, n, rfl⟩
/-- places that no tuple of the program has (zip's own pair) -/
abbrev Avd := Addr → Prop
mutual
inductive VRel (av : Avd) (h : Heap) : AV → Value → Prop
  | none : VRel av h .none .none
  | bool (b : Bool) : VRel av h (.bool b) (.bool b)
  | int (i : Int) (t : Tok) : VRel av h (.int i) (.int i t)
  | str (x : Str) (t : Tok) : VRel av h (.str x) (.str x t)
  | bytes (b : Array UInt8) (t : Tok) : VRel av h (.bytes b) (.bytes b t)
  | tup {a : Addr} {xs : List AV} {vs : List Value} : ¬ av a → IsTp h a vs.toArray → VRels av h xs vs → VRel av h (.tup xs) (.ref a)
  | ref (a : Addr) : VRel av h (.ref a) (.ref a)
  | raw (v : Value) : VRel av h (.raw v) v
inductive VRels (av : Avd) (h : Heap) : List AV → List Value → Prop
  | nil : VRels av h [] []
  | cons {x : AV} {v : Value} {xs : List AV} {vs : List Value} : VRel av h x v → VRels av h xs vs → VRels av h (x :: xs) (v :: vs)
end

/-- tuples stay -/
noncomputable def TK (av : Avd) (h h' : Heap) : Prop := ∀ a vs, ¬ av a → IsTp h a vs → IsTp h' a vs
theorem TK.refl {av : Avd} (h : Heap) : TK av h h := fun _ _ _ x => x
theorem TK.trans {av : Avd} {h₁ h₂ h₃ : Heap} (x : TK av h₁ h₂) (y : TK av h₂ h₃) : TK av h₁ h₃ := fun a vs n t => y a vs n (x a vs n t)
theorem TK.of_keeps {av : Avd} {h h' : Heap} (k : ∀ b o, h.get? b = some o → h'.get? b = some o) : TK av h h' := fun a _ _ ⟨n, ho⟩ => ⟨n, k a _ ho⟩
theorem TK.of_ext {av : Avd} {h h' : Heap} {a : Addr} {o : Obj} (ho : h.get? a = some o) (hn : ∀ vs n, o ≠ { cls := .type "tuple", data := .seq vs n }) (k : Heap.ExtBut a h h') : TK av h h' := fun b vs _ ⟨n, ho'⟩ => by
  by_cases e : b = a
  · subst e; rw [ho] at ho'; cases ho'; exact absurd rfl (hn _ _)
  · exact ⟨n, k b _ e ho'⟩
theorem TK.of_ext_seq {av : Avd} {h h' : Heap} {a : Addr} {o : Obj} (ho : h.get? a = some o) (hn : ∀ xs n, o.data ≠ .seq xs n) (k : Heap.ExtBut a h h') : TK av h h' := fun b vs _ ⟨n, ho'⟩ => by
  by_cases e : b = a
  · subst e; rw [ho] at ho'; cases ho'; exact absurd rfl (hn _ _)
  · exact ⟨n, k b _ e ho'⟩

mutual
theorem VRel.mono {av : Avd} {h h' : Heap} (k : TK av h h') : ∀ {x : AV} {v : Value}, VRel av h x v → VRel av h' x v
  | _, _, .none => .none
  | _, _, .bool b => .bool b
  | _, _, .int i t => .int i t
  | _, _, .str x t => .str x t
  | _, _, .bytes b t => .bytes b t
  | _, _, .tup n t r => .tup n (k _ _ n t) (VRels.mono k r)
  | _, _, .ref a => .ref a
  | _, _, .raw v => .raw v
theorem VRels.mono {av : Avd} {h h' : Heap} (k : TK av h h') : ∀ {x : List AV} {v : List Value}, VRels av h x v → VRels av h' x v
  | _, _, .nil => .nil
  | _, _, .cons a b => .cons (VRel.mono k a) (VRels.mono k b)
end

theorem VRels.length {av : Avd} {h : Heap} : ∀ {xs : List AV} {vs : List Value}, VRels av h xs vs → vs.length = xs.length
  | _, _, .nil => rfl
  | _, _, .cons _ r => by simp [VRels.length r]
theorem VRels.append {av : Avd} {h : Heap} : ∀ {xs ys : List AV} {vs ws : List Value}, VRels av h xs vs → VRels av h ys ws → VRels av h (xs ++ ys) (vs ++ ws)
  | _, _, _, _, .nil, y => y
  | _, _, _, _, .cons a r, y => .cons a (VRels.append r y)
theorem VRels.get {av : Avd} {h : Heap} : ∀ {xs : List AV} {vs : List Value}, VRels av h xs vs → ∀ {i : Nat} {x : AV}, xs[i]? = some x → ∃ v, vs[i]? = some v ∧ VRel av h x v
  | _, _, .nil, i, x, e => by simp at e
  | _, _, .cons a r, 0, x, e => by simp at e; subst e; exact ⟨_, rfl, a⟩
  | _, _, .cons a r, i + 1, x, e => by simp only [List.getElem?_cons_succ] at e ⊢; exact VRels.get r e
theorem VRels.take {av : Avd} {h : Heap} : ∀ {xs : List AV} {vs : List Value}, VRels av h xs vs → ∀ (n : Nat), VRels av h (xs.take n) (vs.take n)
  | _, _, .nil, n => by simp; exact .nil
  | _, _, .cons a r, 0 => by simp; exact .nil
  | _, _, .cons a r, n + 1 => by simp only [List.take_succ_cons]; exact .cons a (VRels.take r n)
theorem VRels.drop {av : Avd} {h : Heap} : ∀ {xs : List AV} {vs : List Value}, VRels av h xs vs → ∀ (n : Nat), VRels av h (xs.drop n) (vs.drop n)
  | _, _, .nil, n => by simp; exact .nil
  | _, _, .cons a r, 0 => .cons a r
  | _, _, .cons a r, n + 1 => by simp only [List.drop_succ_cons]; exact VRels.drop r n

/-- the entries of a dict whose keys are texts -/
inductive EnRel (av : Avd) (h : Heap) : List (Str × AV) → List DictEntry → Prop
  | nil : EnRel av h [] []
  | cons {x : Str} {v : AV} {e : DictEntry} {es : List (Str × AV)} {l : List DictEntry} : (∃ t, e.key = .str x t) → VRel av h v e.val → EnRel av h es l → EnRel av h ((x, v) :: es) (e :: l)
theorem EnRel.mono {av : Avd} {h h' : Heap} (k : TK av h h') {es : List (Str × AV)} {l : List DictEntry} (r : EnRel av h es l) : EnRel av h' es l := by
  induction r with
  | nil => exact .nil
  | cons a b _ ih => exact .cons a (b.mono k) ih
/-- an abstract object and an object of the heap -/
noncomputable def ORel (av : Avd) (h : Heap) : AO → Obj → Prop
  | .list xs, o => ∃ vs n, o = { cls := .type "list", data := .seq vs.toArray n } ∧ VRels av h xs vs
  | .ns es, o => ∃ l n, o = { cls := .type "dict", data := .dict l.toArray n } ∧ EnRel av h es l
  | .inst C d, o => o = { cls := .ref C, dict := some d }
  | .cell v, o => ∃ V, o.data = .cell (some V) ∧ VRel av h v V
  | .obj ob, o => o = ob ∧ ∀ vs n, ob ≠ { cls := .type "tuple", data := .seq vs n }

theorem ORel.mono {av : Avd} {h h' : Heap} (k : TK av h h') : ∀ {o : AO} {ob : Obj}, ORel av h o ob → ORel av h' o ob
  | .list _, _, ⟨vs, n, e, r⟩ => ⟨vs, n, e, r.mono k⟩
  | .ns _, _, ⟨l, n, d, e⟩ => ⟨l, n, d, e.mono k⟩
  | .inst _ _, _, e => e
  | .cell _, _, ⟨V, e, r⟩ => ⟨V, e, r.mono k⟩
  | .obj _, _, e => e
theorem ORel.not_tuple {av : Avd} {h : Heap} : ∀ {o : AO} {ob : Obj}, ORel av h o ob → ∀ vs n, ob ≠ { cls := .type "tuple", data := .seq vs n }
  | .list _, _, ⟨vs, n, e, r⟩, _, _, e' => by rw [e] at e'; exact absurd (congrArg Obj.cls e') (by show Value.type "list" ≠ Value.type "tuple"; decide)
  | .ns _, _, ⟨en, n, d, _⟩, _, _, e' => by rw [d] at e'; exact absurd (congrArg Obj.cls e') (by show Value.type "dict" ≠ Value.type "tuple"; decide)
  | .inst _ _, _, e, _, _, e' => by cases e; cases e'
  | .cell _, _, ⟨V, e, r⟩, _, _, e' => by subst e'; cases e
  | .obj _, _, ⟨e, e2⟩, _, _, e' => by subst e; exact e2 _ _ e'

abbrev Sto := List (Addr × AO)
/-- what is protected; of it what no value of the program is -/
structure Kap where
  p : Addr → Option Obj
  av : Avd
  ok : ∀ a, av a → p a ≠ none

/-- the store is in the heap, apart from what is protected -/
structure RepS (κ : Kap) (σ : Sto) (h : Heap) : Prop where
  prot : ∀ b o, κ.p b = some o → h.get? b = some o
  objs : ∀ p ∈ σ, ∃ ob, h.get? p.1 = some ob ∧ ORel κ.av h p.2 ob
  nodup : (σ.map (·.1)).Nodup
  new : ∀ p ∈ σ, κ.p p.1 = none

/-- an entry replaced in its place -/
inductive At : Sto → Addr → AO → AO → Sto → Prop
  | head {a : Addr} {o o' : AO} {r : Sto} : At ((a, o) :: r) a o o' ((a, o') :: r)
  | tail {a : Addr} {o o' : AO} {p : Addr × AO} {r r' : Sto} : At r a o o' r' → At (p :: r) a o o' (p :: r')

theorem At.mem {σ σ' : Sto} {a : Addr} {o o' : AO} (x : At σ a o o' σ') : (a, o) ∈ σ := by
  induction x with
  | head => exact .head _
  | tail _ ih => exact .tail _ ih
theorem At.keys {σ σ' : Sto} {a : Addr} {o o' : AO} (x : At σ a o o' σ') : σ'.map (·.1) = σ.map (·.1) := by
  induction x with
  | head => rfl
  | tail _ ih => simp [ih]
theorem At.mem_cases {σ σ' : Sto} {a : Addr} {o o' : AO} (x : At σ a o o' σ') : ∀ p ∈ σ', p = (a, o') ∨ p ∈ σ := by
  induction x with
  | head => intro p hp; rcases List.mem_cons.mp hp with e | e; exact .inl e; exact .inr (.tail _ e)
  | tail _ ih => intro p hp; rcases List.mem_cons.mp hp with e | e; exact .inr (e ▸ .head _); exact (ih p e).imp id (.tail _)
theorem At.mem_ne {σ σ' : Sto} {a : Addr} {o o' : AO} (x : At σ a o o' σ') (hn : (σ.map (·.1)).Nodup) : ∀ p ∈ σ', p = (a, o') ∨ (p ∈ σ ∧ p.1 ≠ a) := by
  induction x with
  | head =>
    intro p hp
    rcases List.mem_cons.mp hp with e | e
    · exact .inl e
    · refine .inr ⟨.tail _ e, fun h => ?_⟩
      simp only [List.map_cons, List.nodup_cons] at hn
      exact hn.1 (h ▸ List.mem_map_of_mem e)
  | tail y ih =>
    intro p hp
    simp only [List.map_cons, List.nodup_cons] at hn
    rcases List.mem_cons.mp hp with e | e
    · subst e
      refine .inr ⟨.head _, fun h => hn.1 (h ▸ List.mem_map_of_mem y.mem)⟩
    · exact (ih hn.2 p e).imp id fun q => ⟨.tail _ q.1, q.2⟩
theorem At.self {σ : Sto} {a : Addr} {o : AO} (h : (a, o) ∈ σ) : At σ a o o σ := by
  induction σ with
  | nil => cases h
  | cons p r ih => rcases List.mem_cons.mp h with e | e; exact e ▸ .head; exact .tail (ih e)

namespace RepS
variable {κ : Kap} {σ σ' : Sto} {h h' : Heap}
theorem keep (R : RepS κ σ h) (k : ∀ b o, h.get? b = some o → h'.get? b = some o) : RepS κ σ h' where
  prot b o e := k b o (R.prot b o e)
  objs p hp := let ⟨ob, e, r⟩ := R.objs p hp; ⟨ob, k _ _ e, r.mono (.of_keeps k)⟩
  nodup := R.nodup
  new := R.new
/-- an object that is neither protected nor in the store is changed -/
theorem ext (R : RepS κ σ h) {a : Addr} (hκ : κ.p a = none) (hσ : a ∉ σ.map (·.1)) (k : Heap.ExtBut a h h') (tk : TK κ.av h h') : RepS κ σ h' where
  prot b o e := k b o (fun he => by rw [he, hκ] at e; cases e) (R.prot b o e)
  objs p hp := let ⟨ob, e, r⟩ := R.objs p hp; ⟨ob, k _ _ (fun he => hσ (he ▸ List.mem_map_of_mem hp)) e, r.mono tk⟩
  nodup := R.nodup
  new := R.new
theorem upd (R : RepS κ σ h) {a : Addr} {o o' : AO} (at' : At σ a o o' σ') {ob : Obj} (k : Heap.ExtBut a h h') (hob : h'.get? a = some ob) (r : ORel κ.av h' o' ob) : RepS κ σ' h' where
  prot b o e := k b o (fun he => by rw [he, R.new _ at'.mem] at e; cases e) (R.prot b o e)
  objs p hp := by
    obtain ⟨oa, ea, ra⟩ := R.objs _ at'.mem
    have tk : TK κ.av h h' := .of_ext ea ra.not_tuple k
    rcases at'.mem_ne R.nodup p hp with e | ⟨e, ne⟩
    · subst e; exact ⟨ob, hob, r⟩
    · obtain ⟨ob', e', r'⟩ := R.objs p e
      exact ⟨ob', k _ _ ne e', r'.mono tk⟩
  nodup := at'.keys ▸ R.nodup
  new p hp := by
    rcases at'.mem_cases p hp with e | e
    · subst e; exact R.new (a, o) at'.mem
    · exact R.new p e
theorem tk_upd (R : RepS κ σ h) {a : Addr} {o : AO} (hm : (a, o) ∈ σ) (k : Heap.ExtBut a h h') : TK κ.av h h' := by
  obtain ⟨oa, ea, ra⟩ := R.objs _ hm
  exact .of_ext ea ra.not_tuple k
theorem add (R : RepS κ σ h) {a : Addr} {o : AO} {ob : Obj} (hn : h.get? a = none) (k : ∀ b o, h.get? b = some o → h'.get? b = some o) (hob : h'.get? a = some ob) (r : ORel κ.av h' o ob) : RepS κ ((a, o) :: σ) h' where
  prot b o e := k b o (R.prot b o e)
  objs p hp := by
    rcases List.mem_cons.mp hp with e | e
    · subst e; exact ⟨ob, hob, r⟩
    · obtain ⟨ob', e', r'⟩ := R.objs p e
      exact ⟨ob', k _ _ e', r'.mono (.of_keeps k)⟩
  nodup := by
    simp only [List.map_cons, List.nodup_cons]
    refine ⟨fun hm => ?_, R.nodup⟩
    obtain ⟨p, hp, e⟩ := List.mem_map.mp hm
    obtain ⟨ob', e', _⟩ := R.objs p hp
    rw [e, hn] at e'; cases e'
  new p hp := by
    rcases List.mem_cons.mp hp with e | e
    · subst e
      cases hk : κ.p a with
      | none => rfl
      | some o' => have := R.prot _ _ hk; rw [hn] at this; cases this
    · exact R.new p e
/-- fewer things known -/
theorem sub (R : RepS κ σ h) (hs : σ'.Sublist σ) : RepS κ σ' h where
  prot := R.prot
  objs p hp := R.objs p (hs.subset hp)
  nodup := R.nodup.sublist (hs.map _)
  new p hp := R.new p (hs.subset hp)
theorem perm (R : RepS κ σ h) (hs : σ'.Perm σ) : RepS κ σ' h where
  prot := R.prot
  objs p hp := R.objs p (hs.subset hp)
  nodup := (hs.map _).nodup_iff.mpr R.nodup
  new p hp := R.new p (hs.subset hp)
theorem weak (R : RepS κ σ h) {κ' : Kap} (ha : κ'.av = κ.av) (hk : ∀ b o, κ'.p b = some o → κ.p b = some o) : RepS κ' σ h where
  prot b o e := R.prot b o (hk b o e)
  objs := ha ▸ R.objs
  nodup := R.nodup
  new p hp := by
    cases hk' : κ'.p p.1 with
    | none => rfl
    | some o => have := hk _ _ hk'; rw [R.new p hp] at this; cases this
end RepS
end Mine
namespace Mine

abbrev keys (σ : Sto) : List Addr := σ.map (·.1)
abbrev Loc := List (Str × AV)

/-- a local set -/
noncomputable def lset : Loc → Str → AV → Loc
  | [], x, v => [(x, v)]
  | (y, w) :: r, x, v => if x == y then (y, v) :: r else (y, w) :: lset r x v
theorem lookup_lset (loc : Loc) (x : Str) (v : AV) (y : Str) : (lset loc x v).lookup y = if y = x then some v else loc.lookup y := by
  induction loc with
  | nil =>
    show (match y == x with | true => some v | false => none) = _
    by_cases e : y = x
    · subst e; rw [beq_self_eq_true, if_pos rfl]
    · rw [beq_eq_false_iff_ne.mpr e, if_neg e]; rfl
  | cons p r ih =>
    obtain ⟨z, w⟩ := p
    unfold lset
    by_cases e : x = z
    · subst e
      rw [if_pos (beq_self_eq_true x), List.lookup_cons, List.lookup_cons]
      by_cases f : y = x
      · subst f; rw [beq_self_eq_true, if_pos rfl]
      · rw [beq_eq_false_iff_ne.mpr f, if_neg f]
    · rw [if_neg (by rw [beq_eq_false_iff_ne.mpr e]; decide), List.lookup_cons, List.lookup_cons, ih]
      by_cases f : y = z
      · subst f; rw [beq_self_eq_true]; show some w = if y = x then some v else some w; rw [if_neg (fun h => e h.symm)]
      · rw [beq_eq_false_iff_ne.mpr f]

structure Gd where
  prog : Program
  w : World
  hB : Heap
abbrev Gd.M (Γ : Gd) : Model := model Γ.prog Γ.w
noncomputable def Gd.le (Γ : Gd) (κ : Kap) : Prop := ∀ b o, Γ.hB.get? b = some o → κ.p b = some o

noncomputable def AOk (k : Nat) (A : Around) : Prop := A.handled = none ∧ A.depth + k < recursionLimit ∧ A.units + 50 * (k + 1) < cLine
theorem AOk.deeper {k : Nat} {A : Around} (h : AOk (k + 1) A) (env : Env) : AOk k (A.deeper env) := by
  obtain ⟨a, b, c⟩ := h
  refine ⟨a, ?_, ?_⟩
  · show A.depth + 1 + k < _; omega
  · show A.units + 3 + 50 * (k + 1) < _; omega
theorem AOk.room {k : Nat} {A : Around} (h : AOk (k + 1) A) : A.depth < recursionLimit := by have := h.2.1; omega
theorem AOk.units {k : Nat} {A : Around} (h : AOk k A) : A.units < cLine := by have := h.2.2; omega
abbrev No : Value → Shared → Prop := fun _ _ => False

/-- all that lives and is not the store's -/
noncomputable def mxp (σ : Sto) (h : Heap) : Addr → Option Obj := fun b => if b ∈ keys σ then none else h.get? b
theorem mx_of {σ : Sto} {h : Heap} {b : Addr} {o : Obj} (hb : b ∉ keys σ) (ho : h.get? b = some o) : mxp σ h b = some o := by
  unfold mxp; rw [if_neg hb]; exact ho
theorem of_mx {σ : Sto} {h : Heap} {b : Addr} {o : Obj} (e : mxp σ h b = some o) : b ∉ keys σ ∧ h.get? b = some o := by
  unfold mxp at e
  by_cases hb : b ∈ keys σ
  · rw [if_pos hb] at e; cases e
  · rw [if_neg hb] at e; exact ⟨hb, e⟩
theorem RepS.not_key {κ : Kap} {σ : Sto} {h : Heap} (R : RepS κ σ h) {b : Addr} {o : Obj} (e : κ.p b = some o) : b ∉ keys σ := fun hm => by
  obtain ⟨p, hp, rfl⟩ := List.mem_map.mp hm
  rw [R.new p hp] at e; cases e
theorem RepS.live {κ : Kap} {σ : Sto} {h : Heap} (R : RepS κ σ h) {b : Addr} (hb : b ∈ keys σ) : ∃ o, h.get? b = some o ∧ ∀ vs n, o ≠ { cls := .type "tuple", data := .seq vs n } := by
  obtain ⟨p, hp, rfl⟩ := List.mem_map.mp hb
  obtain ⟨ob, e, r⟩ := R.objs p hp
  exact ⟨ob, e, r.not_tuple⟩
noncomputable def mx {κ : Kap} {σ : Sto} {h : Heap} (R : RepS κ σ h) : Kap where
  p := mxp σ h
  av := κ.av
  ok a ha := by
    cases e : κ.p a with
    | none => exact absurd e (κ.ok a ha)
    | some o => rw [mx_of (R.not_key e) (R.prot _ _ e)]; simp
theorem RepS.mx {κ : Kap} {σ : Sto} {h : Heap} (R : RepS κ σ h) : RepS (mx R) σ h where
  prot b o e := (of_mx e).2
  objs := R.objs
  nodup := R.nodup
  new p hp := by show mxp σ h p.1 = none; unfold mxp; rw [if_pos (List.mem_map_of_mem hp)]
theorem Gd.le_mx {Γ : Gd} {κ : Kap} {σ : Sto} {h : Heap} (R : RepS κ σ h) (l : Γ.le κ) : Γ.le (Mine.mx R) := fun b o e =>
  mx_of (R.not_key (l b o e)) (R.prot _ _ (l b o e))
/-- what is new is no place to be avoided -/
theorem RepS.not_av {κ : Kap} {σ : Sto} {h : Heap} (R : RepS κ σ h) {a : Addr} (hn : h.get? a = none) : ¬ κ.av a := fun hv => by
  cases e : κ.p a with
  | none => exact κ.ok a hv e
  | some o => rw [R.prot _ _ e] at hn; cases hn
/-- what a step leaves alone -/
structure Stp (av : Avd) (σ : Sto) (h : Heap) (σ' : Sto) (h' : Heap) : Prop where
  keep : ∀ b o, b ∉ keys σ → h.get? b = some o → h'.get? b = some o
  new : ∀ a ∈ keys σ', a ∈ keys σ ∨ h.get? a = none
  tk : TK av h h'
theorem Stp.of_mx {κ : Kap} {σ σ' : Sto} {h h' : Heap} (R : RepS κ σ h) (R' : RepS (Mine.mx R) σ' h') : Stp κ.av σ h σ' h' where
  keep b o hb ho := R'.prot b o (mx_of hb ho)
  new a ha := by
    obtain ⟨p, hp, rfl⟩ := List.mem_map.mp ha
    have : mxp σ h p.1 = none := R'.new p hp
    unfold mxp at this
    by_cases hm : p.1 ∈ keys σ
    · exact .inl hm
    · rw [if_neg hm] at this; exact .inr this
  tk a vs := fun _ ⟨n, ho⟩ => by
    refine ⟨n, R'.prot a _ (mx_of (fun hm => ?_) ho)⟩
    obtain ⟨o', e', n'⟩ := R.live hm
    rw [ho] at e'; cases e'; exact n' _ _ rfl
theorem RepS.of_mx {κ : Kap} {σ σ' : Sto} {h h' : Heap} (R : RepS κ σ h) (R' : RepS (Mine.mx R) σ' h') : RepS κ σ' h' :=
  R'.weak rfl fun b o e => mx_of (R.not_key e) (R.prot b o e)

structure Fits (sc : Scope) (env : Env) : Prop where
  scope : env.scope = sc
  kind : sc.kind = .function
  glob : env.globals = mainGlobals
  blt : env.builtins = builtinsNs
  fn : sc.names.lookup (Str.ofString ".0") = none → env.func.isSome = true

theorem Fits.kindOf {sc : Scope} {env : Env} (f : Fits sc env) (x : Str) : env.kindOf x = sc.names.lookup x := by
  unfold Env.kindOf; rw [f.scope]
theorem Fits.fkind {sc : Scope} {env : Env} (f : Fits sc env) : env.scope.kind = .function := by rw [f.scope]; exact f.kind
theorem Fits.hp {sc : Scope} {env : Env} (f : Fits sc env) : (env.scope.kind == .class || (env.scope.kind == .module && env.locals != env.globals)) = false := by rw [f.fkind]; rfl

/-- the frame -/
structure FRel (κ : Kap) (env : Env) (loc : Loc) (σ : Sto) (h : Heap) : Prop where
  ns : ∃ m, h.Ns env.locals m ∧ ∀ x v, loc.lookup x = some v → env.kindOf x = some .local → ∃ V, m x = some V ∧ VRel κ.av h v V
  cell : ∀ x, env.kindOf x = some .cell → ∃ c V, env.cells.lookup x = some c ∧ h.IsCell c V ∧ ∀ v, loc.lookup x = some v → ∃ V', V = some V' ∧ VRel κ.av h v V'
  free : ∀ x v, loc.lookup x = some v → env.kindOf x = some .free → ∃ c o V, env.cells.lookup x = some c ∧ κ.p c = some o ∧ o.data = .cell (some V) ∧ VRel κ.av h v V
  apart : ∀ x y c, env.kindOf x = some .cell → env.kindOf y = some .cell → env.cells.lookup x = some c → env.cells.lookup y = some c → x = y
  Lnew : κ.p env.locals = none ∧ env.locals ∉ keys σ
  cnew : ∀ x c, env.kindOf x = some .cell → env.cells.lookup x = some c → c ∉ keys σ ∧ (env.func.isSome = true → κ.p c = none) ∧ ∀ o, κ.p c = some o → ∃ V, o.data = .cell V

structure Rep (κ : Kap) (env : Env) (loc : Loc) (σ : Sto) (h : Heap) : Prop where
  s : RepS κ σ h
  f : FRel κ env loc σ h

theorem FRel.stp {κ : Kap} {env : Env} {loc : Loc} {σ σ' : Sto} {h h' : Heap} (F : FRel κ env loc σ h) (S : Stp κ.av σ h σ' h') : FRel κ env loc σ' h' where
  ns := by
    obtain ⟨m, hn, hm⟩ := F.ns
    refine ⟨m, ?_, fun x v hx hk => let ⟨V, e, r⟩ := hm x v hx hk; ⟨V, e, r.mono S.tk⟩⟩
    obtain ⟨o, es, ep, ho, r⟩ := hn
    exact ⟨o, es, ep, S.keep _ _ F.Lnew.2 ho, r⟩
  cell x hx := by
    obtain ⟨c, V, hc, ⟨o, ho, hd⟩, hv⟩ := F.cell x hx
    exact ⟨c, V, hc, ⟨o, S.keep _ _ (F.cnew x c hx hc).1 ho, hd⟩, fun v h => let ⟨V', e, r⟩ := hv v h; ⟨V', e, r.mono S.tk⟩⟩
  free x v hx hk := let ⟨c, o, V, a, b, d, e⟩ := F.free x v hx hk; ⟨c, o, V, a, b, d, e.mono S.tk⟩
  apart := F.apart
  Lnew := by
    refine ⟨F.Lnew.1, fun hm => ?_⟩
    rcases S.new _ hm with e | e
    · exact F.Lnew.2 e
    · obtain ⟨m, ⟨o, es, ep, ho, _⟩, _⟩ := F.ns
      rw [ho] at e; cases e
  cnew x c hx hc := by
    refine ⟨fun hm => ?_, (F.cnew x c hx hc).2⟩
    rcases S.new _ hm with e | e
    · exact (F.cnew x c hx hc).1 e
    · obtain ⟨c', V, hc', ⟨o, ho, _⟩, _⟩ := F.cell x hx
      rw [hc] at hc'; cases hc'
      rw [ho] at e; cases e

/-- fewer locals known -/
theorem FRel.forget {κ : Kap} {env : Env} {loc loc' : Loc} {σ : Sto} {h : Heap} (F : FRel κ env loc σ h) (hl : ∀ x v, loc'.lookup x = some v → loc.lookup x = some v) : FRel κ env loc' σ h where
  ns := let ⟨m, hn, hm⟩ := F.ns; ⟨m, hn, fun x v hx hk => hm x v (hl x v hx) hk⟩
  cell x hx := let ⟨c, V, a, b, d⟩ := F.cell x hx; ⟨c, V, a, b, fun v h => d v (hl x v h)⟩
  free x v hx hk := F.free x v (hl x v hx) hk
  apart := F.apart
  Lnew := F.Lnew
  cnew := F.cnew
theorem FRel.sub {κ : Kap} {env : Env} {loc : Loc} {σ σ' : Sto} {h : Heap} (F : FRel κ env loc σ h) (hs : ∀ a ∈ keys σ', a ∈ keys σ) : FRel κ env loc σ' h where
  ns := F.ns
  cell := F.cell
  free := F.free
  apart := F.apart
  Lnew := ⟨F.Lnew.1, fun hm => F.Lnew.2 (hs _ hm)⟩
  cnew x c hx hc := ⟨fun hm => (F.cnew x c hx hc).1 (hs _ hm), (F.cnew x c hx hc).2⟩

/-- posts -/
abbrev PstS (κ : Kap) (s : Shared) (P : AV → Sto → Prop) : Value → Shared → Prop := fun V s' => ∃ v σ' h' tk, s' = { s with heap := h', toks := tk } ∧ RepS κ σ' h' ∧ VRel κ.av h' v V ∧ P v σ'
abbrev PstB (κ : Kap) (s : Shared) (P : Bool → Sto → Prop) : Bool → Shared → Prop := fun b s' => ∃ σ' h' tk, s' = { s with heap := h', toks := tk } ∧ RepS κ σ' h' ∧ P b σ'
abbrev PstE (κ : Kap) (env : Env) (loc : Loc) (s : Shared) (P : AV → Sto → Prop) : Value → Shared → Prop := fun V s' => ∃ v σ' h' tk, s' = { s with heap := h', toks := tk } ∧ TK κ.av s.heap h' ∧ Rep κ env loc σ' h' ∧ VRel κ.av h' v V ∧ P v σ'
abbrev PstT (κ : Kap) (env : Env) (loc : Loc) (s : Shared) (P : Bool → Sto → Prop) : Bool → Shared → Prop := fun b s' => ∃ σ' h' tk, s' = { s with heap := h', toks := tk } ∧ TK κ.av s.heap h' ∧ Rep κ env loc σ' h' ∧ P b σ'
abbrev PstL (κ : Kap) (env : Env) (loc : Loc) (s : Shared) (P : List AV → Sto → Prop) : List Value → Shared → Prop := fun V s' => ∃ v σ' h' tk, s' = { s with heap := h', toks := tk } ∧ TK κ.av s.heap h' ∧ Rep κ env loc σ' h' ∧ VRels κ.av h' v V ∧ P v σ'

inductive AFl where
  | next | brk | cont
  | ret (v : AV)
inductive FlRel (av : Avd) (h : Heap) : AFl → Flow → Prop
  | next : FlRel av h .next .next
  | brk : FlRel av h .brk .brk
  | cont : FlRel av h .cont .cont
  | ret {v : AV} {V : Value} : VRel av h v V → FlRel av h (.ret v) (.ret V)
abbrev PstX (κ : Kap) (env : Env) (s : Shared) (P : AFl → Loc → Sto → Prop) : Flow → Shared → Prop := fun f s' => ∃ fl loc' σ' h' tk, s' = { s with heap := h', toks := tk } ∧ TK κ.av s.heap h' ∧ Rep κ env loc' σ' h' ∧ FlRel κ.av h' fl f ∧ P fl loc' σ'

section
variable (Γ : Gd) (k : Nat)
/-- operations on one, two values; calls -/
noncomputable def Op1 (t : Value → Sem Value) (x : AV) (σ : Sto) (P : AV → Sto → Prop) : Prop :=
  ∀ A κ s X, AOk k A → Γ.le κ → RepS κ σ s.heap → VRel κ.av s.heap x X → wpAny Γ.M A (t X) (PstS κ s P) No s
noncomputable def Op2 (t : Value → Value → Sem Value) (x y : AV) (σ : Sto) (P : AV → Sto → Prop) : Prop :=
  ∀ A κ s X Y, AOk k A → Γ.le κ → RepS κ σ s.heap → VRel κ.av s.heap x X → VRel κ.av s.heap y Y → wpAny Γ.M A (t X Y) (PstS κ s P) No s
noncomputable def Ops (t : List Value → Sem Value) (xs : List AV) (σ : Sto) (P : AV → Sto → Prop) : Prop :=
  ∀ A κ s Xs, AOk k A → Γ.le κ → RepS κ σ s.heap → VRels κ.av s.heap xs Xs → wpAny Γ.M A (t Xs) (PstS κ s P) No s
noncomputable def Tr (x : AV) (σ : Sto) (P : Bool → Sto → Prop) : Prop :=
  ∀ A κ s X, AOk k A → Γ.le κ → RepS κ σ s.heap → VRel κ.av s.heap x X → wpAny Γ.M A (truthy X) (PstB κ s P) No s
/-- in a frame -/
noncomputable def Ev (sc : Scope) (e : Expr) (loc : Loc) (σ : Sto) (P : AV → Sto → Prop) : Prop :=
  ∀ A κ env s, AOk k A → Γ.le κ → Fits sc env → Rep κ env loc σ s.heap → wpAny Γ.M A (eval e env) (PstE κ env loc s P) No s
noncomputable def Ts (sc : Scope) (e : Expr) (loc : Loc) (σ : Sto) (P : Bool → Sto → Prop) : Prop :=
  ∀ A κ env s, AOk k A → Γ.le κ → Fits sc env → Rep κ env loc σ s.heap → wpAny Γ.M A (isTrue e env (eval e env)) (PstT κ env loc s P) No s
noncomputable def Evs (sc : Scope) (es : List Expr) (loc : Loc) (σ : Sto) (P : List AV → Sto → Prop) : Prop :=
  ∀ A κ env s pos, AOk k A → Γ.le κ → Fits sc env → Rep κ env loc σ s.heap → wpAny Γ.M A (spliced (backTo pos (starEach es env))) (PstL κ env loc s P) No s
noncomputable def Ex (sc : Scope) (st : Stmt) (loc : Loc) (σ : Sto) (P : AFl → Loc → Sto → Prop) : Prop :=
  ∀ A κ env s, AOk k A → Γ.le κ → Fits sc env → Rep κ env loc σ s.heap → wpAny Γ.M A (exec st env) (PstX κ env s P) No s
noncomputable def Exs (sc : Scope) (st : List Stmt) (loc : Loc) (σ : Sto) (P : AFl → Loc → Sto → Prop) : Prop :=
  ∀ A κ env s, AOk k A → Γ.le κ → Fits sc env → Rep κ env loc σ s.heap → wpAny Γ.M A (execs st env) (PstX κ env s P) No s
/-- a target given a value -/
noncomputable def Asg (sc : Scope) (t : Expr) (v : AV) (loc : Loc) (σ : Sto) (P : Loc → Sto → Prop) : Prop :=
  ∀ A κ env s V, AOk k A → Γ.le κ → Fits sc env → Rep κ env loc σ s.heap → VRel κ.av s.heap v V → wpAny Γ.M A (assign t env V)
    (fun _ s' => ∃ loc' σ' h' tk, s' = { s with heap := h', toks := tk } ∧ TK κ.av s.heap h' ∧ Rep κ env loc' σ' h' ∧ P loc' σ') No s
end

section
variable {Γ : Gd} {k : Nat} {sc : Scope} {loc : Loc} {σ : Sto}

theorem wp_no {α : Type} {M : Model} {A : Around} {t : Sem α} {Q Q' : α → Shared → Prop} {E : Value → Shared → Prop} {s : Shared} (h : wpAny M A t Q No s) (hq : ∀ a s, Q a s → Q' a s) : wpAny M A t Q' E s :=
  wpAny_mono h hq fun _ _ x => x.elim

end
section
variable {M : Model} {A : Around} {κ : Kap} {env : Env} {loc : Loc} {s : Shared} {E : Value → Shared → Prop}
theorem wpE {t : Sem Value} {P : AV → Sto → Prop} {Q : Value → Shared → Prop} (h : wpAny M A t (PstE κ env loc s P) No s)
    (q : ∀ V v σ' h' tk, TK κ.av s.heap h' → Rep κ env loc σ' h' → VRel κ.av h' v V → P v σ' → Q V { s with heap := h', toks := tk }) : wpAny M A t Q E s :=
  wp_no h fun V s' pst => pst.elim fun v p => p.elim fun σ' p => p.elim fun h' p => p.elim fun tk p => p.1 ▸ q V v σ' h' tk p.2.1 p.2.2.1 p.2.2.2.1 p.2.2.2.2
theorem wpL {t : Sem (List Value)} {P : List AV → Sto → Prop} {Q : List Value → Shared → Prop} (h : wpAny M A t (PstL κ env loc s P) No s)
    (q : ∀ V v σ' h' tk, TK κ.av s.heap h' → Rep κ env loc σ' h' → VRels κ.av h' v V → P v σ' → Q V { s with heap := h', toks := tk }) : wpAny M A t Q E s :=
  wp_no h fun V s' pst => pst.elim fun v p => p.elim fun σ' p => p.elim fun h' p => p.elim fun tk p => p.1 ▸ q V v σ' h' tk p.2.1 p.2.2.1 p.2.2.2.1 p.2.2.2.2
theorem wpS {t : Sem Value} {P : AV → Sto → Prop} {Q : Value → Shared → Prop} (h : wpAny M A t (PstS κ s P) No s)
    (q : ∀ V v σ' h' tk, RepS κ σ' h' → VRel κ.av h' v V → P v σ' → Q V { s with heap := h', toks := tk }) : wpAny M A t Q E s :=
  wp_no h fun V s' pst => pst.elim fun v p => p.elim fun σ' p => p.elim fun h' p => p.elim fun tk p => p.1 ▸ q V v σ' h' tk p.2.1 p.2.2.1 p.2.2.2
theorem wpT {t : Sem Bool} {P : Bool → Sto → Prop} {Q : Bool → Shared → Prop} (h : wpAny M A t (PstT κ env loc s P) No s)
    (q : ∀ V σ' h' tk, TK κ.av s.heap h' → Rep κ env loc σ' h' → P V σ' → Q V { s with heap := h', toks := tk }) : wpAny M A t Q E s :=
  wp_no h fun V s' pst => pst.elim fun σ' p => p.elim fun h' p => p.elim fun tk p => p.1 ▸ q V σ' h' tk p.2.1 p.2.2.1 p.2.2.2
theorem wpX {t : Sem Flow} {P : AFl → Loc → Sto → Prop} {Q : Flow → Shared → Prop} (h : wpAny M A t (PstX κ env s P) No s)
    (q : ∀ V fl loc' σ' h' tk, TK κ.av s.heap h' → Rep κ env loc' σ' h' → FlRel κ.av h' fl V → P fl loc' σ' → Q V { s with heap := h', toks := tk }) : wpAny M A t Q E s :=
  wp_no h fun V s' pst => pst.elim fun fl p => p.elim fun l p => p.elim fun σ' p => p.elim fun h' p => p.elim fun tk p => p.1 ▸ q V fl l σ' h' tk p.2.1 p.2.2.1 p.2.2.2.1 p.2.2.2.2
theorem wpA {t : Sem Unit} {P : Loc → Sto → Prop} {Q : Unit → Shared → Prop} (h : wpAny M A t (fun _ s' => ∃ loc' σ' h' tk, s' = { s with heap := h', toks := tk } ∧ TK κ.av s.heap h' ∧ Rep κ env loc' σ' h' ∧ P loc' σ') No s)
    (q : ∀ loc' σ' h' tk, TK κ.av s.heap h' → Rep κ env loc' σ' h' → P loc' σ' → Q () { s with heap := h', toks := tk }) : wpAny M A t Q E s :=
  wp_no h fun _ s' pst => pst.elim fun l p => p.elim fun σ' p => p.elim fun h' p => p.elim fun tk p => p.1 ▸ q l σ' h' tk p.2.1 p.2.2.1 p.2.2.2
theorem wpU {t : Sem Unit} {P : Sto → Prop} {Q : Unit → Shared → Prop} (h : wpAny M A t (fun _ s' => ∃ σ' h' tk, s' = { s with heap := h', toks := tk } ∧ RepS κ σ' h' ∧ P σ') No s)
    (q : ∀ σ' h' tk, RepS κ σ' h' → P σ' → Q () { s with heap := h', toks := tk }) : wpAny M A t Q E s :=
  wp_no h fun _ s' pst => pst.elim fun σ' p => p.elim fun h' p => p.elim fun tk p => p.1 ▸ q σ' h' tk p.2.1 p.2.2
end

section
variable {Γ : Gd} {k : Nat} {sc : Scope} {loc : Loc} {σ : Sto}
/-- a step without the frame, in a frame -/
theorem frame_step {κ : Kap} {env : Env} {h : Heap} (R : Rep κ env loc σ h) {σ' : Sto} {h' : Heap} (R' : RepS (mx R.s) σ' h') : TK κ.av h h' ∧ Rep κ env loc σ' h' :=
  let S := Stp.of_mx R.s R'
  ⟨S.tk, R.s.of_mx R', R.f.stp S⟩
theorem Op1.at {t : Value → Sem Value} {x : AV} {P : AV → Sto → Prop} (o : Op1 Γ k t x σ P) {A : Around} {κ : Kap} {env : Env} {s : Shared} {X : Value} (hA : AOk k A) (l : Γ.le κ) (R : Rep κ env loc σ s.heap) (hx : VRel κ.av s.heap x X) :
    wpAny Γ.M A (t X) (PstE κ env loc s P) No s :=
  wpS (o A (mx R.s) s X hA (Gd.le_mx R.s l) R.s.mx hx) fun V v σ' h' tk R' r p =>
    let ⟨q, R''⟩ := frame_step R R'; ⟨v, σ', h', tk, rfl, q, R'', r, p⟩
theorem Op2.at {t : Value → Value → Sem Value} {x y : AV} {P : AV → Sto → Prop} (o : Op2 Γ k t x y σ P) {A : Around} {κ : Kap} {env : Env} {s : Shared} {X Y : Value} (hA : AOk k A) (l : Γ.le κ) (R : Rep κ env loc σ s.heap) (hx : VRel κ.av s.heap x X) (hy : VRel κ.av s.heap y Y) :
    wpAny Γ.M A (t X Y) (PstE κ env loc s P) No s :=
  wpS (o A (mx R.s) s X Y hA (Gd.le_mx R.s l) R.s.mx hx hy) fun V v σ' h' tk R' r p =>
    let ⟨q, R''⟩ := frame_step R R'; ⟨v, σ', h', tk, rfl, q, R'', r, p⟩
theorem Ops.at {t : List Value → Sem Value} {xs : List AV} {P : AV → Sto → Prop} (o : Ops Γ k t xs σ P) {A : Around} {κ : Kap} {env : Env} {s : Shared} {Xs : List Value} (hA : AOk k A) (l : Γ.le κ) (R : Rep κ env loc σ s.heap) (hx : VRels κ.av s.heap xs Xs) :
    wpAny Γ.M A (t Xs) (PstE κ env loc s P) No s :=
  wpS (o A (mx R.s) s Xs hA (Gd.le_mx R.s l) R.s.mx hx) fun V v σ' h' tk R' r p =>
    let ⟨q, R''⟩ := frame_step R R'; ⟨v, σ', h', tk, rfl, q, R'', r, p⟩
theorem Tr.at {x : AV} {P : Bool → Sto → Prop} (o : Tr Γ k x σ P) {A : Around} {κ : Kap} {env : Env} {s : Shared} {X : Value} (hA : AOk k A) (l : Γ.le κ) (R : Rep κ env loc σ s.heap) (hx : VRel κ.av s.heap x X) :
    wpAny Γ.M A (truthy X) (PstT κ env loc s P) No s :=
  wp_no (o A (mx R.s) s X hA (Gd.le_mx R.s l) R.s.mx hx) fun V s' ⟨σ', h', tk, e, R', p⟩ =>
    let ⟨q, R''⟩ := frame_step R R'; ⟨σ', h', tk, e, q, R'', p⟩

/-- posts carried on: from s₁ = s with another heap -/
theorem PstE.trans {κ : Kap} {env : Env} {s : Shared} {h₁ : Heap} {tk₁ : Nat} {P : AV → Sto → Prop} {V : Value} {s' : Shared} (tk : TK κ.av s.heap h₁) (h : PstE κ env loc { s with heap := h₁, toks := tk₁ } P V s') : PstE κ env loc s P V s' :=
  let ⟨v, σ', h', t, e, q, R, r, p⟩ := h; ⟨v, σ', h', t, e, tk.trans q, R, r, p⟩
theorem PstL.trans {κ : Kap} {env : Env} {s : Shared} {h₁ : Heap} {tk₁ : Nat} {P : List AV → Sto → Prop} {V : List Value} {s' : Shared} (tk : TK κ.av s.heap h₁) (h : PstL κ env loc { s with heap := h₁, toks := tk₁ } P V s') : PstL κ env loc s P V s' :=
  let ⟨v, σ', h', t, e, q, R, r, p⟩ := h; ⟨v, σ', h', t, e, tk.trans q, R, r, p⟩
theorem PstT.trans {κ : Kap} {env : Env} {s : Shared} {h₁ : Heap} {tk₁ : Nat} {P : Bool → Sto → Prop} {V : Bool} {s' : Shared} (tk : TK κ.av s.heap h₁) (h : PstT κ env loc { s with heap := h₁, toks := tk₁ } P V s') : PstT κ env loc s P V s' :=
  let ⟨σ', h', t, e, q, R, p⟩ := h; ⟨σ', h', t, e, tk.trans q, R, p⟩
theorem PstX.trans {κ : Kap} {env : Env} {s : Shared} {h₁ : Heap} {tk₁ : Nat} {P : AFl → Loc → Sto → Prop} {V : Flow} {s' : Shared} (tk : TK κ.av s.heap h₁) (h : PstX κ env { s with heap := h₁, toks := tk₁ } P V s') : PstX κ env s P V s' :=
  let ⟨v, l, σ', h', t, e, q, R, r, p⟩ := h; ⟨v, l, σ', h', t, e, tk.trans q, R, r, p⟩

/-! rules -/
theorem ev_mono {e : Expr} {P Q : AV → Sto → Prop} (h : Ev Γ k sc e loc σ P) (hq : ∀ v σ, P v σ → Q v σ) : Ev Γ k sc e loc σ Q := fun A κ env s hA l f R =>
  wpE (h A κ env s hA l f R) fun _ v σ' h' tk b c d p => ⟨v, σ', h', tk, rfl, b, c, d, hq _ _ p⟩
theorem ts_mono {e : Expr} {P Q : Bool → Sto → Prop} (h : Ts Γ k sc e loc σ P) (hq : ∀ v σ, P v σ → Q v σ) : Ts Γ k sc e loc σ Q := fun A κ env s hA l f R =>
  wpT (h A κ env s hA l f R) fun _ σ' h' tk b c p => ⟨σ', h', tk, rfl, b, c, hq _ _ p⟩
theorem ex_mono {e : Stmt} {P Q : AFl → Loc → Sto → Prop} (h : Ex Γ k sc e loc σ P) (hq : ∀ f l σ, P f l σ → Q f l σ) : Ex Γ k sc e loc σ Q := fun A κ env s hA l f R =>
  wpX (h A κ env s hA l f R) fun _ v lo σ' h' tk b c d p => ⟨v, lo, σ', h', tk, rfl, b, c, d, hq _ _ _ p⟩
theorem exs_mono {e : List Stmt} {P Q : AFl → Loc → Sto → Prop} (h : Exs Γ k sc e loc σ P) (hq : ∀ f l σ, P f l σ → Q f l σ) : Exs Γ k sc e loc σ Q := fun A κ env s hA l f R =>
  wpX (h A κ env s hA l f R) fun _ v lo σ' h' tk b c d p => ⟨v, lo, σ', h', tk, rfl, b, c, d, hq _ _ _ p⟩
theorem ev_int {i : Int} {n : Nat} {pos : Pos} {P : AV → Sto → Prop} (h : P (.int i) σ) : Ev Γ k sc (.Constant (.int i) n pos) loc σ P := fun _ _ _ s _ _ _ R =>
  wpAny_Constant_int ⟨_, _, s.heap, _, rfl, .refl _, R, .int _ _, h⟩
theorem ev_str {x : Str} {n : Nat} {pos : Pos} {P : AV → Sto → Prop} (h : P (.str x) σ) : Ev Γ k sc (.Constant (.str x) n pos) loc σ P := fun _ _ _ s _ _ _ R =>
  wpAny_Constant_str ⟨_, _, s.heap, _, rfl, .refl _, R, .str _ _, h⟩
theorem ev_bytes {b : List UInt8} {n : Nat} {pos : Pos} {P : AV → Sto → Prop} (h : P (.bytes b.toArray) σ) : Ev Γ k sc (.Constant (.bytes b) n pos) loc σ P := fun _ _ _ s _ _ _ R =>
  fun _ _ _ => ⟨_, _, s.heap, _, rfl, .refl _, R, .bytes _ _, h⟩

theorem ev_local {x : Str} {pos : Pos} {v : AV} {P : AV → Sto → Prop} (hk : sc.names.lookup x = some .local) (hv : loc.lookup x = some v) (h : P v σ) (hd : (x == ("__debug__" : Str)) = false) : Ev Γ k sc (.Name x pos) loc σ P := fun _ _ env s _ _ f R => by
  obtain ⟨m, hn, hm⟩ := R.f.ns
  have hl : env.kindOf x = some .local := by rw [f.kindOf]; exact hk
  obtain ⟨V, e, r⟩ := hm x v hv hl
  exact wpAny_Name (wpAny_loadName_local f.fkind hl hn e ⟨v, σ, s.heap, s.toks, rfl, .refl _, R, r, h⟩) hd
theorem ev_cell {x : Str} {pos : Pos} {v : AV} {P : AV → Sto → Prop} (hk : sc.names.lookup x = some .cell) (hv : loc.lookup x = some v) (h : P v σ) (hd : (x == ("__debug__" : Str)) = false) : Ev Γ k sc (.Name x pos) loc σ P := fun _ _ env s _ _ f R => by
  have hl : env.kindOf x = some .cell := by rw [f.kindOf]; exact hk
  obtain ⟨c, V, hc, hi, hV⟩ := R.f.cell x hl
  obtain ⟨V', rfl, r⟩ := hV v hv
  exact wpAny_Name (wpAny_loadName_cell f.fkind hl hc hi ⟨v, σ, s.heap, s.toks, rfl, .refl _, R, r, h⟩) hd
theorem ev_free {x : Str} {pos : Pos} {v : AV} {P : AV → Sto → Prop} (hk : sc.names.lookup x = some .free) (hv : loc.lookup x = some v) (h : P v σ) (hd : (x == ("__debug__" : Str)) = false) (hn : (x == ("__classdict__" : Str)) = false) : Ev Γ k sc (.Name x pos) loc σ P := fun _ _ env s _ _ f R => by
  have hl : env.kindOf x = some .free := by rw [f.kindOf]; exact hk
  obtain ⟨c, o, V, hc, hκ, hd', r⟩ := R.f.free x v hv hl
  exact wpAny_Name (wpAny_loadName_free f.fkind hl hc ⟨o, R.s.prot _ _ hκ, hd'⟩ ⟨v, σ, s.heap, s.toks, rfl, .refl _, R, r, h⟩ hn) hd

theorem ev_binop {l r : Expr} {op : Operator} {pos : Pos} {P : AV → Sto → Prop}
    (h : Ev Γ k sc l loc σ fun a σ₁ => Ev Γ k sc r loc σ₁ fun b σ₂ => Op2 Γ k (binaryOp op) a b σ₂ P) : Ev Γ k sc (.BinOp l op r pos) loc σ P := fun A κ env s hA l' f R =>
  wpAny_BinOp (wpE (h A κ env s hA l' f R) fun V₁ a σ₁ h₁ tk₁ q₁ R₁ r₁ p₁ => by
    refine wpE (p₁ A κ env _ hA l' f R₁) fun V₂ b σ₂ h₂ tk₂ q₂ R₂ r₂ p₂ => ?_
    exact wp_no (p₂.at hA l' R₂ (r₁.mono q₂) r₂) fun V₃ s₃ h₃ => (h₃.trans (tk₁ := tk₁) q₂).trans q₁)
theorem ev_compare {l r : Expr} {op : CmpOp} {pos : Pos} {P : AV → Sto → Prop}
    (h : Ev Γ k sc l loc σ fun a σ₁ => Ev Γ k sc r loc σ₁ fun b σ₂ => Op2 Γ k (compareOp op) a b σ₂ P) (hm : behindInMarks op r = false) : Ev Γ k sc (.Compare l [op] [r] pos) loc σ P := fun A κ env s hA l' f R =>
  wpAny_Compare1 (wpE (h A κ env s hA l' f R) fun V₁ a σ₁ h₁ tk₁ q₁ R₁ r₁ p₁ => by
    refine wpE (p₁ A κ env _ hA l' f R₁) fun V₂ b σ₂ h₂ tk₂ q₂ R₂ r₂ p₂ => ?_
    exact wp_no (p₂.at hA l' R₂ (r₁.mono q₂) r₂) fun V₃ s₃ h₃ => (h₃.trans (tk₁ := tk₁) q₂).trans q₁) hm
theorem ts_compare {l r : Expr} {op : CmpOp} {pos : Pos} {P : Bool → Sto → Prop}
    (h : Ev Γ k sc l loc σ fun a σ₁ => Ev Γ k sc r loc σ₁ fun b σ₂ => Op2 Γ k (compareOp op) a b σ₂ fun c σ₃ => Tr Γ k c σ₃ P) (hm : behindInMarks op r = false) : Ts Γ k sc (.Compare l [op] [r] pos) loc σ P := fun A κ env s hA l' f R =>
  wpAny_isTrue_Compare1 (wpE (h A κ env s hA l' f R) fun V₁ a σ₁ h₁ tk₁ q₁ R₁ r₁ p₁ => by
    refine wpE (p₁ A κ env _ hA l' f R₁) fun V₂ b σ₂ h₂ tk₂ q₂ R₂ r₂ p₂ => ?_
    refine wpE (p₂.at hA l' R₂ (r₁.mono q₂) r₂) fun V₃ c σ₃ h₃ tk₃ q₃ R₃ r₃ p₃ => ?_
    exact wp_no (p₃.at hA l' R₃ r₃) fun V₄ s₄ h₄ => ((h₄.trans (tk₁ := tk₁) q₃).trans (tk₁ := tk₁) q₂).trans q₁) hm

theorem exs_nil {P : AFl → Loc → Sto → Prop} (h : P .next loc σ) : Exs Γ k sc [] loc σ P := fun _ _ _ s _ _ _ R =>
  wpAny_execs_nil ⟨.next, loc, σ, s.heap, s.toks, rfl, .refl _, R, .next, h⟩
/-- a sequence -/
abbrev Seq (Γ : Gd) (k : Nat) (sc : Scope) (rest : List Stmt) (P : AFl → Loc → Sto → Prop) : AFl → Loc → Sto → Prop := fun f l σ => match f with
  | .next => Exs Γ k sc rest l σ P
  | f => P f l σ
theorem exs_cons {st : Stmt} {rest : List Stmt} {P : AFl → Loc → Sto → Prop} (h : Ex Γ k sc st loc σ (Seq Γ k sc rest P)) : Exs Γ k sc (st :: rest) loc σ P := fun A κ env s hA l f R =>
  wpAny_execs_cons (wpX (h A κ env s hA l f R) fun fl g loc₁ σ₁ h₁ tk₁ q R₁ r p => by
    cases r with
    | next => exact wp_no (p A κ env _ hA l f R₁) fun _ _ h => h.trans q
    | brk => exact ⟨_, _, _, _, _, rfl, q, R₁, .brk, p⟩
    | cont => exact ⟨_, _, _, _, _, rfl, q, R₁, .cont, p⟩
    | ret r => exact ⟨_, _, _, _, _, rfl, q, R₁, .ret r, p⟩)

theorem ex_return {e : Expr} {pos : Pos} {P : AFl → Loc → Sto → Prop} (h : Ev Γ k sc e loc σ fun v σ' => P (.ret v) loc σ') : Ex Γ k sc (.Return (some e) pos) loc σ P := fun A κ env s hA l f R =>
  wpAny_Return_some (wpE (h A κ env s hA l f R) fun V v σ' h' tk q R' r p => ⟨_, _, _, _, _, rfl, q, R', .ret r, p⟩)
theorem ex_continue {pos : Pos} {P : AFl → Loc → Sto → Prop} (h : P .cont loc σ) : Ex Γ k sc (.Continue pos) loc σ P := fun _ _ _ s _ _ _ R =>
  wpAny_Continue ⟨_, _, _, s.heap, s.toks, rfl, .refl _, R, .cont, h⟩
/-- both ways -/
noncomputable def Both (b : Bool) (T F : Prop) : Prop := (b = true → T) ∧ (b = false → F)
theorem ex_if {test : Expr} {body orelse : List Stmt} {pos : Pos} {P : AFl → Loc → Sto → Prop} (h : Ts Γ k sc test loc σ fun b σ' => Both b (Exs Γ k sc body loc σ' P) (Exs Γ k sc orelse loc σ' P)) : Ex Γ k sc (.If test body orelse pos) loc σ P := fun A κ env s hA l f R =>
  wpAny_If (wpT (h A κ env s hA l f R) fun b σ' h' tk q R' p => by
    cases b with
    | true => simp only [if_true]; exact wp_no (p.1 rfl A κ env _ hA l f R') fun _ _ h => h.trans q
    | false => simp only [Bool.false_eq_true, if_false]; exact wp_no (p.2 rfl A κ env _ hA l f R') fun _ _ h => h.trans q)
end
end Mine
namespace Mine
section
variable {κ : Kap} {env : Env} {loc : Loc} {σ : Sto} {h h' : Heap}

theorem Rep.set_local (R : Rep κ env loc σ h) {x : Str} {v : AV} {V : Value} {m : Str → Option Value} (hn : h.Ns env.locals m) (hm : ∀ x v, loc.lookup x = some v → env.kindOf x = some .local → ∃ V, m x = some V ∧ VRel κ.av h v V)
    (hk : env.kindOf x = some .local) (hn' : h'.Ns env.locals (fun y => if y = x then some V else m y)) (hs : Heap.SameBut env.locals h h') (r : VRel κ.av h v V) : TK κ.av h h' ∧ Rep κ env (lset loc x v) σ h' := by
  have tk : TK κ.av h h' := by
    obtain ⟨o, es, ep, ho, hd, _⟩ := hn
    exact .of_ext_seq ho (fun xs n e => by rw [hd] at e; cases e) hs.extBut
  refine ⟨tk, R.s.ext R.f.Lnew.1 R.f.Lnew.2 hs.extBut tk, ?_⟩
  exact {
    ns := ⟨_, hn', fun y w hy hky => by
      rw [lookup_lset] at hy
      by_cases e : y = x
      · rw [if_pos e] at hy; cases hy; exact ⟨V, by simp only [if_pos e], r.mono tk⟩
      · rw [if_neg e] at hy; obtain ⟨W, a, b⟩ := hm y w hy hky; exact ⟨W, by simp only [if_neg e]; exact a, b.mono tk⟩⟩
    cell := fun y hy => by
      obtain ⟨c, W, hc, ⟨o, ho, hd⟩, hw⟩ := R.f.cell y hy
      have hne : c ≠ env.locals := fun e => by
        obtain ⟨o', es, ep, ho', hd', _⟩ := hn
        rw [e, ho'] at ho; cases ho; rw [hd'] at hd; cases hd
      refine ⟨c, W, hc, ⟨o, hs.extBut _ _ hne ho, hd⟩, fun w hw' => ?_⟩
      rw [lookup_lset, if_neg (fun e => by rw [e, hk] at hy; cases hy)] at hw'
      obtain ⟨W', a, b⟩ := hw w hw'
      exact ⟨W', a, b.mono tk⟩
    free := fun y w hy hky => by
      rw [lookup_lset, if_neg (fun e => by rw [e, hk] at hky; cases hky)] at hy
      obtain ⟨c, o, W, a, b, d, e⟩ := R.f.free y w hy hky
      exact ⟨c, o, W, a, b, d, e.mono tk⟩
    apart := R.f.apart
    Lnew := R.f.Lnew
    cnew := R.f.cnew }

theorem Rep.set_cell (R : Rep κ env loc σ h) {x : Str} {v : AV} {V : Value} {c : Addr} {V₀ : Option Value} (hk : env.kindOf x = some .cell) (hc : env.cells.lookup x = some c) (hi : h.IsCell c V₀)
    (hi' : h'.IsCell c (some V)) (hs : Heap.SameBut c h h') (r : VRel κ.av h v V) (hf : env.func.isSome = true) : TK κ.av h h' ∧ Rep κ env (lset loc x v) σ h' := by
  have tk : TK κ.av h h' := by
    obtain ⟨o, ho, hd⟩ := hi
    exact .of_ext_seq ho (fun xs n e => by rw [hd] at e; cases e) hs.extBut
  have cn := R.f.cnew x c hk hc
  refine ⟨tk, R.s.ext (cn.2.1 hf) cn.1 hs.extBut tk, ?_⟩
  exact {
    ns := by
      obtain ⟨m, hn, hm⟩ := R.f.ns
      have hne : env.locals ≠ c := fun e => by
        obtain ⟨o', es, ep, ho', hd', _⟩ := hn
        obtain ⟨o, ho, hd⟩ := hi
        rw [e, ho] at ho'; cases ho'; rw [hd'] at hd; cases hd
      refine ⟨m, hn.sameBut hs hne, fun y w hy hky => ?_⟩
      rw [lookup_lset, if_neg (fun e => by rw [e, hk] at hky; cases hky)] at hy
      obtain ⟨W, a, b⟩ := hm y w hy hky
      exact ⟨W, a, b.mono tk⟩
    cell := fun y hy => by
      obtain ⟨c', W, hc', hw, hv⟩ := R.f.cell y hy
      by_cases e : y = x
      · subst e
        rw [hc] at hc'; cases hc'
        refine ⟨c, some V, hc, hi', fun w hw' => ?_⟩
        rw [lookup_lset, if_pos rfl] at hw'; cases hw'
        exact ⟨V, rfl, r.mono tk⟩
      · have hne : c' ≠ c := fun e' => e (R.f.apart y x c hy hk (e' ▸ hc') hc)
        refine ⟨c', W, hc', hw.sameBut hs hne, fun w hw' => ?_⟩
        rw [lookup_lset, if_neg e] at hw'
        obtain ⟨W', a, b⟩ := hv w hw'
        exact ⟨W', a, b.mono tk⟩
    free := fun y w hy hky => by
      rw [lookup_lset, if_neg (fun e => by rw [e, hk] at hky; cases hky)] at hy
      obtain ⟨c, o, W, a, b, d, e⟩ := R.f.free y w hy hky
      exact ⟨c, o, W, a, b, d, e.mono tk⟩
    apart := R.f.apart
    Lnew := R.f.Lnew
    cnew := R.f.cnew }
end

section
variable {Γ : Gd} {k : Nat} {sc : Scope} {loc : Loc} {σ : Sto}

/-- a local stored -/
theorem store_name {x : Str} {v : AV} {P : Loc → Sto → Prop} (hk : sc.names.lookup x = some .local ∨ (sc.names.lookup x = some .cell ∧ sc.names.lookup (Str.ofString ".0") = none)) (h : P (lset loc x v) σ) {A : Around} {κ : Kap} {env : Env} {s : Shared} {V : Value} (f : Fits sc env) (R : Rep κ env loc σ s.heap) (r : VRel κ.av s.heap v V) :
    wpAny Γ.M A (storeName env x V) (fun _ s' => ∃ loc' σ' h' tk, s' = { s with heap := h', toks := tk } ∧ TK κ.av s.heap h' ∧ Rep κ env loc' σ' h' ∧ P loc' σ') No s := by
  rcases hk with hk | hk
  · have hl : env.kindOf x = some .local := by rw [f.kindOf]; exact hk
    obtain ⟨m, hn, hm⟩ := R.f.ns
    exact wpAny_storeName_local hl hn (fun h' hn' hs => let ⟨a, b⟩ := R.set_local hn hm hl hn' hs r; ⟨_, _, h', _, rfl, a, b, h⟩) f.hp
  · have hl : env.kindOf x = some .cell := by rw [f.kindOf]; exact hk.1
    obtain ⟨c, W, hc, hi, _⟩ := R.f.cell x hl
    exact wpAny_storeName_cell f.fkind hl hc hi (fun h' hi' hs => let ⟨a, b⟩ := R.set_cell hl hc hi hi' hs r (f.fn hk.2); ⟨_, _, h', s.toks, rfl, a, b, h⟩)

theorem asg_name {x : Str} {pos : Pos} {v : AV} {P : Loc → Sto → Prop} (hk : sc.names.lookup x = some .local ∨ (sc.names.lookup x = some .cell ∧ sc.names.lookup (Str.ofString ".0") = none)) (h : P (lset loc x v) σ) : Asg Γ k sc (.Name x pos) v loc σ P :=
  fun A κ env s V _ _ f R r => wpAny_assign_Name (store_name hk h f R r)

/-- targets one by one -/
noncomputable def AsgL (Γ : Gd) (k : Nat) (sc : Scope) (ts : List Expr) (vs : List AV) (loc : Loc) (σ : Sto) (P : Loc → Sto → Prop) : Prop :=
  ∀ A κ env s Vs, AOk k A → Γ.le κ → Fits sc env → Rep κ env loc σ s.heap → VRels κ.av s.heap vs Vs → wpAny Γ.M A (assignInOrder ((assignEach ts env).map (·.2)) Vs)
    (fun _ s' => ∃ loc' σ' h' tk, s' = { s with heap := h', toks := tk } ∧ TK κ.av s.heap h' ∧ Rep κ env loc' σ' h' ∧ P loc' σ') No s
theorem asgL_nil {P : Loc → Sto → Prop} (h : P loc σ) : AsgL Γ k sc [] [] loc σ P := fun A κ env s Vs _ _ _ R _ => by
  have : assignInOrder ((assignEach [] env).map (·.2)) Vs = pure () := rfl
  rw [this]
  exact wpAny_pure ⟨_, _, s.heap, s.toks, rfl, .refl _, R, h⟩
theorem asgL_cons {t : Expr} {ts : List Expr} {v : AV} {vs : List AV} {P : Loc → Sto → Prop} (h : Asg Γ k sc t v loc σ fun loc' σ' => AsgL Γ k sc ts vs loc' σ' P)
    (hs : ∀ env, assignEach (t :: ts) env = (false, assign t env) :: assignEach ts env) : AsgL Γ k sc (t :: ts) (v :: vs) loc σ P := fun A κ env s Vs hA l f R r => by
  cases r with
  | cons r rs =>
    rename_i V Vs
    rw [hs]
    show wpAny _ _ (do holding Vs (assign t env V); assignInOrder ((assignEach ts env).map (·.2)) Vs) _ _ s
    refine wpAny_bind (wpAny_holding (wpA (h A κ env s V hA l f R r) fun loc' σ' h' tk q R' p => ?_))
    exact wpA (p A κ env _ Vs hA l f R' (rs.mono q)) fun l₂ σ₂ h₂ tk₂ q₂ R₂ p₂ => ⟨l₂, σ₂, h₂, tk₂, rfl, q.trans q₂, R₂, p₂⟩

theorem size_new {h : Heap} : h.get? h.objs.size = none := by
  cases e : h.get? h.objs.size with
  | none => rfl
  | some o => exact absurd (Heap.lt_size e) (Nat.lt_irrefl _)
theorem ext_new {h h' : Heap} (k : Heap.ExtBut h.objs.size h h') : ∀ b o, h.get? b = some o → h'.get? b = some o := fun b o e => k b o (Nat.ne_of_lt (Heap.lt_size e)) e
/-- the heap only grew -/
theorem Rep.grow {κ : Kap} {env : Env} {h h' : Heap} (R : Rep κ env loc σ h) (k : ∀ b o, h.get? b = some o → h'.get? b = some o) : TK κ.av h h' ∧ Rep κ env loc σ h' :=
  ⟨.of_keeps k, R.s.keep k, R.f.stp ⟨fun b o _ e => k b o e, fun a ha => .inl ha, .of_keeps k⟩⟩

theorem length_assignEach (ts : List Expr) (env : Env) : (assignEach ts env).length = ts.length := by
  induction ts with
  | nil => rfl
  | cons t ts ih => cases t <;> simp [assignEach, ih]

/-- a tuple unpacked -/
theorem asg_tuple {elts : List Expr} {n : Nat} {pos : Pos} {xs : List AV} {P : Loc → Sto → Prop} (h : AsgL Γ k sc elts xs loc σ P) (hl : elts.length = xs.length) (hst : ∀ env, (assignEach elts env).findIdx? (·.1) = none) :
    Asg Γ k sc (.Tuple elts n pos) (.tup xs) loc σ P := fun A κ env s V hA l f R r => by
  cases r with
  | tup na t rs =>
    rename_i a vs
    refine wpAny_assign_Tuple hA.1 t.isTuple (by rw [length_assignEach, hl, ← rs.length]; simp) (hst env) fun h' he => ?_
    obtain ⟨q, R'⟩ := R.grow (ext_new he)
    exact wpA (h A κ env _ _ hA l f R' (rs.mono q)) fun l₂ σ₂ h₂ tk₂ q₂ R₂ p₂ => ⟨l₂, σ₂, h₂, tk₂, rfl, q.trans q₂, R₂, p₂⟩

/-- x = e, one target, plain -/
theorem ex_assign {t value : Expr} {pos : Pos} {P : AFl → Loc → Sto → Prop} (h : Ev Γ k sc value loc σ fun v σ' => Asg Γ k sc t v loc σ' fun loc' σ'' => P .next loc' σ'')
    (hs : ∀ env, Fits sc env → swapsWithSole [t] value pos.line env = pure false) (hw : ∀ env, Fits sc env → swappedStores [t] value env = pure none) (he : ∀ env, (assignEach [t] env).map (·.2) = [assign t env]) : Ex Γ k sc (.Assign [t] value pos) loc σ P := fun A κ env s hA l f R =>
  wpAny_Assign_stores (wpE (h A κ env s hA l f R) fun V v σ₁ h₁ tk₁ q R₁ r p => by
    rw [he]
    show wpAny _ _ (assign t env V) _ _ _
    exact wpA (p A κ env _ V hA l f R₁ r) fun l₂ σ₂ h₂ tk₂ q₂ R₂ p₂ => ⟨_, l₂, σ₂, h₂, tk₂, rfl, q.trans q₂, R₂, .next, p₂⟩) (hs env f) (hw env f)

/-- the names stored from behind -/
noncomputable def lsets (loc : Loc) : List Str → List AV → Loc
  | x :: xs, v :: vs => lset (lsets loc xs vs) x v
  | _, _ => loc
noncomputable def AsgN (Γ : Gd) (k : Nat) (sc : Scope) (xs : List Str) (vs : List AV) (loc : Loc) (σ : Sto) (P : Loc → Sto → Prop) : Prop :=
  ∀ A κ env s Vs, AOk k A → Γ.le κ → Fits sc env → Rep κ env loc σ s.heap → VRels κ.av s.heap vs Vs → wpAny Γ.M A (assignInOrder (xs.map fun n => bindName env n) Vs)
    (fun _ s' => ∃ loc' σ' h' tk, s' = { s with heap := h', toks := tk } ∧ TK κ.av s.heap h' ∧ Rep κ env loc' σ' h' ∧ P loc' σ') No s
theorem asgN_nil {P : Loc → Sto → Prop} (h : P loc σ) : AsgN Γ k sc [] [] loc σ P := fun A κ env s Vs _ _ _ R _ => by
  have : assignInOrder (([] : List Str).map fun n => bindName env n) Vs = pure () := rfl
  rw [this]
  exact wpAny_pure ⟨_, _, s.heap, s.toks, rfl, .refl _, R, h⟩
theorem asgN_cons {x : Str} {xs : List Str} {v : AV} {vs : List AV} {P : Loc → Sto → Prop} (hk : sc.names.lookup x = some .local) (h : AsgN Γ k sc xs vs (lset loc x v) σ P) : AsgN Γ k sc (x :: xs) (v :: vs) loc σ P := fun A κ env s Vs hA l f R r => by
  cases r with
  | cons r rs =>
    rename_i V Vs
    show wpAny _ _ (do holding Vs (bindName env x V); assignInOrder (xs.map fun n => bindName env n) Vs) _ _ s
    refine wpAny_bind (wpAny_holding (wpAny_bindName (wpA (store_name (P := fun loc' σ' => AsgN Γ k sc xs vs loc' σ' P) (.inl hk) h f R r) fun loc' σ' h' tk q R' p => ?_)))
    exact wpA (p A κ env _ Vs hA l f R' (rs.mono q)) fun l₂ σ₂ h₂ tk₂ q₂ R₂ p₂ => ⟨l₂, σ₂, h₂, tk₂, rfl, q.trans q₂, R₂, p₂⟩
theorem VRels.reverse {av : Avd} {h : Heap} : ∀ {xs : List AV} {vs : List Value}, VRels av h xs vs → VRels av h xs.reverse vs.reverse
  | _, _, .nil => .nil
  | _, _, .cons a r => by simp only [List.reverse_cons]; exact (VRels.reverse r).append (.cons a .nil)

/-- two or three names at once -/
theorem ex_swapped {elts : List Expr} {n : Nat} {tpos pos : Pos} {value : Expr} {P : AFl → Loc → Sto → Prop} (names : List Str) (h : Ev Γ k sc value loc σ fun v σ' => ∃ xs, v = .tup xs ∧ xs.length = names.length ∧ AsgN Γ k sc names.reverse xs.reverse loc σ' fun loc' σ'' => P .next loc' σ'')
    (hs : ∀ env, Fits sc env → swapsWithSole [.Tuple elts n tpos] value pos.line env = pure false) (hw : ∀ env, Fits sc env → swappedStores [.Tuple elts n tpos] value env = pure (some names)) : Ex Γ k sc (.Assign [.Tuple elts n tpos] value pos) loc σ P := fun A κ env s hA l f R =>
  Assign_Tuple_swapped (wp_no (h A κ env s hA l f R) fun V s₁ pst => by
    obtain ⟨v, σ₁, h₁, tk₁, e, q, R₁, r, xs, ev, hl, p⟩ := pst
    subst e; subst ev
    cases r with
    | tup na t rs =>
      rename_i a vs
      have hn : names.length = vs.toArray.size := by rw [← hl, ← rs.length]; simp
      rw [hn]
      refine wpAny_unpackItems_tuple hA.1 t.isTuple fun h' he => ?_
      obtain ⟨q', R'⟩ := R₁.grow (ext_new he)
      exact wpA (p A κ env _ _ hA l f R' ((rs.mono q').reverse)) fun l₂ σ₂ h₂ tk₂ q₂ R₂ p₂ => ⟨_, l₂, σ₂, h₂, tk₂, rfl, (q.trans q').trans q₂, R₂, .next, p₂⟩) (hs env f) (hw env f)

/-- a call as a statement -/
theorem ex_expr {e : Expr} {pos : Pos} {P : AFl → Loc → Sto → Prop} (h : Ev Γ k sc e loc σ fun v σ' => v = .none ∧ P .next loc σ') (hs : ∀ env, Fits sc env → swapsWith e none pos.line env = pure false) : Ex Γ k sc (.Expr e pos) loc σ P := fun A κ env s hA l f R => by
  refine wpAny_Expr (wpE (h A κ env s hA l f R) fun V v σ₁ h₁ tk₁ q R₁ r ⟨ev, p⟩ => ?_) (by unfold interactive; rw [f.fkind]; rfl) (hs env f)
  subst ev
  cases r
  exact ⟨_, _, _, _, _, rfl, q, R₁, .next, p⟩

theorem ex_aug_name {x : Str} {op : Operator} {value : Expr} {pos' pos : Pos} {a : AV} {P : AFl → Loc → Sto → Prop} (hk : sc.names.lookup x = some .local) (hv : loc.lookup x = some a)
    (h : Ev Γ k sc value loc σ fun v σ' => Op2 Γ k (inplaceOp op) a v σ' fun r σ'' => P .next (lset loc x r) σ'') : Ex Γ k sc (.AugAssign (.Name x pos') op value pos) loc σ P := fun A κ env s hA l f R => by
  obtain ⟨m, hn, hm⟩ := R.f.ns
  have hl : env.kindOf x = some .local := by rw [f.kindOf]; exact hk
  obtain ⟨V, e, r⟩ := hm x a hv hl
  refine wpAny_AugAssign_Name (wpAny_loadName_local f.fkind hl hn e (wpE (h A κ env s hA l f R) fun V₁ v₁ σ₁ h₁ tk₁ q₁ R₁ r₁ p₁ => ?_))
  refine wpE (p₁.at hA l R₁ (r.mono q₁) r₁) fun V₂ v₂ σ₂ h₂ tk₂ q₂ R₂ r₂ p₂ => ?_
  exact wpA (store_name (P := fun loc' σ' => P .next loc' σ') (.inl hk) p₂ f R₂ r₂) fun l₃ σ₃ h₃ tk₃ q₃ R₃ p₃ => ⟨_, l₃, σ₃, h₃, tk₃, rfl, (q₁.trans q₂).trans q₃, R₃, .next, p₃⟩

/-- one turn of a while -/
abbrev Turn (P : AFl → Loc → Sto → Prop) (again : Loc → Sto → Prop) : AFl → Loc → Sto → Prop := fun f l σ => match f with
  | .next => again l σ
  | .cont => again l σ
  | .brk => P .next l σ
  | .ret v => P (.ret v) l σ
abbrev PstC (κ : Kap) (env : Env) (s : Shared) (P : AFl → Loc → Sto → Prop) : Result → Shared → Prop := fun r s' => match r with
  | .ok f => PstX κ env s P f s'
  | .error _ => False
noncomputable def Whl (Γ : Gd) (k : Nat) (sc : Scope) (test : Expr) (body : List Stmt) (loc : Loc) (σ : Sto) (P : AFl → Loc → Sto → Prop) : Prop :=
  ∀ A κ env s, AOk k A → Γ.le κ → Fits sc env → Rep κ env loc σ s.heap → codeAny Γ.M A (.whileLoop test body [] env) (PstC κ env s P) s
theorem whl {test : Expr} {body : List Stmt} {P : AFl → Loc → Sto → Prop}
    (h : Ts Γ k sc test loc σ fun b σ' => Both b (Exs Γ k sc body loc σ' (Turn P fun l σ'' => Whl Γ k sc test body l σ'' P)) (P .next loc σ')) : Whl Γ k sc test body loc σ P := fun A κ env s hA l f R => by
  refine codeAny_of_tree ?_
  show wpAny _ A ((whileTurn test body [] env).onRaise (fun x => do noteFrame x env; theTreesLotGoes x)) _ _ s
  refine wpAny_noted ?_
  simp only [whileTurn]
  refine wpAny_bind (wpT (h A κ env s hA l f R) fun b σ' h' tk q R' p => ?_)
  cases b with
  | true =>
    simp only [if_true]
    refine wpAny_bind (wpX (p.1 rfl A κ env _ hA l f R') fun fl g l₂ σ₂ h₂ tk₂ q₂ R₂ r₂ p₂ => ?_)
    have go : Whl Γ k sc test body l₂ σ₂ P → codeAny Γ.M A (.whileLoop test body [] env) (PstC κ env s P) { s with heap := h₂, toks := tk₂ } := fun again =>
      codeAny_mono (again A κ env { s with heap := h₂, toks := tk₂ } hA l f R₂) fun r s₃ x => by
        cases r with
        | ok fl => exact PstX.trans (s := s) (tk₁ := tk₂) (q.trans q₂) x
        | error _ => exact x
    cases r₂ with
    | next => exact wpAny_pure ⟨rfl, go p₂⟩
    | cont => exact wpAny_pure ⟨rfl, go p₂⟩
    | brk => exact wpAny_pure ⟨_, _, _, _, _, rfl, q.trans q₂, R₂, .next, p₂⟩
    | ret r => exact wpAny_pure ⟨_, _, _, _, _, rfl, q.trans q₂, R₂, .ret r, p₂⟩
  | false =>
    simp only [Bool.false_eq_true, if_false]
    exact wpAny_bind (wpAny_execs_nil (wpAny_pure ⟨_, _, _, _, _, rfl, q, R', .next, p.2 rfl⟩))
theorem ex_while {test : Expr} {body : List Stmt} {pos : Pos} {P : AFl → Loc → Sto → Prop} (h : Whl Γ k sc test body loc σ P) : Ex Γ k sc (.While test body [] pos) loc σ P := fun A κ env s hA l f R =>
  wpAny_While (codeAny_mono (h A κ env s hA l f R) fun r s' x => by
    cases r with
    | ok _ => exact x
    | error _ => exact x.elim)
end
end Mine
namespace Mine
section
variable {Γ : Gd} {k : Nat} {sc : Scope} {loc : Loc} {σ : Sto}

/-! lists of expressions -/
noncomputable def noStar : Expr → Bool
  | .Starred .. => false
  | _ => true
theorem starEach_eq {es : List Expr} (h : es.all noStar = true) (env : Env) : starEach es env = es.map fun e => (false, eval e env) := by
  induction es with
  | nil => rfl
  | cons e r ih =>
    simp only [List.all_cons, Bool.and_eq_true] at h
    have := ih h.2
    cases e <;> first | (exact absurd h.1 Bool.false_ne_true) | (simp only [starEach, List.map_cons, this])
theorem backTo_plain (pos : Pos) (env : Env) (es : List Expr) : backTo pos (es.map fun e => (false, eval e env)) = es.map fun e => (false, eval e env) := by
  induction es with
  | nil => rfl
  | cons e r ih => simp only [List.map_cons, backTo] at ih ⊢; rw [ih]; rfl

theorem evs_nil {P : List AV → Sto → Prop} (h : P [] σ) : Evs Γ k sc [] loc σ P := fun _ _ _ s _ _ _ _ R =>
  wpAny_items_nil ⟨_, _, s.heap, s.toks, rfl, .refl _, R, .nil, h⟩
theorem evs_cons {e : Expr} {es : List Expr} {P : List AV → Sto → Prop} (h : Ev Γ k sc e loc σ fun v σ' => Evs Γ k sc es loc σ' fun vs σ'' => P (v :: vs) σ'') (hs : (e :: es).all noStar = true) : Evs Γ k sc (e :: es) loc σ P := fun A κ env s pos hA l f R => by
  refine wpAny_items_cons (wpE (h A κ env s hA l f R) fun V v σ₁ h₁ tk₁ q R₁ r p => ?_) ?_
  · skip
    exact wpL (p A κ env _ pos hA l f R₁) fun Vs vs σ₂ h₂ tk₂ q₂ R₂ r₂ p₂ => ⟨_, σ₂, h₂, tk₂, rfl, q.trans q₂, R₂, .cons (r.mono q₂) r₂, p₂⟩
  · rw [starEach_eq hs, List.map_cons]
    simp only [List.all_cons, Bool.and_eq_true] at hs
    rw [starEach_eq hs.2]

/-! displays -/
theorem push_keeps {h : Heap} (o : Obj) : ∀ b o', h.get? b = some o' → (h.push o).get? b = some o' := fun _ _ e => Heap.get?_push_of_some _ e
theorem Rep.add {κ : Kap} {env : Env} {h h' : Heap} (R : Rep κ env loc σ h) {a : Addr} {o : AO} {ob : Obj} (hn : h.get? a = none) (k : ∀ b o, h.get? b = some o → h'.get? b = some o) (hob : h'.get? a = some ob) (r : ORel κ.av h' o ob) : Rep κ env loc ((a, o) :: σ) h' :=
  ⟨R.s.add hn k hob r, R.f.stp ⟨fun b o _ e => k b o e, fun b hb => by
    rcases List.mem_cons.mp hb with e | e
    · exact .inr (e ▸ hn)
    · exact .inl e, .of_keeps k⟩⟩

theorem ev_tuple {es : List Expr} {n : Nat} {pos : Pos} {P : AV → Sto → Prop} (h : Evs Γ k sc es loc σ fun vs σ' => vs.length ≤ sizeLine ∧ P (.tup vs) σ') : Ev Γ k sc (.Tuple es n pos) loc σ P := fun A κ env s hA l f R =>
  wpAny_Tuple (wpL (h A κ env s pos hA l f R) fun Vs vs σ₁ h₁ tk₁ q R₁ r ⟨hl, p⟩ => by
    refine ⟨by rw [r.length]; exact hl, .tup vs, σ₁, _, tk₁, rfl, q.trans (.of_keeps (push_keeps _)), (R₁.grow (push_keeps _)).2, .tup (R₁.s.not_av size_new) ⟨0, Heap.get?_push_size _ rfl⟩ (r.mono (.of_keeps (push_keeps _))), p⟩)
theorem ev_list {es : List Expr} {pos : Pos} {P : AV → Sto → Prop} (h : Evs Γ k sc es loc σ fun vs σ' => vs.length ≤ sizeLine ∧ ∀ a, P (.ref a) ((a, .list vs) :: σ')) : Ev Γ k sc (.List es pos) loc σ P := fun A κ env s hA l f R =>
  wpAny_List (wpL (h A κ env s pos hA l f R) fun Vs vs σ₁ h₁ tk₁ q R₁ r ⟨hl, p⟩ => by
    refine ⟨by rw [r.length]; exact hl, .ref _, _, _, tk₁, rfl, q.trans (.of_keeps (push_keeps _)), R₁.add size_new (push_keeps _) (Heap.get?_push_size _ rfl) (o := .list vs) ⟨Vs, 0, rfl, r.mono (.of_keeps (push_keeps _))⟩, .ref _, p _⟩)

/-! calls -/
/-- what a call does -/
abbrev Cal (Γ : Gd) (k : Nat) (F : Value) (xs : List AV) (σ : Sto) (P : AV → Sto → Prop) : Prop := Ops Γ k (fun Xs => call F Xs) xs σ P
noncomputable def Kpr (Γ : Gd) (σ : Sto) (F : Value) : Prop := ∀ κ h, Γ.le κ → RepS κ σ h → ∃ kp, (kp = Keeper.frame ∨ kp = Keeper.machine ∨ kp = Keeper.boundFrame) ∧ Looks Γ.M h (keeperOf F) kp
theorem kpr_builtin {id : String} : Kpr Γ σ (.builtin id) := fun _ _ _ _ => ⟨.machine, .inr (.inl rfl), .of_pure rfl⟩
theorem kpr_type {T : String} : Kpr Γ σ (.type T) := fun _ _ _ _ => ⟨.machine, .inr (.inl rfl), .of_pure rfl⟩
theorem kpr_obj {f : Addr} {o : Obj} {fd : FuncData} (ho : (f, .obj o) ∈ σ) (hd : o.data = .func fd) : Kpr Γ σ (.ref f) := fun κ h l R =>
  ⟨.frame, .inl rfl, fun A Q E s kk q => by
    obtain ⟨ob, e, rfl, _⟩ := R.objs _ ho
    unfold keeperOf
    refine wpAny_bind (wpAny_load (kk _ _ e) ?_)
    rw [hd]; exact wpAny_pure q⟩

theorem call_args {F : Value} {first : List AV} {es : List Expr} {P : AV → Sto → Prop} (hs : es.all noStar = true)
    (h : Evs Γ k sc es loc σ fun vs σ' => Kpr Γ σ' F ∧ Cal Γ k F (first ++ vs) σ' P) {A : Around} {κ : Kap} {env : Env} {s : Shared} {Fs : List Value} (pos : Pos) (hA : AOk k A) (l : Γ.le κ) (f : Fits sc env) (R : Rep κ env loc σ s.heap) (hf : VRels κ.av s.heap first Fs) :
    wpAny Γ.M A (callWith pos F Fs (backTo pos (starEach es env)) []) (PstE κ env loc s P) No s := by
  refine callWith_of (P := fun h => ∃ kp, (kp = Keeper.frame ∨ kp = Keeper.machine ∨ kp = Keeper.boundFrame) ∧ Looks Γ.M h (keeperOf F) kp) ?_ (fun _ x => x) ?_
  · rw [starEach_eq hs, backTo_plain]
    simp
  · have fin : ∀ Vs s₁, PstL κ env loc s (fun vs σ' => Kpr Γ σ' F ∧ Cal Γ k F (first ++ vs) σ' P) Vs s₁ → (fun (a : Args) (s₁ : Shared) => (∃ kp, (kp = Keeper.frame ∨ kp = Keeper.machine ∨ kp = Keeper.boundFrame) ∧ Looks Γ.M s₁.heap (keeperOf F) kp) ∧ wpAny Γ.M A (call F (Fs ++ a.pos) a.kw) (PstE κ env loc s P) No s₁) ⟨Vs, []⟩ s₁ := by
      intro Vs s₁ ⟨vs, σ₁, h₁, tk₁, e₁, q, R₁, r, kp, p⟩
      subst e₁
      refine ⟨kp κ h₁ l R₁.s, ?_⟩
      exact wp_no (p.at hA l R₁ ((hf.mono q).append r)) fun _ _ x => x.trans q
    have w := h A κ env s pos hA l f R
    cases es with
    | nil => exact fun Θ p hΘ => evalArgs_nil3 (fin [] s (w Θ p hΘ)) Θ p hΘ
    | cons e es =>
      have he : starEach (e :: es) env = (false, eval e env) :: starEach es env := by
        rw [starEach_eq hs, List.map_cons]
        simp only [List.all_cons, Bool.and_eq_true] at hs
        rw [starEach_eq hs.2]
      rw [he] at w ⊢
      exact evalArgs_plain (wp_no w fin)
end
end Mine
namespace Mine

structure Gd.Ok (Γ : Gd) (mg mb : Str → Option Value) : Prop where
  g : Γ.hB.Ns mainGlobals mg
  b : Γ.hB.Ns builtinsNs mb
  nolimit : Γ.hB.NoLimit

section
variable {Γ : Gd} {k : Nat} {sc : Scope} {loc : Loc} {σ : Sto} {mg mb : Str → Option Value}
theorem Gd.le.up {κ : Kap} {h : Heap} (l : Γ.le κ) (R : RepS κ σ h) : ∀ b o, Γ.hB.get? b = some o → h.get? b = some o := fun b o e => R.prot _ _ (l _ _ e)

theorem ev_global {x : Str} {pos : Pos} {V : Value} {P : AV → Sto → Prop} (G : Γ.Ok mg mb) (hk : sc.names.lookup x = some .globalImplicit) (hv : mg x = some V) (h : P (.raw V) σ) (hd : (x == ("__debug__" : Str)) = false) : Ev Γ k sc (.Name x pos) loc σ P := fun A κ env s hA l f R =>
  Name_function_global f.fkind (by rw [f.kindOf]; exact hk) (loadGlobal_global (mg := mg) (by rw [f.glob]; exact G.g.keeps (l.up R.s)) hv ⟨_, _, s.heap, s.toks, rfl, .refl _, R, .raw _, h⟩) hd
theorem ev_builtin {x : Str} {pos : Pos} {V : Value} {P : AV → Sto → Prop} (G : Γ.Ok mg mb) (hk : sc.names.lookup x = some .globalImplicit) (hm : mg x = none) (hv : mb x = some V) (h : P (.raw V) σ) (hd : (x == ("__debug__" : Str)) = false) : Ev Γ k sc (.Name x pos) loc σ P := fun A κ env s hA l f R =>
  Name_function_global f.fkind (by rw [f.kindOf]; exact hk) (loadGlobal_builtin (mg := mg) (mb := mb) (by rw [f.glob]; exact G.g.keeps (l.up R.s)) hm (by rw [f.blt]; exact G.b.keeps (l.up R.s)) hv ⟨_, _, s.heap, s.toks, rfl, .refl _, R, .raw _, h⟩) hd

/-- f(args) -/
theorem ev_call {x : Str} {p pos : Pos} {es : List Expr} {P : AV → Sto → Prop} (hs : es.all noStar = true)
    (h : Ev Γ k sc (.Name x p) loc σ fun fv σ₁ => ∃ F, fv = .raw F ∧ Evs Γ k sc es loc σ₁ fun vs σ₂ => Kpr Γ σ₂ F ∧ Cal Γ k F vs σ₂ P) : Ev Γ k sc (.Call (.Name x p) es [] pos) loc σ P := fun A κ env s hA l f R => by
  rw [arm_eval_Call_Name']
  refine wpAny_bind (wp_no (h A κ env s hA l f R) fun V s₁ pst => ?_)
  obtain ⟨v, σ₁, h₁, tk₁, e₁, q, R₁, r, F, rfl, p⟩ := pst
  subst e₁
  cases r
  exact wp_no (call_args (first := []) hs p pos hA l f R₁ .nil) fun _ _ x => x.trans q

noncomputable def retv : AFl → AV
  | .ret v => v
  | _ => .none
theorem zip_rev_lookup : ∀ (names : List Str) (Xs : List Value), names.Nodup → ∀ x, (names.zip Xs).reverse.lookup x = (names.zip Xs).lookup x
  | [], _, _, x => by simp
  | _ :: _, [], _, x => by simp
  | n :: names, X :: Xs, hn, x => by
    simp only [List.nodup_cons] at hn
    simp only [List.zip_cons_cons, List.reverse_cons, List.lookup_append, zip_rev_lookup names Xs hn.2 x, List.lookup_cons, List.lookup_nil]
    by_cases e : x = n
    · subst e
      have : (names.zip Xs).lookup x = none := by
        rw [List.lookup_eq_none_iff]
        intro p hp
        have : p.1 ∈ names := by
          obtain ⟨a, b⟩ := p
          exact (List.of_mem_zip hp).1
        exact bne_iff_ne.mpr fun (e : x = p.1) => hn.1 (e ▸ this)
      rw [this]; simp
    · simp [beq_eq_false_iff_ne.mpr e]
theorem zip_lookup {av : Avd} {h : Heap} : ∀ {names : List Str} {xs : List AV} {Xs : List Value}, VRels av h xs Xs → ∀ {x : Str} {v : AV}, (names.zip xs).lookup x = some v → x ∈ names ∧ ∃ V, (names.zip Xs).lookup x = some V ∧ VRel av h v V
  | [], _, _, _, x, v, e => by simp at e
  | _ :: _, _, _, .nil, x, v, e => by simp at e
  | n :: names, _, _, .cons r rs, x, v, e => by
    simp only [List.zip_cons_cons, List.lookup_cons] at e ⊢
    by_cases ex : x = n
    · subst ex
      simp only [beq_self_eq_true] at e ⊢
      cases e
      exact ⟨.head _, _, rfl, r⟩
    · simp only [beq_eq_false_iff_ne.mpr ex] at e ⊢
      obtain ⟨m, V, a, b⟩ := zip_lookup rs e
      exact ⟨.tail _ m, V, a, b⟩

/-- what is asked of a def -/
structure FnOk (Γ : Gd) (f : Addr) (fd : FuncData) (body : List Stmt) (names : List Str) : Prop where
  obj : ∃ o, Γ.hB.get? f = some o ∧ o.data = .func fd
  hb : fd.body = .stmts body
  code : Γ.hB.CodeRec fd.code fd.qualname
  bind : ∀ Xs : List Value, Xs.length = names.length → bindArgs fd ⟨Xs, []⟩ = pure (names.zip Xs)
  nodup : names.Nodup
  glob : fd.globals = mainGlobals
  blt : fd.builtins = builtinsNs
  co : fd.scope.isCoroutine = false
  gen : fd.scope.isGenerator = false
  kind : fd.scope.kind = .function
  clo : fd.closure = []

/-- what is known may be less -/
noncomputable def Drp (σ : Sto) (Q : Sto → Prop) : Prop := ∃ σ', σ'.Sublist σ ∧ Q σ'
theorem drp {σ : Sto} {Q : Sto → Prop} (h : Q σ) : Drp σ Q := ⟨σ, .refl _, h⟩
/-- a call, as code -/
noncomputable def CalC (Γ : Gd) (k : Nat) (F : Value) (xs : List AV) (σ : Sto) (P : AV → Sto → Prop) : Prop :=
  ∀ A κ s Xs, AOk k A → Γ.le κ → RepS κ σ s.heap → VRels κ.av s.heap xs Xs → codeAny Γ.M A (.call F ⟨Xs, []⟩) (fun r s' => match r with | .ok (.ret V) => PstS κ s P V s' | .ok _ => False | .error e => No e s') s
theorem cal_of {F : Value} {xs : List AV} {P : AV → Sto → Prop} (h : CalC Γ k F xs σ P) : Cal Γ k F xs σ P := fun A κ s Xs hA l R rs => wpAny_call (h A κ s Xs hA l R rs)

theorem fn_def {f : Addr} {fd : FuncData} {body : List Stmt} {names : List Str} {xs : List AV} {P : AV → Sto → Prop} (G : Γ.Ok mg mb) (O : FnOk Γ f fd body names)
    (hlen : xs.length = names.length) (hloc : ∀ x ∈ names, fd.scope.names.lookup x = some .local) (hcell : ∀ x ∈ fd.scope.names, x.2 ≠ .cell)
    (h : Exs Γ k fd.scope body (names.zip xs) σ fun fl _ σ' => Drp σ' (P (retv fl))) : CalC Γ (k + 1) (.ref f) xs σ P := fun A κ s Xs hA l R rs => by
  obtain ⟨o, ho, hd⟩ := O.obj
  have up := l.up R
  refine (codeAny_call_def hA.room (up _ _ ho) hd (G.nolimit.keeps up) (O.code.keeps up) O.hb (.of_eq (O.bind Xs (by rw [rs.length, hlen]))) hcell (fun x hx => hloc x.1 (List.of_mem_zip hx).1) (fun h₀ hns hkeep => ?_) O.co O.gen O.kind)
  have fit : Fits fd.scope (callEnv fd s.heap.objs.size f) := ⟨rfl, O.kind, O.glob, O.blt, fun _ => rfl⟩
  have R₀ : RepS κ σ h₀ := R.keep hkeep
  have Lκ : κ.p s.heap.objs.size = none := by
    cases e : κ.p s.heap.objs.size with
    | none => rfl
    | some o => exact absurd (R.prot _ _ e) (by rw [size_new]; simp)
  have Lσ : s.heap.objs.size ∉ keys σ := fun hm => by
    obtain ⟨o, e, _⟩ := R.live hm
    rw [size_new] at e; cases e
  have F : FRel κ (callEnv fd s.heap.objs.size f) (names.zip xs) σ h₀ := {
    ns := ⟨_, hns, fun x v hx hk => by
      obtain ⟨_, V, a, b⟩ := zip_lookup rs hx
      refine ⟨V, ?_, b.mono (.of_keeps hkeep)⟩
      rw [zip_rev_lookup _ _ O.nodup]; exact a⟩
    cell := fun x hx => by
      rw [fit.kindOf] at hx
      obtain ⟨p, hp, e⟩ : ∃ p ∈ fd.scope.names, p.2 = .cell := ⟨(x, .cell), mem_of_lookup hx, rfl⟩
      exact absurd e (hcell p hp)
    free := fun x v hx hk => by
      obtain ⟨m, _⟩ := zip_lookup rs hx
      rw [fit.kindOf, hloc x m] at hk; cases hk
    apart := fun x y c hx => by
      rw [fit.kindOf] at hx
      exact absurd rfl (hcell (x, .cell) (mem_of_lookup hx))
    Lnew := ⟨Lκ, Lσ⟩
    cnew := fun x c hx => by
      rw [fit.kindOf] at hx
      exact absurd rfl (hcell (x, .cell) (mem_of_lookup hx)) }
  refine wp_no (h _ κ _ { s with heap := h₀, toks := s.toks + (names.zip Xs).length } (hA.deeper _) l fit ⟨R₀, F⟩) fun fl s' pst0 => ?_
  obtain ⟨g, loc', σ', h', tk, e, q, R', r, σ'', hsub, p⟩ := pst0
  subst e
  refine ⟨_, σ'', h', tk, rfl, R'.s.sub hsub, ?_, p⟩
  cases r with
  | next => exact .none
  | brk => exact .none
  | cont => exact .none
  | ret r => exact r

theorem bindL_local (kindOf : Str → Option NameKind) : ∀ (binds : List (Str × Value)) (m : Str → Option Value) (x : Str), (binds.map (·.1)).Nodup → kindOf x = some .local → bindL kindOf binds m x = (match binds.lookup x with | some V => some V | none => m x)
  | [], m, x, _, _ => rfl
  | (n, v) :: r, m, x, hn, hk => by
    simp only [List.map_cons, List.nodup_cons] at hn
    rw [bindL, bindL_local kindOf r _ x hn.2 hk, List.lookup_cons]
    by_cases e : x = n
    · subst e
      have : r.lookup x = none := by
        rw [List.lookup_eq_none_iff]
        intro p hp
        exact bne_iff_ne.mpr fun (e : x = p.1) => hn.1 (e ▸ List.mem_map_of_mem hp)
      rw [this, if_pos hk]; simp
    · rw [beq_eq_false_iff_ne.mpr e]
      cases r.lookup x with
      | some V => rfl
      | none =>
        simp only
        by_cases hl : kindOf n = some .local
        · rw [if_pos hl]; simp only [if_neg e]
        · rw [if_neg hl]
theorem bindC_other (kindOf : Str → Option NameKind) : ∀ (binds : List (Str × Value)) (m : Str → Option Value) (x : Str), (binds.map (·.1)).Nodup → kindOf x ≠ some .local → bindC kindOf binds m x = (match binds.lookup x with | some V => some V | none => m x)
  | [], m, x, _, _ => rfl
  | (n, v) :: r, m, x, hn, hk => by
    simp only [List.map_cons, List.nodup_cons] at hn
    rw [bindC, bindC_other kindOf r _ x hn.2 hk, List.lookup_cons]
    by_cases e : x = n
    · subst e
      have : r.lookup x = none := by
        rw [List.lookup_eq_none_iff]
        intro p hp
        exact bne_iff_ne.mpr fun (e : x = p.1) => hn.1 (e ▸ List.mem_map_of_mem hp)
      rw [this, if_neg hk]; simp
    · rw [beq_eq_false_iff_ne.mpr e]
      cases r.lookup x with
      | some V => rfl
      | none =>
        simp only
        by_cases hl : kindOf n = some .local
        · rw [if_pos hl]
        · rw [if_neg hl]; simp only [if_neg e]
theorem zip_keys : ∀ (names : List Str) (Xs : List Value), Xs.length = names.length → (names.zip Xs).map (·.1) = names
  | [], _, _ => rfl
  | _ :: _, [], e => by simp at e
  | n :: names, X :: Xs, e => by simp only [List.zip_cons_cons, List.map_cons]; rw [zip_keys names Xs (by simpa using e)]

/-- a def some of whose names comprehensions or inner defs read -/
theorem fn_cells {f : Addr} {fd : FuncData} {body : List Stmt} {names : List Str} {xs : List AV} {P : AV → Sto → Prop} (G : Γ.Ok mg mb) (O : FnOk Γ f fd body names)
    (hlen : xs.length = names.length) (hloc : ∀ x ∈ names, fd.scope.names.lookup x = some .local ∨ fd.scope.names.lookup x = some .cell)
    (h : Exs Γ k fd.scope body (names.zip xs) σ fun fl _ σ' => Drp σ' (P (retv fl))) : CalC Γ (k + 1) (.ref f) xs σ P := fun A κ s Xs hA l R rs => by
  obtain ⟨o, ho, hd⟩ := O.obj
  have up := l.up R
  have hX : Xs.length = names.length := by rw [rs.length, hlen]
  have hcs : ∀ n x, fd.scope.names.lookup x = some .cell → ((cellsFrom n fd.scope.names []).lookup x).isSome = true := fun n x e => cellsFrom_some _ _ _ (.inl e)
  refine (codeAny_call_cells hA.room (up _ _ ho) hd (G.nolimit.keeps up) (O.code.keeps up) O.hb (O.bind Xs hX) O.clo (fun x hx => (hloc x.1 (List.of_mem_zip hx).1).imp id fun e => ⟨e, hcs _ _ e⟩) (fun s₁ I => ?_) O.co O.gen O.kind)
  have fit : Fits fd.scope (callEnvC fd s.heap.objs.size f) := ⟨rfl, O.kind, O.glob, O.blt, fun _ => rfl⟩
  obtain ⟨h₀, tk₀, e₀⟩ := I.toInCall.same
  subst e₀
  have hkeep := I.toInCall.keep
  have hnd : ((names.zip Xs).map (·.1)).Nodup := by rw [zip_keys names Xs hX]; exact O.nodup
  have R₀ : RepS κ σ h₀ := R.keep hkeep
  have fresh : ∀ a, s.heap.objs.size ≤ a → κ.p a = none ∧ a ∉ keys σ := fun a ha => by
    refine ⟨?_, fun hm => ?_⟩
    · cases e : κ.p a with
      | none => rfl
      | some o => exact absurd (Heap.lt_size (R.prot _ _ e)) (Nat.not_lt.mpr ha)
    · obtain ⟨o, e, _⟩ := R.live hm
      exact absurd (Heap.lt_size e) (Nat.not_lt.mpr ha)
  have F : FRel κ (callEnvC fd s.heap.objs.size f) (names.zip xs) σ h₀ := {
    ns := ⟨_, I.toInCall.ns, fun x v hx hk => by
      obtain ⟨_, V, a, b⟩ := zip_lookup rs hx
      refine ⟨V, ?_, b.mono (.of_keeps hkeep)⟩
      rw [bindL_local _ _ _ _ hnd hk, a]⟩
    cell := fun x hx => by
      have hx' := hx
      rw [fit.kindOf] at hx'
      obtain ⟨c, hc⟩ := Option.isSome_iff_exists.mp (hcs (s.heap.objs.size + 1) x hx')
      refine ⟨c, _, hc, I.cell x c hc, fun v hv => ?_⟩
      obtain ⟨_, V, a, b⟩ := zip_lookup rs hv
      refine ⟨V, ?_, b.mono (.of_keeps hkeep)⟩
      rw [bindC_other _ _ _ _ hnd (by rw [hx]; simp), a]
    free := fun x v hx hk => by
      obtain ⟨m, _⟩ := zip_lookup rs hx
      rw [fit.kindOf] at hk
      rcases hloc x m with e | e <;> rw [e] at hk <;> cases hk
    apart := fun x y c _ _ ha hb => name_of_addr I.apart (mem_of_lookup ha) (mem_of_lookup hb)
    Lnew := fresh _ (Nat.le_refl _)
    cnew := fun x c _ hc => let fr := fresh c (Nat.le_of_lt (I.above x c (mem_of_lookup hc))); ⟨fr.2, fun _ => fr.1, fun o e => by rw [fr.1] at e; cases e⟩ }
  refine wp_no (h _ κ _ _ (hA.deeper _) l fit ⟨R₀, F⟩) fun fl s' pst0 => ?_
  obtain ⟨g, loc', σ', h', tk, e, q, R', r, σ'', hsub, p⟩ := pst0
  subst e
  refine ⟨_, σ'', h', tk, rfl, R'.s.sub hsub, ?_, p⟩
  cases r with
  | next => exact .none
  | brk => exact .none
  | cont => exact .none
  | ret r => exact r
end
end Mine
namespace Mine

noncomputable def ofL (l : List Nat) : Str := ⟨l.toArray⟩
theorem ofL_toL (x : Str) : ofL x.cps.toList = x := by cases x; rfl
theorem ofL_length (l : List Nat) : (ofL l).length = l.length := by simp [ofL, Str.length]
theorem ofL_append (a b : List Nat) : ofL a ++ ofL b = ofL (a ++ b) := by
  apply Str.ext'
  show a.toArray ++ b.toArray = (a ++ b).toArray
  simp
theorem ofL_inj {a b : List Nat} (h : ofL a = ofL b) : a = b := by
  have := congrArg (fun x => x.cps.toList) h
  simpa [ofL] using this

section
variable {Γ : Gd} {k : Nat} {sc : Scope} {loc : Loc} {σ : Sto} {P : AV → Sto → Prop}

/-! ints -/
section
variable {a b : Int}
theorem op_add (h : P (.int (a + b)) σ) : Op2 Γ k (binaryOp .Add) (.int a) (.int b) σ P := fun _ _ s _ _ _ _ R x y => by cases x; cases y; exact wpAny_add_int ⟨_, σ, s.heap, _, rfl, R, .int _ _, h⟩
theorem op_iadd (h : P (.int (a + b)) σ) : Op2 Γ k (inplaceOp .Add) (.int a) (.int b) σ P := fun _ _ s _ _ _ _ R x y => by cases x; cases y; exact wpAny_iadd_int ⟨_, σ, s.heap, _, rfl, R, .int _ _, h⟩
theorem op_sub (h : P (.int (a - b)) σ) : Op2 Γ k (binaryOp .Sub) (.int a) (.int b) σ P := fun _ _ s _ _ _ _ R x y => by cases x; cases y; exact PyProof.Rows.sub_int' ⟨_, σ, s.heap, _, rfl, R, .int _ _, h⟩
theorem op_mul (hm : IntMulOk a b) (h : P (.int (a * b)) σ) : Op2 Γ k (binaryOp .Mult) (.int a) (.int b) σ P := fun _ _ s _ _ _ _ R x y => by cases x; cases y; exact PyProof.Rows.mul_int ⟨_, σ, s.heap, _, rfl, R, .int _ _, h⟩ hm
theorem op_fdiv (hb : 0 < b) (hs : b < 1073741824) (h : P (.int (a / b)) σ) : Op2 Γ k (binaryOp .FloorDiv) (.int a) (.int b) σ P := fun _ _ s _ _ _ _ R x y => by
  cases x; cases y
  have e : a.fdiv b = a / b := Int.fdiv_eq_ediv_of_nonneg a (by omega)
  exact PyProof.Rows.floordiv_int (by omega) ⟨_, σ, s.heap, _, rfl, R, .int _ _, e ▸ h⟩ (.inl (PyProof.noPylong_small (by omega)))
theorem op_mod (hb : 0 < b) (h : P (.int (a % b)) σ) : Op2 Γ k (binaryOp .Mod) (.int a) (.int b) σ P := fun _ _ s _ _ _ _ R x y => by
  cases x; cases y
  have e : a.fmod b = a % b := Int.fmod_eq_emod_of_nonneg a (by omega)
  exact PyProof.Rows.mod_int' (by omega) ⟨_, σ, s.heap, _, rfl, R, .int _ _, e ▸ h⟩
theorem op_ne (h : P (.bool (a != b)) σ) : Op2 Γ k (compareOp .NotEq) (.int a) (.int b) σ P := fun _ _ s _ _ _ _ R x y => by cases x; cases y; exact PyProof.Rows.ne_int ⟨_, σ, s.heap, s.toks, rfl, R, .bool _, h⟩
theorem op_lt (h : P (.bool (decide (a < b))) σ) : Op2 Γ k (compareOp .Lt) (.int a) (.int b) σ P := fun _ _ s _ _ _ _ R x y => by cases x; cases y; exact PyProof.Rows.lt_int ⟨_, σ, s.heap, s.toks, rfl, R, .bool _, h⟩
theorem op_le (h : P (.bool (decide (a ≤ b))) σ) : Op2 Γ k (compareOp .LtE) (.int a) (.int b) σ P := fun _ _ s _ _ _ _ R x y => by cases x; cases y; exact PyProof.Rows.le_int ⟨_, σ, s.heap, s.toks, rfl, R, .bool _, h⟩
theorem op_gt (h : P (.bool (decide (b < a))) σ) : Op2 Γ k (compareOp .Gt) (.int a) (.int b) σ P := fun _ _ s _ _ _ _ R x y => by cases x; cases y; exact PyProof.Rows.gt_int ⟨_, σ, s.heap, s.toks, rfl, R, .bool _, h⟩
end
theorem tr_int {a : Int} {P : Bool → Sto → Prop} (h : P (a != 0) σ) : Tr Γ k (.int a) σ P := fun _ _ s _ _ _ R x => by cases x; exact PyProof.Rows.truthy_int ⟨σ, s.heap, s.toks, rfl, R, h⟩
theorem tr_bool {b : Bool} {P : Bool → Sto → Prop} (h : P b σ) : Tr Γ k (.bool b) σ P := fun _ _ s _ _ _ R x => by cases x; exact wpAny_truthy_bool ⟨σ, s.heap, s.toks, rfl, R, h⟩
theorem ts_value {e : Expr} {P : Bool → Sto → Prop} (h : Ev Γ k sc e loc σ fun v σ₁ => Tr Γ k v σ₁ P) (hi : ∀ env whole, isTrue e env whole = (do let v ← whole; standAt e.pos; holding [v] (truthy v))) : Ts Γ k sc e loc σ P := fun A κ env s hA l f R => by
  rw [hi]
  refine wpAny_bind (wpE (h A κ env s hA l f R) fun V v σ₁ h₁ tk₁ q R₁ r p => ?_)
  exact wpAny_bind (wpAny_standAt (wpAny_holding (wp_no (p.at hA l R₁ r) fun _ _ x => x.trans q)))
/-- and, or as tests -/
noncomputable def TsL (Γ : Gd) (k : Nat) (sc : Scope) (op : BoolOp) (es : List Expr) (loc : Loc) (σ : Sto) (P : Bool → Sto → Prop) : Prop :=
  ∀ A κ env s, AOk k A → Γ.le κ → Fits sc env → Rep κ env loc σ s.heap → wpAny Γ.M A (allTrue op es env) (PstT κ env loc s P) No s
theorem ts_bool {op : BoolOp} {es : List Expr} {pos : Pos} {P : Bool → Sto → Prop} (h : TsL Γ k sc op es loc σ P) : Ts Γ k sc (.BoolOp op es pos) loc σ P := fun A κ env s hA l f R =>
  wpAny_isTrue_BoolOp (h A κ env s hA l f R)
theorem tsl_and_nil {P : Bool → Sto → Prop} (h : P true σ) : TsL Γ k sc .And [] loc σ P := fun _ _ _ s _ _ _ R => wpAny_allTrue_And_nil ⟨σ, s.heap, s.toks, rfl, .refl _, R, h⟩
theorem tsl_and_cons {e : Expr} {es : List Expr} {P : Bool → Sto → Prop} (h : Ts Γ k sc e loc σ fun b σ₁ => Both b (TsL Γ k sc .And es loc σ₁ P) (P false σ₁)) : TsL Γ k sc .And (e :: es) loc σ P := fun A κ env s hA l f R =>
  wpAny_allTrue_And_cons (wpT (h A κ env s hA l f R) fun b σ₁ h₁ tk₁ q R₁ p => by
    cases b with
    | true => first | exact wp_no (p.1 rfl A κ env _ hA l f R₁) (fun _ _ x => x.trans q) | (simp only [if_true]; exact wp_no (p.1 rfl A κ env _ hA l f R₁) (fun _ _ x => x.trans q))
    | false => first | exact ⟨σ₁, h₁, tk₁, rfl, q, R₁, p.2 rfl⟩ | (simp only [Bool.false_eq_true, if_false]; exact ⟨σ₁, h₁, tk₁, rfl, q, R₁, p.2 rfl⟩))
theorem op_eq_str {x y : Str} (h : P (.bool (x == y)) σ) : Op2 Γ k (compareOp .Eq) (.str x) (.str y) σ P := fun _ _ s _ _ _ _ R a b => by cases a; cases b; exact PyProof.Rows.eq_str ⟨_, σ, s.heap, s.toks, rfl, R, .bool _, h⟩
theorem op_in_str {x y : Str} (h : P (.bool !(Builtin.Str.occurrences x y 0 x.length 1).isEmpty) σ) : Op2 Γ k (compareOp .In) (.str y) (.str x) σ P := fun _ _ s _ _ _ _ R a b => by cases a; cases b; exact PySem.P.in_str ⟨_, σ, s.heap, s.toks, rfl, R, .bool _, h⟩
theorem str_len0 {x : Str} (h : (x.length == 0) = true) : x = ofL [] := by
  have : x.cps.size = 0 := by simpa [Str.length] using h
  apply Str.ext'
  show x.cps = #[]
  exact Array.eq_empty_of_size_eq_zero this
theorem add_texts {x y : Str} {t u : Tok} {A : Around} {s : Shared} {Q : Value → Shared → Prop} (hl : x.length + y.length ≤ sizeLine) (h : ∀ t tk, Q (.str (x ++ y) t) { s with toks := tk }) :
    (if x.length == 0 then Made.val (.str y u) else if y.length == 0 then Made.val (.str x t) else Made.str (x ++ y)).post Q s := by
  by_cases hx : (x.length == 0) = true
  · rw [if_pos hx]
    have e : x ++ y = y := by rw [str_len0 hx, ← ofL_toL y, ofL_append]; rfl
    rw [← e]; exact h u s.toks
  · rw [if_neg hx]
    by_cases hy : (y.length == 0) = true
    · rw [if_pos hy]
      have e : x ++ y = x := by rw [str_len0 hy, ← ofL_toL x, ofL_append]; simp
      have := h t s.toks
      rw [e] at this
      exact this
    · rw [if_neg hy]
      have hh : (x ++ y).length ≤ sizeLine := by rw [strLen_append]; exact hl
      exact ⟨hh, h _ _⟩
theorem op_add_str {x y : Str} (hl : x.length + y.length ≤ sizeLine) (h : P (.str (x ++ y)) σ) : Op2 Γ k (binaryOp .Add) (.str x) (.str y) σ P := fun A _ s _ _ _ _ R a b => by
  cases a; cases b
  exact PySem.P.add_str (add_texts (A := A) hl fun t tk => ⟨_, σ, s.heap, tk, rfl, R, .str _ _, h⟩)
theorem op_iadd_str {x y : Str} (hl : x.length + y.length ≤ sizeLine) (h : P (.str (x ++ y)) σ) : Op2 Γ k (inplaceOp .Add) (.str x) (.str y) σ P := fun A _ s _ _ _ _ R a b => by
  cases a; cases b
  exact PySem.P.iadd_str (add_texts (A := A) hl fun t tk => ⟨_, σ, s.heap, tk, rfl, R, .str _ _, h⟩)
theorem cal_len_str {x : Str} (hl : x.length ≤ sizeLine) (h : P (.int x.length) σ) : Cal Γ k (.builtin "len") [.str x] σ P := fun _ _ s _ _ _ R r => by
  cases r with
  | cons a r => cases a; cases r; exact PySem.P.len_str (by rw [sizeLine_eq] at hl; omega) ⟨_, σ, s.heap, _, rfl, R, .int _ _, h⟩
theorem cal_ord {c : Nat} (h : P (.int c) σ) : Cal Γ k (.builtin "ord") [.str (ofL [c])] σ P := fun _ _ s _ _ _ R r => by
  cases r with
  | cons a r => cases a; cases r; exact PySem.P.ord_of_char ⟨_, σ, s.heap, _, rfl, R, .int _ _, h⟩
theorem cal_abs {a : Int} (h : P (.int (if a < 0 then -a else a)) σ) : Cal Γ k (.builtin "abs") [.int a] σ P := fun _ _ s _ _ _ R r => by
  cases r with
  | cons x r => cases x; cases r; exact PyProof.Rows.call_abs_int fun u tk => ⟨_, σ, s.heap, tk, rfl, R, .int _ _, h⟩
end
end Mine
namespace Mine
section
variable {Γ : Gd} {k : Nat} {sc : Scope} {loc : Loc} {σ : Sto} {P : AV → Sto → Prop}

/-! more calls -/
theorem cal_int {a : Int} (h : P (.int a) σ) : Cal Γ k (.type "int") [.int a] σ P := fun _ _ s _ _ _ R r => by
  cases r with
  | cons x r => cases x; cases r; exact PySem.call_int_int ⟨_, σ, s.heap, s.toks, rfl, R, .int _ _, h⟩
theorem cal_divmod {a b : Int} (hb : 0 < b) (hs : b < 1073741824) (h : P (.tup [.int (a / b), .int (a % b)]) σ) : Cal Γ k (.builtin "divmod") [.int a, .int b] σ P := fun _ κ s _ _ _ R r => by
  cases r with
  | cons x r =>
    cases x
    cases r with
    | cons y r =>
      cases y; cases r
      have e1 : a.fdiv b = a / b := Int.fdiv_eq_ediv_of_nonneg a (by omega)
      have e2 : a.fmod b = a % b := Int.fmod_eq_emod_of_nonneg a (by omega)
      refine PyProof.Rows.divmod_int (by omega) ⟨_, σ, _, _, rfl, R.keep (push_keeps _), .tup (xs := [.int (a / b), .int (a % b)]) (vs := [.int (a / b) s.toks, .int (a % b) (s.toks + 1)]) (R.not_av size_new) ⟨0, ?_⟩ (.cons (.int _ _) (.cons (.int _ _) .nil)), h⟩ (.inl (PyProof.noPylong_small (by omega)))
      · rw [← e1, ← e2]; exact Heap.get?_push_size _ rfl

/-! lists -/
theorem RepS.list {κ : Kap} {h : Heap} (R : RepS κ σ h) {a : Addr} {xs : List AV} (hm : (a, .list xs) ∈ σ) : ∃ vs n, h.get? a = some { cls := .type "list", data := .seq vs.toArray n } ∧ VRels κ.av h xs vs := by
  obtain ⟨ob, e, vs, n, rfl, r⟩ := R.objs _ hm
  exact ⟨vs, n, e, r⟩
theorem VRels.size {av : Avd} {h : Heap} {xs : List AV} {vs : List Value} (r : VRels av h xs vs) : vs.toArray.size = xs.length := by rw [List.size_toArray]; exact r.length

theorem cal_len_list {a : Addr} {xs : List AV} (hm : (a, .list xs) ∈ σ) (hl : xs.length ≤ sizeLine) (h : P (.int xs.length) σ) : Cal Γ k (.builtin "len") [.ref a] σ P := fun _ _ s _ _ _ R r => by
  cases r with
  | cons x r =>
    cases x; cases r
    obtain ⟨vs, n, e, rs⟩ := R.list hm
    refine call_len_list (items := vs.toArray) ⟨_, e, rfl, n, rfl⟩ (by rw [rs.size]; rw [sizeLine_eq] at hl; omega) ⟨.int xs.length, σ, s.heap, _, rfl, R, ?_, h⟩
    rw [rs.size]; exact .int _ _
theorem cal_append {a : Addr} {xs : List AV} {v : AV} {σ' : Sto} (hat : At σ a (.list xs) (.list (xs ++ [v])) σ') (hl : xs.length ≤ sizeLine) (h : P .none σ') : Cal Γ k (.builtin "list.append") [.ref a, v] σ P := fun _ κ s _ _ _ R r => by
  cases r with
  | cons x r =>
    cases x
    cases r with
    | cons y r =>
      cases r
      obtain ⟨vs, n, e, rs⟩ := R.list hat.mem
      refine wpAny_list_append_plain (items := vs.toArray) ⟨n, e⟩ (fun h' hp hs => ?_) (by rw [rs.size]; exact hl)
      obtain ⟨n', e'⟩ := hp
      have tk := R.tk_upd hat.mem hs.extBut
      refine ⟨.none, σ', h', s.toks, rfl, R.upd hat hs.extBut e' ⟨vs ++ [_], n', ?_, (rs.append (.cons y .nil)).mono tk⟩, .none, h⟩
      simp
theorem cal_pop0 {a : Addr} {x : AV} {xs : List AV} {σ' : Sto} (hat : At σ a (.list (x :: xs)) (.list xs) σ') (hl : xs.length < sizeLine) (h : P x σ') : Cal Γ k (.builtin "list.pop") [.ref a, .int 0] σ P := fun _ κ s _ _ _ R r => by
  cases r with
  | cons y r =>
    cases y
    cases r with
    | cons y r =>
      cases y; cases r
      obtain ⟨vs, n, e, rs⟩ := R.list hat.mem
      have hz : vs.toArray.size ≤ sizeLine := by rw [rs.size]; simp; omega
      cases rs with
      | cons r0 rs =>
        rename_i v vs
        refine call_meets PySem.F.slot_list_pop ⟨_, e, rfl⟩ PySem.F.entry_list_pop (PySem.F.args_list_pop_2 _ _) (PySem.MeetsSeq.list_pop_at a _ n 0 _ 0 v (by decide) (by simp [seqIndex?]) (by simp) hz) ⟨e, ?_⟩
        have q := PySem.IsL.update e (·.eraseIdxIfInBounds 0)
        have he : (v :: vs).toArray.eraseIdxIfInBounds 0 = vs.toArray := kl_erase [] vs v
        simp only [he] at q
        have hs : Heap.SameBut a s.heap (s.heap.update a (Obj.mapSeq (·.eraseIdxIfInBounds 0))) := Heap.SameBut.update ..
        have tk := R.tk_upd hat.mem hs.extBut
        exact ⟨x, σ', _, s.toks, rfl, R.upd hat hs.extBut q ⟨vs, _, rfl, rs.mono tk⟩, r0.mono tk, h⟩

/-! items -/
/-- no Python-written item reader -/
noncomputable def Plain (Γ : Gd) (σ : Sto) (o : AV) : Prop := ∀ A κ s O (Q : Bool → Shared → Prop), RepS κ σ s.heap → VRel κ.av s.heap o O → Q false s → wpAny Γ.M A (getitemInPython O) Q No s
theorem plain_of {o : AV} {T id : String} (hl : typeLookup (.type T) "__getitem__" = pure (some (.builtin id))) (ht : ∀ (κ : Kap) (s : Shared) (O : Value), RepS κ σ s.heap → VRel κ.av s.heap o O → s.TypeIs O T) : Plain Γ σ o := fun A κ s O Q R r h => by
  unfold getitemInPython
  refine wpAny_bind (wpAny_specialOf (ht κ s O R r) hl (wpAny_pure h))
theorem plain_list {a : Addr} {xs : List AV} (hm : (a, .list xs) ∈ σ) : Plain Γ σ (.ref a) := plain_of slot_list_getitem.lookup fun κ s O R r => by
  cases r
  obtain ⟨vs, n, e, _⟩ := R.list hm
  exact ⟨_, e, rfl⟩
theorem plain_tup {xs : List AV} : Plain Γ σ (.tup xs) := plain_of PySem.F.slot_tuple_getitem.lookup fun κ s O R r => by
  cases r with
  | tup _ t _ => exact t.isTuple.typeIs
theorem plain_str {x : Str} : Plain Γ σ (.str x) := plain_of PySem.F.slot_str_getitem.lookup fun κ s O R r => by
  cases r; exact typeIs_str _ _ _
theorem plain_bytes {x : Array UInt8} : Plain Γ σ (.bytes x) := plain_of PySem.W.FB.slot_bytes_getitem.lookup fun κ s O R r => by
  cases r; exact typeIs_bytes _ _ _

theorem ev_item {value slice : Expr} {pos : Pos} (h : Ev Γ k sc value loc σ fun o σ₁ => Ev Γ k sc slice loc σ₁ fun i σ₂ => Plain Γ σ₂ o ∧ Op2 Γ k getItem o i σ₂ P)
    (hs : ∀ o i, subscripted slice false o i = operate [o, i] (getItem o i)) : Ev Γ k sc (.Subscript value slice pos) loc σ P := fun A κ env s hA l f R => by
  rw [arm_eval_Subscript]
  refine wpAny_bind (wpE (h A κ env s hA l f R) fun V₁ o σ₁ h₁ tk₁ q₁ R₁ r₁ p₁ => ?_)
  refine wpAny_bind (wpAny_holding (wpE (p₁ A κ env _ hA l f R₁) fun V₂ i σ₂ h₂ tk₂ q₂ R₂ r₂ ⟨hp, p₂⟩ => ?_))
  refine wpAny_bind (wpAny_standAt (wpAny_bind (hp A κ _ V₁ _ R₂.s (r₁.mono q₂) ?_)))
  rw [hs]
  refine wpAny_bind (wpAny_operating (wp_no (p₂.at hA l R₂ (r₁.mono q₂) r₂) fun V₃ s₃ h₃ => ?_))
  exact wpAny_bind (wpAny_letTemporaryGo (wpAny_pure ((h₃.trans (tk₁ := tk₁) q₂).trans q₁)))

theorem get_list {a : Addr} {xs : List AV} {i : Int} {x : AV} (hm : (a, .list xs) ∈ σ) (h0 : 0 ≤ i) (hi : i < 2 ^ 63) (hx : xs[i.toNat]? = some x) (h : P x σ) : Op2 Γ k getItem (.ref a) (.int i) σ P := fun _ κ s _ _ _ _ R r r' => by
  cases r; cases r'
  obtain ⟨vs, n, e, rs⟩ := R.list hm
  obtain ⟨v, hv, rv⟩ := rs.get hx
  exact wpAny_getItem_list (items := vs.toArray) ⟨_, e, rfl, n, rfl⟩ h0 hi (by simpa using hv) ⟨x, σ, s.heap, s.toks, rfl, R, rv, h⟩
theorem get_tup {xs : List AV} {i : Int} {x : AV} (h0 : 0 ≤ i) (hi : i < 2 ^ 63) (hx : xs[i.toNat]? = some x) (h : P x σ) : Op2 Γ k getItem (.tup xs) (.int i) σ P := fun _ κ s _ _ _ _ R r r' => by
  cases r' 
  cases r with
  | tup na t rs =>
    obtain ⟨n, e⟩ := t
    obtain ⟨v, hv, rv⟩ := rs.get hx
    have hlt : i.toNat < xs.length := (List.getElem?_eq_some_iff.mp hx).1
    exact PySem.P.getItem_tuple e (by omega) hi (seqIndex_of h0 (by rw [rs.size]; omega)) (by simpa using hv) ⟨x, σ, s.heap, s.toks, rfl, R, rv, h⟩
theorem VRels.set {av : Avd} {h : Heap} : ∀ {xs : List AV} {vs : List Value}, VRels av h xs vs → ∀ {i : Nat} {v : AV} {V : Value}, VRel av h v V → VRels av h (xs.set i v) (vs.set i V)
  | _, _, .nil, _, _, _, _ => .nil
  | _, _, .cons _ r, 0, _, _, x => .cons x r
  | _, _, .cons a r, i + 1, _, _, x => .cons a (VRels.set r x)
theorem set_list {a : Addr} {xs : List AV} {i : Int} {v : AV} {σ' : Sto} {P : Sto → Prop} (hat : At σ a (.list xs) (.list (xs.set i.toNat v)) σ') (h0 : 0 ≤ i) (h1 : i < xs.length) (hi : i < 2 ^ 63) (h : P σ')
    {A : Around} {κ : Kap} {s : Shared} {V : Value} {t : Tok} (R : RepS κ σ s.heap) (r : VRel κ.av s.heap v V) : wpAny Γ.M A (setItem (.ref a) (.int i t) V) (fun _ s' => ∃ σ' h' tk, s' = { s with heap := h', toks := tk } ∧ RepS κ σ' h' ∧ P σ') No s := by
  obtain ⟨vs, n, e, rs⟩ := R.list hat.mem
  have hs : Heap.SameBut a s.heap (s.heap.update a (Obj.mapSeq (·.setIfInBounds i.toNat V))) := Heap.SameBut.update ..
  have tk := R.tk_upd hat.mem hs.extBut
  have q := PySem.IsL.update e (·.setIfInBounds i.toNat V)
  have e2 : vs.toArray.setIfInBounds i.toNat V = (vs.set i.toNat V).toArray := by simp
  rw [e2] at q
  exact ki_setAt (items := vs.toArray) (n := n) e h0 hi (by rw [rs.size]; exact h1) ⟨σ', _, s.toks, rfl, R.upd hat hs.extBut q ⟨vs.set i.toNat V, _, rfl, (rs.set r).mono tk⟩, h⟩

/-! slices -/
noncomputable def pick {α : Type} (l : List α) (lo hi : Option Int) : List α := (l.drop (lo.elim 0 (clipAt l.length))).take (hi.elim l.length (clipAt l.length) - lo.elim 0 (clipAt l.length))
theorem VRels.pick {av : Avd} {h : Heap} {xs : List AV} {vs : List Value} (r : VRels av h xs vs) (lo hi : Option Int) : VRels av h (Mine.pick xs lo hi) (Mine.pick vs lo hi) := by
  unfold Mine.pick; rw [r.length]; exact (r.drop _).take _
/-- a bound of a slice -/
noncomputable def EvO (Γ : Gd) (k : Nat) (sc : Scope) (e : Option Expr) (loc : Loc) (σ : Sto) (P : Option Int → Sto → Prop) : Prop := match e with
  | none => P none σ
  | some e => Ev Γ k sc e loc σ fun v σ' => ∃ i, v = .int i ∧ P (some i) σ'
theorem evO_at {e : Option Expr} {P : Option Int → Sto → Prop} (h : EvO Γ k sc e loc σ P) {A : Around} {κ : Kap} {env : Env} {s : Shared} (hA : AOk k A) (l : Γ.le κ) (f : Fits sc env) (R : Rep κ env loc σ s.heap) :
    wpAny Γ.M A (evalPart e env) (fun V s' => ∃ i σ' h' tk, s' = { s with heap := h', toks := tk } ∧ TK κ.av s.heap h' ∧ Rep κ env loc σ' h' ∧ IsPart V i ∧ P i σ') No s := by
  cases e with
  | none => exact wpAny_evalPart_none ⟨none, σ, s.heap, s.toks, rfl, .refl _, R, .none, h⟩
  | some e => exact wpAny_evalPart_some (wp_no (h A κ env s hA l f R) fun V s' pst => by
      obtain ⟨v, σ', h', tk, e, q, R', r, i, ei, p⟩ := pst
      subst ei; cases r
      exact ⟨some i, σ', h', tk, e, q, R', .int _ _, p⟩)
theorem wpO {e : Option Expr} {P : Option Int → Sto → Prop} {Q : Value → Shared → Prop} {E : Value → Shared → Prop} {A : Around} {κ : Kap} {env : Env} {s : Shared} (h : EvO Γ k sc e loc σ P) (hA : AOk k A) (l : Γ.le κ) (f : Fits sc env) (R : Rep κ env loc σ s.heap)
    (q : ∀ V i σ' h' tk, TK κ.av s.heap h' → Rep κ env loc σ' h' → IsPart V i → P i σ' → Q V { s with heap := h', toks := tk }) : wpAny Γ.M A (evalPart e env) Q E s :=
  wp_no (evO_at h hA l f R) fun V s' pst => pst.elim fun v p => p.elim fun σ' p => p.elim fun h' p => p.elim fun tk p => p.1 ▸ q V v σ' h' tk p.2.1 p.2.2.1 p.2.2.2.1 p.2.2.2.2
/-- what a slice makes of a value -/
noncomputable def Slc (Γ : Gd) (k : Nat) (o : AV) (lo hi : Option Int) (σ : Sto) (P : AV → Sto → Prop) : Prop :=
  ∀ A κ s O a vl vu, AOk k A → Γ.le κ → RepS κ σ s.heap → VRel κ.av s.heap o O → s.heap.IsSliceOf a vl vu .none → IsPart vl lo → IsPart vu hi → wpAny Γ.M A (getItem O (.ref a)) (PstS κ s P) No s
theorem ev_slice {value : Expr} {lower upper : Option Expr} {p pos : Pos} (h : Ev Γ k sc value loc σ fun o σ₁ => EvO Γ k sc lower loc σ₁ fun lo σ₂ => EvO Γ k sc upper loc σ₂ fun hi σ₃ => Plain Γ σ₃ o ∧ Slc Γ k o lo hi σ₃ P) :
    Ev Γ k sc (.Subscript value (.Slice lower upper none p) pos) loc σ P := fun A κ env s hA l f R => by
  rw [arm_eval_Subscript]
  refine wpAny_bind (wpE (h A κ env s hA l f R) fun V₁ o σ₁ h₁ tk₁ q₁ R₁ r₁ p₁ => ?_)
  refine wpAny_bind (wpAny_holding (wpAny_Slice ?_))
  refine wpO (s := { s with heap := h₁, toks := tk₁ }) p₁ hA l f R₁ fun V₂ lo σ₂ h₂ tk₂ q₂ R₂ i₂ p₂ => ?_
  refine wpO (s := { s with heap := h₂, toks := tk₂ }) p₂ hA l f R₂ fun V₃ hi σ₃ h₃ tk₃ q₃ R₃ i₃ ph => ?_
  obtain ⟨hp, p₃⟩ := ph
  refine wpAny_evalPart_none ?_
  obtain ⟨q₄, R₄⟩ := R₃.grow (push_keeps { cls := .type "slice", data := .fields #[V₂, V₃, .none] })
  have r₄ := ((r₁.mono q₂).mono q₃).mono q₄
  refine wpAny_bind (wpAny_standAt (wpAny_bind (hp A κ _ V₁ _ R₄.s r₄ ?_)))
  show wpAny _ _ ((operate [_, _] (getItem V₁ _)) >>= _) _ _ _
  refine wpAny_bind (wpAny_operating (wpS (p₃ A _ _ V₁ _ V₂ V₃ hA (Gd.le_mx R₄.s l) R₄.s.mx r₄ ⟨_, Heap.get?_push_size _ rfl, rfl, rfl⟩ i₂ i₃) fun V₅ v σ₅ h₅ tk₅ R₅ r₅ p₅ => ?_))
  obtain ⟨q₅, R₅'⟩ := frame_step R₄ R₅
  exact wpAny_bind (wpAny_letTemporaryGo (wpAny_pure ⟨v, σ₅, h₅, tk₅, rfl, (((q₁.trans q₂).trans q₃).trans q₄).trans q₅, R₅', r₅, p₅⟩))
end
end Mine
namespace Mine
section
variable {Γ : Gd} {k : Nat} {sc : Scope} {loc : Loc} {σ : Sto} {P : AV → Sto → Prop}

theorem pick_len {α : Type} (l : List α) (lo hi : Option Int) : (pick l lo hi).length ≤ l.length := by
  unfold pick; simp only [List.length_take, List.length_drop]; omega
theorem sliceText_pick (x : Str) (lo hi : Option Int) : StrLaws.sliceText x lo hi = ofL (pick x.cps.toList lo hi) := by
  have e : ((Builtin.Str.strSliceIndices lo hi 1 x.length).filterMap (x.cps[·]?)) = pick x.cps.toList lo hi := by
    have e1 : Builtin.Str.strSliceIndices lo hi 1 x.length = sliceRange (sliceBounds lo hi none x.length).1 (sliceBounds lo hi none x.length).2.1 (sliceBounds lo hi none x.length).2.2 := rfl
    rw [e1, sliceBounds_plain]
    simp only [sliceRange_one, pick_run]
    unfold pick
    simp [Str.length]
  unfold StrLaws.sliceText
  split
  · rename_i h
    have hl : (Builtin.Str.strSliceIndices lo hi 1 x.length).length = x.length := by simpa using h
    have e1 : Builtin.Str.strSliceIndices lo hi 1 x.length = sliceRange (sliceBounds lo hi none x.length).1 (sliceBounds lo hi none x.length).2.1 (sliceBounds lo hi none x.length).2.2 := rfl
    rw [e1, sliceBounds_plain, sliceRange_one] at hl
    simp only [List.length_map, List.length_range] at hl
    have hx : x.length = x.cps.toList.length := by simp [Str.length]
    have hc : ∀ i, clipAt x.length i ≤ x.length := fun i => by unfold clipAt; omega
    have h0 : lo.elim 0 (clipAt x.length) = 0 ∨ x.length = 0 := by
      by_cases hz : x.length = 0
      · exact .inr hz
      · left
        have : hi.elim x.length (clipAt x.length) ≤ x.length := by cases hi <;> simp [hc]
        omega
    unfold pick
    rw [← hx, hl]
    rcases h0 with h0 | h0
    · rw [h0, List.drop_zero, hx, List.take_length, ofL_toL]
    · rw [h0]
      have : x.cps.toList = [] := List.eq_nil_of_length_eq_zero (by rw [← hx]; exact h0)
      rw [← ofL_toL x, this]; simp [ofL]
  · rw [e]; rfl
theorem slc_str {x : Str} {lo hi : Option Int} (hl : x.length ≤ sizeLine) (h : P (.str (ofL (pick x.cps.toList lo hi))) σ) : Slc Γ k (.str x) lo hi σ P := fun A κ s O a vl vu hA l R r hs il iu => by
  cases r
  have key : ∀ (t₀ : Tok) (lt ut : Option (Int × Tok)), lt.map (·.1) = lo → ut.map (·.1) = hi → (sliceMade x t₀ lt ut none).post (PstS κ s P) s := fun t₀ lt ut e1 e2 => by
    subst e1; subst e2
    have hp : ∀ t tk, PstS κ s P (.str (ofL (pick x.cps.toList (lt.map (·.1)) (ut.map (·.1)))) t) { s with toks := tk } := fun t tk => ⟨_, σ, s.heap, tk, rfl, R, .str _ _, h⟩
    rw [← sliceText_pick] at hp
    have hlen : (StrLaws.sliceText x (lt.map (·.1)) (ut.map (·.1))).length ≤ sizeLine := by
      rw [sliceText_pick, ofL_length]; exact Nat.le_trans (pick_len _ _ _) (by simpa [Str.length] using hl)
    by_cases hc : ((1 : Int) == 1 && (Builtin.Str.strSliceIndices (lt.map (·.1)) (ut.map (·.1)) 1 x.length).length == x.length) = true
    · have e1 : StrLaws.sliceText x (lt.map (·.1)) (ut.map (·.1)) = x := if_pos hc
      have e2 : sliceMade x t₀ lt ut none = .val (.str x t₀) := if_pos hc
      rw [e1] at hp
      rw [e2]
      exact hp _ s.toks
    · have e1 : StrLaws.sliceText x (lt.map (·.1)) (ut.map (·.1)) = _ := if_neg hc
      have e2 : sliceMade x t₀ lt ut none = _ := if_neg hc
      rw [e1] at hp hlen
      rw [e2]
      exact ⟨hlen, hp _ _⟩
  cases il with
  | none => cases iu with
    | none => exact wpAny_getItem_str_slice (l := none) (u := none) (st := none) hs rfl (key _ none none rfl rfl)
    | int j u => exact wpAny_getItem_str_slice (l := none) (u := some (j, u)) (st := none) hs rfl (key _ none (some (j, u)) rfl rfl)
  | int i t => cases iu with
    | none => exact wpAny_getItem_str_slice (l := some (i, t)) (u := none) (st := none) hs rfl (key _ (some (i, t)) none rfl rfl)
    | int j u => exact wpAny_getItem_str_slice (l := some (i, t)) (u := some (j, u)) (st := none) hs rfl (key _ (some (i, t)) (some (j, u)) rfl rfl)
theorem slc_list {a : Addr} {xs : List AV} {lo hi : Option Int} (hm : (a, .list xs) ∈ σ) (hl : xs.length ≤ sizeLine) (h : ∀ b, P (.ref b) ((b, .list (pick xs lo hi)) :: σ)) : Slc Γ k (.ref a) lo hi σ P := fun A κ s O b vl vu hA l R r hs il iu => by
  cases r
  obtain ⟨vs, n, e, rs⟩ := R.list hm
  have ep : slicePick vs.toArray lo hi none = (pick vs lo hi).toArray := by
    rw [slicePick_plain]; unfold pick; simp
  refine wpAny_getItem_list_slice (items := vs.toArray) ⟨_, e, rfl, n, rfl⟩ hs il iu .none (by simp) ⟨.ref _, _, _, s.toks, rfl, R.add size_new (push_keeps _) (Heap.get?_push_size _ rfl) (o := .list (pick xs lo hi)) ⟨pick vs lo hi, 0, by rw [ep], (rs.pick lo hi).mono (.of_keeps (push_keeps _))⟩, .ref _, h _⟩ (by rw [rs.size]; exact hl)
theorem slc_bytes {b : Array UInt8} {lo hi : Option Int} (hl : b.size ≤ sizeLine) (h : P (.bytes (pick b.toList lo hi).toArray) σ) : Slc Γ k (.bytes b) lo hi σ P := fun A κ s O a vl vu hA l R r hs il iu => by
  cases r
  have ep : KBy.picked b lo hi = (pick b.toList lo hi).toArray := by rw [KBc.picked_eq]; unfold pick; simp
  refine getItem_meets (typeIs_bytes s b _) (by decide) PySem.W.FB.slot_bytes_getitem PySem.W.FB.entry_bytes_getitem (PySem.W.FB.args_bytes_getitem_2 _ _) (KBc.meets_slice2 b _ a il iu) ⟨hs, Nat.le_trans (KBc.size_picked_le _ _ _) hl, fun t' tk => ⟨_, σ, s.heap, tk, rfl, R, ?_, h⟩⟩
  rw [ep]; exact .bytes _ _
theorem op_add_bytes {b c : Array UInt8} (hl : b.size + c.size ≤ 16777216) (h : P (.bytes (b ++ c)) σ) : Op2 Γ k (binaryOp .Add) (.bytes b) (.bytes c) σ P := fun _ _ s _ _ _ _ R x y => by
  cases x; cases y
  exact KBy.add_bytes hl fun t tk => ⟨_, σ, s.heap, tk, rfl, R, .bytes _ _, h⟩

/-! methods -/
/-- what a method's name stands for -/
noncomputable def GM (Γ : Gd) (name : Str) (ov : AV) (σ : Sto) (F : Value) (first : List AV) : Prop :=
  ∀ A κ s OV pl (Q : Value × List Value → Shared → Prop), Γ.le κ → RepS κ σ s.heap → VRel κ.av s.heap ov OV → (∀ Fs tk, VRels κ.av s.heap first Fs → Q (F, Fs) { s with toks := tk }) → wpAny Γ.M A (getMethod OV name pl) Q No s
theorem ev_method {o : Expr} {name : Str} {apos pos : Pos} {args : List Expr} (hs : args.all noStar = true) (hb : ∀ env, attributeBase o name env (eval o env) = eval o env) (hn : args.length < 30) (hline : (apos.endLine == pos.line) = true)
    (h : Ev Γ k sc o loc σ fun ov σ₁ => ∃ F first, GM Γ name ov σ₁ F first ∧ Evs Γ k sc args loc σ₁ fun vs σ₂ => Kpr Γ σ₂ F ∧ Cal Γ k F (first ++ vs) σ₂ P) : Ev Γ k sc (.Call (.Attribute o name apos) args [] pos) loc σ P := fun A κ env s hA l f R => by
  rw [arm_eval_Call, hb]
  refine wpAny_bind (wp_no (h A κ env s hA l f R) fun V s₁ pst => ?_)
  obtain ⟨ov, σ₁, h₁, tk₁, e₁, q, R₁, r, F, first, gm, p⟩ := pst
  subst e₁
  refine wpAny_bind (wpAny_standAt ?_)
  have hform : methodCallForm (args.length + ([] : List Keyword).length) (backTo pos (starEach args env)) (backToKw pos (keywordEach [] env)) = true := by
    unfold methodCallForm
    rw [starEach_eq hs, backTo_plain]
    have e1 : (List.map (fun e => (false, eval e env)) args).all (fun x => !x.1) = true := by simp
    have e2 : (backToKw pos (keywordEach [] env)) = [] := rfl
    rw [e1, e2]
    simp [hn]
  have hpos : methodCallPos true o env apos pos = pure pos := by unfold methodCallPos; simp [hline]
  unfold methodCall
  rw [hform]
  refine wpAny_bind (wpAny_holding (gm A κ _ V _ _ l R₁.s r fun Fs tk' rf => ?_))
  refine wpAny_bind (wpAny_of_eq hpos ?_)
  exact wp_no (call_args (first := first) hs p pos hA l f R₁ rf) fun _ _ x => x.trans q
theorem gm_of {ov : AV} {T : String} {name : Str} {id : String} (pa : PlainAttrs T) (slot : Slot T name id) (hty : typeOf (.builtin id) = pure (.type "method_descriptor")) (ht : ∀ (κ : Kap) (s : Shared) (O : Value), RepS κ σ s.heap → VRel κ.av s.heap ov O → s.TypeIs O T)
    (hd : ∀ (κ : Kap) (s : Shared) (O : Value), RepS κ σ s.heap → VRel κ.av s.heap ov O → ∀ a, O = .ref a → ∃ o, s.heap.get? a = some o ∧ o.dict = none) : GM Γ name ov σ (.builtin id) [ov] := fun A κ s OV pl Q l R r h =>
  getMethod_builtin (ht κ s OV R r) pa slot hty (hd κ s OV R r) (h _ s.toks (.cons r .nil))
theorem gm_list {a : Addr} {xs : List AV} {name : Str} {id : String} (hm : (a, .list xs) ∈ σ) (slot : Slot "list" name id) (hty : typeOf (.builtin id) = pure (.type "method_descriptor")) : GM Γ name (.ref a) σ (.builtin id) [.ref a] :=
  gm_of PySem.F.plainAttrs_list slot hty (fun κ s O R r => by cases r; obtain ⟨vs, n, e, _⟩ := R.list hm; exact ⟨_, e, rfl⟩) fun κ s O R r b e => by
    cases r; cases e; obtain ⟨vs, n, e, _⟩ := R.list hm; exact ⟨_, e, rfl⟩
theorem gm_append {a : Addr} {xs : List AV} (hm : (a, .list xs) ∈ σ) : GM Γ "append" (.ref a) σ (.builtin "list.append") [.ref a] := gm_list hm PySem.F.slot_list_append PySem.F.type_list_append
theorem gm_pop {a : Addr} {xs : List AV} (hm : (a, .list xs) ∈ σ) : GM Γ "pop" (.ref a) σ (.builtin "list.pop") [.ref a] := gm_list hm PySem.F.slot_list_pop PySem.F.type_list_pop
theorem gm_str {x : Str} {name : Str} {id : String} (slot : Slot "str" name id) (hty : typeOf (.builtin id) = pure (.type "method_descriptor")) : GM Γ name (.str x) σ (.builtin id) [.str x] :=
  gm_of PySem.F.plainAttrs_str slot hty (fun κ s O R r => by cases r; exact typeIs_str _ _ _) fun κ s O R r b e => by cases r; cases e
theorem gm_join {x : Str} : GM Γ "join" (.str x) σ (.builtin "str.join") [.str x] := gm_str PySem.F.slot_str_join PySem.F.type_str_join
theorem gm_count {x : Str} : GM Γ "count" (.str x) σ (.builtin "str.count") [.str x] := gm_str PySem.F.slot_str_count PySem.F.type_str_count
theorem gm_decode {b : Array UInt8} : GM Γ "decode" (.bytes b) σ (.builtin "bytes.decode") [.bytes b] :=
  gm_of PySem.W.FB.plainAttrs_bytes PySem.W.FB.slot_bytes_decode PySem.W.FB.type_bytes_decode (fun κ s O R r => by cases r; exact typeIs_bytes _ _ _) fun κ s O R r b e => by cases r; cases e

theorem cal_count {x y : Str} (h : P (.int (Builtin.Str.occurrences x y 0 x.length (x.length + 1)).length) σ) : Cal Γ k (.builtin "str.count") [.str x, .str y] σ P := fun _ κ s _ _ _ R r => by
  cases r with
  | cons a r =>
    cases a
    cases r with
    | cons a r =>
      cases a; cases r
      exact call_meets PySem.F.slot_str_count (typeIs_str _ _ _) PySem.F.entry_str_count (PySem.F.args_str_count_2 _ _) (gives_str_count x y _ _).meets ⟨_, σ, s.heap, _, rfl, R, .int _ _, h⟩
end
end Mine
namespace Mine

mutual
theorem VRel.avoid {av av' : Avd} {h : Heap} (k : ∀ a, av' a → av a ∨ h.get? a = none) : ∀ {x : AV} {v : Value}, VRel av h x v → VRel av' h x v
  | _, _, .none => .none
  | _, _, .bool b => .bool b
  | _, _, .int i t => .int i t
  | _, _, .str x t => .str x t
  | _, _, .bytes b t => .bytes b t
  | _, _, .tup n t r => .tup (fun ha => (k _ ha).elim n fun e => by obtain ⟨m, hm⟩ := t; rw [hm] at e; cases e) t (VRels.avoid k r)
  | _, _, .ref a => .ref a
  | _, _, .raw v => .raw v
theorem VRels.avoid {av av' : Avd} {h : Heap} (k : ∀ a, av' a → av a ∨ h.get? a = none) : ∀ {x : List AV} {v : List Value}, VRels av h x v → VRels av' h x v
  | _, _, .nil => .nil
  | _, _, .cons a b => .cons (VRel.avoid k a) (VRels.avoid k b)
end
theorem EnRel.avoid {av av' : Avd} {h : Heap} (k : ∀ a, av' a → av a ∨ h.get? a = none) {es : List (Str × AV)} {l : List DictEntry} (r : EnRel av h es l) : EnRel av' h es l := by
  induction r with
  | nil => exact .nil
  | cons a b _ ih => exact .cons a (b.avoid k) ih
theorem ORel.avoid {av av' : Avd} {h : Heap} (k : ∀ a, av' a → av a ∨ h.get? a = none) : ∀ {o : AO} {ob : Obj}, ORel av h o ob → ORel av' h o ob
  | .list _, _, ⟨vs, n, e, r⟩ => ⟨vs, n, e, r.avoid k⟩
  | .ns _, _, ⟨l, n, d, e⟩ => ⟨l, n, d, e.avoid k⟩
  | .inst _ _, _, e => e
  | .cell _, _, ⟨V, e, r⟩ => ⟨V, e, r.avoid k⟩
  | .obj _, _, e => e

abbrev avU (κ : Kap) (avs : List Addr) : Avd := fun a => κ.av a ∨ a ∈ avs
/-- what an iterator holds is protected too -/
noncomputable def shield (κ : Kap) (pv avs : List Addr) (h : Heap) (live : ∀ a ∈ pv, h.get? a ≠ none) (sub : ∀ a ∈ avs, a ∈ pv) : Kap where
  p b := if b ∈ pv then h.get? b else κ.p b
  av := avU κ avs
  ok a ha := by
    by_cases hp : a ∈ pv
    · rw [if_pos hp]; exact live a hp
    · rw [if_neg hp]
      rcases ha with ha | ha
      · exact κ.ok a ha
      · exact absurd (sub a ha) hp

/-- κ', av' in place of κ, av: the objects of the store as they were -/
theorem RepS.turn {κ κ' : Kap} {σ : Sto} {h h' : Heap} (R : RepS κ σ h) (pr : ∀ b o, κ'.p b = some o → h'.get? b = some o) (nw : ∀ a ∈ keys σ, κ'.p a = none) (hs : ∀ a ∈ keys σ, ∀ o, h.get? a = some o → h'.get? a = some o) (va : ∀ a, κ'.av a → κ.av a ∨ h.get? a = none) (tk : TK κ'.av h h') : RepS κ' σ h' where
  prot := pr
  objs p hp := let ⟨ob, e, r⟩ := R.objs p hp; ⟨ob, hs _ (List.mem_map_of_mem hp) _ e, (r.avoid va).mono tk⟩
  nodup := R.nodup
  new p hp := nw _ (List.mem_map_of_mem hp)
theorem FRel.turn {κ κ' : Kap} {env : Env} {loc : Loc} {σ : Sto} {h h' : Heap} (F : FRel κ env loc σ h) (hL : ∀ o, h.get? env.locals = some o → h'.get? env.locals = some o) (hC : ∀ b o V, h.get? b = some o → o.data = .cell V → h'.get? b = some o) (ln : κ'.p env.locals = none)
    (pc : ∀ b o V, h.get? b = some o → o.data = .cell V → κ'.p b = κ.p b) (vt : ∀ v V, VRel κ.av h v V → VRel κ'.av h' v V) (pr : ∀ b o, κ.p b = some o → h.get? b = some o) : FRel κ' env loc σ h' where
  ns := by
    obtain ⟨m, hn, hm⟩ := F.ns
    refine ⟨m, ?_, fun x v hx hk => let ⟨V, e, r⟩ := hm x v hx hk; ⟨V, e, vt _ _ r⟩⟩
    obtain ⟨o, es, ep, ho, r⟩ := hn
    exact ⟨o, es, ep, hL _ ho, r⟩
  cell x hx := by
    obtain ⟨c, V, hc, ⟨o, ho, hd⟩, hv⟩ := F.cell x hx
    exact ⟨c, V, hc, ⟨o, hC _ _ _ ho hd, hd⟩, fun v h => let ⟨V', e, r⟩ := hv v h; ⟨V', e, vt _ _ r⟩⟩
  free x v hx hk := let ⟨c, o, V, a, b, d, e⟩ := F.free x v hx hk; ⟨c, o, V, a, by rw [pc c o _ (pr _ _ b) d]; exact b, d, vt _ _ e⟩
  apart := F.apart
  Lnew := ⟨ln, F.Lnew.2⟩
  cnew x c hx hc := by
    obtain ⟨c', V, hc', ⟨o, ho, hd⟩, _⟩ := F.cell x hx
    rw [hc] at hc'; cases hc'
    rw [pc c o _ ho hd]
    exact F.cnew x c hx hc

/-- an iterator -/
structure Itr (Γ : Gd) (k : Nat) (target : Expr) where
  IT : Value
  pv : List Addr
  avs : List Addr
  src : Sto
  cv : List (AV × Value)
  Inv : List AV → Heap → Prop
  sub : ∀ a ∈ avs, a ∈ pv
  live : ∀ vs h, Inv vs h → ∀ a ∈ pv, ∃ o, h.get? a = some o ∧ (a ∉ avs → o.cls ≠ .type "tuple") ∧ ∀ V, o.data ≠ .cell V
  frame : ∀ vs h h', Inv vs h → (∀ a ∈ pv, ∀ o, h.get? a = some o → h'.get? a = some o) → Inv vs h'
  self : ∀ A vs (s : Shared) (Q : Value → Shared → Prop), Inv vs s.heap → Q IT s → wpAny Γ.M A (pyIter IT) Q No s
  next : ∀ A κ σ (s : Shared) v vs (Q : Value → Shared → Prop), AOk k A → Γ.le κ → RepS κ σ s.heap → (∀ a ∈ pv, κ.p a = s.heap.get? a) → (∀ a ∈ avs, κ.av a) → (∀ p ∈ src, p ∈ σ) → (∀ p ∈ cv, VRel κ.av s.heap p.1 p.2) → Inv (v :: vs) s.heap →
    (∀ V h' tk, (∀ b o, b ∉ pv → s.heap.get? b = some o → h'.get? b = some o) → (∀ a ∈ pv, h'.get? a ≠ none) → (TK κ.av s.heap h' → VRel κ.av h' v V) → Inv vs h' → Q V { s with heap := h', toks := tk }) → wpAny Γ.M A (pyNext IT) (fun r s₁ => ∃ V, r = some V ∧ wpAny Γ.M A (letOwnedTupleGo target IT V) (fun _ s₂ => Q V s₂) No s₁) No s
  done : ∀ A κ σ (s : Shared) (Q : Shared → Prop), AOk k A → Γ.le κ → RepS κ σ s.heap → (∀ a ∈ pv, κ.p a = s.heap.get? a) → (∀ p ∈ src, p ∈ σ) → (∀ p ∈ cv, VRel κ.av s.heap p.1 p.2) → Inv [] s.heap →
    (∀ h' tk, (∀ b o, b ∉ pv → s.heap.get? b = some o → h'.get? b = some o) → Q { s with heap := h', toks := tk }) → wpAny Γ.M A (pyNext IT) (fun r s₁ => r = none ∧ Q s₁) No s

theorem Itr.lv {Γ : Gd} {k : Nat} {target : Expr} (I : Itr Γ k target) {vs : List AV} {h : Heap} (i : I.Inv vs h) : ∀ a ∈ I.pv, h.get? a ≠ none := fun a ha e => by
  obtain ⟨o, ho, _⟩ := I.live vs h i a ha
  rw [ho] at e; cases e

abbrev PstF (κ : Kap) (avs : List Addr) (env : Env) (s : Shared) (P : AFl → Loc → Sto → Prop) : Result → Shared → Prop := fun r s' => match r with
  | .ok f => ∃ fl loc' σ' h' tk, s' = { s with heap := h', toks := tk } ∧ TK (avU κ avs) s.heap h' ∧ Rep κ env loc' σ' h' ∧ FlRel κ.av h' fl f ∧ P fl loc' σ'
  | .error _ => False
theorem PstF.trans {κ : Kap} {avs : List Addr} {env : Env} {s : Shared} {h₁ : Heap} {tk₁ : Nat} {P : AFl → Loc → Sto → Prop} {r : Result} {s' : Shared} (tk : TK (avU κ avs) s.heap h₁) (h : PstF κ avs env { s with heap := h₁, toks := tk₁ } P r s') : PstF κ avs env s P r s' := by
  cases r with
  | ok f => obtain ⟨fl, l, σ', h', t, e, q, R, r, p⟩ := h; exact ⟨fl, l, σ', h', t, e, tk.trans q, R, r, p⟩
  | error _ => exact h

section
variable {Γ : Gd} {k : Nat} {sc : Scope} {loc : Loc} {σ : Sto} {target : Expr} {body : List Stmt} {P : AFl → Loc → Sto → Prop}

noncomputable def ForI (sc : Scope) (body : List Stmt) (I : Itr Γ k target) (vs : List AV) (loc : Loc) (σ : Sto) (P : AFl → Loc → Sto → Prop) : Prop :=
  ∀ A κ env s (i : I.Inv vs s.heap), AOk k A → Γ.le κ → Fits sc env → (∀ a ∈ I.pv, κ.p a = none) → Rep (shield κ I.pv I.avs s.heap (I.lv i) I.sub) env loc σ s.heap → (∀ p ∈ I.src, p ∈ σ) → (∀ p ∈ I.cv, VRel (avU κ I.avs) s.heap p.1 p.2) →
    codeAny Γ.M A (.forLoop target I.IT body [] env) (PstF κ I.avs env s P) s

/-- back to what was protected before -/
theorem unshield {κ : Kap} {pv avs : List Addr} {h₀ h : Heap} {l : ∀ a ∈ pv, h₀.get? a ≠ none} {sb : ∀ a ∈ avs, a ∈ pv} {env : Env} (R : Rep (shield κ pv avs h₀ l sb) env loc σ h) (hn : ∀ a ∈ pv, κ.p a = none) (hc : ∀ a ∈ pv, ∀ o, h₀.get? a = some o → ∀ V, o.data ≠ .cell V) : Rep κ env loc σ h := by
  have hp : ∀ b o, κ.p b = some o → (shield κ pv avs h₀ l sb).p b = some o := fun b o e => by
    show (if b ∈ pv then h₀.get? b else κ.p b) = some o
    rw [if_neg (fun hb => by rw [hn b hb] at e; cases e)]; exact e
  have hq : ∀ b, (shield κ pv avs h₀ l sb).p b = none → κ.p b = none := fun b e => by
    cases e' : κ.p b with
    | none => rfl
    | some o => rw [hp b o e'] at e; cases e
  refine ⟨R.s.turn (fun b o e => R.s.prot b o (hp b o e)) (fun a ha => hq a ?_) (fun _ _ _ e => e) (fun a ha => .inl (.inl ha)) (.refl _), ?_⟩
  · obtain ⟨p, hp', rfl⟩ := List.mem_map.mp ha; exact R.s.new p hp'
  · exact {
      ns := let ⟨m, hn', hm⟩ := R.f.ns; ⟨m, hn', fun x v hx hk => let ⟨V, a, b⟩ := hm x v hx hk; ⟨V, a, b.avoid fun a ha => .inl (.inl ha)⟩⟩
      cell := fun x hx => let ⟨c, V, a, b, d⟩ := R.f.cell x hx; ⟨c, V, a, b, fun v h => let ⟨V', e, r⟩ := d v h; ⟨V', e, r.avoid fun a ha => .inl (.inl ha)⟩⟩
      free := fun x v hx hk => by
        obtain ⟨c, o, V, a, b, d, e⟩ := R.f.free x v hx hk
        refine ⟨c, o, V, a, ?_, d, e.avoid fun a ha => .inl (.inl ha)⟩
        have b' : (if c ∈ pv then h₀.get? c else κ.p c) = some o := b
        by_cases hm : c ∈ pv
        · rw [if_pos hm] at b'; exact absurd d (hc c hm o b' _)
        · rw [if_neg hm] at b'; exact b'
      apart := R.f.apart
      Lnew := ⟨hq _ R.f.Lnew.1, R.f.Lnew.2⟩
      cnew := fun x c hx hcc => by
        obtain ⟨a, b, d⟩ := R.f.cnew x c hx hcc
        exact ⟨a, fun hf => hq _ (b hf), fun o e => d o (hp _ _ e)⟩ }
/-- the objects that an iterator holds turned, all else as it was -/
theorem reshield {κ : Kap} {pv avs : List Addr} {h₁ h h' : Heap} {l₁ : ∀ a ∈ pv, h₁.get? a ≠ none} {l₂ : ∀ a ∈ pv, h'.get? a ≠ none} {sb : ∀ a ∈ avs, a ∈ pv} {env : Env} (R : Rep (shield κ pv avs h₁ l₁ sb) env loc σ h)
    (hk : ∀ b o, b ∉ pv → h.get? b = some o → h'.get? b = some o) (hc : ∀ a ∈ pv, ∀ o, h₁.get? a = some o → (a ∉ avs → o.cls ≠ .type "tuple") ∧ ∀ V, o.data ≠ .cell V) : TK (avU κ avs) h h' ∧ Rep (shield κ pv avs h' l₂ sb) env loc σ h' := by
  have live1 : ∀ a ∈ pv, ∃ o, h₁.get? a = some o ∧ h.get? a = some o := fun a ha => by
    cases e : h₁.get? a with
    | none => exact absurd e (l₁ a ha)
    | some o => exact ⟨o, rfl, R.s.prot a o (by show (if a ∈ pv then h₁.get? a else κ.p a) = some o; rw [if_pos ha]; exact e)⟩
  have out : ∀ a, (shield κ pv avs h₁ l₁ sb).p a = none → a ∉ pv := fun a e ha => by
    obtain ⟨o, e1, _⟩ := live1 a ha
    have e' : (if a ∈ pv then h₁.get? a else κ.p a) = none := e
    rw [if_pos ha, e1] at e'; cases e'
  have nn : ∀ a, (shield κ pv avs h₁ l₁ sb).p a = none → (shield κ pv avs h' l₂ sb).p a = none := fun a e => by
    have ha := out a e
    have e' : (if a ∈ pv then h₁.get? a else κ.p a) = none := e
    show (if a ∈ pv then h'.get? a else κ.p a) = none
    rw [if_neg ha] at e' ⊢; exact e'
  have tk : TK (avU κ avs) h h' := fun a vs na ⟨n, e⟩ => by
    refine ⟨n, hk a _ (fun ha => ?_) e⟩
    obtain ⟨o, e1, e2⟩ := live1 a ha
    rw [e] at e2; cases e2
    exact (hc a ha _ e1).1 (fun hm => na (.inr hm)) rfl
  refine ⟨tk, R.s.turn (fun b o e => ?_) (fun a ha => nn a ?_) (fun a ha o e => hk a o (out a ?_) e) (fun a ha => .inl ha) tk, R.f.turn (fun o ho => hk _ o (out _ R.f.Lnew.1) ho) (fun b o V ho hd => hk b o (fun hb => ?_) ho) (nn _ R.f.Lnew.1) (fun b o V ho hd => ?_) (fun _ _ r => r.mono tk) R.s.prot⟩
  · have e' : (if b ∈ pv then h'.get? b else κ.p b) = some o := e
    by_cases hb : b ∈ pv
    · rw [if_pos hb] at e'; exact e'
    · rw [if_neg hb] at e'
      exact hk b o hb (R.s.prot b o (by show (if b ∈ pv then h₁.get? b else κ.p b) = some o; rw [if_neg hb]; exact e'))
  · obtain ⟨p, hp, rfl⟩ := List.mem_map.mp ha; exact R.s.new p hp
  · obtain ⟨p, hp, rfl⟩ := List.mem_map.mp ha; exact R.s.new p hp
  · obtain ⟨o', e1, e2⟩ := live1 b hb
    rw [ho] at e2; cases e2
    exact (hc b hb o e1).2 _ hd
  · have hb : b ∉ pv := fun hb => by
      obtain ⟨o', e1, e2⟩ := live1 b hb
      rw [ho] at e2; cases e2
      exact (hc b hb o e1).2 _ hd
    show (if b ∈ pv then h'.get? b else κ.p b) = (if b ∈ pv then h₁.get? b else κ.p b)
    rw [if_neg hb, if_neg hb]
/-- an iterator just made -/
theorem shield_new {κ : Kap} {pv avs : List Addr} {h h' : Heap} {l : ∀ a ∈ pv, h'.get? a ≠ none} {sb : ∀ a ∈ avs, a ∈ pv} {env : Env} (R : Rep κ env loc σ h) (hk : ∀ b o, h.get? b = some o → h'.get? b = some o) (hn : ∀ a ∈ pv, h.get? a = none) :
    (∀ a ∈ pv, κ.p a = none) ∧ Rep (shield κ pv avs h' l sb) env loc σ h' := by
  have out : ∀ a o, h.get? a = some o → a ∉ pv := fun a o e ha => by rw [hn a ha] at e; cases e
  have pn : ∀ a ∈ pv, κ.p a = none := fun a ha => by
    cases e : κ.p a with
    | none => rfl
    | some o => exact absurd ha (out a o (R.s.prot a o e))
  have nn : ∀ a o, h.get? a = some o → κ.p a = none → (shield κ pv avs h' l sb).p a = none := fun a o ho e => by
    show (if a ∈ pv then h'.get? a else κ.p a) = none
    rw [if_neg (out a o ho)]; exact e
  have va : ∀ a, (shield κ pv avs h' l sb).av a → κ.av a ∨ h.get? a = none := fun a ha => ha.imp id fun hm => hn a (sb a hm)
  have lo : ∃ o, h.get? env.locals = some o := let ⟨m, ⟨o, _, _, ho, _⟩, _⟩ := R.f.ns; ⟨o, ho⟩
  refine ⟨pn, R.s.turn (fun b o e => ?_) (fun a ha => ?_) (fun a ha o e => hk a o e) va (.of_keeps hk), R.f.turn (fun o ho => hk _ o ho) (fun b o V ho hd => hk b o ho) (let ⟨o, ho⟩ := lo; nn _ o ho R.f.Lnew.1) (fun b o V ho hd => ?_) (fun _ _ r => (r.avoid va).mono (.of_keeps hk)) R.s.prot⟩
  · have e' : (if b ∈ pv then h'.get? b else κ.p b) = some o := e
    by_cases hb : b ∈ pv
    · rw [if_pos hb] at e'; exact e'
    · rw [if_neg hb] at e'; exact hk b o (R.s.prot b o e')
  · obtain ⟨o, ho, _⟩ := R.s.live ha
    obtain ⟨p, hp, rfl⟩ := List.mem_map.mp ha; exact nn _ o ho (R.s.new p hp)
  · show (if b ∈ pv then h'.get? b else κ.p b) = κ.p b
    rw [if_neg (out b o ho)]

theorem le_shield {κ : Kap} {pv avs : List Addr} {h : Heap} {l : ∀ a ∈ pv, h.get? a ≠ none} {sb : ∀ a ∈ avs, a ∈ pv} (le : Γ.le κ) (hn : ∀ a ∈ pv, κ.p a = none) : Γ.le (shield κ pv avs h l sb) := fun b o e => by
  show (if b ∈ pv then h.get? b else κ.p b) = some o
  rw [if_neg (fun hb => by have := le b o e; rw [hn b hb] at this; cases this)]; exact le b o e

theorem forI_tree {it : Value} {A : Around} {env : Env} {R : Result → Shared → Prop} {s : Shared}
    (h : wpAny Γ.M A (pyNext it) (fun r s₁ => match r with
      | none => R (.ok .next) s₁
      | some v => wpAny Γ.M A (letOwnedTupleGo target it v) (fun _ s₁ => wpAny Γ.M A (assign target env v) (fun _ s₂ => wpAny Γ.M A (execs body env) (fun f s₃ => match f with
          | .next | .cont => codeAny Γ.M A (.forLoop target it body [] env) R s₃
          | .brk => R (.ok .next) s₃
          | .ret v => R (.ok (.ret v)) s₃) No s₂) No s₁) No s₁) No s) : codeAny Γ.M A (.forLoop target it body [] env) R s := by
  refine codeAny_of_tree ?_
  show wpAny _ A ((forTurn target it body [] env).onRaise (fun x => do noteFrame x env; theTreesLotGoes x)) _ _ s
  refine wpAny_noted ?_
  simp only [forTurn]
  refine wpAny_bind (wpAny_standAt (wpAny_bind (wpAny_onRaise (wpAny_mono h (fun r s₁ h₁ => ?_) fun _ _ x => x.elim))))
  cases r with
  | none => exact wpAny_pure ⟨rfl, codeAny_block (wpAny_execs_nil h₁)⟩
  | some v =>
    refine wpAny_bind (wp_no h₁ fun _ s₂ h₂ => wpAny_bind (wp_no h₂ fun _ s₃ h₃ => wpAny_bind (wp_no h₃ fun f s₄ h₄ => ?_)))
    cases f with
    | next => exact wpAny_pure ⟨rfl, h₄⟩
    | cont => exact wpAny_pure ⟨rfl, h₄⟩
    | brk => exact wpAny_pure h₄
    | ret v => exact wpAny_pure h₄

theorem Itr.cells {I : Itr Γ k target} {vs : List AV} {h : Heap} (i : I.Inv vs h) : ∀ a ∈ I.pv, ∀ o, h.get? a = some o → (a ∉ I.avs → o.cls ≠ .type "tuple") ∧ ∀ V, o.data ≠ .cell V := fun a ha o e => by
  obtain ⟨o', e', p⟩ := I.live vs h i a ha
  rw [e] at e'; cases e'; exact p

theorem forI_nil {I : Itr Γ k target} (h : P .next loc σ) : ForI sc body I [] loc σ P := fun A κ env s i hA le f hn R hs hcv => by
  refine forI_tree (wp_no (I.done A _ σ s (fun s' => PstF κ I.avs env s P (.ok .next) s') hA (le_shield le hn) R.s (fun a ha => ?_) hs hcv i fun h' tk hk => ?_) fun r s₁ pst0 => ?_)
  · show (if a ∈ I.pv then s.heap.get? a else κ.p a) = s.heap.get? a
    rw [if_pos ha]
  · have U := unshield R hn (fun a ha o e => (Itr.cells i a ha o e).2)
    have tk' : TK (avU κ I.avs) s.heap h' := fun a vs na ⟨n, e⟩ => ⟨n, hk a _ (fun ha => (Itr.cells i a ha _ e).1 (fun hm => na (.inr hm)) rfl) e⟩
    have out : ∀ a, κ.p a = none → (∃ o, s.heap.get? a = some o ∧ (shield κ I.pv I.avs s.heap (I.lv i) I.sub).p a = none) → a ∉ I.pv := fun a _ ⟨o, ho, e⟩ ha => by
      have e' : (if a ∈ I.pv then s.heap.get? a else κ.p a) = none := e
      rw [if_pos ha, ho] at e'; cases e'
    refine ⟨.next, loc, σ, h', tk, rfl, tk', ?_, .next, h⟩
    have R2 : RepS κ σ h' := {
      prot := fun b o e => hk b o (fun hb => by rw [hn b hb] at e; cases e) (U.s.prot b o e)
      objs := fun p hp => by
        obtain ⟨ob, e, r⟩ := R.s.objs p hp
        have hnp : p.1 ∉ I.pv := out p.1 (U.s.new p hp) ⟨ob, e, R.s.new p hp⟩
        exact ⟨ob, hk _ _ hnp e, (r.mono tk').avoid fun a ha => .inl (.inl ha)⟩
      nodup := U.s.nodup
      new := U.s.new }
    refine ⟨R2, ?_⟩
    have pvc : ∀ b o V, s.heap.get? b = some o → o.data = .cell V → b ∉ I.pv := fun b o V ho hd hb => (Itr.cells i b hb o ho).2 _ hd
    refine R.f.turn (κ' := κ) (fun o ho => hk _ o (out _ U.f.Lnew.1 ⟨o, ho, R.f.Lnew.1⟩) ho) (fun b o V ho hd => hk b o (pvc b o V ho hd) ho) U.f.Lnew.1 (fun b o V ho hd => ?_) (fun _ _ r => (r.mono tk').avoid fun a ha => .inl (.inl ha)) R.s.prot
    show κ.p b = (if b ∈ I.pv then s.heap.get? b else κ.p b)
    rw [if_neg (pvc b o V ho hd)]
  · obtain ⟨e, q⟩ := pst0; subst e; exact q

theorem forI_cons {I : Itr Γ k target} {v : AV} {vs : List AV} (h : Asg Γ k sc target v loc σ fun loc₁ σ₁ => Exs Γ k sc body loc₁ σ₁ (Turn P fun l σ' => (∀ p ∈ I.src, p ∈ σ') ∧ ForI sc body I vs l σ' P)) : ForI sc body I (v :: vs) loc σ P := fun A κ env s i hA le f hn R hs hcv => by
  refine forI_tree (wp_no (I.next A _ σ s v vs (fun V s₁ => ∃ h' tk, s₁ = { s with heap := h', toks := tk } ∧ TK (avU κ I.avs) s.heap h' ∧ ∃ (i' : I.Inv vs h'), Rep (shield κ I.pv I.avs h' (I.lv i') I.sub) env loc σ h' ∧ VRel (avU κ I.avs) h' v V) hA (le_shield le hn) R.s (fun a ha => ?_) (fun a ha => .inr ha) hs hcv i fun V h' tk hk hl hv i' => ?_) fun r s₁ pst0 => ?_)
  · show (if a ∈ I.pv then s.heap.get? a else κ.p a) = s.heap.get? a
    rw [if_pos ha]
  · obtain ⟨tk', R'⟩ := reshield (l₂ := I.lv i') R hk (Itr.cells i)
    exact ⟨h', tk, rfl, tk', i', R', hv tk'⟩
  · obtain ⟨V, e, q⟩ := pst0
    subst e
    refine wp_no q fun _ s₂ pst0 => ?_
    obtain ⟨h₂, tk₂, e₂, q₂, i₂, R₂, r₂⟩ := pst0
    subst e₂
    refine wpA (h A _ env _ V hA (le_shield le hn) f R₂ r₂) fun l₃ σ₃ h₃ tk₃ q₃ R₃ p₃ => ?_
    refine wpX (p₃ A _ env _ hA (le_shield le hn) f R₃) fun fl g l₄ σ₄ h₄ tk₄ q₄ R₄ r₄ p₄ => ?_
    have tkA : TK (avU κ I.avs) s.heap h₄ := (q₂.trans q₃).trans q₄
    have i₄ : I.Inv vs h₄ := I.frame vs h₂ h₄ i₂ fun a ha o e => R₄.s.prot a o (by show (if a ∈ I.pv then h₂.get? a else κ.p a) = some o; rw [if_pos ha]; exact e)
    have R₅ : Rep (shield κ I.pv I.avs h₄ (I.lv i₄) I.sub) env l₄ σ₄ h₄ := (reshield (l₂ := I.lv i₄) R₄ (fun _ _ _ e => e) (Itr.cells i₂)).2
    have go : (∀ p ∈ I.src, p ∈ σ₄) ∧ ForI sc body I vs l₄ σ₄ P → codeAny Γ.M A (.forLoop target I.IT body [] env) (PstF κ I.avs env s P) { s with heap := h₄, toks := tk₄ } := fun ⟨hs', again⟩ =>
      codeAny_mono (again A κ env { s with heap := h₄, toks := tk₄ } i₄ hA le f hn R₅ hs' fun p hp => (hcv p hp).mono tkA) fun r s₅ x => x.trans (tk₁ := tk₄) tkA
    have U : Rep κ env l₄ σ₄ h₄ := unshield R₅ hn (fun a ha o e => (Itr.cells i₄ a ha o e).2)
    cases r₄ with
    | next => exact go p₄
    | cont => exact go p₄
    | brk => exact ⟨_, _, _, _, _, rfl, tkA, U, .next, p₄⟩
    | ret r => exact ⟨_, _, _, _, _, rfl, tkA, U, .ret (r.avoid fun a ha => .inl (.inl ha)), p₄⟩

/-- a for over an iterator that is there -/
noncomputable def For (Γ : Gd) (k : Nat) (sc : Scope) (target : Expr) (body : List Stmt) (src : Sto) (vs : List AV) (loc : Loc) (σ : Sto) (P : AFl → Loc → Sto → Prop) : Prop :=
  ∀ I : Itr Γ k target, I.src = src → ForI sc body I vs loc σ P
theorem for_nil {src : Sto} (h : P .next loc σ) : For Γ k sc target body src [] loc σ P := fun I _ => forI_nil h
theorem for_cons {src : Sto} {v : AV} {vs : List AV} (h : Asg Γ k sc target v loc σ fun loc₁ σ₁ => Exs Γ k sc body loc₁ σ₁ (Turn P fun l σ' => (∀ p ∈ src, p ∈ σ') ∧ For Γ k sc target body src vs l σ' P)) : For Γ k sc target body src (v :: vs) loc σ P := fun I e => by
  subst e
  refine forI_cons fun A κ env s V hA le f R r => wpA (h A κ env s V hA le f R r) fun l σ' h' tk b c d => ⟨l, σ', h', tk, rfl, b, c, exs_mono d fun fl l₂ σ₂ t => ?_⟩
  cases fl with
  | next => exact ⟨t.1, t.2 I rfl⟩
  | cont => exact ⟨t.1, t.2 I rfl⟩
  | brk => exact t
  | ret v => exact t
end
end Mine
namespace Mine
section
variable {Γ : Gd} {k : Nat} {sc : Scope} {loc : Loc} {σ : Sto} {target : Expr} {body : List Stmt} {P : AFl → Loc → Sto → Prop}

/-- targets that we meet -/
inductive Tgt : Expr → Prop
  | name (x : Str) (p : Pos) : Tgt (.Name x p)
  | tup (es : List Expr) (n : Nat) (p : Pos) : Tgt (.Tuple es n p)

theorem letOwned_plain (T : Tgt target) {M : Model} {A : Around} {E : Value → Shared → Prop} {s : Shared} {I : Addr} {V : Value} {o : Obj} {ty : String} {fs : Array Value} {Q : Unit → Shared → Prop} (ho : s.heap.get? I = some o) (hc : o.cls = .type ty) (hd : o.data = .fields fs)
    (hn : (["enumerate", "zip", "dict_itemiterator", "dict_reverseitemiterator", "odict_iterator", "itertools.zip_longest", "itertools.pairwise"].contains ty) = false) (h : Q () s) : wpAny M A (letOwnedTupleGo target (.ref I) V) Q E s := by
  cases T with
  | name x p => exact wpAny_pure h
  | tup es n p =>
    cases V with
    | ref T =>
      unfold letOwnedTupleGo
      refine wpAny_bind (wpAny_load ho ?_)
      rw [hc, hd]
      show wpAny _ A (if (["enumerate", "zip", "dict_itemiterator", "dict_reverseitemiterator", "odict_iterator", "itertools.zip_longest", "itertools.pairwise"].contains ty && fs[0]? == some (rawInt T)) = true then _ else _) Q E s
      rw [if_neg (by rw [hn, Bool.false_and]; simp)]
      exact wpAny_pure h
    | _ => exact wpAny_pure h

/-- an iterator made of a value -/
noncomputable def Mk (Γ : Gd) (k : Nat) (target : Expr) (v : AV) (σ : Sto) (src : Sto) (vs : List AV) : Prop :=
  ∀ A κ (s : Shared) V, AOk k A → Γ.le κ → RepS κ σ s.heap → VRel κ.av s.heap v V → wpAny Γ.M A (pyIter V) (fun it s' => ∃ (I : Itr Γ k target) (h' : Heap) (tk : Nat), s' = { s with heap := h', toks := tk } ∧ I.src = src ∧ I.avs = [] ∧ it = I.IT ∧ I.Inv vs h' ∧ (∀ b o, s.heap.get? b = some o → h'.get? b = some o) ∧ (∀ a ∈ I.pv, s.heap.get? a = none) ∧ ∀ p ∈ I.cv, VRel κ.av s.heap p.1 p.2) No s

theorem ex_for {iter : Expr} {pos : Pos} (h : Ev Γ k sc iter loc σ fun v σ₁ => ∃ src vs, Mk Γ k target v σ₁ src vs ∧ (∀ p ∈ src, p ∈ σ₁) ∧ For Γ k sc target body src vs loc σ₁ P) (hs : ∀ env x, foldedSetIterable iter env x = pure x) : Ex Γ k sc (.For target iter body [] pos) loc σ P := fun A κ env s hA le f R => by
  refine wpAny_For (wp_no (h A κ env s hA le f R) fun V s₁ pst => ?_) (hs env)
  obtain ⟨v, σ₁, h₁, tk₁, e₁, q₁, R₁, r₁, src, vs, mk, hsr, p⟩ := pst
  subst e₁
  refine wp_no (mk A κ _ V hA le R₁.s r₁) fun it s₂ pst0 => ?_
  obtain ⟨I, h₂, tk₂, e₂, es, _, ei, i, hk, hn, hcv⟩ := pst0
  subst e₂; subst ei; subst es
  obtain ⟨pn, R₂⟩ := shield_new (avs := I.avs) (l := I.lv i) (sb := I.sub) R₁ hk hn
  refine codeAny_mono (p I rfl A κ env { s with heap := h₂, toks := tk₂ } i hA le f pn R₂ hsr fun p hp => ((hcv p hp).avoid fun a ha => ha.imp id fun hm => hn a (I.sub a hm)).mono (.of_keeps hk)) fun r s₃ x => ?_
  cases r with
  | error _ => exact x.elim
  | ok fl =>
    obtain ⟨g, l₃, σ₃, h₃, tk₃, e₃, q₃, R₃, r₃, p₃⟩ := x
    refine ⟨g, l₃, σ₃, h₃, tk₃, e₃, q₁.trans fun a vs na t => q₃ a vs (fun ha => ?_) (TK.of_keeps (av := κ.av) hk a vs na t), R₃, r₃, p₃⟩
    rcases ha with ha | ha
    · exact na ha
    · obtain ⟨n, e⟩ := t; rw [hn a (I.sub a ha)] at e; cases e

/-! lists -/
noncomputable def itrList (T : Tgt target) (I a : Addr) (xs : List AV) : Itr Γ k target where
  IT := .ref I
  pv := [I]
  avs := []
  src := [(a, .list xs)]
  cv := []
  Inv vs h := ∃ i, h.IsListIter I a i ∧ vs = xs.drop i
  sub a ha := nomatch ha
  live vs h := fun ⟨i, ⟨o, ho, hc, hd⟩, _⟩ b hb => by
    rw [List.mem_singleton] at hb; subst hb
    exact ⟨o, ho, fun _ => by rw [hc]; decide, fun V e => by rw [hd] at e; cases e⟩
  frame vs h h' := fun ⟨i, ⟨o, ho, r⟩, e⟩ hk => ⟨i, ⟨o, hk I (List.mem_singleton.mpr rfl) o ho, r⟩, e⟩
  self A vs s Q := fun ⟨i, hit, _⟩ q => wpAny_pyIter_listiter hit q
  next A κ σ s v vs Q hA le R hp ha hs _ i hQ := by
    obtain ⟨i, hit, e⟩ := i
    have hm := hs _ (List.mem_singleton.mpr rfl)
    obtain ⟨ws, n, el, rs⟩ := R.list hm
    have hx : xs[i]? = some v := by
      have := congrArg (fun l => l[0]?) e
      simpa using this.symm
    obtain ⟨V, hv, rv⟩ := rs.get hx
    refine wpAny_pyNext_list_item hit (items := ws.toArray) ⟨_, el, rfl, n, rfl⟩ (x := V) (by simpa using hv) fun h' hit' hsb => ⟨V, rfl, ?_⟩
    obtain ⟨o', ho', hc', hd'⟩ := id hit'
    refine letOwned_plain T (s := { s with heap := h' }) ho' hc' hd' (by decide) (hQ V h' s.toks (fun b o hb hbo => hsb.extBut b o (fun e => hb (e ▸ List.mem_singleton.mpr rfl)) hbo) (fun b hb => ?_) (fun tk => rv.mono tk) ⟨i + 1, hit', ?_⟩)
    · rw [List.mem_singleton] at hb; subst hb; rw [ho']; simp
    · have := congrArg List.tail e
      simpa using this
  done A κ σ s Q hA le R hp hs _ i hQ := by
    obtain ⟨i, hit, e⟩ := i
    have hm := hs _ (List.mem_singleton.mpr rfl)
    obtain ⟨ws, n, el, rs⟩ := R.list hm
    have hx : xs.length ≤ i := by simpa using e.symm
    exact wpAny_pyNext_list_end hA.1 hit (items := ws.toArray) ⟨_, el, rfl, n, rfl⟩ (by simp; rw [rs.length]; exact hx) fun h' he => ⟨rfl, hQ h' s.toks fun b o hb hbo => he b o (fun e => hb (e ▸ List.mem_singleton.mpr rfl)) hbo⟩
theorem mk_list (T : Tgt target) {a : Addr} {xs : List AV} (hm : (a, .list xs) ∈ σ) : Mk Γ k target (.ref a) σ [(a, .list xs)] xs := fun A κ s V hA le R r => by
  cases r
  obtain ⟨vs, n, e, rs⟩ := R.list hm
  exact wpAny_pyIter_list (items := vs.toArray) ⟨_, e, rfl, n, rfl⟩ ⟨itrList T s.heap.objs.size a xs, _, s.toks, rfl, rfl, rfl, rfl, ⟨0, ⟨_, Heap.get?_push_size _ rfl, rfl, rfl⟩, by simp⟩, push_keeps _, fun b hb => by rw [List.mem_singleton.mp hb]; exact size_new, fun _ h => nomatch h⟩

/-! tuples -/
noncomputable def itrTup (T : Tgt target) (I a : Addr) (xs : List AV) : Itr Γ k target where
  IT := .ref I
  pv := [I]
  avs := []
  src := []
  cv := [(.tup xs, .ref a)]
  Inv vs h := ∃ i, h.IsTupleIter I a i ∧ vs = xs.drop i
  sub a ha := nomatch ha
  live vs h := fun ⟨i, ⟨o, ho, hc, hd⟩, _⟩ b hb => by
    rw [List.mem_singleton] at hb; subst hb
    exact ⟨o, ho, fun _ => by rw [hc]; decide, fun V e => by rw [hd] at e; cases e⟩
  frame vs h h' := fun ⟨i, ⟨o, ho, r⟩, e⟩ hk => ⟨i, ⟨o, hk I (List.mem_singleton.mpr rfl) o ho, r⟩, e⟩
  self A vs s Q := fun ⟨i, hit, _⟩ q => wpAny_pyIter_tupleiter hit q
  next A κ σ s v vs Q hA le R hp ha hs hcv i hQ := by
    obtain ⟨i, hit, e⟩ := i
    cases hcv _ (List.mem_singleton.mpr rfl) with
    | tup na t rs =>
      rename_i ws
      have hx : xs[i]? = some v := by
        have := congrArg (fun l => l[0]?) e
        simpa using this.symm
      obtain ⟨V, hv, rv⟩ := rs.get hx
      refine wpAny_pyNext_tuple_item hit (items := ws.toArray) t.isTuple (x := V) (by simpa using hv) fun h' hit' hsb => ⟨V, rfl, ?_⟩
      obtain ⟨o', ho', hc', hd'⟩ := id hit'
      refine letOwned_plain T (s := { s with heap := h' }) ho' hc' hd' (by decide) (hQ V h' s.toks (fun b o hb hbo => hsb.extBut b o (fun e => hb (e ▸ List.mem_singleton.mpr rfl)) hbo) (fun b hb => ?_) (fun tk => rv.mono tk) ⟨i + 1, hit', ?_⟩)
      · rw [List.mem_singleton] at hb; subst hb; rw [ho']; simp
      · have := congrArg List.tail e
        simpa using this
  done A κ σ s Q hA le R hp hs hcv i hQ := by
    obtain ⟨i, hit, e⟩ := i
    cases hcv _ (List.mem_singleton.mpr rfl) with
    | tup na t rs =>
      rename_i ws
      have hx : xs.length ≤ i := by simpa using e.symm
      exact wpAny_pyNext_tuple_end hA.1 hit (items := ws.toArray) t.isTuple (by simp; rw [rs.length]; exact hx) fun h' he => ⟨rfl, hQ h' s.toks fun b o hb hbo => he b o (fun e => hb (e ▸ List.mem_singleton.mpr rfl)) hbo⟩
theorem mk_tup (T : Tgt target) {xs : List AV} : Mk Γ k target (.tup xs) σ [] xs := fun A κ s V hA le R r => by
  cases r with
  | tup na t rs =>
    exact wpAny_pyIter_tuple t.isTuple ⟨itrTup T s.heap.objs.size _ xs, _, s.toks, rfl, rfl, rfl, rfl, ⟨0, ⟨_, Heap.get?_push_size _ rfl, rfl, rfl⟩, by simp⟩, push_keeps _, fun b hb => by rw [List.mem_singleton.mp hb]; exact size_new, fun p hp => by rw [List.mem_singleton.mp hp]; exact .tup na t rs⟩

/-! texts -/
noncomputable def chars (x : Str) : List AV := x.cps.toList.map fun c => .str (ofL [c])
noncomputable def itrStr (T : Tgt target) (I : Addr) (ty : String) (hty : ty = "str_ascii_iterator" ∨ ty = "str_iterator") (x : Str) (t : Tok) : Itr Γ k target where
  IT := .ref I
  pv := [I]
  avs := []
  src := []
  cv := []
  Inv vs h := ∃ i, h.IsStrIter I ty x t i ∧ vs = (chars x).drop i
  sub a ha := nomatch ha
  live vs h := fun ⟨i, ⟨o, ho, hc, hd⟩, _⟩ b hb => by
    rw [List.mem_singleton] at hb; subst hb
    exact ⟨o, ho, fun _ => by rw [hc]; rcases hty with e | e <;> rw [e] <;> decide, fun V e => by rw [hd] at e; cases e⟩
  frame vs h h' := fun ⟨i, ⟨o, ho, r⟩, e⟩ hk => ⟨i, ⟨o, hk I (List.mem_singleton.mpr rfl) o ho, r⟩, e⟩
  self A vs s Q := fun ⟨i, hit, _⟩ q => by
    rcases hty with e | e
    · subst e; exact wpAny_pyIter_striter_ascii hit q
    · subst e; exact wpAny_pyIter_striter_wide hit q
  next A κ σ s v vs Q hA le R hp ha hs hcv i hQ := by
    obtain ⟨i, hit, e⟩ := i
    have hx : (chars x)[i]? = some v := by
      have := congrArg (fun l => l[0]?) e
      simpa using this.symm
    obtain ⟨c, hc, ev⟩ : ∃ c, x.cps[i]? = some c ∧ AV.str (ofL [c]) = v := by
      unfold chars at hx
      simpa using hx
    have et : vs = (chars x).drop (i + 1) := by
      have := congrArg List.tail e
      simpa using this
    subst ev
    have key : ∀ h', h'.IsStrIter I ty x t (i + 1) → Heap.SameBut I s.heap h' → wpAny Γ.M A (letOwnedTupleGo target (.ref I) (.str ⟨#[c]⟩ s.toks)) (fun _ s₂ => Q (.str ⟨#[c]⟩ s.toks) s₂) No { s with heap := h', toks := s.toks + 1 } := fun h' hit' hsb => by
      obtain ⟨o', ho', hc', hd'⟩ := id hit'
      refine letOwned_plain T (s := { s with heap := h', toks := s.toks + 1 }) ho' hc' hd' (by rcases hty with e | e <;> rw [e] <;> decide) (hQ _ h' (s.toks + 1) (fun b o hb hbo => hsb.extBut b o (fun e => hb (e ▸ List.mem_singleton.mpr rfl)) hbo) (fun b hb => ?_) (fun tk => .str _ _) ⟨i + 1, hit', et⟩)
      rw [List.mem_singleton] at hb; subst hb; rw [ho']; simp
    rcases hty with e' | e'
    · subst e'; exact wpAny_pyNext_ascii_item hit hc fun h' a b => ⟨_, rfl, key h' a b⟩
    · subst e'; exact wpAny_pyNext_wide_item hit hc fun h' a b => ⟨_, rfl, key h' a b⟩
  done A κ σ s Q hA le R hp hs hcv i hQ := by
    obtain ⟨i, hit, e⟩ := i
    have hx : x.cps[i]? = none := by
      have : (chars x).length ≤ i := by simpa using e.symm
      unfold chars at this
      simpa using this
    rcases hty with e' | e'
    · subst e'; exact wpAny_pyNext_ascii_end hA.1 hit hx fun h' he => ⟨rfl, hQ h' s.toks fun b o hb hbo => he b o (fun e => hb (e ▸ List.mem_singleton.mpr rfl)) hbo⟩
    · subst e'; exact wpAny_pyNext_wide_end hA.1 hit hx fun h' he => ⟨rfl, hQ h' s.toks fun b o hb hbo => he b o (fun e => hb (e ▸ List.mem_singleton.mpr rfl)) hbo⟩
theorem mk_str (T : Tgt target) {x : Str} : Mk Γ k target (.str x) σ [] (chars x) := fun A κ s V hA le R r => by
  cases r
  rename_i t
  cases ha : x.cps.all (· < 128) with
  | true => exact wpAny_pyIter_ascii ha ⟨itrStr T s.heap.objs.size _ (.inl rfl) x t, _, s.toks, rfl, rfl, rfl, rfl, ⟨0, ⟨_, Heap.get?_push_size _ rfl, rfl, rfl⟩, by simp⟩, push_keeps _, fun b hb => by rw [List.mem_singleton.mp hb]; exact size_new, fun _ h => nomatch h⟩
  | false => exact wpAny_pyIter_wide ha ⟨itrStr T s.heap.objs.size _ (.inr rfl) x t, _, s.toks, rfl, rfl, rfl, rfl, ⟨0, ⟨_, Heap.get?_push_size _ rfl, rfl, rfl⟩, by simp⟩, push_keeps _, fun b hb => by rw [List.mem_singleton.mp hb]; exact size_new, fun _ h => nomatch h⟩

/-! ranges -/
noncomputable def intsFrom (a : Int) : Nat → List AV
  | 0 => []
  | n + 1 => .int a :: intsFrom (a + 1) n
noncomputable def RangeObj (o : Obj) (a b : Int) : Prop := ∃ t u v, o = { cls := .type "range", data := .fields #[.int a t, .int b u, .int 1 v] }
noncomputable def itrRange (T : Tgt target) (I : Addr) : Itr Γ k target where
  IT := .ref I
  pv := [I]
  avs := []
  src := []
  cv := []
  Inv vs h := ∃ (x : Int) (n : Nat), IsRangeIter h I x n 1 ∧ vs = intsFrom x n
  sub a ha := nomatch ha
  live vs h := fun ⟨x, n, ho, _⟩ b hb => by
    rw [List.mem_singleton] at hb; subst hb
    exact ⟨_, ho, fun _ => by show Value.type "range_iterator" ≠ _; decide, fun V e => by cases e⟩
  frame vs h h' := fun ⟨x, n, ho, e⟩ hk => ⟨x, n, hk I (List.mem_singleton.mpr rfl) _ ho, e⟩
  self A vs s Q := fun ⟨x, n, hit, _⟩ q => wpAny_pyIter_rangeiter hit q
  next A κ σ s v vs Q hA le R hp ha hs hcv i hQ := by
    obtain ⟨x, n, hit, e⟩ := i
    cases n with
    | zero => cases e
    | succ n =>
      cases e
      refine wpAny_pyNext_range_item hit (by omega) fun h' hit' hsb => ⟨_, rfl, ?_⟩
      refine letOwned_plain T (s := { s with heap := h', toks := s.toks + 1 }) hit' rfl rfl (by decide) (hQ _ h' (s.toks + 1) (fun b o hb hbo => hsb.extBut b o (fun e => hb (e ▸ List.mem_singleton.mpr rfl)) hbo) (fun b hb => ?_) (fun tk => .int _ _) ⟨x + 1, n, ?_, rfl⟩)
      · rw [List.mem_singleton] at hb; subst hb; rw [hit']; simp
      · have : ((n + 1 : Nat) : Int) - 1 = (n : Int) := by omega
        rw [this] at hit'; exact hit'
  done A κ σ s Q hA le R hp hs hcv i hQ := by
    obtain ⟨x, n, hit, e⟩ := i
    cases n with
    | succ n => cases e
    | zero => exact wpAny_pyNext_range_end hA.1 hit (by omega) fun h' he => ⟨rfl, hQ h' s.toks fun b o hb hbo => he b o (fun e => hb (e ▸ List.mem_singleton.mpr rfl)) hbo⟩
theorem mk_range (T : Tgt target) {r : Addr} {o : Obj} {a b : Int} (hm : (r, .obj o) ∈ σ) (ho : RangeObj o a b) (ha : -(2 ^ 62) ≤ a) (ha' : a < 2 ^ 62) (hb : -(2 ^ 62) ≤ b) (hb' : b < 2 ^ 62) : Mk Γ k target (.ref r) σ [] (intsFrom a (b - a).toNat) := fun A κ s V hA le R rr => by
  cases rr
  obtain ⟨t, u, v, rfl⟩ := ho
  obtain ⟨ob, e, rfl, _⟩ := R.objs _ hm
  refine wpAny_pyIter_range e (small_one ha ha' hb hb') ⟨itrRange T s.heap.objs.size, _, s.toks, rfl, rfl, rfl, rfl, ⟨a, (b - a).toNat, ?_, rfl⟩, push_keeps _, fun b hb => by rw [List.mem_singleton.mp hb]; exact size_new, fun _ h => nomatch h⟩
  have : Builtin.Range.rangeSize a b 1 = ((b - a).toNat : Int) := by rw [rangeSize_one]; split <;> omega
  rw [this]
  exact Heap.get?_push_size _ rfl
theorem cal_range1 {n : Int} {P : AV → Sto → Prop} (h : ∀ r o, RangeObj o 0 n → P (.ref r) ((r, .obj o) :: σ)) : Cal Γ k (.type "range") [.int n] σ P := fun A κ s Xs hA le R rs => by
  cases rs with
  | cons x rs =>
    cases x; cases rs
    exact call_range_1 ⟨.ref _, _, _, _, rfl, R.add size_new (push_keeps _) (Heap.get?_push_size _ rfl) (o := .obj _) ⟨rfl, fun _ _ e => by have e2 := congrArg Obj.data e; cases e2⟩, .ref _, h _ _ ⟨_, _, _, rfl⟩⟩
theorem cal_range2 {a b : Int} {P : AV → Sto → Prop} (h : ∀ r o, RangeObj o a b → P (.ref r) ((r, .obj o) :: σ)) : Cal Γ k (.type "range") [.int a, .int b] σ P := fun A κ s Xs hA le R rs => by
  cases rs with
  | cons x rs =>
    cases x
    cases rs with
    | cons x rs =>
      cases x; cases rs
      exact call_range_2 ⟨.ref _, _, _, _, rfl, R.add size_new (push_keeps _) (Heap.get?_push_size _ rfl) (o := .obj _) ⟨rfl, fun _ _ e => by have e2 := congrArg Obj.data e; cases e2⟩, .ref _, h _ _ ⟨_, _, _, rfl⟩⟩
end
end Mine
namespace Mine

/-- the cells that a comprehension or an inner def reads -/
noncomputable def clos (env : Env) : List (Str × NameKind) → List (Str × Addr) → List (Str × Addr)
  | [], acc => acc
  | (n, k) :: r, acc => if k == .free then clos env r ((n, (env.cells.lookup n).getD 0) :: acc) else clos env r acc
theorem closure_loop (env : Env) (f : Str × NameKind → List (Str × Addr) → Sem (ForInStep (List (Str × Addr))))
    (hf : ∀ n k c, f (n, k) c = if (k == NameKind.free) = true then (do let a ← cellOf env n; pure (.yield ((n, a) :: c))) else pure (.yield c)) : ∀ (names : List (Str × NameKind)) (acc : List (Str × Addr)), (∀ x, (x, NameKind.free) ∈ names → ∃ c, env.cells.lookup x = some c) → forIn names acc f = pure (clos env names acc)
  | [], acc, _ => rfl
  | (n, k) :: r, acc, h => by
    rw [List.forIn_cons, hf, clos]
    by_cases hk : (k == NameKind.free) = true
    · rw [if_pos hk, if_pos hk]
      have hk' : k = .free := by simpa using hk
      obtain ⟨c, hc⟩ := h n (hk' ▸ .head _)
      have e : cellOf env n = pure c := by unfold cellOf; rw [hc]
      rw [e, hc]
      exact closure_loop env f hf r _ fun x hx => h x (.tail _ hx)
    · rw [if_neg hk, if_neg hk]
      exact closure_loop env f hf r _ fun x hx => h x (.tail _ hx)
theorem closureFor_of {scope : Scope} {env : Env} (h : ∀ x, (x, NameKind.free) ∈ scope.names → ∃ c, env.cells.lookup x = some c) : closureFor scope env = pure (clos env scope.names []) := by
  simp only [closureFor]
  rw [closure_loop env _ (fun n k c => by rfl) _ _ h]
  rfl
theorem clos_acc (env : Env) (x : Str) : ∀ (names : List (Str × NameKind)) (acc : List (Str × Addr)) (c : Addr), env.cells.lookup x = some c → ((x, NameKind.free) ∈ names ∨ acc.lookup x = some c) → (∀ d, acc.lookup x = some d → d = c) → (clos env names acc).lookup x = some c
  | [], acc, c, _, h, _ => h.elim (fun e => nomatch e) id
  | (n, k) :: r, acc, c, hc, h, hu => by
    rw [clos]
    by_cases hk : (k == NameKind.free) = true
    · rw [if_pos hk]
      by_cases e : x = n
      · subst e
        refine clos_acc env x r _ c hc (.inr ?_) ?_
        · rw [List.lookup_cons, beq_self_eq_true, hc]; rfl
        · intro d hd; rw [List.lookup_cons, beq_self_eq_true, hc] at hd; cases hd; rfl
      · have en : (x == n) = false := beq_eq_false_iff_ne.mpr e
        refine clos_acc env x r _ c hc ?_ ?_
        · rcases h with h | h
          · rcases List.mem_cons.mp h with h | h
            · cases h; exact absurd rfl e
            · exact .inl h
          · right; rw [List.lookup_cons, en]; exact h
        · intro d hd; rw [List.lookup_cons, en] at hd; exact hu d hd
    · rw [if_neg hk]
      refine clos_acc env x r acc c hc ?_ hu
      rcases h with h | h
      · rcases List.mem_cons.mp h with h | h
        · cases h; exact absurd rfl hk
        · exact .inl h
      · exact .inr h

/-- a comprehension's scope, as it is run in a def's frame -/
noncomputable def relS (scope sc : Scope) : Scope :=
  { scope with names := scope.names.map fun (n, k) => if (k == .free && sc.kind == .function && sc.names.lookup n == some .cell) then (n, .cell) else (n, k) }
theorem relabel_eq {scope sc : Scope} {env : Env} (f : Fits sc env) : relabel scope env = relS scope sc := by
  unfold relabel relS Env.kindOf
  rw [f.scope]
noncomputable def cloc (sc : Scope) (loc : Loc) : Loc := loc.filter fun p => sc.names.lookup p.1 == some .cell
theorem lookup_cloc {sc : Scope} : ∀ {loc : Loc} {x : Str} {v : AV}, (cloc sc loc).lookup x = some v → sc.names.lookup x = some .cell ∧ loc.lookup x = some v
  | [], x, v, h => by simp [cloc] at h
  | (y, w) :: r, x, v, h => by
    unfold cloc at h
    rw [List.filter_cons] at h
    by_cases e : x = y
    · subst e
      by_cases hk : (sc.names.lookup x == some .cell) = true
      · rw [if_pos hk, List.lookup_cons, beq_self_eq_true] at h
        cases h
        exact ⟨by simpa using hk, by rw [List.lookup_cons, beq_self_eq_true]⟩
      · rw [if_neg hk] at h
        have := (lookup_cloc (loc := r) h).1
        rw [this] at hk; exact absurd rfl hk
    · have en : (x == y) = false := beq_eq_false_iff_ne.mpr e
      rw [List.lookup_cons, en]
      by_cases hk : (sc.names.lookup y == some .cell) = true
      · rw [if_pos hk, List.lookup_cons, en] at h
        exact lookup_cloc (loc := r) h
      · rw [if_neg hk] at h
        exact lookup_cloc (loc := r) h
/-- a name that the comprehension takes from the def -/
theorem relS_cell {scope sc : Scope} (hc : ∀ y ∈ scope.names, y.2 ≠ .cell) {x : Str} (h : (relS scope sc).names.lookup x = some .cell) : (x, NameKind.free) ∈ scope.names ∧ sc.names.lookup x = some .cell := by
  have hm := mem_of_lookup h
  unfold relS at hm
  obtain ⟨p, hp, e⟩ := List.mem_map.mp hm
  obtain ⟨n, k⟩ := p
  simp only at e
  by_cases hk : (k == .free && sc.kind == .function && sc.names.lookup n == some .cell) = true
  · rw [if_pos hk] at e
    cases e
    simp only [Bool.and_eq_true, beq_iff_eq] at hk
    exact ⟨hk.1.1 ▸ hp, hk.2⟩
  · rw [if_neg hk] at e
    cases e
    exact absurd rfl (hc _ hp)

section
variable {Γ : Gd} {k : Nat} {sc : Scope} {loc : Loc} {σ : Sto} {target : Expr}

/-- tests of a comprehension -/
noncomputable def TsC (Γ : Gd) (k : Nat) (sc : Scope) (ifs : List Expr) (loc : Loc) (σ : Sto) (P : Bool → Sto → Prop) : Prop := match ifs with
  | [] => P true σ
  | [c] => Ts Γ k sc c loc σ P
  | _ => False
theorem tsC_at {ifs : List Expr} {P : Bool → Sto → Prop} (h : TsC Γ k sc ifs loc σ P) {A : Around} {κ : Kap} {env : Env} {s : Shared} (hA : AOk k A) (l : Γ.le κ) (f : Fits sc env) (R : Rep κ env loc σ s.heap) :
    wpAny Γ.M A (forIn ifs true fun c r => if r = true then do let ok ← isTrue c env (eval c env); pure (ForInStep.yield ok) else pure (ForInStep.yield r)) (PstT κ env loc s P) No s := by
  match ifs, h with
  | [], h => exact wpAny_tests_nil ⟨σ, s.heap, s.toks, rfl, .refl _, R, h⟩
  | [c], h => exact wpAny_tests_one (h A κ env s hA l f R)

/-- a comprehension's turns -/
noncomputable def CmpI (sc : Scope) (ifs : List Expr) (elt : Expr) (iter : Expr) (scope : Scope) (pos : Pos) (I : Itr Γ k target) (D : Addr) (vs : List AV) (loc : Loc) (σ : Sto) (P : Sto → Prop) : Prop :=
  ∀ A κ env s (i : I.Inv vs s.heap), AOk k A → Γ.le κ → Fits sc env → (∀ a ∈ I.pv, κ.p a = none) → Rep (shield κ I.pv I.avs s.heap (I.lv i) I.sub) env loc σ s.heap → (∀ p ∈ I.src, p ∈ σ) → (∀ p ∈ I.cv, VRel (avU κ I.avs) s.heap p.1 p.2) →
    codeAny Γ.M A (.compLoop (.ListComp elt [⟨target, iter, ifs, 0⟩] scope pos) 0 I.IT (.ref D) env) (fun r s' => match r with
      | .ok _ => ∃ loc' σ' h' tk, s' = { s with heap := h', toks := tk } ∧ Rep κ env loc' σ' h' ∧ P σ'
      | .error _ => False) s

theorem comp_tree {it : Value} {A : Around} {env : Env} {R : Result → Shared → Prop} {s : Shared} {ifs : List Expr} {elt iter : Expr} {scope : Scope} {pos : Pos} {acc : Value}
    (h : wpAny Γ.M A (pyNext it) (fun r s₁ => match r with
      | none => R (.ok .next) s₁
      | some v => wpAny Γ.M A (letOwnedTupleGo target it v) (fun _ s₁ => wpAny Γ.M A (assign target env v) (fun _ s₂ =>
          wpAny Γ.M A (forIn ifs true fun c r => if r = true then do let ok ← isTrue c env (eval c env); pure (ForInStep.yield ok) else pure (ForInStep.yield r)) (fun ok s₃ =>
            if ok = true then wpAny Γ.M A (eval elt env) (fun x s₄ => wpAny Γ.M A (call (.builtin "list.append") [acc, x]) (fun _ s₅ => codeAny Γ.M A (.compLoop (.ListComp elt [⟨target, iter, ifs, 0⟩] scope pos) 0 it acc env) R s₅) No s₄) No s₃
            else codeAny Γ.M A (.compLoop (.ListComp elt [⟨target, iter, ifs, 0⟩] scope pos) 0 it acc env) R s₃) No s₂) No s₁) No s₁) No s) :
    codeAny Γ.M A (.compLoop (.ListComp elt [⟨target, iter, ifs, 0⟩] scope pos) 0 it acc env) R s := by
  refine codeAny_of_tree ?_
  show wpAny _ A ((compTurn (.ListComp elt [⟨target, iter, ifs, 0⟩] scope pos) 0 it acc env).onRaise (fun x => do noteFrame x env; theTreesLotGoes x)) _ _ s
  refine wpAny_noted ?_
  rw [compTurn_list]
  refine wpAny_bind (wpAny_standAt (wpAny_bind (wp_no h fun r s₁ h₁ => ?_)))
  cases r with
  | none => exact wpAny_pure h₁
  | some v =>
    refine wpAny_bind (wp_no h₁ fun _ s₂ h₂ => wpAny_bind (wp_no h₂ fun _ s₃ h₃ => wpAny_bind (wp_no h₃ fun ok s₄ h₄ => ?_)))
    cases ok with
    | false => exact wpAny_pure ⟨rfl, h₄⟩
    | true => exact wpAny_bind (wpAny_bind (wp_no h₄ fun x s₅ h₅ => wpAny_bind (wp_no h₅ fun _ s₆ h₆ => wpAny_pure (wpAny_pure ⟨rfl, h₆⟩))))

theorem cmpI_nil {ifs : List Expr} {elt iter : Expr} {scope : Scope} {pos : Pos} {I : Itr Γ k target} {D : Addr} {P : Sto → Prop} (h : P σ) : CmpI sc ifs elt iter scope pos I D [] loc σ P := fun A κ env s i hA le f hn R hs hcv => by
  refine comp_tree (wp_no (I.done A _ σ s (fun s' => ∃ h' tk, s' = { s with heap := h', toks := tk } ∧ Rep κ env loc σ h') hA (le_shield le hn) R.s (fun a ha => ?_) hs hcv i fun h' tk hk => ?_) fun r s₁ pst0 => ?_)
  · show (if a ∈ I.pv then s.heap.get? a else κ.p a) = s.heap.get? a
    rw [if_pos ha]
  · have U := unshield R hn (fun a ha o e => (Itr.cells i a ha o e).2)
    have tk' : TK (avU κ I.avs) s.heap h' := fun a vs na ⟨n, e⟩ => ⟨n, hk a _ (fun ha => (Itr.cells i a ha _ e).1 (fun hm => na (.inr hm)) rfl) e⟩
    have out : ∀ a, (∃ o, s.heap.get? a = some o ∧ (shield κ I.pv I.avs s.heap (I.lv i) I.sub).p a = none) → a ∉ I.pv := fun a ⟨o, ho, e⟩ ha => by
      have e' : (if a ∈ I.pv then s.heap.get? a else κ.p a) = none := e
      rw [if_pos ha, ho] at e'; cases e'
    have pvc : ∀ b o V, s.heap.get? b = some o → o.data = .cell V → b ∉ I.pv := fun b o V ho hd hb => (Itr.cells i b hb o ho).2 _ hd
    refine ⟨h', tk, rfl, ?_, R.f.turn (κ' := κ) (fun o ho => hk _ o (out _ ⟨o, ho, R.f.Lnew.1⟩) ho) (fun b o V ho hd => hk b o (pvc b o V ho hd) ho) U.f.Lnew.1 (fun b o V ho hd => ?_) (fun _ _ r => (r.mono tk').avoid fun a ha => .inl (.inl ha)) R.s.prot⟩
    · exact {
        prot := fun b o e => hk b o (fun hb => by rw [hn b hb] at e; cases e) (U.s.prot b o e)
        objs := fun p hp => by
          obtain ⟨ob, e, r⟩ := R.s.objs p hp
          exact ⟨ob, hk _ _ (out p.1 ⟨ob, e, R.s.new p hp⟩) e, (r.mono tk').avoid fun a ha => .inl (.inl ha)⟩
        nodup := U.s.nodup
        new := U.s.new }
    · show κ.p b = (if b ∈ I.pv then s.heap.get? b else κ.p b)
      rw [if_neg (pvc b o V ho hd)]
  · obtain ⟨e, h', tk, q, R'⟩ := pst0; subst e; exact ⟨loc, σ, h', tk, q, R', h⟩

theorem cmpI_cons {ifs : List Expr} {elt iter : Expr} {scope : Scope} {pos : Pos} {I : Itr Γ k target} {D : Addr} {P : Sto → Prop} {v : AV} {vs : List AV}
    (h : Asg Γ k sc target v loc σ fun loc₁ σ₁ => TsC Γ k sc ifs loc₁ σ₁ fun b σ₂ => Both b (Ev Γ k sc elt loc₁ σ₂ fun x σ₃ => ∃ xs σ₄, At σ₃ D (.list xs) (.list (xs ++ [x])) σ₄ ∧ xs.length ≤ sizeLine ∧ (∀ p ∈ I.src, p ∈ σ₄) ∧ CmpI sc ifs elt iter scope pos I D vs loc₁ σ₄ P)
      ((∀ p ∈ I.src, p ∈ σ₂) ∧ CmpI sc ifs elt iter scope pos I D vs loc₁ σ₂ P)) : CmpI sc ifs elt iter scope pos I D (v :: vs) loc σ P := fun A κ env s i hA le f hn R hs hcv => by
  refine comp_tree (wp_no (I.next A _ σ s v vs (fun V s₁ => ∃ h' tk, s₁ = { s with heap := h', toks := tk } ∧ TK (avU κ I.avs) s.heap h' ∧ ∃ (i' : I.Inv vs h'), Rep (shield κ I.pv I.avs h' (I.lv i') I.sub) env loc σ h' ∧ VRel (avU κ I.avs) h' v V) hA (le_shield le hn) R.s (fun a ha => ?_) (fun a ha => .inr ha) hs hcv i fun V h' tk hk hl hv i' => ?_) fun r s₁ pst0 => ?_)
  · show (if a ∈ I.pv then s.heap.get? a else κ.p a) = s.heap.get? a
    rw [if_pos ha]
  · obtain ⟨tk', R'⟩ := reshield (l₂ := I.lv i') R hk (Itr.cells i)
    exact ⟨h', tk, rfl, tk', i', R', hv tk'⟩
  · obtain ⟨V, e, q⟩ := pst0
    subst e
    refine wp_no q fun _ s₂ pst0 => ?_
    obtain ⟨h₂, tk₂, e₂, q₂, i₂, R₂, r₂⟩ := pst0
    subst e₂
    refine wpA (h A _ env _ V hA (le_shield le hn) f R₂ r₂) fun l₃ σ₃ h₃ tk₃ q₃ R₃ p₃ => ?_
    -- behind the item: on with the rest
    have go : ∀ (σ₅ : Sto) (h₅ : Heap) (tk₅ : Nat), TK (avU κ I.avs) h₂ h₅ → Rep (shield κ I.pv I.avs h₂ (I.lv i₂) I.sub) env l₃ σ₅ h₅ → (∀ p ∈ I.src, p ∈ σ₅) → CmpI sc ifs elt iter scope pos I D vs l₃ σ₅ P →
        codeAny Γ.M A (.compLoop (.ListComp elt [⟨target, iter, ifs, 0⟩] scope pos) 0 I.IT (.ref D) env) (fun r s' => match r with
          | .ok _ => ∃ loc' σ' h' tk, s' = { s with heap := h', toks := tk } ∧ Rep κ env loc' σ' h' ∧ P σ'
          | .error _ => False) { s with heap := h₅, toks := tk₅ } := fun σ₅ h₅ tk₅ q₅ R₅ hs' again => by
      have i₅ : I.Inv vs h₅ := I.frame vs h₂ h₅ i₂ fun a ha o e => R₅.s.prot a o (by show (if a ∈ I.pv then h₂.get? a else κ.p a) = some o; rw [if_pos ha]; exact e)
      have R₆ : Rep (shield κ I.pv I.avs h₅ (I.lv i₅) I.sub) env l₃ σ₅ h₅ := (reshield (l₂ := I.lv i₅) R₅ (fun _ _ _ e => e) (Itr.cells i₂)).2
      exact codeAny_mono (again A κ env { s with heap := h₅, toks := tk₅ } i₅ hA le f hn R₆ hs' fun p hp => ((hcv p hp).mono q₂).mono q₅) fun r s₅ x => x
    refine wpT (tsC_at p₃ hA (le_shield le hn) f R₃) fun b σ₄ h₄ tk₄ q₄ R₄ p₄ => ?_
    cases b with
    | false => exact go σ₄ h₄ tk₄ (q₃.trans q₄) R₄ (p₄.2 rfl).1 (p₄.2 rfl).2
    | true =>
      simp only [if_true]
      refine wp_no (p₄.1 rfl A _ env _ hA (le_shield le hn) f R₄) fun X s₅ pst0 => ?_
      obtain ⟨x, σ₅, h₅, tk₅, e₅, q₅, R₅, r₅, xs, σ₆, hat, hl, hs', p₅⟩ := pst0
      subst e₅
      refine wpE (Ops.at (cal_append (Γ := Γ) (k := k) (P := fun _ σ' => σ' = σ₆) hat hl rfl) hA (le_shield le hn) R₅ (.cons (.ref D) (.cons r₅ .nil))) fun _ y σ₆' h₆ tk₆ q₆ R₆ _ ey => ?_
      subst ey
      exact go σ₆' h₆ tk₆ (((q₃.trans q₄).trans q₅).trans q₆) R₆ hs' p₅
end
end Mine
namespace Mine
section
variable {Γ : Gd} {k : Nat} {sc : Scope} {loc : Loc} {σ : Sto} {target : Expr}

noncomputable def Cmp (Γ : Gd) (k : Nat) (sc : Scope) (target : Expr) (ifs : List Expr) (elt iter : Expr) (scope : Scope) (pos : Pos) (src : Sto) (D : Addr) (vs : List AV) (loc : Loc) (σ : Sto) (P : Sto → Prop) : Prop :=
  ∀ I : Itr Γ k target, I.src = src → CmpI sc ifs elt iter scope pos I D vs loc σ P
theorem cmp_nil {ifs : List Expr} {elt iter : Expr} {scope : Scope} {pos : Pos} {src : Sto} {D : Addr} {P : Sto → Prop} (h : P σ) : Cmp Γ k sc target ifs elt iter scope pos src D [] loc σ P := fun I _ => cmpI_nil h
theorem cmp_cons {ifs : List Expr} {elt iter : Expr} {scope : Scope} {pos : Pos} {src : Sto} {D : Addr} {P : Sto → Prop} {v : AV} {vs : List AV}
    (h : Asg Γ k sc target v loc σ fun loc₁ σ₁ => TsC Γ k sc ifs loc₁ σ₁ fun b σ₂ => Both b (Ev Γ k sc elt loc₁ σ₂ fun x σ₃ => ∃ xs σ₄, At σ₃ D (.list xs) (.list (xs ++ [x])) σ₄ ∧ xs.length ≤ sizeLine ∧ (∀ p ∈ src, p ∈ σ₄) ∧ Cmp Γ k sc target ifs elt iter scope pos src D vs loc₁ σ₄ P)
      ((∀ p ∈ src, p ∈ σ₂) ∧ Cmp Γ k sc target ifs elt iter scope pos src D vs loc₁ σ₂ P)) : Cmp Γ k sc target ifs elt iter scope pos src D (v :: vs) loc σ P := fun I e => by
  subst e
  refine cmpI_cons fun A κ env s V hA le f R r => wpA (h A κ env s V hA le f R r) fun l σ' h' tk b c d => ⟨l, σ', h', tk, rfl, b, c, ?_⟩
  have tr : ∀ b σ₂, Both b (Ev Γ k sc elt l σ₂ fun x σ₃ => ∃ xs σ₄, At σ₃ D (.list xs) (.list (xs ++ [x])) σ₄ ∧ xs.length ≤ sizeLine ∧ (∀ p ∈ I.src, p ∈ σ₄) ∧ Cmp Γ k sc target ifs elt iter scope pos I.src D vs l σ₄ P) ((∀ p ∈ I.src, p ∈ σ₂) ∧ Cmp Γ k sc target ifs elt iter scope pos I.src D vs l σ₂ P) →
      Both b (Ev Γ k sc elt l σ₂ fun x σ₃ => ∃ xs σ₄, At σ₃ D (.list xs) (.list (xs ++ [x])) σ₄ ∧ xs.length ≤ sizeLine ∧ (∀ p ∈ I.src, p ∈ σ₄) ∧ CmpI sc ifs elt iter scope pos I D vs l σ₄ P) ((∀ p ∈ I.src, p ∈ σ₂) ∧ CmpI sc ifs elt iter scope pos I D vs l σ₂ P) := fun b σ₂ hb =>
    ⟨fun e => ev_mono (hb.1 e) fun x σ₃ ⟨xs, σ₄, a, b, c, d⟩ => ⟨xs, σ₄, a, b, c, d I rfl⟩, fun e => ⟨(hb.2 e).1, (hb.2 e).2 I rfl⟩⟩
  match ifs, d with
  | [], d => exact tr _ _ d
  | [c], d => exact ts_mono d tr

/-- an iterator that stands already, in a frame -/
theorem shield_in {κ : Kap} {pv : List Addr} {h : Heap} {l : ∀ a ∈ pv, h.get? a ≠ none} {sb : ∀ a ∈ ([] : List Addr), a ∈ pv} {env : Env} (R : Rep κ env loc σ h) (hn : ∀ a ∈ pv, κ.p a = none ∧ a ∉ keys σ ∧ a ≠ env.locals) (hc : ∀ a ∈ pv, ∀ o, h.get? a = some o → ∀ V, o.data ≠ .cell V) :
    Rep (shield κ pv [] h l sb) env loc σ h := by
  have va : ∀ a, (shield κ pv [] h l sb).av a → κ.av a ∨ h.get? a = none := fun a ha => .inl (ha.elim id fun h => nomatch h)
  refine ⟨R.s.turn (fun b o e => ?_) (fun a ha => ?_) (fun a ha o e => e) va (.refl _), R.f.turn (fun o ho => ho) (fun b o V ho hd => ho) ?_ (fun b o V ho hd => ?_) (fun _ _ r => r.avoid va) R.s.prot⟩
  · have e' : (if b ∈ pv then h.get? b else κ.p b) = some o := e
    by_cases hb : b ∈ pv
    · rw [if_pos hb] at e'; exact e'
    · rw [if_neg hb] at e'; exact R.s.prot b o e'
  · show (if a ∈ pv then h.get? a else κ.p a) = none
    rw [if_neg (fun hp => (hn a hp).2.1 ha)]
    obtain ⟨p, hp, rfl⟩ := List.mem_map.mp ha; exact R.s.new p hp
  · show (if env.locals ∈ pv then h.get? env.locals else κ.p env.locals) = none
    rw [if_neg (fun hp => (hn _ hp).2.2 rfl)]; exact R.f.Lnew.1
  · show (if b ∈ pv then h.get? b else κ.p b) = κ.p b
    rw [if_neg (fun hb => hc b hb o ho V hd)]

theorem ev_listcomp {elt iter : Expr} {ifs : List Expr} {scope : Scope} {pos : Pos} {P : AV → Sto → Prop}
    (hcell : ∀ y ∈ scope.names, y.2 ≠ .cell) (hkind : scope.kind = .function) (hnames : ∀ x ∈ scope.names, x.2 = .local → scope.names.lookup x.1 = some .local)
    (hfr : ∀ x ∈ scope.names, x.2 = .free → sc.names.lookup x.1 = some .cell) (h0 : (relS scope sc).names.lookup (Str.ofString ".0") ≠ none)
    (h : Ev Γ k sc iter loc σ fun v σ₁ => ∃ src vs, Mk Γ k target v σ₁ src vs ∧ (∀ p ∈ src, p ∈ σ₁) ∧ ∀ D, Cmp Γ k (relS scope sc) target ifs elt iter scope pos src D vs (cloc (relS scope sc) loc) ((D, .list []) :: σ₁) fun σ₂ => P (.ref D) σ₂)
    (hs : ∀ env x, foldedSetIterable iter env x = pure x) : Ev Γ k sc (.ListComp elt [⟨target, iter, ifs, 0⟩] scope pos) loc σ P := fun A κ env s hA le f R => by
  have hcl : ∀ x, (x, NameKind.free) ∈ scope.names → ∃ c, env.cells.lookup x = some c := fun x hx => by
    have := hfr _ hx rfl
    obtain ⟨c, _, hc, _⟩ := R.f.cell x (by rw [f.kindOf]; exact this)
    exact ⟨c, hc⟩
  rw [eval_ListComp]
  refine wpAny_comprehension_free (g := ⟨target, iter, ifs, 0⟩) (gs := []) (use := none) rfl (hs env) (closureFor_of hcl) hkind hnames ?_
  refine wp_no (h A κ env s hA le f R) fun V s₁ pst => ?_
  obtain ⟨v, σ₁, h₁, tk₁, e₁, q₁, R₁, r₁, src, vs, mk, hsr, p⟩ := pst
  subst e₁
  refine wp_no (mk A κ _ V hA le R₁.s r₁) fun it s₂ pst0 => ?_
  obtain ⟨I, h₂, tk₂, e₂, es, ea, ei, i, hk, hn, hcv⟩ := pst0
  subst e₂; subst ei; subst es
  refine wpAny_newObj_type (wpAny_newFunctionEnv hcell (fun y hy => nomatch hy) (fun h₃ hns hsb => ?_) hkind)
  dsimp only at hns hsb ⊢
  generalize hH2 : h₂.push { cls := .type "list", dict := none, data := .seq ([] : List Value).toArray } = H2 at hns hsb ⊢
  have hC : H2.objs.size = h₂.objs.size + 1 := by rw [← hH2, Heap.size_push]
  have up3 : ∀ b o, h₂.get? b = some o → h₃.get? b = some o := fun b o e => hsb.extBut b o (by rw [hC]; exact Nat.ne_of_lt (Nat.lt_succ_of_lt (Heap.lt_size e))) (Heap.get?_push_of_some _ (hH2 ▸ Heap.get?_push_of_some _ e))
  have up1 : ∀ b o, h₁.get? b = some o → h₃.get? b = some o := fun b o e => up3 b o (hk b o e)
  have hD : h₃.get? h₂.objs.size = some { cls := .type "list", dict := none, data := .seq ([] : List Value).toArray } := hsb.extBut _ _ (by rw [hC]; exact Nat.ne_of_lt (Nat.lt_succ_self _)) (Heap.get?_push_of_some _ (hH2 ▸ Heap.get?_push_size _ rfl))
  have new1 : ∀ a, h₂.objs.size ≤ a → h₁.get? a = none := fun a ha => by
    cases e : h₁.get? a with
    | none => rfl
    | some o => exact absurd (Heap.lt_size (hk a o e)) (Nat.not_lt.mpr ha)
  have lt2 : ∀ a ∈ I.pv, a < h₂.objs.size := fun a ha => by
    obtain ⟨o, ho, _⟩ := I.live vs h₂ i a ha
    exact Heap.lt_size ho
  -- the comprehension's frame
  have RS : RepS (mx R₁.s) ((h₂.objs.size, .list []) :: σ₁) h₃ := R₁.s.mx.add (new1 _ (Nat.le_refl _)) up1 hD (o := .list []) ⟨[], 0, rfl, .nil⟩
  have pn : ∀ a, h₁.get? a = none → (mx R₁.s).p a = none := fun a e => by
    show mxp σ₁ h₁ a = none
    unfold mxp; split
    · rfl
    · exact e
  have fit : Fits (relS scope sc) (compEnvC scope (clos env scope.names []) H2.objs.size env) := ⟨relabel_eq f, hkind, f.glob, f.blt, fun e => absurd e h0⟩
  have hcells : ∀ x, (relS scope sc).names.lookup x = some .cell → ∃ c V, (clos env scope.names []).lookup x = some c ∧ env.kindOf x = some .cell ∧ env.cells.lookup x = some c ∧ h₁.IsCell c V ∧ ∀ v, loc.lookup x = some v → ∃ V', V = some V' ∧ VRel κ.av h₁ v V' := fun x hx => by
    obtain ⟨hm, hsc⟩ := relS_cell hcell hx
    have hkx : env.kindOf x = some .cell := by rw [f.kindOf]; exact hsc
    obtain ⟨c, V, hc, hi, hv⟩ := R₁.f.cell x hkx
    exact ⟨c, V, clos_acc env x _ _ c hc (.inl hm) (fun d hd => by simp at hd), hkx, hc, hi, hv⟩
  have F : FRel (mx R₁.s) (compEnvC scope (clos env scope.names []) H2.objs.size env) (cloc (relS scope sc) loc) ((h₂.objs.size, .list []) :: σ₁) h₃ := {
    ns := ⟨_, hns, fun x w hx hkx => by
      have := (lookup_cloc hx).1
      rw [fit.kindOf, this] at hkx; cases hkx⟩
    cell := fun x hx => by
      rw [fit.kindOf] at hx
      obtain ⟨c, W, hc, _, _, ⟨o, ho, hd⟩, hv⟩ := hcells x hx
      refine ⟨c, W, hc, ⟨o, up1 _ _ ho, hd⟩, fun w hw => ?_⟩
      obtain ⟨V', a, b⟩ := hv w (lookup_cloc hw).2
      exact ⟨V', a, b.mono (.of_keeps up1)⟩
    free := fun x w hx hkx => by
      have := (lookup_cloc hx).1
      rw [fit.kindOf, this] at hkx; cases hkx
    apart := fun x y c hx hy hcx hcy => by
      rw [fit.kindOf] at hx hy
      obtain ⟨c1, _, h1, k1, l1, _⟩ := hcells x hx
      obtain ⟨c2, _, h2, k2, l2, _⟩ := hcells y hy
      have e1 : c1 = c := by
        have : (clos env scope.names []).lookup x = some c := hcx
        rw [h1] at this; cases this; rfl
      have e2 : c2 = c := by
        have : (clos env scope.names []).lookup y = some c := hcy
        rw [h2] at this; cases this; rfl
      exact R₁.f.apart x y c k1 k2 (e1 ▸ l1) (e2 ▸ l2)
    Lnew := ⟨pn _ (new1 _ (by show h₂.objs.size ≤ H2.objs.size; omega)), fun hm => by
      have hm' : H2.objs.size ∈ h₂.objs.size :: keys σ₁ := hm
      rcases List.mem_cons.mp hm' with e | e
      · omega
      · obtain ⟨o, ho, _⟩ := R₁.s.live e
        rw [new1 _ (by omega)] at ho; cases ho⟩
    cnew := fun x c hx hcx => by
      rw [fit.kindOf] at hx
      obtain ⟨c1, V, h1, k1, l1, ⟨o, ho, hd⟩, _⟩ := hcells x hx
      have e1 : c1 = c := by
        have : (clos env scope.names []).lookup x = some c := hcx
        rw [h1] at this; cases this; rfl
      subst e1
      refine ⟨fun hm => ?_, (fun e => by cases e), fun o' e' => ?_⟩
      · have hm' : c1 ∈ h₂.objs.size :: keys σ₁ := hm
        rcases List.mem_cons.mp hm' with e | e
        · rw [e, new1 _ (Nat.le_refl _)] at ho; cases ho
        · exact (R₁.f.cnew x c1 k1 l1).1 e
      · have := (of_mx e').2
        rw [ho] at this; cases this
        exact ⟨V, hd⟩ }
  have i₃ : I.Inv vs h₃ := I.frame vs h₂ h₃ i fun a ha o e => up3 a o e
  have hpv : ∀ a ∈ I.pv, (mx R₁.s).p a = none := fun a ha => pn a (hn a ha)
  have fin : codeAny Γ.M A (.compLoop (.ListComp elt [⟨target, iter, ifs, 0⟩] scope pos) 0 I.IT (.ref h₂.objs.size) (compEnvC scope (clos env scope.names []) H2.objs.size env)) (compPost Γ.M A No none (PstE κ env loc s P) (.ref h₂.objs.size) H2.objs.size) { s with heap := h₃, toks := tk₂ + ([] : List (Str × Value)).length } := by
    obtain ⟨IT, pv, avs, src, cv, Inv, sub, live, frame, self, next, done⟩ := I
    cases ea
    have RR : Rep (shield (mx R₁.s) pv [] h₃ (Itr.lv ⟨IT, pv, [], src, cv, Inv, sub, live, frame, self, next, done⟩ i₃) sub) _ _ _ h₃ := shield_in ⟨RS, F⟩ (fun a ha => ⟨hpv a ha, fun hm => ?_, fun e => ?_⟩) (fun a ha o e V => ?_)
    · refine codeAny_mono (p h₂.objs.size ⟨IT, pv, [], src, cv, Inv, sub, live, frame, self, next, done⟩ rfl A (mx R₁.s) _ _ i₃ hA (Gd.le_mx R₁.s le) fit hpv RR (fun p hp => .tail _ (hsr p hp)) (fun p hp => ?_)) fun r s₅ x => ?_
      · exact ((hcv p hp).avoid fun a ha => .inl (ha.elim id fun h => nomatch h)).mono (.of_keeps up1)
      · cases r with
        | error _ => exact x.elim
        | ok fl =>
          obtain ⟨loc', σ', h', tk, e, R', pp⟩ := x
          subst e
          obtain ⟨m, hm, _⟩ := R'.f.ns
          refine ⟨m, hm, fun h₆ hs₆ => ?_⟩
          have R6 : RepS (mx R₁.s) σ' h₆ := R'.s.ext R'.f.Lnew.1 R'.f.Lnew.2 hs₆.extBut (by
            obtain ⟨o, es, ep, ho, hd, _⟩ := hm
            exact .of_ext_seq ho (fun xs n e => by rw [hd] at e; cases e) hs₆.extBut)
          obtain ⟨q6, R7⟩ := frame_step R₁ R6
          exact ⟨_, σ', h₆, tk, rfl, q₁.trans q6, R7, .ref _, pp⟩
    · have hm' : a ∈ h₂.objs.size :: keys σ₁ := hm
      rcases List.mem_cons.mp hm' with e | e
      · have := lt2 a ha; rw [e] at this; exact absurd this (Nat.lt_irrefl _)
      · obtain ⟨o, ho, _⟩ := R₁.s.live e
        rw [hn a ha] at ho; cases ho
    · have := lt2 a ha
      have e' : a = H2.objs.size := e
      rw [e', hC] at this
      exact absurd (Nat.lt_of_succ_lt this) (Nat.lt_irrefl _)
    · exact (Itr.cells (I := ⟨IT, pv, [], src, cv, Inv, sub, live, frame, self, next, done⟩) i₃ a ha o e).2 V
  exact codeAny_compStart_list fin (wp_no (I.self A vs _ _ i₃ fin) fun _ _ x => x)
end
end Mine
namespace Mine

/-! dicts whose keys are texts -/
theorem EnRel.find {av : Avd} {h : Heap} {es : List (Str × AV)} {l : List DictEntry} (r : EnRel av h es l) (x : Str) :
    (es.lookup x = none ∧ l.find? (·.key.isStr x) = none) ∨ ∃ v e, es.lookup x = some v ∧ l.find? (·.key.isStr x) = some e ∧ VRel av h v e.val := by
  induction r with
  | nil => exact .inl ⟨rfl, rfl⟩
  | @cons y v e es l hk hv _ ih =>
    obtain ⟨t, hk⟩ := hk
    rw [List.lookup_cons, List.find?_cons]
    have hb : e.key.isStr x = (x == y) := by
      rw [hk]
      show (y == x) = (x == y)
      by_cases q : x = y
      · subst q; rfl
      · rw [beq_eq_false_iff_ne.mpr q, beq_eq_false_iff_ne.mpr fun q' => q q'.symm]
    rw [hb]
    cases x == y with
    | true => exact .inr ⟨v, e, rfl, rfl, hv⟩
    | false => exact ih
theorem EnRel.noref {av : Avd} {h : Heap} {es : List (Str × AV)} {l : List DictEntry} (r : EnRel av h es l) : l.any (·.refKey) = false := by
  induction r with
  | nil => rfl
  | cons hk hv _ ih => obtain ⟨t, hk⟩ := hk; rw [List.any_cons, ih]; simp [DictEntry.refKey, hk]
theorem EnRel.length {av : Avd} {h : Heap} {es : List (Str × AV)} {l : List DictEntry} (r : EnRel av h es l) : l.length = es.length := by
  induction r with
  | nil => rfl
  | cons hk hv _ ih => simp [ih]
theorem EnRel.look {av : Avd} {h : Heap} {es : List (Str × AV)} {l : List DictEntry} (r : EnRel av h es l) {n : Nat} (x : Str) {c : Value} :
    (es.lookup x = none ∧ lookIn x { cls := c, data := .dict l.toArray n } = some none) ∨ ∃ v V, es.lookup x = some v ∧ lookIn x { cls := c, data := .dict l.toArray n } = some (some V) ∧ VRel av h v V := by
  unfold lookIn
  dsimp only
  rcases r.find x with ⟨a, b⟩ | ⟨v, e, a, b, d⟩
  · refine .inl ⟨a, ?_⟩
    rw [b]; simp only; rw [r.noref]; rfl
  · exact .inr ⟨v, e.val, a, by rw [b], d⟩
/-- an entry set -/
theorem EnRel.put {av : Avd} {h : Heap} {es : List (Str × AV)} {l : List DictEntry} (r : EnRel av h es l) (x : Str) {v : AV} {V : Value} (hv : VRel av h v V) (hash : Int) (t : Tok) {n : Nat} {c : Value} :
    ∃ l' n', Obj.putName x hash (.str x t) V { cls := c, data := .dict l.toArray n } = { cls := c, data := .dict l'.toArray n' } ∧ EnRel av h (lset es x v) l' := by
  rw [Obj.putName_eq]
  unfold Obj.putNameByArray
  dsimp only
  have key : (l.findIdx? (·.key.isStr x) = none ∧ EnRel av h (lset es x v) (l ++ [⟨hash, .str x t, V⟩])) ∨ ∃ i, l.findIdx? (·.key.isStr x) = some i ∧ EnRel av h (lset es x v) (l.modify i fun e => { e with val := V }) := by
    induction r with
    | nil => exact .inl ⟨rfl, .cons ⟨t, rfl⟩ hv .nil⟩
    | @cons y w e es l hk hw hr ih =>
      obtain ⟨t', hk⟩ := hk
      have hb : e.key.isStr x = (x == y) := by
        rw [hk]
        show (y == x) = (x == y)
        by_cases q : x = y
        · subst q; rfl
        · rw [beq_eq_false_iff_ne.mpr q, beq_eq_false_iff_ne.mpr fun q' => q q'.symm]
      unfold lset
      rw [List.findIdx?_cons, hb]
      cases q : x == y with
      | true => exact .inr ⟨0, rfl, .cons ⟨t', hk⟩ hv hr⟩
      | false =>
        rcases ih with ⟨a, b⟩ | ⟨i, a, b⟩
        · refine .inl ⟨by rw [a]; rfl, .cons ⟨t', hk⟩ hw b⟩
        · refine .inr ⟨i + 1, by rw [a]; rfl, ?_⟩
          rw [List.modify_succ_cons]
          exact .cons ⟨t', hk⟩ hw b
  rcases key with ⟨a, b⟩ | ⟨i, a, b⟩
  · refine ⟨_, n + 1, ?_, b⟩
    rw [List.findIdx?_toArray, a]
    simp
  · refine ⟨_, n, ?_, b⟩
    rw [List.findIdx?_toArray, a]
    simp

theorem lset_length : ∀ (es : List (Str × AV)) (x : Str) (v : AV), (lset es x v).length ≤ es.length + 1
  | [], _, _ => Nat.le_refl _
  | (y, w) :: r, x, v => by
    unfold lset
    split
    · simp
    · have := lset_length r x v; simp only [List.length_cons]; omega
/-- what is asked of a class -/
structure ClsOk (K : Frag) (C : Addr) : Prop where
  ga : findIn K (.ref C) "__getattribute__" = some (some (.builtin "object.__getattribute__"))
  sa : findIn K (.ref C) "__setattr__" = some (some (.builtin "object.__setattr__"))
  gat : findIn K (.ref C) "__getattr__" = some none
  over : plainOver K C = true
  hd : (clsIn K C).any (·.hasDict) = true
  makes : makesIn K C = true

section
variable {Γ : Gd} {k : Nat} {sc : Scope} {loc : Loc} {σ : Sto} {K : Frag} {C x d : Addr} {es : List (Str × AV)} {κ : Kap} {h : Heap}
theorem RepS.inst (R : RepS κ σ h) (hi : (x, .inst C d) ∈ σ) : h.get? x = some { cls := .ref C, dict := some d } := by
  obtain ⟨ob, e, r⟩ := R.objs _ hi
  cases r; exact e
theorem RepS.ns (R : RepS κ σ h) (hn : (d, .ns es) ∈ σ) : ∃ l n, h.get? d = some { cls := .type "dict", data := .dict l.toArray n } ∧ EnRel κ.av h es l := by
  obtain ⟨ob, e, l, n, rfl, r⟩ := R.objs _ hn
  exact ⟨l, n, e, r⟩
theorem RepS.instAt (R : RepS κ σ h) (hi : (x, .inst C d) ∈ σ) {od : Obj} (hd : h.get? d = some od) : InstAt h x { cls := .ref C, dict := some d } C (some od) := ⟨R.inst hi, rfl, rfl, hd⟩

/-- an attribute of an object, its own -/
theorem findObj_own (O : ClsOk K C) {od : Obj} {name : Str} {V : Value} (hf : findIn K (.ref C) name = some none) (hl : lookIn name od = some (some V)) : findObj K C (some od) name = some (.value V) := by
  obtain ⟨cd, hc, hd⟩ := any_some O.hd
  have e1 : W.ownOf cd (some od) name = some (some V) := by
    unfold W.ownOf
    rw [if_pos hd]
    exact hl
  unfold findObj
  simp only [hc, Option.bind_some, hf, e1]

/-- an attribute read -/
noncomputable def At1 (Γ : Gd) (k : Nat) (name : Str) (ov : AV) (σ : Sto) (P : AV → Sto → Prop) : Prop := Op1 Γ k (fun O => getAttr O name true) ov σ P
theorem at_own (X : K.In Γ.hB) (O : ClsOk K C) {name : Str} (hi : (x, .inst C d) ∈ σ) (hn : (d, .ns es) ∈ σ) (hf : findIn K (.ref C) name = some none) {v : AV} (hv : es.lookup name = some v) (hr : ∀ w, v ≠ .raw w) {P : AV → Sto → Prop} (p : P v σ) : At1 Γ k name (.ref x) σ P := fun A κ s V hA l R r => by
  cases r
  obtain ⟨en, n, ed, er⟩ := R.ns hn
  rcases er.look name (n := n) (c := .type "dict") with ⟨a, _⟩ | ⟨v', V, a, b, c⟩
  · rw [hv] at a; cases a
  · rw [hv] at a; cases a
    refine get_value (X.keeps (l.up R)) (R.instAt hi ed) O.ga (findObj_own O hf b) ?_ ⟨v, σ, s.heap, _, rfl, R, c, p⟩
    cases c <;> first | rfl | exact absurd rfl (hr _)
theorem ev_attr {o : Expr} {name : Str} {pos : Pos} {P : AV → Sto → Prop} (h : Ev Γ k sc o loc σ fun ov σ₁ => At1 Γ k name ov σ₁ P) (hb : ∀ env, attributeBase o name env (eval o env) = eval o env) : Ev Γ k sc (.Attribute o name pos) loc σ P := fun A κ env s hA l f R => by
  rw [arm_eval_Attribute, hb]
  refine wpAny_bind (wpE (h A κ env s hA l f R) fun V v σ₁ h₁ tk₁ q R₁ r p => ?_)
  refine wpAny_bind (wpAny_standAt (wpAny_bind (wpAny_holding (wp_no (Op1.at p hA l R₁ r) fun W s₂ p₂ => ?_))))
  exact wpAny_bind (wpAny_letTemporaryGo (wpAny_pure (p₂.trans q)))

/-- an attribute set -/
noncomputable def St1 (Γ : Gd) (k : Nat) (name : Str) (ov v : AV) (σ : Sto) (P : Sto → Prop) : Prop :=
  ∀ A κ s O V, AOk k A → Γ.le κ → RepS κ σ s.heap → VRel κ.av s.heap ov O → VRel κ.av s.heap v V → wpAny Γ.M A (setAttr O name V) (fun _ s' => ∃ σ' h' tk, s' = { s with heap := h', toks := tk } ∧ RepS κ σ' h' ∧ P σ') No s
/-- a text key stored in an object's dict -/
theorem store_dict {A : Around} {s : Shared} {σ' : Sto} {name : Str} {v : AV} {V : Value} {tk : Tok} {Q : Fin → Shared → Prop} {E : Value → Shared → Prop} (R : RepS κ σ s.heap) (at' : At σ d (.ns es) (.ns (lset es name v)) σ') (hz : es.length < 1000) (hv : VRel κ.av s.heap v V)
    (q : ∀ h' tk', RepS κ σ' h' → Q (.done (.ret .none)) { s with heap := h', toks := tk' }) : wpAny Γ.M A (Builtin.ObjectAttr.storeInDict d (.str name tk) name V) Q E s := by
  obtain ⟨en, n, ed, er⟩ := R.ns at'.mem
  refine wpAny_bind (wpAny_pure (wpAny_bind ?_))
  unfold nsSet
  refine wpAny_bind (wpAny_bind (wpAny_askSetting (wpAny_pure (wpAny_bind (wpAny_mkText (wpAny_bind (wpAny_loadPart ed ?_)))))))
  dsimp only
  have c : (!en.toArray.any (·.key.isStr name) && en.toArray.any (·.refKey)) = false := by
    rw [← Array.any_toList (p := fun x : DictEntry => x.refKey), er.noref, Bool.and_false]
  rw [aRefKeyMayBeTheName_at, c]
  refine wpAny_updatePart ed ?_
  have go : ∀ hsh, Q (.done (.ret .none)) { s with heap := s.heap.update d (Obj.putName name hsh (.str name s.toks) V), toks := s.toks + 1 } ∧ ∃ o, (s.heap.update d (Obj.putName name hsh (.str name s.toks) V)).get? d = some o ∧ o.data.pastItsLine = none := fun hsh => by
    obtain ⟨l', n', ep, er'⟩ := er.put name hv hsh s.toks (n := n) (c := .type "dict")
    have hs : Heap.SameBut d s.heap (s.heap.update d (Obj.putName name hsh (.str name s.toks) V)) := Heap.SameBut.update ..
    have tk := R.tk_upd at'.mem hs.extBut
    have hg : (s.heap.update d (Obj.putName name hsh (.str name s.toks) V)).get? d = some { cls := .type "dict", data := .dict l'.toArray n' } := by
      rw [Heap.get?_update_self _ ed (by rw [ep]; rfl), ep]
    refine ⟨q _ _ (R.upd at' hs.extBut hg ⟨l', n', rfl, er'.mono tk⟩), _, hg, pastItsLine_dict ?_⟩
    have := er'.length
    have hl : (lset es name v).length ≤ es.length + 1 := lset_length es name v
    rw [List.size_toArray, this, sizeLine_eq]; omega
  obtain ⟨g1, o, g2, g3⟩ := go _
  exact wpAny_bind (wpAny_lookBehind g2 g3 (wpAny_pure g1))

theorem st_own (X : K.In Γ.hB) (O : ClsOk K C) {name : Str} {σ' : Sto} {v : AV} (hi : (x, .inst C d) ∈ σ) (at' : At σ d (.ns es) (.ns (lset es name v)) σ') (hz : es.length < 1000) (ht : takerIn K C name = some none) {P : Sto → Prop} (p : P σ') : St1 Γ k name (.ref x) v σ P := fun A κ s V W hA l R r rv => by
  cases r
  obtain ⟨en, n, ed, er⟩ := R.ns at'.mem
  have Xs := X.keeps (l.up R)
  have I := R.instAt hi ed
  obtain ⟨cd, hc, hd'⟩ := any_some O.hd
  refine set_plain Xs I O.sa (osa_open Xs I O.over ht fun b => ?_)
  refine wpAny_bind (wpAny_pure (wpAny_bind (wpAny_bind (wpAny_loadPart (R.inst hi) (wpAny_bind ((looks_clsIn Xs hc).here (s := { s with toks := s.toks + 1 }) ?_))))))
  rw [hd']
  refine wpAny_pure (a := some d) (store_dict (s := { s with toks := s.toks + 1 }) R at' hz rv fun h' tk' R' => ⟨σ', h', tk', rfl, R', p⟩)

theorem St1.at {name : Str} {ov v : AV} {P : Sto → Prop} (o : St1 Γ k name ov v σ P) {A : Around} {κ : Kap} {env : Env} {s : Shared} {O V : Value} (hA : AOk k A) (l : Γ.le κ) (R : Rep κ env loc σ s.heap) (ho : VRel κ.av s.heap ov O) (hv : VRel κ.av s.heap v V) :
    wpAny Γ.M A (setAttr O name V) (fun _ s' => ∃ σ' h' tk, s' = { s with heap := h', toks := tk } ∧ TK κ.av s.heap h' ∧ Rep κ env loc σ' h' ∧ P σ') No s :=
  wpU (o A (mx R.s) s O V hA (Gd.le_mx R.s l) R.s.mx ho hv) fun σ' h' tk R' p =>
    let ⟨q, R''⟩ := frame_step R R'; ⟨σ', h', tk, rfl, q, R'', p⟩
theorem wpV {M : Model} {A : Around} {env : Env} {s : Shared} {E : Value → Shared → Prop} {t : Sem Unit} {P : Sto → Prop} {Q : Unit → Shared → Prop} (h : wpAny M A t (fun _ s' => ∃ σ' h' tk, s' = { s with heap := h', toks := tk } ∧ TK κ.av s.heap h' ∧ Rep κ env loc σ' h' ∧ P σ') No s)
    (q : ∀ σ' h' tk, TK κ.av s.heap h' → Rep κ env loc σ' h' → P σ' → Q () { s with heap := h', toks := tk }) : wpAny M A t Q E s :=
  wp_no h fun _ s' pst => pst.elim fun σ' p => p.elim fun h' p => p.elim fun tk p => p.1 ▸ q σ' h' tk p.2.1 p.2.2.1 p.2.2.2
theorem asg_attr {o : Expr} {name : Str} {pos : Pos} {v : AV} {P : Loc → Sto → Prop} (h : Ev Γ k sc o loc σ fun ov σ₁ => St1 Γ k name ov v σ₁ (P loc)) : Asg Γ k sc (.Attribute o name pos) v loc σ P := fun A κ env s V hA l f R r => by
  rw [assign_Attribute]
  refine wpAny_bind (wpAny_holding (wpE (h A κ env s hA l f R) fun W w σ₁ h₁ tk₁ q R₁ r₁ p => ?_))
  refine wpAny_bind (wpAny_standAt (wpAny_bind (wpAny_holding (wpV (p.at hA l R₁ r₁ (r.mono q)) fun σ₂ h₂ tk₂ q₂ R₂ p₂ => ?_))))
  exact wpAny_release ⟨loc, σ₂, h₂, tk₂, rfl, q.trans q₂, R₂, p₂⟩
theorem ex_aug_attr {o value : Expr} {name : Str} {op : Operator} {tpos pos : Pos} {P : AFl → Loc → Sto → Prop} (h : Ev Γ k sc o loc σ fun ov σ₁ => At1 Γ k name ov σ₁ fun old σ₂ => Ev Γ k sc value loc σ₂ fun v σ₃ => Op2 Γ k (inplaceOp op) old v σ₃ fun new σ₄ => St1 Γ k name ov new σ₄ (P .next loc)) :
    Ex Γ k sc (.AugAssign (.Attribute o name tpos) op value pos) loc σ P := fun A κ env s hA l f R => by
  refine wpAny_AugAssign_AttributeAny (wpE (h A κ env s hA l f R) fun W w σ₁ h₁ tk₁ q₁ R₁ r₁ p₁ => ?_)
  refine wpE (Op1.at p₁ hA l R₁ r₁) fun W₂ w₂ σ₂ h₂ tk₂ q₂ R₂ r₂ p₂ => ?_
  refine wpE (p₂ A κ env _ hA l f R₂) fun W₃ w₃ σ₃ h₃ tk₃ q₃ R₃ r₃ p₃ => ?_
  refine wpE (p₃.at hA l R₃ (r₂.mono q₃) r₃) fun W₄ w₄ σ₄ h₄ tk₄ q₄ R₄ r₄ p₄ => ?_
  refine wpV (p₄.at hA l R₄ (((r₁.mono q₂).mono q₃).mono q₄) r₄) fun σ₅ h₅ tk₅ q₅ R₅ p₅ => ?_
  exact ⟨.next, loc, σ₅, h₅, tk₅, rfl, (((q₁.trans q₂).trans q₃).trans q₄).trans q₅, R₅, .next, p₅⟩

/-- a method of an object -/
theorem gm_inst (X : K.In Γ.hB) (O : ClsOk K C) {name : Str} {f : Addr} (hi : (x, .inst C d) ∈ σ) (hn : (d, .ns es) ∈ σ) (hf : findIn K (.ref C) name = some (some (.ref f))) (ht : typeIn K (.ref f) = some (.type "function")) (hs : es.lookup name = none) : GM Γ name (.ref x) σ (.ref f) [.ref x] := fun A κ s V pl Q l R r h => by
  cases r
  obtain ⟨en, n, ed, er⟩ := R.ns hn
  refine method_fn (X.keeps (l.up R)) (R.instAt hi ed) O.ga O.gat hf ht ?_ (h _ s.toks (.cons (.ref _) .nil))
  rcases er.look name (n := n) (c := .type "dict") with ⟨_, a⟩ | ⟨v', V, a, b, c⟩
  · show (lookIn name _).map _ = _; rw [a]; rfl
  · rw [hs] at a; cases a

/-- an object made -/
theorem cal_make (X : K.In Γ.hB) (O : ClsOk K C) {f : Addr} {xs : List AV} {P : AV → Sto → Prop} (hf : findIn K (.ref C) "__init__" = some (some (.ref f))) (ht : typeIn K (.ref f) = some (.type "function"))
    (h : ∀ x d, CalC Γ k (.ref f) (.ref x :: xs) ((x, .inst C d) :: (d, .ns []) :: σ) fun v σ' => v = .none ∧ P (.ref x) σ') : Cal Γ (k + 1) (.ref C) xs σ P := fun A κ s Xs hA l R rs => by
  have Xs' := X.keeps (l.up R)
  obtain ⟨hh, g, dr, t, os⟩ := s
  refine wpAny_call (make_core (makes_of Xs' O.makes) (looks_findIn Xs' hf) (fun self => bind_fn Xs' self ht) (.inl rfl) ?_)
  have k1 : ∀ b o, hh.get? b = some o → ((hh.push emptyDict).push (instObj C hh.objs.size)).get? b = some o := fun b o e => Heap.get?_push_of_some _ (Heap.get?_push_of_some _ e)
  have R1 : RepS κ ((hh.objs.size, .ns []) :: σ) (hh.push emptyDict) := R.add (o := .ns []) size_new (push_keeps _) (Heap.get?_push_size _ rfl) ⟨[], 0, rfl, .nil⟩
  have R2 : RepS κ ((hh.objs.size + 1, .inst C hh.objs.size) :: (hh.objs.size, .ns []) :: σ) ((hh.push emptyDict).push (instObj C hh.objs.size)) := by
    have := R1.add (a := (hh.push emptyDict).objs.size) (o := .inst C hh.objs.size) (h' := (hh.push emptyDict).push (instObj C hh.objs.size)) size_new (push_keeps _) (Heap.get?_push_size _ rfl) rfl
    rwa [Heap.size_push] at this
  have hA' : AOk k (A.under (.builtin "type.__call__" ⟨.ref C :: Xs, []⟩)) := by
    obtain ⟨a, b, c⟩ := hA
    refine ⟨a, ?_, ?_⟩
    · rw [depth_under_make]; omega
    · rw [units_under_make]; omega
  refine codeAny_mono (h _ _ _ κ _ _ hA' l R2 (.cons (.ref _) (rs.mono (.of_keeps k1)))) fun r s' z => ?_
  rcases r with e | (v | _ | _ | _) <;> first | exact z | exact z.elim | skip
  obtain ⟨v', σ', h', tk, e, R', r', hv, p⟩ := z
  subst hv; cases r'
  exact ⟨rfl, _, σ', h', tk, e, R', .ref _, p⟩
end
end Mine
namespace Mine

theorem slot_ci_next : Slot "callable_iterator" "__next__" "callable_iterator.__next__" :=
  .of (owner := "callable_iterator") (n := "__next__") (by rw [typeLookup_type, builtinLookup_eq_fast]; kernel_rfl) (by decide +kernel) (by decide +kernel) (by decide +kernel)
    (by first | exact .inl (by decide +kernel) | exact .inr (by decide +kernel)) (by rw [isSubtype_type]; kernel_rfl)
theorem slot_ci_iter : Slot "callable_iterator" "__iter__" "callable_iterator.__iter__" :=
  .of (owner := "callable_iterator") (n := "__iter__") (by rw [typeLookup_type, builtinLookup_eq_fast]; kernel_rfl) (by decide +kernel) (by decide +kernel) (by decide +kernel)
    (by first | exact .inl (by decide +kernel) | exact .inr (by decide +kernel)) (by rw [isSubtype_type]; kernel_rfl)
theorem entry_ci_next : entryFor table "callable_iterator.__next__" = some Builtin.«callable_iterator.__next__» := entryFor_of_fast (by kernel_rfl)
theorem entry_ci_iter : entryFor table "callable_iterator.__iter__" = some Builtin.«dict_keyiterator.__iter__» :=
  entryFor_alias (id' := "dict_keyiterator.__iter__") (by kernel_rfl) rfl (by decide +kernel) (by kernel_rfl)
theorem args_ci_next (a : Value) : argsOk "callable_iterator.__next__" ⟨[a], []⟩ := by unfold argsOk; kernel_rfl
theorem args_ci_iter (a : Value) : argsOk "callable_iterator.__iter__" ⟨[a], []⟩ := by unfold argsOk; kernel_rfl
theorem slot_meth_call : Slot "method" "__call__" "method.__call__" :=
  .of (owner := "method") (n := "__call__") (by rw [typeLookup_type, builtinLookup_eq_fast]; kernel_rfl) (by decide +kernel) (by decide +kernel) (by decide +kernel)
    (by first | exact .inl (by decide +kernel) | exact .inr (by decide +kernel)) (by rw [isSubtype_type]; kernel_rfl)
theorem args_iter2 (a b : Value) : argsOk "iter" ⟨[a, b], []⟩ := by unfold argsOk; kernel_rfl
abbrev ciObj (q : Addr) (t : Tok) : Obj := { cls := .type "callable_iterator", data := .fields #[.ref q, .str "" t, .bool false] }

section
variable {Γ : Gd} {k : Nat} {sc : Scope} {loc : Loc} {σ : Sto} {K : Frag} {C x d f q fi : Addr} {es : List (Str × AV)} {κ : Kap} {h : Heap} {target : Expr} {body : List Stmt}
theorem RepS.ob (R : RepS κ σ h) {o : Obj} (hm : (x, .obj o) ∈ σ) : h.get? x = some o := by
  obtain ⟨ob, e, r⟩ := R.objs _ hm
  obtain ⟨rfl, _⟩ := r; exact e

/-- a method, bound -/
theorem at_bound (X : K.In Γ.hB) (O : ClsOk K C) {name : Str} (hi : (x, .inst C d) ∈ σ) (hn : (d, .ns es) ∈ σ) (hf : findIn K (.ref C) name = some (some (.ref f))) (ht : typeIn K (.ref f) = some (.type "function"))
    (hg : specialIn K (.ref f) "__get__" = some (some (.builtin "function.__get__"))) (hk : takesIn K (.ref f) = some false) (hc : copiedNames.contains name = false) (hs : es.lookup name = none) {P : AV → Sto → Prop}
    (p : ∀ q, P (.ref q) ((q, .obj (methodObj (.ref f) (.ref x))) :: σ)) : At1 Γ k name (.ref x) σ P := fun A κ s V hA l R r => by
  cases r
  obtain ⟨en, n, ed, er⟩ := R.ns hn
  have hl : lookIn name { cls := .type "dict", data := .dict en.toArray n } = some none := by
    rcases er.look name (n := n) (c := .type "dict") with ⟨_, a⟩ | ⟨v', V, a, b, c⟩
    · exact a
    · rw [hs] at a; cases a
  have Xs := X.keeps (l.up R)
  refine get_bind Xs (R.instAt hi ed) O.ga (findObj_fn O.hd hf hg hk hc hl) O.gat ?_
  refine wpAny_call (fn_get (s := { s with toks := s.toks + 1 }) Xs ht (handed_on rfl ?_))
  exact ⟨.ref _, _, _, _, rfl, R.add (o := .obj (methodObj (.ref f) (.ref x))) size_new (push_keeps _) (Heap.get?_push_size _ rfl) ⟨rfl, fun _ _ e => by have e2 := congrArg Obj.data e; cases e2⟩, .ref _, p _⟩

/-- iter(f, '') -/
theorem cal_iter {self : Value} (hq : (q, .obj (methodObj (.ref f) self)) ∈ σ) {P : AV → Sto → Prop} (p : ∀ fi t, P (.ref fi) ((fi, .obj (ciObj q t)) :: σ)) : Cal Γ k (.builtin "iter") [.ref q, .str ""] σ P := fun A κ s Xs hA l R rs => by
  cases rs with
  | cons r1 rs =>
    cases r1
    cases rs with
    | cons r2 rs =>
      cases rs
      cases r2
      rename_i t
      have ho := R.ob hq
      have hT : s.TypeIs (.ref q) "method" := ⟨_, ho, rfl⟩
      refine call_function_entry (by decide +kernel) (by decide +kernel) kdk_entry_iter (args_iter2 _ _) ?_
      unfold Builtin.«iter»
      refine wpAny_bind (m := someArgs "iter" 1 2 _) (wpAny_of_eq (a := [Value.ref q, .str "" t]) (by first | rfl | kernel_rfl!) ?_)
      dsimp only
      refine wpAny_bind (wpAny_specialOf hT slot_meth_call.lookup ?_)
      refine wpAny_bind (wpAny_rule (wpAny_bind (wpAny_newObj_type (wpAny_pure ?_) (by size_fits))))
      exact ⟨_, rfl, .ref _, _, _, _, rfl, R.add (o := .obj (ciObj q t)) size_new (push_keeps _) (Heap.get?_push_size _ rfl) ⟨rfl, fun _ _ e => by have e2 := congrArg Obj.data e; cases e2⟩, .ref _, p _ _⟩

/-- the next of an iterator that is an object of the store -/
noncomputable def Nx (Γ : Gd) (k : Nat) (it : Addr) (σ : Sto) (P : Option AV → Sto → Prop) : Prop :=
  ∀ A κ s, AOk k A → Γ.le κ → RepS κ σ s.heap → wpAny Γ.M A (pyNext (.ref it)) (fun r s' => ∃ v σ' h' tk, s' = { s with heap := h', toks := tk } ∧ RepS κ σ' h' ∧ (match r, v with | none, none => True | some V, some v => VRel κ.av h' v V | _, _ => False) ∧ P v σ') No s

theorem AOk.in1 {A : Around} (hA : AOk (k + 1) A) : AOk k A.in1 := by
  obtain ⟨a, b, c⟩ := hA
  refine ⟨a, ?_, ?_⟩
  · rw [depth_in1]; omega
  · rw [units_in1]; omega
theorem wpAny_borrowed {M : Model} {A : Around} {E : Value → Shared → Prop} {s : Shared} {F : Value} {pos : List Value} {Q : Value → Shared → Prop}
    (hc : codeAny M A (.call F ⟨pos, []⟩) (fun r s' => match r with | .ok (.ret v) => Q v s' | .ok _ => False | .error e => E e s') s) : wpAny M A (callBorrowed F pos) Q E s := fun Γ p hΓ => by
  unfold callBorrowed
  rw [Sem.wp_call]
  refine (codeAny_mono hc (fun r s' z => ?_)) _ p rfl (hΓ.enter _ none p (by intro x; cases x))
  rcases r with e | (v | _ | _ | _) <;> first | exact z.elim | (simpa using z)
theorem looks_borrows {M : Model} {h : Heap} {self : Value} {fo : Obj} {fd : FuncData} (hq : h.get? q = some (methodObj (.ref f) self)) (hf : h.get? f = some fo) (hd : fo.data = .func fd) : Looks M h (borrowsExactly (.ref q)) true := fun A Q E s k z => by
  unfold borrowsExactly
  dsimp only
  refine wpAny_bind (wpAny_load (k _ _ hq) ?_)
  show wpAny M A (if (Value.type "method" == Value.type "method") = true then _ else _) _ _ _
  rw [if_pos (by decide)]
  dsimp only
  refine wpAny_bind (wpAny_load (k _ _ hf) ?_)
  rw [hd]
  exact wpAny_pure z
theorem fnIn_of {K : Frag} (e : fnIn K f = true) : ∃ o fd, K.lookup f = some o ∧ o.data = .func fd := by
  unfold fnIn at e
  split at e
  · rename_i a; exact ⟨_, _, a, rfl⟩
  · cases e
/-- what a call gives through a slot -/
theorem nx_step {t : Tok} (X : K.In Γ.hB) (ht : fnIn K f = true) (hi : (fi, .obj (ciObj q t)) ∈ σ) (hq : (q, .obj (methodObj (.ref f) (.ref x))) ∈ σ) {P : Option AV → Sto → Prop}
    (h : CalC Γ k (.ref f) [.ref x] σ fun v σ' => ∃ y, v = .str y ∧ (fi, .obj (ciObj q t)) ∈ σ' ∧ (q, .obj (methodObj (.ref f) (.ref x))) ∈ σ' ∧ (if y = "" then ∃ pre post, σ' = pre ++ (fi, .obj (ciObj q t)) :: post ∧ P none (pre ++ post) else P (some (.str y)) σ')) : Nx Γ (k + 1) fi σ P := fun A κ s hA l R => by
  obtain ⟨fo, fd, hfk, hfd⟩ := fnIn_of ht
  have ho := R.ob hi
  have hT : s.TypeIs (.ref fi) "callable_iterator" := ⟨_, ho, rfl⟩
  unfold pyNext
  refine wpAny_bind (wpAny_attempt (wpAny_callSpecial?_slot (name := Str.ofString "__next__") hT slot_ci_next
    (wpAny_call_entry slot_ci_next hT entry_ci_next ?_ (args_ci_next _))))
  unfold Builtin.«callable_iterator.__next__»
  refine wpAny_bind (m := slotArgs _ _ _) (wpAny_of_eq (a := (Value.ref fi, [])) (by first | rfl | kernel_rfl!) ?_)
  dsimp only
  refine wpAny_bind (wpAny_field ho rfl (x := .bool false) rfl ?_)
  rw [if_neg (by decide)]
  refine wpAny_bind (wpAny_field ho rfl (x := .ref q) rfl ?_)
  refine wpAny_bind (wpAny_attempt ?_)
  unfold callOutOfASlot
  refine wpAny_bind ((looks_borrows (R.ob hq) (l.up R _ _ (X _ _ hfk)) hfd).here ?_)
  rw [if_pos rfl]
  refine wpAny_borrowed (method_call (R.ob hq) (codeAny_mono (h A.in1 κ s [.ref x] hA.in1 l R (.cons (.ref _) .nil)) fun r s' z => ?_))
  rcases r with e | (v | _ | _ | _) <;> first | exact z.elim | skip
  obtain ⟨v', σ', h', tk, e, R', r', y, hv, hi', hq', p⟩ := z
  subst e; subst hv
  cases r'
  rename_i ty
  have ho' := R'.ob hi'
  dsimp only
  refine wpAny_bind (wpAny_field ho' rfl (x := .bool false) rfl ?_)
  rw [if_neg (by decide)]
  refine wpAny_bind (wpAny_field ho' rfl (x := .str "" t) rfl ?_)
  refine wpAny_bind (wpAny_holding (eqBool_str ?_))
  by_cases hy : y = ""
  · subst hy
    rw [if_pos rfl] at p
    obtain ⟨pre, post, es, p⟩ := p
    have hsub : (pre ++ post).Sublist σ' := by rw [es]; exact (List.Sublist.refl _).append (.cons _ (.refl _))
    have hnk : fi ∉ keys (pre ++ post) := by
      have nd := R'.nodup
      rw [es, List.map_append, List.map_cons] at nd
      have := (List.perm_middle.nodup_iff).mp nd
      rw [List.nodup_cons] at this
      rw [keys, List.map_append]; exact this.1
    generalize hσ : pre ++ post = σ'' at *
    rw [if_neg (by decide)]
    refine wpAny_bind (wpAny_rule (wpAny_bind ?_))
    show wpAny _ _ (field (.ref fi) 0 >>= _) _ _ _
    refine wpAny_bind (wpAny_field ho' rfl (x := .ref q) rfl (wpAny_bind ?_))
    unfold slotLetsGo
    dsimp only
    refine wpAny_bind ((looks_borrows (R'.ob hq') (l.up R' _ _ (X _ _ hfk)) hfd).here (s := { s with heap := h', toks := tk }) ?_)
    rw [if_pos rfl]
    refine wpAny_pure ?_
    refine wpAny_bind (wpAny_setField ho' rfl (by simp) ?_)
    have u1 := Heap.get?_update_self (Obj.mapFields (·.setIfInBounds 0 .none)) ho' rfl
    refine wpAny_bind (wpAny_setField (s := { s with heap := _, toks := tk }) u1 rfl (by simp) ?_)
    have u2 := Heap.get?_update_self (Obj.mapFields (·.setIfInBounds 1 .none)) u1 rfl
    refine wpAny_setField (s := { s with heap := _, toks := tk }) u2 rfl (by simp) ?_
    show wpAny _ _ (newExc (.type "StopIteration") [] >>= _) _ _ _
    refine wpAny_bind ?_
    simp only [newExc, newTuple]
    refine wpAny_bind (wpAny_newObj_type ?_ (by size_fits))
    refine wpAny_bind (m := firstArgMember _ _) (wpAny_of_eq (a := Value.none) (by first | rfl | (simp only [firstArgMember]; rfl)) ?_)
    refine wpAny_newObj_type ?_ (by size_fits)
    simp only [raiseNew]
    refine wpAny_bind (wpAny_handled ?_)
    rw [show A.in1.handled = none from hA.1]
    refine wpAny_bind (wpAny_pure (wpAny_throw ?_))
    refine wpAny_bind (wpAny_isInstance (T := "StopIteration") (b := true) ⟨_, Heap.get?_push_size _ rfl, rfl⟩ isSubtype_stop ?_)
    have fin : ∀ h₂, Heap.ExtBut fi h' h₂ → RepS κ σ'' h₂ := fun h₂ E => (R'.sub hsub).ext (R'.new _ hi') hnk E (.of_ext_seq ho' (fun xs n e => by cases e) E)
    exact wpAny_pure ⟨none, σ'', _, tk, rfl, fin _ ((((Heap.SameBut.update ..).extBut.trans ((Heap.SameBut.update ..).extBut.trans (Heap.SameBut.update ..).extBut)).push _).push _), trivial, p⟩
  · rw [if_neg hy] at p
    have hb : ((("" : Str) == y) = false) := beq_eq_false_iff_ne.mpr fun e => hy e.symm
    rw [hb]
    refine wpAny_pure ⟨_, rfl, wpAny_pure ⟨some (.str y), σ', h', tk, rfl, R', .str _ _, p⟩⟩

/-- a for over such an iterator -/
noncomputable def ForC (Γ : Gd) (k : Nat) (sc : Scope) (target : Expr) (body : List Stmt) (it : Addr) (loc : Loc) (σ : Sto) (P : AFl → Loc → Sto → Prop) : Prop :=
  ∀ A κ env s, AOk k A → Γ.le κ → Fits sc env → Rep κ env loc σ s.heap → codeAny Γ.M A (.forLoop target (.ref it) body [] env) (PstC κ env s P) s
theorem Nx.at {it : Addr} {P : Option AV → Sto → Prop} (o : Nx Γ k it σ P) {A : Around} {κ : Kap} {env : Env} {s : Shared} (hA : AOk k A) (l : Γ.le κ) (R : Rep κ env loc σ s.heap) :
    wpAny Γ.M A (pyNext (.ref it)) (fun r s' => ∃ v σ' h' tk, s' = { s with heap := h', toks := tk } ∧ TK κ.av s.heap h' ∧ Rep κ env loc σ' h' ∧ (match r, v with | none, none => True | some V, some v => VRel κ.av h' v V | _, _ => False) ∧ P v σ') No s :=
  wp_no (o A (mx R.s) s hA (Gd.le_mx R.s l) R.s.mx) fun r s' pst => pst.elim fun v p => p.elim fun σ' p => p.elim fun h' p => p.elim fun tk p =>
    have x := frame_step R p.2.1; ⟨v, σ', h', tk, p.1, x.1, x.2, p.2.2.1, p.2.2.2⟩
theorem forC {z : Str} {zp : Pos} {it : Addr} {P : AFl → Loc → Sto → Prop} (h : Nx Γ k it σ fun r σ₁ => match r with
      | none => P .next loc σ₁
      | some v => Asg Γ k sc (.Name z zp) v loc σ₁ fun l σ₂ => Exs Γ k sc body l σ₂ (Turn P fun l σ' => ForC Γ k sc (.Name z zp) body it l σ' P)) : ForC Γ k sc (.Name z zp) body it loc σ P := fun A κ env s hA le f R => by
  refine forI_tree (wp_no (h.at hA le R) fun r s₁ pst => ?_)
  obtain ⟨v, σ₁, h₁, tk₁, e₁, q₁, R₁, m, p⟩ := pst
  subst e₁
  cases r with
  | none =>
    cases v with
    | some _ => exact m.elim
    | none => exact ⟨.next, loc, σ₁, h₁, tk₁, rfl, q₁, R₁, .next, p⟩
  | some V =>
    cases v with
    | none => exact m.elim
    | some v =>
      refine wpAny_pure (wpA (p A κ env _ V hA le f R₁ m) fun l₂ σ₂ h₂ tk₂ q₂ R₂ p₂ => ?_)
      refine wpX (p₂ A κ env _ hA le f R₂) fun fl g l₃ σ₃ h₃ tk₃ q₃ R₃ r₃ p₃ => ?_
      have tkA := (q₁.trans q₂).trans q₃
      have go : ForC Γ k sc (.Name z zp) body it l₃ σ₃ P → codeAny Γ.M A (.forLoop (.Name z zp) (.ref it) body [] env) (PstC κ env s P) { s with heap := h₃, toks := tk₃ } := fun again =>
        codeAny_mono (again A κ env { s with heap := h₃, toks := tk₃ } hA le f R₃) fun r s₅ x => by
          cases r with
          | ok f => exact PstX.trans tkA x
          | error _ => exact x
      cases r₃ with
      | next => exact go p₃
      | cont => exact go p₃
      | brk => exact ⟨_, _, _, _, _, rfl, tkA, R₃, .next, p₃⟩
      | ret r => exact ⟨_, _, _, _, _, rfl, tkA, R₃, .ret r, p₃⟩
theorem ex_forC {z : Str} {zp pos : Pos} {iter : Expr} {P : AFl → Loc → Sto → Prop} (h : Ev Γ k sc iter loc σ fun v σ₁ => ∃ it q t, v = .ref it ∧ (it, .obj (ciObj q t)) ∈ σ₁ ∧ ForC Γ k sc (.Name z zp) body it loc σ₁ P) (hs : ∀ env x, foldedSetIterable iter env x = pure x) : Ex Γ k sc (.For (.Name z zp) iter body [] pos) loc σ P := fun A κ env s hA le f R => by
  refine wpAny_For (wp_no (h A κ env s hA le f R) fun V s₁ pst => ?_) (hs env)
  obtain ⟨v, σ₁, h₁, tk₁, e₁, q₁, R₁, r₁, it, q, t, hv, hm, p⟩ := pst
  subst e₁; subst hv; cases r₁
  have hT : ({ s with heap := h₁, toks := tk₁ } : Shared).TypeIs (.ref it) "callable_iterator" := ⟨_, R₁.s.ob hm, rfl⟩
  refine wpAny_pyIter_slot hT slot_ci_iter (wpAny_call_entry slot_ci_iter hT entry_ci_iter ?_ (args_ci_iter _))
  show wpAny _ _ (ret (.ref it)) _ _ _
  refine wpAny_pure ⟨_, rfl, "callable_iterator", _, hT, slot_ci_next.lookup, codeAny_mono (p A κ env _ hA le f R₁) fun r s₃ x => ?_⟩
  cases r with
  | error _ => exact x.elim
  | ok fl => exact PstX.trans q₁ x
end
end Mine
namespace Mine

theorem store_function : StoreFacts "function" [.type "function", .type "object"] "object.__setattr__" "object" where
  mro := by kernel_rfl
  slot := .of (owner := "object") (n := "__setattr__") (by rw [typeLookup_type, builtinLookup_eq_fast]; kernel_rfl) (by decide +kernel) (by decide +kernel) (by decide +kernel)
    (by first | exact .inl (by decide +kernel) | exact .inr (by decide +kernel)) (by rw [isSubtype_type]; kernel_rfl)
  entry := PySem.F.entry_object_sa
  kind := by decide +kernel
  split := by decide +kernel
  hasOwner := by decide +kernel
  args := fun a b c => by unfold argsOk; kernel_rfl
  passes := fun self => by kernel_rfl
theorem fn_read : typeLookup (.type "function") "read" = pure none := by rw [typeLookup_type, builtinLookup_eq_fast]; kernel_rfl
theorem fn_ga : typeLookup (.type "function") "__getattribute__" = pure (some (.builtin "object.__getattribute__")) := by rw [typeLookup_type, builtinLookup_eq_fast]; kernel_rfl
theorem fn_gat : typeLookup (.type "function") "__getattr__" = pure none := by rw [typeLookup_type, builtinLookup_eq_fast]; kernel_rfl

section
variable {Γ : Gd} {k : Nat} {sc : Scope} {loc : Loc} {σ : Sto} {κ : Kap} {h : Heap} {st d : Addr} {o : Obj} {fd : FuncData} {es : List (Str × AV)}
theorem looks_fnread {M : Model} {od : Obj} {V : Value} (ho : h.get? st = some o) (hc : o.cls = .type "function") (hf : o.data = .func fd) (hd : o.dict = some d) (hod : h.get? d = some od) (hl : lookIn "read" od = some (some V)) : Looks M h (Builtin.ObjectAttr.find (.ref st) (.type "function") "read") (.value V) := by
  refine (Looks.of_pure fn_read).andThen (Looks.now.andThen (Looks.now.andThen ?_))
  have D : Looks M h (Builtin.ObjectAttr.ownDict st) (some d) := fun A Q E s k z => by
    refine wpAny_bind (wpAny_loadPart (k _ _ ho) ?_)
    rw [hf]
    dsimp only
    unfold instanceDict
    refine wpAny_bind (wpAny_loadPart (k _ _ ho) ?_)
    rw [hc, hd]
    exact wpAny_pure z
  have N : Looks M h (nsGet d "read") (some V) := fun A Q E s k z => by
    refine wpAny_bind (wpAny_loadPart (k _ _ hod) ?_)
    rw [nsLook_of hl]; exact wpAny_pure z
  exact (show Looks M h (Builtin.ObjectAttr.inOwnDict "read" (.ref st)) (some V) from D.andThen N).andThen (Looks.tag .now)
theorem slot_fn_ga : Slot "function" "__getattribute__" "object.__getattribute__" :=
  .of (owner := "object") (n := "__getattribute__") (by rw [typeLookup_type, builtinLookup_eq_fast]; kernel_rfl) (by decide +kernel) (by decide +kernel) (by decide +kernel)
    (by first | exact .inl (by decide +kernel) | exact .inr (by decide +kernel)) (by rw [isSubtype_type]; kernel_rfl)
theorem entry_ga : entryFor table "object.__getattribute__" = some Builtin.«object.__getattribute__» := entryFor_of_tree (by kernel_rfl)
theorem args_ga (a b : Value) : argsOk "object.__getattribute__" ⟨[a, b], []⟩ := by unfold argsOk; kernel_rfl
/-- the function that stands under read -/
theorem gm_fnread {rd : Addr} (hs : (st, .obj o) ∈ σ) (hc : o.cls = .type "function") (hf : o.data = .func fd) (hd : o.dict = some d) (hn : (d, .ns es) ∈ σ) (hr : es.lookup ("read" : Str) = some (.ref rd)) : GM Γ "read" (.ref st) σ (.ref rd) [] := fun A κ s V pl Q l R r hq => by
  cases r
  have ho := R.ob hs
  obtain ⟨en, n, ed, er⟩ := R.ns hn
  have hl : lookIn "read" { cls := .type "dict", data := .dict en.toArray n } = some (some (.ref rd)) := by
    rcases er.look "read" (n := n) (c := .type "dict") with ⟨a, _⟩ | ⟨v', V, a, b, c⟩
    · rw [hr] at a; cases a
    · rw [hr] at a; cases a; cases c; exact b
  have hT : Looks Γ.M s.heap (typeOf (.ref st)) (.type "function") := hc ▸ (Looks.ld ho).andThen .now
  have hS : ∀ {x : Str} {v : Option Value}, typeLookup (.type "function") x = pure v → Looks Γ.M s.heap (specialOf (.ref st) x) v := fun e => hT.andThen (Looks.of_pure e)
  have hF := looks_fnread (M := Γ.M) ho hc hf hd ed hl
  unfold getMethod
  refine wpAny_bind ((hS fn_ga).here ?_)
  dsimp only
  rw [PySem.F.canon_object_ga, if_neg (by decide)]
  refine wpAny_bind ((hS fn_gat).here ?_)
  refine wpAny_bind ((hS fn_read).here ?_)
  dsimp only
  refine wpAny_bind ?_
  unfold getAttr getAttrBy
  refine wpAny_bind (wpAny_mkText (wpAny_holding (wpAny_bind (hT.here (s := { s with toks := s.toks + 1 }) (wpAny_bind ((Looks.of_pure fn_ga).here ?_))))))
  show wpAny _ _ (getAttrByItsOwn _ _ _ _ _ _) _ _ _
  unfold getAttrByItsOwn
  refine wpAny_bind (wpAny_pure (wpAny_bind (wpAny_attempt (wpAny_holding ?_))))
  show wpAny _ _ (boundAndCalled _ _ _) _ _ _
  unfold boundAndCalled
  rw [slot_fn_ga.bind]
  refine wpAny_bind (wpAny_pure ?_)
  refine wpAny_call_entry slot_fn_ga ⟨_, ho, hc⟩ entry_ga ?_ (args_ga _ _)
  unfold Builtin.«object.__getattribute__»
  refine wpAny_bind (m := slotArgs _ _ _) (wpAny_of_eq (a := (Value.ref st, [.str "read" s.toks])) (by first | rfl | kernel_rfl!) ?_)
  dsimp only
  refine wpAny_bind (wpAny_pure (wpAny_bind (hT.here (s := { s with toks := s.toks + 1 }) (wpAny_bind (hF.here (s := { s with toks := s.toks + 1 }) ?_)))))
  refine wpAny_pure ⟨_, rfl, ?_⟩
  exact handed_on rfl (wpAny_pure (hq [] _ .nil))

/-- read set on a function that has no dict yet -/
theorem st_fnread {v : AV} {σ' : Addr → Sto} {P : Sto → Prop} (hc : o.cls = .type "function") (hf : o.data = .func fd) (hd : o.dict = none) (at' : ∀ d, At σ st (.obj o) (.obj { o with dict := some d }) (σ' d)) (p : ∀ d, P ((d, .ns [("read", v)]) :: σ' d)) : St1 Γ k "read" (.ref st) v σ P := by
  intro A κ s V W hA l R r rv
  cases r
  have ho := R.ob (at' 0).mem
  have SF := store_function
  have hT : Looks Γ.M s.heap (typeOf (.ref st)) (.type "function") := hc ▸ (Looks.ld ho).andThen .now
  unfold setAttr
  refine wpAny_bind (wpAny_mkText (wpAny_bind (wpAny_callSpecial?_slot (s := { s with toks := s.toks + 1 }) (T := "function") ⟨_, ho, hc⟩ SF.slot (wpAny_call_entry (s := { s with toks := s.toks + 1 }) (T := "function") SF.slot ⟨_, ho, hc⟩ SF.entry ?_ (SF.args _ _ _)))))
  rw [osa_eq, refuse_eq]
  refine wpAny_bind (wpAny_bind (hT.here (s := { s with toks := s.toks + 1 }) (wpAny_bind (wpAny_of_eq SF.mro ?_))))
  rw [SF.passes]
  refine wpAny_pure (wpAny_bind (hT.here (s := { s with toks := s.toks + 1 }) (wpAny_bind (wpAny_of_eq fn_read (wpAny_bind (wpAny_pure ?_))))))
  show wpAny _ _ (Builtin.ObjectAttr.storeInOwnDict _ _ _ _ _ _) _ _ _
  unfold Builtin.ObjectAttr.storeInOwnDict
  refine wpAny_bind (wpAny_of_eq (a := ()) (by first | rfl | kernel_rfl!) ?_)
  rw [if_neg (by decide)]
  refine wpAny_bind ?_
  show wpAny _ _ (instanceDict st true) _ _ _
  unfold instanceDict
  refine wpAny_bind (wpAny_loadPart ho ?_)
  rw [hc, hd]
  dsimp only
  rw [if_neg (by decide +kernel), hf]
  dsimp only
  refine wpAny_bind (wpAny_alloc (wpAny_bind ?_))
  have ho1 := Heap.get?_push_of_some emptyDict ho
  refine wpAny_update (s := { s with heap := s.heap.push emptyDict, toks := s.toks + 1 }) ho1 ?_
  refine wpAny_of_eq (a := some s.heap.objs.size) (by first | rfl | kernel_rfl!) ?_
  dsimp only
  have R1 : RepS κ ((s.heap.objs.size, .ns []) :: σ) (s.heap.push emptyDict) := R.add (o := .ns []) size_new (push_keeps _) (Heap.get?_push_size _ rfl) ⟨[], 0, rfl, .nil⟩
  have hs : Heap.SameBut st (s.heap.push emptyDict) ((s.heap.push emptyDict).update st fun o => { o with dict := some s.heap.objs.size }) := Heap.SameBut.update ..
  have at1 := At.tail (p := (s.heap.objs.size, AO.ns [])) (at' s.heap.objs.size)
  have R2 := R1.upd at1 hs.extBut (Heap.get?_update_self _ ho1 (by show Obj.isFreed { o with dict := _ } = false; unfold Obj.isFreed; rw [hf])) ⟨rfl, fun _ _ e => by have e2 := congrArg Obj.data e; rw [hf] at e2; cases e2⟩
  have tk1 : TK κ.av s.heap ((s.heap.push emptyDict).update st fun o => { o with dict := some s.heap.objs.size }) := (TK.of_keeps (push_keeps _)).trans (R1.tk_upd at1.mem hs.extBut)
  refine store_dict (s := { s with heap := _, toks := s.toks + 1 }) R2 (v := v) (σ' := (s.heap.objs.size, .ns [("read", v)]) :: σ' s.heap.objs.size) .head (by simp) (rv.mono tk1) fun h' tk' R' => ⟨_, rfl, wpAny_pure ⟨_, h', tk', rfl, R', p _⟩⟩
end
end Mine
namespace Mine

/-- in a frame whose code and cells are known -/
noncomputable def ExsF (Γ : Gd) (k : Nat) (sc : Scope) (cd : Value) (cells : List (Str × Addr)) (st : List Stmt) (loc : Loc) (σ : Sto) (P : AFl → Loc → Sto → Prop) : Prop :=
  ∀ A κ env s, AOk k A → Γ.le κ → Fits sc env → env.code = cd → env.cells = cells → Rep κ env loc σ s.heap → wpAny Γ.M A (execs st env) (PstX κ env s P) No s

noncomputable def closL (cells : List (Str × Addr)) : List (Str × NameKind) → List (Str × Addr) → List (Str × Addr)
  | [], acc => acc
  | (n, k) :: r, acc => if k == .free then closL cells r ((n, (cells.lookup n).getD 0) :: acc) else closL cells r acc
theorem clos_eq (env : Env) : ∀ (names : List (Str × NameKind)) (acc : List (Str × Addr)), clos env names acc = closL env.cells names acc
  | [], acc => rfl
  | (n, k) :: r, acc => by unfold clos closL; rw [clos_eq env r, clos_eq env r]

section
variable {Γ : Gd} {k : Nat} {sc : Scope} {loc : Loc} {σ : Sto} {mg mb : Str → Option Value} {cd : Value} {cells : List (Str × Addr)} {P : AFl → Loc → Sto → Prop} {rest : List Stmt}
theorem exsF_of (h : Exs Γ k sc rest loc σ P) : ExsF Γ k sc cd cells rest loc σ P := fun A κ env s hA l f _ _ R => h A κ env s hA l f R
theorem exsF_cons {st : Stmt} (h : Ex Γ k sc st loc σ fun f l σ' => match f with | .next => ExsF Γ k sc cd cells rest l σ' P | f => P f l σ') : ExsF Γ k sc cd cells (st :: rest) loc σ P := fun A κ env s hA l f e1 e2 R =>
  wpAny_execs_cons (wpX (h A κ env s hA l f R) fun fl g loc₁ σ₁ h₁ tk₁ q R₁ r p => by
    cases r with
    | next => exact wp_no (p A κ env _ hA l f e1 e2 R₁) fun _ _ h => h.trans q
    | brk => exact ⟨_, _, _, _, _, rfl, q, R₁, .brk, p⟩
    | cont => exact ⟨_, _, _, _, _, rfl, q, R₁, .cont, p⟩
    | ret r => exact ⟨_, _, _, _, _, rfl, q, R₁, .ret r, p⟩)

/-- what making a function asks for -/
structure MkOk (Γ : Gd) (mg mb : Str → Option Value) (c T : Addr) : Prop where
  ok : Γ.Ok mg mb
  code : CodeHd Γ.hB c T
  bm : ∃ bm ob, mg "__builtins__" = some (.ref bm) ∧ bm ≠ builtinsNs ∧ Γ.hB.get? bm = some ob ∧ ob.cls = .type "module" ∧ ob.dict = some builtinsNs ∧ ob.data = .plain

theorem MkOk.bat {c T : Addr} (W : MkOk Γ mg mb c T) {κ : Kap} {h : Heap} {ps : Array Value} (l : Γ.le κ) (R : RepS κ σ h) (hm : (T, .obj (tabObj ps)) ∈ σ) : h.Ns mainGlobals mg ∧ CodeHd h c T ∧ h.get? T = some (tabObj ps) ∧ mainGlobals ≠ T ∧ h.BuiltinsAt mg T := by
  obtain ⟨bm, ob, b1, b2, b3, b4, b5, b6⟩ := W.bm
  have hT := R.ob hm
  have hg := W.ok.g.keeps (l.up R)
  refine ⟨hg, W.code.keeps (l.up R), hT, fun q => ?_, bm, ob, b1, b2, fun q => ?_, fun q => ?_, l.up R _ _ b3, b4, b5, b6⟩
  · obtain ⟨o, es, ep, e, hd, _⟩ := hg
    rw [q, hT] at e; cases e; cases hd
  · obtain ⟨o, es, ep, e, hd, _⟩ := W.ok.g
    rw [q, e] at b3; cases b3; rw [hd] at b6; cases b6
  · have e := l.up R _ _ b3
    rw [q, hT] at e; cases e; cases b4

/-- what a making leaves: the table grown, a code record, a function -/
theorem made {κ : Kap} {env : Env} {h h' : Heap} {T c' : Addr} {ps ps' : Array Value} {σ' : Sto} {fo oc : Obj} {vs : Array Value} (R : Rep κ env loc σ h) (at' : At σ T (.obj (tabObj ps)) (.obj (tabObj ps')) σ') (hx : Heap.ExtBut T h h') (hge : h.objs.size ≤ c') (hlt : c' < h'.objs.size) (hT : h'.get? T = some (tabObj ps')) (hoc : h'.get? c' = some oc) (hd : oc.data = .fields vs) (hf : ∀ vs n, fo ≠ { cls := .type "tuple", data := .seq vs n }) (hfr : fo.isFreed = false) :
    TK κ.av h (h'.push fo) ∧ Rep κ env loc ((h'.objs.size, .obj fo) :: (c', .obj oc) :: σ') (h'.push fo) := by
  have R1 : RepS κ σ' h' := R.s.upd at' hx hT ⟨rfl, fun _ _ e => by have e2 := congrArg Obj.data e; cases e2⟩
  have tk1 : TK κ.av h h' := R.s.tk_upd at'.mem hx
  have hn : h.get? c' = none := Heap.get?_none_of_le hge
  have R2 : RepS κ ((c', .obj oc) :: σ') h' := {
    prot := R1.prot
    objs := fun p hp => by
      rcases List.mem_cons.mp hp with e | e
      · subst e; exact ⟨oc, hoc, rfl, fun _ _ e => by rw [e] at hd; cases hd⟩
      · exact R1.objs p e
    nodup := by
      simp only [List.map_cons, List.nodup_cons]
      refine ⟨fun hm => ?_, R1.nodup⟩
      rw [at'.keys] at hm
      obtain ⟨o, e, _⟩ := R.s.live hm
      rw [hn] at e; cases e
    new := fun p hp => by
      rcases List.mem_cons.mp hp with e | e
      · subst e
        cases e : κ.p c' with
        | none => rfl
        | some o => have := R.s.prot _ _ e; rw [hn] at this; cases this
      · exact R1.new p e }
  have F2 : FRel κ env loc ((c', .obj oc) :: σ') h' := R.f.stp {
    keep := fun b o hb e => hx b o (fun q => hb (q ▸ List.mem_map_of_mem at'.mem)) e
    new := fun a ha => by
      simp only [keys, List.map_cons] at ha
      rcases List.mem_cons.mp ha with e | e
      · exact .inr (e ▸ hn)
      · rw [at'.keys] at e; exact .inl e
    tk := tk1 }
  have R3 : Rep κ env loc ((h'.objs.size, .obj fo) :: (c', .obj oc) :: σ') (h'.push fo) := Rep.add ⟨R2, F2⟩ size_new (push_keeps _) (Heap.get?_push_size _ hfr) ⟨rfl, hf⟩
  exact ⟨tk1.trans (.of_keeps (push_keeps _)), R3⟩

/-- an inner def, the first time -/
theorem exsF_def {name : Str} {args : Arguments} {body : List Stmt} {scope : Scope} {pos : Pos} {c T : Addr} {ps : Array Value} {σ' : Addr → Sto} (W : MkOk Γ mg mb c T) (hcd : cd = .ref c) (htr : TriplesOk ps.toList) (hnf : codeAmong pos ps.toList = none)
    (at' : ∀ c', At σ T (.obj (tabObj ps)) (.obj (tabObj (ps ++ #[rawInt pos.line, rawInt pos.col, .ref c']))) (σ' c')) (hcl : ∀ x, (x, NameKind.free) ∈ scope.names → ∃ c, cells.lookup x = some c)
    (hda : args.defaults = []) (hdk : args.kw_defaults = []) (han : ∀ e, annTrees args none e = []) (hk : sc.names.lookup name = some .local)
    (h : ∀ f c' oc vs t ctv doc pm qual, oc.data = .fields vs → vs[1]? = some (.str qual t) → ExsF Γ k sc cd cells rest (lset loc name (.ref f)) ((f, .obj (fnMade name qual args body scope (closL cells scope.names []) doc pm c' ctv)) :: (c', .obj oc) :: σ' c') P) :
    ExsF Γ k sc cd cells (.FunctionDef name args body [] none [] scope none name pos :: rest) loc σ P := fun A κ env s hA l f e1 e2 R => by
  refine wpAny_execs_cons ?_
  rw [exec_def, defaultsOf_eq, hda, hdk, han]
  refine wpAny_bind (wpAny_standAt (wpAny_bind (wpAny_holding ?_)))
  refine wpAny_bind (wpAny_pure (wpAny_bind (wpAny_holding (wpAny_pure (wpAny_holding (wpAny_bind (wpAny_pure ?_)))))))
  obtain ⟨w1, w2, w3, w4, w5⟩ := W.bat l R.s (at' 0).mem
  refine makeFunction_K (mg := mg) (closureFor_of fun x hx => by rw [e2]; exact hcl x hx) f.glob w1 (by rw [e1, hcd]) w2 w3 htr hnf w4 w5 fun c' ctv doc h' tk hx hge hlt hrec htb => ?_
  obtain ⟨c₂, oc, vs, t, ec, hoc, hd, hv⟩ := hrec
  cases ec
  rw [clos_eq, e2]
  obtain ⟨tk1, R1⟩ := made R (at' c') hx hge hlt htb hoc hd (fo := fnMade name (qualnameIn env name name) args body scope (closL cells scope.names []) doc ((mg "__name__").getD .none) c' ctv) (fun _ _ e => by have e2 := congrArg Obj.data e; cases e2) rfl
  refine wpAny_bind (wpAny_standAt ?_)
  refine wpAny_bind (wpAny_bindName (wpA (store_name (P := fun l' σ₁ => ExsF Γ k sc cd cells rest l' σ₁ P) (.inl hk) (h _ c' oc vs t ctv doc _ _ hd hv) f R1 (.ref _)) fun l₂ σ₂ h₂ tk₂ q₂ R₂ p₂ => ?_))
  refine wpAny_pure ?_
  exact wp_no (p₂ A κ env _ hA l f e1 e2 R₂) fun _ _ h => (h.trans (tk₁ := tk) q₂).trans tk1

/-- name = lambda, the first time -/
theorem exsF_lam {name : Str} {params : Arguments} {body : Expr} {scope : Scope} {np lpos pos : Pos} {c T : Addr} {ps : Array Value} {σ' : Addr → Sto} (W : MkOk Γ mg mb c T) (hcd : cd = .ref c) (htr : TriplesOk ps.toList) (hnf : codeAmong lpos ps.toList = none)
    (at' : ∀ c', At σ T (.obj (tabObj ps)) (.obj (tabObj (ps ++ #[rawInt lpos.line, rawInt lpos.col, .ref c']))) (σ' c')) (hcl : ∀ x, (x, NameKind.free) ∈ scope.names → ∃ c, cells.lookup x = some c)
    (hdf : ∀ env, defaultsOf params env = ([], [])) (hk : sc.names.lookup name = some .local)
    (hs : ∀ env, Fits sc env → swapsWithSole [.Name name np] (.Lambda params body scope lpos) pos.line env = pure false) (hw : ∀ env, Fits sc env → swappedStores [.Name name np] (.Lambda params body scope lpos) env = pure none)
    (h : ∀ f c' oc vs t ctv pm qual, oc.data = .fields vs → vs[1]? = some (.str qual t) → ExsF Γ k sc cd cells rest (lset loc name (.ref f)) ((f, .obj (kla_obj "<lambda>" qual params body scope (closL cells scope.names []) pm c' ctv)) :: (c', .obj oc) :: σ' c') P) :
    ExsF Γ k sc cd cells (.Assign [.Name name np] (.Lambda params body scope lpos) pos :: rest) loc σ P := fun A κ env s hA l f e1 e2 R => by
  refine wpAny_execs_cons (wpAny_Assign_stores ?_ (hs env f) (hw env f))
  refine kla_eval (hdf env) ?_
  obtain ⟨w1, w2, w3, w4, w5⟩ := W.bat l R.s (at' 0).mem
  refine kla_makeFunction (mg := mg) (closureFor_of fun x hx => by rw [e2]; exact hcl x hx) f.glob w1 (by rw [e1, hcd]) w2 w3 htr hnf w4 w5 fun c' ctv h' tk hx hge hlt hrec htb => ?_
  obtain ⟨c₂, oc, vs, t, ec, hoc, hd, hv⟩ := hrec
  cases ec
  rw [clos_eq, e2]
  obtain ⟨tk1, R1⟩ := made R (at' c') hx hge hlt htb hoc hd (fo := kla_obj "<lambda>" (env.qual ++ "<lambda>") params body scope (closL cells scope.names []) ((mg "__name__").getD .none) c' ctv) (fun _ _ e => by have e2 := congrArg Obj.data e; cases e2) rfl
  show wpAny _ _ (assign (.Name name np) env _) _ _ _
  refine wpAny_assign_Name (wpA (store_name (P := fun l' σ₁ => ExsF Γ k sc cd cells rest l' σ₁ P) (.inl hk) (h _ c' oc vs t ctv _ _ hd hv) f R1 (.ref _)) fun l₂ σ₂ h₂ tk₂ q₂ R₂ p₂ => ?_)
  exact wp_no (p₂ A κ env _ hA l f e1 e2 R₂) fun _ _ h => (h.trans (tk₁ := tk) q₂).trans tk1

/-- two cells of a frame that ends, as objects of the store -/
theorem two_cells {κ : Kap} {env : Env} {h : Heap} {x y : Str} {cx cy : Addr} {vx vy : AV} (R : Rep κ env loc σ h) (hf : env.func.isSome = true) (kx : env.kindOf x = some .cell) (ky : env.kindOf y = some .cell) (hxy : x ≠ y) (ex : env.cells.lookup x = some cx) (ey : env.cells.lookup y = some cy) (lx : loc.lookup x = some vx) (ly : loc.lookup y = some vy) :
    RepS κ ((cx, .cell vx) :: (cy, .cell vy) :: σ) h := by
  obtain ⟨c, V, e, ⟨o, ho, hd⟩, hv⟩ := R.f.cell x kx
  rw [ex] at e; cases e
  obtain ⟨W, rfl, rx⟩ := hv vx lx
  obtain ⟨c, V', e, ⟨o', ho', hd'⟩, hv'⟩ := R.f.cell y ky
  rw [ey] at e; cases e
  obtain ⟨W', rfl, ry⟩ := hv' vy ly
  have nx := R.f.cnew x cx kx ex
  have ny := R.f.cnew y cy ky ey
  have hne : cx ≠ cy := fun q => hxy (R.f.apart x y cx kx ky ex (q ▸ ey))
  exact {
    prot := R.s.prot
    objs := fun p hp => by
      rcases List.mem_cons.mp hp with e | hp
      · subst e; exact ⟨o, ho, W, hd, rx⟩
      · rcases List.mem_cons.mp hp with e | hp
        · subst e; exact ⟨o', ho', W', hd', ry⟩
        · exact R.s.objs p hp
    nodup := by
      simp only [List.map_cons, List.nodup_cons, List.mem_cons, not_or]
      exact ⟨⟨hne, nx.1⟩, ny.1, R.s.nodup⟩
    new := fun p hp => by
      rcases List.mem_cons.mp hp with e | hp
      · subst e; exact nx.2.1 hf
      · rcases List.mem_cons.mp hp with e | hp
        · subst e; exact ny.2.1 hf
        · exact R.s.new p hp }
end
end Mine
namespace Mine
section
variable {Γ : Gd} {k : Nat} {sc : Scope} {loc : Loc} {σ : Sto} {mg mb : Str → Option Value}

/-- a def two of whose names inner functions keep -/
theorem fn_cells2 {f : Addr} {fd : FuncData} {body : List Stmt} {names : List Str} {xs : List AV} {P : AV → Sto → Prop} {x y : Str} (G : Γ.Ok mg mb) (O : FnOk Γ f fd body names)
    (hlen : xs.length = names.length) (hloc : ∀ x ∈ names, fd.scope.names.lookup x = some .local ∨ fd.scope.names.lookup x = some .cell) (kx : fd.scope.names.lookup x = some .cell) (ky : fd.scope.names.lookup y = some .cell) (hxy : x ≠ y)
    (h : ∀ n cx cy, (cellsFrom n fd.scope.names []).lookup x = some cx → (cellsFrom n fd.scope.names []).lookup y = some cy → ExsF Γ k fd.scope fd.code (cellsFrom n fd.scope.names []) body (names.zip xs) σ fun fl l σ' => ∃ vx vy, l.lookup x = some vx ∧ l.lookup y = some vy ∧ Drp ((cx, .cell vx) :: (cy, .cell vy) :: σ') (P (retv fl))) : CalC Γ (k + 1) (.ref f) xs σ P := fun A κ s Xs hA l R rs => by
  obtain ⟨o, ho, hd⟩ := O.obj
  have up := l.up R
  have hX : Xs.length = names.length := by rw [rs.length, hlen]
  have hcs : ∀ n x, fd.scope.names.lookup x = some .cell → ((cellsFrom n fd.scope.names []).lookup x).isSome = true := fun n x e => cellsFrom_some _ _ _ (.inl e)
  refine (codeAny_call_cells hA.room (up _ _ ho) hd (G.nolimit.keeps up) (O.code.keeps up) O.hb (O.bind Xs hX) O.clo (fun x hx => (hloc x.1 (List.of_mem_zip hx).1).imp id fun e => ⟨e, hcs _ _ e⟩) (fun s₁ I => ?_) O.co O.gen O.kind)
  have fit : Fits fd.scope (callEnvC fd s.heap.objs.size f) := ⟨rfl, O.kind, O.glob, O.blt, fun _ => rfl⟩
  obtain ⟨h₀, tk₀, e₀⟩ := I.toInCall.same
  subst e₀
  have hkeep := I.toInCall.keep
  have hnd : ((names.zip Xs).map (·.1)).Nodup := by rw [zip_keys names Xs hX]; exact O.nodup
  have R₀ : RepS κ σ h₀ := R.keep hkeep
  have fresh : ∀ a, s.heap.objs.size ≤ a → κ.p a = none ∧ a ∉ keys σ := fun a ha => by
    refine ⟨?_, fun hm => ?_⟩
    · cases e : κ.p a with
      | none => rfl
      | some o => exact absurd (Heap.lt_size (R.prot _ _ e)) (Nat.not_lt.mpr ha)
    · obtain ⟨o, e, _⟩ := R.live hm
      exact absurd (Heap.lt_size e) (Nat.not_lt.mpr ha)
  have F : FRel κ (callEnvC fd s.heap.objs.size f) (names.zip xs) σ h₀ := {
    ns := ⟨_, I.toInCall.ns, fun x v hx hk => by
      obtain ⟨_, V, a, b⟩ := zip_lookup rs hx
      refine ⟨V, ?_, b.mono (.of_keeps hkeep)⟩
      rw [bindL_local _ _ _ _ hnd hk, a]⟩
    cell := fun x hx => by
      have hx' := hx
      rw [fit.kindOf] at hx'
      obtain ⟨c, hc⟩ := Option.isSome_iff_exists.mp (hcs (s.heap.objs.size + 1) x hx')
      refine ⟨c, _, hc, I.cell x c hc, fun v hv => ?_⟩
      obtain ⟨_, V, a, b⟩ := zip_lookup rs hv
      refine ⟨V, ?_, b.mono (.of_keeps hkeep)⟩
      rw [bindC_other _ _ _ _ hnd (by rw [hx]; simp), a]
    free := fun x v hx hk => by
      obtain ⟨m, _⟩ := zip_lookup rs hx
      rw [fit.kindOf] at hk
      rcases hloc x m with e | e <;> rw [e] at hk <;> cases hk
    apart := fun x y c _ _ ha hb => name_of_addr I.apart (mem_of_lookup ha) (mem_of_lookup hb)
    Lnew := fresh _ (Nat.le_refl _)
    cnew := fun x c _ hc => let fr := fresh c (Nat.le_of_lt (I.above x c (mem_of_lookup hc))); ⟨fr.2, fun _ => fr.1, fun o e => by rw [fr.1] at e; cases e⟩ }
  obtain ⟨cx, hcx⟩ := Option.isSome_iff_exists.mp (hcs (s.heap.objs.size + 1) x kx)
  obtain ⟨cy, hcy⟩ := Option.isSome_iff_exists.mp (hcs (s.heap.objs.size + 1) y ky)
  refine wp_no (h _ cx cy hcx hcy _ κ _ _ (hA.deeper _) l fit rfl rfl ⟨R₀, F⟩) fun fl s' pst0 => ?_
  obtain ⟨g, loc', σ', h', tk, e, q, R', r, vx, vy, lx, ly, σ'', hsub, p⟩ := pst0
  subst e
  have R2 := two_cells R' rfl (by rw [fit.kindOf]; exact kx) (by rw [fit.kindOf]; exact ky) hxy hcx hcy lx ly
  refine ⟨_, σ'', h', tk, rfl, R2.sub hsub, ?_, p⟩
  cases r with
  | next => exact .none
  | brk => exact .none
  | cont => exact .none
  | ret r => exact r

theorem calC_perm {F : Value} {xs : List AV} {σ' : Sto} {P : AV → Sto → Prop} (h : CalC Γ k F xs σ' P) (hs : σ'.Perm σ) : CalC Γ k F xs σ P := fun A κ s Xs hA l R rs => h A κ s Xs hA l (R.perm hs) rs

/-- what is asked of an inner function that keeps two cells -/
structure CloOk (o oc : Obj) (fd : FuncData) (body : List Stmt) (names : List Str) (x y : Str) (cx cy c' : Addr) : Prop where
  data : o.data = .func fd
  hb : fd.body = .stmts body
  code : fd.code = .ref c'
  crec : ∃ vs t, oc.data = .fields vs ∧ vs[1]? = some (.str fd.qualname t)
  bind : ∀ Xs : List Value, Xs.length = names.length → bindArgs fd ⟨Xs, []⟩ = pure (names.zip Xs)
  nodup : names.Nodup
  glob : fd.globals = mainGlobals
  blt : fd.builtins = builtinsNs
  co : fd.scope.isCoroutine = false
  gen : fd.scope.isGenerator = false
  kind : fd.scope.kind = .function
  clx : fd.closure.lookup x = some cx
  cly : fd.closure.lookup y = some cy

/-- two entries of the store protected -/
theorem RepS.lock2 {κ : Kap} {h : Heap} {cx cy : Addr} {vx vy : AV} (R : RepS κ ((cx, .cell vx) :: (cy, .cell vy) :: σ) h) :
    ∃ κ', κ'.av = κ.av ∧ (∀ b o, κ.p b = some o → κ'.p b = some o) ∧ (∀ b, κ'.p b = none → κ.p b = none) ∧ (∀ b, b ≠ cx → b ≠ cy → κ'.p b = κ.p b) ∧ (∃ o V, h.get? cx = some o ∧ κ'.p cx = some o ∧ o.data = .cell (some V) ∧ VRel κ.av h vx V) ∧ (∃ o V, h.get? cy = some o ∧ κ'.p cy = some o ∧ o.data = .cell (some V) ∧ VRel κ.av h vy V) ∧ RepS κ' σ h := by
  obtain ⟨ox, hox, Vx, dx, rx⟩ := R.objs _ (.head _)
  obtain ⟨oy, hoy, Vy, dy, ry⟩ := R.objs _ (.tail _ (.head _))
  have nx := R.new _ (.head _)
  have ny := R.new _ (.tail _ (.head _))
  have nd := R.nodup
  simp only [List.map_cons, List.nodup_cons, List.mem_cons, not_or] at nd
  dsimp only at hox hoy nx ny
  have hp : ∀ b o, κ.p b = some o → (if b = cx then some ox else if b = cy then some oy else κ.p b) = some o := fun b o e => by
    rw [if_neg (fun q => by rw [q, nx] at e; cases e), if_neg (fun q => by rw [q, ny] at e; cases e)]; exact e
  refine ⟨⟨fun b => if b = cx then some ox else if b = cy then some oy else κ.p b, κ.av, fun a ha => ?_⟩, rfl, hp, fun b e => ?_, fun b h1 h2 => ?_, ⟨ox, Vx, hox, if_pos rfl, dx, rx⟩, ⟨oy, Vy, hoy, ?_, dy, ry⟩, ?_⟩
  · intro q
    cases e : κ.p a with
    | none => exact absurd e (κ.ok a ha)
    | some o => rw [hp a o e] at q; cases q
  · cases e' : κ.p b with
    | none => rfl
    | some o => have := hp b o e'; dsimp only at e; rw [this] at e; cases e
  · dsimp only; rw [if_neg h1, if_neg h2]
  · dsimp only; rw [if_neg (fun q => nd.1.1 q.symm), if_pos rfl]
  · exact {
      prot := fun b o e => by
        dsimp only at e
        by_cases q : b = cx
        · rw [if_pos q] at e; cases e; rw [q]; exact hox
        · rw [if_neg q] at e
          by_cases q' : b = cy
          · rw [if_pos q'] at e; cases e; rw [q']; exact hoy
          · rw [if_neg q'] at e; exact R.prot b o e
      objs := fun p hp => R.objs p (.tail _ (.tail _ hp))
      nodup := nd.2.2
      new := fun p hp => by
        have m1 : p.1 ∈ List.map (fun x => x.fst) σ := List.mem_map_of_mem hp
        dsimp only
        rw [if_neg (fun q : p.1 = cx => nd.1.2 (by rw [q] at m1; exact m1)), if_neg (fun q : p.1 = cy => nd.2.1 (by rw [q] at m1; exact m1))]
        exact R.new p (.tail _ (.tail _ hp)) }

/-- an inner function called -/
theorem fn_clo {f c' cx cy : Addr} {o oc : Obj} {fd : FuncData} {body : List Stmt} {names : List Str} {x y : Str} {xs : List AV} {vx vy : AV} {P : AV → Sto → Prop} (G : Γ.Ok mg mb) (O : CloOk o oc fd body names x y cx cy c') (hf : (f, .obj o) ∈ σ) (hoc : (c', .obj oc) ∈ σ)
    (hlen : xs.length = names.length) (hloc : ∀ x ∈ names, fd.scope.names.lookup x = some .local) (hcell : ∀ x ∈ fd.scope.names, x.2 ≠ .cell) (kx : fd.scope.names.lookup x = some .free) (ky : fd.scope.names.lookup y = some .free)
    (h : Exs Γ k fd.scope body (names.zip xs ++ [(x, vx), (y, vy)]) σ fun fl _ σ' => Drp σ' fun σ'' => P (retv fl) ((cx, .cell vx) :: (cy, .cell vy) :: σ'')) : CalC Γ (k + 1) (.ref f) xs ((cx, .cell vx) :: (cy, .cell vy) :: σ) P := fun A κ s Xs hA l R rs => by
  obtain ⟨κ', av', up', dn', oth', ⟨ox, Vx, hox, px, dx, rx⟩, ⟨oy, Vy, hoy, py, dy, ry⟩, R'⟩ := R.lock2
  have l' : Γ.le κ' := fun b o e => up' b o (l b o e)
  have up := l'.up R'
  have hcd : s.heap.CodeRec fd.code fd.qualname := by
    obtain ⟨vs, t, a, b⟩ := O.crec
    exact ⟨c', oc, vs, t, O.code, R'.ob hoc, a, b⟩
  refine (codeAny_call_def hA.room (R'.ob hf) O.data (G.nolimit.keeps up) hcd O.hb (.of_eq (O.bind Xs (by rw [rs.length, hlen]))) hcell (fun x hx => hloc x.1 (List.of_mem_zip hx).1) (fun h₀ hns hkeep => ?_) O.co O.gen O.kind)
  have fit : Fits fd.scope (callEnv fd s.heap.objs.size f) := ⟨rfl, O.kind, O.glob, O.blt, fun _ => rfl⟩
  have R₀ : RepS κ' σ h₀ := R'.keep hkeep
  have Lκ : κ'.p s.heap.objs.size = none := by
    cases e : κ'.p s.heap.objs.size with
    | none => rfl
    | some o => exact absurd (R'.prot _ _ e) (by rw [size_new]; simp)
  have Lσ : s.heap.objs.size ∉ keys σ := fun hm => by
    obtain ⟨o, e, _⟩ := R'.live hm
    rw [size_new] at e; cases e
  have look : ∀ z v, (names.zip xs ++ [(x, vx), (y, vy)]).lookup z = some v → (names.zip xs).lookup z = some v ∨ (z = x ∧ v = vx) ∨ (z = y ∧ v = vy) := fun z v e => by
    rw [List.lookup_append] at e
    cases e1 : (names.zip xs).lookup z with
    | some w => rw [e1] at e; cases e; exact .inl rfl
    | none =>
      rw [e1] at e
      simp only [Option.none_or, List.lookup_cons, List.lookup_nil] at e
      by_cases q : z = x
      · subst q; rw [beq_self_eq_true] at e; cases e; exact .inr (.inl ⟨rfl, rfl⟩)
      · rw [beq_eq_false_iff_ne.mpr q] at e
        by_cases q' : z = y
        · subst q'; simp only [beq_self_eq_true] at e; cases e; exact .inr (.inr ⟨rfl, rfl⟩)
        · simp only [beq_eq_false_iff_ne.mpr q'] at e; cases e
  have F : FRel κ' (callEnv fd s.heap.objs.size f) (names.zip xs ++ [(x, vx), (y, vy)]) σ h₀ := {
    ns := ⟨_, hns, fun z v hz hk => by
      rw [fit.kindOf] at hk
      rcases look z v hz with hz | ⟨rfl, rfl⟩ | ⟨rfl, rfl⟩
      · obtain ⟨_, V, a, b⟩ := zip_lookup rs hz
        refine ⟨V, ?_, av' ▸ b.mono (.of_keeps hkeep)⟩
        rw [zip_rev_lookup _ _ O.nodup]; exact a
      · rw [kx] at hk; cases hk
      · rw [ky] at hk; cases hk⟩
    cell := fun x hx => by
      rw [fit.kindOf] at hx
      obtain ⟨p, hp, e⟩ : ∃ p ∈ fd.scope.names, p.2 = .cell := ⟨(x, .cell), mem_of_lookup hx, rfl⟩
      exact absurd e (hcell p hp)
    free := fun z v hz hk => by
      rcases look z v hz with hz | ⟨rfl, rfl⟩ | ⟨rfl, rfl⟩
      · obtain ⟨m, _⟩ := zip_lookup rs hz
        rw [fit.kindOf, hloc z m] at hk; cases hk
      · exact ⟨cx, ox, Vx, O.clx, px, dx, av' ▸ rx.mono (.of_keeps hkeep)⟩
      · exact ⟨cy, oy, Vy, O.cly, py, dy, av' ▸ ry.mono (.of_keeps hkeep)⟩
    apart := fun x y c hx => by
      rw [fit.kindOf] at hx
      exact absurd rfl (hcell (x, .cell) (mem_of_lookup hx))
    Lnew := ⟨Lκ, Lσ⟩
    cnew := fun x c hx => by
      rw [fit.kindOf] at hx
      exact absurd rfl (hcell (x, .cell) (mem_of_lookup hx)) }
  refine wp_no (h _ κ' _ { s with heap := h₀, toks := s.toks + (names.zip Xs).length } (hA.deeper _) l' fit ⟨R₀, F⟩) fun fl s' pst0 => ?_
  obtain ⟨g, loc', σ', h', tk, e, q, R1, r, σ'', hsub, p⟩ := pst0
  subst e
  have R2 := R1.s.sub hsub
  have tkA : TK κ.av s.heap h' := (TK.of_keeps hkeep).trans (av' ▸ q)
  have nd := R.nodup
  simp only [List.map_cons, List.nodup_cons, List.mem_cons, not_or] at nd
  have R3 : RepS κ ((cx, .cell vx) :: (cy, .cell vy) :: σ'') h' := {
    prot := fun b o e => R2.prot b o (up' b o e)
    objs := fun p hp => by
      rcases List.mem_cons.mp hp with e | hp
      · subst e; exact ⟨ox, R2.prot _ _ px, Vx, dx, rx.mono tkA⟩
      · rcases List.mem_cons.mp hp with e | hp
        · subst e; exact ⟨oy, R2.prot _ _ py, Vy, dy, ry.mono tkA⟩
        · obtain ⟨ob, e, r⟩ := R2.objs p hp
          exact ⟨ob, e, av' ▸ r⟩
    nodup := by
      simp only [List.map_cons, List.nodup_cons, List.mem_cons, not_or]
      refine ⟨⟨nd.1.1, fun hm => ?_⟩, fun hm => ?_, R2.nodup⟩
      · exact R2.not_key px hm
      · exact R2.not_key py hm
    new := fun p hp => by
      rcases List.mem_cons.mp hp with e | hp
      · subst e; exact R.new _ (.head _)
      · rcases List.mem_cons.mp hp with e | hp
        · subst e; exact R.new _ (.tail _ (.head _))
        · exact dn' _ (R2.new p hp) }
  refine ⟨_, _, h', tk, rfl, R3, ?_, p⟩
  cases r with
  | next => exact .none
  | brk => exact .none
  | cont => exact .none
  | ret r => exact av' ▸ r

theorem locB {sc : Scope} {names : List Str} (h : (names.all fun x => sc.names.lookup x == some .local) = true) : ∀ x ∈ names, sc.names.lookup x = some .local := fun x hx => by
  simpa using List.all_eq_true.mp h x hx
theorem locB2 {sc : Scope} {names : List Str} (h : (names.all fun x => sc.names.lookup x == some .local || sc.names.lookup x == some .cell) = true) : ∀ x ∈ names, sc.names.lookup x = some .local ∨ sc.names.lookup x = some .cell := fun x hx => by
  simpa using List.all_eq_true.mp h x hx
theorem cellB {sc : Scope} (h : (sc.names.all fun x => x.2 != .cell) = true) : ∀ x ∈ sc.names, x.2 ≠ .cell := fun x hx => by
  simpa using List.all_eq_true.mp h x hx
theorem fn_defB {f : Addr} {fd : FuncData} {body : List Stmt} {names : List Str} {xs : List AV} {P : AV → Sto → Prop} (G : Γ.Ok mg mb) (O : FnOk Γ f fd body names)
    (hlen : xs.length = names.length) (hloc : (names.all fun x => fd.scope.names.lookup x == some .local) = true) (hcell : (fd.scope.names.all fun x => x.2 != .cell) = true)
    (h : Exs Γ k fd.scope body (names.zip xs) σ fun fl _ σ' => Drp σ' (P (retv fl))) : CalC Γ (k + 1) (.ref f) xs σ P := fn_def G O hlen (locB hloc) (cellB hcell) h
theorem fn_cellsB {f : Addr} {fd : FuncData} {body : List Stmt} {names : List Str} {xs : List AV} {P : AV → Sto → Prop} (G : Γ.Ok mg mb) (O : FnOk Γ f fd body names)
    (hlen : xs.length = names.length) (hloc : (names.all fun x => fd.scope.names.lookup x == some .local || fd.scope.names.lookup x == some .cell) = true)
    (h : Exs Γ k fd.scope body (names.zip xs) σ fun fl _ σ' => Drp σ' (P (retv fl))) : CalC Γ (k + 1) (.ref f) xs σ P := fn_cells G O hlen (locB2 hloc) h
end
end Mine
namespace Mine
/-- locals known here are known there -/
noncomputable def Sub (l' l : Loc) : Prop := ∀ x v, l'.lookup x = some v → l.lookup x = some v
theorem sub_nil {l : Loc} : Sub [] l := fun _ _ e => by cases e
theorem sub_cons {x : Str} {v : AV} {r l : Loc} (h : l.lookup x = some v) (hr : Sub r l) : Sub ((x, v) :: r) l := fun y w e => by
  rw [List.lookup_cons] at e
  by_cases q : y = x
  · subst q; rw [beq_self_eq_true] at e; cases e; exact h
  · rw [beq_eq_false_iff_ne.mpr q] at e; exact hr y w e
theorem Sub.refl (l : Loc) : Sub l l := fun _ _ e => e

section
variable {Γ : Gd} {k : Nat} {sc : Scope} {loc loc' : Loc} {σ σ' : Sto} {target : Expr} {body : List Stmt} {P : AFl → Loc → Sto → Prop}
theorem Rep.less {κ : Kap} {env : Env} {h : Heap} (R : Rep κ env loc σ h) (hl : Sub loc' loc) (hs : σ'.Sublist σ) : Rep κ env loc' σ' h :=
  ⟨R.s.sub hs, (R.f.forget hl).sub fun _ ha => (hs.map _).subset ha⟩
theorem exs_sub {st : List Stmt} (h : Exs Γ k sc st loc' σ' P) (hl : Sub loc' loc) (hs : σ'.Sublist σ) : Exs Γ k sc st loc σ P := fun A κ env s hA l f R => h A κ env s hA l f (R.less hl hs)
theorem whl_sub {test : Expr} (h : Whl Γ k sc test body loc' σ' P) (hl : Sub loc' loc) (hs : σ'.Sublist σ) : Whl Γ k sc test body loc σ P := fun A κ env s hA l f R => h A κ env s hA l f (R.less hl hs)
theorem forC_sub {it : Addr} (h : ForC Γ k sc target body it loc' σ' P) (hl : Sub loc' loc) (hs : σ'.Sublist σ) : ForC Γ k sc target body it loc σ P := fun A κ env s hA l f R => h A κ env s hA l f (R.less hl hs)
theorem for_sub {src : Sto} {vs : List AV} (h : For Γ k sc target body src vs loc' σ' P) (hl : Sub loc' loc) (hs : σ'.Sublist σ) (hm : ∀ p ∈ src, p ∈ σ') : For Γ k sc target body src vs loc σ P := fun I e A κ env s i hA l f hn R _ hcv =>
  h I e A κ env s i hA l f hn (R.less hl hs) (fun p hp => hm p (e ▸ hp)) hcv
theorem cmp_sub {ifs : List Expr} {elt iter : Expr} {scope : Scope} {pos : Pos} {src : Sto} {D : Addr} {vs : List AV} {P : Sto → Prop} (h : Cmp Γ k sc target ifs elt iter scope pos src D vs loc' σ P) (hl : Sub loc' loc) : Cmp Γ k sc target ifs elt iter scope pos src D vs loc σ P := fun I e A κ env s i hA l f hn R hs hcv =>
  h I e A κ env s i hA l f hn (R.less hl (.refl _)) hs hcv
/-- a for, by its turns -/
theorem for_ind {ι α : Type} {src : Sto} (L : ι → Loc) (S : ι → Sto) (g : α → AV) (I : List α → ι → Prop) (hsrc : ∀ i, ∀ p ∈ src, p ∈ S i)
    (step : ∀ x xs i, I (x :: xs) i → Asg Γ k sc target (g x) (L i) (S i) fun l₁ σ₁ => Exs Γ k sc body l₁ σ₁ (Turn P fun l σ' => ∃ j, I xs j ∧ Sub (L j) l ∧ (S j).Sublist σ'))
    (done : ∀ i, I [] i → P .next (L i) (S i)) : ∀ xs i, I xs i → For Γ k sc target body src (xs.map g) (L i) (S i) P
  | [], i, h => for_nil (done i h)
  | x :: xs, i, h => by
    refine for_cons fun A κ env s V hA l f R r => wpA (step x xs i h A κ env s V hA l f R r) fun l₁ σ₁ h' tk q R' p => ⟨l₁, σ₁, h', tk, rfl, q, R', exs_mono p fun fl l₂ σ₂ t => ?_⟩
    have go : (∃ j, I xs j ∧ Sub (L j) l₂ ∧ (S j).Sublist σ₂) → (∀ p ∈ src, p ∈ σ₂) ∧ For Γ k sc target body src (xs.map g) l₂ σ₂ P := fun ⟨j, hj, hl, hs⟩ =>
      ⟨fun p hp => hs.subset (hsrc j p hp), for_sub (for_ind L S g I hsrc step done xs j hj) hl hs (hsrc j)⟩
    cases fl with
    | next => exact go t
    | cont => exact go t
    | brk => exact t
    | ret v => exact t
/-- a while, by its turns -/
theorem whl_ind {ι : Type} {test : Expr} (L : ι → Loc) (S : ι → Sto) (rank : ι → Nat)
    (step : ∀ i, Ts Γ k sc test (L i) (S i) fun b σ' => Both b (Exs Γ k sc body (L i) σ' (Turn P fun l σ'' => ∃ j, rank j < rank i ∧ Sub (L j) l ∧ (S j).Sublist σ'')) (P .next (L i) σ')) : ∀ i, Whl Γ k sc test body (L i) (S i) P := by
  have key : ∀ n i, rank i < n → Whl Γ k sc test body (L i) (S i) P := by
    intro n
    induction n with
    | zero => intro i h; exact absurd h (Nat.not_lt_zero _)
    | succ n ih =>
      intro i h
      refine whl (ts_mono (step i) fun b σ' ⟨t, e⟩ => ⟨fun hb => exs_mono (t hb) fun fl l₂ σ₂ t => ?_, e⟩)
      have go : (∃ j, rank j < rank i ∧ Sub (L j) l₂ ∧ (S j).Sublist σ₂) → Whl Γ k sc test body l₂ σ₂ P := fun ⟨j, hj, hl, hs⟩ => whl_sub (ih j (by omega)) hl hs
      cases fl with
      | next => exact go t
      | cont => exact go t
      | brk => exact t
      | ret v => exact t
  exact fun i => key _ i (Nat.lt_succ_self _)
/-- a for over a callable's iterator, by its turns -/
theorem forC_ind {ι : Type} {z : Str} {zp : Pos} {it : Addr} (L : ι → Loc) (S : ι → Sto) (rank : ι → Nat)
    (step : ∀ i, Nx Γ k it (S i) fun r σ₁ => match r with
      | none => P .next (L i) σ₁
      | some v => Asg Γ k sc (.Name z zp) v (L i) σ₁ fun l σ₂ => Exs Γ k sc body l σ₂ (Turn P fun l σ' => ∃ j, rank j < rank i ∧ Sub (L j) l ∧ (S j).Sublist σ')) : ∀ i, ForC Γ k sc (.Name z zp) body it (L i) (S i) P := by
  have key : ∀ n i, rank i < n → ForC Γ k sc (.Name z zp) body it (L i) (S i) P := by
    intro n
    induction n with
    | zero => intro i h; exact absurd h (Nat.not_lt_zero _)
    | succ n ih =>
      intro i h
      refine forC fun A κ s hA l R => wp_no (step i A κ s hA l R) fun r s' ⟨v, σ', h', tk, e, R', m, p⟩ => ⟨v, σ', h', tk, e, R', m, ?_⟩
      cases v with
      | none => exact p
      | some v =>
        refine fun A κ env s V hA l f R r => wpA (p A κ env s V hA l f R r) fun l₁ σ₁ h' tk q R' p => ⟨l₁, σ₁, h', tk, rfl, q, R', exs_mono p fun fl l₂ σ₂ t => ?_⟩
        have go : (∃ j, rank j < rank i ∧ Sub (L j) l₂ ∧ (S j).Sublist σ₂) → ForC Γ k sc (.Name z zp) body it l₂ σ₂ P := fun ⟨j, hj, hl, hs⟩ => forC_sub (ih j (by omega)) hl hs
        cases fl with
        | next => exact go t
        | cont => exact go t
        | brk => exact t
        | ret v => exact t
  exact fun i => key _ i (Nat.lt_succ_self _)
end
end Mine
namespace Mine
theorem forIn_steps {β : Type} (f : Nat → β → Sem (ForInStep β)) (S : Nat → β) (n : Nat) (h : ∀ x i, i < n → f x (S i) = pure (.yield (S (i + 1)))) : ∀ (l : List Nat) (i : Nat), i + l.length = n → forIn l (S i) f = pure (S n)
  | [], i, e => by rw [List.forIn_nil]; simp at e; subst e; rfl
  | x :: l, i, e => by
    rw [List.forIn_cons, h x i (by simp at e; omega)]
    show forIn l (S (i + 1)) f = _
    exact forIn_steps f S n h l (i + 1) (by simp at e ⊢; omega)
open Builtin in
theorem dec_ascii (id : String) (l : List UInt8) (ha : ∀ c ∈ l, c.toNat < 128) (hl : l.length ≤ 1000) :
    _codecs.runDecoder id _codecs.utf8Decoder none true l.toArray 0 [] = pure ((l.map (·.toNat)).toArray, l.length) := by
  unfold _codecs.runDecoder
  simp only [Std.Legacy.Range.forIn_eq_forIn_range']
  refine Eq.trans (congr (congrArg Bind.bind (forIn_steps _ (fun i => (i, ((l.take i).map (·.toNat)).toArray, ({} : _codecs.Faults))) l.length ?_ _ 0 (by simp [Std.Legacy.Range.size]))) rfl) ?_
  · intro x i hi
    have h1 : ¬ (((l.take i).map (·.toNat)).toArray.size > sizeLine) := by rw [sizeLine_eq]; simp; omega
    have h2 : ¬ (i ≥ l.toArray.size) := by simp; omega
    have h3 : _codecs.utf8Decoder.find true l.toArray i = .text [(l[i]).toNat] (i + 1) := by
      have e : (l.toArray.getD i 0) = l[i] := by simp [Array.getD, hi]
      have hc : (l[i]).toNat < 128 := ha _ (List.getElem_mem _)
      have u : Bytes.utf8At l.toArray i = (.char (l[i]).toNat, i + 1) := by
        unfold Bytes.utf8At
        simp only [e, hc, if_true]
      unfold _codecs.utf8Decoder
      simp only [u]
      rfl
    simp only [if_neg h1, if_neg h2, h3]
    congr 3
    have et : l.take (i + 1) = l.take i ++ [l[i]] := by rw [List.take_add_one]; simp [hi]
    have em : (l.map (·.toNat)).take (i + 1) = (l.map (·.toNat)).take i ++ [(l[i]).toNat] := by rw [List.take_add_one]; simp [hi]
    simp [em]
  · rw [pure_bind]
    simp
section
variable {Γ : Gd} {k : Nat} {sc : Scope} {loc : Loc} {σ : Sto}
theorem cal_decode {l : List UInt8} {P : AV → Sto → Prop} (hne : l ≠ []) (ha : ∀ c ∈ l, c.toNat < 128) (hl : l.length ≤ 1000) (h : P (.str (ofL (l.map (·.toNat)))) σ) : Cal Γ k (.builtin "bytes.decode") [.bytes l.toArray] σ P := fun _ κ s _ _ _ R r => by
  cases r with
  | cons a r =>
    cases a; cases r
    cases l with
    | nil => exact absurd rfl hne
    | cons c cs => exact PySem.W.KBd.decode (fun id => dec_ascii id _ ha hl) (by show (ofL _).length ≤ _; rw [ofL_length]; simp at hl ⊢; omega) fun t' tk => ⟨_, σ, s.heap, tk, rfl, R, .str _ _, h⟩
theorem tr_list {a : Addr} {xs : List AV} {P : Bool → Sto → Prop} (hm : (a, .list xs) ∈ σ) (hl : xs.length < 2 ^ 62) (h : P (!xs.isEmpty) σ) : Tr Γ k (.ref a) σ P := fun _ κ s _ _ _ R r => by
  cases r
  obtain ⟨vs, n, e, rs⟩ := R.list hm
  refine wpAny_truthy_list (items := vs.toArray) ⟨_, e, rfl, n, rfl⟩ (by rw [rs.size]; omega) ⟨σ, s.heap, _, rfl, R, ?_⟩
  have : vs.toArray.isEmpty = xs.isEmpty := by
    have := rs.length
    cases vs <;> cases xs <;> simp_all
  rw [this]; exact h
theorem ev_or2 {x y : Expr} {pos : Pos} {P : AV → Sto → Prop} (h : Ev Γ k sc x loc σ fun v σ₁ => Tr Γ k v σ₁ fun b σ₂ => Both b (P v σ₂) (Ev Γ k sc y loc σ₂ P)) : Ev Γ k sc (.BoolOp .Or [x, y] pos) loc σ P := fun A κ env s hA l f R => by
  refine wpAny_Or2 (wpE (h A κ env s hA l f R) fun V v σ₁ h₁ tk₁ q₁ R₁ r₁ p₁ => ?_)
  refine wpT (p₁.at hA l R₁ r₁) fun b σ₂ h₂ tk₂ q₂ R₂ p₂ => ?_
  cases b with
  | true => simp only [if_true]; exact ⟨v, σ₂, h₂, tk₂, rfl, q₁.trans q₂, R₂, r₁.mono q₂, p₂.1 rfl⟩
  | false => simp only [Bool.false_eq_true, if_false]; exact wp_no (p₂.2 rfl A κ env _ hA l f R₂) fun _ _ h => (h.trans (tk₁ := tk₁) q₂).trans q₁
/-- an item set -/
noncomputable def It1 (Γ : Gd) (k : Nat) (ov i v : AV) (σ : Sto) (P : Sto → Prop) : Prop :=
  ∀ A κ s O I V, AOk k A → Γ.le κ → RepS κ σ s.heap → VRel κ.av s.heap ov O → VRel κ.av s.heap i I → VRel κ.av s.heap v V → wpAny Γ.M A (setItem O I V) (fun _ s' => ∃ σ' h' tk, s' = { s with heap := h', toks := tk } ∧ RepS κ σ' h' ∧ P σ') No s
theorem it_list {a : Addr} {xs : List AV} {i : Int} {v : AV} {σ' : Sto} {P : Sto → Prop} (hat : At σ a (.list xs) (.list (xs.set i.toNat v)) σ') (h0 : 0 ≤ i) (h1 : i < xs.length) (hi : i < 2 ^ 63) (h : P σ') : It1 Γ k (.ref a) (.int i) v σ P := fun A κ s O I V hA l R ro ri rv => by
  cases ro; cases ri
  exact set_list hat h0 h1 hi h R rv
theorem asg_item {o i : Expr} {pos : Pos} {v : AV} {P : Loc → Sto → Prop} (h : Ev Γ k sc o loc σ fun ov σ₁ => Ev Γ k sc i loc σ₁ fun iv σ₂ => It1 Γ k ov iv v σ₂ (P loc)) : Asg Γ k sc (.Subscript o i pos) v loc σ P := fun A κ env s V hA l f R r => by
  rw [assign_Subscript]
  refine wpAny_bind (wpAny_holding (wpE (h A κ env s hA l f R) fun W w σ₁ h₁ tk₁ q₁ R₁ r₁ p₁ => ?_))
  refine wpAny_bind (wpAny_holding (wpE (p₁ A κ env _ hA l f R₁) fun W₂ w₂ σ₂ h₂ tk₂ q₂ R₂ r₂ p₂ => ?_))
  refine wpAny_bind (wpAny_standAt (wpAny_bind (wpAny_holding (wpU (p₂ A (mx R₂.s) _ W W₂ V hA (Gd.le_mx R₂.s l) R₂.s.mx (r₁.mono q₂) r₂ ((r.mono q₁).mono q₂)) fun σ₃ h₃ tk₃ R₃ p₃ => ?_))))
  obtain ⟨q₃, R₃'⟩ := frame_step R₂ R₃
  exact wpAny_release ⟨loc, σ₃, h₃, tk₃, rfl, (q₁.trans q₂).trans q₃, R₃', p₃⟩

theorem strs_of {av : Avd} {h : Heap} : ∀ {ts : List Str} {vs : List Value}, VRels av h (ts.map .str) vs → ∃ l : List (Str × Tok), l.map (·.1) = ts ∧ vs = strValues l
  | [], _, .nil => ⟨[], rfl, rfl⟩
  | t :: ts, _, .cons r rs => by
    cases r
    rename_i u
    obtain ⟨l, e1, e2⟩ := strs_of rs
    exact ⟨(t, u) :: l, by simp [e1], by rw [e2]; rfl⟩
theorem cal_join {sep : Str} {a : Addr} {ts : List Str} {P : AV → Sto → Prop} (hm : (a, .list (ts.map .str)) ∈ σ) (hl : (ts.map (·.length)).sum + ts.length * sep.length ≤ 16777216) (h : P (.str (Builtin.Str.glued sep ts)) σ) : Cal Γ k (.builtin "str.join") [.str sep, .ref a] σ P := fun _ κ s _ _ _ R r => by
  cases r with
  | cons x r =>
    cases x
    cases r with
    | cons y r =>
      cases y; cases r
      obtain ⟨vs, n, e, rs⟩ := R.list hm
      obtain ⟨l, e1, rfl⟩ := strs_of rs
      have hok : JoinOk sep ts = true := by
        unfold JoinOk
        rw [StrLaws.joinTotal]
        unfold Builtin.Str.tooLong
        rw [sizeLine_eq]; simp; omega
      exact SC.join (l := l) ⟨_, e, rfl, n, rfl⟩ e1 hok fun t' tk => ⟨_, σ, s.heap, tk, rfl, R, .str _ _, h⟩
theorem glued_ofL : ∀ (ls : List (List Nat)), Builtin.Str.glued (ofL []) (ls.map ofL) = ofL ls.flatten
  | [] => rfl
  | l :: ls => by
    have key : ∀ (ls : List (List Nat)) (acc : List Nat), (ls.map ofL).foldl (fun acc p => acc ++ (ofL []).cps ++ p.cps) acc.toArray = (acc ++ ls.flatten).toArray := by
      intro ls
      induction ls with
      | nil => intro acc; simp
      | cons l ls ih =>
        intro acc
        simp only [List.map_cons, List.foldl_cons, List.flatten_cons]
        have : acc.toArray ++ (ofL []).cps ++ (ofL l).cps = (acc ++ l).toArray := by simp [ofL]
        rw [this, ih]; simp
    show (⟨(ls.map ofL).foldl (fun acc p => acc ++ (ofL []).cps ++ p.cps) l.toArray⟩ : Str) = _
    rw [key]; rfl
end
end Mine
namespace Mine
/-- what the head leaves -/
structure Wd (Γ : Gd) (K : Frag) (mg mb : Str → Option Value) : Prop where
  X : K.In Γ.hB
  ok : Γ.Ok mg mb
  boot : ∀ x : Str, x ≠ "__name__" → mb x = bootBuiltins x

section
variable {Γ : Gd} {k : Nat} {sc : Scope} {loc : Loc} {σ : Sto} {K : Frag} {mg mb : Str → Option Value}
theorem mg_none {h : Heap} {n : Str} (X : K.In h) (G : h.Ns mainGlobals mg) (e : nsIn K mainGlobals n = some none) : mg n = none := by
  obtain ⟨o, es, ep, ho, hd, _, hf⟩ := G
  unfold nsIn at e
  split at e
  · rename_i c d es' n' sl q
    have e1 := X _ _ q
    rw [ho] at e1; cases e1; cases hd
    split at e
    · cases e
    · rename_i q2
      rw [← hf]
      unfold nsFind findBy
      rw [← Array.find?_toList, q2]; rfl
  · cases e
/-- f(args), f a def or a class of the program -/
theorem ev_callG {x : Str} {p pos : Pos} {es : List Expr} {P : AV → Sto → Prop} (W : Wd Γ K mg mb) (f : Addr) (hs : es.all noStar = true) (hk : sc.names.lookup x = some .globalImplicit) (hg : nsIn K mainGlobals x = some (some (.ref f))) (hkp : keepIn K (.ref f) = true) (hd : (x == ("__debug__" : Str)) = false)
    (h : Evs Γ k sc es loc σ fun vs σ₂ => Cal Γ k (.ref f) vs σ₂ P) : Ev Γ k sc (.Call (.Name x p) es [] pos) loc σ P :=
  ev_call hs (ev_global W.ok hk (mg_of W.X W.ok.g hg) ⟨_, rfl, fun A κ env s pos hA l fi R => wpL (h A κ env s pos hA l fi R) fun Vs vs σ' h' tk b c d e => ⟨vs, σ', h', tk, rfl, b, c, d, fun κ' h₂ l' R' => keeps_K hkp h₂ (W.X.keeps (l'.up R')), e⟩⟩ hd)
/-- f(args), f a builtin -/
theorem ev_callB {x : Str} {p pos : Pos} {es : List Expr} {P : AV → Sto → Prop} (W : Wd Γ K mg mb) (id : String) (hs : es.all noStar = true) (hk : sc.names.lookup x = some .globalImplicit) (hg : nsIn K mainGlobals x = some none) (hx : x ≠ "__name__") (hb : bootBuiltins x = some (.builtin id)) (hd : (x == ("__debug__" : Str)) = false)
    (h : Evs Γ k sc es loc σ fun vs σ₂ => Cal Γ k (.builtin id) vs σ₂ P) : Ev Γ k sc (.Call (.Name x p) es [] pos) loc σ P :=
  ev_call hs (ev_builtin W.ok hk (mg_none W.X W.ok.g hg) (by rw [W.boot x hx]; exact hb) ⟨_, rfl, fun A κ env s pos hA l fi R => wpL (h A κ env s pos hA l fi R) fun Vs vs σ' h' tk b c d e => ⟨vs, σ', h', tk, rfl, b, c, d, kpr_builtin, e⟩⟩ hd)
theorem ev_callT {x : Str} {p pos : Pos} {es : List Expr} {P : AV → Sto → Prop} (W : Wd Γ K mg mb) (id : String) (hs : es.all noStar = true) (hk : sc.names.lookup x = some .globalImplicit) (hg : nsIn K mainGlobals x = some none) (hx : x ≠ "__name__") (hb : bootBuiltins x = some (.type id)) (hd : (x == ("__debug__" : Str)) = false)
    (h : Evs Γ k sc es loc σ fun vs σ₂ => Cal Γ k (.type id) vs σ₂ P) : Ev Γ k sc (.Call (.Name x p) es [] pos) loc σ P :=
  ev_call hs (ev_builtin W.ok hk (mg_none W.X W.ok.g hg) (by rw [W.boot x hx]; exact hb) ⟨_, rfl, fun A κ env s pos hA l fi R => wpL (h A κ env s pos hA l fi R) fun Vs vs σ' h' tk b c d e => ⟨vs, σ', h', tk, rfl, b, c, d, kpr_type, e⟩⟩ hd)
theorem evO_none {P : Option Int → Sto → Prop} (h : P none σ) : EvO Γ k sc none loc σ P := h
theorem evO_some {e : Expr} {P : Option Int → Sto → Prop} (h : Ev Γ k sc e loc σ fun v σ' => ∃ i, v = .int i ∧ P (some i) σ') : EvO Γ k sc (some e) loc σ P := h
end
end Mine
namespace Mine
section
variable {Γ : Gd} {k : Nat} {sc : Scope} {loc : Loc} {σ : Sto} {target : Expr}
/-- a list comprehension, its side conditions told by Bool -/
theorem ev_listcompB {elt iter : Expr} {ifs : List Expr} {scope : Scope} {pos : Pos} {P : AV → Sto → Prop}
    (hcell : (scope.names.all fun x => x.2 != .cell) = true) (hkind : scope.kind = .function) (hnames : (scope.names.all fun x => x.2 != .local || scope.names.lookup x.1 == some .local) = true)
    (hfr : (scope.names.all fun x => x.2 != .free || sc.names.lookup x.1 == some .cell) = true) (h0 : ((relS scope sc).names.lookup (Str.ofString ".0")).isSome = true)
    (h : Ev Γ k sc iter loc σ fun v σ₁ => ∃ src vs, Mk Γ k target v σ₁ src vs ∧ (∀ p ∈ src, p ∈ σ₁) ∧ ∀ D, Cmp Γ k (relS scope sc) target ifs elt iter scope pos src D vs (cloc (relS scope sc) loc) ((D, .list []) :: σ₁) fun σ₂ => P (.ref D) σ₂)
    (hs : ∀ env x, foldedSetIterable iter env x = pure x) : Ev Γ k sc (.ListComp elt [⟨target, iter, ifs, 0⟩] scope pos) loc σ P :=
  ev_listcomp (cellB hcell) hkind (fun x hx e => by have := List.all_eq_true.mp hnames x hx; simpa [e] using this) (fun x hx e => by have := List.all_eq_true.mp hfr x hx; simpa [e] using this) (fun e => by rw [e] at h0; cases h0) h hs
/-- a comprehension without tests, by its turns -/
theorem cmp_ind {ι α : Type} {elt iter : Expr} {scope : Scope} {pos : Pos} {src : Sto} {D : Addr} {P : Sto → Prop} (L : Loc) (S : ι → Sto) (g : α → AV) (I : List α → ι → Prop) (hsrc : ∀ i, ∀ p ∈ src, p ∈ S i)
    (step : ∀ x xs i, I (x :: xs) i → Asg Γ k sc target (g x) L (S i) fun l₁ σ₁ => Ev Γ k sc elt l₁ σ₁ fun y σ₃ => ∃ ys σ₄, At σ₃ D (.list ys) (.list (ys ++ [y])) σ₄ ∧ ys.length ≤ sizeLine ∧ ∃ j, I xs j ∧ Sub L l₁ ∧ σ₄ = S j)
    (done : ∀ i, I [] i → P (S i)) : ∀ xs i, I xs i → Cmp Γ k sc target [] elt iter scope pos src D (xs.map g) L (S i) P
  | [], i, h => cmp_nil (done i h)
  | x :: xs, i, h => by
    refine cmp_cons fun A κ env s V hA l f R r => wpA (step x xs i h A κ env s V hA l f R r) fun l₁ σ₁ h' tk q R' p => ⟨l₁, σ₁, h', tk, rfl, q, R', ?_⟩
    show Both true _ _
    refine ⟨fun _ => ev_mono p fun y σ₃ ⟨ys, σ₄, at', hl, j, hj, hsub, e⟩ => ⟨ys, σ₄, at', hl, e ▸ hsrc j, ?_⟩, fun h => by cases h⟩
    subst e
    exact cmp_sub (cmp_ind L S g I hsrc step done xs j hj) hsub
end
end Mine
namespace Mine
section
variable {Γ : Gd} {k : Nat} {sc : Scope} {loc : Loc} {σ : Sto}

/-! a list unpacked -/
theorem draw_list {prog : Program} {w : World} {A : Around} {E : Value → Shared → Prop} {it t : Addr} {items : Array Value} (hne : t ≠ it) : ∀ (n i : Nat) (s : Shared) (Q : List Value → Shared → Prop), s.heap.IsListIter it t i → s.heap.IsList t items → i + n ≤ items.size →
    (∀ h', h'.IsListIter it t (i + n) → Heap.SameBut it s.heap h' → Q ((items.toList.drop i).take n) { s with heap := h' }) → wpAny (model prog w) A (draw (.ref it) n) Q E s
  | 0, i, s, Q, hit, _, _, hQ => wpAny_pure (by simpa using hQ s.heap hit (Heap.SameBut.refl ..))
  | n + 1, i, s, Q, hit, ht, hle, hQ => by
    have hlt : i < items.size := by omega
    show wpAny _ _ (pyNext (.ref it) >>= _) Q E s
    refine wpAny_bind (wpAny_pyNext_list_item hit ht (x := items[i]) (by simp [hlt]) fun h₁ hit₁ hs₁ => ?_)
    refine wpAny_bind (wpAny_holding (draw_list hne n (i + 1) _ _ hit₁ (ht.extBut hs₁.extBut hne) (by omega) fun h₂ hit₂ hs₂ => wpAny_pure ?_))
    have hd : items.toList.drop i = items[i] :: items.toList.drop (i + 1) := by simp [List.drop_eq_getElem_cons, hlt]
    have := hQ h₂ (by rw [show i + (n + 1) = i + 1 + n by omega]; exact hit₂) (hs₁.trans hs₂)
    rw [hd, List.take_succ_cons] at this
    exact this
theorem unpack_list {prog : Program} {w : World} {A : Around} {E : Value → Shared → Prop} {s : Shared} {t : Addr} {items : Array Value} {Q : List Value → Shared → Prop} (hh : A.handled = none) (ht : s.heap.IsList t items)
    (hQ : ∀ h', Heap.ExtBut s.heap.objs.size s.heap h' → Q items.toList { s with heap := h' }) : wpAny (model prog w) A (unpackItems (.ref t) items.size none) Q E s := by
  have hlt : t ≠ s.heap.objs.size := by obtain ⟨o, ho, _⟩ := ht; exact Nat.ne_of_lt (Heap.lt_size ho)
  unfold unpackItems
  refine wpAny_bind ?_
  unfold notIterableAtAll
  refine wpAny_bind (wpAny_specialOf ht.typeIs F.slot_list_iter.lookup ?_)
  refine wpAny_pure ?_
  simp only [Bool.false_eq_true, if_false]
  refine wpAny_bind (wpAny_holding (wpAny_pyIter_list ht ?_))
  refine wpAny_bind (wpAny_holding (draw_list hlt items.size 0 _ _ ⟨_, Heap.get?_push_size _ rfl, rfl, rfl⟩ (ht.push _) (by omega) fun h₁ hit₁ hs₁ => ?_))
  have hall : List.take items.size (List.drop 0 items.toList) = items.toList := by
    rw [List.drop_zero]; exact List.take_of_length_le (by simp)
  rw [hall]
  rw [if_neg (by simp)]
  have ht₁ : h₁.IsList t items := (ht.push _).extBut hs₁.extBut hlt
  refine wpAny_bind (wpAny_holding (wpAny_pyNext_list_end hh hit₁ ht₁ (by simp) fun h₂ he₂ => ?_))
  simp only [Option.isSome_none, Bool.false_eq_true, if_false]
  refine wpAny_pure (hQ h₂ fun b o hb e => he₂ b o hb (hs₁.extBut b o hb (Heap.get?_push_of_some _ e)))
theorem asg_tupleL {elts : List Expr} {n : Nat} {pos : Pos} {a : Addr} {xs : List AV} {P : Loc → Sto → Prop} (hm : (a, .list xs) ∈ σ) (h : AsgL Γ k sc elts xs loc σ P) (hl : elts.length = xs.length) (hst : ∀ env, (assignEach elts env).findIdx? (·.1) = none) :
    Asg Γ k sc (.Tuple elts n pos) (.ref a) loc σ P := fun A κ env s V hA l f R r => by
  cases r
  obtain ⟨vs, m, e, rs⟩ := R.s.list hm
  rw [arm_assign_Tuple]
  unfold unpack
  rw [length_assignEach, hl, ← rs.size, hst]
  refine wpAny_bind (wpAny_standAt (wpAny_bind (wpAny_holding (unpack_list (items := vs.toArray) hA.1 ⟨_, e, rfl, m, rfl⟩ fun h' he => ?_))))
  obtain ⟨q, R'⟩ := R.grow (ext_new he)
  exact wp_no (h A κ env _ _ hA l f R' (rs.mono q)) fun _ s'' ⟨l₂, σ₂, h₂, tk₂, e₂, q₂, R₂, p₂⟩ => ⟨l₂, σ₂, h₂, tk₂, e₂, q.trans q₂, R₂, p₂⟩

/-! equality of deep data -/
mutual
inductive AvD (σ : Sto) : AV → PyData → Prop
  | none : AvD σ .none .none
  | bool (b : Bool) : AvD σ (.bool b) (.bool b)
  | int (i : Int) : AvD σ (.int i) (.int i)
  | str (x : Str) : AvD σ (.str x) (.str x)
  | tup {xs : List AV} {ds : List PyData} : AvDs σ xs ds → AvD σ (.tup xs) (.tuple ds)
  | list {a : Addr} {xs : List AV} {ds : List PyData} : (a, AO.list xs) ∈ σ → AvDs σ xs ds → AvD σ (.ref a) (.list ds)
inductive AvDs (σ : Sto) : List AV → List PyData → Prop
  | nil : AvDs σ [] []
  | cons {x : AV} {d : PyData} {xs : List AV} {ds : List PyData} : AvD σ x d → AvDs σ xs ds → AvDs σ (x :: xs) (d :: ds)
end
mutual
theorem AvD.reads {κ : Kap} {h : Heap} (R : RepS κ σ h) : ∀ {x : AV} {d : PyData} {V : Value}, AvD σ x d → VRel κ.av h x V → ∃ as, Reads h V d as
  | _, _, _, .none, r => by cases r; exact ⟨_, .none⟩
  | _, _, _, .bool b, r => by cases r; exact ⟨_, .bool _⟩
  | _, _, _, .int i, r => by cases r; exact ⟨_, .int _ _⟩
  | _, _, _, .str x, r => by cases r; exact ⟨_, .str _ _⟩
  | _, _, _, .tup ds, r => by
    cases r with
    | tup na t rs =>
      obtain ⟨n, e⟩ := t
      obtain ⟨as, q⟩ := AvDs.reads R ds rs
      exact ⟨_, .tuple e rfl rfl (by simpa using q)⟩
  | _, _, _, .list hm ds, r => by
    cases r
    obtain ⟨vs, n, e, rs⟩ := R.list hm
    obtain ⟨as, q⟩ := AvDs.reads R ds rs
    exact ⟨_, .list e rfl rfl (by simpa using q)⟩
theorem AvDs.reads {κ : Kap} {h : Heap} (R : RepS κ σ h) : ∀ {xs : List AV} {ds : List PyData} {Vs : List Value}, AvDs σ xs ds → VRels κ.av h xs Vs → ∃ as, ReadsAll h Vs ds as
  | _, _, _, .nil, r => by cases r; exact ⟨_, .nil⟩
  | _, _, _, .cons d ds, r => by
    cases r with
    | cons r rs =>
      obtain ⟨as, q⟩ := d.reads R r
      obtain ⟨bs, p⟩ := ds.reads R rs
      exact ⟨_, .cons q p⟩
end
theorem AOk.deep {A : Around} (hA : AOk k A) {n : Nat} (h : n ≤ 40) : A.units + n < cLine := by have := hA.2.2; omega
theorem op_eq_deep {x y : AV} {d e : PyData} {P : AV → Sto → Prop} (hx : AvD σ x d) (hy : AvD σ y e) (c1 : PyData.canLay0 d = true) (c2 : PyData.canLay0 e = true) (dp : d.depth ≤ 40) (p : P (.bool (PyData.eqv d e)) σ) : Op2 Γ k (compareOp .Eq) x y σ P := fun A κ s X Y hA l R rx ry => by
  obtain ⟨as, q1⟩ := hx.reads R rx
  obtain ⟨bs, q2⟩ := hy.reads R ry
  exact PySem.SeqAt.eqOverData Γ.prog Γ.w A No s X Y d e as bs _ q1 q2 c1 c2 (hA.deep (by omega)) ⟨_, σ, s.heap, s.toks, rfl, R, .bool _, p⟩
theorem op_ne_deep {x y : AV} {d e : PyData} {P : AV → Sto → Prop} (hx : AvD σ x d) (hy : AvD σ y e) (c1 : PyData.canLay0 d = true) (c2 : PyData.canLay0 e = true) (dp : d.depth ≤ 40) (p : P (.bool (!PyData.eqv d e)) σ) : Op2 Γ k (compareOp .NotEq) x y σ P := fun A κ s X Y hA l R rx ry => by
  obtain ⟨as, q1⟩ := hx.reads R rx
  obtain ⟨bs, q2⟩ := hy.reads R ry
  exact PySem.SeqAt.neOverData Γ.prog Γ.w A No s X Y d e as bs _ q1 q2 c1 c2 (hA.deep (by omega)) ⟨_, σ, s.heap, s.toks, rfl, R, .bool _, p⟩
end
end Mine
namespace Mine
section
variable {Γ : Gd} {k : Nat} {sc : Scope} {loc : Loc} {σ : Sto}
/-- a call's arguments, whatever comes behind -/
theorem call_argsQ {F : Value} {es : List Expr} {P : List AV → Sto → Prop} {Q : Value → Shared → Prop} (hs : es.all noStar = true)
    (h : Evs Γ k sc es loc σ P) {A : Around} {κ : Kap} {env : Env} {s : Shared} (pos : Pos) (hA : AOk k A) (l : Γ.le κ) (f : Fits sc env) (R : Rep κ env loc σ s.heap)
    (q : ∀ Vs vs σ' h' tk, TK κ.av s.heap h' → Rep κ env loc σ' h' → VRels κ.av h' vs Vs → P vs σ' → Kpr Γ σ' F ∧ wpAny Γ.M A (call F Vs) Q No { s with heap := h', toks := tk }) :
    wpAny Γ.M A (callWith pos F [] (backTo pos (starEach es env)) []) Q No s := by
  refine callWith_of (P := fun h => ∃ kp, (kp = Keeper.frame ∨ kp = Keeper.machine ∨ kp = Keeper.boundFrame) ∧ Looks Γ.M h (keeperOf F) kp) ?_ (fun _ x => x) ?_
  · rw [starEach_eq hs, backTo_plain]
    simp
  · have fin : ∀ Vs s₁, PstL κ env loc s P Vs s₁ → (fun (a : Args) (s₁ : Shared) => (∃ kp, (kp = Keeper.frame ∨ kp = Keeper.machine ∨ kp = Keeper.boundFrame) ∧ Looks Γ.M s₁.heap (keeperOf F) kp) ∧ wpAny Γ.M A (call F ([] ++ a.pos) a.kw) Q No s₁) ⟨Vs, []⟩ s₁ := by
      intro Vs s₁ ⟨vs, σ₁, h₁, tk₁, e₁, q₁, R₁, r, p⟩
      subst e₁
      obtain ⟨kp, w⟩ := q Vs vs σ₁ h₁ tk₁ q₁ R₁ r p
      exact ⟨kp κ h₁ l R₁.s, w⟩
    have w := h A κ env s pos hA l f R
    cases es with
    | nil => exact fun Θ p hΘ => evalArgs_nil3 (fin [] s (w Θ p hΘ)) Θ p hΘ
    | cons e es =>
      have he : starEach (e :: es) env = (false, eval e env) :: starEach es env := by
        rw [starEach_eq hs, List.map_cons]
        simp only [List.all_cons, Bool.and_eq_true] at hs
        rw [starEach_eq hs.2]
      rw [he] at w ⊢
      exact evalArgs_plain (wp_no w fin)

/-- two lists side by side -/
noncomputable def zipT (xs ys : List AV) : List AV := List.zipWith (fun a b => .tup [a, b]) xs ys
theorem zipT_drop {xs ys : List AV} {i : Nat} {v : AV} {vs : List AV} (e : v :: vs = (zipT xs ys).drop i) : ∃ a b, xs[i]? = some a ∧ ys[i]? = some b ∧ v = .tup [a, b] ∧ vs = (zipT xs ys).drop (i + 1) := by
  have h0 : (zipT xs ys)[i]? = some v := by
    have := congrArg (fun l => l[0]?) e
    simpa using this.symm
  have h1 : vs = (zipT xs ys).drop (i + 1) := by
    have := congrArg List.tail e
    simpa using this
  unfold zipT at h0
  rw [List.getElem?_zipWith] at h0
  cases ex : xs[i]? with
  | none => rw [ex] at h0; simp at h0
  | some a =>
    cases ey : ys[i]? with
    | none => rw [ex, ey] at h0; simp at h0
    | some b => rw [ex, ey] at h0; simp at h0; exact ⟨a, b, rfl, rfl, h0.symm, h1⟩
theorem zipT_end {xs ys : List AV} {i : Nat} (e : [] = (zipT xs ys).drop i) : xs.length ≤ i ∨ ys.length ≤ i := by
  have h : (zipT xs ys).length ≤ i := by simpa using e.symm
  unfold zipT at h
  rw [List.length_zipWith] at h
  omega
theorem getA {av : Avd} {h : Heap} {xs : List AV} {vs : List Value} (r : VRels av h xs vs) {i : Nat} {x : AV} (e : xs[i]? = some x) : ∃ v, vs.toArray[i]? = some v ∧ VRel av h x v := by
  obtain ⟨v, a, b⟩ := r.get e
  exact ⟨v, by simpa using a, b⟩

noncomputable def ZSt (z TI TO i1 i2 l1 l2 : Addr) (f0 : Value) (i : Nat) (h : Heap) : Prop :=
  IsZip h z TI TO f0 ∧ IsPair h TI (.ref i1) (.ref i2) ∧ (∃ a b, IsPair h TO a b) ∧ h.IsListIter i1 l1 i ∧ h.IsListIter i2 l2 i
theorem ZSt.keep {z TI TO i1 i2 l1 l2 : Addr} {f0 : Value} {i : Nat} {h h' : Heap} (S : ZSt z TI TO i1 i2 l1 l2 f0 i h) (hk : ∀ a ∈ [z, TI, TO, i1, i2], ∀ o, h.get? a = some o → h'.get? a = some o) : ZSt z TI TO i1 i2 l1 l2 f0 i h' := by
  obtain ⟨a, b, ⟨x, y, c⟩, d, e⟩ := S
  exact ⟨hk _ (by simp) _ a, hk _ (by simp) _ b, ⟨x, y, hk _ (by simp) _ c⟩, d.at fun o q => hk _ (by simp) o q, e.at fun o q => hk _ (by simp) o q⟩
theorem ZSt.obj {z TI TO i1 i2 l1 l2 : Addr} {f0 : Value} {i : Nat} {h : Heap} (S : ZSt z TI TO i1 i2 l1 l2 f0 i h) : ∀ a ∈ [z, TI, TO, i1, i2], ∃ o, h.get? a = some o ∧ (a ∉ [TI, TO] → o.cls ≠ .type "tuple") ∧ ∀ V, o.data ≠ .cell V := by
  obtain ⟨a, b, ⟨x, y, c⟩, ⟨o1, d1, d2, d3⟩, ⟨o2, e1, e2, e3⟩⟩ := S
  intro q hq
  simp only [List.mem_cons, List.not_mem_nil, or_false] at hq
  rcases hq with rfl | rfl | rfl | rfl | rfl
  · exact ⟨_, a, fun _ => by show Value.type "zip" ≠ Value.type "tuple"; decide, fun V e => by cases e⟩
  · exact ⟨_, b, fun hn => absurd (by simp) hn, fun V e => by cases e⟩
  · exact ⟨_, c, fun hn => absurd (by simp) hn, fun V e => by cases e⟩
  · exact ⟨_, d1, fun _ => by rw [d2]; decide, fun V e => by rw [d3] at e; cases e⟩
  · exact ⟨_, e1, fun _ => by rw [e2]; decide, fun V e => by rw [e3] at e; cases e⟩
noncomputable def itrZip {elts : List Expr} {n : Nat} {pos : Pos} {z TI TO i1 i2 l1 l2 : Addr} (D : ZipApart z TI TO i1 i2 l1 l2) (xs ys : List AV) : Itr Γ k (.Tuple elts n pos) where
  IT := .ref z
  pv := [z, TI, TO, i1, i2]
  avs := [TI, TO]
  src := [(l1, .list xs), (l2, .list ys)]
  cv := []
  Inv vs h := ∃ i, ZSt z TI TO i1 i2 l1 l2 .none i h ∧ vs = (zipT xs ys).drop i
  sub a ha := by simp at ha ⊢; rcases ha with rfl | rfl <;> simp
  live vs h := fun ⟨i, S, _⟩ => S.obj
  frame vs h h' := fun ⟨i, S, e⟩ hk => ⟨i, S.keep hk, e⟩
  self A vs s Q := fun ⟨i, S, _⟩ q => wpAny_pyIter_zip S.1 q
  next A κ σ s v vs Q hA le R hp ha hs _ i hQ := by
    obtain ⟨i, S, e⟩ := i
    obtain ⟨a, b, ea, eb, rfl, et⟩ := zipT_drop e
    obtain ⟨xv, n1, el1, r1⟩ := R.list (hs (l1, .list xs) (by simp))
    obtain ⟨yv, n2, el2, r2⟩ := R.list (hs (l2, .list ys) (by simp))
    obtain ⟨X, hX, rX⟩ := getA r1 ea
    obtain ⟨Y, hY, rY⟩ := getA r2 eb
    obtain ⟨S1, S2, ⟨p, q, S3⟩, S4, S5⟩ := id S
    refine wpAny_pyNext_zip_item D S1 S2 S3 S4 S5 (xs := xv.toArray) (ys := yv.toArray) ⟨_, el1, rfl, n1, rfl⟩ ⟨_, el2, rfl, n2, rfl⟩ hX hY fun h' a1 a2 a3 a4 a5 a6 hk => ⟨_, rfl, ?_⟩
    refine wpAny_letOwnedTupleGo_zip (s := { s with heap := h' }) a1 fun h'' z'' sb => ?_
    have S' : ZSt z TI TO i1 i2 l1 l2 .none (i + 1) h'' := ⟨z'', sb.extBut _ _ D.TIz (hk _ _ D.TIz D.TITO D.TIi1 D.TIi2 S2), ⟨_, _, sb.extBut _ _ D.TOz a2⟩, a3.extBut sb.extBut D.i1z, a4.extBut sb.extBut D.i2z⟩
    have hlt : s.heap.objs.size ≠ z := Nat.ne_of_gt (Heap.lt_size S1)
    refine hQ _ h'' s.toks (fun c o hc ho => ?_) (fun c hc => ?_) (fun tk => ?_) ⟨i + 1, S', et⟩
    · simp only [List.mem_cons, List.not_mem_nil, or_false, not_or] at hc
      exact sb.extBut _ _ hc.1 (hk c o hc.1 hc.2.2.1 hc.2.2.2.1 hc.2.2.2.2 ho)
    · obtain ⟨o, ho, _⟩ := S'.obj c hc
      rw [ho]; simp
    · exact .tup (vs := [X, Y]) (R.not_av size_new) ⟨_, sb.extBut _ _ hlt a5⟩ (.cons (rX.mono tk) (.cons (rY.mono tk) .nil))
  done A κ σ s Q hA le R hp hs _ i hQ := by
    obtain ⟨i, S, e⟩ := i
    obtain ⟨xv, n1, el1, r1⟩ := R.list (hs (l1, .list xs) (by simp))
    obtain ⟨yv, n2, el2, r2⟩ := R.list (hs (l2, .list ys) (by simp))
    obtain ⟨S1, S2, ⟨p, q, S3⟩, S4, S5⟩ := id S
    refine wpAny_pyNext_zip_end hA.1 D S1 S2 S3 S4 S5 (xs := xv.toArray) (ys := yv.toArray) ⟨_, el1, rfl, n1, rfl⟩ ⟨_, el2, rfl, n2, rfl⟩ ?_ fun h' hk => ⟨rfl, hQ h' s.toks fun c o hc ho => ?_⟩
    · refine (zipT_end e).imp (fun h => ?_) fun h => ?_
      · simp; rw [r1.length]; exact h
      · simp; rw [r2.length]; exact h
    · simp only [List.mem_cons, List.not_mem_nil, or_false, not_or] at hc
      exact hk c o hc.1 hc.2.2.1 hc.2.2.2.1 hc.2.2.2.2 ho

theorem zipD (m l1 l2 : Nat) (h1 : l1 < m) (h2 : l2 < m) : ZipApart (m + 4) (m + 2) (m + 3) m (m + 1) l1 l2 := by
  have ne : ∀ a b : Nat, a ≠ b → @Ne Addr a b := fun _ _ h => h
  constructor <;> (apply ne; omega)
/-- for .. in zip(a, b) -/
theorem ex_forZ {elts : List Expr} {n : Nat} {tpos p ipos pos : Pos} {es : List Expr} {body : List Stmt} {P : AFl → Loc → Sto → Prop} (hs : es.all noStar = true)
    (h : Ev Γ k sc (.Name "zip" p) loc σ fun fv σ₁ => fv = .raw (.type "zip") ∧ Evs Γ k sc es loc σ₁ fun vs σ₂ => ∃ l1 l2 xs ys, vs = [.ref l1, .ref l2] ∧ (l1, .list xs) ∈ σ₂ ∧ (l2, .list ys) ∈ σ₂ ∧ For Γ k sc (.Tuple elts n tpos) body [(l1, .list xs), (l2, .list ys)] (zipT xs ys) loc σ₂ P)
    (hf : ∀ env x, foldedSetIterable (.Call (.Name "zip" p) es [] ipos) env x = pure x) : Ex Γ k sc (.For (.Tuple elts n tpos) (.Call (.Name "zip" p) es [] ipos) body [] pos) loc σ P := fun A κ env s hA le f R => by
  refine wpAny_For ?_ (hf env)
  rw [arm_eval_Call_Name']
  refine wpAny_bind (wpE (h A κ env s hA le f R) fun V v σ₁ h₁ tk₁ q₁ R₁ r₁ p₁ => ?_)
  obtain ⟨rfl, p₁⟩ := p₁
  cases r₁
  refine call_argsQ (s := { s with heap := h₁, toks := tk₁ }) hs p₁ ipos hA le f R₁ fun Vs vs σ₂ h₂ tk₂ q₂ R₂ r₂ p₂ => ⟨kpr_type, ?_⟩
  obtain ⟨l1, l2, xs, ys, rfl, m1, m2, fo⟩ := p₂
  cases r₂ with
  | cons ra r₂ =>
    cases ra
    cases r₂ with
    | cons rb r₂ =>
      cases rb; cases r₂
      obtain ⟨xv, n1, e1, r1⟩ := R₂.s.list m1
      obtain ⟨yv, n2, e2, r2⟩ := R₂.s.list m2
      refine call_zip_2 (xs := xv.toArray) (ys := yv.toArray) ⟨_, e1, rfl, n1, rfl⟩ ⟨_, e2, rfl, n2, rfl⟩ fun h₃ z1 z2 z3 z4 z5 z6 hk => ?_
      have lt1 := Heap.lt_size e1
      have lt2 := Heap.lt_size e2
      dsimp only at lt1 lt2 z1 z2 z3 z4 z5
      have D := zipD h₂.objs.size l1 l2 lt1 lt2
      have S : ZSt (h₂.objs.size + 4) (h₂.objs.size + 2) (h₂.objs.size + 3) h₂.objs.size (h₂.objs.size + 1) l1 l2 .none 0 h₃ := ⟨z1, z2, ⟨_, _, z3⟩, z4, z5⟩
      have new : ∀ a, h₂.objs.size ≤ a → h₂.get? a = none := fun a ha => Heap.get?_none_of_le ha
      let I : Itr Γ k (.Tuple elts n tpos) := itrZip D xs ys
      have i : I.Inv (zipT xs ys) h₃ := ⟨0, S, by simp⟩
      have hn : ∀ a ∈ I.pv, h₂.get? a = none := fun a ha => by
        refine new a ?_
        have ha' : a ∈ [h₂.objs.size + 4, h₂.objs.size + 2, h₂.objs.size + 3, h₂.objs.size, h₂.objs.size + 1] := ha
        simp only [List.mem_cons, List.not_mem_nil, or_false] at ha'
        rcases ha' with rfl | rfl | rfl | rfl | rfl <;> first | exact Nat.le_refl _ | exact Nat.le_add_right _ _
      refine wpAny_pyIter_zip (s := { s with heap := h₃, toks := tk₂ }) z1 ?_
      obtain ⟨pn, R₃⟩ := shield_new (avs := I.avs) (l := I.lv i) (sb := I.sub) R₂ hk hn
      refine codeAny_mono (fo I rfl A κ env { s with heap := h₃, toks := tk₂ } i hA le f pn R₃ (fun p hp => ?_) (fun _ hp => nomatch hp)) fun r s₄ x => ?_
      · have hp' : p ∈ [(l1, AO.list xs), (l2, AO.list ys)] := hp
        simp only [List.mem_cons, List.not_mem_nil, or_false] at hp'
        rcases hp' with rfl | rfl
        · exact m1
        · exact m2
      cases r with
      | error _ => exact x.elim
      | ok fl =>
        obtain ⟨g, l₃, σ₃, h₄, tk₃, e₃, q₃, R₄, r₃, p₃⟩ := x
        refine ⟨g, l₃, σ₃, h₄, tk₃, e₃, (q₁.trans q₂).trans fun a vs na t => q₃ a vs (fun ha => ?_) (TK.of_keeps (av := κ.av) hk a vs na t), R₄, r₃, p₃⟩
        rcases ha with ha | ha
        · exact na ha
        · obtain ⟨m, e⟩ := t; rw [hn a (I.sub a ha)] at e; cases e
end
end Mine
namespace Mine
/-- a sort's questions answered by a table; each is one that may be asked -/
noncomputable def runT {α : Type} (lt : Nat → Nat → Bool) : KasT α → α
  | .ret a => a
  | .ask i j k => runT lt (k (lt i j))
noncomputable def okT {α : Type} (lt d : Nat → Nat → Bool) : KasT α → Bool
  | .ret _ => true
  | .ask i j k => d i j && okT lt d (k (lt i j))
theorem kasWp_run {α : Type} {lt d : Nat → Nat → Bool} {cmp : Nat → Nat → (Bool → Shared → Prop) → Shared → Prop} {Q : α → Shared → Prop} {s : Shared} (hc : ∀ i j C, d i j = true → C (lt i j) s → cmp i j C s) : ∀ (t : KasT α), okT lt d t = true → Q (runT lt t) s → t.kasWp cmp Q s
  | .ret a, _, h => h
  | .ask i j k, ho, h => by
    rw [okT, Bool.and_eq_true] at ho
    exact hc i j _ ho.1 (kasWp_run hc (k (lt i j)) ho.2 h)
section
variable {prog : Program} {w : World} {A : Around} {E : Value → Shared → Prop} {s : Shared}
theorem sort_tree {a : Addr} {vs out : List Value} {n : Nat} {P : PySem.Fin → Shared → Prop} (ho : s.heap.get? a = some (seqObj "list" vs.toArray n)) (h64 : vs.length < 64) (h1 : vs.length < 2 → out = vs) (hz : out.length = vs.length)
    (h2 : 2 ≤ vs.length → ∀ s' : Shared, (∀ b o, b ≠ a → s.heap.get? b = some o → s'.heap.get? b = some o) → wpAny (model prog w) A (keyKind' vs.toArray) (fun κ s'' => s'' = s' ∧ (kas_sort vs.length).kasWp (kas_ask prog w A κ vs) (fun p s''' => s''' = s' ∧ p.toList.map (fun i => vs.getD i Value.none) = out) s') (fun _ _ => False) s')
    (h : P (.done (.ret .none)) { s with heap := sortedHeap s.heap a vs out.toArray }) : wpAny (model prog w) A (Builtin.«list.sort» ⟨[.ref a], []⟩) P E s := by
  rw [list_sort_plain]
  have ha : a < s.heap.objs.size := Heap.lt_size ho
  refine wpAny_bind (listItems_at ho rfl ?_)
  refine wpAny_bind (listUpdate_at ho rfl ?_ (by rw [List.size_toArray, sizeLine_eq]; omega) (Nat.zero_le _))
  obtain ⟨e1, ho1⟩ : ∃ e1, (s.heap.update a (Obj.mapSeq fun _ => #[])).get? a = some (seqObj "list" #[] e1) := ⟨_, get?_update_seq ho (fun _ => #[])⟩
  refine wpAny_bind (seqEpoch_at ho1 rfl ?_)
  refine wpAny_bind (wpAny_newTuple ?_ (by show vs.length ≤ _; rw [sizeLine_eq]; omega))
  refine wpAny_bind (wpAny_newList ?_ (Nat.zero_le _))
  refine wpAny_holding ?_
  have ho6 : (((s.heap.update a (Obj.mapSeq fun _ => #[])).push (seqObj "tuple" vs.toArray 0)).push (seqObj "list" #[] 0)).get? a = some (seqObj "list" #[] e1) := by
    rw [Heap.get?_push_ne _ _ _ (by rw [size_push', Heap.size_update]; exact Nat.ne_of_lt (Nat.lt_succ_of_lt ha)), Heap.get?_push_ne _ _ _ (by rw [Heap.size_update]; exact Nat.ne_of_lt ha)]
    exact ho1
  show wpAny (model prog w) A _ P E { s with heap := ((s.heap.update a (Obj.mapSeq fun _ => #[])).push (seqObj "tuple" vs.toArray 0)).push (seqObj "list" #[] 0) }
  dsimp only
  have hs : vs.toArray.size = vs.length := by simp
  by_cases hv : vs.toArray.size < 2
  · rw [if_pos hv, if_pos hv]
    refine wpAny_bind (wpAny_pure ?_)
    rw [StateT.run_pure]
    refine wpAny_bind (wpAny_pure ?_)
    dsimp only
    refine wpAny_bind (seqEpoch_at ho6 rfl ?_)
    have eo : (arrOf (SortSt.mk' general' (vs.toArray.zip vs.toArray) #[] 7 none)).map (·.2) = out.toArray := by
      rw [h1 (by omega)]
      show (vs.toArray.zip vs.toArray).map (·.2) = _
      apply Array.ext
      · simp
      · intro i h1 h2; simp
    rw [eo]
    refine wpAny_bind (listUpdate_at ho6 rfl ?_ (Nat.zero_le _) (by rw [List.size_toArray, sizeLine_eq]; omega))
    simp only [bne_self_eq_false, Bool.false_eq_true, if_false]
    exact wpAny_pure h
  · rw [if_neg hv, if_neg hv]
    have hk : ∀ b o, b ≠ a → s.heap.get? b = some o → (((s.heap.update a (Obj.mapSeq fun _ => #[])).push (seqObj "tuple" vs.toArray 0)).push (seqObj "list" #[] 0)).get? b = some o := fun b o hb e =>
      Heap.get?_push_of_some _ (Heap.get?_push_of_some _ ((Heap.SameBut.update ..).extBut _ _ hb e))
    refine wpAny_bind (wpAny_mono (h2 (by omega) { s with heap := ((s.heap.update a (Obj.mapSeq fun _ => #[])).push (seqObj "tuple" vs.toArray 0)).push (seqObj "list" #[] 0) } hk) (fun κ s0 hq => ?_) fun _ _ x => x.elim)
    obtain ⟨rfl, hq⟩ := hq
    refine wpAny_bind (wpAny_mono (kat_run (Q := fun st' s' => s' = { s with heap := ((s.heap.update a (Obj.mapSeq fun _ => #[])).push (seqObj "tuple" vs.toArray 0)).push (seqObj "list" #[] 0) } ∧ (arrOf st').map (·.2) = out.toArray ∧ failedOf st' = none)
      rfl (by omega) h64 (fun p' st' s' a1 a2 a3 a4 => ⟨a4.1, by rw [kat_snds rfl a2, a4.2], a3⟩) hq) (fun r s' hr => ?_) fun _ _ e => e)
    obtain ⟨⟨⟩, st'⟩ := r
    obtain ⟨e', ho', hf⟩ := hr
    dsimp only at e' ho' hf
    subst e'
    dsimp only
    refine wpAny_bind (seqEpoch_at ho6 rfl ?_)
    rw [ho']
    refine wpAny_bind (listUpdate_at ho6 rfl ?_ (Nat.zero_le _) (by rw [List.size_toArray, sizeLine_eq]; omega))
    rw [hf]
    simp only [bne_self_eq_false, Bool.false_eq_true, if_false]
    exact wpAny_pure h
theorem sorted_tree {l : Addr} {vs out : List Value} {Q : Value → Shared → Prop} (hl : s.heap.IsList l vs.toArray) (h64 : vs.length < 64) (h1 : vs.length < 2 → out = vs) (hz : out.length = vs.length)
    (h2 : 2 ≤ vs.length → ∀ s' : Shared, (∀ b o, s.heap.get? b = some o → s'.heap.get? b = some o) → wpAny (model prog w) A.in1.in1 (keyKind' vs.toArray) (fun κ s'' => s'' = s' ∧ (kas_sort vs.length).kasWp (kas_ask prog w A.in1.in1 κ vs) (fun p s''' => s''' = s' ∧ p.toList.map (fun i => vs.getD i Value.none) = out) s') (fun _ _ => False) s')
    (h : Q (.ref (s.heap.objs.size + 1)) { s with heap := sortedAll s.heap vs out.toArray }) : wpAny (model prog w) A (call (.builtin "sorted") [.ref l]) Q E s := by
  refine Calls.call_function_entry kind_sorted plain_sorted entry_sorted (args_sorted1 _) ?_
  unfold Builtin.«sorted»
  refine wpAny_bind (m := checkCount "sorted" 1 1 _) (wpAny_pure ?_)
  refine wpAny_bind (collect_list hl ?_ (by rw [sizeLine_eq]; omega))
  refine wpAny_bind (wpAny_newList ?_ (by rw [sizeLine_eq]; omega))
  have hsz : ((s.heap.push (seqObj "list" #[] 0)).update s.heap.objs.size (Obj.mapSeq (· ++ vs.toArray))).objs.size = s.heap.objs.size + 1 := by
    rw [Heap.size_update, size_push']
  have hoL : (((s.heap.push (seqObj "list" #[] 0)).update s.heap.objs.size (Obj.mapSeq (· ++ vs.toArray))).push (seqObj "list" vs.toArray 0)).get? (s.heap.objs.size + 1) = some (seqObj "list" vs.toArray 0) := by
    rw [← hsz]; exact Heap.get?_push_size _ rfl
  have keep : ∀ b o, s.heap.get? b = some o → (((s.heap.push (seqObj "list" #[] 0)).update s.heap.objs.size (Obj.mapSeq (· ++ vs.toArray))).push (seqObj "list" vs.toArray 0)).get? b = some o := fun b o q => by
    have hlt : b < s.heap.objs.size := Heap.lt_size q
    rw [Heap.get?_push_ne _ _ _ (by rw [hsz]; exact Nat.ne_of_lt (Nat.lt_succ_of_lt hlt)), Heap.get?_update_ne _ _ _ _ (Nat.ne_of_lt hlt), Heap.get?_push_ne _ _ _ (Nat.ne_of_lt hlt)]
    exact q
  show wpAny _ _ _ _ _ { s with heap := ((s.heap.push (seqObj "list" #[] 0)).update s.heap.objs.size (Obj.mapSeq (· ++ vs.toArray))).push (seqObj "list" vs.toArray 0) }
  rw [hsz]
  refine wpAny_bind (wpAny_holding (wpAny_call_entry slot_list_sort ⟨_, hoL, rfl⟩ entry_list_sort (sort_tree hoL h64 h1 hz (fun hv s' hk => h2 hv s' fun b o e => hk b o (Nat.ne_of_lt (Nat.lt_succ_of_lt (Heap.lt_size e))) (keep b o e)) ⟨_, rfl, ?_⟩) (args_list_sort _)))
  exact wpAny_pure ⟨_, rfl, h⟩
end

/-! tuples whose first two are ints -/
abbrev K3 := Int × Int × AV
abbrev k3 (x : K3) : AV := .tup [.int x.1, .int x.2.1, x.2.2]
noncomputable def ltK (ks : List K3) (i j : Nat) : Bool := let a := ks.getD i (0, 0, .none); let b := ks.getD j (0, 0, .none); if a.1 = b.1 then decide (a.2.1 < b.2.1) else decide (a.1 < b.1)
noncomputable def dK (ks : List K3) (i j : Nat) : Bool := let a := ks.getD i (0, 0, .none); let b := ks.getD j (0, 0, .none); decide (i < ks.length) && decide (j < ks.length) && !(decide (a.1 = b.1) && decide (a.2.1 = b.2.1))
noncomputable def srtK (ks : List K3) : List K3 := if ks.length < 2 then ks else (runT (ltK ks) (kas_sort ks.length)).toList.map fun i => ks.getD i (0, 0, .none)
noncomputable def okK (ks : List K3) : Bool := decide (ks.length < 2) || (okT (ltK ks) (dK ks) (kas_sort ks.length) && decide ((runT (ltK ks) (kas_sort ks.length)).toList.length = ks.length) && (runT (ltK ks) (kas_sort ks.length)).toList.all fun i => decide (i < ks.length))
theorem k3_at {av : Avd} {h : Heap} {ks : List K3} {vs : List Value} (r : VRels av h (ks.map k3) vs) {i : Nat} (hi : i < ks.length) : ∃ a t u V n, vs.getD i Value.none = .ref a ∧ h.get? a = some { cls := .type "tuple", data := .seq #[.int (ks.getD i (0, 0, .none)).1 t, .int (ks.getD i (0, 0, .none)).2.1 u, V] n } := by
  have e0 : ks.getD i (0, 0, .none) = ks[i] := by simp [hi]
  have e1 : (ks.map k3)[i]? = some (k3 ks[i]) := by simp [hi]
  obtain ⟨v, hv, rv⟩ := r.get e1
  have e2 : vs.getD i Value.none = v := by rw [List.getD_eq_getElem?_getD, hv]; rfl
  rw [e0, e2]
  cases rv with
  | tup na t rs =>
    obtain ⟨n, e⟩ := t
    cases rs with
    | cons r1 rs =>
      cases r1
      cases rs with
      | cons r2 rs =>
        cases r2
        cases rs with
        | cons r3 rs => cases rs; exact ⟨_, _, _, _, n, rfl, e⟩
theorem tups_of {av : Avd} {h h' : Heap} (hk : ∀ b o, h.get? b = some o → h'.get? b = some o) : ∀ {ks : List K3} {vs : List Value}, VRels av h (ks.map k3) vs → ∃ fs : List Value, KatTups h' vs fs ∧ fs.length = ks.length ∧ ∀ v ∈ fs, ∃ i t, v = .int i t
  | [], _, .nil => ⟨[], .nil, rfl, fun _ h => nomatch h⟩
  | x :: ks, _, .cons r rs => by
    obtain ⟨fs, a, b, c⟩ := tups_of hk rs
    cases r with
    | tup na t rs =>
      obtain ⟨n, e⟩ := t
      cases rs with
      | cons r1 rs =>
        cases r1
        refine ⟨_ :: fs, .cons (hk _ _ e) rfl rfl rfl a, by simp [b], fun v hv => ?_⟩
        rcases List.mem_cons.mp hv with q | q
        · exact ⟨_, _, q⟩
        · exact c v q
theorem len_map {av : Avd} {h : Heap} {ks : List K3} {vs : List Value} (r : VRels av h (ks.map k3) vs) : vs.length = ks.length := by rw [r.length, List.length_map]
theorem pick_rel {av : Avd} {h : Heap} {ks : List K3} {vs : List Value} (r : VRels av h (ks.map k3) vs) : ∀ (l : List Nat), (∀ i ∈ l, i < ks.length) → VRels av h ((l.map fun i => ks.getD i (0, 0, .none)).map k3) (l.map fun i => vs.getD i Value.none)
  | [], _ => .nil
  | i :: l, hl => by
    have hi := hl i (.head _)
    have e0 : ks.getD i (0, 0, .none) = ks[i] := by simp [hi]
    have e1 : (ks.map k3)[i]? = some (k3 ks[i]) := by simp [hi]
    obtain ⟨v, hv, rv⟩ := r.get e1
    have e2 : vs.getD i Value.none = v := by rw [List.getD_eq_getElem?_getD, hv]; rfl
    simp only [List.map_cons]
    rw [e0, e2]
    exact .cons rv (pick_rel r l fun j hj => hl j (.tail _ hj))
section
variable {Γ : Gd} {k : Nat} {sc : Scope} {loc : Loc} {σ : Sto}
theorem cal_sorted3 {l : Addr} {ks : List K3} {P : AV → Sto → Prop} (hm : (l, .list (ks.map k3)) ∈ σ) (h64 : ks.length < 64) (ok : okK ks = true) (p : ∀ b, P (.ref b) ((b, .list ((srtK ks).map k3)) :: σ)) : Cal Γ k (.builtin "sorted") [.ref l] σ P := fun A κ s Xs hA le R rs => by
  cases rs with
  | cons r rs =>
    cases r; cases rs
    obtain ⟨vs, n, e, rs⟩ := R.list hm
    have hlen := len_map rs
    let out : List Value := if ks.length < 2 then vs else (runT (ltK ks) (kas_sort ks.length)).toList.map fun i => vs.getD i Value.none
    have oke : 2 ≤ ks.length → okT (ltK ks) (dK ks) (kas_sort ks.length) = true ∧ (runT (ltK ks) (kas_sort ks.length)).toList.length = ks.length ∧ ∀ i ∈ (runT (ltK ks) (kas_sort ks.length)).toList, i < ks.length := fun h2 => by
      unfold okK at ok
      rw [decide_eq_false (by omega), Bool.false_or, Bool.and_eq_true, Bool.and_eq_true] at ok
      exact ⟨ok.1.1, of_decide_eq_true ok.1.2, fun i hi => of_decide_eq_true (List.all_eq_true.mp ok.2 i hi)⟩
    have hz : out.length = vs.length := by
      show (if ks.length < 2 then vs else (runT (ltK ks) (kas_sort ks.length)).toList.map fun i => vs.getD i Value.none).length = _
      by_cases h2 : ks.length < 2
      · rw [if_pos h2]
      · rw [if_neg h2, List.length_map, (oke (by omega)).2.1, hlen]
    have ro : VRels κ.av s.heap ((srtK ks).map k3) out := by
      show VRels _ _ _ (if ks.length < 2 then vs else (runT (ltK ks) (kas_sort ks.length)).toList.map fun i => vs.getD i Value.none)
      unfold srtK
      by_cases h2 : ks.length < 2
      · rw [if_pos h2, if_pos h2]; exact rs
      · rw [if_neg h2, if_neg h2]; exact pick_rel rs _ (oke (by omega)).2.2
    refine sorted_tree (vs := vs) (out := out) ⟨_, e, rfl, n, rfl⟩ (by omega) (fun hv => if_pos (by omega)) hz (fun hv s' hk => ?_) ?_
    · obtain ⟨fs, kt, fl, fi⟩ := tups_of hk rs
      refine kat_kind (T := .type "int") kt (by omega) (fun v hv => ?_) rfl ⟨rfl, ?_⟩
      · obtain ⟨i, t, rfl⟩ := fi v hv
        exact .of_pure rfl
      rw [hlen]
      obtain ⟨o1, o2, o3⟩ := oke (by omega)
      refine kasWp_run (lt := ltK ks) (d := dK ks) (fun i j C hd hc => ?_) _ o1 ⟨rfl, ?_⟩
      · simp only [dK, Bool.and_eq_true, decide_eq_true_eq, Bool.not_eq_true'] at hd
        obtain ⟨⟨hi, hj⟩, hne⟩ := hd
        obtain ⟨a, t, u, V, na, ea, ga⟩ := k3_at rs hi
        obtain ⟨b, t', u', V', nb, eb, gb⟩ := k3_at rs hj
        unfold kas_ask
        rw [ea, eb]
        refine kat_lt (hk _ _ ga) rfl (hk _ _ gb) rfl ?_
        refine kat_cons (wpAny_eqBool_int ?_)
        unfold ltK at hc
        dsimp only at hc
        by_cases h1 : (ks.getD i (0, 0, .none)).1 = (ks.getD j (0, 0, .none)).1
        · rw [if_pos h1] at hc
          rw [decide_eq_true h1, Bool.true_and, decide_eq_false_iff_not] at hne
          rw [beq_iff_eq.mpr h1]
          refine kat_yes (kat_cons (wpAny_eqBool_int ?_))
          rw [beq_eq_false_iff_ne.mpr hne]
          refine kat_no (kat_one _ _ ?_)
          exact PyProof.Rows.lt_int hc
        · rw [if_neg h1] at hc
          rw [beq_eq_false_iff_ne.mpr h1]
          exact kat_no (oneLt_int hc)
      · exact (if_neg (by omega)).symm
    · obtain ⟨c, hc⟩ := sortedAll_at s.heap vs out.toArray
      exact ⟨.ref _, _, _, s.toks, rfl, R.add (o := .list ((srtK ks).map k3)) (Heap.get?_none_of_le (Nat.le_succ _)) (fun _ _ => sortedAll_old) hc ⟨out, c, rfl, ro.mono (.of_keeps fun _ _ => sortedAll_old)⟩, .ref _, p _⟩
end
end Mine
namespace Mine
section
variable {Γ : Gd} {k : Nat} {sc : Scope} {loc loc' : Loc} {σ σ' : Sto} {target : Expr} {body : List Stmt} {P : AFl → Loc → Sto → Prop}
theorem into6 {a b c d e f z : Addr × AO} {ρ : Sto} : List.Perm (a :: b :: c :: d :: e :: f :: z :: ρ) (z :: a :: b :: c :: d :: e :: f :: ρ) := List.perm_middle (l₁ := [a, b, c, d, e, f])
theorem Rep.perm {κ : Kap} {env : Env} {h : Heap} (R : Rep κ env loc σ h) (hs : σ'.Perm σ) : Rep κ env loc σ' h := ⟨R.s.perm hs, R.f.sub fun _ ha => (hs.map _).subset ha⟩
theorem for_perm {src : Sto} {vs : List AV} (h : For Γ k sc target body src vs loc σ' P) (hs : σ'.Perm σ) : For Γ k sc target body src vs loc σ P := fun I e A κ env s i hA l f hn R hm hcv => h I e A κ env s i hA l f hn (R.perm hs) (fun p hp => hs.mem_iff.mpr (hm p hp)) hcv
theorem cmp_perm {ifs : List Expr} {elt iter : Expr} {scope : Scope} {pos : Pos} {src : Sto} {D : Addr} {vs : List AV} {Q : Sto → Prop} (h : Cmp Γ k sc target ifs elt iter scope pos src D vs loc σ' Q) (hs : σ'.Perm σ) : Cmp Γ k sc target ifs elt iter scope pos src D vs loc σ Q := fun I e A κ env s i hA l f hn R hm hcv =>
  h I e A κ env s i hA l f hn (R.perm hs) (fun p hp => hs.mem_iff.mpr (hm p hp)) hcv
theorem cmp_drop {ifs : List Expr} {elt iter : Expr} {scope : Scope} {pos : Pos} {src : Sto} {D : Addr} {vs : List AV} {Q : Sto → Prop} (h : Cmp Γ k sc target ifs elt iter scope pos src D vs loc σ' Q) (hs : σ'.Sublist σ) (hm : ∀ p ∈ src, p ∈ σ') : Cmp Γ k sc target ifs elt iter scope pos src D vs loc σ Q := fun I e A κ env s i hA l f hn R _ hcv =>
  h I e A κ env s i hA l f hn (R.less (.refl _) hs) (fun p hp => hm p (e ▸ hp)) hcv
end
end Mine
namespace Mine
  open PySem.StrLaws PySem.Builtin.Str
theorem cnt_run (x : Str) (c : Nat) : ∀ (m cur : Nat) (st : Array Nat × Nat), st.1.size ≤ cur → st.2 ≤ cur → cur + m = x.length + 1 →
    (forIn (List.range' cur m) st (occBody x ⟨#[c]⟩ x.length (x.length + 1))).run.fst.size = st.1.size + (x.cps.toList.drop cur).count c
  | 0, cur, st, h1, h2, h3 => by
    have : x.cps.toList.drop cur = [] := by rw [List.drop_eq_nil_iff]; simp [Str.length] at h3 ⊢; omega
    rw [this]; rfl
  | m + 1, cur, st, h1, h2, h3 => by
    rw [List.range'_succ, List.forIn_cons]
    have key := subAt_one x c cur
    unfold occBody
    by_cases hc : x.cps.toList[cur]? = some c
    · obtain ⟨k1, k2⟩ := key.mpr hc
      rw [if_pos ⟨⟨⟨by omega, h2⟩, k1⟩, k2⟩]
      have ih := cnt_run x c m (cur + 1) (st.1.push cur, cur + (⟨#[c]⟩ : Str).length) (by simp; omega) (Nat.le_refl _) (by omega)
      have e : x.cps.toList.drop cur = c :: x.cps.toList.drop (cur + 1) := by
        obtain ⟨hl, he⟩ := List.getElem?_eq_some_iff.mp hc
        rw [← he, List.getElem_cons_drop]
      refine Eq.trans ih ?_
      rw [e, List.count_cons_self, Array.size_push]; omega
    · have hn : ¬ (((st.fst.size < x.length + 1 ∧ st.snd ≤ cur) ∧ cur + (⟨#[c]⟩ : Str).length ≤ x.length) ∧ subAt x ⟨#[c]⟩ cur = true) := fun h => hc (key.mp ⟨h.1.2, h.2⟩)
      rw [if_neg hn]
      have ih := cnt_run x c m (cur + 1) (st.1, st.2) (by dsimp only; omega) (by dsimp only; omega) (by omega)
      refine Eq.trans ih ?_
      congr 1
      cases hg : x.cps.toList[cur]? with
      | none => rw [List.drop_eq_nil_of_le (by have := List.getElem?_eq_none_iff.mp hg; omega), List.drop_eq_nil_of_le (by have := List.getElem?_eq_none_iff.mp hg; omega)]
      | some d =>
        obtain ⟨hl, he⟩ := List.getElem?_eq_some_iff.mp hg
        have e : x.cps.toList.drop cur = d :: x.cps.toList.drop (cur + 1) := by rw [← he, List.getElem_cons_drop]
        rw [e, List.count_cons_of_ne]
        intro q; exact hc (by rw [hg, q])
theorem cnt_one (l : List Nat) (c : Nat) : (Builtin.Str.occurrences (ofL l) (ofL [c]) 0 (ofL l).length ((ofL l).length + 1)).length = l.count c := by
  rw [occ_eq, Array.length_toList]
  have := cnt_run (ofL l) c ((ofL l).length + 1 - 0) 0 ((#[] : Array Nat), 0) (Nat.le_refl _) (Nat.le_refl _) (by omega)
  refine Eq.trans this ?_
  simp [ofL]
section
variable {Γ : Gd} {k : Nat} {σ : Sto} {P : AV → Sto → Prop}
theorem cal_count1 {l : List Nat} {c : Nat} (h : P (.int (l.count c)) σ) : Cal Γ k (.builtin "str.count") [.str (ofL l), .str (ofL [c])] σ P := cal_count (by rw [cnt_one]; exact h)
end
theorem pick_take {α : Type} (l : List α) (n : Nat) (h : n ≤ l.length) : pick l none (some (n : Int)) = l.take n := by
  unfold pick
  have : clipAt l.length (n : Int) = n := by unfold clipAt; omega
  simp only [Option.elim, List.drop_zero, Nat.sub_zero, this]
end Mine
namespace Mine
/-- a sort whose questions are answered by an order -/
noncomputable def Ends {α : Type} (lt d : Nat → Nat → Bool) (t : KasT α) (Q : α → Prop) : Prop := okT lt d t = true ∧ Q (runT lt t)
section
variable {lt d : Nat → Nat → Bool} {n : Nat}
theorem ends_ret {α : Type} {a : α} {Q : α → Prop} (h : Q a) : Ends lt d (.ret a) Q := ⟨rfl, h⟩
theorem ends_ask {α : Type} {i j : Nat} {k : Bool → KasT α} {Q : α → Prop} (hd : d i j = true) (h : Ends lt d (k (lt i j)) Q) : Ends lt d (.ask i j k) Q := ⟨by rw [okT, hd, h.1]; rfl, h.2⟩
theorem ends_mono {α : Type} {t : KasT α} {Q Q' : α → Prop} (h : Ends lt d t Q) (hq : ∀ a, Q a → Q' a) : Ends lt d t Q' := ⟨h.1, hq _ h.2⟩
theorem ends_bind {α β : Type} {f : α → KasT β} {Q : β → Prop} : ∀ {t : KasT α}, Ends lt d t (fun a => Ends lt d (f a) Q) → Ends lt d (t.bind f) Q
  | .ret a, h => h.2
  | .ask i j k, ⟨h1, h2⟩ => by
    rw [okT, Bool.and_eq_true] at h1
    exact ends_ask h1.1 (ends_bind (t := k (lt i j)) ⟨h1.2, h2⟩)
structure Ord (n : Nat) (lt d : Nat → Nat → Bool) : Prop where
  tot : ∀ i j, i < n → j < n → i ≠ j → lt i j = false → lt j i = true
  asym : ∀ i j, lt i j = true → lt j i = false
  tr : ∀ i j k, lt i j = true → lt j k = true → lt i k = true
  ask : ∀ i j, i < n → j < n → i ≠ j → d i j = true
abbrev pg (p : Array Nat) (i : Nat) : Nat := p.getD i 0
noncomputable def Prm (n : Nat) (p : Array Nat) : Prop := p.toList.Perm (List.range n)
theorem Prm.size {p : Array Nat} (h : Prm n p) : p.size = n := by have := h.length_eq; simpa using this
theorem pg_eq {p : Array Nat} {i : Nat} (hi : i < p.size) : p[i]? = some (pg p i) := by
  unfold pg
  rw [Array.getElem?_eq_getElem hi, Array.getD, dif_pos hi]; rfl
theorem Prm.bd {p : Array Nat} (h : Prm n p) {i : Nat} (hi : i < n) : pg p i < n := by
  have e := pg_eq (p := p) (by rw [h.size]; exact hi)
  have hm : pg p i ∈ p.toList := by rw [← Array.getElem?_toList] at e; exact List.mem_of_getElem? e
  exact List.mem_range.mp (h.mem_iff.mp hm)
theorem Prm.inj {p : Array Nat} (h : Prm n p) {i j : Nat} (hi : i < n) (hj : j < n) (hne : i ≠ j) : pg p i ≠ pg p j := fun e => by
  have hnd : p.toList.Nodup := h.nodup_iff.mpr List.nodup_range
  have e1 := pg_eq (p := p) (by rw [h.size]; exact hi)
  have e2 := pg_eq (p := p) (by rw [h.size]; exact hj)
  rw [← Array.getElem?_toList] at e1 e2
  rw [e] at e1
  have hl : i < p.toList.length := by rw [Array.length_toList, h.size]; exact hi
  exact hne ((List.getElem?_inj hl hnd).mp (e1.trans e2.symm))
theorem Prm.of_perm {p q : Array Nat} (h : Prm n p) (hq : q.Perm p) : Prm n q := (Array.Perm.toList hq).trans h
noncomputable def Srt (lt : Nat → Nat → Bool) (p : Array Nat) (k : Nat) : Prop := ∀ i j, i < j → j < k → lt (pg p i) (pg p j) = true
noncomputable def Dsc (lt : Nat → Nat → Bool) (p : Array Nat) (k : Nat) : Prop := ∀ i j, i < j → j < k → lt (pg p j) (pg p i) = true
theorem srt_one {p : Array Nat} : Srt lt p 1 := fun i j h1 h2 => by omega
theorem Srt.snoc (O : Ord n lt d) {p : Array Nat} {k : Nat} (S : Srt lt p (k + 1)) (h : lt (pg p k) (pg p (k + 1)) = true) : Srt lt p (k + 2) := fun i j h1 h2 => by
  by_cases hj : j = k + 1
  · subst hj
    by_cases hi : i = k
    · subst hi; exact h
    · exact O.tr _ _ _ (S i k (by omega) (by omega)) h
  · exact S i j h1 (by omega)
theorem Dsc.snoc (O : Ord n lt d) {p : Array Nat} {k : Nat} (S : Dsc lt p (k + 1)) (h : lt (pg p (k + 1)) (pg p k) = true) : Dsc lt p (k + 2) := fun i j h1 h2 => by
  by_cases hj : j = k + 1
  · subst hj
    by_cases hi : i = k
    · subst hi; exact h
    · exact O.tr _ _ _ h (S i k (by omega) (by omega))
  · exact S i j h1 (by omega)
theorem ends_asc (O : Ord n lt d) {p : Array Nat} (hp : Prm n p) : ∀ (f m : Nat), 1 ≤ m → m + f ≤ n → Srt lt p m → Ends lt d (kas_asc p f m) fun r => m ≤ r ∧ r ≤ m + f ∧ Srt lt p r ∧ (r < m + f → lt (pg p r) (pg p (r - 1)) = true)
  | 0, m, h1, h2, S => ends_ret ⟨Nat.le_refl _, Nat.le_refl _, S, fun h => by omega⟩
  | f + 1, m, h1, h2, S => by
    refine ends_ask (O.ask _ _ (hp.bd (by omega)) (hp.bd (by omega)) (hp.inj (by omega) (by omega) (by omega))) ?_
    cases hc : lt (p.getD m 0) (p.getD (m - 1) 0) with
    | true => exact ends_ret ⟨Nat.le_refl _, by omega, S, fun _ => hc⟩
    | false =>
      obtain ⟨k, rfl⟩ : ∃ k, m = k + 1 := ⟨m - 1, by omega⟩
      have hl := O.tot _ _ (hp.bd (show k + 1 < n by omega)) (hp.bd (show k < n by omega)) (hp.inj (by omega) (by omega) (by omega)) hc
      exact ends_mono (ends_asc O hp f (k + 2) (by omega) (by omega) (S.snoc O hl)) fun r ⟨a, b, c, e⟩ => ⟨by omega, by omega, c, fun h => e (by omega)⟩
theorem ends_desc (O : Ord n lt d) {p : Array Nat} (hp : Prm n p) : ∀ (f m : Nat), 1 ≤ m → m + f ≤ n → Dsc lt p m → Ends lt d (kas_desc f p m 0) fun r => r.1 = p ∧ m ≤ r.2.1 ∧ r.2.1 ≤ m + f ∧ r.2.2 = 0 ∧ Dsc lt p r.2.1
  | 0, m, h1, h2, S => ends_ret ⟨rfl, Nat.le_refl _, Nat.le_refl _, rfl, S⟩
  | f + 1, m, h1, h2, S => by
    refine ends_ask (O.ask _ _ (hp.bd (by omega)) (hp.bd (by omega)) (hp.inj (by omega) (by omega) (by omega))) ?_
    cases hc : lt (p.getD m 0) (p.getD (m - 1) 0) with
    | true =>
      obtain ⟨k, rfl⟩ : ∃ k, m = k + 1 := ⟨m - 1, by omega⟩
      exact ends_mono (ends_desc O hp f (k + 2) (by omega) (by omega) (S.snoc O hc)) fun r ⟨a, b, c, e, g⟩ => ⟨a, by omega, by omega, e, g⟩
    | false =>
      have hl := O.tot _ _ (hp.bd (show m < n by omega)) (hp.bd (show m - 1 < n by omega)) (hp.inj (by omega) (by omega) (by omega)) hc
      refine ends_ask (O.ask _ _ (hp.bd (by omega)) (hp.bd (by omega)) (hp.inj (by omega) (by omega) (by omega))) ?_
      rw [hl]
      exact ends_ret ⟨rfl, Nat.le_refl _, Nat.le_add_right _ _, rfl, S⟩
theorem pg_congr {p q : Array Nat} {i j : Nat} (h : p[i]? = q[j]?) : pg p i = pg q j := by
  unfold pg
  rw [Array.getD_eq_getD_getElem?, Array.getD_eq_getD_getElem?, h]
theorem rev_prm {p : Array Nat} (hp : Prm n p) (i j : Nat) : Prm n (kas_rev p i j) := hp.of_perm (mirror_perm _ _ _ _)
theorem rev_srt {p : Array Nat} (hp : Prm n p) {m : Nat} (hm : m ≤ n) (S : Dsc lt p m) : Srt lt (kas_rev p 0 m) m := fun i j h1 h2 => by
  have key : ∀ k, k < m → pg (kas_rev p 0 m) k = pg p (m - 1 - k) := fun k hk => by
    refine pg_congr ?_
    have e := getElem?_mirror_all (xs := p) (i := 0) (j := m) (by rw [hp.size]; exact hm) k
    rw [if_pos ⟨Nat.zero_le _, hk⟩] at e
    refine Eq.trans e ?_
    congr 1; omega
  rw [key i (by omega), key j h2]
  exact S _ _ (by omega) (by omega)
theorem ends_count (O : Ord n lt d) {p : Array Nat} (hp : Prm n p) (h1 : 1 ≤ n) : Ends lt d (kas_count n p) fun r => 1 ≤ r.1 ∧ r.1 ≤ n ∧ Prm n r.2 ∧ Srt lt r.2 r.1 := by
  refine ends_bind (ends_mono (ends_asc O hp (n - 1) 1 (Nat.le_refl _) (by omega) srt_one) fun m pst0 => ?_)
  obtain ⟨a, b, c, e⟩ := pst0
  by_cases hmn : m = n
  · rw [if_pos (by simp [hmn])]
    exact ends_ret ⟨a, by omega, hp, c⟩
  · rw [if_neg (by simp [hmn])]
    by_cases hm1 : m > 1
    · rw [if_pos hm1]
      refine ends_ask (O.ask _ _ (hp.bd (by omega)) (hp.bd (by omega)) (hp.inj (by omega) (by omega) (by omega))) ?_
      rw [c 0 (m - 1) (by omega) (by omega)]
      exact ends_ret ⟨a, by omega, hp, c⟩
    · rw [if_neg hm1]
      obtain rfl : m = 1 := by omega
      have e' := e (by omega)
      refine ends_bind (ends_mono (ends_desc O hp (n - 2) 2 (by omega) (by omega) fun i j h1 h2 => ?_) fun r pst0 => ?_)
      · obtain rfl : i = 0 := by omega
        obtain rfl : j = 1 := by omega
        exact e'
      · obtain ⟨x1, x2, x3, x4, x5⟩ := pst0
        rw [if_neg (by omega), x1]
        have hq := rev_prm hp 0 r.2.1
        refine ends_bind (ends_mono (ends_asc O hq (n - r.2.1) r.2.1 (by omega) (by omega) (rev_srt hp (by omega) x5)) fun m ⟨a, b, c, _⟩ => ends_ret ⟨by dsimp only; omega, by dsimp only; omega, hq, c⟩)
theorem ends_place (O : Ord n lt d) {p : Array Nat} (hp : Prm n p) {k : Nat} (hk : k < n) (S : Srt lt p k) : ∀ (f l r : Nat), l ≤ r → r ≤ k → r - l ≤ f → (∀ i, i < l → lt (pg p i) (pg p k) = true) → (∀ i, r ≤ i → i < k → lt (pg p k) (pg p i) = true) →
    Ends lt d (kas_place p k f l r) fun m => m ≤ k ∧ (∀ i, i < m → lt (pg p i) (pg p k) = true) ∧ ∀ i, m ≤ i → i < k → lt (pg p k) (pg p i) = true
  | 0, l, r, h1, h2, h3, hl, hr => ends_ret ⟨by omega, hl, fun i a b => hr i (by omega) b⟩
  | f + 1, l, r, h1, h2, h3, hl, hr => by
    unfold kas_place
    by_cases hlr : l ≥ r
    · rw [if_pos hlr]; exact ends_ret ⟨by omega, hl, fun i a b => hr i (by omega) b⟩
    · rw [if_neg hlr]
      have hmid : (l + r) / 2 < k := by omega
      refine ends_ask (O.ask _ _ (hp.bd hk) (hp.bd (by omega)) (hp.inj hk (by omega) (by omega))) ?_
      cases hc : lt (p.getD k 0) (p.getD ((l + r) / 2) 0) with
      | true =>
        refine ends_place O hp hk S f l _ (by omega) (by omega) (by omega) hl fun i a b => ?_
        by_cases e : i = (l + r) / 2
        · subst e; exact hc
        · exact O.tr _ _ _ hc (S _ _ (by omega) b)
      | false =>
        have hg := O.tot _ _ (hp.bd hk) (hp.bd (show (l + r) / 2 < n by omega)) (hp.inj hk (by omega) (by omega)) hc
        refine ends_place O hp hk S f _ r (by omega) h2 (by omega) (fun i a => ?_) hr
        by_cases e : i = (l + r) / 2
        · subst e; exact hg
        · exact O.tr _ _ _ (S _ _ (by omega) hmid) hg
theorem ends_bin (O : Ord n lt d) : ∀ (f : Nat) (p : Array Nat) (k : Nat), k + f = n → Prm n p → Srt lt p k → Ends lt d (kas_bin f p k) fun r => Prm n r ∧ Srt lt r n
  | 0, p, k, h1, hp, S => ends_ret ⟨hp, by rw [← h1]; exact S⟩
  | f + 1, p, k, h1, hp, S => by
    refine ends_bind (ends_mono (ends_place O hp (by omega) S k 0 k (by omega) (by omega) (by omega) (fun i h => by omega) fun i a b => by omega) fun m pst0 => ?_)
    obtain ⟨m1, m2, m3⟩ := pst0
    refine ends_bin O f _ (k + 1) (by omega) (hp.of_perm (bubble_perm _ _ _)) fun i j h2 h3 => ?_
    have key : ∀ t, pg (bubble p k (k - m)) t = if t = m then pg p k else if m < t ∧ t ≤ k then pg p (t - 1) else pg p t := fun t => by
      have e := getElem?_bubble (xs := p) (src := k) (by rw [hp.size]; omega) (k - m) (by omega) t
      rw [show k - (k - m) = m by omega] at e
      by_cases c1 : t = m
      · rw [if_pos c1] at e ⊢; exact pg_congr e
      · rw [if_neg c1] at e ⊢
        by_cases c2 : m < t ∧ t ≤ k
        · rw [if_pos c2] at e ⊢; exact pg_congr e
        · rw [if_neg c2] at e ⊢; exact pg_congr e
    rw [key i, key j]
    by_cases ci : i = m
    · rw [if_pos ci, if_neg (by omega), if_pos ⟨by omega, by omega⟩]
      exact m3 _ (by omega) (by omega)
    · rw [if_neg ci]
      by_cases cj : j = m
      · rw [if_pos cj, if_neg (by omega)]
        exact m2 _ (by omega)
      · rw [if_neg cj]
        by_cases di : m < i ∧ i ≤ k
        · rw [if_pos di, if_pos ⟨by omega, by omega⟩]; exact S _ _ (by omega) (by omega)
        · rw [if_neg di]
          by_cases dj : m < j ∧ j ≤ k
          · rw [if_pos dj]; exact S _ _ (by omega) (by omega)
          · rw [if_neg dj]; exact S _ _ (by omega) (by omega)
theorem ends_sort (O : Ord n lt d) (h1 : 1 ≤ n) : Ends lt d (kas_sort n) fun r => Prm n r ∧ Srt lt r n := by
  refine ends_bind (ends_mono (ends_count O (p := List.toArray (List.range n)) (.refl _) h1) fun r pst0 => ?_)
  obtain ⟨a, b, c, e⟩ := pst0
  by_cases h : r.1 < n
  · rw [if_pos h, show max r.1 1 = r.1 by omega]
    exact ends_bin O _ _ _ (by omega) c e
  · rw [if_neg h]
    exact ends_ret ⟨c, by rw [show n = r.1 by omega]; exact e⟩
end
/-! tuples whose first two differ -/
abbrev key2 (x : K3) : Int × Int := (x.1, x.2.1)
noncomputable def lt2 (a b : Int × Int) : Bool := if a.1 = b.1 then decide (a.2 < b.2) else decide (a.1 < b.1)
theorem lt2_asym {a b : Int × Int} (h : lt2 a b = true) : lt2 b a = false := by
  unfold lt2 at *
  split at h <;> rename_i q
  · have := of_decide_eq_true h; rw [if_pos q.symm]; exact decide_eq_false (by omega)
  · have := of_decide_eq_true h; rw [if_neg (fun e => q e.symm)]; exact decide_eq_false (by omega)
theorem lt2_tot {a b : Int × Int} (hn : a ≠ b) (h : lt2 a b = false) : lt2 b a = true := by
  unfold lt2 at *
  split at h <;> rename_i q
  · have := of_decide_eq_false h; rw [if_pos q.symm]
    refine decide_eq_true ?_
    have : a.2 ≠ b.2 := fun e => hn (Prod.ext q e)
    omega
  · have := of_decide_eq_false h; rw [if_neg (fun e => q e.symm)]; exact decide_eq_true (by omega)
theorem lt2_tr {a b c : Int × Int} (h1 : lt2 a b = true) (h2 : lt2 b c = true) : lt2 a c = true := by
  unfold lt2 at *
  split at h1 <;> split at h2 <;> rename_i q1 q2 <;> have := of_decide_eq_true h1 <;> have := of_decide_eq_true h2
  · rw [if_pos (q1.trans q2)]; exact decide_eq_true (by omega)
  · rw [if_neg (by omega)]; exact decide_eq_true (by omega)
  · rw [if_neg (by omega)]; exact decide_eq_true (by omega)
  · rw [if_neg (by omega)]; exact decide_eq_true (by omega)
theorem sorted_uniq {α : Type} {r : α → α → Bool} (asym : ∀ a b, r a b = true → r b a = false) : ∀ {l l' : List α}, l.Perm l' → l.Pairwise (fun a b => r a b = true) → l'.Pairwise (fun a b => r a b = true) → l = l'
  | [], _, p, _, _ => p.nil_eq
  | x :: l, l', p, h, h' => by
    cases l' with
    | nil => exact absurd p.length_eq (by simp)
    | cons y l' =>
      have e : x = y := by
        rcases List.mem_cons.mp (p.mem_iff.mp (.head _)) with q | q
        · exact q
        · rcases List.mem_cons.mp (p.mem_iff.mpr (.head _)) with q' | q'
          · exact q'.symm
          · have a1 := (List.pairwise_cons.mp h').1 x q
            have a2 := (List.pairwise_cons.mp h).1 y q'
            rw [asym _ _ a1] at a2; cases a2
      subst e
      rw [sorted_uniq asym p.cons_inv (List.pairwise_cons.mp h).2 (List.pairwise_cons.mp h').2]
/-- sorted by hand: the sort gives the same -/
theorem srtK_eq {ks out : List K3} (hp : out.Perm ks) (ho : out.Pairwise fun a b => lt2 (key2 a) (key2 b) = true) : okK ks = true ∧ srtK ks = out := by
  have hne : ∀ i j, i < ks.length → j < ks.length → i ≠ j → key2 (ks.getD i (0, 0, .none)) ≠ key2 (ks.getD j (0, 0, .none)) := by
    have hnd : (ks.map key2).Nodup := by
      refine (hp.map key2).nodup_iff.mp ?_
      rw [List.Nodup, List.pairwise_map]
      refine ho.imp fun {a b} h e => ?_
      have := lt2_asym h
      rw [e] at h this; rw [h] at this; cases this
    intro i j hi hj hij e
    refine hij ((List.getElem?_inj (by rw [List.length_map]; exact hi) hnd).mp ?_)
    rw [List.getElem?_map, List.getElem?_map, List.getElem?_eq_getElem hi, List.getElem?_eq_getElem hj]
    have e1 : ks.getD i (0, 0, .none) = ks[i] := by simp [hi]
    have e2 : ks.getD j (0, 0, .none) = ks[j] := by simp [hj]
    rw [e1, e2] at e
    exact congrArg some e
  have hlt : ∀ i j, ltK ks i j = lt2 (key2 (ks.getD i (0, 0, .none))) (key2 (ks.getD j (0, 0, .none))) := fun _ _ => rfl
  have O : Ord ks.length (ltK ks) (dK ks) := {
    tot := fun i j hi hj hij h => by rw [hlt] at h ⊢; exact lt2_tot (hne i j hi hj hij) h
    asym := fun i j h => by rw [hlt] at h ⊢; exact lt2_asym h
    tr := fun i j k h1 h2 => by rw [hlt] at h1 h2 ⊢; exact lt2_tr h1 h2
    ask := fun i j hi hj hij => by
      unfold dK
      dsimp only
      rw [decide_eq_true hi, decide_eq_true hj, Bool.true_and, Bool.true_and, Bool.not_eq_true']
      rw [Bool.and_eq_false_iff, decide_eq_false_iff_not, decide_eq_false_iff_not]
      by_cases h : (ks.getD i (0, 0, .none)).1 = (ks.getD j (0, 0, .none)).1
      · exact .inr fun h' => hne i j hi hj hij (Prod.ext h h')
      · exact .inl h }
  by_cases h2 : ks.length < 2
  · refine ⟨by unfold okK; rw [decide_eq_true h2]; rfl, ?_⟩
    unfold srtK
    rw [if_pos h2]
    match ks, h2 with
    | [], _ => exact hp.eq_nil.symm
    | [x], _ => exact (List.perm_singleton.mp hp).symm
  · obtain ⟨s1, s2, s3⟩ := ends_sort O (by omega)
    have hl : (runT (ltK ks) (kas_sort ks.length)).toList.length = ks.length := by rw [Array.length_toList]; exact s2.size
    have hm : ∀ i ∈ (runT (ltK ks) (kas_sort ks.length)).toList, i < ks.length := fun i hi => List.mem_range.mp (s2.mem_iff.mp hi)
    refine ⟨?_, ?_⟩
    · unfold okK
      rw [s1, decide_eq_true hl, Bool.and_true, Bool.true_and, Bool.or_eq_true]
      exact .inr (List.all_eq_true.mpr fun i hi => decide_eq_true (hm i hi))
    · unfold srtK
      rw [if_neg h2]
      refine sorted_uniq (r := fun a b => lt2 (key2 a) (key2 b)) (fun _ _ h => lt2_asym h) ?_ ?_ ho
      · refine List.Perm.trans ?_ hp.symm
        have e : (List.range ks.length).map (fun i => ks.getD i (0, 0, .none)) = ks := by
          refine List.ext_getElem (by simp) fun i h1 h2 => ?_
          simp [h2]
        exact (List.Perm.map (fun i => ks.getD i (0, 0, .none)) s2).trans (.of_eq e)
      · rw [List.pairwise_map]
        rw [List.pairwise_iff_getElem]
        intro i j hi hj hij
        have := s3 i j hij (by rw [← hl]; exact hj)
        rw [hlt] at this
        have ge : ∀ i (hi : i < (runT (ltK ks) (kas_sort ks.length)).toList.length), pg (runT (ltK ks) (kas_sort ks.length)) i = (runT (ltK ks) (kas_sort ks.length)).toList[i] := fun i hi => by
          have := pg_eq (p := runT (ltK ks) (kas_sort ks.length)) (i := i) (by rw [← Array.length_toList]; exact hi)
          rw [← Array.getElem?_toList, List.getElem?_eq_getElem hi] at this
          exact (Option.some.inj this).symm
        rw [ge i hi, ge j hj] at this
        exact this
end Mine
namespace Mine
/-- a list of ints that stands from the start -/
noncomputable def Fz (Γ : Gd) (a : Addr) (xs : List Int) : Prop := ∃ vs, Γ.hB.IsList a vs.toArray ∧ IntsAre vs xs
theorem ints_rel {av : Avd} {h : Heap} : ∀ {vs : List Value} {xs : List Int}, IntsAre vs xs → VRels av h (xs.map .int) vs
  | _, _, .nil => .nil
  | _, _, .cons k t r => .cons (.int k t) (ints_rel r)
section
variable {Γ : Gd} {k : Nat} {sc : Scope} {loc : Loc} {σ : Sto} {P : AV → Sto → Prop} {a : Addr} {xs : List Int}
theorem Fz.at (F : Fz Γ a xs) {κ : Kap} {h : Heap} (l : Γ.le κ) (R : RepS κ σ h) : ∃ vs, h.IsList a vs.toArray ∧ VRels κ.av h (xs.map .int) vs := by
  obtain ⟨vs, ⟨o, e, r⟩, hI⟩ := F
  exact ⟨vs, ⟨o, l.up R _ _ e, r⟩, ints_rel hI⟩
theorem fz_plain (F : Fz Γ a xs) : ∀ (A : Around) (κ : Kap) (s : Shared) (O : Value) (Q : Bool → Shared → Prop), Γ.le κ → RepS κ σ s.heap → VRel κ.av s.heap (.ref a) O → Q false s → wpAny Γ.M A (getitemInPython O) Q No s := fun A κ s O Q l R r h => by
  cases r
  obtain ⟨vs, ⟨o, e, hc, _⟩, _⟩ := F.at l R
  unfold getitemInPython
  exact wpAny_bind (wpAny_specialOf ⟨o, e, hc⟩ slot_list_getitem.lookup (wpAny_pure h))
theorem fz_slc (F : Fz Γ a xs) {lo hi : Option Int} (hl : xs.length ≤ sizeLine) (h : ∀ b, P (.ref b) ((b, .list ((pick xs lo hi).map .int)) :: σ)) : Slc Γ k (.ref a) lo hi σ P := fun A κ s O b vl vu hA l R r hs il iu => by
  cases r
  obtain ⟨vs, hL, rs⟩ := F.at l R
  have ep : slicePick vs.toArray lo hi none = (pick vs lo hi).toArray := by
    rw [slicePick_plain]; unfold pick; simp
  have em : (pick xs lo hi).map AV.int = pick (xs.map AV.int) lo hi := by unfold pick; rw [List.length_map, List.map_take, List.map_drop]
  refine wpAny_getItem_list_slice (items := vs.toArray) hL hs il iu .none (by simp) ⟨.ref _, _, _, s.toks, rfl, R.add size_new (push_keeps _) (Heap.get?_push_size _ rfl) (o := .list ((pick xs lo hi).map .int)) ⟨pick vs lo hi, 0, by rw [ep], em ▸ (rs.pick lo hi).mono (.of_keeps (push_keeps _))⟩, .ref _, h _⟩ (by rw [rs.size, List.length_map]; exact hl)
theorem ev_sliceF {value : Expr} {lower upper : Option Expr} {p pos : Pos} (F : Fz Γ a xs) (h : Ev Γ k sc value loc σ fun o σ₁ => o = .ref a ∧ EvO Γ k sc lower loc σ₁ fun lo σ₂ => EvO Γ k sc upper loc σ₂ fun hi σ₃ => Slc Γ k o lo hi σ₃ P) :
    Ev Γ k sc (.Subscript value (.Slice lower upper none p) pos) loc σ P := fun A κ env s hA l f R => by
  rw [arm_eval_Subscript]
  refine wpAny_bind (wpE (h A κ env s hA l f R) fun V₁ o σ₁ h₁ tk₁ q₁ R₁ r₁ p₁ => ?_)
  obtain ⟨rfl, p₁⟩ := p₁
  refine wpAny_bind (wpAny_holding (wpAny_Slice ?_))
  refine wpO (s := { s with heap := h₁, toks := tk₁ }) p₁ hA l f R₁ fun V₂ lo σ₂ h₂ tk₂ q₂ R₂ i₂ p₂ => ?_
  refine wpO (s := { s with heap := h₂, toks := tk₂ }) p₂ hA l f R₂ fun V₃ hi σ₃ h₃ tk₃ q₃ R₃ i₃ p₃ => ?_
  refine wpAny_evalPart_none ?_
  obtain ⟨q₄, R₄⟩ := R₃.grow (push_keeps { cls := .type "slice", data := .fields #[V₂, V₃, .none] })
  have r₄ := ((r₁.mono q₂).mono q₃).mono q₄
  refine wpAny_bind (wpAny_standAt (wpAny_bind (fz_plain F A κ _ V₁ _ l R₄.s r₄ ?_)))
  show wpAny _ _ ((operate [_, _] (getItem V₁ _)) >>= _) _ _ _
  refine wpAny_bind (wpAny_operating (wpS (p₃ A _ _ V₁ _ V₂ V₃ hA (Gd.le_mx R₄.s l) R₄.s.mx r₄ ⟨_, Heap.get?_push_size _ rfl, rfl, rfl⟩ i₂ i₃) fun V₅ v σ₅ h₅ tk₅ R₅ r₅ p₅ => ?_))
  obtain ⟨q₅, R₅'⟩ := frame_step R₄ R₅
  exact wpAny_bind (wpAny_letTemporaryGo (wpAny_pure ⟨v, σ₅, h₅, tk₅, rfl, (((q₁.trans q₂).trans q₃).trans q₄).trans q₅, R₅', r₅, p₅⟩))
end
end Mine
namespace Mine
noncomputable def fdOf (K : Frag) (a : Addr) : FuncData := match K.lookup a with
  | some ⟨_, _, .func fd, _⟩ => fd
  | _ => default
noncomputable def bodyOf (fd : FuncData) : List Stmt := match fd.body with
  | .stmts b => b
  | _ => []
/-- a def of the program, looked at -/
noncomputable def fnB (K : Frag) (f : Addr) (names : List Str) : Bool := match K.lookup f with
  | some ⟨_, _, .func fd, _⟩ => (match fd.body with | .stmts _ => true | _ => false) && (match fd.code with
      | .ref c => (match K.lookup c with
        | some ⟨_, _, .fields vs, _⟩ => (match (vs[1]? : Option Value) with | some (.str q _) => q == fd.qualname | _ => false)
        | _ => false)
      | _ => false) && decide names.Nodup && fd.globals == mainGlobals && fd.builtins == builtinsNs && !fd.scope.isCoroutine && !fd.scope.isGenerator && (fd.scope.kind == .function) && fd.closure.isEmpty
  | _ => false
theorem fnOkB {Γ : Gd} {K : Frag} {f : Addr} {names : List Str} (X : K.In Γ.hB) (hc : fnB K f names = true) (hb : ∀ Xs : List Value, Xs.length = names.length → bindArgs (fdOf K f) ⟨Xs, []⟩ = pure (names.zip Xs)) : FnOk Γ f (fdOf K f) (bodyOf (fdOf K f)) names := by
  unfold fnB at hc
  split at hc
  · rename_i cl di fd sl hk
    have e : fdOf K f = fd := by unfold fdOf; rw [hk]
    rw [e] at hb ⊢
    simp only [Bool.and_eq_true, beq_iff_eq, Bool.not_eq_true', decide_eq_true_eq, List.isEmpty_iff] at hc
    obtain ⟨⟨⟨⟨⟨⟨⟨⟨h1, h2⟩, h3⟩, h4⟩, h5⟩, h6⟩, h7⟩, h8⟩, h9⟩ := hc
    refine { obj := ⟨_, X _ _ hk, rfl⟩, hb := ?_, code := ?_, bind := hb, nodup := h3, glob := h4, blt := h5, co := h6, gen := h7, kind := h8, clo := h9 }
    · unfold bodyOf
      split at h1
      · rename_i b hb'; rw [hb']
      · cases h1
    · split at h2
      · rename_i c hcd
        split at h2
        · rename_i vs _ hkc
          split at h2
          · rename_i q t hv
            exact ⟨c, _, vs, t, hcd, X _ _ hkc, rfl, by rw [hv, beq_iff_eq.mp h2]⟩
          · cases h2
        · cases h2
      · cases h2
  · cases hc
theorem bind1 {fd : FuncData} {x : Str} (h : ∀ a, bindArgs fd ⟨[a], []⟩ = pure [(x, a)]) (Xs : List Value) (hl : Xs.length = [x].length) : bindArgs fd ⟨Xs, []⟩ = pure ([x].zip Xs) := by
  match Xs, hl with
  | [a], _ => exact h a
theorem bind2 {fd : FuncData} {x y : Str} (h : ∀ a b, bindArgs fd ⟨[a, b], []⟩ = pure [(x, a), (y, b)]) (Xs : List Value) (hl : Xs.length = [x, y].length) : bindArgs fd ⟨Xs, []⟩ = pure ([x, y].zip Xs) := by
  match Xs, hl with
  | [a, b], _ => exact h a b
theorem bind3 {fd : FuncData} {x y z : Str} (h : ∀ a b c, bindArgs fd ⟨[a, b, c], []⟩ = pure [(x, a), (y, b), (z, c)]) (Xs : List Value) (hl : Xs.length = [x, y, z].length) : bindArgs fd ⟨Xs, []⟩ = pure ([x, y, z].zip Xs) := by
  match Xs, hl with
  | [a, b, c], _ => exact h a b c
theorem mul_small {a b : Int} (h1 : 0 ≤ a) (h2 : a < 1000000000) : IntMulOk a b := .of_left (intBits_le_64 (by omega) (by omega))
theorem mul_smallr {a b : Int} (h1 : 0 ≤ b) (h2 : b < 1000000000) : IntMulOk a b := .of_right (intBits_le_64 (by omega) (by omega))
theorem mul_two {b : Int} : IntMulOk 2 b := mul_small (by decide) (by decide)
theorem mul_three {b : Int} : IntMulOk 3 b := mul_small (by decide) (by decide)
noncomputable def isG (K : Frag) (x : Str) (f : Addr) : Bool := match nsIn K mainGlobals x with
  | some (some (.ref g)) => g == f
  | _ => false
noncomputable def isN (K : Frag) (x : Str) : Bool := match nsIn K mainGlobals x with
  | some none => true
  | _ => false
noncomputable def isB (x : Str) (id : String) : Bool := match bootBuiltins x with
  | some (.builtin i) => i == id
  | _ => false
noncomputable def isT (x : Str) (id : String) : Bool := match bootBuiltins x with
  | some (.type i) => i == id
  | _ => false
theorem isG_eq {K : Frag} {x : Str} {f : Addr} (h : isG K x f = true) : nsIn K mainGlobals x = some (some (.ref f)) := by
  unfold isG at h; split at h
  · rename_i e; rw [e, beq_iff_eq.mp h]
  · cases h
theorem isN_eq {K : Frag} {x : Str} (h : isN K x = true) : nsIn K mainGlobals x = some none := by
  unfold isN at h; split at h
  · assumption
  · cases h
theorem isB_eq {x : Str} {id : String} (h : isB x id = true) : bootBuiltins x = some (.builtin id) := by
  unfold isB at h; split at h
  · rename_i e; rw [e, beq_iff_eq.mp h]
  · cases h
theorem isT_eq {x : Str} {id : String} (h : isT x id = true) : bootBuiltins x = some (.type id) := by
  unfold isT at h; split at h
  · rename_i e; rw [e, beq_iff_eq.mp h]
  · cases h
noncomputable def callK (sc : Scope) (x : Str) (es : List Expr) : Bool := es.all noStar && decide (sc.names.lookup x = some .globalImplicit) && !(x == ("__debug__" : Str))
theorem callK_eq {sc : Scope} {x : Str} {es : List Expr} (h : callK sc x es = true) : es.all noStar = true ∧ sc.names.lookup x = some .globalImplicit ∧ (x == ("__debug__" : Str)) = false := by
  unfold callK at h
  simp only [Bool.and_eq_true, Bool.not_eq_true', decide_eq_true_eq] at h
  exact ⟨h.1.1, h.1.2, h.2⟩
section
variable {Γ : Gd} {K : Frag} {mg mb : Str → Option Value} {k : Nat} {sc : Scope} {loc : Loc} {σ : Sto} {x : Str} {p pos : Pos} {es : List Expr} {P : AV → Sto → Prop}
theorem ev_calG (W : Wd Γ K mg mb) (f : Addr) (c : (callK sc x es && isG K x f && keepIn K (.ref f)) = true) (h : Evs Γ k sc es loc σ fun vs σ₂ => Cal Γ k (.ref f) vs σ₂ P) : Ev Γ k sc (.Call (.Name x p) es [] pos) loc σ P := by
  simp only [Bool.and_eq_true] at c
  exact ev_callG W f (callK_eq c.1.1).1 (callK_eq c.1.1).2.1 (isG_eq c.1.2) c.2 (callK_eq c.1.1).2.2 h
theorem ev_calB (W : Wd Γ K mg mb) (id : String) (c : (callK sc x es && isN K x && decide (x ≠ "__name__") && isB x id) = true) (h : Evs Γ k sc es loc σ fun vs σ₂ => Cal Γ k (.builtin id) vs σ₂ P) : Ev Γ k sc (.Call (.Name x p) es [] pos) loc σ P := by
  simp only [Bool.and_eq_true, decide_eq_true_eq] at c
  exact ev_callB W id (callK_eq c.1.1.1).1 (callK_eq c.1.1.1).2.1 (isN_eq c.1.1.2) c.1.2 (isB_eq c.2) (callK_eq c.1.1.1).2.2 h
theorem ev_calT (W : Wd Γ K mg mb) (id : String) (c : (callK sc x es && isN K x && decide (x ≠ "__name__") && isT x id) = true) (h : Evs Γ k sc es loc σ fun vs σ₂ => Cal Γ k (.type id) vs σ₂ P) : Ev Γ k sc (.Call (.Name x p) es [] pos) loc σ P := by
  simp only [Bool.and_eq_true, decide_eq_true_eq] at c
  exact ev_callT W id (callK_eq c.1.1.1).1 (callK_eq c.1.1.1).2.1 (isN_eq c.1.1.2) c.1.2 (isT_eq c.2) (callK_eq c.1.1.1).2.2 h
end
section
variable {Γ : Gd} {k : Nat} {sc : Scope} {loc loc' : Loc} {σ σ' : Sto} {target : Expr} {body : List Stmt} {P : AFl → Loc → Sto → Prop}
/-- loops by their turns; a turn sees nothing of what is behind the loop -/
theorem for_ind2 {ι α : Type} {src : Sto} (L : ι → Loc) (S : ι → Sto) (g : α → AV) (I : List α → ι → Prop) (hsrc : ∀ i, ∀ p ∈ src, p ∈ S i)
    (step : ∀ x xs i (P' : AFl → Loc → Sto → Prop) (A : Loc → Sto → Prop), (∀ j l σ', I xs j → Sub (L j) l → (S j).Sublist σ' → A l σ') → I (x :: xs) i → Asg Γ k sc target (g x) (L i) (S i) fun l₁ σ₁ => Exs Γ k sc body l₁ σ₁ (Turn P' A))
    (done : ∀ i, I [] i → P .next (L i) (S i)) (xs : List α) (i : ι) (h : I xs i) : For Γ k sc target body src (xs.map g) (L i) (S i) P :=
  for_ind L S g I hsrc (fun x xs i h => step x xs i P _ (fun j _ _ a b c => ⟨j, a, b, c⟩) h) done xs i h
theorem whl_ind2 {ι : Type} {test : Expr} (L : ι → Loc) (S : ι → Sto) (rank : ι → Nat) (X : ι → Prop)
    (step : ∀ i (P' : AFl → Loc → Sto → Prop) (A : Loc → Sto → Prop), (∀ j l σ', rank j < rank i → Sub (L j) l → (S j).Sublist σ' → A l σ') → Ts Γ k sc test (L i) (S i) fun b σ' => Both b (Exs Γ k sc body (L i) σ' (Turn P' A)) (X i ∧ σ' = S i))
    (done : ∀ i, X i → P .next (L i) (S i)) (i : ι) : Whl Γ k sc test body (L i) (S i) P :=
  whl_ind L S rank (fun i => ts_mono (step i P _ fun j _ _ a b c => ⟨j, a, b, c⟩) fun b σ' h => ⟨h.1, fun e => (h.2 e).2 ▸ done i (h.2 e).1⟩) i
/-- the same for a loop over iter(read, end): with one way out by 'return' -/
theorem forC_ind2 {ι : Type} {z : Str} {zp : Pos} {it : Addr} (L : ι → Loc) (S : ι → Sto) (rank : ι → Nat) (X : ι → Sto → Prop) (v0 : AV) (σ0 : Sto)
    (step : ∀ i (P' : AFl → Loc → Sto → Prop) (A : Loc → Sto → Prop), (∀ j l σ', rank j < rank i → Sub (L j) l → (S j).Sublist σ' → A l σ') → (∀ l σ', σ0.Sublist σ' → P' (.ret v0) l σ') → Nx Γ k it (S i) fun r σ₁ => match r with
      | none => X i σ₁
      | some v => Asg Γ k sc (.Name z zp) v (L i) σ₁ fun l σ₂ => Exs Γ k sc body l σ₂ (Turn P' A))
    (ret : ∀ l σ', σ0.Sublist σ' → P (.ret v0) l σ') (done : ∀ i σ₁, X i σ₁ → P .next (L i) σ₁) (i : ι) : ForC Γ k sc (.Name z zp) body it (L i) (S i) P := by
  refine forC_ind L S rank (fun i A κ s hA l R => wp_no (step i P (fun l σ' => ∃ j, rank j < rank i ∧ Sub (L j) l ∧ (S j).Sublist σ') (fun j _ _ a b c => ⟨j, a, b, c⟩) ret A κ s hA l R) fun r s' h => ?_) i
  obtain ⟨v, σ', h', tk, e, R', m, p⟩ := h
  refine ⟨v, σ', h', tk, e, R', m, ?_⟩
  cases v with
  | none => exact done i _ p
  | some v => exact p
theorem cmp_ind2 {ι α : Type} {elt iter : Expr} {scope : Scope} {pos : Pos} {src : Sto} {D : Addr} {P : Sto → Prop} (L : Loc) (S : ι → Sto) (g : α → AV) (I : List α → ι → Prop) (hsrc : ∀ i, ∀ p ∈ src, p ∈ S i)
    (step : ∀ x xs i (A : AV → Sto → Prop), (∀ y ys σ₃ σ₄ j, At σ₃ D (.list ys) (.list (ys ++ [y])) σ₄ → ys.length ≤ sizeLine → I xs j → σ₄ = S j → A y σ₃) → I (x :: xs) i → Asg Γ k sc target (g x) L (S i) fun l₁ σ₁ => Sub L l₁ ∧ Ev Γ k sc elt l₁ σ₁ A)
    (done : ∀ i, I [] i → P (S i)) (xs : List α) (i : ι) (h : I xs i) : Cmp Γ k sc target [] elt iter scope pos src D (xs.map g) L (S i) P :=
  cmp_ind L S g I hsrc (fun x xs i h A κ env s V hA le f R r => wpA (step x xs i (fun y σ₃ => ∃ ys j, At σ₃ D (.list ys) (.list (ys ++ [y])) (S j) ∧ ys.length ≤ sizeLine ∧ I xs j) (fun _ ys _ _ j a b c e => ⟨ys, j, e ▸ a, b, c⟩) h A κ env s V hA le f R r) fun l₁ σ₁ h' tk q R' p =>
    ⟨l₁, σ₁, h', tk, rfl, q, R', ev_mono p.2 fun y σ₃ z => z.elim fun ys z => z.elim fun j z => ⟨ys, S j, z.1, z.2.1, j, z.2.2, p.1, rfl⟩⟩) done xs i h
end
end Mine
namespace Mine
theorem a2 {a b g : Prop} (h : a ∧ b) (f : a → b → g) : g := f h.1 h.2
theorem a3 {a b c g : Prop} (h : a ∧ b ∧ c) (f : a → b → c → g) : g := f h.1 h.2.1 h.2.2
theorem a4 {a b c d g : Prop} (h : a ∧ b ∧ c ∧ d) (f : a → b → c → d → g) : g := f h.1 h.2.1 h.2.2.1 h.2.2.2
theorem a5 {a b c d e g : Prop} (h : a ∧ b ∧ c ∧ d ∧ e) (f : a → b → c → d → e → g) : g := f h.1 h.2.1 h.2.2.1 h.2.2.2.1 h.2.2.2.2
section
variable {Γ : Gd} {k : Nat} {sc : Scope} {loc loc' : Loc} {σ σ' : Sto} {target : Expr} {body : List Stmt} {P : AFl → Loc → Sto → Prop}
theorem whl_i {ι : Type} {test : Expr} (L : ι → Loc) (S : ι → Sto) (rank : ι → Nat) (I X : ι → Prop)
    (step : ∀ i (P' : AFl → Loc → Sto → Prop) (A : Loc → Sto → Prop), (∀ j l σ', I j → rank j < rank i → Sub (L j) l → (S j).Sublist σ' → A l σ') → I i → Ts Γ k sc test (L i) (S i) fun b σ' => Both b (Exs Γ k sc body (L i) σ' (Turn P' A)) (X i ∧ σ' = S i))
    (done : ∀ i, I i → X i → P .next (L i) (S i)) (i : ι) (h : I i) : Whl Γ k sc test body (L i) (S i) P :=
  whl_ind2 (ι := { i // I i }) (fun i => L i.1) (fun i => S i.1) (fun i => rank i.1) (fun i => X i.1) (fun i P' A hA => step i.1 P' A (fun j l σ' q => hA ⟨j, q⟩ l σ') i.2) (fun i => done i.1 i.2) ⟨i, h⟩
theorem forC_i {ι : Type} {z : Str} {zp : Pos} {it : Addr} (L : ι → Loc) (S : ι → Sto) (rank : ι → Nat) (I : ι → Prop) (X : Sto → Prop) (v0 : AV) (σ0 : Sto)
    (step : ∀ i (P' : AFl → Loc → Sto → Prop) (A : Loc → Sto → Prop), (∀ j l σ', I j → rank j < rank i → Sub (L j) l → (S j).Sublist σ' → A l σ') → (∀ l σ', σ0.Sublist σ' → P' (.ret v0) l σ') → I i → Nx Γ k it (S i) fun r σ₁ => match r with
      | none => X σ₁
      | some v => Asg Γ k sc (.Name z zp) v (L i) σ₁ fun l σ₂ => Exs Γ k sc body l σ₂ (Turn P' A))
    (ret : ∀ l σ', σ0.Sublist σ' → P (.ret v0) l σ') (done : ∀ i σ₁, X σ₁ → P .next (L i) σ₁) (i : ι) (h : I i) : ForC Γ k sc (.Name z zp) body it (L i) (S i) P :=
  forC_ind2 (ι := { i // I i }) (fun i => L i.1) (fun i => S i.1) (fun i => rank i.1) (fun _ => X) v0 σ0 (fun i P' A hA r => step i.1 P' A (fun j l σ' q => hA ⟨j, q⟩ l σ') r i.2) ret (fun i => done i.1) ⟨i, h⟩
theorem whl_c2 {α₁ α₂ : Type} {test : Expr} (L : α₁ → α₂ → Loc) (S : α₁ → α₂ → Sto) (rank : α₁ → α₂ → Nat) (I X : α₁ → α₂ → Prop)
    (step : ∀ a b (P' : AFl → Loc → Sto → Prop) (A : Loc → Sto → Prop), (∀ a' b' l σ', I a' b' → rank a' b' < rank a b → Sub (L a' b') l → (S a' b').Sublist σ' → A l σ') → I a b → Ts Γ k sc test (L a b) (S a b) fun t σ' => Both t (Exs Γ k sc body (L a b) σ' (Turn P' A)) (X a b ∧ σ' = S a b))
    (done : ∀ a b, I a b → X a b → P .next (L a b) (S a b)) (a b) (h : I a b) : Whl Γ k sc test body (L a b) (S a b) P :=
  whl_i (fun i => L i.1 i.2) (fun i => S i.1 i.2) (fun i => rank i.1 i.2) (fun i => I i.1 i.2) (fun i => X i.1 i.2) (fun i P' A hA h => step i.1 i.2 P' A (fun a' b' => hA (a', b')) h) (fun i => done i.1 i.2) (a, b) h
theorem whl_c3 {α₁ α₂ α₃ : Type} {test : Expr} (L : α₁ → α₂ → α₃ → Loc) (S : α₁ → α₂ → α₃ → Sto) (rank : α₁ → α₂ → α₃ → Nat) (I X : α₁ → α₂ → α₃ → Prop)
    (step : ∀ a b c (P' : AFl → Loc → Sto → Prop) (A : Loc → Sto → Prop), (∀ a' b' c' l σ', I a' b' c' → rank a' b' c' < rank a b c → Sub (L a' b' c') l → (S a' b' c').Sublist σ' → A l σ') → I a b c → Ts Γ k sc test (L a b c) (S a b c) fun t σ' => Both t (Exs Γ k sc body (L a b c) σ' (Turn P' A)) (X a b c ∧ σ' = S a b c))
    (done : ∀ a b c, I a b c → X a b c → P .next (L a b c) (S a b c)) (a b c) (h : I a b c) : Whl Γ k sc test body (L a b c) (S a b c) P :=
  whl_i (fun i => L i.1 i.2.1 i.2.2) (fun i => S i.1 i.2.1 i.2.2) (fun i => rank i.1 i.2.1 i.2.2) (fun i => I i.1 i.2.1 i.2.2) (fun i => X i.1 i.2.1 i.2.2) (fun i P' A hA h => step i.1 i.2.1 i.2.2 P' A (fun a' b' c' => hA (a', b', c')) h) (fun i => done i.1 i.2.1 i.2.2) (a, b, c) h
theorem whl_c5 {α₁ α₂ α₃ α₄ α₅ : Type} {test : Expr} (L : α₁ → α₂ → α₃ → α₄ → α₅ → Loc) (S : α₁ → α₂ → α₃ → α₄ → α₅ → Sto) (rank : α₁ → α₂ → α₃ → α₄ → α₅ → Nat) (I X : α₁ → α₂ → α₃ → α₄ → α₅ → Prop)
    (step : ∀ a b c d e (P' : AFl → Loc → Sto → Prop) (A : Loc → Sto → Prop), (∀ a' b' c' d' e' l σ', I a' b' c' d' e' → rank a' b' c' d' e' < rank a b c d e → Sub (L a' b' c' d' e') l → (S a' b' c' d' e').Sublist σ' → A l σ') → I a b c d e → Ts Γ k sc test (L a b c d e) (S a b c d e) fun t σ' => Both t (Exs Γ k sc body (L a b c d e) σ' (Turn P' A)) (X a b c d e ∧ σ' = S a b c d e))
    (done : ∀ a b c d e, I a b c d e → X a b c d e → P .next (L a b c d e) (S a b c d e)) (a b c d e) (h : I a b c d e) : Whl Γ k sc test body (L a b c d e) (S a b c d e) P :=
  whl_i (fun i => L i.1 i.2.1 i.2.2.1 i.2.2.2.1 i.2.2.2.2) (fun i => S i.1 i.2.1 i.2.2.1 i.2.2.2.1 i.2.2.2.2) (fun i => rank i.1 i.2.1 i.2.2.1 i.2.2.2.1 i.2.2.2.2) (fun i => I i.1 i.2.1 i.2.2.1 i.2.2.2.1 i.2.2.2.2) (fun i => X i.1 i.2.1 i.2.2.1 i.2.2.2.1 i.2.2.2.2) (fun i P' A hA h => step i.1 i.2.1 i.2.2.1 i.2.2.2.1 i.2.2.2.2 P' A (fun a' b' c' d' e' => hA (a', b', c', d', e')) h) (fun i => done i.1 i.2.1 i.2.2.1 i.2.2.2.1 i.2.2.2.2) (a, b, c, d, e) h
theorem whl_c6 {α₁ α₂ α₃ α₄ α₅ α₆ : Type} {test : Expr} (L : α₁ → α₂ → α₃ → α₄ → α₅ → α₆ → Loc) (S : α₁ → α₂ → α₃ → α₄ → α₅ → α₆ → Sto) (rank : α₁ → α₂ → α₃ → α₄ → α₅ → α₆ → Nat) (I X : α₁ → α₂ → α₃ → α₄ → α₅ → α₆ → Prop)
    (step : ∀ a b c d e f (P' : AFl → Loc → Sto → Prop) (A : Loc → Sto → Prop), (∀ a' b' c' d' e' f' l σ', I a' b' c' d' e' f' → rank a' b' c' d' e' f' < rank a b c d e f → Sub (L a' b' c' d' e' f') l → (S a' b' c' d' e' f').Sublist σ' → A l σ') → I a b c d e f → Ts Γ k sc test (L a b c d e f) (S a b c d e f) fun t σ' => Both t (Exs Γ k sc body (L a b c d e f) σ' (Turn P' A)) (X a b c d e f ∧ σ' = S a b c d e f))
    (done : ∀ a b c d e f, I a b c d e f → X a b c d e f → P .next (L a b c d e f) (S a b c d e f)) (a b c d e f) (h : I a b c d e f) : Whl Γ k sc test body (L a b c d e f) (S a b c d e f) P :=
  whl_i (fun i => L i.1 i.2.1 i.2.2.1 i.2.2.2.1 i.2.2.2.2.1 i.2.2.2.2.2) (fun i => S i.1 i.2.1 i.2.2.1 i.2.2.2.1 i.2.2.2.2.1 i.2.2.2.2.2) (fun i => rank i.1 i.2.1 i.2.2.1 i.2.2.2.1 i.2.2.2.2.1 i.2.2.2.2.2) (fun i => I i.1 i.2.1 i.2.2.1 i.2.2.2.1 i.2.2.2.2.1 i.2.2.2.2.2) (fun i => X i.1 i.2.1 i.2.2.1 i.2.2.2.1 i.2.2.2.2.1 i.2.2.2.2.2) (fun i P' A hA h => step i.1 i.2.1 i.2.2.1 i.2.2.2.1 i.2.2.2.2.1 i.2.2.2.2.2 P' A (fun a' b' c' d' e' f' => hA (a', b', c', d', e', f')) h) (fun i => done i.1 i.2.1 i.2.2.1 i.2.2.2.1 i.2.2.2.2.1 i.2.2.2.2.2) (a, b, c, d, e, f) h
theorem forC_c2 {α₁ α₂ : Type} {z : Str} {zp : Pos} {it : Addr} (L : α₁ → α₂ → Loc) (S : α₁ → α₂ → Sto) (rank : α₁ → α₂ → Nat) (I : α₁ → α₂ → Prop) (X : Sto → Prop) (v0 : AV) (σ0 : Sto)
    (step : ∀ a b (P' : AFl → Loc → Sto → Prop) (A : Loc → Sto → Prop), (∀ a' b' l σ', I a' b' → rank a' b' < rank a b → Sub (L a' b') l → (S a' b').Sublist σ' → A l σ') → (∀ l σ', σ0.Sublist σ' → P' (.ret v0) l σ') → I a b → Nx Γ k it (S a b) fun r σ₁ => match r with
      | none => X σ₁
      | some v => Asg Γ k sc (.Name z zp) v (L a b) σ₁ fun l σ₂ => Exs Γ k sc body l σ₂ (Turn P' A))
    (ret : ∀ l σ', σ0.Sublist σ' → P (.ret v0) l σ') (done : ∀ a b σ₁, X σ₁ → P .next (L a b) σ₁) (a b) (h : I a b) : ForC Γ k sc (.Name z zp) body it (L a b) (S a b) P :=
  forC_i (fun i => L i.1 i.2) (fun i => S i.1 i.2) (fun i => rank i.1 i.2) (fun i => I i.1 i.2) X v0 σ0 (fun i P' A hA r h => step i.1 i.2 P' A (fun a' b' => hA (a', b')) r h) ret (fun i => done i.1 i.2) (a, b) h
theorem forC_c4 {α₁ α₂ α₃ α₄ : Type} {z : Str} {zp : Pos} {it : Addr} (L : α₁ → α₂ → α₃ → α₄ → Loc) (S : α₁ → α₂ → α₃ → α₄ → Sto) (rank : α₁ → α₂ → α₃ → α₄ → Nat) (I : α₁ → α₂ → α₃ → α₄ → Prop) (X : Sto → Prop) (v0 : AV) (σ0 : Sto)
    (step : ∀ a b c d (P' : AFl → Loc → Sto → Prop) (A : Loc → Sto → Prop), (∀ a' b' c' d' l σ', I a' b' c' d' → rank a' b' c' d' < rank a b c d → Sub (L a' b' c' d') l → (S a' b' c' d').Sublist σ' → A l σ') → (∀ l σ', σ0.Sublist σ' → P' (.ret v0) l σ') → I a b c d → Nx Γ k it (S a b c d) fun r σ₁ => match r with
      | none => X σ₁
      | some v => Asg Γ k sc (.Name z zp) v (L a b c d) σ₁ fun l σ₂ => Exs Γ k sc body l σ₂ (Turn P' A))
    (ret : ∀ l σ', σ0.Sublist σ' → P (.ret v0) l σ') (done : ∀ a b c d σ₁, X σ₁ → P .next (L a b c d) σ₁) (a b c d) (h : I a b c d) : ForC Γ k sc (.Name z zp) body it (L a b c d) (S a b c d) P :=
  forC_i (fun i => L i.1 i.2.1 i.2.2.1 i.2.2.2) (fun i => S i.1 i.2.1 i.2.2.1 i.2.2.2) (fun i => rank i.1 i.2.1 i.2.2.1 i.2.2.2) (fun i => I i.1 i.2.1 i.2.2.1 i.2.2.2) X v0 σ0 (fun i P' A hA r h => step i.1 i.2.1 i.2.2.1 i.2.2.2 P' A (fun a' b' c' d' => hA (a', b', c', d')) r h) ret (fun i => done i.1 i.2.1 i.2.2.1 i.2.2.2) (a, b, c, d) h
theorem for_c2 {β α₁ α₂ : Type} {src : Sto} (L : α₁ → α₂ → Loc) (S : α₁ → α₂ → Sto) (g : β → AV) (I : List β → α₁ → α₂ → Prop) (hsrc : ∀ a b, ∀ p ∈ src, p ∈ S a b)
    (step : ∀ x xs a b (P' : AFl → Loc → Sto → Prop) (A : Loc → Sto → Prop), (∀ a' b' l σ', I xs a' b' → Sub (L a' b') l → (S a' b').Sublist σ' → A l σ') → I (x :: xs) a b → Asg Γ k sc target (g x) (L a b) (S a b) fun l₁ σ₁ => Exs Γ k sc body l₁ σ₁ (Turn P' A))
    (done : ∀ a b, I [] a b → P .next (L a b) (S a b)) (xs : List β) (a b) (h : I xs a b) : For Γ k sc target body src (xs.map g) (L a b) (S a b) P :=
  for_ind2 (fun i => L i.1 i.2) (fun i => S i.1 i.2) g (fun xs i => I xs i.1 i.2) (fun i => hsrc i.1 i.2) (fun x xs i P' A hA h => step x xs i.1 i.2 P' A (fun a' b' => hA (a', b')) h) (fun i => done i.1 i.2) xs (a, b) h
theorem cmp_c4 {β α₁ α₂ α₃ α₄ : Type} {elt iter : Expr} {scope : Scope} {pos : Pos} {src : Sto} {D : Addr} {P : Sto → Prop} (L : Loc) (S : α₁ → α₂ → α₃ → α₄ → Sto) (g : β → AV) (I : List β → α₁ → α₂ → α₃ → α₄ → Prop) (hsrc : ∀ a b c d, ∀ p ∈ src, p ∈ S a b c d)
    (step : ∀ x xs a b c d (A : AV → Sto → Prop), (∀ y ys σ₃ σ₄ a' b' c' d', At σ₃ D (.list ys) (.list (ys ++ [y])) σ₄ → ys.length ≤ sizeLine → I xs a' b' c' d' → σ₄ = S a' b' c' d' → A y σ₃) → I (x :: xs) a b c d → Asg Γ k sc target (g x) L (S a b c d) fun l₁ σ₁ => Sub L l₁ ∧ Ev Γ k sc elt l₁ σ₁ A)
    (done : ∀ a b c d, I [] a b c d → P (S a b c d)) (xs : List β) (a b c d) (h : I xs a b c d) : Cmp Γ k sc target [] elt iter scope pos src D (xs.map g) L (S a b c d) P :=
  cmp_ind2 L (fun i => S i.1 i.2.1 i.2.2.1 i.2.2.2) g (fun xs i => I xs i.1 i.2.1 i.2.2.1 i.2.2.2) (fun i => hsrc i.1 i.2.1 i.2.2.1 i.2.2.2) (fun x xs i A hA h => step x xs i.1 i.2.1 i.2.2.1 i.2.2.2 A (fun y ys σ₃ σ₄ a' b' c' d' => hA y ys σ₃ σ₄ (a', b', c', d')) h) (fun i => done i.1 i.2.1 i.2.2.1 i.2.2.2) xs (a, b, c, d) h
end
end Mine
namespace Mine
theorem left_of {p q : Program} {loose : List Str} {Xt : Shared → Bool} {α : Type} {Yf : Shared → α} {Ya : World → α} {N : Nat} {g0 : Bool} {H₀ : Params → Heap} {gs₀ : Array GenState} {d₀ : Drawn} {k₀ : Nat}
    (open_ : ∀ w : World, (fencedOpening treeTable p w N).map (fun s => (s.heap, s.gens, s.drawn, s.toks)) = some (H₀ w.params, gs₀, d₀, k₀))
    (run : ∀ (w : World) (os : OsState), (topFrom treeTable p w N ⟨H₀ w.params, gs₀, d₀, k₀, os⟩).map (fun s => (openSeen q loose (importedModules p.main.body) Xt g0 s, Yf s)) = some (openGood q loose, Ya w)) : LeftO p q loose Xt Yf Ya N g0 := fun w => by
  obtain ⟨⟨h, gs, d, k, os⟩, e, e'⟩ := Option.map_eq_some_iff.mp (open_ w)
  obtain ⟨rfl, rfl, rfl, rfl⟩ : h = H₀ w.params ∧ gs = gs₀ ∧ d = d₀ ∧ k = k₀ := by simpa using e'
  unfold openEnds
  rw [e]
  exact run w os
noncomputable abbrev vw : Program := view PySem.Challenge.pw_pg0050_01 [1, 3, 5, 6, 7, 8, 9, 10, 11, 12, 13, 14]
local macro_rules | `(tactic| o_law) => `(tactic| refine holds_law (by decide +kernel) fun said => ?_)
local macro_rules | `(tactic| o_head $H) => `(tactic| (
  refine holds_open (q := vw) (loose := []) (Xt := fun s => xlAt vw [] s && recOk (RowW.records (OpenRow.toRowW (OpenLaw.row PySem.Challenge.rw_pg0050_01))) s) (XP := XL vw []) (Yf := Hook.obs $H) (Ya := Hook.val $H) (YP := Hook.says $H) (N := 1526) ?hl (Hook.of $H) (Hook.keeps $H) (fun s e => xl_of s (Bool.and_eq_true_iff.mp e).1) XL.keeps (by rfl) (by rfl) (by rfl) (fun s e => recFacts_of (Bool.and_eq_true_iff.mp e).2) (by rfl) (by assumption) (by decide +kernel) ⟨rfl, rfl, rfl, rfl, rfl, by decide +kernel⟩ ?hw ?hc
  (case hl => exact left_of (boot_open (by kernel_rfl) (by decide) (fun _ => by kernel_rfl)) (fun w os => by kernel_rfl))))
open_top hd for PySem.Challenge.rw_pg0050_01
end Mine
noncomputable section
namespace Mine
local macro_rules | `(tactic| walk_at "mem") => `(tactic| (repeat (first | exact List.Mem.head _ | assumption | refine List.Mem.tail _ ?_)))
local macro_rules | `(tactic| walk_at "a") => `(tactic| with_reducible first
  | refine exs_cons ?_
  | refine exs_nil ?_
  | refine ex_return ?_
  | refine ex_if ?_
  | refine ex_while ?_
  | refine ex_continue ?_
  | refine ev_int ?_
  | refine ev_str ?_
  | refine ev_bytes ?_
  | refine ev_binop ?_
  | refine ev_list ?_
  | refine ev_tuple ?_
  | refine ev_slice ?_
  | refine evO_none ?_
  | refine evO_some ?_
  | refine ev_or2 ?_
  | refine evs_nil ?_
  | refine asg_attr ?_
  | refine asg_item ?_
  | refine asgL_nil ?_
  | refine ts_bool ?_
  | refine tsl_and_cons ?_
  | refine tsl_and_nil ?_
  | refine tr_int ?_
  | refine tr_bool ?_
  | refine op_add ?_
  | refine op_sub ?_
  | refine op_ne ?_
  | refine op_lt ?_
  | refine op_le ?_
  | refine op_gt ?_
  | refine op_eq_str ?_
  | refine op_in_str ?_)
local macro_rules | `(tactic| walk_at "m") => `(tactic| first
  | walk_at "a"
  | with_reducible refine ex_expr ?_ (fun _ _ => by kernel_rfl!)
  | with_reducible refine ex_assign ?_ (fun _ _ => by kernel_rfl!) (fun _ _ => by kernel_rfl!) (fun _ => by kernel_rfl!)
  | ((with_reducible refine ex_aug_name (a := ?v0) ?hk ?hv ?_); (case hk => kernel_rfl!); (case hv => exact rfl))
  | ((with_reducible refine ev_local (v := ?v0) ?hk ?hv ?_ ?hd); (case hk => kernel_rfl!); (case hv => exact rfl); (case hd => kernel_rfl!))
  | ((with_reducible refine ev_cell (v := ?v0) ?hk ?hv ?_ ?hd); (case hk => kernel_rfl!); (case hv => exact rfl); (case hd => kernel_rfl!))
  | ((with_reducible refine ev_free (v := ?v0) ?hk ?hv ?_ ?hd ?hn); (case hk => kernel_rfl!); (case hv => exact rfl); (case hd => kernel_rfl!); (case hn => kernel_rfl!))
  | with_reducible refine ev_compare ?_ (by kernel_rfl!)
  | with_reducible refine ev_listcompB (by kernel_rfl!) (by kernel_rfl!) (by kernel_rfl!) (by kernel_rfl!) (by kernel_rfl!) ?_ (fun _ _ => by kernel_rfl!)
  | with_reducible refine evs_cons ?_ (by kernel_rfl!)
  | with_reducible refine ev_item ?_ (fun _ _ => by kernel_rfl!)
  | with_reducible refine asg_name (.inl (by kernel_rfl!)) ?_
  | with_reducible refine asg_name (.inr ⟨by kernel_rfl!, by kernel_rfl!⟩) ?_
  | with_reducible refine asg_tuple ?_ (by kernel_rfl!) (fun _ => by kernel_rfl!)
  | with_reducible refine asgL_cons ?_ (fun _ => by kernel_rfl!)
  | with_reducible refine ev_method (by kernel_rfl!) (fun _ => by kernel_rfl!) (by decide) (by kernel_rfl!) ?_
  | with_reducible refine ev_attr ?_ (fun _ => by kernel_rfl!)
  | with_reducible refine ts_compare ?_ (by kernel_rfl!)
  | with_reducible refine ts_value ?_ (fun _ _ => by kernel_rfl!)
  | with_reducible refine ev_calB (by assumption) "abs" (by kernel_rfl!) ?_
  | with_reducible refine ev_calB (by assumption) "divmod" (by kernel_rfl!) ?_
  | with_reducible refine ev_calB (by assumption) "ord" (by kernel_rfl!) ?_
  | with_reducible refine ev_calB (by assumption) "len" (by kernel_rfl!) ?_
  | with_reducible refine ev_calB (by assumption) "iter" (by kernel_rfl!) ?_
  | with_reducible refine ev_calB (by assumption) "sorted" (by kernel_rfl!) ?_
  | with_reducible refine ev_calT (by assumption) "int" (by kernel_rfl!) ?_
  | with_reducible refine ev_calT (by assumption) "range" (by kernel_rfl!) ?_
  | with_reducible refine ev_calT (by assumption) "zip" (by kernel_rfl!) ?_)
local macro_rules | `(tactic| walk_at "g") => `(tactic| repeat (walk_at "m"))
abbrev KK (pp : Params) : Frag := Mine.hd.heap_1 pp
variable {Γ : Gd} {k : Nat} {σ : Sto} {mg mb : Str → Option Value} {pp : Params}
theorem ok_ap (X : (KK pp).In Γ.hB) : FnOk Γ 21 (fdOf (KK pp) 21) (bodyOf (fdOf (KK pp) 21)) ["num"] := fnOkB X (by kernel_rfl!) (bind1 fun _ => by kernel_rfl!)
/-- the letters of a number -/
noncomputable def ap (n : Nat) : List UInt8 := if h : n = 0 then [] else ap (n / 16) ++ [UInt8.ofNat (65 + n % 16)]
termination_by n
decreasing_by omega
theorem ap_zero : ap 0 = [] := by unfold ap; rfl
theorem ap_pos {n : Nat} (h : n ≠ 0) : ap n = ap (n / 16) ++ [UInt8.ofNat (65 + n % 16)] := by rw [ap]; simp [h]
theorem ap_len (n : Nat) : ∀ m, n < 16 ^ m → (ap n).length ≤ m := by
  intro m
  induction m generalizing n with
  | zero => intro h; have : n = 0 := by simpa using h
            subst this; simp [ap_zero]
  | succ m ih =>
    intro h
    by_cases hn : n = 0
    · subst hn; simp [ap_zero]
    · rw [ap_pos hn, List.length_append]
      have := ih (n / 16) (by rw [Nat.pow_succ] at h; omega)
      simp; omega
theorem ap_pick : ∀ m : Nat, m < 16 → pick [65, 66, 67, 68, 69, 70, 71, 72, 73, 74, 75, 76, 77, 78, 79, (80 : UInt8)] (some m) (some (m + 1)) = [UInt8.ofNat (65 + m)] := by decide +kernel
theorem int2ap (W : Wd Γ (KK pp) mg mb) {n : Int} (hn : n.natAbs < 16 ^ 100) {P : AV → Sto → Prop} (p : P (.bytes (ap n.natAbs).toArray) σ) : CalC Γ (k + 1) (.ref 21) [.int n] σ P := by
  refine fn_defB W.ok (ok_ap W.X) rfl (by kernel_rfl) (by kernel_rfl) ?_
  refine exs_cons ?_
  walk_at "g"
  refine cal_abs ?_
  walk_at "g"
  refine cal_int ?_
  walk_at "g"
  have e : (if n < 0 then -n else n) = (n.natAbs : Int) := by split <;> omega
  rw [e]
  refine whl_sub (whl_c2 (I := fun (m : Nat) (val : List UInt8) => ap m ++ val = ap n.natAbs) (L := fun (m : Nat) (val : List UInt8) => [("val", .bytes val.toArray), ("AP", .bytes [65, 66, 67, 68, 69, 70, 71, 72, 73, 74, 75, 76, 77, 78, 79, (80 : UInt8)].toArray), ("num", .int m)]) (S := fun _ _ => σ) (rank := fun (m : Nat) _ => m) (X := fun m _ => m = 0) ?_ ?_ n.natAbs [] (by simp)) (sub_cons rfl (sub_cons rfl (sub_cons rfl sub_nil))) (.refl _)
  · intro m val P' A hA hi
    walk_at "g"
    refine ⟨fun hb => ?_, fun hb => ⟨by simpa using hb, rfl⟩⟩
    have hm : m ≠ 0 := by intro h; subst h; simp at hb
    walk_at "g"
    refine cal_divmod (by decide) (by decide) ?_
    walk_at "g"
    refine ⟨_, rfl, ?_⟩
    walk_at "g"
    refine ⟨_, rfl, plain_bytes, slc_bytes (by decide) ?_⟩
    have e1 : ((m : Int) % 16) = ((m % 16 : Nat) : Int) := by omega
    have e2 : ((m : Int) / 16) = ((m / 16 : Nat) : Int) := by omega
    rw [e1, e2]
    rw [show (([65, 66, 67, 68, 69, 70, 71, 72, 73, 74, 75, 76, 77, 78, 79, (80 : UInt8)].toArray).toList) = [65, 66, 67, 68, 69, 70, 71, 72, 73, 74, 75, 76, 77, 78, 79, (80 : UInt8)] from rfl, ap_pick _ (Nat.mod_lt _ (by decide))]
    walk_at "g"
    have hlen : val.length ≤ 100 := by
      have := congrArg List.length hi
      have h2 := ap_len n.natAbs 100 hn
      rw [List.length_append] at this; omega
    refine op_add_bytes (by simp; omega) ?_
    walk_at "g"
    refine hA (m / 16) (UInt8.ofNat (65 + m % 16) :: val) _ _ ?_ (by omega) (sub_cons (by simp [lookup_lset]) (sub_cons rfl (sub_cons rfl sub_nil))) (.refl _)
    rw [← hi, ap_pos hm]; simp
  · rintro m val hi rfl
    walk_at "g"
    refine drp ?_
    rw [ap_zero] at hi
    simp only [List.nil_append] at hi
    rw [hi]
    exact p
theorem ok_fig (X : (KK pp).In Γ.hB) : FnOk Γ 70 (fdOf (KK pp) 70) (bodyOf (fdOf (KK pp) 70)) ["number", "bases"] := fnOkB X (by kernel_rfl!) (bind2 fun _ _ => by kernel_rfl!)
noncomputable def figs (x : Int) : List Int → List Int
  | [] => []
  | b :: bs => x % b :: figs (x / b) bs
theorem figs_length (x : Int) (bs : List Int) : (figs x bs).length = bs.length := by
  induction bs generalizing x with
  | nil => rfl
  | cons b bs ih => simp [figs, ih]
theorem fig (W : Wd Γ (KK pp) mg mb) {x : Int} {b : Addr} {bases : List Int} (hb : ∀ b ∈ bases, 0 < b ∧ b < 1073741824) (hl : bases.length < 1000) (hm : (b, .list (bases.map .int)) ∈ σ) {P : AV → Sto → Prop} (p : ∀ a, P (.ref a) ((a, .list ((figs x bases).map .int)) :: σ)) : CalC Γ (k + 1) (.ref 70) [.int x, .ref b] σ P := by
  refine fn_defB W.ok (ok_fig W.X) rfl (by kernel_rfl) (by kernel_rfl) ?_
  refine exs_cons ?_
  walk_at "g"
  refine ⟨by decide, fun a => ?_⟩
  walk_at "g"
  refine ex_for ?_ (fun _ _ => rfl)
  walk_at "g"
  refine ⟨_, _, mk_list (.name _ _) (.tail _ hm), fun p hp => by rw [List.mem_singleton.mp hp]; exact .tail _ hm, ?_⟩
  refine for_sub (loc' := [("number", .int x), ("figures", .ref a)]) (for_ind2 (ι := Int × List Int) (L := fun i => [("number", .int i.1), ("figures", .ref a)]) (S := fun i => (a, .list (i.2.map .int)) :: σ) (g := .int) (I := fun xs i => i.2 ++ figs i.1 xs = figs x bases ∧ ∀ b ∈ xs, 0 < b ∧ b < 1073741824) ?_ ?_ ?_ bases (x, []) ⟨rfl, hb⟩) (sub_cons rfl (sub_cons rfl sub_nil)) (.refl _) ?_
  · intro i p hp; rw [List.mem_singleton.mp hp]; exact .tail _ hm
  · intro y ys ⟨n, acc⟩ P' A hA ⟨h1, h2⟩
    have hy := h2 y (.head _)
    walk_at "g"
    refine ⟨_, _, gm_append (.head _), ?_⟩
    walk_at "g"
    refine op_mod hy.1 ?_
    walk_at "g"
    refine ⟨kpr_builtin, cal_append .head ?_ ⟨rfl, ?_⟩⟩
    · have := congrArg List.length h1
      simp only [List.length_append, figs_length, List.length_cons, List.length_map, sizeLine_eq] at this ⊢
      omega
    walk_at "g"
    refine op_fdiv hy.1 hy.2 ?_
    walk_at "g"
    refine hA (n / y, acc ++ [n % y]) _ _ ⟨?_, fun b hb => h2 b (.tail _ hb)⟩ (sub_cons rfl (sub_cons rfl sub_nil)) ?_
    · rw [← h1]; simp [figs]
    · simp
  · intro ⟨n, acc⟩ ⟨h1, _⟩
    walk_at "g"
    refine drp ?_
    have h1 : acc ++ [] = figs x bases := h1
    rw [List.append_nil] at h1
    subst h1
    exact p a
  · intro p hp; rw [List.mem_singleton.mp hp]; exact .tail _ hm
/-- the inner def of the stream's maker -/
noncomputable def rdStmt (pp : Params) : Stmt := (bodyOf (fdOf (KK pp) 77)).getD 1 (.Pass ⟨0, 0, 0, 0⟩)
noncomputable def rdBody (pp : Params) : List Stmt := match rdStmt pp with
  | .FunctionDef _ _ b _ _ _ _ _ _ _ => b
  | _ => []
noncomputable def rdScope (pp : Params) : Scope := match rdStmt pp with
  | .FunctionDef _ _ _ _ _ _ s _ _ _ => s
  | _ => default
noncomputable def rdArgs (pp : Params) : Arguments := match rdStmt pp with
  | .FunctionDef _ a _ _ _ _ _ _ _ _ => a
  | _ => default
/-- a stream that reads a text -/
structure Strm (pp : Params) (ρ : Sto) (st cx cy : Addr) : Prop where
  ex : ∃ sd rd rc ost orc fdS qual doc pm ctv vs t, (st, AO.obj ost) ∈ ρ ∧ ost.cls = .type "function" ∧ ost.data = .func fdS ∧ ost.dict = some sd ∧ (sd, AO.ns [("read", .ref rd)]) ∈ ρ ∧
    (rd, AO.obj (fnMade "_law_read" qual (rdArgs pp) (rdBody pp) (rdScope pp) [(("text" : Str), cx), (("place" : Str), cy)] doc pm rc ctv)) ∈ ρ ∧ (rc, AO.obj orc) ∈ ρ ∧ orc.data = .fields vs ∧ vs[1]? = some (.str qual t)
theorem Strm.cons {ρ : Sto} {st cx cy : Addr} (S : Strm pp ρ st cx cy) (p : Addr × AO) : Strm pp (p :: ρ) st cx cy :=
  let ⟨sd, rd, rc, ost, orc, fdS, qual, doc, pm, ctv, vs, t, a, b, c, d, e, f, g, h⟩ := S.ex
  ⟨sd, rd, rc, ost, orc, fdS, qual, doc, pm, ctv, vs, t, .tail _ a, b, c, d, .tail _ e, .tail _ f, .tail _ g, h⟩
theorem ok_stream (X : (KK pp).In Γ.hB) : FnOk Γ 77 (fdOf (KK pp) 77) (bodyOf (fdOf (KK pp) 77)) ["text"] := fnOkB X (by kernel_rfl!) (bind1 fun _ => by kernel_rfl!)
theorem stream (W : Wd Γ (KK pp) mg mb) (M : MkOk Γ mg mb 76 72) {text : Str} {P : AV → Sto → Prop}
    (p : ∀ st pl cx cy ρ ps, Strm pp ρ st cx cy → P (.tup [.ref st, .ref pl]) ((cx, .cell (.str text)) :: (cy, .cell (.ref pl)) :: (ρ ++ (pl, .list [.int 0]) :: (72, .obj (tabObj ps)) :: σ))) : CalC Γ (k + 1) (.ref 77) [.str text] ((72, .obj (tabObj #[])) :: σ) P := by
  refine fn_cells2 (x := "text") (y := "place") W.ok (ok_stream W.X) rfl (locB2 (by kernel_rfl)) (by kernel_rfl) (by kernel_rfl) (by decide) fun n cx cy ex ey => ?_
  refine exsF_cons ?_
  walk_at "g"
  refine ⟨by decide, fun pl => ?_⟩
  walk_at "g"
  show ExsF _ _ _ _ _ _ _ _ _
  have ecl : closL (cellsFrom n (fdOf (KK pp) 77).scope.names []) (rdScope pp).names [] = [(("text" : Str), cx), (("place" : Str), cy)] := by
    have e0 : closL (cellsFrom n (fdOf (KK pp) 77).scope.names []) (rdScope pp).names [] = [(("text" : Str), ((cellsFrom n (fdOf (KK pp) 77).scope.names []).lookup ("text" : Str)).getD 0), (("place" : Str), ((cellsFrom n (fdOf (KK pp) 77).scope.names []).lookup ("place" : Str)).getD 0)] := by kernel_rfl!
    rw [e0, ex, ey]; rfl
  refine exsF_def (ps := #[]) M (by kernel_rfl!) trivial (by kernel_rfl!) (fun c' => .tail .head) (fun x hx => ?_) (by kernel_rfl!) (by kernel_rfl!) (fun _ => by kernel_rfl!) (by kernel_rfl!) fun f c' oc vs t ctv doc pm qual d1 d2 => ?_
  · have hx' : (x, NameKind.free) ∈ (rdScope pp).names := hx
    have e1 : ∀ y : Str × NameKind, y ∈ (rdScope pp).names → y.2 = .free → y.1 = ("text" : Str) ∨ y.1 = ("place" : Str) := by
      intro y hy
      have e2 : (rdScope pp).names = [(("size" : Str), NameKind.local), (("piece" : Str), NameKind.local), (("place" : Str), NameKind.free), (("text" : Str), NameKind.free), (("len" : Str), NameKind.globalImplicit)] := by kernel_rfl!
      rw [e2] at hy
      simp only [List.mem_cons, List.not_mem_nil, or_false] at hy
      rcases hy with rfl | rfl | rfl | rfl | rfl <;> intro h <;> first | (exact .inl rfl) | (exact .inr rfl) | (cases h)
    rcases e1 _ hx' rfl with e | e
    · dsimp only at e; subst e; exact ⟨_, ex⟩
    · dsimp only at e; subst e; exact ⟨_, ey⟩
  refine exsF_lam (ps := #[rawInt _, rawInt _, .ref c']) M (by kernel_rfl!) trivial ?_ (fun c' => .tail (.tail (.tail .head))) (fun x hx => by cases hx) (fun _ => by kernel_rfl!) (by kernel_rfl!) (fun _ _ => by kernel_rfl!) (fun _ _ => by kernel_rfl!) fun f2 c2 oc2 vs2 t2 ctv2 pm2 qual2 g1 g2 => ?_
  · simp [codeAmong, rawInt]
  refine exsF_of ?_
  walk_at "g"
  refine st_fnread rfl rfl rfl (fun d => .head) fun d => ?_
  walk_at "g"
  refine ⟨by rw [sizeLine_eq]; simp, ?_⟩
  walk_at "g"
  refine ⟨_, _, rfl, rfl, ?_⟩
  refine drp ?_
  refine p f2 pl cx cy [(d, _), (f2, _), (c2, _), (f, _), (c', _)] _ ?_
  refine ⟨⟨d, f, c', _, oc, _, qual, doc, pm, ctv, vs, t, .tail _ (.head _), rfl, rfl, rfl, .head _, ?_, .tail _ (.tail _ (.tail _ (.tail _ (.head _)))), d1, d2⟩⟩
  rw [← ecl]
  exact .tail _ (.tail _ (.tail _ (.head _)))
theorem cls_ok : ClsOk (KK pp) 59 where
  ga := by kernel_rfl!
  sa := by kernel_rfl!
  gat := by kernel_rfl!
  over := by kernel_rfl!
  hd := by kernel_rfl!
  makes := by kernel_rfl!
abbrev nsL (ln : Int) (st pb : Addr) : List (Str × AV) := [("lineno", .int ln), ("instream", .ref st), ("whitespace", .str "\n\t\r "), ("pushback", .ref pb)]
theorem ok_init (X : (KK pp).In Γ.hB) : FnOk Γ 35 (fdOf (KK pp) 35) (bodyOf (fdOf (KK pp) 35)) ["self", "fp"] := fnOkB X (by kernel_rfl!) (bind2 fun _ _ => by kernel_rfl!)
theorem lex_init (W : Wd Γ (KK pp) mg mb) {x d st : Addr} {P : AV → Sto → Prop} (p : ∀ pb, P (.ref x) ((pb, .list []) :: (x, .inst 59 d) :: (d, .ns (nsL 1 st pb)) :: σ)) : CalC Γ (k + 1) (.ref 35) [.ref x, .ref st] ((x, .inst 59 d) :: (d, .ns []) :: σ) fun v σ' => v = .none ∧ P (.ref x) σ' := by
  refine fn_defB W.ok (ok_init W.X) rfl (by kernel_rfl!) (by kernel_rfl!) ?_
  refine exs_cons ?_
  walk_at "g"
  refine st_own W.X cls_ok (.head _) (.tail .head) (by simp) (by kernel_rfl!) ?_
  walk_at "g"
  refine st_own W.X cls_ok (.head _) (.tail .head) (by show (1 : Nat) < 1000; decide) (by kernel_rfl!) ?_
  walk_at "g"
  refine st_own W.X cls_ok (.head _) (.tail .head) (by show (2 : Nat) < 1000; decide) (by kernel_rfl!) ?_
  walk_at "g"
  refine ⟨by rw [sizeLine_eq]; simp, fun pb => ?_⟩
  walk_at "g"
  refine st_own W.X cls_ok (.tail _ (.head _)) (.tail (.tail .head)) (by show (3 : Nat) < 1000; decide) (by kernel_rfl!) ?_
  walk_at "g"
  exact drp ⟨rfl, p pb⟩
theorem lex_make (W : Wd Γ (KK pp) mg mb) {st : Addr} {P : AV → Sto → Prop} (p : ∀ x d pb, P (.ref x) ((pb, .list []) :: (x, .inst 59 d) :: (d, .ns (nsL 1 st pb)) :: σ)) : Cal Γ (k + 2) (.ref 59) [.ref st] σ P :=
  cal_make W.X cls_ok (by kernel_rfl!) (by kernel_rfl!) fun x d => lex_init W fun pb => p x d pb
/-- one letter, or none -/
theorem pick_one (t : List Nat) (p : Nat) (hp : p ≤ t.length) : pick t (some p) (some (p + 1)) = (t.drop p).take 1 := by
  unfold pick
  have e1 : clipAt t.length (p : Int) = p := by unfold clipAt; omega
  simp only [Option.elim, e1]
  by_cases h : p < t.length
  · have e2 : clipAt t.length ((p : Int) + 1) = p + 1 := by unfold clipAt; omega
    rw [e2]; congr 1; omega
  · have e3 : t.drop p = [] := by simp; omega
    rw [e3]; simp
theorem read_one (W : Wd Γ (KK pp) mg mb) {st cx cy pl : Addr} {ρ τ τ' : Sto} {t : List Nat} {p : Nat} (S : Strm pp ρ st cx cy) (hρ : ∀ z ∈ ρ, z ∈ τ) (ht : t.length ≤ 1000000) (hp : p ≤ t.length) (hat : At τ pl (.list [.int p]) (.list [.int ((p + ((t.drop p).take 1).length : Nat) : Int)]) τ') : ∃ rd, GM Γ "read" (.ref st) ((cx, .cell (.str (ofL t))) :: (cy, .cell (.ref pl)) :: τ) (.ref rd) [] ∧ Kpr Γ ((cx, .cell (.str (ofL t))) :: (cy, .cell (.ref pl)) :: τ) (.ref rd) ∧ ∀ P : AV → Sto → Prop, P (.str (ofL ((t.drop p).take 1))) ((cx, .cell (.str (ofL t))) :: (cy, .cell (.ref pl)) :: τ') → CalC Γ (k + 1) (.ref rd) [.int 1] ((cx, .cell (.str (ofL t))) :: (cy, .cell (.ref pl)) :: τ) P := by
  obtain ⟨sd, rd, rc, ost, orc, fdS, qual, doc, pm, ctv, vs, tk, a, b, c, d, e, f, g, h1, h2⟩ := S.ex
  refine ⟨rd, gm_fnread (.tail _ (.tail _ (hρ _ a))) b c d (.tail _ (.tail _ (hρ _ e))) rfl, kpr_obj (.tail _ (.tail _ (hρ _ f))) rfl, fun P q => ?_⟩
  refine fn_clo (x := "text") (y := "place") (names := ["size"]) (body := rdBody pp) W.ok { data := rfl, hb := rfl, code := rfl, crec := ⟨vs, tk, h1, h2⟩, bind := ?_, nodup := by decide, glob := rfl, blt := rfl, co := by kernel_rfl!, gen := by kernel_rfl!, kind := by kernel_rfl!, clx := rfl, cly := rfl } (hρ _ f) (hρ _ g) rfl (locB (by kernel_rfl!)) (cellB (by kernel_rfl!)) (by kernel_rfl!) (by kernel_rfl!) ?_
  · intro Xs h
    match Xs, h with
    | [a], _ => kernel_rfl!
  show Exs Γ k (rdScope pp) _ _ _ _
  refine exs_cons ?_
  walk_at "g"
  have hm := hat.mem
  refine ⟨plain_list hm, get_list hm (by decide) (by decide) rfl ⟨_, rfl, ?_⟩⟩
  walk_at "g"
  refine ⟨plain_list hm, get_list hm (by decide) (by decide) rfl ?_⟩
  walk_at "g"
  refine ⟨_, rfl, plain_str, slc_str (by rw [ofL_length, sizeLine_eq]; omega) ?_⟩
  have e0 : (ofL t).cps.toList = t := by simp [ofL]
  rw [e0, pick_one t p hp]
  walk_at "g"
  refine ⟨plain_list hm, get_list hm (by decide) (by decide) rfl ?_⟩
  walk_at "g"
  refine cal_len_str (by rw [ofL_length, sizeLine_eq]; simp; omega) ?_
  rw [ofL_length]
  walk_at "g"
  refine it_list (xs := [.int p]) (by
    have e : (p : Int) + ((t.drop p).take 1).length = ((p + ((t.drop p).take 1).length : Nat) : Int) := by omega
    rw [e]; exact hat) (by decide) (by simp) (by decide) ?_
  walk_at "g"
  exact drp q
/-- a lexer, its text read up to p, with what is pushed back -/
abbrev lexS (x d st pb pl cx cy : Addr) (t : List Nat) (ln p : Nat) (toks : List AV) (ρ : Sto) : Sto :=
  (cx, .cell (.str (ofL t))) :: (cy, .cell (.ref pl)) :: (pl, .list [.int p]) :: (x, .inst 59 d) :: (d, .ns (nsL ln st pb)) :: (pb, .list toks) :: ρ
theorem ok_rdch (X : (KK pp).In Γ.hB) : FnOk Γ 42 (fdOf (KK pp) 42) (bodyOf (fdOf (KK pp) 42)) ["self"] := fnOkB X (by kernel_rfl!) (bind1 fun _ => by kernel_rfl!)
theorem read_char (W : Wd Γ (KK pp) mg mb) {x d st pb pl cx cy : Addr} {ρ : Sto} {t : List Nat} {ln p : Nat} {toks : List AV} (S : Strm pp ρ st cx cy) (ht : t.length ≤ 1000000) (hp : p ≤ t.length) {P : AV → Sto → Prop}
    (q : P (.str (ofL ((t.drop p).take 1))) (lexS x d st pb pl cx cy t (ln + if (t.drop p).take 1 = [10] then 1 else 0) (p + ((t.drop p).take 1).length) toks ρ)) : CalC Γ (k + 2) (.ref 42) [.ref x] (lexS x d st pb pl cx cy t ln p toks ρ) P := by
  refine fn_defB W.ok (ok_rdch W.X) rfl (by kernel_rfl!) (by kernel_rfl!) ?_
  refine exs_cons ?_
  walk_at "g"
  refine at_own W.X cls_ok (x := x) (d := d) (es := nsL ln st pb) (by walk_at "mem") (by walk_at "mem") (by kernel_rfl!) rfl (fun _ h => by cases h) ?_
  obtain ⟨rd, gm, kp, cl⟩ := read_one (k := k) W S (τ := (pl, .list [.int p]) :: (x, .inst 59 d) :: (d, .ns (nsL ln st pb)) :: (pb, .list toks) :: ρ) (fun z hz => .tail _ (.tail _ (.tail _ (.tail _ hz)))) ht hp .head
  refine ⟨_, _, gm, ?_⟩
  walk_at "g"
  refine ⟨kp, cal_of (cl _ ?_)⟩
  walk_at "g"
  have eb : ((ofL ((t.drop p).take 1)) == ("\n" : Str)) = decide ((t.drop p).take 1 = [10]) := by
    have e1 : ("\n" : Str) = ofL [10] := by kernel_rfl!
    rw [e1]
    by_cases h : (t.drop p).take 1 = [10]
    · rw [h]; simp
    · rw [decide_eq_false h]; exact beq_eq_false_iff_ne.mpr fun e => h (ofL_inj e)
  rw [eb]
  refine ⟨fun hb => ?_, fun hb => ?_⟩
  · have hb : (t.drop p).take 1 = [10] := by simpa using hb
    rw [if_pos hb] at q
    refine exs_cons (ex_aug_attr ?_)
    walk_at "g"
    refine at_own W.X cls_ok (x := x) (d := d) (es := nsL ln st pb) (by walk_at "mem") (by walk_at "mem") (by kernel_rfl!) rfl (fun _ h => by cases h) ?_
    walk_at "g"
    refine op_iadd ?_
    refine st_own W.X cls_ok (x := x) (d := d) (es := nsL ln st pb) (by walk_at "mem") (.tail (.tail (.tail (.tail .head)))) (by show (4 : Nat) < 1000; decide) (by kernel_rfl!) ?_
    walk_at "g"
    exact drp q
  · have hb : ¬ (t.drop p).take 1 = [10] := by simpa using hb
    rw [if_neg hb] at q
    walk_at "g"
    exact drp q
theorem ok_push (X : (KK pp).In Γ.hB) : FnOk Γ 56 (fdOf (KK pp) 56) (bodyOf (fdOf (KK pp) 56)) ["self", "token"] := fnOkB X (by kernel_rfl!) (bind2 fun _ _ => by kernel_rfl!)
theorem push_token (W : Wd Γ (KK pp) mg mb) {x d st pb pl cx cy : Addr} {ρ : Sto} {t : List Nat} {ln p : Nat} {toks : List AV} {v : AV} (hl : toks.length ≤ 1000000) {P : AV → Sto → Prop}
    (q : P .none (lexS x d st pb pl cx cy t ln p (toks ++ [v]) ρ)) : CalC Γ (k + 1) (.ref 56) [.ref x, v] (lexS x d st pb pl cx cy t ln p toks ρ) P := by
  refine fn_defB W.ok (ok_push W.X) rfl (by kernel_rfl!) (by kernel_rfl!) ?_
  refine exs_cons ?_
  walk_at "g"
  refine at_own W.X cls_ok (x := x) (d := d) (es := nsL ln st pb) (by walk_at "mem") (by walk_at "mem") (by kernel_rfl!) rfl (fun _ h => by cases h) ?_
  refine ⟨_, _, gm_append (xs := toks) (by walk_at "mem"), ?_⟩
  walk_at "g"
  refine ⟨kpr_builtin, cal_append (xs := toks) (.tail (.tail (.tail (.tail (.tail .head))))) (by rw [sizeLine_eq]; omega) ⟨rfl, ?_⟩⟩
  walk_at "g"
  exact drp q
theorem ok_get (X : (KK pp).In Γ.hB) : FnOk Γ 49 (fdOf (KK pp) 49) (bodyOf (fdOf (KK pp) 49)) ["self"] := fnOkB X (by kernel_rfl!) (bind1 fun _ => by kernel_rfl!)
/-- what was pushed back comes first -/
theorem get_back (W : Wd Γ (KK pp) mg mb) {x d st pb pl cx cy : Addr} {ρ : Sto} {t : List Nat} {ln p : Nat} {toks : List AV} {v : AV} (hl : toks.length ≤ 1000000) {P : AV → Sto → Prop}
    (q : P v (lexS x d st pb pl cx cy t ln p toks ρ)) : CalC Γ (k + 1) (.ref 49) [.ref x] (lexS x d st pb pl cx cy t ln p (v :: toks) ρ) P := by
  refine fn_defB W.ok (ok_get W.X) rfl (by kernel_rfl!) (by kernel_rfl!) ?_
  refine exs_cons ?_
  walk_at "g"
  refine at_own W.X cls_ok (x := x) (d := d) (es := nsL ln st pb) (by walk_at "mem") (by walk_at "mem") (by kernel_rfl!) rfl (fun _ h => by cases h) ?_
  refine tr_list (xs := v :: toks) (by walk_at "mem") (by simp; omega) ?_
  refine ⟨fun _ => ?_, fun h => by simp at h⟩
  walk_at "g"
  refine at_own W.X cls_ok (x := x) (d := d) (es := nsL ln st pb) (by walk_at "mem") (by walk_at "mem") (by kernel_rfl!) rfl (fun _ h => by cases h) ?_
  refine ⟨_, _, gm_pop (xs := v :: toks) (by walk_at "mem"), ?_⟩
  walk_at "g"
  refine ⟨kpr_builtin, cal_pop0 (x := v) (xs := toks) (.tail (.tail (.tail (.tail (.tail .head))))) (by rw [sizeLine_eq]; omega) ?_⟩
  walk_at "g"
  exact drp q
noncomputable def isWs (c : Nat) : Bool := decide (c ∈ [10, 9, 13, 32])
theorem ws_in (c : Nat) : (!(Builtin.Str.occurrences (Str.ofString "\n\t\r ") (ofL [c]) 0 (Str.ofString "\n\t\r ").length 1).isEmpty) = isWs c := by
  have e : (Str.ofString "\n\t\r ") = ofL [10, 9, 13, 32] := by kernel_rfl!
  rw [e]
  exact StrLaws.found_one _ c
/-- the rest of a word: plain, quoted; a word -/
noncomputable def rdW : Nat → List Nat → List Nat → Option (List Nat × List Nat)
  | 0, _, _ => none
  | _, [], _ => none
  | n + 1, c :: u, w => if isWs c then some (w, u) else if c = 92 then (match u with | [] => none | e :: u' => rdW n u' (w ++ [e])) else rdW n u (w ++ [c])
noncomputable def rdQ : Nat → List Nat → List Nat → Option (List Nat × List Nat)
  | 0, _, _ => none
  | _, [], _ => none
  | n + 1, c :: u, w => if c = 34 then some (w, u) else if c = 92 then (match u with | [] => none | e :: u' => rdQ n u' (w ++ [e])) else rdQ n u (w ++ [c])
noncomputable def rdO (n : Nat) : List Nat → Option (List Nat × List Nat)
  | [] => some ([], [])
  | c :: u => if isWs c then rdO n u else if c = 34 then rdQ n u [] else if c = 92 then (match u with | [] => none | e :: u' => rdW n u' [e]) else rdW n u [c]
theorem drop_suf {t u : List Nat} (h : u <:+ t) : t.drop (t.length - u.length) = u := by
  obtain ⟨pre, rfl⟩ := h
  simp
theorem suf_len {t u : List Nat} (h : u <:+ t) : u.length ≤ t.length := h.length_le
abbrev lexU (x d st pb pl cx cy : Addr) (t : List Nat) (ln : Nat) (u : List Nat) (toks : List AV) (ρ : Sto) : Sto := lexS x d st pb pl cx cy t ln (t.length - u.length) toks ρ
theorem suf_tail {c : Nat} {u t : List Nat} (h : (c :: u) <:+ t) : u <:+ t := (List.suffix_cons c u).trans h
section
variable {x d st pb pl cx cy : Addr} {ρ : Sto} {t : List Nat} {ln : Nat} {toks : List AV}
theorem read_nil (W : Wd Γ (KK pp) mg mb) (S : Strm pp ρ st cx cy) (ht : t.length ≤ 1000000) {P : AV → Sto → Prop} (q : P (.str "") (lexU x d st pb pl cx cy t ln [] toks ρ)) : CalC Γ (k + 2) (.ref 42) [.ref x] (lexU x d st pb pl cx cy t ln [] toks ρ) P := by
  refine read_char W S ht (by simp) ?_
  have e : t.drop (t.length - ([] : List Nat).length) = [] := by simp
  rw [e]
  exact q
theorem read_cons (W : Wd Γ (KK pp) mg mb) (S : Strm pp ρ st cx cy) (ht : t.length ≤ 1000000) {c : Nat} {u : List Nat} (hs : (c :: u) <:+ t) {P : AV → Sto → Prop} (q : P (.str (ofL [c])) (lexU x d st pb pl cx cy t (ln + if c = 10 then 1 else 0) u toks ρ)) : CalC Γ (k + 2) (.ref 42) [.ref x] (lexU x d st pb pl cx cy t ln (c :: u) toks ρ) P := by
  refine read_char W S ht (by omega) ?_
  have hl := suf_len hs
  simp only [List.length_cons] at hl
  have e2 : t.length - (c :: u).length + ([c] : List Nat).length = t.length - u.length := by simp; omega
  rw [drop_suf hs]
  show P _ (lexS x d st pb pl cx cy t (ln + if [c] = [10] then 1 else 0) (t.length - (c :: u).length + ([c] : List Nat).length) toks ρ)
  rw [e2]
  simpa using q
end
section
variable {x d st pb pl cx cy fi q : Addr} {ρ : Sto} {t : List Nat} {ln : Nat} {toks : List AV} {tk : Tok}
abbrev itS (x fi q : Addr) (tk : Tok) (ρ : Sto) : Sto := (fi, .obj (ciObj q tk)) :: (q, .obj (methodObj (.ref 42) (.ref x))) :: ρ
theorem Strm.it {ρ : Sto} (S : Strm pp ρ st cx cy) : Strm pp (itS x fi q tk ρ) st cx cy := (S.cons _).cons _
theorem nx_nil (W : Wd Γ (KK pp) mg mb) (S : Strm pp ρ st cx cy) (ht : t.length ≤ 1000000) {P : Option AV → Sto → Prop} (p : P none (lexU x d st pb pl cx cy t ln [] toks ((q, .obj (methodObj (.ref 42) (.ref x))) :: ρ))) :
    Nx Γ (k + 3) fi (lexU x d st pb pl cx cy t ln [] toks (itS x fi q tk ρ)) P := by
  refine nx_step W.X (by kernel_rfl! : fnIn (KK pp) 42 = true) (by walk_at "mem") (by walk_at "mem") (read_nil W S.it ht ⟨"", rfl, by walk_at "mem", by walk_at "mem", ?_⟩)
  rw [if_pos rfl]
  exact ⟨[_, _, _, _, _, _], _, rfl, p⟩
theorem nx_cons (W : Wd Γ (KK pp) mg mb) (S : Strm pp ρ st cx cy) (ht : t.length ≤ 1000000) {c : Nat} {u : List Nat} (hs : (c :: u) <:+ t) {P : Option AV → Sto → Prop} (p : P (some (.str (ofL [c]))) (lexU x d st pb pl cx cy t (ln + if c = 10 then 1 else 0) u toks (itS x fi q tk ρ))) :
    Nx Γ (k + 3) fi (lexU x d st pb pl cx cy t ln (c :: u) toks (itS x fi q tk ρ)) P := by
  refine nx_step W.X (by kernel_rfl! : fnIn (KK pp) 42 = true) (by walk_at "mem") (by walk_at "mem") (read_cons W S.it ht hs ⟨ofL [c], rfl, by walk_at "mem", by walk_at "mem", ?_⟩)
  rw [if_neg (fun e => by have : ofL [c] = ofL [] := e; have := ofL_inj this; cases this)]
  exact p
theorem eq_q (c : Nat) : ((ofL [c]) == ("\"" : Str)) = decide (c = 34) := by
  have e1 : ("\"" : Str) = ofL [34] := by kernel_rfl!
  rw [e1]
  by_cases h : c = 34
  · subst h; simp
  · rw [decide_eq_false h]; exact beq_eq_false_iff_ne.mpr fun e => h (by have := ofL_inj e; simpa using this)
theorem eq_b (c : Nat) : ((ofL [c]) == ("\\" : Str)) = decide (c = 92) := by
  have e1 : ("\\" : Str) = ofL [92] := by kernel_rfl!
  rw [e1]
  by_cases h : c = 92
  · subst h; simp
  · rw [decide_eq_false h]; exact beq_eq_false_iff_ne.mpr fun e => h (by have := ofL_inj e; simpa using this)
noncomputable def nl (c : Nat) : Nat := if c = 10 then 1 else 0
theorem forC_perm {sc : Scope} {target : Expr} {body : List Stmt} {it : Addr} {loc : Loc} {σ σ' : Sto} {P : AFl → Loc → Sto → Prop} (h : ForC Γ k sc target body it loc σ' P) (hs : σ'.Perm σ) : ForC Γ k sc target body it loc σ P := fun A κ env s hA l f R =>
  h A κ env s hA l f ⟨R.s.perm hs, R.f.sub fun _ ha => (hs.map _).subset ha⟩
theorem get_text (W : Wd Γ (KK pp) mg mb) (S : Strm pp ρ st cx cy) (ht : t.length ≤ 1000000) {u w r : List Nat} {n ln' : Nat} (hs : u <:+ t) (hr : rdO n u = some (w, r)) (hn : ln' + r.count 10 = ln + u.count 10) {P : AV → Sto → Prop}
    (p : P (.str (ofL w)) (lexU x d st pb pl cx cy t ln' r [] ρ)) : CalC Γ (k + 4) (.ref 49) [.ref x] (lexU x d st pb pl cx cy t ln u [] ρ) P := by
  refine fn_defB W.ok (ok_get W.X) rfl (by kernel_rfl!) (by kernel_rfl!) ?_
  refine exs_cons ?_
  walk_at "g"
  refine at_own W.X cls_ok (x := x) (d := d) (es := nsL ln st pb) (by walk_at "mem") (by walk_at "mem") (by kernel_rfl!) rfl (fun _ h => by cases h) ?_
  refine tr_list (xs := []) (by walk_at "mem") (by simp) ?_
  refine ⟨fun h => by simp at h, fun _ => ?_⟩
  walk_at "g"
  refine at_bound W.X cls_ok (x := x) (d := d) (es := nsL ln st pb) (f := 42) (by walk_at "mem") (by walk_at "mem") (by kernel_rfl!) (by kernel_rfl!) (by kernel_rfl!) (by kernel_rfl!) (by kernel_rfl!) rfl fun q => ?_
  walk_at "g"
  refine cal_iter (.head _) fun fi tk => ?_
  walk_at "g"
  refine ex_forC ?_ (fun _ _ => rfl)
  walk_at "g"
  refine ⟨fi, q, tk, rfl, .head _, ?_⟩
  refine forC_perm (σ' := lexU x d st pb pl cx cy t ln u [] (itS x fi q tk ρ)) ?_ (List.perm_append_comm_assoc [_, _, _, _, _, _] [_, _] ρ)
  refine forC_sub (forC_c2 (L := fun _ _ => [("self", .ref x), ("token", .str (ofL [])), ("fiter", .ref fi)]) (S := fun u ln => lexU x d st pb pl cx cy t ln u [] (itS x fi q tk ρ)) (rank := fun u _ => u.length) (I := fun u ln => u <:+ t ∧ rdO n u = some (w, r) ∧ ln' + r.count 10 = ln + u.count 10) (fun σ₁ => w = [] ∧ (lexU x d st pb pl cx cy t ln' r [] ρ).Sublist σ₁) (.str (ofL w)) (lexU x d st pb pl cx cy t ln' r [] ρ) ?_ ?_ ?_ u ln ⟨hs, hr, hn⟩) (sub_cons rfl (sub_cons rfl (sub_cons rfl sub_nil))) (.refl _)
  · clear hs hr hn p
    intro u ln P' A hA hR hI
    refine a3 hI fun hs hr hn => ?_
    clear hI
    cases u with
    | nil =>
      have hr' : some (([] : List Nat), ([] : List Nat)) = some (w, r) := hr
      cases hr'
      have hl : ln' = ln := by simpa using hn
      subst hl
      exact nx_nil W S ht ⟨rfl, (List.Sublist.refl [_, _, _, _, _, _]).append (.cons _ (.refl _))⟩
    | cons c u =>
      refine nx_cons W S ht hs ?_
      walk_at "g"
      refine at_own W.X cls_ok (x := x) (d := d) (es := nsL _ st pb) (by walk_at "mem") (by walk_at "mem") (by kernel_rfl!) rfl (fun _ h => by cases h) ?_
      walk_at "g"
      rw [ws_in]
      refine ⟨fun hw => ?_, fun hw => ?_⟩
      · walk_at "g"
        refine hA u (ln + if c = 10 then 1 else 0) _ _ ⟨suf_tail hs, ?_, ?_⟩ (by simp only [List.length_cons]; omega) (sub_cons rfl (sub_cons rfl (sub_cons rfl sub_nil))) (.refl _)
        · rw [← hr]; simp [rdO, hw]
        · rw [hn, List.count_cons]; by_cases h : c = 10 <;> simp [h] <;> omega
      · walk_at "g"
        rw [eq_q]
        have hc0 : ∀ (c : Nat) (u : List Nat) (m : Nat), m + (c :: u).count 10 = (m + if c = 10 then 1 else 0) + u.count 10 := fun c u m => by rw [List.count_cons]; by_cases h : c = 10 <;> simp [h] <;> omega
        have hlt := suf_len hs
        simp only [List.length_cons] at hlt
        refine ⟨fun h34 => ?_, fun h34 => ?_⟩
        · have h34 : c = 34 := of_decide_eq_true h34
          have hr1 : rdQ n u [] = some (w, r) := by rw [← hr]; show _ = if isWs c then _ else if c = 34 then _ else _; rw [hw, if_neg (by decide), if_pos h34]
          refine exs_cons (ex_forC ?_ (fun _ _ => rfl))
          walk_at "g"
          refine ⟨fi, q, tk, rfl, by walk_at "mem", ?_⟩
          refine forC_sub (forC_c4 (L := fun _ _ w0 _ => [("self", .ref x), ("token", .str (ofL w0)), ("fiter", .ref fi)]) (S := fun _ u _ ln => lexU x d st pb pl cx cy t ln u [] (itS x fi q tk ρ)) (rank := fun _ u _ _ => u.length) (I := fun m u w0 ln => u <:+ t ∧ rdQ m u w0 = some (w, r) ∧ ln' + r.count 10 = ln + u.count 10 ∧ w0.length + u.length ≤ t.length) (fun _ => False) (.str (ofL w)) (lexU x d st pb pl cx cy t ln' r [] ρ) ?_ (by intro l σ' h; exact hR l σ' h) (by intro _ _ _ _ _ h; exact h.elim) n u [] _ ⟨suf_tail hs, hr1, by rw [hn]; exact hc0 c u ln, by simp; omega⟩) (sub_cons rfl (sub_cons rfl (sub_cons rfl sub_nil))) (.refl _)
          clear hA hr1 hr hs hn hlt
          intro m u w0 ln P' A hA hR hI
          refine a4 hI fun hs hr hn hb => ?_
          clear hI
          cases m with
          | zero => simp [rdQ] at hr
          | succ m =>
            cases u with
            | nil => simp [rdQ] at hr
            | cons c u =>
              refine nx_cons W S ht hs ?_
              walk_at "g"
              rw [eq_q]
              refine ⟨fun hq => ?_, fun hq => ?_⟩
              · have hq : c = 34 := of_decide_eq_true hq
                have e : w0 = w ∧ u = r := by simpa [rdQ, hq] using hr
                obtain ⟨rfl, rfl⟩ := e
                have hl : ln' = ln + if c = 10 then 1 else 0 := by have := hc0 c u ln; omega
                subst hl
                walk_at "g"
                exact hR _ _ ((List.Sublist.refl [_, _, _, _, _, _]).append (.cons _ (.cons _ (.refl _))))
              · have hq : ¬ c = 34 := of_decide_eq_false hq
                walk_at "g"
                rw [eq_b]
                refine ⟨fun hbk => ?_, fun hbk => ?_⟩
                · have hbk : c = 92 := of_decide_eq_true hbk
                  cases u with
                  | nil => simp [rdQ, hbk] at hr
                  | cons e u =>
                    have hr2 : rdQ m u (w0 ++ [e]) = some (w, r) := by simpa [rdQ, hbk] using hr
                    walk_at "g"
                    refine ⟨_, _, gm_inst W.X cls_ok (x := x) (d := d) (es := nsL _ st pb) (f := 42) (by walk_at "mem") (by walk_at "mem") (by kernel_rfl!) (by kernel_rfl!) rfl, ?_⟩
                    walk_at "g"
                    refine ⟨fun κ' h₂ l' R' => keeps_K (K := KK pp) (by kernel_rfl!) h₂ (W.X.keeps (l'.up R')), cal_of (read_cons W S.it ht (suf_tail hs) ?_)⟩
                    walk_at "g"
                    refine op_iadd_str (by simp only [ofL_length, sizeLine_eq, List.length_cons] at hb ⊢; simp; omega) ?_
                    rw [ofL_append]
                    walk_at "g"
                    refine hA m u (w0 ++ [e]) _ _ _ ⟨suf_tail (suf_tail hs), hr2, ?_, ?_⟩ (by simp only [List.length_cons]; omega) (sub_cons rfl (sub_cons rfl (sub_cons rfl sub_nil))) (.refl _)
                    · rw [hn, hc0 c (e :: u) ln, hc0 e u]
                    · simp at hb ⊢; omega
                · have hbk : ¬ c = 92 := of_decide_eq_false hbk
                  have hr2 : rdQ m u (w0 ++ [c]) = some (w, r) := by simpa [rdQ, hbk, hq] using hr
                  walk_at "g"
                  refine op_iadd_str (by simp only [ofL_length, sizeLine_eq, List.length_cons] at hb ⊢; simp; omega) ?_
                  rw [ofL_append]
                  walk_at "g"
                  refine hA m u (w0 ++ [c]) _ _ _ ⟨suf_tail hs, hr2, ?_, ?_⟩ (by simp only [List.length_cons]; omega) (sub_cons rfl (sub_cons rfl (sub_cons rfl sub_nil))) (.refl _)
                  · rw [hn]; exact hc0 c u ln
                  · simp at hb ⊢; omega
        · have h34 : ¬ c = 34 := of_decide_eq_false h34
          refine exs_cons (ex_mono (P := fun f l σ' => f = .next ∧ ∃ w1 u1 ln1, Sub [("self", .ref x), ("token", .str (ofL [])), ("fiter", .ref fi), ("ch", .str (ofL w1))] l ∧ σ' = lexU x d st pb pl cx cy t ln1 u1 [] (itS x fi q tk ρ) ∧ rdW n u1 w1 = some (w, r) ∧ u1 <:+ t ∧ ln' + r.count 10 = ln1 + u1.count 10 ∧ w1.length + u1.length ≤ t.length) ?_ ?_)
          · walk_at "g"
            rw [eq_b]
            refine ⟨fun hbk => ?_, fun hbk => ?_⟩
            · have hbk : c = 92 := of_decide_eq_true hbk
              cases u with
              | nil => have hr' : (if isWs c then rdO n [] else if c = 34 then rdQ n [] [] else if c = 92 then none else rdW n [] [c]) = some (w, r) := hr
                       rw [hw, if_neg (by decide), if_neg h34, if_pos hbk] at hr'; cases hr'
              | cons e u =>
                have hr2 : rdW n u [e] = some (w, r) := by rw [← hr]; show _ = if isWs c then _ else if c = 34 then _ else if c = 92 then _ else _; rw [hw, if_neg (by decide), if_neg h34, if_pos hbk]
                walk_at "g"
                refine ⟨_, _, gm_inst W.X cls_ok (x := x) (d := d) (es := nsL _ st pb) (f := 42) (by walk_at "mem") (by walk_at "mem") (by kernel_rfl!) (by kernel_rfl!) rfl, ?_⟩
                walk_at "g"
                refine ⟨fun κ' h₂ l' R' => keeps_K (K := KK pp) (by kernel_rfl!) h₂ (W.X.keeps (l'.up R')), cal_of (read_cons W S.it ht (suf_tail hs) ?_)⟩
                walk_at "g"
                refine ⟨rfl, [e], u, _, sub_cons rfl (sub_cons rfl (sub_cons rfl (sub_cons rfl sub_nil))), rfl, hr2, suf_tail (suf_tail hs), ?_, ?_⟩
                · rw [hn, hc0 c (e :: u) ln, hc0 e u]
                · simp at hlt ⊢; omega
            · have hbk : ¬ c = 92 := of_decide_eq_false hbk
              have hr2 : rdW n u [c] = some (w, r) := by rw [← hr]; show _ = if isWs c then _ else if c = 34 then _ else if c = 92 then _ else _; rw [hw, if_neg (by decide), if_neg h34, if_neg hbk]
              walk_at "g"
              refine ⟨rfl, [c], u, _, sub_cons rfl (sub_cons rfl (sub_cons rfl (sub_cons rfl sub_nil))), rfl, hr2, suf_tail hs, ?_, ?_⟩
              · rw [hn]; exact hc0 c u ln
              · simp; omega
          · rintro f l σ' ⟨rfl, w1, u1, ln1, hsub, rfl, hr1, hs1, hn1, hb1⟩
            refine exs_sub ?_ hsub (.refl _)
            clear hA hr hs hn hlt
            walk_at "g"
            refine op_iadd_str (by simp only [ofL_length, sizeLine_eq]; simp; omega) ?_
            rw [ofL_append]
            refine exs_cons (ex_forC ?_ (fun _ _ => rfl))
            walk_at "g"
            refine ⟨fi, q, tk, rfl, by walk_at "mem", ?_⟩
            refine forC_sub (forC_c4 (L := fun _ _ w0 _ => [("self", .ref x), ("token", .str (ofL w0)), ("fiter", .ref fi)]) (S := fun _ u _ ln => lexU x d st pb pl cx cy t ln u [] (itS x fi q tk ρ)) (rank := fun _ u _ _ => u.length) (I := fun m u w0 ln => u <:+ t ∧ rdW m u w0 = some (w, r) ∧ ln' + r.count 10 = ln + u.count 10 ∧ w0.length + u.length ≤ t.length) (fun _ => False) (.str (ofL w)) (lexU x d st pb pl cx cy t ln' r [] ρ) ?_ (by intro l σ' h; exact hR l σ' h) (by intro _ _ _ _ _ h; exact h.elim) n u1 ([] ++ w1) ln1 ⟨hs1, hr1, hn1, hb1⟩) (sub_cons rfl (sub_cons rfl (sub_cons rfl sub_nil))) (.refl _)
            intro m u w0 ln P' A hA hR hI
            refine a4 hI fun hs hr hn hb => ?_
            clear hI
            cases m with
            | zero => simp [rdW] at hr
            | succ m =>
              cases u with
              | nil => simp [rdW] at hr
              | cons c u =>
                refine nx_cons W S ht hs ?_
                walk_at "g"
                refine at_own W.X cls_ok (x := x) (d := d) (es := nsL _ st pb) (by walk_at "mem") (by walk_at "mem") (by kernel_rfl!) rfl (fun _ h => by cases h) ?_
                walk_at "g"
                rw [ws_in]
                refine ⟨fun hq => ?_, fun hq => ?_⟩
                · have e : w0 = w ∧ u = r := by simpa [rdW, hq] using hr
                  obtain ⟨rfl, rfl⟩ := e
                  have hl : ln' = ln + if c = 10 then 1 else 0 := by have := hc0 c u ln; omega
                  subst hl
                  walk_at "g"
                  exact hR _ _ ((List.Sublist.refl [_, _, _, _, _, _]).append (.cons _ (.cons _ (.refl _))))
                · walk_at "g"
                  rw [eq_b]
                  refine ⟨fun hbk => ?_, fun hbk => ?_⟩
                  · have hbk : c = 92 := of_decide_eq_true hbk
                    cases u with
                    | nil => have hr' : (if isWs c then some (w0, []) else if c = 92 then none else rdW m [] (w0 ++ [c])) = some (w, r) := hr
                             rw [hq, if_neg (by decide), if_pos hbk] at hr'; cases hr'
                    | cons e u =>
                      have hr2 : rdW m u (w0 ++ [e]) = some (w, r) := by rw [← hr]; show _ = if isWs c then _ else if c = 92 then _ else _; rw [hq, if_neg (by decide), if_pos hbk]
                      walk_at "g"
                      refine ⟨_, _, gm_inst W.X cls_ok (x := x) (d := d) (es := nsL _ st pb) (f := 42) (by walk_at "mem") (by walk_at "mem") (by kernel_rfl!) (by kernel_rfl!) rfl, ?_⟩
                      walk_at "g"
                      refine ⟨fun κ' h₂ l' R' => keeps_K (K := KK pp) (by kernel_rfl!) h₂ (W.X.keeps (l'.up R')), cal_of (read_cons W S.it ht (suf_tail hs) ?_)⟩
                      walk_at "g"
                      refine op_iadd_str (by simp only [ofL_length, sizeLine_eq, List.length_cons] at hb ⊢; simp; omega) ?_
                      rw [ofL_append]
                      walk_at "g"
                      refine hA m u (w0 ++ [e]) _ _ _ ⟨suf_tail (suf_tail hs), hr2, ?_, ?_⟩ (by simp only [List.length_cons]; omega) (sub_cons rfl (sub_cons rfl (sub_cons rfl sub_nil))) (.refl _)
                      · rw [hn, hc0 c (e :: u) ln, hc0 e u]
                      · simp at hb ⊢; omega
                  · have hbk : ¬ c = 92 := of_decide_eq_false hbk
                    have hr2 : rdW m u (w0 ++ [c]) = some (w, r) := by rw [← hr]; show _ = if isWs c then _ else if c = 92 then _ else _; rw [hq, if_neg (by decide), if_neg hbk]
                    walk_at "g"
                    refine op_iadd_str (by simp only [ofL_length, sizeLine_eq, List.length_cons] at hb ⊢; simp; omega) ?_
                    rw [ofL_append]
                    walk_at "g"
                    refine hA m u (w0 ++ [c]) _ _ _ ⟨suf_tail hs, hr2, ?_, ?_⟩ (by simp only [List.length_cons]; omega) (sub_cons rfl (sub_cons rfl (sub_cons rfl sub_nil))) (.refl _)
                    · rw [hn]; exact hc0 c u ln
                    · simp at hb ⊢; omega
  
  · intro l σ' h
    exact ⟨_, h, p⟩
  · rintro _ _ _ ⟨rfl, h⟩
    walk_at "g"
    exact ⟨_, h, p⟩
end
theorem ok_triple (X : (KK pp).In Γ.hB) : FnOk Γ 103 (fdOf (KK pp) 103) (bodyOf (fdOf (KK pp) 103)) ["m", "n"] := fnOkB X (by kernel_rfl!) (bind2 fun _ _ => by kernel_rfl!)
theorem triple (W : Wd Γ (KK pp) mg mb) {m n : Int} {P : AV → Sto → Prop} (q : P (.tup [.int (m * m - n * n), .int (2 * m * n), .int (m * m + n * n)]) σ) (h1 : IntMulOk m m) (h2 : IntMulOk n n) (h3 : IntMulOk 2 m) (h4 : IntMulOk (2 * m) n) : CalC Γ (k + 1) (.ref 103) [.int m, .int n] σ P := by
  refine fn_defB W.ok (ok_triple W.X) rfl (by kernel_rfl!) (by kernel_rfl!) ?_
  refine exs_cons ?_
  walk_at "g"
  refine op_mul h1 ?_
  walk_at "g"
  refine op_mul h2 ?_
  walk_at "g"
  refine op_mul h3 ?_
  walk_at "g"
  refine op_mul h4 ?_
  walk_at "g"
  refine op_mul h1 ?_
  walk_at "g"
  refine op_mul h2 ?_
  walk_at "g"
  refine ⟨by rw [sizeLine_eq]; simp, ?_⟩
  walk_at "g"
  exact drp q
theorem ok_number (X : (KK pp).In Γ.hB) : FnOk Γ 89 (fdOf (KK pp) 89) (bodyOf (fdOf (KK pp) 89)) ["word"] := fnOkB X (by kernel_rfl!) (bind1 fun _ => by kernel_rfl!)
/-- the number that a word tells -/
noncomputable def numOf (w : List Nat) : Int := w.foldl (fun (a : Int) (c : Nat) => a * 16 + c - 65) 0
theorem number (W : Wd Γ (KK pp) mg mb) {w : List Nat} (hl : w.length ≤ 1000) (hh : w.head? ≠ some 65) (hmul : ∀ v u, w = v ++ u → IntMulOk (numOf v) 16) {P : AV → Sto → Prop} (q : P (.int (numOf w)) σ) : CalC Γ (k + 1) (.ref 89) [.str (ofL w)] σ P := by
  refine fn_defB W.ok (ok_number W.X) rfl (by kernel_rfl!) (by kernel_rfl!) ?_
  refine exs_cons ?_
  walk_at "g"
  refine ⟨_, rfl, plain_str, slc_str (by rw [ofL_length, sizeLine_eq]; omega) ?_⟩
  walk_at "g"
  have e0 : (ofL w).cps.toList = w := by simp [ofL]
  have e1 : (ofL (pick (ofL w).cps.toList none (some 1)) == ("A" : Str)) = false := by
    rw [e0]
    have e2 : ("A" : Str) = ofL [65] := by kernel_rfl!
    rw [e2]
    refine beq_eq_false_iff_ne.mpr fun e => hh ?_
    have e3 := ofL_inj e
    cases w with
    | nil => cases e3
    | cons c w =>
      have hc : clipAt (c :: w).length 1 = 1 := by unfold clipAt; simp only [List.length_cons]; omega
      have : pick (c :: w) none (some 1) = [c] := by unfold pick; simp only [Option.elim, hc]; rfl
      rw [this] at e3; cases e3; rfl
  rw [e1]
  refine ⟨(fun h => by cases h), fun _ => ?_⟩
  walk_at "g"
  refine ex_for ?_ (fun _ _ => rfl)
  walk_at "g"
  refine ⟨_, _, mk_str (.name _ _), (fun p hp => by cases hp), ?_⟩
  have e5 : chars (ofL w) = w.map fun c => .str (ofL [c]) := by unfold chars; rw [e0]
  rw [e5]
  refine for_sub (for_ind2 (ι := { v : List Nat × List Nat // v.1 ++ v.2 = w }) (L := fun i => [("number", .int (numOf i.1.1))]) (S := fun _ => σ) (g := fun c => .str (ofL [c])) (I := fun xs i => i.1.2 = xs) ?_ ?_ ?_ w ⟨([], w), rfl⟩ rfl) (sub_cons rfl sub_nil) (.refl _) (fun p hp => by cases hp)
  · intro i p hp; cases hp
  · rintro c xs ⟨⟨v, u⟩, hv⟩ P' A hA hu
    dsimp only at hv hu ⊢
    subst hu
    walk_at "g"
    refine op_mul (hmul v _ hv.symm) ?_
    walk_at "g"
    refine cal_ord ?_
    walk_at "g"
    refine hA ⟨(v ++ [c], xs), by simpa using hv⟩ _ _ rfl (sub_cons ?_ sub_nil) (.refl _)
    show some (AV.int _) = some (AV.int _)
    simp [numOf]
  · rintro ⟨⟨v, u⟩, hv⟩ hu
    dsimp only at hv hu ⊢
    subst hu
    have hv : v = w := by simpa using hv
    subst hv
    walk_at "g"
    exact drp q
theorem ok_written (X : (KK pp).In Γ.hB) : FnOk Γ 82 (fdOf (KK pp) 82) (bodyOf (fdOf (KK pp) 82)) ["word", "way"] := fnOkB X (by kernel_rfl!) (bind2 fun _ _ => by kernel_rfl!)
noncomputable def esc (w : List Nat) : List Nat := (w.map fun c => [92, c]).flatten
/-- a word, as it is written -/
noncomputable def wr (w : List Nat) : Nat → List Nat
  | 0 => w
  | 1 => [34] ++ w ++ [34]
  | 2 => esc w
  | _ => [34] ++ esc w ++ [34]
theorem esc_len (w : List Nat) : (esc w).length = 2 * w.length := by
  induction w with
  | nil => rfl
  | cons c w ih => simp only [esc, List.map_cons, List.flatten_cons, List.length_append] at ih ⊢; simp at ih ⊢; omega
theorem written (W : Wd Γ (KK pp) mg mb) {w : List Nat} {way : Nat} (hl : w.length ≤ 1000) (hw : way < 4) {P : AV → Sto → Prop} (q : P (.str (ofL (wr w way))) σ) : CalC Γ (k + 1) (.ref 82) [.str (ofL w), .int way] σ P := by
  refine fn_defB W.ok (ok_written W.X) rfl (by kernel_rfl!) (by kernel_rfl!) ?_
  refine exs_cons ?_
  walk_at "g"
  refine ⟨_, _, gm_join, ?_⟩
  walk_at "g"
  refine ⟨_, _, mk_str (.name _ _), (fun p hp => by cases hp), fun D => ?_⟩
  have e0 : (ofL w).cps.toList = w := by simp [ofL]
  have e5 : chars (ofL w) = w.map fun c => .str (ofL [c]) := by unfold chars; rw [e0]
  rw [e5]
  refine cmp_sub (cmp_ind2 (ι := { v : List Nat × List Nat // v.1 ++ v.2 = w }) (L := []) (S := fun i => (D, .list ((i.1.1.map fun c => ofL [92, c]).map .str)) :: σ) (g := fun c => .str (ofL [c])) (I := fun xs i => i.1.2 = xs) ?_ ?_ ?_ w ⟨([], w), rfl⟩ rfl) sub_nil
  · intro i p hp; cases hp
  · rintro c xs ⟨⟨v, u⟩, hv⟩ A hA hu
    dsimp only at hv hu ⊢
    subst hu
    walk_at "g"
    refine ⟨sub_nil, ?_⟩
    walk_at "g"
    have e6 : (Str.ofString "\\") = ofL [92] := by kernel_rfl!
    rw [e6]
    refine op_add_str (by simp only [ofL_length, sizeLine_eq]; simp) ?_
    rw [ofL_append]
    have hvl := congrArg List.length hv
    refine hA _ _ _ _ ⟨(v ++ [c], xs), by simpa using hv⟩ .head (by simp only [List.length_append] at hvl; simp [sizeLine_eq]; omega) rfl (by simp)
  · rintro ⟨⟨v, u⟩, hv⟩ hu
    dsimp only at hv hu ⊢
    subst hu
    have hv : v = w := by simpa using hv
    subst hv
    walk_at "g"
    refine ⟨kpr_builtin, cal_join (.head _) ?_ ?_⟩
    · have e8 : ∀ l : List Nat, ((l.map fun c => ofL [92, c]).map (·.length)).sum = 2 * l.length := by
        intro l
        induction l with
        | nil => rfl
        | cons c l ih => simp only [List.map_cons, List.sum_cons, ih, ofL_length, List.length_cons, List.length_nil]; omega
      rw [e8]
      have e9 : (Str.ofString "").length = 0 := by kernel_rfl!
      rw [e9]; omega
    have e7 : Builtin.Str.glued (Str.ofString "") (v.map fun c => ofL [92, c]) = ofL (esc v) := by
      have := glued_ofL (v.map fun c => [92, c])
      rw [List.map_map] at this
      exact this
    rw [e7]
    walk_at "g"
    have e6 : (Str.ofString "\"") = ofL [34] := by kernel_rfl!
    rw [e6]
    refine op_add_str (by simp only [ofL_length, sizeLine_eq]; simp; omega) ?_
    rw [ofL_append]
    walk_at "g"
    refine op_add_str (by simp only [ofL_length, sizeLine_eq]; simp; omega) ?_
    rw [ofL_append]
    walk_at "g"
    have el := esc_len v
    refine op_add_str (by simp only [ofL_length, sizeLine_eq]; simp; omega) ?_
    rw [ofL_append]
    walk_at "g"
    refine op_add_str (by simp only [ofL_length, sizeLine_eq]; simp; omega) ?_
    rw [ofL_append]
    walk_at "g"
    refine ⟨by rw [sizeLine_eq]; simp, fun a => ?_⟩
    walk_at "g"
    refine ⟨plain_list (.head _), get_list (x := .str (ofL (wr v way))) (.head _) (by omega) (by omega) ?_ ?_⟩
    · rw [Int.toNat_natCast]
      match way, hw with
      | 0, _ => rfl
      | 1, _ => rfl
      | 2, _ => rfl
      | 3, _ => rfl
    exact ⟨_, .cons _ (.cons _ (.refl _)), q⟩
theorem ok_roots (X : (KK pp).In Γ.hB) : FnOk Γ 96 (fdOf (KK pp) 96) (bodyOf (fdOf (KK pp) 96)) ["script"] := fnOkB X (by kernel_rfl!) (bind1 fun _ => by kernel_rfl!)
noncomputable def bases1 : List Int := [4, 3, 50, 4096, 4, 4, 4, 4, 4, 4]
noncomputable def fgAt (x : Int) (i : Nat) : Int := (figs x bases1).getD i 0
noncomputable def rootV (r : Int × Addr) : AV := .tup [.int (1 + fgAt r.1 0 + 1 + fgAt r.1 1), .int (1 + fgAt r.1 0), .int (66 + fgAt r.1 2), .int (1 + fgAt r.1 3), .ref r.2]
noncomputable def wayE (r : Int × Addr) : Addr × AO := (r.2, .list (((figs r.1 bases1).drop 4).map .int))
theorem At.app {τ τ' l : Sto} {a : Addr} {o o' : AO} (h : At τ a o o' τ') : At (l ++ τ) a o o' (l ++ τ') := by
  induction l with
  | nil => exact h
  | cons p l ih => exact .tail ih
/-- the numbers that roots are made of -/
noncomputable def heads (xs : List Int) : List Int := if (xs.take 2).isEmpty then [0] else xs.take 2
theorem roots (W : Wd Γ (KK pp) mg mb) {sa : Addr} {xs : List Int} (hl : xs.length ≤ 63) (hm : Fz Γ sa xs) {P : AV → Sto → Prop}
    (q : ∀ ra (rs : List (Int × Addr)), rs.map (·.1) = heads xs → P (.ref ra) (rs.reverse.map wayE ++ (ra, .list (rs.map rootV)) :: σ)) : CalC Γ (k + 2) (.ref 96) [.ref sa] σ P := by
  refine fn_defB W.ok (ok_roots W.X) rfl (by kernel_rfl!) (by kernel_rfl!) ?_
  refine exs_cons ?_
  walk_at "g"
  refine ⟨by rw [sizeLine_eq]; simp, fun ra => ?_⟩
  walk_at "g"
  refine ex_for (ev_mono (P := fun v σ₁ => ∃ lb g, v = .ref lb ∧ σ₁ = (lb, .list ((heads xs).map .int)) :: (g ++ (ra, .list []) :: σ)) ?_ ?_) (fun _ _ => rfl)
  · refine ev_or2 (ev_sliceF hm ?_)
    walk_at "g"
    refine ⟨rfl, ?_⟩
    walk_at "g"
    refine ⟨_, rfl, fz_slc hm (by rw [sizeLine_eq]; omega) fun lb => ?_⟩
    have e1 : (pick xs none (some 2)).map AV.int = (xs.take 2).map .int := by
      congr 1
      unfold pick
      simp only [Option.elim, List.drop_zero, Nat.sub_zero]
      have : clipAt xs.length 2 = min 2 xs.length := by unfold clipAt; omega
      rw [this]
      by_cases h : xs.length ≤ 2
      · rw [Nat.min_eq_right h, List.take_of_length_le (Nat.le_refl _), List.take_of_length_le h]
      · rw [Nat.min_eq_left (by omega)]
    rw [e1]
    refine tr_list (.head _) (by simp; omega) ?_
    refine ⟨fun h => ?_, fun h => ?_⟩
    · have hh : heads xs = xs.take 2 := by unfold heads; rw [if_neg]; simpa using h
      exact ⟨lb, [], rfl, by rw [hh]; rfl⟩
    · have hh : heads xs = [0] := by unfold heads; rw [if_pos]; simpa using h
      walk_at "g"
      refine ⟨by rw [sizeLine_eq]; simp, fun lb2 => ?_⟩
      exact ⟨lb2, [(lb, _)], rfl, by rw [hh]; rfl⟩
  · rintro v σ₁ ⟨lb, g, rfl, rfl⟩
    refine ⟨_, _, mk_list (.name _ _) (.head _), (fun p hp => by rw [List.mem_singleton.mp hp]; exact .head _), ?_⟩
    refine for_sub (for_ind2 (ι := List (Int × Addr)) (L := fun _ => [("roots", .ref ra)]) (S := fun rs => rs.map wayE ++ (lb, .list ((heads xs).map .int)) :: (ra, .list (rs.reverse.map rootV)) :: σ) (g := .int) (I := fun ys rs => (rs.reverse.map (·.1)) ++ ys = heads xs) ?_ ?_ ?_ (heads xs) [] rfl) (sub_cons rfl sub_nil) ?_ ?_
    · intro i p hp; rw [List.mem_singleton.mp hp]; exact List.mem_append_right _ (.head _)
    · intro y ys rs P' A hA h1
      have hlen : rs.length ≤ 2 := by
        have := congrArg List.length h1
        have h2 : (heads xs).length ≤ 2 := by unfold heads; split <;> simp; omega
        simp at this; omega
      walk_at "g"
      refine ev_calG W 70 (by kernel_rfl!) ?_
      walk_at "g"
      refine ⟨by rw [sizeLine_eq]; simp, fun ba => ?_⟩
      walk_at "g"
      refine cal_of (fig W (bases := bases1) (by decide) (by decide) (.head _) fun da => ?_)
      walk_at "g"
      have hd : ∀ (i : Nat), i < 10 → ((figs y bases1).map AV.int)[((i : Int)).toNat]? = some (.int (fgAt y i)) := by
        intro i hi
        have hg : (figs y bases1).length = 10 := figs_length y bases1
        rw [Int.toNat_natCast, List.getElem?_map]
        unfold fgAt
        rw [List.getD_eq_getElem?_getD, List.getElem?_eq_getElem (by omega)]
        rfl
      refine ⟨plain_list (.head _), get_list (.head _) (by decide) (by decide) (hd 0 (by decide)) ?_⟩
      walk_at "g"
      refine ⟨_, _, gm_append (xs := rs.reverse.map rootV) (.tail _ (.tail _ (List.mem_append_right _ (.tail _ (.head _))))), ?_⟩
      walk_at "g"
      refine ⟨plain_list (.head _), get_list (.head _) (by decide) (by decide) (hd 1 (by decide)) ?_⟩
      walk_at "g"
      refine ⟨plain_list (.head _), get_list (.head _) (by decide) (by decide) (hd 2 (by decide)) ?_⟩
      walk_at "g"
      refine ⟨plain_list (.head _), get_list (.head _) (by decide) (by decide) (hd 3 (by decide)) ?_⟩
      walk_at "g"
      refine ⟨_, rfl, plain_list (.head _), slc_list (.head _) (by rw [sizeLine_eq]; simp [figs_length, bases1]) fun wb => ?_⟩
      have e2 : pick ((figs y bases1).map AV.int) (some 4) none = ((figs y bases1).drop 4).map .int := by
        unfold pick
        have hg : ((figs y bases1).map AV.int).length = 10 := by simp [figs_length, bases1]
        have hc : clipAt ((figs y bases1).map AV.int).length 4 = 4 := by rw [hg]; rfl
        simp only [Option.elim, hc]
        rw [hg, List.map_drop, List.take_of_length_le (by simp [figs_length, bases1])]
      rw [e2]
      walk_at "g"
      refine ⟨by rw [sizeLine_eq]; simp, ?_⟩
      walk_at "g"
      refine ⟨kpr_builtin, cal_append (xs := rs.reverse.map rootV) (.tail (.tail (.tail (At.app (.tail .head))))) (by rw [sizeLine_eq]; simp; omega) ⟨rfl, ?_⟩⟩
      walk_at "g"
      refine hA ((y, wb) :: rs) _ _ (by rw [← h1]; simp) (sub_cons rfl sub_nil) ?_
      simp only [List.map_cons, List.reverse_cons, List.map_append, List.map_nil]
      exact .cons₂ _ (.cons _ (.cons _ (.refl _)))
    · intro rs h1
      walk_at "g"
      refine ⟨rs.map wayE ++ (ra, .list (rs.reverse.map rootV)) :: σ, (List.Sublist.refl _).append (.cons _ (.refl _)), ?_⟩
      have := q ra rs.reverse (by simpa using h1)
      rw [List.reverse_reverse] at this
      exact this
    · exact .cons₂ _ (List.sublist_append_right _ _)
    · intro p hp; rw [List.mem_singleton.mp hp]; exact .head _
theorem ok_file (X : (KK pp).In Γ.hB) : FnOk Γ 110 (fdOf (KK pp) 110) (bodyOf (fdOf (KK pp) 110)) ["roots"] := fnOkB X (by kernel_rfl!) (bind1 fun _ => by kernel_rfl!)
/-- the figures of a root -/
noncomputable def fgN (x : Int) (i : Nat) : Nat := (fgAt x i).toNat
theorem figs_range : ∀ (bs : List Int) (x : Int), (∀ b ∈ bs, 0 < b) → ∀ i b, bs[i]? = some b → 0 ≤ (figs x bs).getD i 0 ∧ (figs x bs).getD i 0 < b
  | [], x, _, i, b, e => by simp at e
  | c :: bs, x, h, 0, b, e => by
    simp at e; subst e
    have := h c (.head _)
    exact ⟨Int.emod_nonneg _ (by omega), Int.emod_lt_of_pos _ this⟩
  | c :: bs, x, h, i + 1, b, e => by
    simp only [List.getElem?_cons_succ] at e
    have := figs_range bs (x / c) (fun b hb => h b (.tail _ hb)) i b e
    simpa [figs] using this
theorem fg_range (x : Int) (i : Nat) (b : Int) (e : bases1[i]? = some b) : fgAt x i = (fgN x i : Int) ∧ (fgN x i : Int) < b := by
  have := figs_range bases1 x (by decide) i b e
  have h2 : fgAt x i = (fgN x i : Int) := by unfold fgN; rw [Int.toNat_of_nonneg]; exact this.1
  exact ⟨h2, h2 ▸ this.2⟩
noncomputable def hiN (x : Int) : Nat := fgN x 0 + fgN x 1 + 2
noncomputable def loN (x : Int) : Nat := fgN x 0 + 1
noncomputable def limN (x : Int) : Nat := fgN x 2 + 66
noncomputable def unitN (x : Int) : Nat := fgN x 3 + 1
noncomputable def wayN (x : Int) (k : Nat) : Nat := fgN x (4 + k)
/-- m and n's triple -/
noncomputable def tri (m n : Nat) : Nat → Nat
  | 0 => m * m - n * n
  | 1 => 2 * m * n
  | _ => m * m + n * n
noncomputable def apN (n : Nat) : List Nat := (ap n).map (·.toNat)
noncomputable def sepN : Nat → List Nat
  | 0 => [32]
  | 1 => [10]
  | 2 => [9]
  | _ => [13, 10, 32]
/-- a word of a root, written; and what is behind it -/
noncomputable def wordN (x : Int) (k : Nat) : List Nat := wr (apN (unitN x * tri (hiN x) (loN x) k)) (wayN x k)
noncomputable def pieceN (x : Int) (k : Nat) : List Nat := wordN x k ++ sepN (wayN x (k + 3))
noncomputable def upTo (x : Int) (j : Nat) : List Nat := ((List.range j).map (pieceN x)).flatten
noncomputable def rootT (x : Int) : List Nat := upTo x 3
theorem rootV_eq (x : Int) (wb : Addr) : rootV (x, wb) = .tup [.int (hiN x), .int (loN x), .int (limN x), .int (unitN x), .ref wb] := by
  have h0 := (fg_range x 0 4 rfl).1
  have h1 := (fg_range x 1 3 rfl).1
  have h2 := (fg_range x 2 50 rfl).1
  have h3 := (fg_range x 3 4096 rfl).1
  unfold rootV hiN loN limN unitN
  simp only [h0, h1, h2, h3]
  congr 2
  · congr 1; omega
  · congr 1
    · congr 1; omega
    · congr 1
      · congr 1; omega
      · congr 1; congr 1; omega
theorem hi_lo (x : Int) : 1 ≤ loN x ∧ loN x ≤ 4 ∧ loN x < hiN x ∧ hiN x ≤ 7 := by
  have h0 := (fg_range x 0 4 rfl).2
  have h1 := (fg_range x 1 3 rfl).2
  unfold loN hiN; omega
theorem unit_le (x : Int) : 1 ≤ unitN x ∧ unitN x ≤ 4096 := by
  have h0 := (fg_range x 3 4096 rfl).2
  unfold unitN; omega
theorem way_lt (x : Int) (k : Nat) (hk : k < 6) : wayN x k < 4 := by
  have : bases1[4 + k]? = some 4 := by
    match k, hk with
    | 0, _ => rfl
    | 1, _ => rfl
    | 2, _ => rfl
    | 3, _ => rfl
    | 4, _ => rfl
    | 5, _ => rfl
  have h0 := (fg_range x (4 + k) 4 this).2
  unfold wayN; omega
theorem upTo_succ (x : Int) (j : Nat) : upTo x (j + 1) = upTo x j ++ pieceN x j := by simp [upTo, List.range_succ]
theorem tri_fin : ∀ m n : Fin 8, ∀ k : Fin 3, 1 ≤ n.val → n.val < m.val → (1 ≤ tri m n k ∧ tri m n k ≤ 98) := by decide +kernel
theorem tri_rng {m n : Nat} (h0 : 1 ≤ n) (h : n < m) (hm : m ≤ 7) (k : Nat) (hk : k < 3) : 1 ≤ tri m n k ∧ tri m n k ≤ 98 :=
  tri_fin ⟨m, by omega⟩ ⟨n, by omega⟩ ⟨k, hk⟩ h0 h
theorem ap_rng (n : Nat) : ∀ c ∈ ap n, 65 ≤ c.toNat ∧ c.toNat ≤ 80 := by
  induction n using Nat.strongRecOn with
  | _ n ih =>
    intro c hc
    by_cases hn : n = 0
    · subst hn; rw [ap_zero] at hc; cases hc
    · rw [ap_pos hn] at hc
      rcases List.mem_append.mp hc with h | h
      · exact ih (n / 16) (by omega) c h
      · rw [List.mem_singleton] at h; subst h
        have : (UInt8.ofNat (65 + n % 16)).toNat = 65 + n % 16 := by simp; omega
        rw [this]; omega
theorem ap_ne {n : Nat} (h : n ≠ 0) : ap n ≠ [] := by rw [ap_pos h]; simp
theorem apN_len (n : Nat) (m : Nat) (h : n < 16 ^ m) : (apN n).length ≤ m := by unfold apN; rw [List.length_map]; exact ap_len n m h
theorem wr_len (w : List Nat) (k : Nat) : (wr w k).length ≤ 2 * w.length + 2 := by
  have := esc_len w
  unfold wr; split <;> simp <;> omega
theorem sep_len (k : Nat) : (sepN k).length ≤ 3 := by unfold sepN; split <;> simp
theorem word_le (x : Int) (k : Nat) (hk : k < 3) : unitN x * tri (hiN x) (loN x) k < 16 ^ 5 ∧ unitN x * tri (hiN x) (loN x) k ≠ 0 := by
  obtain ⟨a, b, c, d⟩ := hi_lo x
  obtain ⟨e, f⟩ := unit_le x
  obtain ⟨g, h⟩ := tri_rng a c d k hk
  have h1 := Nat.mul_le_mul f h
  have h2 := Nat.mul_le_mul e g
  omega
theorem word_len (x : Int) (k : Nat) (hk : k < 3) : (wordN x k).length ≤ 12 := by
  have h1 := wr_len (apN (unitN x * tri (hiN x) (loN x) k)) (wayN x k)
  have h2 := apN_len _ 5 (word_le x k hk).1
  unfold wordN; omega
theorem piece_len (x : Int) (k : Nat) (hk : k < 3) : (pieceN x k).length ≤ 15 := by
  have h1 := word_len x k hk
  have h2 := sep_len (wayN x (k + 3))
  unfold pieceN; rw [List.length_append]; omega
theorem upTo_len (x : Int) : ∀ j, j ≤ 3 → (upTo x j).length ≤ 15 * j
  | 0, _ => by simp [upTo]
  | j + 1, h => by
    rw [upTo_succ, List.length_append]
    have h1 := upTo_len x j (by omega)
    have h2 := piece_len x j (by omega)
    omega
noncomputable def fileT (xs : List Int) : List Nat := (xs.map rootT).flatten
noncomputable def spotN (pre : List Nat) (x : Int) : Nat := (pre ++ upTo x 2 ++ wordN x 2).length + 1 - wayN x 2 % 2
noncomputable def spotsL : List Int → List Nat → List Nat
  | [], _ => []
  | x :: xs, pre => spotN pre x :: spotsL xs (pre ++ rootT x)
theorem tri_int {m n : Nat} (h : n < m) : (m : Int) * m - n * n = (tri m n 0 : Nat) ∧ 2 * (m : Int) * n = (tri m n 1 : Nat) ∧ (m : Int) * m + n * n = (tri m n 2 : Nat) := by
  have h1 : n * n ≤ m * m := Nat.mul_le_mul (by omega) (by omega)
  refine ⟨?_, ?_, ?_⟩
  · show _ = ((m * m - n * n : Nat) : Int); rw [Int.ofNat_sub h1]; simp
  · show _ = ((2 * m * n : Nat) : Int); simp
  · show _ = ((m * m + n * n : Nat) : Int); simp
abbrev triV (x : Int) : AV := .tup [.int (tri (hiN x) (loN x) 0 : Nat), .int (tri (hiN x) (loN x) 1 : Nat), .int (tri (hiN x) (loN x) 2 : Nat)]
theorem file (W : Wd Γ (KK pp) mg mb) {ra : Addr} {rs : List (Int × Addr)} (hl : rs.length ≤ 2) (hm : (ra, .list (rs.map rootV)) ∈ σ) (hw : ∀ r ∈ rs, wayE r ∈ σ) {P : AV → Sto → Prop}
    (q : ∀ sa, P (.tup [.str (ofL (fileT (rs.map (·.1)))), .ref sa]) ((sa, .list ((spotsL (rs.map (·.1)) []).map fun n : Nat => .int n)) :: σ)) : CalC Γ (k + 3) (.ref 110) [.ref ra] σ P := by
  refine fn_defB W.ok (ok_file W.X) rfl (by kernel_rfl!) (by kernel_rfl!) ?_
  refine exs_cons ?_
  walk_at "g"
  refine ⟨by rw [sizeLine_eq]; simp, fun sa => ?_⟩
  walk_at "g"
  refine ex_for ?_ (fun _ _ => rfl)
  walk_at "g"
  refine ⟨_, _, mk_list (.tup _ _ _) (.tail _ hm), (fun p hp => by rw [List.mem_singleton.mp hp]; exact .tail _ hm), ?_⟩
  refine for_sub (for_c2 (L := fun pre _ => [("text", .str (ofL pre)), ("spots", .ref sa)]) (S := fun _ acc => (sa, .list (acc.map fun n : Nat => .int n)) :: σ) (g := rootV)
    (I := fun ys pre acc => pre ++ fileT (ys.map (·.1)) = fileT (rs.map (·.1)) ∧ acc ++ spotsL (ys.map (·.1)) pre = spotsL (rs.map (·.1)) [] ∧ (∀ r ∈ ys, wayE r ∈ σ) ∧ pre.length + 45 * ys.length ≤ 90 ∧ acc.length + ys.length ≤ 2) ?_ ?_ ?_ rs [] [] ⟨rfl, rfl, hw, by simp; omega, by simp; omega⟩) (sub_cons rfl (sub_cons rfl sub_nil)) (.refl _) ?_
  · intro _ _ p hp; rw [List.mem_singleton.mp hp]; exact .tail _ hm
  · rintro ⟨x, wb⟩ ys pre acc P' A hA hI
    refine a5 hI fun h1 h2 h3 h4 h5 => ?_
    clear hI
    have hwb := h3 _ (.head _)
    rw [rootV_eq]
    walk_at "g"
    obtain ⟨lo1, lo2, lo3, lo4⟩ := hi_lo x
    obtain ⟨un1, un2⟩ := unit_le x
    refine ev_calG W 103 (by kernel_rfl!) ?_
    walk_at "g"
    obtain ⟨t0, t1, t2⟩ := tri_int lo3
    refine cal_of (triple W ?_ (mul_small (by omega) (by omega)) (mul_small (by omega) (by omega)) (mul_small (by omega) (by omega)) (mul_small (by omega) (by omega)))
    rw [t0, t1, t2]
    walk_at "g"
    refine ex_for ?_ (fun _ _ => rfl)
    walk_at "g"
    refine cal_range1 fun rg og hog => ?_
    refine ⟨_, _, mk_range (.name _ _) (.head _) hog (by decide) (by decide) (by decide) (by decide), (fun p hp => by cases hp), ?_⟩
    have e0 : intsFrom 0 ((3 : Int) - 0).toNat = ([0, 1, 2] : List Nat).map fun n : Nat => AV.int n := rfl
    rw [e0]
    refine for_sub (σ' := (sa, .list (acc.map fun n : Nat => .int n)) :: σ) (for_c2 (L := fun (j : Nat) (sp : Int) => [("text", .str (ofL (pre ++ upTo x j))), ("spots", .ref sa), ("unit", .int (unitN x)), ("ways", .ref wb), ("triple", triV x), ("spot", .int sp)]) (S := fun _ _ => (sa, .list (acc.map fun n : Nat => .int n)) :: σ) (g := fun n : Nat => .int n)
      (I := fun ys j sp => ys = ([0, 1, 2] : List Nat).drop j ∧ j ≤ 3 ∧ (j = 3 → sp = spotN pre x)) ?_ ?_ ?_ [0, 1, 2] 0 0 ⟨rfl, by decide, fun h => by cases h⟩) ?_ (.cons _ (.refl _)) (fun p hp => by cases hp)
    · intro _ _ p hp; cases hp
    · intro c cs j sp P'' A hA hI
      refine a3 hI fun g1 g2 g3 => ?_
      clear hI
      have hj : c = j ∧ j < 3 ∧ cs = ([0, 1, 2] : List Nat).drop (j + 1) := by
        match j, g2 with
        | 0, _ => cases g1; exact ⟨rfl, by decide, rfl⟩
        | 1, _ => cases g1; exact ⟨rfl, by decide, rfl⟩
        | 2, _ => cases g1; exact ⟨rfl, by decide, rfl⟩
        | 3, _ => cases g1
      obtain ⟨rfl, hj, g4⟩ := hj
      obtain ⟨wo1, wo2⟩ := word_le x c hj
      walk_at "g"
      refine ev_calG W 82 (by kernel_rfl!) ?_
      walk_at "g"
      refine ev_calG W 21 (by kernel_rfl!) ?_
      walk_at "g"
      refine ⟨plain_tup, get_tup (x := .int (tri (hiN x) (loN x) c : Nat)) (by omega) (by omega) ?_ ?_⟩
      · rw [Int.toNat_natCast]
        match c, hj with
        | 0, _ => rfl
        | 1, _ => rfl
        | 2, _ => rfl
      refine op_mul (mul_small (by omega) (by omega)) ?_
      walk_at "g"
      rw [show ((unitN x : Int) * ((tri (hiN x) (loN x) c : Nat) : Int)) = ((unitN x * tri (hiN x) (loN x) c : Nat) : Int) from by simp]
      refine cal_of (int2ap W (by rw [Int.natAbs_natCast]; exact Nat.lt_of_lt_of_le wo1 (by decide)) ?_)
      rw [Int.natAbs_natCast]
      refine ⟨_, _, gm_decode, ?_⟩
      walk_at "g"
      refine ⟨kpr_builtin, cal_decode (ap_ne wo2) (fun c hc => by have := ap_rng _ c hc; omega) (by have := ap_len _ 5 wo1; omega) ?_⟩
      have hway : ∀ i : Nat, i < 6 → (((figs x bases1).drop 4).map AV.int)[((i : Int)).toNat]? = some (.int (wayN x i : Nat)) := by
        intro i hi
        have hg : (figs x bases1).length = 10 := figs_length x bases1
        have hb : bases1[4 + i]? = some 4 := by
          match i, hi with
          | 0, _ => rfl
          | 1, _ => rfl
          | 2, _ => rfl
          | 3, _ => rfl
          | 4, _ => rfl
          | 5, _ => rfl
        rw [Int.toNat_natCast, List.getElem?_map, List.getElem?_drop, List.getElem?_eq_getElem (by omega)]
        have := (fg_range x (4 + i) 4 hb).1
        unfold wayN
        rw [← this]; unfold fgAt
        rw [List.getD_eq_getElem?_getD, List.getElem?_eq_getElem (by omega)]
        rfl
      have hwm : (wb, AO.list (((figs x bases1).drop 4).map AV.int)) ∈ (sa, .list (acc.map fun n : Nat => .int n)) :: σ := .tail _ hwb
      walk_at "g"
      refine ⟨plain_list hwm, get_list hwm (by omega) (by omega) (hway c (by omega)) ?_⟩
      walk_at "g"
      refine cal_of (written W (by rw [List.length_map]; have := ap_len _ 5 wo1; omega) (way_lt x c (by omega)) ?_)
      have l1 := upTo_len x c (by omega)
      have l2 := word_len x c hj
      have l3 := sep_len (wayN x (c + 3))
      simp only [List.length_cons] at h4
      refine op_add_str ?_ ?_
      · simp only [ofL_length, sizeLine_eq, List.length_append]
        unfold wordN apN at l2
        omega
      rw [ofL_append]
      walk_at "g"
      have ew : wr (List.map (fun x => x.toNat) (ap (unitN x * tri (hiN x) (loN x) c))) (wayN x c) = wordN x c := rfl
      rw [ew]
      refine cal_len_str (by rw [ofL_length, sizeLine_eq]; simp only [List.length_append]; omega) ?_
      rw [ofL_length]
      walk_at "g"
      refine ⟨plain_list hwm, get_list hwm (by omega) (by omega) (hway c (by omega)) ?_⟩
      walk_at "g"
      refine op_mod (by decide) ?_
      walk_at "g"
      refine ⟨by rw [sizeLine_eq]; simp, fun la => ?_⟩
      walk_at "g"
      rw [show (c : Int) + 3 = ((c + 3 : Nat) : Int) from by omega]
      refine ⟨plain_list (.tail _ hwm), get_list (.tail _ hwm) (by omega) (by omega) (hway (c + 3) (by omega)) ?_⟩
      have hsep : ∀ v : Nat, v < 4 → ([.str (Str.ofString " "), .str (Str.ofString "\n"), .str (Str.ofString "\t"), .str (Str.ofString "\r\n ")] : List AV)[((v : Nat) : Int).toNat]? = some (.str (ofL (sepN v))) := by
        intro v hv
        match v, hv with
        | 0, _ => kernel_rfl!
        | 1, _ => kernel_rfl!
        | 2, _ => kernel_rfl!
        | 3, _ => kernel_rfl!
      have hwl := way_lt x (c + 3) (by omega)
      refine ⟨plain_list (.head _), get_list (.head _) (by omega) (by omega) (hsep _ hwl) ?_⟩
      refine op_add_str ?_ ?_
      · simp only [ofL_length, sizeLine_eq, List.length_append]
        omega
      rw [ofL_append]
      walk_at "g"
      refine hA (c + 1) ((((pre ++ upTo x c ++ wordN x c).length : Nat) : Int) + 1 - (wayN x c : Int) % 2) _ _ ⟨g4, by omega, fun h3 => ?_⟩ (sub_cons ?_ (sub_cons rfl (sub_cons rfl (sub_cons rfl (sub_cons rfl (sub_cons rfl sub_nil)))))) (.cons _ (.refl _))
      · have hc2 : c = 2 := by omega
        subst hc2
        unfold spotN
        omega
      · rw [upTo_succ]
        unfold pieceN
        simp only [List.append_assoc]
        rfl
    · rintro j sp ⟨g1, g2, g3⟩
      have hj : j = 3 := by
        match j, g2 with
        | 0, _ => cases g1
        | 1, _ => cases g1
        | 2, _ => cases g1
        | 3, _ => rfl
      subst hj
      rw [g3 rfl]
      walk_at "g"
      refine ⟨_, _, gm_append (xs := acc.map fun n : Nat => .int n) (.head _), ?_⟩
      walk_at "g"
      simp only [List.length_cons] at h4 h5
      refine ⟨kpr_builtin, cal_append (xs := acc.map fun n : Nat => .int n) .head (by rw [sizeLine_eq]; simp; omega) ⟨rfl, ?_⟩⟩
      walk_at "g"
      refine hA (pre ++ rootT x) (acc ++ [spotN pre x]) _ _ ⟨?_, ?_, fun r hr => h3 r (.tail _ hr), ?_, ?_⟩ (sub_cons rfl (sub_cons rfl sub_nil)) ?_
      · rw [← h1]; simp [fileT]
      · rw [← h2]; simp [spotsL]
      · have := upTo_len x 3 (by decide); rw [List.length_append]; unfold rootT; omega
      · rw [List.length_append]; simp only [List.length_cons, List.length_nil]; omega
      · rw [List.map_append]; exact .refl _
    · exact sub_cons (by show _ = some (AV.str (ofL (pre ++ []))); rw [List.append_nil]; rfl) (sub_cons rfl (sub_cons rfl (sub_cons rfl (sub_cons rfl (sub_cons rfl sub_nil)))))
  · rintro pre acc ⟨h1, h2, h3, h4, h5⟩
    walk_at "g"
    refine ⟨by rw [sizeLine_eq]; simp, ?_⟩
    walk_at "g"
    have e1 : pre = fileT (rs.map (·.1)) := by simpa [fileT] using h1
    have e2 : acc = spotsL (rs.map (·.1)) [] := by simpa [spotsL] using h2
    rw [e1, e2]
    exact drp (q sa)
  · intro p hp; rw [List.mem_singleton.mp hp]; exact .tail _ hm
theorem apN_pos {n : Nat} (h : n ≠ 0) : apN n = apN (n / 16) ++ [65 + n % 16] := by
  unfold apN
  rw [ap_pos h, List.map_append]
  congr 1
  simp; omega
theorem apN_zero : apN 0 = [] := by unfold apN; rw [ap_zero]; rfl
theorem numOf_apN (n : Nat) : numOf (apN n) = n := by
  induction n using Nat.strongRecOn with
  | _ n ih =>
    by_cases hn : n = 0
    · subst hn; rw [apN_zero]; rfl
    · rw [apN_pos hn]
      have h1 := ih (n / 16) (by omega)
      unfold numOf at h1 ⊢
      rw [List.foldl_append, h1]
      simp only [List.foldl_cons, List.foldl_nil]
      omega
theorem apN_head (n : Nat) : (apN n).head? ≠ some 65 := by
  induction n using Nat.strongRecOn with
  | _ n ih =>
    by_cases hn : n = 0
    · subst hn; rw [apN_zero]; simp
    · rw [apN_pos hn]
      by_cases h2 : n / 16 = 0
      · rw [h2, apN_zero]; simp; omega
      · have h3 := ih (n / 16) (by omega)
        have h4 : apN (n / 16) ≠ [] := by rw [apN_pos h2]; simp
        cases e : apN (n / 16) with
        | nil => exact absurd e h4
        | cons a l => rw [e] at h3; simpa using h3
theorem apN_rng (n : Nat) : ∀ c ∈ apN n, 65 ≤ c ∧ c ≤ 80 := by
  intro c hc
  unfold apN at hc
  obtain ⟨b, hb, rfl⟩ := List.mem_map.mp hc
  exact ap_rng n b hb
theorem apN_ne {n : Nat} (h : n ≠ 0) : apN n ≠ [] := by rw [apN_pos h]; simp
/-- letters that nothing is meant by -/
noncomputable def plainL (w : List Nat) : Prop := ∀ c ∈ w, 65 ≤ c ∧ c ≤ 80
theorem plain_ws {c : Nat} (h : 65 ≤ c ∧ c ≤ 80) : isWs c = false := by unfold isWs; simp; omega
theorem rdW_plain : ∀ (w : List Nat) (n : Nat) (acc r : List Nat) (c : Nat), plainL w → isWs c = true → w.length < n → rdW n (w ++ c :: r) acc = some (acc ++ w, r)
  | [], n + 1, acc, r, c, _, hc, _ => by simp [rdW, hc]
  | a :: w, n + 1, acc, r, c, hw, hc, hn => by
    have h1 := hw a (.head _)
    have h2 := plain_ws h1
    rw [List.cons_append]
    show (if isWs a then _ else if a = 92 then _ else rdW n (w ++ c :: r) (acc ++ [a])) = _
    rw [h2, if_neg (by decide), if_neg (by omega), rdW_plain w n _ r c (fun b hb => hw b (.tail _ hb)) hc (by simp at hn; omega)]
    simp
theorem rdW_esc : ∀ (w : List Nat) (n : Nat) (acc r : List Nat) (c : Nat), isWs c = true → w.length < n → rdW n (esc w ++ c :: r) acc = some (acc ++ w, r)
  | [], n + 1, acc, r, c, hc, _ => by simp [rdW, esc, hc]
  | a :: w, n + 1, acc, r, c, hc, hn => by
    have e : esc (a :: w) ++ c :: r = 92 :: a :: (esc w ++ c :: r) := by simp [esc]
    rw [e]
    show (if isWs 92 then _ else if 92 = 92 then rdW n (esc w ++ c :: r) (acc ++ [a]) else _) = _
    rw [if_neg (by decide), if_pos rfl, rdW_esc w n _ r c hc (by simp at hn; omega)]
    simp
theorem rdQ_plain : ∀ (w : List Nat) (n : Nat) (acc r : List Nat), plainL w → w.length < n → rdQ n (w ++ 34 :: r) acc = some (acc ++ w, r)
  | [], n + 1, acc, r, _, _ => by simp [rdQ]
  | a :: w, n + 1, acc, r, hw, hn => by
    have h1 := hw a (.head _)
    rw [List.cons_append]
    show (if a = 34 then _ else if a = 92 then _ else rdQ n (w ++ 34 :: r) (acc ++ [a])) = _
    rw [if_neg (by omega), if_neg (by omega), rdQ_plain w n _ r (fun b hb => hw b (.tail _ hb)) (by simp at hn; omega)]
    simp
theorem rdQ_esc : ∀ (w : List Nat) (n : Nat) (acc r : List Nat), w.length < n → rdQ n (esc w ++ 34 :: r) acc = some (acc ++ w, r)
  | [], n + 1, acc, r, _ => by simp [rdQ, esc]
  | a :: w, n + 1, acc, r, hn => by
    have e : esc (a :: w) ++ 34 :: r = 92 :: a :: (esc w ++ 34 :: r) := by simp [esc]
    rw [e]
    show (if 92 = 34 then _ else if 92 = 92 then rdQ n (esc w ++ 34 :: r) (acc ++ [a]) else _) = _
    rw [if_neg (by decide), if_pos rfl, rdQ_esc w n _ r (by simp at hn; omega)]
    simp
theorem rdO_ws : ∀ (b : List Nat) (n : Nat) (r : List Nat), (∀ c ∈ b, isWs c = true) → rdO n (b ++ r) = rdO n r
  | [], _, _, _ => rfl
  | c :: b, n, r, h => by
    show (if isWs c then rdO n (b ++ r) else _) = _
    rw [h c (.head _), if_pos rfl, rdO_ws b n r fun d hd => h d (.tail _ hd)]
/-- a written word read -/
theorem rdO_wr {w : List Nat} {way n : Nat} (hw : plainL w) (hne : w ≠ [] ∨ way % 2 = 1) (h4 : way < 4) (hn : w.length < n) {c : Nat} (hc : isWs c = true) (r : List Nat) :
    rdO n (wr w way ++ c :: r) = some (w, if way % 2 = 1 then c :: r else r) := by
  match way, h4 with
  | 0, _ =>
    cases w with
    | nil => rcases hne with h | h; exact absurd rfl h; cases h
    | cons a w =>
      have h1 := hw a (.head _)
      show (if isWs a then _ else if a = 34 then _ else if a = 92 then _ else rdW n (w ++ c :: r) [a]) = _
      rw [plain_ws h1, if_neg (by decide), if_neg (by omega), if_neg (by omega), rdW_plain w n _ r c (fun b hb => hw b (.tail _ hb)) hc (by simp at hn; omega)]
      rfl
  | 1, _ =>
    have e : wr w 1 ++ c :: r = 34 :: (w ++ 34 :: c :: r) := by simp [wr]
    rw [e]
    show (if isWs 34 then _ else if 34 = 34 then rdQ n (w ++ 34 :: c :: r) [] else _) = _
    rw [if_neg (by decide), if_pos rfl, rdQ_plain w n _ _ hw hn]
    rfl
  | 2, _ =>
    cases w with
    | nil => rcases hne with h | h; exact absurd rfl h; cases h
    | cons a w =>
      have e : wr (a :: w) 2 ++ c :: r = 92 :: a :: (esc w ++ c :: r) := by simp [wr, esc]
      rw [e]
      show (if isWs 92 then _ else if 92 = 34 then _ else if 92 = 92 then rdW n (esc w ++ c :: r) [a] else _) = _
      rw [if_neg (by decide), if_neg (by decide), if_pos rfl, rdW_esc w n _ r c hc (by simp at hn; omega)]
      rfl
  | 3, _ =>
    have e : wr w 3 ++ c :: r = 34 :: (esc w ++ 34 :: c :: r) := by simp [wr]
    rw [e]
    show (if isWs 34 then _ else if 34 = 34 then rdQ n (esc w ++ 34 :: c :: r) [] else _) = _
    rw [if_neg (by decide), if_pos rfl, rdQ_esc w n _ _ hn]
    rfl
theorem sep_ws (k : Nat) : ∃ c r, sepN k = c :: r ∧ isWs c = true ∧ ∀ d ∈ sepN k, isWs d = true := by
  unfold sepN
  split
  · exact ⟨_, _, rfl, rfl, by decide⟩
  · exact ⟨_, _, rfl, rfl, by decide⟩
  · exact ⟨_, _, rfl, rfl, by decide⟩
  · exact ⟨_, _, rfl, rfl, by decide⟩
/-- blanks, a word, blanks: what is left behind the word -/
theorem rdO_piece {bl w : List Nat} {way s n : Nat} (hb : ∀ c ∈ bl, isWs c = true) (hw : plainL w) (hne : w ≠ [] ∨ way % 2 = 1) (h4 : way < 4) (hn : w.length < n) (r : List Nat) :
    rdO n (bl ++ (wr w way ++ (sepN s ++ r))) = some (w, (sepN s).drop (1 - way % 2) ++ r) := by
  obtain ⟨c, q, e, hc, _⟩ := sep_ws s
  rw [rdO_ws _ _ _ hb, e, List.cons_append, rdO_wr hw hne h4 hn hc]
  by_cases h : way % 2 = 1
  · rw [if_pos h, h]; rfl
  · rw [if_neg h, show way % 2 = 0 by omega]; rfl
theorem sep_drop (s i : Nat) : ∀ c ∈ (sepN s).drop i, isWs c = true := by
  obtain ⟨_, _, _, _, h⟩ := sep_ws s
  exact fun c hc => h c (List.mem_of_mem_drop hc)
/-- what one get_token gives -/
inductive Gets (t : List Nat) : Nat × List Nat × List AV → List Nat → Nat × List Nat × List AV → Prop
  | back {ln : Nat} {u : List Nat} {w : List Nat} {toks : List AV} : toks.length ≤ 1000000 → Gets t (ln, u, .str (ofL w) :: toks) w (ln, u, toks)
  | text {ln ln' n : Nat} {u w r : List Nat} : u <:+ t → rdO n u = some (w, r) → ln' + r.count 10 = ln + u.count 10 → Gets t (ln, u, []) w (ln', r, [])
theorem get_any (W : Wd Γ (KK pp) mg mb) {x d st pb pl cx cy : Addr} {ρ : Sto} {t : List Nat} (S : Strm pp ρ st cx cy) (ht : t.length ≤ 1000000) {a b : Nat × List Nat × List AV} {w : List Nat} (g : Gets t a w b) {P : AV → Sto → Prop}
    (p : P (.str (ofL w)) (lexU x d st pb pl cx cy t b.1 b.2.1 b.2.2 ρ)) : CalC Γ (k + 4) (.ref 49) [.ref x] (lexU x d st pb pl cx cy t a.1 a.2.1 a.2.2 ρ) P := by
  cases g with
  | back hl => exact get_back W hl p
  | text hs hr hn => exact get_text W S ht hs hr hn p
theorem ok_run (X : (KK pp).In Γ.hB) : FnOk Γ 115 (fdOf (KK pp) 115) (bodyOf (fdOf (KK pp) 115)) ["text", "roots"] := fnOkB X (by kernel_rfl!) (bind2 fun _ _ => by kernel_rfl!)
/-- the three that a pair gives -/
noncomputable def kidsP (p : Nat × Nat) : List (Nat × Nat) := [(2 * p.1 - p.2, p.1), (2 * p.1 + p.2, p.1), (p.1 + 2 * p.2, p.2)]
noncomputable def okP (lim : Nat) (p : Nat × Nat) : Bool := decide (tri p.1 p.2 2 ≤ lim)
noncomputable def bfs (lim : Nat) : Nat → List (Nat × Nat) → List (Nat × Nat)
  | _, [] => []
  | 0, _ => []
  | n + 1, p :: q => p :: bfs lim n (q ++ (kidsP p).filter (okP lim))
noncomputable def bfsE (lim : Nat) : Nat → List (Nat × Nat) → Bool
  | _, [] => true
  | 0, _ => false
  | n + 1, p :: q => bfsE lim n (q ++ (kidsP p).filter (okP lim))
noncomputable def wrd (n : Nat) : AV := .str (ofL (apN n))
noncomputable def triW (u : Nat) (p : Nat × Nat) : List AV := [wrd (u * tri p.1 p.2 0), wrd (u * tri p.1 p.2 1), wrd (u * tri p.1 p.2 2)]
noncomputable def triT (u : Nat) (p : Nat × Nat) : AV := .tup [.int (u * tri p.1 p.2 0 : Nat), .int (u * tri p.1 p.2 1 : Nat), .int (u * tri p.1 p.2 2 : Nat)]
noncomputable def tolV (u ln pos : Nat) (p : Nat × Nat) : AV := .tup [.int (u * tri p.1 p.2 0 : Nat), .int (u * tri p.1 p.2 1 : Nat), .int (u * tri p.1 p.2 2 : Nat), .int ln, .int pos]
/-- what is left behind a root's last word -/
noncomputable def leftN (x : Int) (rest : List Int) : List Nat := (sepN (wayN x 5)).drop (1 - wayN x 2 % 2) ++ fileT rest
noncomputable def toldR (t : List Nat) (x : Int) (rest : List Int) : List AV := (bfs (limN x) 29 [(hiN x, loN x)]).map (tolV (unitN x) (1 + t.count 10 - (leftN x rest).count 10) (t.length - (leftN x rest).length))
noncomputable def toldL (t : List Nat) : List Int → List AV
  | [] => []
  | x :: rest => toldR t x rest ++ toldL t rest
noncomputable def GetsL (t : List Nat) : Nat × List Nat × List AV → List Nat → Nat × List Nat × List AV → Prop
  | s, [], e => s = e
  | s, w :: ws, e => ∃ s', Gets t s (apN w) s' ∧ GetsL t s' ws e
noncomputable def Rdy (t : List Nat) (u ln1 : Nat) (u1 : List Nat) : List (Nat × Nat) → Nat × List Nat × List AV → Prop
  | [], s => s = (ln1, u1, [])
  | p :: q, s => GetsL t s [u * tri p.1 p.2 0, u * tri p.1 p.2 1, u * tri p.1 p.2 2] (ln1, u1, (q.map (triW u)).flatten)
theorem rdy_back {t : List Nat} {u ln1 : Nat} {u1 : List Nat} (q : List (Nat × Nat)) (h : q.length ≤ 1000) : Rdy t u ln1 u1 q (ln1, u1, (q.map (triW u)).flatten) := by
  have hl : ∀ q : List (Nat × Nat), ((q.map (triW u)).flatten).length = 3 * q.length := by
    intro q
    induction q with
    | nil => rfl
    | cons p q ih => simp only [List.map_cons, List.flatten_cons, List.length_append, ih]; simp [triW]; omega
  cases q with
  | nil => rfl
  | cons p q =>
    have := hl q
    simp only [List.length_cons] at h
    exact ⟨_, .back (by show (_ :: _ :: (q.map (triW u)).flatten).length ≤ _; simp only [List.length_cons]; omega), _, .back (by show (_ :: (q.map (triW u)).flatten).length ≤ _; simp only [List.length_cons]; omega), _, .back (by show ((q.map (triW u)).flatten).length ≤ _; omega), rfl⟩
theorem lin3 (u x y z w p q r : Int) (h : p * x + q * y + r * z = w) : p * (u * x) + q * (u * y) + r * (u * z) = u * w := by
  subst h
  rw [Int.mul_add, Int.mul_add, Int.mul_left_comm u p x, Int.mul_left_comm u q y, Int.mul_left_comm u r z]
noncomputable def triI (m n k : Nat) : Int := tri m n k
theorem kid_fin : ∀ m n : Fin 11, n.val < m.val →
    (1 * triI m n 0 + (-2) * triI m n 1 + 2 * triI m n 2 = triI (2 * m - n) m 0 ∧ 2 * triI m n 0 + (-1) * triI m n 1 + 2 * triI m n 2 = triI (2 * m - n) m 1 ∧ 2 * triI m n 0 + (-2) * triI m n 1 + 3 * triI m n 2 = triI (2 * m - n) m 2) ∧
    (1 * triI m n 0 + 2 * triI m n 1 + 2 * triI m n 2 = triI (2 * m + n) m 0 ∧ 2 * triI m n 0 + 1 * triI m n 1 + 2 * triI m n 2 = triI (2 * m + n) m 1 ∧ 2 * triI m n 0 + 2 * triI m n 1 + 3 * triI m n 2 = triI (2 * m + n) m 2) ∧
    (-1 * triI m n 0 + 2 * triI m n 1 + 2 * triI m n 2 = triI (m + 2 * n) n 0 ∧ -2 * triI m n 0 + 1 * triI m n 1 + 2 * triI m n 2 = triI (m + 2 * n) n 1 ∧ -2 * triI m n 0 + 2 * triI m n 1 + 3 * triI m n 2 = triI (m + 2 * n) n 2) := by decide +kernel
theorem tup3 {a b c a' b' c' : Int} (h1 : a = a') (h2 : b = b') (h3 : c = c') : AV.tup [.int a, .int b, .int c] = AV.tup [.int a', .int b', .int c'] := by subst h1; subst h2; subst h3; rfl
theorem kid_int {m n : Nat} (h : n < m) (hm : m ≤ 10) (u : Nat) :
    AV.tup [.int ((u * tri m n 0 : Nat) - 2 * (u * tri m n 1 : Nat) + 2 * (u * tri m n 2 : Nat) : Int), .int (2 * (u * tri m n 0 : Nat) - (u * tri m n 1 : Nat) + 2 * (u * tri m n 2 : Nat) : Int), .int (2 * (u * tri m n 0 : Nat) - 2 * (u * tri m n 1 : Nat) + 3 * (u * tri m n 2 : Nat) : Int)] = triT u (2 * m - n, m) ∧
    AV.tup [.int ((u * tri m n 0 : Nat) + 2 * (u * tri m n 1 : Nat) + 2 * (u * tri m n 2 : Nat) : Int), .int (2 * (u * tri m n 0 : Nat) + (u * tri m n 1 : Nat) + 2 * (u * tri m n 2 : Nat) : Int), .int (2 * (u * tri m n 0 : Nat) + 2 * (u * tri m n 1 : Nat) + 3 * (u * tri m n 2 : Nat) : Int)] = triT u (2 * m + n, m) ∧
    AV.tup [.int (2 * (u * tri m n 1 : Nat) + 2 * (u * tri m n 2 : Nat) - (u * tri m n 0 : Nat) : Int), .int ((u * tri m n 1 : Nat) + 2 * (u * tri m n 2 : Nat) - 2 * (u * tri m n 0 : Nat) : Int), .int (2 * (u * tri m n 1 : Nat) + 3 * (u * tri m n 2 : Nat) - 2 * (u * tri m n 0 : Nat) : Int)] = triT u (m + 2 * n, n) := by
  obtain ⟨⟨a1, a2, a3⟩, ⟨b1, b2, b3⟩, ⟨c1, c2, c3⟩⟩ := kid_fin ⟨m, by omega⟩ ⟨n, by omega⟩ h
  dsimp only at a1 a2 a3 b1 b2 b3 c1 c2 c3
  have a1 := lin3 u _ _ _ _ _ _ _ a1
  have a2 := lin3 u _ _ _ _ _ _ _ a2
  have a3 := lin3 u _ _ _ _ _ _ _ a3
  have b1 := lin3 u _ _ _ _ _ _ _ b1
  have b2 := lin3 u _ _ _ _ _ _ _ b2
  have b3 := lin3 u _ _ _ _ _ _ _ b3
  have c1 := lin3 u _ _ _ _ _ _ _ c1
  have c2 := lin3 u _ _ _ _ _ _ _ c2
  have c3 := lin3 u _ _ _ _ _ _ _ c3
  unfold triT
  simp only [Int.natCast_mul]
  unfold triI at a1 a2 a3 b1 b2 b3 c1 c2 c3
  exact ⟨tup3 (by have e := a1; omega) (by have e := a2; omega) (by have e := a3; omega), tup3 (by have e := b1; omega) (by have e := b2; omega) (by have e := b3; omega), tup3 (by have e := c1; omega) (by have e := c2; omega) (by have e := c3; omega)⟩
theorem okP_le {lim m n : Nat} (h : okP lim (m, n) = true) (hl : lim ≤ 115) : m ≤ 10 ∧ n ≤ 10 := by
  have h1 : m * m + n * n ≤ lim := of_decide_eq_true h
  constructor
  · by_cases hm : m ≤ 10
    · exact hm
    · have := Nat.mul_le_mul (show 11 ≤ m by omega) (show 11 ≤ m by omega); omega
  · by_cases hm : n ≤ 10
    · exact hm
    · have := Nat.mul_le_mul (show 11 ≤ n by omega) (show 11 ≤ n by omega); omega
theorem tri_small : ∀ m n : Fin 11, ∀ k : Fin 3, tri m n k ≤ 200 ∧ (1 ≤ n.val → n.val < m.val → 1 ≤ tri m n k) := by decide +kernel
theorem perm_run {cx cy pl x d pb ta : Addr × AO} {ρ r : Sto} : List.Perm (cx :: cy :: pl :: x :: d :: pb :: ta :: (ρ ++ r)) (ta :: pb :: x :: d :: cx :: cy :: (ρ ++ pl :: r)) := by
  have h1 : List.Perm [cx, cy, pl, x, d, pb, ta] [ta, pb, x, d, cx, cy, pl] := (show [0, 1, 2, 3, 4, 5, 6].Perm [6, 5, 3, 4, 0, 1, 2] by decide).map fun i => [cx, cy, pl, x, d, pb, ta].getD i cx
  have h2 : List.Perm (ρ ++ pl :: r) (pl :: (ρ ++ r)) := List.perm_middle
  exact (h1.append_right (ρ ++ r)).trans (List.Perm.append_left [ta, pb, x, d, cx, cy] h2.symm)
theorem gets_piece {t u0 bl w R : List Nat} {way s : Nat} (e : u0 = bl ++ (wr w way ++ (sepN s ++ R))) (hs : u0 <:+ t) (hb : ∀ c ∈ bl, isWs c = true) (hw : plainL w) (hne : w ≠ [] ∨ way % 2 = 1) (h4 : way < 4) :
    ((sepN s).drop (1 - way % 2) ++ R) <:+ t ∧ Gets t (1 + t.count 10 - u0.count 10, u0, []) w (1 + t.count 10 - ((sepN s).drop (1 - way % 2) ++ R).count 10, (sepN s).drop (1 - way % 2) ++ R, []) := by
  have h1 : ((sepN s).drop (1 - way % 2) ++ R) <:+ u0 := ⟨bl ++ wr w way ++ (sepN s).take (1 - way % 2), by
    have := List.take_append_drop (1 - way % 2) (sepN s)
    rw [e]
    simp only [List.append_assoc]
    rw [← List.append_assoc ((sepN s).take _), this]⟩
  have h2 := h1.trans hs
  have c1 := h1.sublist.count_le 10
  have c2 := hs.sublist.count_le 10
  refine ⟨h2, .text (n := w.length + 1) hs (by rw [e]; exact rdO_piece hb hw hne h4 (Nat.lt_succ_self _) R) (by omega)⟩
theorem fileT_len : ∀ xs : List Int, (fileT xs).length ≤ 45 * xs.length
  | [] => by simp [fileT]
  | x :: xs => by
    have h1 := fileT_len xs
    have h2 := upTo_len x 3 (by decide)
    have e : fileT (x :: xs) = rootT x ++ fileT xs := rfl
    rw [e, List.length_append, List.length_cons]
    unfold rootT; omega
theorem bfs_len (lim : Nat) : ∀ (n : Nat) (q : List (Nat × Nat)), (bfs lim n q).length ≤ n
  | n, [] => by cases n <;> simp [bfs]
  | 0, _ :: _ => by simp [bfs]
  | n + 1, p :: q => by
    have := bfs_len lim n (q ++ (kidsP p).filter (okP lim))
    simp only [bfs, List.length_cons]; omega
theorem bfsE_len (lim : Nat) : ∀ (n : Nat) (q : List (Nat × Nat)), bfsE lim n q = true → q.length ≤ n
  | n, [], _ => by simp
  | 0, _ :: _, h => by simp [bfsE] at h
  | n + 1, p :: q, h => by
    have := bfsE_len lim n _ h
    rw [List.length_append] at this
    simp only [List.length_cons]; omega
theorem run (W : Wd Γ (KK pp) mg mb) (M : MkOk Γ mg mb 76 72) {ra : Addr} {rs : List (Int × Addr)} (hl : rs.length ≤ 2) (hm : (ra, .list (rs.map rootV)) ∈ σ) (hb : ∀ r ∈ rs, bfsE (limN r.1) 29 [(hiN r.1, loN r.1)] = true) {P : AV → Sto → Prop}
    (q : ∀ ta pb ps, P (.tup [.ref ta, .tup [.str (ofL []), .int ((1 + (fileT (rs.map (·.1))).count 10 : Nat) : Int), .int ((fileT (rs.map (·.1))).length : Nat), .ref pb]]) ((pb, .list []) :: (ta, .list (toldL (fileT (rs.map (·.1))) (rs.map (·.1)))) :: (72, .obj (tabObj ps)) :: σ)) :
    CalC Γ (k + 5) (.ref 115) [.str (ofL (fileT (rs.map (·.1)))), .ref ra] ((72, .obj (tabObj #[])) :: σ) P := by
  refine fn_cellsB W.ok (ok_run W.X) rfl (by kernel_rfl!) ?_
  refine exs_cons ?_
  walk_at "g"
  refine ev_calG W 77 (by kernel_rfl!) ?_
  walk_at "g"
  refine cal_of (stream W M fun st pl cx cy ρ₀ ps S₀ => ?_)
  walk_at "g"
  refine ev_calG W 59 (by kernel_rfl!) ?_
  walk_at "g"
  refine lex_make W fun x d pb => ?_
  walk_at "g"
  refine ⟨by rw [sizeLine_eq]; simp, fun ta => ?_⟩
  walk_at "g"
  refine ex_for ?_ (fun _ _ => rfl)
  walk_at "g"
  have hmm : (ra, AO.list (rs.map rootV)) ∈ ρ₀ ++ (72, AO.obj (tabObj ps)) :: σ := List.mem_append_right _ (.tail _ hm)
  have hm1 : (ra, AO.list (rs.map rootV)) ∈ ρ₀ ++ (pl, .list [.int 0]) :: (72, AO.obj (tabObj ps)) :: σ := List.mem_append_right _ (.tail _ (.tail _ hm))
  refine ⟨_, _, mk_list (.tup _ _ _) (xs := rs.map rootV) (a := ra) (by walk_at "mem"), (fun p hp => by rw [List.mem_singleton.mp hp]; walk_at "mem"), ?_⟩
  generalize ht : fileT (rs.map (·.1)) = t at *
  have hlen : t.length ≤ 1000000 := by have := fileT_len (rs.map (·.1)); rw [ht, List.length_map] at this; omega
  refine for_perm (σ' := lexU x d st pb pl cx cy t 1 t [] ((ta, .list []) :: (ρ₀ ++ (72, .obj (tabObj ps)) :: σ))) ?_ (by
    have e : t.length - t.length = 0 := Nat.sub_self _
    show List.Perm ((cx, .cell (.str (ofL t))) :: (cy, .cell (.ref pl)) :: (pl, .list [.int ((t.length - t.length : Nat) : Int)]) :: (x, .inst 59 d) :: (d, .ns (nsL ((1 : Nat) : Int) st pb)) :: (pb, .list []) :: (ta, .list []) :: (ρ₀ ++ (72, .obj (tabObj ps)) :: σ)) _
    rw [e]
    exact perm_run)
  refine for_sub (for_c2 (L := fun _ _ => [("told", .ref ta), ("lexer", .ref x), ("place", .ref pl)]) (S := fun u acc => lexU x d st pb pl cx cy t (1 + t.count 10 - u.count 10) u [] ((ta, .list acc) :: (ρ₀ ++ (72, .obj (tabObj ps)) :: σ))) (g := rootV)
    (I := fun ys u acc => (∃ bl, (∀ c ∈ bl, isWs c = true) ∧ u = bl ++ fileT (ys.map (·.1))) ∧ u <:+ t ∧ acc ++ toldL t (ys.map (·.1)) = toldL t (rs.map (·.1)) ∧ (∀ r ∈ ys, bfsE (limN r.1) 29 [(hiN r.1, loN r.1)] = true) ∧ acc.length + 29 * ys.length ≤ 58) ?_ ?_ ?_ rs t [] ?_) ?_ ?_ ?_
  · intro u acc p hp
    rw [List.mem_singleton.mp hp]
    exact .tail _ (.tail _ (.tail _ (.tail _ (.tail _ (.tail _ (.tail _ hmm))))))
  · rintro ⟨x0, wb⟩ ys u acc P' A hA hI
    refine a5 hI fun hbl h2 h3 h4 h5 => hbl.elim fun bl hb => a2 hb fun h0 h1 => ?_
    clear hI hbl hb
    rw [rootV_eq]
    walk_at "g"
    have e1 : fileT (((x0, wb) :: ys).map (·.1)) = wr (apN (unitN x0 * tri (hiN x0) (loN x0) 0)) (wayN x0 0) ++ (sepN (wayN x0 3) ++ (wr (apN (unitN x0 * tri (hiN x0) (loN x0) 1)) (wayN x0 1) ++ (sepN (wayN x0 4) ++ (wr (apN (unitN x0 * tri (hiN x0) (loN x0) 2)) (wayN x0 2) ++ (sepN (wayN x0 5) ++ fileT (ys.map (·.1))))))) := by
      simp [fileT, rootT, upTo, List.range_succ, pieceN, wordN]
    have pw : ∀ k, k < 3 → plainL (apN (unitN x0 * tri (hiN x0) (loN x0) k)) ∧ (apN (unitN x0 * tri (hiN x0) (loN x0) k) ≠ [] ∨ wayN x0 k % 2 = 1) := fun k hk => ⟨apN_rng _, .inl (apN_ne (word_le x0 k hk).2)⟩
    obtain ⟨f1, g1⟩ := gets_piece (h1.trans (by rw [e1])) h2 h0 (pw 0 (by decide)).1 (pw 0 (by decide)).2 (way_lt x0 0 (by decide))
    obtain ⟨f2, g2⟩ := gets_piece rfl f1 (sep_drop _ _) (pw 1 (by decide)).1 (pw 1 (by decide)).2 (way_lt x0 1 (by decide))
    obtain ⟨f3, g3⟩ := gets_piece rfl f2 (sep_drop _ _) (pw 2 (by decide)).1 (pw 2 (by decide)).2 (way_lt x0 2 (by decide))
    have hlim : limN x0 ≤ 115 := by have := (fg_range x0 2 50 rfl).2; unfold limN; omega
    obtain ⟨lo1, lo2, lo3, lo4⟩ := hi_lo x0
    obtain ⟨un1, un2⟩ := unit_le x0
    have hbE := h4 _ (.head _)
    dsimp only at hbE
    simp only [List.length_cons] at h5
    have S₁ : ∀ ac : List AV, Strm pp ((ta, .list ac) :: (ρ₀ ++ (72, .obj (tabObj ps)) :: σ)) st cx cy := fun ac => by
      refine Strm.cons ?_ _
      obtain ⟨sd, rd, rc, ost, orc, fdS, qual, doc, pm, ctv, vs, tk, a, b, c, d, e, f, g, h⟩ := S₀.ex
      exact ⟨sd, rd, rc, ost, orc, fdS, qual, doc, pm, ctv, vs, tk, List.mem_append_left _ a, b, c, d, List.mem_append_left _ e, List.mem_append_left _ f, List.mem_append_left _ g, h⟩
    generalize hu1 : List.drop (1 - wayN x0 2 % 2) (sepN (wayN x0 5)) ++ fileT (ys.map (·.1)) = u1 at *
    have hu1' : leftN x0 (ys.map (·.1)) = u1 := hu1
    refine whl_sub (whl_c6 (I := fun q n ls us tks ac => Rdy t (unitN x0) (1 + t.count 10 - u1.count 10) u1 q (ls, us, tks) ∧ bfsE (limN x0) n q = true ∧ ac ++ (bfs (limN x0) n q).map (tolV (unitN x0) (1 + t.count 10 - u1.count 10) (t.length - u1.length)) = acc ++ toldR t x0 (ys.map (·.1)) ∧ (∀ p ∈ q, 1 ≤ p.2 ∧ p.2 < p.1 ∧ p.1 ≤ 10) ∧ ac.length + n ≤ acc.length + 29)
      (L := fun q _ _ _ _ _ => [("told", .ref ta), ("lexer", .ref x), ("place", .ref pl), ("limit", .int (limN x0)), ("unit", .int (unitN x0)), ("waiting", .int q.length)])
      (S := fun _ _ ls us tks ac => lexU x d st pb pl cx cy t ls us tks ((ta, .list ac) :: (ρ₀ ++ (72, .obj (tabObj ps)) :: σ))) (rank := fun _ n _ _ _ _ => n) (X := fun q _ _ _ _ _ => q = []) ?_ ?_
      [(hiN x0, loN x0)] 29 (1 + t.count 10 - u.count 10) u [] acc ⟨⟨_, g1, _, g2, _, g3, rfl⟩, hbE, ?_, ?_, Nat.le_refl _⟩) ?_ (.refl _)
    · intro q n ls us tks ac P' A hW hI
      refine a5 hI fun i1 i2 i3 i4 i5 => ?_
      clear hI
      walk_at "g"
      have hn1 := bfsE_len _ _ _ i2
      refine ⟨fun hq => ?_, fun hq => ?_⟩
      · have hq0 : 0 < q.length := by have := of_decide_eq_true hq; omega
        walk_at "g"
        refine cal_len_list (xs := ac) (by walk_at "mem") (by rw [sizeLine_eq]; omega) ?_
        walk_at "g"
        refine ⟨fun h60 => ?_, fun h60 => absurd (of_decide_eq_false h60) (by omega)⟩
        walk_at "g"
        refine ⟨fun _ => ?_, fun h => nomatch h⟩
        obtain ⟨p, q, rfl⟩ : ∃ p q', q = p :: q' := by
          cases q with
          | nil => simp at hq0
          | cons p q => exact ⟨p, q, rfl⟩
        obtain ⟨n, rfl⟩ : ∃ m, n = m + 1 := ⟨n - 1, by simp at hn1; omega⟩
        obtain ⟨b1, b2, b3⟩ := i4 p (.head _)
        have hwlt : ∀ k, k < 3 → unitN x0 * tri p.1 p.2 k < 16 ^ 10 := fun k hk => by
          have h1 := (tri_small ⟨p.1, by omega⟩ ⟨p.2, by omega⟩ ⟨k, hk⟩).1
          have h2 := Nat.mul_le_mul un2 h1
          exact Nat.lt_of_le_of_lt h2 (by decide)
        walk_at "g"
        refine cal_range1 fun rg og hog => ?_
        refine ⟨_, _, mk_range (.name _ _) (.head _) hog (by decide) (by decide) (by decide) (by decide), (fun p hp => by cases hp), fun D => ?_⟩
        have e0 : intsFrom 0 ((3 : Int) - 0).toNat = ([0, 1, 2] : List Nat).map fun n : Nat => AV.int n := rfl
        rw [e0]
        refine cmp_drop (σ' := (D, .list []) :: lexU x d st pb pl cx cy t ls us tks ((ta, .list ac) :: (ρ₀ ++ (72, .obj (tabObj ps)) :: σ))) ?_ (.cons₂ _ (.cons _ (.refl _))) (fun p hp => by cases hp)
        refine cmp_perm ?_ into6
        refine cmp_sub (cmp_c4 (L := [("lexer", .ref x)]) (S := fun la ua ka out => lexU x d st pb pl cx cy t la ua ka ((D, .list out) :: (ta, .list ac) :: (ρ₀ ++ (72, .obj (tabObj ps)) :: σ))) (g := fun n : Nat => AV.int n)
          (I := fun ks la ua ka out => ∃ ws : List Nat, ks.length = ws.length ∧ GetsL t (la, ua, ka) ws (1 + t.count 10 - u1.count 10, u1, (q.map (triW (unitN x0))).flatten) ∧ out ++ ws.map (fun w : Nat => AV.int w) = [.int (unitN x0 * tri p.1 p.2 0 : Nat), .int (unitN x0 * tri p.1 p.2 1 : Nat), .int (unitN x0 * tri p.1 p.2 2 : Nat)] ∧ ∀ w ∈ ws, w < 16 ^ 10) ?_ ?_ ?_ [0, 1, 2] ls us tks [] ?_) ?_
        · intro _ _ _ _ p hp; cases hp
        · intro kk ks la ua ka out A hC hI
          refine hI.elim fun ws hI2 => a4 hI2 fun m1 m2 m3 m4 => ?_
          clear hI hI2
          cases ws with
          | nil => cases m1
          | cons w ws =>
            obtain ⟨⟨la', ua', ka'⟩, gw, m2⟩ := m2
            have hw := m4 w (.head _)
            walk_at "g"
            refine ⟨sub_cons rfl sub_nil, ?_⟩
            try walk_at "g"
            refine ev_calG W 89 (by kernel_rfl!) ?_
            walk_at "g"
            refine ⟨_, _, gm_inst W.X cls_ok (x := x) (d := d) (es := nsL la st pb) (f := 49) (by walk_at "mem") (by walk_at "mem") (by kernel_rfl!) (by kernel_rfl!) rfl, ?_⟩
            walk_at "g"
            refine ⟨fun κ' h₂ l' R' => keeps_K (K := KK pp) (by kernel_rfl!) h₂ (W.X.keeps (l'.up R')), cal_of (get_any W ((S₁ ac).cons _) hlen gw ?_)⟩
            have hal := apN_len w 10 hw
            walk_at "g"
            refine cal_of (number W (by omega) (apN_head w) (fun v u _ => mul_smallr (by decide) (by decide)) ?_)
            rw [numOf_apN]
            refine hC _ out _ _ la' ua' ka' (out ++ [.int w]) (.tail (.tail (.tail (.tail (.tail (.tail .head)))))) ?_ ⟨ws, by simpa using m1, m2, by simpa using m3, fun v hv => m4 v (.tail _ hv)⟩ rfl
            have := congrArg List.length m3
            rw [sizeLine_eq]; simp at this; omega
        · rintro la ua ka out ⟨ws, m1, m2, m3, m4⟩
          obtain rfl : ws = [] := List.eq_nil_of_length_eq_zero m1.symm
          have m2 : (la, ua, ka) = (1 + t.count 10 - u1.count 10, u1, (q.map (triW (unitN x0))).flatten) := m2
          have e1 : _ = la := (congrArg (·.1) m2).symm
          have e2 : u1 = ua := (congrArg (·.2.1) m2).symm
          have e3 : _ = ka := (congrArg (·.2.2) m2).symm
          clear m2
          subst e1; subst e2; subst e3
          rw [List.map_nil, List.append_nil] at m3
          subst m3
          refine asg_tupleL (xs := [.int (unitN x0 * tri p.1 p.2 0 : Nat), .int (unitN x0 * tri p.1 p.2 1 : Nat), .int (unitN x0 * tri p.1 p.2 2 : Nat)]) (by walk_at "mem") ?_ (by kernel_rfl!) (fun _ => by kernel_rfl!)
          walk_at "g"
          refine ⟨_, _, gm_append (xs := ac) (by walk_at "mem"), ?_⟩
          walk_at "g"
          refine at_own W.X cls_ok (x := x) (d := d) (es := nsL _ st pb) (by walk_at "mem") (by walk_at "mem") (by kernel_rfl!) rfl (fun _ h => by cases h) ?_
          walk_at "g"
          have hpl : ∀ (l p : Nat) (tk : List AV) (τ : Sto), (pl, AO.list [.int p]) ∈ lexS x d st pb pl cx cy t l p tk τ := fun _ _ _ _ => .tail _ (.tail _ (.head _))
          refine ⟨plain_list (hpl _ _ _ _), get_list (hpl _ _ _ _) (by decide) (by decide) rfl ?_⟩
          walk_at "g"
          refine ⟨by rw [sizeLine_eq]; simp, ?_⟩
          walk_at "g"
          refine ⟨kpr_builtin, cal_append (xs := ac) (.tail (.tail (.tail (.tail (.tail (.tail (.tail .head))))))) (by rw [sizeLine_eq]; omega) ⟨rfl, ?_⟩⟩
          walk_at "g"
          refine ex_for ?_ (fun _ _ => rfl)
          walk_at "g"
          repeat ((first | (refine op_mul (mul_small (by decide) (by decide)) ?_) | (refine ⟨by rw [sizeLine_eq]; simp, ?_⟩)); walk_at "g")
          intro lt
          obtain ⟨k1, k2, k3⟩ := kid_int b2 b3 (unitN x0)
          rw [k1, k2, k3]
          have ek : [triT (unitN x0) (2 * p.1 - p.2, p.1), triT (unitN x0) (2 * p.1 + p.2, p.1), triT (unitN x0) (p.1 + 2 * p.2, p.2)] = (kidsP p).map (triT (unitN x0)) := rfl
          rw [ek]
          refine ⟨_, _, mk_list (.name _ _) (.head _), (fun p hp => by rw [List.mem_singleton.mp hp]; exact .head _), ?_⟩
          refine for_perm ?_ into6
          have hsrc : ∀ (l : Nat) (uu : List Nat) (tk : List AV) (τ : Sto), (lt, AO.list ((kidsP p).map (triT (unitN x0)))) ∈ lexU x d st pb pl cx cy t l uu tk ((lt, .list ((kidsP p).map (triT (unitN x0)))) :: τ) := fun _ _ _ _ => .tail _ (.tail _ (.tail _ (.tail _ (.tail _ (.tail _ (.head _))))))
          have hkid : ∀ z ∈ kidsP p, 1 ≤ z.2 ∧ z.2 < z.1 := fun z hz => by
            simp only [kidsP, List.mem_cons, List.not_mem_nil, or_false] at hz
            rcases hz with rfl | rfl | rfl <;> dsimp only <;> omega
          have hnext : bfsE (limN x0) n (q ++ (kidsP p).filter (okP (limN x0))) = true := i2
          have hnl := bfsE_len _ _ _ hnext
          refine for_sub (for_ind2 (ι := List (Nat × Nat)) (L := fun qq => [("told", .ref ta), ("lexer", .ref x), ("place", .ref pl), ("limit", .int (limN x0)), ("unit", .int (unitN x0)), ("waiting", .int qq.length)])
            (S := fun qq => lexU x d st pb pl cx cy t (1 + t.count 10 - u1.count 10) u1 ((qq.map (triW (unitN x0))).flatten) ((lt, .list ((kidsP p).map (triT (unitN x0)))) :: (D, .list [.int (unitN x0 * tri p.1 p.2 0 : Nat), .int (unitN x0 * tri p.1 p.2 1 : Nat), .int (unitN x0 * tri p.1 p.2 2 : Nat)]) :: (ta, .list (ac ++ [tolV (unitN x0) (1 + t.count 10 - u1.count 10) (t.length - u1.length) p])) :: (ρ₀ ++ (72, .obj (tabObj ps)) :: σ))) (g := triT (unitN x0))
            (I := fun zs qq => qq ++ zs.filter (okP (limN x0)) = q ++ (kidsP p).filter (okP (limN x0)) ∧ ∀ z ∈ zs, 1 ≤ z.2 ∧ z.2 < z.1) ?_ ?_ ?_ (kidsP p) q ⟨rfl, hkid⟩) ?_ (.refl _) ?_
          · intro i p hp; rw [List.mem_singleton.mp hp]; exact hsrc _ _ _ _
          · rintro ⟨m', n'⟩ zs qq P' A hK ⟨hz, hzk⟩
            obtain ⟨hk1, hk2⟩ := hzk _ (.head _)
            dsimp only at hk1 hk2
            have hql : qq.length ≤ n := by have := congrArg List.length hz; simp only [List.length_append] at this hnl; omega
            walk_at "g"
            refine ⟨plain_tup, get_tup (x := .int (unitN x0 * tri m' n' 2 : Nat)) (by decide) (by decide) rfl ?_⟩
            walk_at "g"
            refine op_mul (mul_small (by omega) (by omega)) ?_
            walk_at "g"
            have hdec : decide (((unitN x0 * tri m' n' 2 : Nat) : Int) ≤ (limN x0 : Int) * (unitN x0 : Int)) = okP (limN x0) (m', n') := by
              unfold okP
              refine decide_eq_decide.mpr ?_
              rw [← Int.natCast_mul, Int.ofNat_le, Nat.mul_comm (limN x0)]
              exact ⟨fun h => Nat.le_of_mul_le_mul_left h un1, fun h => Nat.mul_le_mul_left _ h⟩
            rw [hdec]
            have hfl : ∀ l : List (Nat × Nat), ((l.map (triW (unitN x0))).flatten).length = 3 * l.length := by
              intro l
              induction l with
              | nil => rfl
              | cons p q ih => simp only [List.map_cons, List.flatten_cons, List.length_append, ih]; simp [triW]; omega
            refine ⟨fun hok => ?_, fun hok => ?_⟩
            · obtain ⟨hk3, hk4⟩ := okP_le hok hlim
              walk_at "g"
              refine ex_for ?_ (fun _ _ => rfl)
              walk_at "g"
              refine ⟨_, _, mk_tup (.name _ _), (fun p hp => by cases hp), ?_⟩
              show For _ _ _ _ _ _ (([0, 1, 2] : List Nat).map fun k => AV.int (unitN x0 * tri m' n' k : Nat)) _ _ _
              refine for_sub (for_ind2 (ι := List AV) (L := fun tk => [("told", .ref ta), ("lexer", .ref x), ("place", .ref pl), ("limit", .int (limN x0)), ("unit", .int (unitN x0)), ("waiting", .int (qq.length + 1))])
                (S := fun tk => lexU x d st pb pl cx cy t (1 + t.count 10 - u1.count 10) u1 tk ((lt, .list ((kidsP p).map (triT (unitN x0)))) :: (D, .list [.int (unitN x0 * tri p.1 p.2 0 : Nat), .int (unitN x0 * tri p.1 p.2 1 : Nat), .int (unitN x0 * tri p.1 p.2 2 : Nat)]) :: (ta, .list (ac ++ [tolV (unitN x0) (1 + t.count 10 - u1.count 10) (t.length - u1.length) p])) :: (ρ₀ ++ (72, .obj (tabObj ps)) :: σ)))
                (g := fun k => AV.int (unitN x0 * tri m' n' k : Nat)) (I := fun ks tk => tk ++ ks.map (fun k => wrd (unitN x0 * tri m' n' k)) = (qq.map (triW (unitN x0))).flatten ++ triW (unitN x0) (m', n') ∧ ∀ k ∈ ks, k < 3) ?_ ?_ ?_ [0, 1, 2] _ ⟨rfl, by decide⟩) (sub_cons rfl (sub_cons rfl (sub_cons rfl (sub_cons rfl (sub_cons rfl (sub_cons rfl sub_nil)))))) (.refl _) (fun p hp => by cases hp)
              · intro i p hp; cases hp
              · rintro kk ks tk P' A hT ⟨y1, y2⟩
                have hkk := y2 kk (.head _)
                have htl : tk.length ≤ 1000000 := by
                  have := congrArg List.length y1
                  simp only [List.length_append, hfl] at this
                  simp [triW] at this; omega
                obtain ⟨ts1, ts2⟩ := tri_small ⟨m', by omega⟩ ⟨n', by omega⟩ ⟨kk, hkk⟩
                dsimp only at ts1 ts2
                have ts3 := Nat.mul_le_mul un2 ts1
                have ts4 := Nat.mul_le_mul un1 (ts2 hk1 hk2)
                walk_at "g"
                refine ⟨_, _, gm_inst W.X cls_ok (x := x) (d := d) (es := nsL _ st pb) (f := 56) (by walk_at "mem") (by walk_at "mem") (by kernel_rfl!) (by kernel_rfl!) rfl, ?_⟩
                walk_at "g"
                refine ev_calG W 21 (by kernel_rfl!) ?_
                walk_at "g"
                refine cal_of (int2ap W (by rw [Int.natAbs_natCast]; exact Nat.lt_of_le_of_lt ts3 (by decide)) ?_)
                rw [Int.natAbs_natCast]
                refine ⟨_, _, gm_decode, ?_⟩
                walk_at "g"
                refine ⟨kpr_builtin, cal_decode (ap_ne (by omega)) (fun c hc => by have := ap_rng _ c hc; omega) (by have := ap_len _ 10 (Nat.lt_of_le_of_lt ts3 (by decide)); omega) ?_⟩
                walk_at "g"
                refine ⟨fun κ' h₂ l' R' => keeps_K (K := KK pp) (by kernel_rfl!) h₂ (W.X.keeps (l'.up R')), cal_of (push_token W htl ⟨rfl, ?_⟩)⟩
                walk_at "g"
                refine hT (tk ++ [wrd (unitN x0 * tri m' n' kk)]) _ _ ⟨by rw [← y1]; simp, fun k hk => y2 k (.tail _ hk)⟩ (sub_cons rfl (sub_cons rfl (sub_cons rfl (sub_cons rfl (sub_cons rfl (sub_cons rfl sub_nil)))))) (.refl _)
              · rintro tk ⟨y1, y2⟩
                walk_at "g"
                rw [List.map_nil, List.append_nil] at y1
                subst y1
                refine hK (qq ++ [(m', n')]) _ _ ⟨?_, fun z hz => hzk z (.tail _ hz)⟩ (sub_cons rfl (sub_cons rfl (sub_cons rfl (sub_cons rfl (sub_cons rfl (sub_cons ?_ sub_nil)))))) ?_
                · rw [← hz, List.filter_cons_of_pos hok]; simp
                · rw [List.length_append]; rfl
                · rw [List.map_append, List.flatten_append]; simp only [List.map_cons, List.map_nil, List.flatten_cons, List.flatten_nil, List.append_nil]; exact .refl _
            · walk_at "g"
              refine hK qq _ _ ⟨?_, fun z hz => hzk z (.tail _ hz)⟩ (sub_cons rfl (sub_cons rfl (sub_cons rfl (sub_cons rfl (sub_cons rfl (sub_cons rfl sub_nil)))))) (.refl _)
              rw [← hz, List.filter_cons_of_neg (by rw [hok]; decide)]
          · rintro qq ⟨hz, _⟩
            rw [List.filter_nil, List.append_nil] at hz
            subst hz
            walk_at "g"
            refine hW (q ++ (kidsP p).filter (okP (limN x0))) n (1 + t.count 10 - u1.count 10) u1 (((q ++ (kidsP p).filter (okP (limN x0))).map (triW (unitN x0))).flatten) (ac ++ [tolV (unitN x0) (1 + t.count 10 - u1.count 10) (t.length - u1.length) p]) _ _ ⟨rdy_back _ (Nat.le_trans hnl (by omega)), hnext, ?_, ?_, ?_⟩ ?_ (sub_cons rfl (sub_cons rfl (sub_cons rfl (sub_cons rfl (sub_cons rfl (sub_cons rfl sub_nil)))))) ?_
            · rw [← i3]; simp [bfs]
            · intro z hz
              rcases List.mem_append.mp hz with hz | hz
              · exact i4 z (.tail _ hz)
              · obtain ⟨z1, z2⟩ := List.mem_filter.mp hz
                have := hkid z z1
                exact ⟨this.1, this.2, (okP_le (m := z.1) (n := z.2) z2 hlim).1⟩
            · rw [List.length_append]; simp only [List.length_cons, List.length_nil]; omega
            · omega
            · exact (List.Sublist.refl [_, _, _, _, _, _]).append (.cons _ (.cons _ (.refl _)))
          · exact sub_cons rfl (sub_cons rfl (sub_cons rfl (sub_cons rfl (sub_cons rfl (sub_cons (by show some (AV.int _) = some (AV.int _); congr 2; simp) sub_nil)))))
          · intro p hp; rw [List.mem_singleton.mp hp]; exact hsrc _ _ _ _
        · exact ⟨[unitN x0 * tri p.1 p.2 0, unitN x0 * tri p.1 p.2 1, unitN x0 * tri p.1 p.2 2], rfl, i1, rfl, fun w hw => by
            simp only [List.mem_cons, List.not_mem_nil, or_false] at hw
            rcases hw with rfl | rfl | rfl
            · exact hwlt 0 (by decide)
            · exact hwlt 1 (by decide)
            · exact hwlt 2 (by decide)⟩
        · exact sub_cons (by kernel_rfl!) sub_nil
      · obtain rfl : q = [] := by
          cases q with
          | nil => rfl
          | cons a q => exact absurd (of_decide_eq_false hq) (by simp)
        exact ⟨fun h => (nomatch h), fun _ => ⟨rfl, rfl⟩⟩
    · rintro q n ls us tks ac hI rfl
      refine a5 hI fun i1 i2 i3 i4 i5 => ?_
      clear hI
      have i1 : (ls, us, tks) = (1 + t.count 10 - u1.count 10, u1, []) := i1
      have e1 : _ = ls := (congrArg (·.1) i1).symm
      have e2 : u1 = us := (congrArg (·.2.1) i1).symm
      have e3 : [] = tks := (congrArg (·.2.2) i1).symm
      clear i1
      subst e1; subst e2; subst e3
      have i3' : ac = acc ++ toldR t x0 (ys.map (·.1)) := by
        have : bfs (limN x0) n [] = [] := by cases n <;> rfl
        rw [this] at i3; simpa using i3
      walk_at "g"
      refine hA u1 ac _ _ ⟨⟨_, sep_drop _ _, hu1.symm⟩, f3, ?_, fun r hr => h4 r (.tail _ hr), ?_⟩ (sub_cons rfl (sub_cons rfl (sub_cons rfl sub_nil))) (.refl _)
      · rw [← h3, i3', List.append_assoc]; rfl
      · omega
    · unfold toldR; rw [hu1']
    · intro p hp; rw [List.mem_singleton.mp hp]; exact ⟨lo1, lo3, by dsimp only; omega⟩
    · exact sub_cons rfl (sub_cons rfl (sub_cons rfl (sub_cons rfl (sub_cons rfl (sub_cons rfl sub_nil)))))
  · rintro u acc ⟨⟨bl, h0, h1⟩, h2, h3, h4, h5⟩
    have h1 : u = bl := by simpa [fileT] using h1
    have h3 : acc = toldL t (rs.map (·.1)) := by simpa [toldL] using h3
    subst h1; subst h3
    walk_at "g"
    refine ⟨_, _, gm_inst W.X cls_ok (x := x) (d := d) (es := nsL _ st pb) (f := 49) (by walk_at "mem") (by walk_at "mem") (by kernel_rfl!) (by kernel_rfl!) rfl, ?_⟩
    walk_at "g"
    have S₂ : Strm pp ((ta, .list (toldL t (rs.map (·.1)))) :: (ρ₀ ++ (72, .obj (tabObj ps)) :: σ)) st cx cy := by
      refine Strm.cons ?_ _
      obtain ⟨sd, rd, rc, ost, orc, fdS, qual, doc, pm, ctv, vs, tk, a, b, c, d, e, f, g, h⟩ := S₀.ex
      exact ⟨sd, rd, rc, ost, orc, fdS, qual, doc, pm, ctv, vs, tk, List.mem_append_left _ a, b, c, d, List.mem_append_left _ e, List.mem_append_left _ f, List.mem_append_left _ g, h⟩
    have hc := h2.sublist.count_le 10
    have hend : rdO 1 u = some ([], []) := by
      have := rdO_ws u 1 [] h0
      rw [List.append_nil] at this
      rw [this]; rfl
    refine ⟨fun κ' h₂ l' R' => keeps_K (K := KK pp) (by kernel_rfl!) h₂ (W.X.keeps (l'.up R')), cal_of (get_text W S₂ hlen h2 hend (ln' := 1 + t.count 10) (by simp; omega) ?_)⟩
    walk_at "g"
    refine at_own W.X cls_ok (x := x) (d := d) (es := nsL _ st pb) (by walk_at "mem") (by walk_at "mem") (by kernel_rfl!) rfl (fun _ h => by cases h) ?_
    walk_at "g"
    have hpl : ∀ (l p : Nat) (tk : List AV) (τ : Sto), (pl, AO.list [.int p]) ∈ lexS x d st pb pl cx cy t l p tk τ := fun _ _ _ _ => .tail _ (.tail _ (.head _))
    refine ⟨plain_list (hpl _ _ _ _), get_list (hpl _ _ _ _) (by decide) (by decide) rfl ?_⟩
    walk_at "g"
    refine at_own W.X cls_ok (x := x) (d := d) (es := nsL _ st pb) (by walk_at "mem") (by walk_at "mem") (by kernel_rfl!) rfl (fun _ h => by cases h) ?_
    walk_at "g"
    refine ⟨by rw [sizeLine_eq]; simp, ?_⟩
    walk_at "g"
    refine ⟨by rw [sizeLine_eq]; simp, ?_⟩
    walk_at "g"
    refine ⟨(pb, .list []) :: (ta, .list (toldL t (rs.map (·.1)))) :: (72, .obj (tabObj ps)) :: σ, .cons _ (.cons _ (.cons _ (.cons _ (.cons _ (.cons₂ _ (.cons₂ _ (List.sublist_append_right _ _))))))), ?_⟩
    exact q ta pb ps
  · exact ⟨⟨[], (fun c hc => by cases hc), ht.symm⟩, List.suffix_refl t, rfl, hb, by simp; omega⟩
  · exact sub_cons rfl (sub_cons rfl (sub_cons rfl sub_nil))
  · have e : 1 + t.count 10 - t.count 10 = 1 := by omega
    rw [e]
    exact .refl _
  · intro p hp; rw [List.mem_singleton.mp hp]; exact .tail _ (.tail _ (.tail _ (.tail _ (.tail _ (.tail _ (.tail _ hmm))))))
theorem ok_due (X : (KK pp).In Γ.hB) : FnOk Γ 120 (fdOf (KK pp) 120) (bodyOf (fdOf (KK pp) 120)) ["high", "low", "limit"] := fnOkB X (by kernel_rfl!) (bind3 fun _ _ _ => by kernel_rfl!)
/-- a climb -/
noncomputable def stopC (hi lo p q : Nat) : Bool := (p == hi && q == lo) || p == 2 * q || p == 3 * q
noncomputable def climb (hi lo : Nat) : Nat → Nat × Nat × Nat × Nat → Nat × Nat × Nat × Nat
  | 0, s => s
  | n + 1, (p, q, w, a) => if stopC hi lo p q then (p, q, w, a) else if p < 2 * q then climb hi lo n (q, 2 * q - p, 3 * w, a) else if p < 3 * q then climb hi lo n (q, p - 2 * q, 3 * w, a + w) else climb hi lo n (p - 2 * q, q, 3 * w, a + 2 * w)
noncomputable def triA (m n : Nat) : AV := .tup [.int (tri m n 0 : Nat), .int (tri m n 1 : Nat), .int (tri m n 2 : Nat)]
noncomputable def dueOf (hi lo lim : Nat) (p : Nat × Nat) : List (Nat × Nat × Nat × Nat) :=
  if tri p.1 p.2 2 ≤ lim then (let s := climb hi lo 20 (p.1, p.2, 1, 0); if s.1 == hi && s.2.1 == lo then [(s.2.2.1, s.2.2.2, p.1, p.2)] else []) else []
noncomputable def dueM (hi lo lim m : Nat) : List (Nat × Nat × Nat × Nat) := ((List.range' 1 (m - 1)).map fun n => dueOf hi lo lim (m, n)).flatten
noncomputable def dueAll (hi lo lim : Nat) : List (Nat × Nat × Nat × Nat) := ((List.range' 2 9).map (dueM hi lo lim)).flatten
noncomputable def dK3 (x : Nat × Nat × Nat × Nat) : K3 := (x.1, x.2.1, triA x.2.2.1 x.2.2.2)
theorem intsFrom_nat : ∀ (n a : Nat), intsFrom (a : Int) n = (List.range' a n).map fun k : Nat => AV.int k
  | 0, _ => rfl
  | n + 1, a => by
    show AV.int a :: intsFrom ((a : Int) + 1) n = _
    rw [show (a : Int) + 1 = ((a + 1 : Nat) : Int) from by omega, intsFrom_nat n (a + 1)]
    rfl
theorem eqv_pair (a b c d : Int) : PyData.eqv (.tuple [.int a, .int b]) (.tuple [.int c, .int d]) = (a == c && b == d) := by simp [PyData.eqv, PyData.eqvAll]
theorem avd_pair (a b : Int) : AvD σ (.tup [.int a, .int b]) (.tuple [.int a, .int b]) := .tup (.cons (.int _) (.cons (.int _) .nil))
theorem nt {b : Bool} (h : (!b) = true) : b = false := by cases b <;> simp_all
theorem nf {b : Bool} (h : (!b) = false) : b = true := by cases b <;> simp_all
theorem lay2 (x y : Int) : PyData.canLay0 (.tuple [.int x, .int y]) = true := by simp [PyData.canLay0, PyData.canLayAll0]
theorem dep2 (x y : Int) : PyData.depth (.tuple [.int x, .int y]) ≤ 40 := by simp [PyData.depth, PyData.depthAll]
theorem nat_beq (p h : Nat) : ((p : Int) == h) = (p == h) := by rw [Bool.eq_iff_iff]; simp only [beq_iff_eq]; omega
theorem stop_int (hi lo p q : Nat) : stopC hi lo p q = (((p : Int) == hi && (q : Int) == lo) || (p : Int) == 2 * q || (p : Int) == 3 * q) := by
  unfold stopC
  have b3 : ((p : Int) == 2 * q) = (p == 2 * q) := by rw [Bool.eq_iff_iff]; simp; omega
  have b4 : ((p : Int) == 3 * q) = (p == 3 * q) := by rw [Bool.eq_iff_iff]; simp; omega
  rw [nat_beq, nat_beq, b3, b4]
theorem climb_eq (hi lo : Nat) {f p q : Nat} (w a : Nat) (h : 0 < f) : climb hi lo f (p, q, w, a) = if stopC hi lo p q then (p, q, w, a) else if p < 2 * q then climb hi lo (f - 1) (q, 2 * q - p, 3 * w, a) else if p < 3 * q then climb hi lo (f - 1) (q, p - 2 * q, 3 * w, a + w) else climb hi lo (f - 1) (p - 2 * q, q, 3 * w, a + 2 * w) := by
  cases f with
  | zero => cases h
  | succ f => rfl
theorem due (W : Wd Γ (KK pp) mg mb) {hi lo lim : Nat} (hh : hi < 100) (hlo : lo < 100) (ok : okK ((dueAll hi lo lim).map dK3) = true) (hl : (dueAll hi lo lim).length < 64) {P : AV → Sto → Prop}
    (q : ∀ a, P (.ref a) ((a, .list ((srtK ((dueAll hi lo lim).map dK3)).map fun x => x.2.2)) :: σ)) : CalC Γ (k + 3) (.ref 120) [.int hi, .int lo, .int lim] σ P := by
  refine fn_defB W.ok (ok_due W.X) rfl (by kernel_rfl!) (by kernel_rfl!) ?_
  refine exs_cons ?_
  walk_at "g"
  refine ⟨by rw [sizeLine_eq]; simp, fun da => ?_⟩
  walk_at "g"
  refine ex_for ?_ (fun _ _ => rfl)
  walk_at "g"
  refine cal_range2 fun rg og hog => ?_
  refine ⟨_, _, mk_range (.name _ _) (.head _) hog (by decide) (by decide) (by decide) (by decide), (fun p hp => by cases hp), ?_⟩
  rw [show intsFrom (2 : Int) ((11 : Int) - 2).toNat = (List.range' 2 9).map fun k : Nat => AV.int k from intsFrom_nat 9 2]
  refine for_sub (σ' := (da, .list []) :: σ) (for_ind2 (ι := List (Nat × Nat × Nat × Nat)) (L := fun _ => [("due", .ref da), ("high", .int hi), ("low", .int lo), ("limit", .int lim)]) (S := fun acc => (da, .list ((acc.map dK3).map k3)) :: σ) (g := fun k : Nat => AV.int k)
    (I := fun ms acc => acc ++ (ms.map (dueM hi lo lim)).flatten = dueAll hi lo lim ∧ ∀ m ∈ ms, 2 ≤ m ∧ m ≤ 10) ?_ ?_ ?_ (List.range' 2 9) [] ⟨by unfold dueAll; exact List.nil_append _, by decide⟩) (sub_cons rfl (sub_cons rfl (sub_cons rfl (sub_cons rfl sub_nil)))) (.cons _ (.refl _)) (fun p hp => by cases hp)
  · intro i p hp; cases hp
  · rintro m ms acc P' A hA ⟨h1, h2⟩
    obtain ⟨m1, m2⟩ := h2 m (.head _)
    walk_at "g"
    refine ex_for ?_ (fun _ _ => rfl)
    walk_at "g"
    refine cal_range2 fun rg og hog => ?_
    refine ⟨_, _, mk_range (.name _ _) (.head _) hog (by decide) (by decide) (by omega) (by omega), (fun p hp => by cases hp), ?_⟩
    rw [show intsFrom (1 : Int) ((m : Int) - 1).toNat = (List.range' 1 (m - 1)).map fun k : Nat => AV.int k from by
      rw [show ((m : Int) - 1).toNat = m - 1 from by omega]; exact intsFrom_nat (m - 1) 1]
    refine for_sub (σ' := (da, .list ((acc.map dK3).map k3)) :: σ) (for_ind2 (ι := List (Nat × Nat × Nat × Nat)) (L := fun _ => [("due", .ref da), ("high", .int hi), ("low", .int lo), ("limit", .int lim), ("m", .int m)]) (S := fun ac => (da, .list ((ac.map dK3).map k3)) :: σ) (g := fun k : Nat => AV.int k)
      (I := fun ns ac => ac ++ (ns.map fun n => dueOf hi lo lim (m, n)).flatten = acc ++ dueM hi lo lim m ∧ ∀ n ∈ ns, 1 ≤ n ∧ n < m) ?_ ?_ ?_ (List.range' 1 (m - 1)) acc ⟨by unfold dueM; rfl, fun n hn => by rw [List.mem_range'_1] at hn; omega⟩) (sub_cons rfl (sub_cons rfl (sub_cons rfl (sub_cons rfl (sub_cons rfl sub_nil))))) (.cons _ (.refl _)) (fun p hp => by cases hp)
    · intro i p hp; cases hp
    · rintro n ns ac P' A hB ⟨h3, h4⟩
      obtain ⟨n1, n2⟩ := h4 n (.head _)
      walk_at "g"
      refine op_mul (mul_small (by omega) (by omega)) ?_
      walk_at "g"
      refine op_mul (mul_small (by omega) (by omega)) ?_
      walk_at "g"
      have etri : (m : Int) * m + n * n = (tri m n 2 : Nat) := (tri_int n2).2.2
      rw [etri]
      have ht2 : tri m n 2 ≤ 200 := (tri_small ⟨m, by omega⟩ ⟨n, by omega⟩ ⟨2, by decide⟩).1
      refine ⟨fun hb => ?_, fun hb => ?_⟩
      · have hb : ¬ tri m n 2 ≤ lim := by have := of_decide_eq_true hb; omega
        walk_at "g"
        refine hB ac _ _ ⟨?_, fun n hn => h4 n (.tail _ hn)⟩ (sub_cons rfl (sub_cons rfl (sub_cons rfl (sub_cons rfl (sub_cons rfl sub_nil))))) (.refl _)
        rw [← h3]; simp [dueOf, hb]
      · have hb3 : tri m n 2 ≤ lim := by have := of_decide_eq_false hb; omega
        clear hb
        walk_at "g"
        refine ⟨by rw [sizeLine_eq]; simp, ?_⟩
        walk_at "g"
        refine whl_sub (whl_c5 (I := fun f p q w a => climb hi lo f (p, q, w, a) = climb hi lo 20 (m, n, 1, 0) ∧ 1 ≤ q ∧ q < p ∧ p + q ≤ f ∧ f ≤ 20)
          (L := fun _ p q w a => [("due", .ref da), ("high", .int hi), ("low", .int lo), ("limit", .int lim), ("m", .int m), ("n", .int n), ("p", .int (p : Nat)), ("q", .int (q : Nat)), ("weight", .int (w : Nat)), ("path", .int (a : Nat))]) (S := fun _ _ _ _ _ => (da, .list ((ac.map dK3).map k3)) :: σ) (rank := fun f _ _ _ _ => f) (X := fun _ p q _ _ => stopC hi lo p q = true) ?_ ?_
          20 m n 1 0 ⟨rfl, n1, n2, by omega, Nat.le_refl _⟩) (sub_cons rfl (sub_cons rfl (sub_cons rfl (sub_cons rfl (sub_cons rfl (sub_cons rfl (sub_cons rfl (sub_cons rfl (sub_cons rfl (sub_cons rfl sub_nil)))))))))) (.refl _)
        · intro f p q w a P' A hW hI
          refine a5 hI fun c1 c2 c3 c4 c5 => ?_
          clear hI
          have hst := climb_eq hi lo (f := f) (p := p) (q := q) w a (by omega)
          refine ts_mono (P := fun b σ' => b = (!stopC hi lo p q) ∧ σ' = (da, .list ((ac.map dK3).map k3)) :: σ) ?_ ?_
          · rw [stop_int]
            walk_at "g"
            refine ⟨by rw [sizeLine_eq]; simp, ?_⟩
            walk_at "g"
            refine ⟨by rw [sizeLine_eq]; simp, op_ne_deep (avd_pair _ _) (avd_pair _ _) (lay2 _ _) (lay2 _ _) (dep2 _ _) ?_⟩
            rw [eqv_pair]
            walk_at "g"
            refine ⟨fun t1 => ?_, fun t1 => ?_⟩
            · have t1 : ((p : Int) == hi && (q : Int) == lo) = false := nt t1
              rw [t1]
              walk_at "g"
              refine op_mul (by first | exact mul_two | exact mul_three) ?_
              walk_at "g"
              refine ⟨fun t2 => ?_, fun t2 => ?_⟩
              · have t2 : ((p : Int) == 2 * q) = false := nt t2
                rw [t2]
                walk_at "g"
                refine op_mul (by first | exact mul_two | exact mul_three) ?_
                walk_at "g"
                refine ⟨fun t3 => ?_, fun t3 => ?_⟩
                · have t3 : ((p : Int) == 3 * q) = false := nt t3
                  rw [t3]
                  walk_at "g"
                  exact ⟨rfl, rfl⟩
                · have t3 : ((p : Int) == 3 * q) = true := nf t3
                  rw [t3]
                  exact ⟨rfl, rfl⟩
              · have t2 : ((p : Int) == 2 * q) = true := nf t2
                rw [t2]
                exact ⟨by simp, rfl⟩
            · have t1 : ((p : Int) == hi && (q : Int) == lo) = true := nf t1
              rw [t1]
              exact ⟨by simp, rfl⟩
          · rintro b _ ⟨hb, rfl⟩
            refine ⟨fun hb2 => ?_, fun hb2 => ?_⟩
            · subst hb2
              have hs : stopC hi lo p q = false := by simpa using hb.symm
              rw [hst, hs, if_neg (by decide)] at c1
              have hs' : p ≠ 2 * q ∧ p ≠ 3 * q := by
                unfold stopC at hs
                simp only [Bool.or_eq_false_iff, beq_eq_false_iff_ne] at hs
                exact ⟨hs.1.2, hs.2⟩
              walk_at "g"
              refine op_mul (by first | exact mul_two | exact mul_three) ?_
              walk_at "g"
              refine ⟨fun u1 => ?_, fun u1 => ?_⟩
              · have u1 : p < 2 * q := by have := of_decide_eq_true u1; omega
                rw [if_pos u1] at c1
                refine exs_cons (ex_swapped ["p", "q"] ?_ (fun _ _ => by kernel_rfl!) (fun env fe => by have e := fe.scope; cases env; dsimp only at e; subst e; kernel_rfl!))
                walk_at "g"
                refine op_mul (by first | exact mul_two | exact mul_three) ?_
                walk_at "g"
                refine ⟨by rw [sizeLine_eq]; simp, _, rfl, rfl, asgN_cons (by kernel_rfl!) (asgN_cons (by kernel_rfl!) (asgN_nil ?_))⟩
                walk_at "g"
                refine op_mul (mul_smallr (by decide) (by decide)) ?_
                walk_at "g"
                refine hW (f - 1) q (2 * q - p) (3 * w) a _ _ ⟨c1, by omega, by omega, by omega, by omega⟩ (by omega) (sub_cons rfl (sub_cons rfl (sub_cons rfl (sub_cons rfl (sub_cons rfl (sub_cons rfl (sub_cons rfl (sub_cons ?_ (sub_cons ?_ (sub_cons rfl sub_nil)))))))))) (.refl _)
                · show some (AV.int _) = some (AV.int _); congr 2; omega
                · show some (AV.int _) = some (AV.int _); congr 2; omega
              · have u1 : ¬ p < 2 * q := by have := of_decide_eq_false u1; omega
                rw [if_neg u1] at c1
                walk_at "g"
                refine op_mul (by first | exact mul_two | exact mul_three) ?_
                walk_at "g"
                refine ⟨fun u2 => ?_, fun u2 => ?_⟩
                · have u2 : p < 3 * q := by have := of_decide_eq_true u2; omega
                  rw [if_pos u2] at c1
                  refine exs_cons (ex_swapped ["p", "q", "path"] ?_ (fun _ _ => by kernel_rfl!) (fun env fe => by have e := fe.scope; cases env; dsimp only at e; subst e; kernel_rfl!))
                  walk_at "g"
                  refine op_mul (by first | exact mul_two | exact mul_three) ?_
                  walk_at "g"
                  refine ⟨by rw [sizeLine_eq]; simp, _, rfl, rfl, asgN_cons (by kernel_rfl!) (asgN_cons (by kernel_rfl!) (asgN_cons (by kernel_rfl!) (asgN_nil ?_)))⟩
                  walk_at "g"
                  refine op_mul (mul_smallr (by decide) (by decide)) ?_
                  walk_at "g"
                  refine hW (f - 1) q (p - 2 * q) (3 * w) (a + w) _ _ ⟨c1, by omega, by omega, by omega, by omega⟩ (by omega) (sub_cons rfl (sub_cons rfl (sub_cons rfl (sub_cons rfl (sub_cons rfl (sub_cons rfl (sub_cons rfl (sub_cons ?_ (sub_cons ?_ (sub_cons rfl sub_nil)))))))))) (.refl _)
                  · show some (AV.int _) = some (AV.int _); congr 2; omega
                  · show some (AV.int _) = some (AV.int _); congr 2; omega
                · have u2 : ¬ p < 3 * q := by have := of_decide_eq_false u2; omega
                  rw [if_neg u2] at c1
                  refine exs_cons (ex_swapped ["p", "path"] ?_ (fun _ _ => by kernel_rfl!) (fun env fe => by have e := fe.scope; cases env; dsimp only at e; subst e; kernel_rfl!))
                  walk_at "g"
                  refine op_mul (by first | exact mul_two | exact mul_three) ?_
                  walk_at "g"
                  refine op_mul (by first | exact mul_two | exact mul_three) ?_
                  walk_at "g"
                  refine ⟨by rw [sizeLine_eq]; simp, _, rfl, rfl, asgN_cons (by kernel_rfl!) (asgN_cons (by kernel_rfl!) (asgN_nil ?_))⟩
                  walk_at "g"
                  refine op_mul (mul_smallr (by decide) (by decide)) ?_
                  walk_at "g"
                  refine hW (f - 1) (p - 2 * q) q (3 * w) (a + 2 * w) _ _ ⟨c1, by omega, by omega, by omega, by omega⟩ (by omega) (sub_cons rfl (sub_cons rfl (sub_cons rfl (sub_cons rfl (sub_cons rfl (sub_cons rfl (sub_cons ?_ (sub_cons rfl (sub_cons ?_ (sub_cons ?_ sub_nil)))))))))) (.refl _)
                  · show some (AV.int _) = some (AV.int _); congr 2; omega
                  · show some (AV.int _) = some (AV.int _); congr 2; omega
                  · show some (AV.int _) = some (AV.int _); congr 2
            · subst hb2; exact ⟨by simpa using hb.symm, rfl⟩
        · intro f p q w a hI hs
          refine a5 hI fun c1 c2 c3 c4 c5 => ?_
          clear hI
          have hst := climb_eq hi lo (f := f) (p := p) (q := q) w a (by omega)
          rw [hst, hs, if_pos rfl] at c1
          walk_at "g"
          refine ⟨by rw [sizeLine_eq]; simp, ?_⟩
          walk_at "g"
          refine ⟨by rw [sizeLine_eq]; simp, op_eq_deep (avd_pair _ _) (avd_pair _ _) (lay2 _ _) (lay2 _ _) (dep2 _ _) ?_⟩
          rw [eqv_pair]
          rw [nat_beq, nat_beq]
          have hd : dueOf hi lo lim (m, n) = if p == hi && q == lo then [(w, a, m, n)] else [] := by
            unfold dueOf
            dsimp only
            rw [if_pos hb3, ← c1]
          have hacl : ac.length ≤ 100 := by
            have e1 := congrArg List.length h3
            have e2 := congrArg List.length h1
            simp only [List.map_cons, List.flatten_cons, List.length_append] at e1 e2
            omega
          walk_at "g"
          refine ⟨fun v1 => ?_, fun v1 => ?_⟩
          · rw [v1, if_pos rfl] at hd
            walk_at "g"
            refine ⟨_, _, gm_append (xs := (ac.map dK3).map k3) (.head _), ?_⟩
            walk_at "g"
            refine ev_calG W 103 (by kernel_rfl!) ?_
            walk_at "g"
            obtain ⟨t0, t1, t2⟩ := tri_int n2
            refine cal_of (triple W ?_ (mul_small (by omega) (by omega)) (mul_small (by omega) (by omega)) (mul_small (by omega) (by omega)) (mul_small (by omega) (by omega)))
            rw [t0, t1, t2]
            walk_at "g"
            refine ⟨by rw [sizeLine_eq]; simp, ?_⟩
            walk_at "g"
            refine ⟨kpr_builtin, cal_append (xs := (ac.map dK3).map k3) .head (by rw [sizeLine_eq]; simp; omega) ⟨rfl, ?_⟩⟩
            walk_at "g"
            refine hB (ac ++ [(w, a, m, n)]) _ _ ⟨?_, fun n hn => h4 n (.tail _ hn)⟩ (sub_cons rfl (sub_cons rfl (sub_cons rfl (sub_cons rfl (sub_cons rfl sub_nil))))) ?_
            · rw [← h3, List.map_cons, List.flatten_cons, hd]; simp
            · rw [List.map_append, List.map_append]; exact .refl _
          · rw [v1, if_neg (by decide)] at hd
            walk_at "g"
            refine hB ac _ _ ⟨?_, fun n hn => h4 n (.tail _ hn)⟩ (sub_cons rfl (sub_cons rfl (sub_cons rfl (sub_cons rfl (sub_cons rfl sub_nil))))) (.refl _)
            rw [← h3, List.map_cons, List.flatten_cons, hd]; simp
    · rintro ac ⟨h3, _⟩
      walk_at "g"
      refine hA ac _ _ ⟨?_, fun n hn => h2 n (.tail _ hn)⟩ (sub_cons rfl (sub_cons rfl (sub_cons rfl (sub_cons rfl sub_nil)))) (.refl _)
      have h3 : ac = acc ++ dueM hi lo lim m := by simpa using h3
      rw [h3, ← h1]; simp
  · rintro acc ⟨h1, _⟩
    have h1 : acc = dueAll hi lo lim := by simpa using h1
    subst h1
    walk_at "g"
    refine cal_sorted3 (ks := (dueAll hi lo lim).map dK3) (.head _) (by rw [List.length_map]; exact hl) ok fun sb => ?_
    refine ⟨_, _, mk_list (.tup _ _ _) (.head _), (fun p hp => by rw [List.mem_singleton.mp hp]; exact .head _), fun D => ?_⟩
    have hsl : (srtK ((dueAll hi lo lim).map dK3)).length ≤ 100 := by
      have ok' := ok
      unfold okK at ok'
      unfold srtK
      split
      · rw [List.length_map]; omega
      · rename_i hn
        rw [decide_eq_false hn, Bool.false_or, Bool.and_eq_true, Bool.and_eq_true] at ok'
        rw [List.length_map, of_decide_eq_true ok'.1.2, List.length_map]; omega
    refine cmp_sub (cmp_ind2 (ι := List K3) (L := []) (S := fun ac => (D, .list (ac.map fun x => x.2.2)) :: (sb, .list ((srtK ((dueAll hi lo lim).map dK3)).map k3)) :: (da, .list (((dueAll hi lo lim).map dK3).map k3)) :: σ) (g := k3)
      (I := fun ys ac => ac ++ ys = srtK ((dueAll hi lo lim).map dK3)) ?_ ?_ ?_ (srtK ((dueAll hi lo lim).map dK3)) [] rfl) sub_nil
    · intro i p hp; rw [List.mem_singleton.mp hp]; exact .tail _ (.head _)
    · rintro ⟨x, y, z⟩ ys ac A hA hy
      walk_at "g"
      refine ⟨sub_nil, ?_⟩
      walk_at "g"
      refine hA _ _ _ _ (ac ++ [(x, y, z)]) .head ?_ (by rw [← hy]; simp) (by simp)
      have := congrArg List.length hy
      simp only [List.length_append, List.length_cons] at this
      rw [sizeLine_eq]; simp; omega
    · intro ac hy
      rw [List.append_nil] at hy
      subst hy
      walk_at "g"
      refine ⟨_, .cons₂ _ (.cons _ (.cons _ (.refl _))), q D⟩
theorem ok_law (X : (KK pp).In Γ.hB) : FnOk Γ 127 (fdOf (KK pp) 127) (bodyOf (fdOf (KK pp) 127)) ["script"] := fnOkB X (by kernel_rfl!) (bind1 fun _ => by kernel_rfl!)
/-- what is to be shown of a root by reckoning -/
structure Chk (hi lo lim : Nat) : Prop where
  e : bfsE lim 29 [(hi, lo)] = true
  l : (dueAll hi lo lim).length < 64
  ok : okK ((dueAll hi lo lim).map dK3) = true
  s : (srtK ((dueAll hi lo lim).map dK3)).map (fun x => x.2.2) = (bfs lim 29 [(hi, lo)]).map fun p => triA p.1 p.2
theorem spot_eq {t pre : List Nat} {x : Int} {rest : List Int} (h : pre ++ fileT (x :: rest) = t) : spotN pre x = t.length - (leftN x rest).length ∧ 1 + (t.take (spotN pre x)).count 10 = 1 + t.count 10 - (leftN x rest).count 10 ∧ spotN pre x ≤ t.length := by
  obtain ⟨c, r, e, _, _⟩ := sep_ws (wayN x 5)
  have hl : 1 ≤ (sepN (wayN x 5)).length := by rw [e]; simp
  have e1 : t = (pre ++ upTo x 2 ++ wordN x 2 ++ (sepN (wayN x 5)).take (1 - wayN x 2 % 2)) ++ leftN x rest := by
    rw [← h]
    have e2 : fileT (x :: rest) = upTo x 3 ++ fileT rest := rfl
    rw [e2, upTo_succ]
    unfold leftN pieceN
    have := List.take_append_drop (1 - wayN x 2 % 2) (sepN (wayN x 5))
    simp only [List.append_assoc]
    rw [← List.append_assoc (List.take _ _), this]
  have e3 : (pre ++ upTo x 2 ++ wordN x 2 ++ (sepN (wayN x 5)).take (1 - wayN x 2 % 2)).length = spotN pre x := by
    rw [List.length_append, List.length_take]
    unfold spotN; omega
  generalize hA : pre ++ upTo x 2 ++ wordN x 2 ++ (sepN (wayN x 5)).take (1 - wayN x 2 % 2) = A at e1 e3
  have e4 : t.take (spotN pre x) = A := by rw [e1, ← e3]; simp
  have e5 : t.length = A.length + (leftN x rest).length := by rw [e1, List.length_append]
  have e6 : t.count 10 = A.count 10 + (leftN x rest).count 10 := by rw [e1, List.count_append]
  refine ⟨by omega, by rw [e4]; omega, by omega⟩
noncomputable def tolI (u ln pos : Nat) (p : Nat × Nat) : List Int := [((u * tri p.1 p.2 0 : Nat) : Int), ((u * tri p.1 p.2 1 : Nat) : Int), ((u * tri p.1 p.2 2 : Nat) : Int), (ln : Int), (pos : Int)]
noncomputable def rowV (r : List Int) : AV := .tup (r.map .int)
noncomputable def rowP (r : List Int) : PyData := .tuple (r.map .int)
theorem avds_ints : ∀ r : List Int, AvDs σ (r.map .int) (r.map .int)
  | [] => .nil
  | _ :: r => .cons (.int _) (avds_ints r)
theorem avds_rows : ∀ l : List (List Int), AvDs σ (l.map rowV) (l.map rowP)
  | [] => .nil
  | r :: l => .cons (.tup (avds_ints r)) (avds_rows l)
theorem lay_ints : ∀ r : List Int, PyData.canLayAll0 (r.map .int) = true ∧ PyData.depthAll (r.map .int) = 0 ∧ PyData.eqvAll (r.map .int) (r.map .int) = true
  | [] => by simp [PyData.canLayAll0, PyData.depthAll, PyData.eqvAll]
  | x :: r => by
    obtain ⟨a, b, c⟩ := lay_ints r
    simp [PyData.canLayAll0, PyData.canLay0, PyData.depthAll, PyData.depth, PyData.eqvAll, PyData.eqv, a, b, c]
theorem lay_rows : ∀ l : List (List Int), PyData.canLayAll0 (l.map rowP) = true ∧ PyData.depthAll (l.map rowP) ≤ 1 ∧ PyData.eqvAll (l.map rowP) (l.map rowP) = true
  | [] => by simp [PyData.canLayAll0, PyData.depthAll, PyData.eqvAll]
  | r :: l => by
    obtain ⟨a, b, c⟩ := lay_rows l
    obtain ⟨a', b', c'⟩ := lay_ints r
    simp only [List.map_cons, PyData.canLayAll0, PyData.depthAll, PyData.eqvAll, rowP, PyData.canLay0, PyData.depth, PyData.eqv, a', b', c', c, a, Bool.true_and, true_and, and_true]
    exact Nat.max_le.mpr ⟨Nat.le_refl 1, b⟩
theorem told_rows (t : List Nat) : ∀ xs : List Int, ∃ l : List (List Int), toldL t xs = l.map rowV
  | [] => ⟨[], rfl⟩
  | x :: xs => by
    obtain ⟨l, e⟩ := told_rows t xs
    refine ⟨(bfs (limN x) 29 [(hiN x, loN x)]).map (tolI (unitN x) (1 + t.count 10 - (leftN x xs).count 10) (t.length - (leftN x xs).length)) ++ l, ?_⟩
    rw [List.map_append, ← e, List.map_map]
    rfl
theorem zip_rows {rs : List (Int × Addr)} {ss : List Nat} : zipT (rs.map rootV) (ss.map fun n : Nat => AV.int n) = (rs.zip ss).map fun z => AV.tup [rootV z.1, .int (z.2 : Nat)] := by
  unfold zipT
  rw [List.zipWith_map, List.zip, List.map_zipWith]
theorem perm_law {a b c s : Addr × AO} {l r : Sto} : List.Perm (s :: a :: b :: (l ++ c :: r)) (a :: b :: (l ++ c :: s :: r)) := by
  have h := (List.perm_middle (l₁ := a :: b :: (l ++ [c])) (a := s) (l₂ := r)).symm
  simpa using h
theorem law1 (W : Wd Γ (KK pp) mg mb) (M : MkOk Γ mg mb 76 72) {sa : Addr} {xs : List Int} (hl : xs.length ≤ 63) (hm : Fz Γ sa xs) (hc : ∀ x ∈ heads xs, Chk (hiN x) (loN x) (limN x)) :
    CalC Γ (k + 6) (.ref 127) [.ref sa] ((72, .obj (tabObj #[])) :: σ) fun v σ' => v = .bool true ∧ ∃ ps, (72, AO.obj (tabObj ps)) ∈ σ' := by
  refine fn_defB W.ok (ok_law W.X) rfl (by kernel_rfl!) (by kernel_rfl!) ?_
  refine exs_cons ?_
  walk_at "g"
  refine ev_calG W 96 (by kernel_rfl!) ?_
  walk_at "g"
  refine cal_of (roots W hl hm fun ra rs hrs => ?_)
  walk_at "g"
  refine ev_calG W 110 (by kernel_rfl!) ?_
  walk_at "g"
  have hrl : rs.length ≤ 2 := by
    have h1 := congrArg List.length hrs
    have h2 : (heads xs).length ≤ 2 := by unfold heads; split <;> simp; omega
    simp at h1; omega
  have hra : ∀ τ : Sto, (ra, AO.list (rs.map rootV)) ∈ rs.reverse.map wayE ++ (ra, .list (rs.map rootV)) :: τ := fun _ => List.mem_append_right _ (.head _)
  refine cal_of (file W hrl (hra _) (fun r hr => List.mem_append_left _ (List.mem_map_of_mem (List.mem_reverse.mpr hr))) fun sp => ?_)
  walk_at "g"
  refine ⟨by rw [sizeLine_eq]; simp, fun da => ?_⟩
  walk_at "g"
  generalize ht : fileT (rs.map (·.1)) = t
  have htl : t.length ≤ 1000000 := by have := fileT_len (rs.map (·.1)); rw [ht, List.length_map] at this; omega
  have hcr : ∀ r ∈ rs, Chk (hiN r.1) (loN r.1) (limN r.1) := fun r hr => hc _ (hrs ▸ List.mem_map_of_mem hr)
  refine ex_forZ (by kernel_rfl!) ?_ (fun _ _ => rfl)
  refine ev_builtin W.ok (by kernel_rfl!) (mg_none W.X W.ok.g (by kernel_rfl!)) (by rw [W.boot _ (by decide)]; kernel_rfl!) ⟨rfl, ?_⟩ (by kernel_rfl!)
  walk_at "g"
  refine ⟨ra, sp, _, _, rfl, .tail _ (.tail _ (hra _)), .tail _ (.head _), ?_⟩
  rw [zip_rows]
  refine for_sub (for_ind2 (ι := List AV) (L := fun _ => [("due", .ref da), ("text", .str (ofL t)), ("roots", .ref ra)]) (S := fun acc => (da, .list acc) :: (sp, .list ((spotsL (rs.map (·.1)) []).map fun n : Nat => .int n)) :: (rs.reverse.map wayE ++ (ra, .list (rs.map rootV)) :: (72, .obj (tabObj #[])) :: σ)) (g := fun z => AV.tup [rootV z.1, .int (z.2 : Nat)])
    (I := fun zs acc => ∃ (ys : List (Int × Addr)) (pre : List Nat), zs = ys.zip (spotsL (ys.map (·.1)) pre) ∧ pre ++ fileT (ys.map (·.1)) = t ∧ acc ++ toldL t (ys.map (·.1)) = toldL t (rs.map (·.1)) ∧ (∀ r ∈ ys, Chk (hiN r.1) (loN r.1) (limN r.1)) ∧ acc.length + 29 * ys.length ≤ 58) ?_ ?_ ?_ (rs.zip (spotsL (rs.map (·.1)) [])) [] ⟨rs, [], rfl, ht, List.nil_append _, hcr, by simp only [List.length_nil]; omega⟩) (sub_cons rfl (sub_cons rfl (sub_cons rfl sub_nil))) (.refl _) ?_
  · intro i p hp
    simp only [List.mem_cons, List.not_mem_nil, or_false] at hp
    rcases hp with rfl | rfl
    · exact .tail _ (.tail _ (hra _))
    · exact .tail _ (.head _)
  · rintro ⟨⟨x, wb⟩, sn⟩ zs acc P' A hA ⟨ys, pre, e1, e2, e3, e4, e5⟩
    cases ys with
    | nil => cases e1
    | cons y ys =>
      obtain ⟨x', wb'⟩ := y
      simp only [List.map_cons, spotsL, List.zip_cons_cons, List.cons.injEq, Prod.mk.injEq] at e1
      obtain ⟨⟨⟨rfl, rfl⟩, rfl⟩, e1⟩ := e1
      obtain ⟨s1, s2, s3⟩ := spot_eq e2
      have hck := e4 _ (.head _)
      dsimp only at hck
      obtain ⟨lo1, lo2, lo3, lo4⟩ := hi_lo x
      obtain ⟨un1, un2⟩ := unit_le x
      dsimp only
      rw [rootV_eq]
      walk_at "g"
      refine ⟨_, rfl, plain_str, slc_str (by rw [ofL_length, sizeLine_eq]; omega) ?_⟩
      have e0 : (ofL t).cps.toList = t := by simp [ofL]
      rw [e0, pick_take _ _ s3]
      refine ⟨_, _, gm_count, ?_⟩
      walk_at "g"
      have enl : (Str.ofString "\n") = ofL [10] := by kernel_rfl!
      rw [enl]
      refine ⟨kpr_builtin, cal_count1 ?_⟩
      walk_at "g"
      refine ex_for ?_ (fun _ _ => rfl)
      walk_at "g"
      refine ev_calG W 120 (by kernel_rfl!) ?_
      walk_at "g"
      refine cal_of (due W (by omega) (by omega) hck.ok hck.l fun la => ?_)
      rw [hck.s]
      refine ⟨_, _, mk_list (.name _ _) (.head _), (fun p hp => by rw [List.mem_singleton.mp hp]; exact .head _), ?_⟩
      simp only [List.length_cons] at e5
      have hbl := bfs_len (limN x) 29 [(hiN x, loN x)]
      have e3' : acc ++ (toldR t x (ys.map (·.1)) ++ toldL t (ys.map (·.1))) = toldL t (rs.map (·.1)) := e3
      have etr : toldR t x (ys.map (·.1)) = (bfs (limN x) 29 [(hiN x, loN x)]).map (tolV (unitN x) (1 + (t.take (spotN pre x)).count 10) (spotN pre x)) := by
        unfold toldR; rw [← s1, ← s2]
      rw [etr] at e3'
      generalize hB : bfs (limN x) 29 [(hiN x, loN x)] = B at *
      refine for_sub (for_ind2 (ι := List AV) (L := fun _ => [("due", .ref da), ("text", .str (ofL t)), ("roots", .ref ra), ("unit", .int (unitN x)), ("line", .int (1 + (t.take (spotN pre x)).count 10 : Nat)), ("spot", .int (spotN pre x : Nat))]) (S := fun ac => (la, .list (B.map fun p => triA p.1 p.2)) :: (da, .list ac) :: (sp, .list ((spotsL (rs.map (·.1)) []).map fun n : Nat => .int n)) :: (rs.reverse.map wayE ++ (ra, .list (rs.map rootV)) :: (72, .obj (tabObj #[])) :: σ)) (g := fun p => triA p.1 p.2)
        (I := fun ps ac => ac ++ ps.map (tolV (unitN x) (1 + (t.take (spotN pre x)).count 10) (spotN pre x)) = acc ++ B.map (tolV (unitN x) (1 + (t.take (spotN pre x)).count 10) (spotN pre x))) ?_ ?_ ?_ B acc rfl) (sub_cons rfl (sub_cons rfl (sub_cons rfl (sub_cons rfl (sub_cons (by show some (AV.int _) = some (AV.int _); congr 2) (sub_cons rfl sub_nil)))))) (.refl _) (fun p hp => by rw [List.mem_singleton.mp hp]; exact .head _)
      · intro i p hp; rw [List.mem_singleton.mp hp]; exact .head _
      · rintro ⟨m, n⟩ ps ac P'' A hA hp
        have hacl : ac.length ≤ 100 := by
          have := congrArg List.length hp
          simp only [List.length_append, List.length_map] at this
          omega
        walk_at "g"
        refine ⟨_, _, gm_append (xs := ac) (.tail _ (.head _)), ?_⟩
        walk_at "g"
        refine ⟨plain_tup, get_tup (x := .int (tri m n 0 : Nat)) (by decide) (by decide) rfl ?_⟩
        refine op_mul (mul_small (by omega) (by omega)) ?_
        walk_at "g"
        refine ⟨plain_tup, get_tup (x := .int (tri m n 1 : Nat)) (by decide) (by decide) rfl ?_⟩
        refine op_mul (mul_small (by omega) (by omega)) ?_
        walk_at "g"
        refine ⟨plain_tup, get_tup (x := .int (tri m n 2 : Nat)) (by decide) (by decide) rfl ?_⟩
        refine op_mul (mul_small (by omega) (by omega)) ?_
        walk_at "g"
        refine ⟨by rw [sizeLine_eq]; simp, ?_⟩
        walk_at "g"
        refine ⟨kpr_builtin, cal_append (xs := ac) (.tail .head) (by rw [sizeLine_eq]; omega) ⟨rfl, ?_⟩⟩
        walk_at "g"
        refine hA (ac ++ [tolV (unitN x) (1 + (t.take (spotN pre x)).count 10) (spotN pre x) (m, n)]) _ _ (by rw [← hp]; simp) (sub_cons rfl (sub_cons rfl (sub_cons rfl (sub_cons rfl (sub_cons rfl (sub_cons rfl sub_nil)))))) ?_
        unfold tolV
        simp only [Int.natCast_mul]
        exact .refl _
      · rintro ac hp
        walk_at "g"
        rw [List.map_nil, List.append_nil] at hp
        subst hp
        refine hA _ _ _ ⟨ys, pre ++ rootT x, e1, ?_, ?_, fun r hr => e4 r (.tail _ hr), ?_⟩ (sub_cons rfl (sub_cons rfl (sub_cons rfl sub_nil))) (.cons _ (.refl _))
        · rw [← e2]; simp [fileT]
        · rw [← e3', List.append_assoc]
        · simp only [List.length_append, List.length_map]; omega
  · rintro acc ⟨ys, pre, e1, e2, e3, e4, e5⟩
    obtain rfl : ys = [] := by
      cases ys with
      | nil => rfl
      | cons y ys => cases e1
    have e3 : acc = toldL t (rs.map (·.1)) := by simpa [toldL] using e3
    subst e3
    walk_at "g"
    subst ht
    refine ev_calG W 115 (by kernel_rfl!) ?_
    walk_at "g"
    have hbE : ∀ r ∈ rs, bfsE (limN r.1) 29 [(hiN r.1, loN r.1)] = true := fun r hr => (hcr r hr).e
    refine cal_of (calC_perm (run W M (ra := ra) (rs := rs) hrl (σ := (da, .list (toldL (fileT (rs.map (·.1))) (rs.map (·.1)))) :: (sp, .list ((spotsL (rs.map (·.1)) []).map fun n : Nat => .int n)) :: (rs.reverse.map wayE ++ (ra, .list (rs.map rootV)) :: σ)) (.tail _ (.tail _ (hra _))) hbE fun ta pb ps => ?_) perm_law)
    walk_at "g"
    refine ⟨_, _, gm_count, ?_⟩
    walk_at "g"
    have enl : (Str.ofString "\n") = ofL [10] := by kernel_rfl!
    rw [enl]
    refine ⟨kpr_builtin, cal_count1 ?_⟩
    walk_at "g"
    refine cal_len_str (by rw [ofL_length, sizeLine_eq]; omega) ?_
    rw [ofL_length]
    walk_at "g"
    refine ⟨by rw [sizeLine_eq]; simp, fun eb => ?_⟩
    walk_at "g"
    refine ⟨by rw [sizeLine_eq]; simp, ?_⟩
    walk_at "g"
    refine ⟨by rw [sizeLine_eq]; simp, ?_⟩
    obtain ⟨rows, erows⟩ := told_rows (fileT (rs.map (·.1))) (rs.map (·.1))
    rw [erows]
    obtain ⟨y1, y2, y3⟩ := lay_rows rows
    have ee : (Str.ofString "") = ofL [] := by kernel_rfl!
    have es : PyData.strOk (ofL []) = true := by simp [PyData.strOk, ofL]
    rw [ee]
    refine op_eq_deep (d := .tuple [.list (rows.map rowP), .tuple [.str (ofL []), .int ((1 + (fileT (rs.map (·.1))).count 10 : Nat) : Int), .int ((fileT (rs.map (·.1))).length : Nat), .list []]])
      (e := .tuple [.list (rows.map rowP), .tuple [.str (ofL []), .int (1 + ((fileT (rs.map (·.1))).count 10 : Nat)), .int ((fileT (rs.map (·.1))).length : Nat), .list []]])
      (.tup (.cons (.list (.tail _ (.tail _ (.head _))) (avds_rows rows)) (.cons (.tup (.cons (.str _) (.cons (.int _) (.cons (.int _) (.cons (.list (.tail _ (.head _)) .nil) .nil))))) .nil)))
      (.tup (.cons (.list (.tail _ (.tail _ (.tail _ (.tail _ (.head _))))) (avds_rows rows)) (.cons (.tup (.cons (.str _) (.cons (.int _) (.cons (.int _) (.cons (.list (.head _) .nil) .nil))))) .nil))) ?_ ?_ ?_ ?_
    · simp [PyData.canLay0, PyData.canLayAll0, y1, es]
    · simp [PyData.canLay0, PyData.canLayAll0, y1, es]
    · simp only [PyData.depth, PyData.depthAll]; omega
    · have e1 : (((1 + (fileT (rs.map (·.1))).count 10 : Nat) : Int)) = 1 + ((fileT (rs.map (·.1))).count 10 : Nat) := by omega
      rw [e1]
      refine drp ⟨?_, ps, .tail _ (.tail _ (.tail _ (.head _)))⟩
      simp [PyData.eqv, PyData.eqvAll, y3, retv]
  · intro p hp
    simp only [List.mem_cons, List.not_mem_nil, or_false] at hp
    rcases hp with rfl | rfl
    · exact .tail _ (.tail _ (hra _))
    · exact .tail _ (.head _)
theorem okP_mono {lim : Nat} (hl : lim ≤ 115) {p : Nat × Nat} (h : okP lim p = true) : okP 115 p = true := decide_eq_true (Nat.le_trans (of_decide_eq_true h) hl)
theorem filter_two {lim : Nat} (hl : lim ≤ 115) (l : List (Nat × Nat)) : (l.filter (okP 115)).filter (okP lim) = l.filter (okP lim) := by
  rw [List.filter_filter]
  refine List.filter_congr fun p _ => ?_
  cases h : okP lim p with
  | false => rfl
  | true => rw [okP_mono hl h]; rfl
theorem kids_no {lim : Nat} {p : Nat × Nat} (h1 : p.2 < p.1) (h : okP lim p = false) : (kidsP p).filter (okP lim) = [] := by
  rw [List.filter_eq_nil_iff]
  intro z hz hk
  have h2 : ¬ p.1 * p.1 + p.2 * p.2 ≤ lim := of_decide_eq_false h
  have h3 : z.1 * z.1 + z.2 * z.2 ≤ lim := of_decide_eq_true hk
  simp only [kidsP, List.mem_cons, List.not_mem_nil, or_false] at hz
  rcases hz with rfl | rfl | rfl <;> dsimp only at h3
  · have := Nat.mul_le_mul (show p.2 ≤ 2 * p.1 - p.2 by omega) (show p.2 ≤ 2 * p.1 - p.2 by omega); omega
  · have := Nat.mul_le_mul (show p.2 ≤ 2 * p.1 + p.2 by omega) (show p.2 ≤ 2 * p.1 + p.2 by omega); omega
  · have := Nat.mul_le_mul (show p.1 ≤ p.1 + 2 * p.2 by omega) (show p.1 ≤ p.1 + 2 * p.2 by omega); omega
theorem kids_lt {p : Nat × Nat} (h0 : 1 ≤ p.2) (h1 : p.2 < p.1) : ∀ z ∈ kidsP p, 1 ≤ z.2 ∧ z.2 < z.1 := fun z hz => by
  simp only [kidsP, List.mem_cons, List.not_mem_nil, or_false] at hz
  rcases hz with rfl | rfl | rfl <;> dsimp only <;> omega
theorem bfs_more (lim : Nat) : ∀ (n : Nat) (q : List (Nat × Nat)), bfsE lim n q = true → bfs lim (n + 1) q = bfs lim n q ∧ bfsE lim (n + 1) q = true
  | n, [], _ => by cases n <;> exact ⟨rfl, rfl⟩
  | 0, _ :: _, h => by cases h
  | n + 1, p :: q, h => by
    obtain ⟨a, b⟩ := bfs_more lim n (q ++ (kidsP p).filter (okP lim)) h
    exact ⟨congrArg (p :: ·) a, b⟩
theorem bfs_filter {lim : Nat} (hl : lim ≤ 115) : ∀ (n : Nat) (q : List (Nat × Nat)), (∀ p ∈ q, 1 ≤ p.2 ∧ p.2 < p.1) → bfsE 115 n q = true → bfs lim n (q.filter (okP lim)) = (bfs 115 n q).filter (okP lim) ∧ bfsE lim n (q.filter (okP lim)) = true
  | n, [], _, _ => by cases n <;> exact ⟨rfl, rfl⟩
  | 0, _ :: _, _, h => by cases h
  | n + 1, p :: q, hq, h => by
    obtain ⟨h0, h1⟩ := hq p (.head _)
    have hq' : ∀ z ∈ q ++ (kidsP p).filter (okP 115), 1 ≤ z.2 ∧ z.2 < z.1 := fun z hz => by
      rcases List.mem_append.mp hz with hz | hz
      · exact hq z (.tail _ hz)
      · exact kids_lt h0 h1 z (List.mem_filter.mp hz).1
    obtain ⟨a, b⟩ := bfs_filter hl n (q ++ (kidsP p).filter (okP 115)) hq' h
    rw [List.filter_append, filter_two hl] at a b
    have e : (bfs 115 (n + 1) (p :: q)).filter (okP lim) = (p :: bfs 115 n (q ++ (kidsP p).filter (okP 115))).filter (okP lim) := rfl
    rw [e]
    cases hp : okP lim p with
    | true =>
      rw [List.filter_cons_of_pos hp, List.filter_cons_of_pos hp, ← a]
      exact ⟨rfl, b⟩
    | false =>
      rw [kids_no h1 hp, List.append_nil] at a b
      rw [List.filter_cons_of_neg (by rw [hp]; decide), List.filter_cons_of_neg (by rw [hp]; decide), ← a]
      exact bfs_more lim n _ b
theorem dueOf_filter {lim : Nat} (hl : lim ≤ 115) (hi lo : Nat) (p : Nat × Nat) : dueOf hi lo lim p = (dueOf hi lo 115 p).filter fun x => okP lim x.2.2 := by
  unfold dueOf
  dsimp only
  by_cases h : tri p.1 p.2 2 ≤ lim
  · rw [if_pos h, if_pos (Nat.le_trans h hl)]
    have hk : okP lim (p.1, p.2) = true := decide_eq_true h
    split
    · rw [List.filter_cons_of_pos (p := fun x : Nat × Nat × Nat × Nat => okP lim x.2.2) hk]; rfl
    · rfl
  · rw [if_neg h]
    have hk : ¬ okP lim (p.1, p.2) = true := fun e => h (of_decide_eq_true e)
    split
    · split
      · rw [List.filter_cons_of_neg (p := fun x : Nat × Nat × Nat × Nat => okP lim x.2.2) hk]; rfl
      · rfl
    · rfl
theorem dueAll_filter {lim : Nat} (hl : lim ≤ 115) (hi lo : Nat) : dueAll hi lo lim = (dueAll hi lo 115).filter fun x => okP lim x.2.2 := by
  unfold dueAll
  rw [List.filter_flatten, List.map_map]
  congr 1
  refine List.map_congr_left fun m _ => ?_
  show dueM hi lo lim m = (dueM hi lo 115 m).filter _
  unfold dueM
  rw [List.filter_flatten, List.map_map]
  congr 1
  exact List.map_congr_left fun n _ => dueOf_filter hl hi lo (m, n)
noncomputable def entD (hi lo : Nat) (p : Nat × Nat) : Nat × Nat × Nat × Nat := let s := climb hi lo 20 (p.1, p.2, 1, 0); (s.2.2.1, s.2.2.2, p.1, p.2)
noncomputable def allD (hi lo : Nat) : List (Nat × Nat × Nat × Nat) := (bfs 115 29 [(hi, lo)]).map (entD hi lo)
noncomputable def ltD (a b : Nat × Nat × Nat × Nat) : Bool := if a.1 = b.1 then decide (a.2.1 < b.2.1) else decide (a.1 < b.1)
noncomputable def chkD (hi lo : Nat) : Bool := bfsE 115 29 [(hi, lo)] && (allD hi lo).isPerm (dueAll hi lo 115) && decide ((allD hi lo).Pairwise fun a b => ltD a b = true) && decide ((allD hi lo).length < 64)
theorem chk_fin : ∀ a : Fin 4, ∀ b : Fin 3, chkD (a + b + 2) (a + 1) = true ∧ tri (a + b + 2) (a + 1) 2 ≤ 65 := by decide +kernel
theorem chk_of {hi lo lim : Nat} (hlim : lim ≤ 115) (h66 : 65 ≤ lim) (h0 : 1 ≤ lo) (h1 : lo < hi) (hk : chkD hi lo = true) (hr : tri hi lo 2 ≤ 65) : Chk hi lo lim := by
  unfold chkD at hk
  rw [Bool.and_eq_true, Bool.and_eq_true, Bool.and_eq_true] at hk
  obtain ⟨⟨⟨k1, k2⟩, k3⟩, k4⟩ := hk
  have hroot : [(hi, lo)].filter (okP lim) = [(hi, lo)] := List.filter_cons_of_pos (decide_eq_true (Nat.le_trans hr h66))
  obtain ⟨f1, f2⟩ := bfs_filter hlim 29 [(hi, lo)] (fun p hp => by rw [List.mem_singleton.mp hp]; exact ⟨h0, h1⟩) k1
  rw [hroot] at f1 f2
  have hp : (allD hi lo).Perm (dueAll hi lo 115) := List.isPerm_iff.mp k2
  have hs := of_decide_eq_true k3
  have hl := of_decide_eq_true k4
  have hp2 : ((allD hi lo).filter fun x => okP lim x.2.2).Perm (dueAll hi lo lim) := by rw [dueAll_filter hlim]; exact hp.filter _
  have key : ∀ a b : Nat × Nat × Nat × Nat, ltD a b = true → lt2 (key2 (dK3 a)) (key2 (dK3 b)) = true := fun a b h => by
    unfold ltD at h
    unfold lt2 key2 dK3
    dsimp only
    by_cases e : a.1 = b.1
    · rw [if_pos e] at h; rw [if_pos (by omega)]
      have := of_decide_eq_true h
      exact decide_eq_true (by omega)
    · rw [if_neg e] at h; rw [if_neg (by omega)]
      have := of_decide_eq_true h
      exact decide_eq_true (by omega)
  obtain ⟨s1, s2⟩ := srtK_eq (ks := (dueAll hi lo lim).map dK3) (out := ((allD hi lo).filter fun x => okP lim x.2.2).map dK3) (hp2.map _) (by
    rw [List.pairwise_map]
    exact (hs.filter _).imp fun {a b} h => key a b h)
  refine ⟨f2, ?_, s1, ?_⟩
  · rw [← hp2.length_eq]; exact Nat.lt_of_le_of_lt (List.length_filter_le _ _) hl
  · rw [s2, f1]
    unfold allD
    rw [List.filter_map, List.map_map, List.map_map]
    rfl
theorem chk_all (x : Int) : Chk (hiN x) (loN x) (limN x) := by
  have h0 := (fg_range x 0 4 rfl).2
  have h1 := (fg_range x 1 3 rfl).2
  have h2 := (fg_range x 2 50 rfl).2
  obtain ⟨c1, c2⟩ := chk_fin ⟨fgN x 0, by omega⟩ ⟨fgN x 1, by omega⟩
  obtain ⟨l1, l2, l3, l4⟩ := hi_lo x
  exact chk_of (by unfold limN; omega) (by unfold limN; omega) l1 l3 c1 c2
theorem gh_tab {h : Heap} (hT : h.get? 72 = some (tabObj #[])) {K : Frag} (X : K.In h) (e : codeHdIn K 76 72 = true) : TabsAt [(76, 72)] h := fun q hq => by
  rw [List.mem_singleton.mp hq]
  exact ⟨codeHd_of_K X e, hT⟩
theorem bridge {w : World} {s₁ : Shared} {mg mb : Str → Option Value} {p : Program} {loose : List Str} {mean : ExcName → Option Value} (KX : (KK w.params).In s₁.heap) (hT : s₁.heap.get? 72 = some (tabObj #[])) (T : Top p loose mean mg mb s₁.heap) (hg : s₁.gens = #[])
    {fa sa : Addr} {vs : List Value} {xs : List Int} {prog : Program} (hmg : mg "law" = some (.ref fa)) (hL : s₁.heap.IsList sa vs.toArray) (hI : IntsAre vs xs)
    (main : ∀ Γ : Gd, Γ.prog = prog → Γ.w = w → Wd Γ (KK w.params) mg mb → MkOk Γ mg mb 76 72 → Fz Γ sa xs → CalC Γ 6 (.ref 127) [.ref sa] [(72, .obj (tabObj #[]))] fun v σ' => v = .bool true ∧ ∃ ps, (72, AO.obj (tabObj ps)) ∈ σ')
    {c : ClaimW} {cl : Str → Option Addr} {args : List WData} (hr : ∀ a x, c.raises a x = false) (hp : c.post args (.bool true) args = true) :
    codeAny (model prog w) callerA (.call (.ref fa) ⟨[.ref sa], []⟩) (GoodWG c cl mean args s₁) s₁ := by
  have hTA := gh_tab hT KX (by kernel_rfl!)
  refine kn_post hTA hr ?_
  have hX := ghost_K hTA KX (by kernel_rfl!)
  have hfa : fa = 127 := by
    have h := mg_of KX T.g (n := "law") (v := .ref 127) (by kernel_rfl!)
    rw [hmg] at h
    exact Value.ref.inj (Option.some.inj h)
  subst hfa
  let hB := ghostOf s₁.heap [(76, 72)]
  let Γ : Gd := ⟨prog, w, hB⟩
  have T' := ghost_top hTA T
  have W : Wd Γ (KK w.params) mg mb := ⟨hX, ⟨T'.g, T'.b, T'.nolimit⟩, T'.builtins⟩
  have M : MkOk Γ mg mb 76 72 := ⟨⟨T'.g, T'.b, T'.nolimit⟩, (ghost_code hTA).1, T'.bmain⟩
  let κ : Kap := ⟨hB.get?, fun _ => False, fun _ h => h.elim⟩
  have le : Γ.le κ := fun _ _ e => e
  have R : RepS κ [(72, .obj (tabObj #[]))] s₁.heap := {
    prot := fun b o e => of_hideAll _ e
    objs := fun q hq => by
      rw [List.mem_singleton.mp hq]
      exact ⟨_, hT, rfl, fun _ _ e => by have e2 := congrArg Obj.data e; cases e2⟩
    nodup := by simp
    new := fun q hq => by
      rw [List.mem_singleton.mp hq]
      exact hideAll_none _ (.head _) }
  have hA : AOk 6 callerA := ⟨rfl, by decide +kernel, by decide +kernel⟩
  refine codeAny_mono (main Γ rfl rfl W M ⟨vs, ghost_list hTA hL, hI⟩ callerA κ s₁ [.ref sa] hA le R (.cons (.ref sa) .nil)) fun r s' z => ?_
  rcases r with e | (V | _ | _ | _) <;> first | exact z.elim | skip
  obtain ⟨v, σ', h', tk, e, R', rv, rfl, ps, hm⟩ := z
  subst e
  cases rv
  refine ⟨⟨.inl ⟨.bool true, .bool true, [], rfl, fun x => hr _ x, .bool true, hp, fun _ => ⟨.nil, fun _ h => nomatch h⟩⟩, fun b o e => R'.prot b o e, rfl, hg⟩, ⟨ps, ?_⟩, trivial⟩
  exact R'.ob hm
theorem main (W : Wd Γ (KK pp) mg mb) (M : MkOk Γ mg mb 76 72) {sa : Addr} {xs : List Int} (hl : xs.length ≤ 63) (hm : Fz Γ sa xs) :
    CalC Γ (k + 6) (.ref 127) [.ref sa] ((72, .obj (tabObj #[])) :: σ) fun v σ' => v = .bool true ∧ ∃ ps, (72, AO.obj (tabObj ps)) ∈ σ' := law1 W M hl hm fun x _ => chk_all x
end Mine
end
set_option maxHeartbeats 8000000 in
theorem PySem.Challenge.cw_pg0050_01_holds : PySem.Challenge.rw_pg0050_01.Holds := by
  exact Mine.hd (by
    k_fill
    intro w s₀ s₁ mg mb G Y fa o pm cd doc dV kV ho hd hcd hD hmg hg args vals as hpre hlay hrd hwl hlo
    have KX := km_in_of Y
    have hT8 := km_tabs_of Y
    have X := (Ground.X G).1
    have V := (Ground.X G).2
    refine Ground.open G ?_
    intro T B D TE TW
    try (refine guard_noD D (by decide +kernel) ?_; clear D)
    wrow_args hpre hlay hrd hwl hlo
    all_goals (
      first | refine callC_kw (enter_call ?_) | refine enter_call ?_
      w_top on)
    rename_i hcond _
    exact Mine.bridge KX (hT8 72 (by simp)) T hg hmg (by assumption) (by assumption) (fun Γ e1 e2 W M F => Mine.main W M (by omega) F) (fun _ _ => rfl) (by kernel_rfl!))

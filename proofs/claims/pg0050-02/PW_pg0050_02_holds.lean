import PyProof.Rows.All
import Wide.All
import OpenK.AllK
import Wide.FinOn
import Lean
import PySem.Challenge.RW_pg0050_02
open PySem PySem.W PyProof.Rows PySem.Calls
set_option Elab.async false
set_option linter.all false
set_option maxRecDepth 100000
set_option maxHeartbeats 8000000
set_option genSizeOf false
set_option genSizeOfSpec false
set_option genInjectivity false
namespace Mine

/-- abstract values: no tokens, tuples deep, mutable things by address -/
inductive AV where
  | none
  | bool (b : Bool)
  | int (i : Int)
  | str (x : Str)
  | bytes (b : Array UInt8)
  | tup (xs : List AV)
  | ref (a : Addr)
  | raw (v : Value)

/-- abstract objects -/
inductive AO where
  | list (xs : List AV)
  | ns (es : List (Str × AV))
  | inst (C d : Addr)
  | cell (v : AV)
  | obj (o : Obj)

/-- a tuple, just as it is made -/
noncomputable def IsTp (h : Heap) (a : Addr) (vs : Array Value) : Prop := ∃ n, h.get? a = some { cls := .type "tuple", data := .seq vs n }
theorem IsTp.isTuple {h : Heap} {a : Addr} {vs : Array Value} (x : IsTp h a vs) : h.IsTuple a vs := let ⟨n, e⟩ := x; ⟨_, e, rfl, n, rfl⟩
/-- places that no tuple of the program has (zip's own pair) -/
abbrev Avd := Addr → Prop
mutual
inductive VRel (av : Avd) (h : Heap) : AV → Value → Prop
  | none : VRel av h .none .none
  | bool (b : Bool) : VRel av h (.bool b) (.bool b)
  | int (i : Int) (t : Tok) : VRel av h (.int i) (.int i t)
  | str (x : Str) (t : Tok) : VRel av h (.str x) (.str x t)
  | bytes (b : Array UInt8) (t : Tok) : VRel av h (.bytes b) (.bytes b t)
  | tup {a : Addr} {xs : List AV} {vs : List Value} : ¬ av a → IsTp h a vs.toArray → VRels av h xs vs → VRel av h (.tup xs) (.ref a)
  | ref (a : Addr) : VRel av h (.ref a) (.ref a)
  | raw (v : Value) : VRel av h (.raw v) v
inductive VRels (av : Avd) (h : Heap) : List AV → List Value → Prop
  | nil : VRels av h [] []
  | cons {x : AV} {v : Value} {xs : List AV} {vs : List Value} : VRel av h x v → VRels av h xs vs → VRels av h (x :: xs) (v :: vs)
end

/-- tuples stay -/
noncomputable def TK (av : Avd) (h h' : Heap) : Prop := ∀ a vs, ¬ av a → IsTp h a vs → IsTp h' a vs
theorem TK.refl {av : Avd} (h : Heap) : TK av h h := fun _ _ _ x => x
theorem TK.trans {av : Avd} {h₁ h₂ h₃ : Heap} (x : TK av h₁ h₂) (y : TK av h₂ h₃) : TK av h₁ h₃ := fun a vs n t => y a vs n (x a vs n t)
theorem TK.of_keeps {av : Avd} {h h' : Heap} (k : ∀ b o, h.get? b = some o → h'.get? b = some o) : TK av h h' := fun a _ _ ⟨n, ho⟩ => ⟨n, k a _ ho⟩
theorem TK.of_ext {av : Avd} {h h' : Heap} {a : Addr} {o : Obj} (ho : h.get? a = some o) (hn : ∀ vs n, o ≠ { cls := .type "tuple", data := .seq vs n }) (k : Heap.ExtBut a h h') : TK av h h' := fun b vs _ ⟨n, ho'⟩ => by
  by_cases e : b = a
  · subst e; rw [ho] at ho'; cases ho'; exact absurd rfl (hn _ _)
  · exact ⟨n, k b _ e ho'⟩
theorem TK.of_ext_seq {av : Avd} {h h' : Heap} {a : Addr} {o : Obj} (ho : h.get? a = some o) (hn : ∀ xs n, o.data ≠ .seq xs n) (k : Heap.ExtBut a h h') : TK av h h' := fun b vs _ ⟨n, ho'⟩ => by
  by_cases e : b = a
  · subst e; rw [ho] at ho'; cases ho'; exact absurd rfl (hn _ _)
  · exact ⟨n, k b _ e ho'⟩

mutual
theorem VRel.mono {av : Avd} {h h' : Heap} (k : TK av h h') : ∀ {x : AV} {v : Value}, VRel av h x v → VRel av h' x v
  | _, _, .none => .none
  | _, _, .bool b => .bool b
  | _, _, .int i t => .int i t
  | _, _, .str x t => .str x t
  | _, _, .bytes b t => .bytes b t
  | _, _, .tup n t r => .tup n (k _ _ n t) (VRels.mono k r)
  | _, _, .ref a => .ref a
  | _, _, .raw v => .raw v
theorem VRels.mono {av : Avd} {h h' : Heap} (k : TK av h h') : ∀ {x : List AV} {v : List Value}, VRels av h x v → VRels av h' x v
  | _, _, .nil => .nil
  | _, _, .cons a b => .cons (VRel.mono k a) (VRels.mono k b)
end

theorem VRels.length {av : Avd} {h : Heap} : ∀ {xs : List AV} {vs : List Value}, VRels av h xs vs → vs.length = xs.length
  | _, _, .nil => rfl
  | _, _, .cons _ r => by simp [VRels.length r]
theorem VRels.append {av : Avd} {h : Heap} : ∀ {xs ys : List AV} {vs ws : List Value}, VRels av h xs vs → VRels av h ys ws → VRels av h (xs ++ ys) (vs ++ ws)
  | _, _, _, _, .nil, y => y
  | _, _, _, _, .cons a r, y => .cons a (VRels.append r y)
theorem VRels.get {av : Avd} {h : Heap} : ∀ {xs : List AV} {vs : List Value}, VRels av h xs vs → ∀ {i : Nat} {x : AV}, xs[i]? = some x → ∃ v, vs[i]? = some v ∧ VRel av h x v
  | _, _, .nil, i, x, e => by simp at e
  | _, _, .cons a r, 0, x, e => by simp at e; subst e; exact ⟨_, rfl, a⟩
  | _, _, .cons a r, i + 1, x, e => by simp only [List.getElem?_cons_succ] at e ⊢; exact VRels.get r e
theorem VRels.take {av : Avd} {h : Heap} : ∀ {xs : List AV} {vs : List Value}, VRels av h xs vs → ∀ (n : Nat), VRels av h (xs.take n) (vs.take n)
  | _, _, .nil, n => by simp; exact .nil
  | _, _, .cons a r, 0 => by simp; exact .nil
  | _, _, .cons a r, n + 1 => by simp only [List.take_succ_cons]; exact .cons a (VRels.take r n)
theorem VRels.drop {av : Avd} {h : Heap} : ∀ {xs : List AV} {vs : List Value}, VRels av h xs vs → ∀ (n : Nat), VRels av h (xs.drop n) (vs.drop n)
  | _, _, .nil, n => by simp; exact .nil
  | _, _, .cons a r, 0 => .cons a r
  | _, _, .cons a r, n + 1 => by simp only [List.drop_succ_cons]; exact VRels.drop r n

/-- the entries of a dict whose keys are texts -/
inductive EnRel (av : Avd) (h : Heap) : List (Str × AV) → List DictEntry → Prop
  | nil : EnRel av h [] []
  | cons {x : Str} {v : AV} {e : DictEntry} {es : List (Str × AV)} {l : List DictEntry} : (∃ t, e.key = .str x t) → VRel av h v e.val → EnRel av h es l → EnRel av h ((x, v) :: es) (e :: l)
theorem EnRel.mono {av : Avd} {h h' : Heap} (k : TK av h h') {es : List (Str × AV)} {l : List DictEntry} (r : EnRel av h es l) : EnRel av h' es l := by
  induction r with
  | nil => exact .nil
  | cons a b _ ih => exact .cons a (b.mono k) ih
/-- an abstract object and an object of the heap -/
noncomputable def ORel (av : Avd) (h : Heap) : AO → Obj → Prop
  | .list xs, o => ∃ vs n, o = { cls := .type "list", data := .seq vs.toArray n } ∧ VRels av h xs vs
  | .ns es, o => ∃ l n, o = { cls := .type "dict", data := .dict l.toArray n } ∧ EnRel av h es l
  | .inst C d, o => o = { cls := .ref C, dict := some d }
  | .cell v, o => ∃ V, o.data = .cell (some V) ∧ VRel av h v V
  | .obj ob, o => o = ob ∧ ∀ vs n, ob ≠ { cls := .type "tuple", data := .seq vs n }

theorem ORel.mono {av : Avd} {h h' : Heap} (k : TK av h h') : ∀ {o : AO} {ob : Obj}, ORel av h o ob → ORel av h' o ob
  | .list _, _, ⟨vs, n, e, r⟩ => ⟨vs, n, e, r.mono k⟩
  | .ns _, _, ⟨l, n, d, e⟩ => ⟨l, n, d, e.mono k⟩
  | .inst _ _, _, e => e
  | .cell _, _, ⟨V, e, r⟩ => ⟨V, e, r.mono k⟩
  | .obj _, _, e => e
theorem ORel.not_tuple {av : Avd} {h : Heap} : ∀ {o : AO} {ob : Obj}, ORel av h o ob → ∀ vs n, ob ≠ { cls := .type "tuple", data := .seq vs n }
  | .list _, _, ⟨vs, n, e, r⟩, _, _, e' => by rw [e] at e'; exact absurd (congrArg Obj.cls e') (by show Value.type "list" ≠ Value.type "tuple"; decide)
  | .ns _, _, ⟨en, n, d, _⟩, _, _, e' => by rw [d] at e'; exact absurd (congrArg Obj.cls e') (by show Value.type "dict" ≠ Value.type "tuple"; decide)
  | .inst _ _, _, e, _, _, e' => by cases e; cases e'
  | .cell _, _, ⟨V, e, r⟩, _, _, e' => by subst e'; cases e
  | .obj _, _, ⟨e, e2⟩, _, _, e' => by subst e; exact e2 _ _ e'

abbrev Sto := List (Addr × AO)
/-- what is protected; of it what no value of the program is -/
structure Kap where
  p : Addr → Option Obj
  av : Avd
  ok : ∀ a, av a → p a ≠ none

/-- the store is in the heap, apart from what is protected -/
structure RepS (κ : Kap) (σ : Sto) (h : Heap) : Prop where
  prot : ∀ b o, κ.p b = some o → h.get? b = some o
  objs : ∀ p ∈ σ, ∃ ob, h.get? p.1 = some ob ∧ ORel κ.av h p.2 ob
  nodup : (σ.map (·.1)).Nodup
  new : ∀ p ∈ σ, κ.p p.1 = none

/-- an entry replaced in its place -/
inductive At : Sto → Addr → AO → AO → Sto → Prop
  | head {a : Addr} {o o' : AO} {r : Sto} : At ((a, o) :: r) a o o' ((a, o') :: r)
  | tail {a : Addr} {o o' : AO} {p : Addr × AO} {r r' : Sto} : At r a o o' r' → At (p :: r) a o o' (p :: r')

theorem At.mem {σ σ' : Sto} {a : Addr} {o o' : AO} (x : At σ a o o' σ') : (a, o) ∈ σ := by
  induction x with
  | head => exact .head _
  | tail _ ih => exact .tail _ ih
theorem At.keys {σ σ' : Sto} {a : Addr} {o o' : AO} (x : At σ a o o' σ') : σ'.map (·.1) = σ.map (·.1) := by
  induction x with
  | head => rfl
  | tail _ ih => simp [ih]
theorem At.mem_cases {σ σ' : Sto} {a : Addr} {o o' : AO} (x : At σ a o o' σ') : ∀ p ∈ σ', p = (a, o') ∨ p ∈ σ := by
  induction x with
  | head => intro p hp; rcases List.mem_cons.mp hp with e | e; exact .inl e; exact .inr (.tail _ e)
  | tail _ ih => intro p hp; rcases List.mem_cons.mp hp with e | e; exact .inr (e ▸ .head _); exact (ih p e).imp id (.tail _)
theorem At.mem_ne {σ σ' : Sto} {a : Addr} {o o' : AO} (x : At σ a o o' σ') (hn : (σ.map (·.1)).Nodup) : ∀ p ∈ σ', p = (a, o') ∨ (p ∈ σ ∧ p.1 ≠ a) := by
  induction x with
  | head =>
    intro p hp
    rcases List.mem_cons.mp hp with e | e
    · exact .inl e
    · refine .inr ⟨.tail _ e, fun h => ?_⟩
      simp only [List.map_cons, List.nodup_cons] at hn
      exact hn.1 (h ▸ List.mem_map_of_mem e)
  | tail y ih =>
    intro p hp
    simp only [List.map_cons, List.nodup_cons] at hn
    rcases List.mem_cons.mp hp with e | e
    · subst e
      refine .inr ⟨.head _, fun h => hn.1 (h ▸ List.mem_map_of_mem y.mem)⟩
    · exact (ih hn.2 p e).imp id fun q => ⟨.tail _ q.1, q.2⟩
theorem At.self {σ : Sto} {a : Addr} {o : AO} (h : (a, o) ∈ σ) : At σ a o o σ := by
  induction σ with
  | nil => cases h
  | cons p r ih => rcases List.mem_cons.mp h with e | e; exact e ▸ .head; exact .tail (ih e)

namespace RepS
variable {κ : Kap} {σ σ' : Sto} {h h' : Heap}
theorem keep (R : RepS κ σ h) (k : ∀ b o, h.get? b = some o → h'.get? b = some o) : RepS κ σ h' where
  prot b o e := k b o (R.prot b o e)
  objs p hp := let ⟨ob, e, r⟩ := R.objs p hp; ⟨ob, k _ _ e, r.mono (.of_keeps k)⟩
  nodup := R.nodup
  new := R.new
/-- an object that is neither protected nor in the store is changed -/
theorem ext (R : RepS κ σ h) {a : Addr} (hκ : κ.p a = none) (hσ : a ∉ σ.map (·.1)) (k : Heap.ExtBut a h h') (tk : TK κ.av h h') : RepS κ σ h' where
  prot b o e := k b o (fun he => by rw [he, hκ] at e; cases e) (R.prot b o e)
  objs p hp := let ⟨ob, e, r⟩ := R.objs p hp; ⟨ob, k _ _ (fun he => hσ (he ▸ List.mem_map_of_mem hp)) e, r.mono tk⟩
  nodup := R.nodup
  new := R.new
theorem upd (R : RepS κ σ h) {a : Addr} {o o' : AO} (at' : At σ a o o' σ') {ob : Obj} (k : Heap.ExtBut a h h') (hob : h'.get? a = some ob) (r : ORel κ.av h' o' ob) : RepS κ σ' h' where
  prot b o e := k b o (fun he => by rw [he, R.new _ at'.mem] at e; cases e) (R.prot b o e)
  objs p hp := by
    obtain ⟨oa, ea, ra⟩ := R.objs _ at'.mem
    have tk : TK κ.av h h' := .of_ext ea ra.not_tuple k
    rcases at'.mem_ne R.nodup p hp with e | ⟨e, ne⟩
    · subst e; exact ⟨ob, hob, r⟩
    · obtain ⟨ob', e', r'⟩ := R.objs p e
      exact ⟨ob', k _ _ ne e', r'.mono tk⟩
  nodup := at'.keys ▸ R.nodup
  new p hp := by
    rcases at'.mem_cases p hp with e | e
    · subst e; exact R.new (a, o) at'.mem
    · exact R.new p e
theorem tk_upd (R : RepS κ σ h) {a : Addr} {o : AO} (hm : (a, o) ∈ σ) (k : Heap.ExtBut a h h') : TK κ.av h h' := by
  obtain ⟨oa, ea, ra⟩ := R.objs _ hm
  exact .of_ext ea ra.not_tuple k
theorem add (R : RepS κ σ h) {a : Addr} {o : AO} {ob : Obj} (hn : h.get? a = none) (k : ∀ b o, h.get? b = some o → h'.get? b = some o) (hob : h'.get? a = some ob) (r : ORel κ.av h' o ob) : RepS κ ((a, o) :: σ) h' where
  prot b o e := k b o (R.prot b o e)
  objs p hp := by
    rcases List.mem_cons.mp hp with e | e
    · subst e; exact ⟨ob, hob, r⟩
    · obtain ⟨ob', e', r'⟩ := R.objs p e
      exact ⟨ob', k _ _ e', r'.mono (.of_keeps k)⟩
  nodup := by
    simp only [List.map_cons, List.nodup_cons]
    refine ⟨fun hm => ?_, R.nodup⟩
    obtain ⟨p, hp, e⟩ := List.mem_map.mp hm
    obtain ⟨ob', e', _⟩ := R.objs p hp
    rw [e, hn] at e'; cases e'
  new p hp := by
    rcases List.mem_cons.mp hp with e | e
    · subst e
      cases hk : κ.p a with
      | none => rfl
      | some o' => have := R.prot _ _ hk; rw [hn] at this; cases this
    · exact R.new p e
/-- fewer things known -/
theorem sub (R : RepS κ σ h) (hs : σ'.Sublist σ) : RepS κ σ' h where
  prot := R.prot
  objs p hp := R.objs p (hs.subset hp)
  nodup := R.nodup.sublist (hs.map _)
  new p hp := R.new p (hs.subset hp)
theorem perm (R : RepS κ σ h) (hs : σ'.Perm σ) : RepS κ σ' h where
  prot := R.prot
  objs p hp := R.objs p (hs.subset hp)
  nodup := (hs.map _).nodup_iff.mpr R.nodup
  new p hp := R.new p (hs.subset hp)
theorem weak (R : RepS κ σ h) {κ' : Kap} (ha : κ'.av = κ.av) (hk : ∀ b o, κ'.p b = some o → κ.p b = some o) : RepS κ' σ h where
  prot b o e := R.prot b o (hk b o e)
  objs := ha ▸ R.objs
  nodup := R.nodup
  new p hp := by
    cases hk' : κ'.p p.1 with
    | none => rfl
    | some o => have := hk _ _ hk'; rw [R.new p hp] at this; cases this
end RepS
end Mine
namespace Mine

abbrev keys (σ : Sto) : List Addr := σ.map (·.1)
abbrev Loc := List (Str × AV)

/-- a local set -/
noncomputable def lset : Loc → Str → AV → Loc
  | [], x, v => [(x, v)]
  | (y, w) :: r, x, v => if x == y then (y, v) :: r else (y, w) :: lset r x v
theorem lookup_lset (loc : Loc) (x : Str) (v : AV) (y : Str) : (lset loc x v).lookup y = if y = x then some v else loc.lookup y := by
  induction loc with
  | nil =>
    show (match y == x with | true => some v | false => none) = _
    by_cases e : y = x
    · subst e; rw [beq_self_eq_true, if_pos rfl]
    · rw [beq_eq_false_iff_ne.mpr e, if_neg e]; rfl
  | cons p r ih =>
    obtain ⟨z, w⟩ := p
    unfold lset
    by_cases e : x = z
    · subst e
      rw [if_pos (beq_self_eq_true x), List.lookup_cons, List.lookup_cons]
      by_cases f : y = x
      · subst f; rw [beq_self_eq_true, if_pos rfl]
      · rw [beq_eq_false_iff_ne.mpr f, if_neg f]
    · rw [if_neg (by rw [beq_eq_false_iff_ne.mpr e]; decide), List.lookup_cons, List.lookup_cons, ih]
      by_cases f : y = z
      · subst f; rw [beq_self_eq_true]; show some w = if y = x then some v else some w; rw [if_neg (fun h => e h.symm)]
      · rw [beq_eq_false_iff_ne.mpr f]

structure Gd where
  prog : Program
  w : World
  hB : Heap
abbrev Gd.M (Γ : Gd) : Model := model Γ.prog Γ.w
noncomputable def Gd.le (Γ : Gd) (κ : Kap) : Prop := ∀ b o, Γ.hB.get? b = some o → κ.p b = some o

noncomputable def AOk (k : Nat) (A : Around) : Prop := A.handled = none ∧ A.depth + k < recursionLimit ∧ A.units + 50 * (k + 1) < cLine
theorem AOk.deeper {k : Nat} {A : Around} (h : AOk (k + 1) A) (env : Env) : AOk k (A.deeper env) := by
  obtain ⟨a, b, c⟩ := h
  refine ⟨a, ?_, ?_⟩
  · show A.depth + 1 + k < _; omega
  · show A.units + 3 + 50 * (k + 1) < _; omega
theorem AOk.room {k : Nat} {A : Around} (h : AOk (k + 1) A) : A.depth < recursionLimit := by have := h.2.1; omega
theorem AOk.units {k : Nat} {A : Around} (h : AOk k A) : A.units < cLine := by have := h.2.2; omega
abbrev No : Value → Shared → Prop := fun _ _ => False

/-- all that lives and is not the store's -/
noncomputable def mxp (σ : Sto) (h : Heap) : Addr → Option Obj := fun b => if b ∈ keys σ then none else h.get? b
theorem mx_of {σ : Sto} {h : Heap} {b : Addr} {o : Obj} (hb : b ∉ keys σ) (ho : h.get? b = some o) : mxp σ h b = some o := by
  unfold mxp; rw [if_neg hb]; exact ho
theorem of_mx {σ : Sto} {h : Heap} {b : Addr} {o : Obj} (e : mxp σ h b = some o) : b ∉ keys σ ∧ h.get? b = some o := by
  unfold mxp at e
  by_cases hb : b ∈ keys σ
  · rw [if_pos hb] at e; cases e
  · rw [if_neg hb] at e; exact ⟨hb, e⟩
theorem RepS.not_key {κ : Kap} {σ : Sto} {h : Heap} (R : RepS κ σ h) {b : Addr} {o : Obj} (e : κ.p b = some o) : b ∉ keys σ := fun hm => by
  obtain ⟨p, hp, rfl⟩ := List.mem_map.mp hm
  rw [R.new p hp] at e; cases e
theorem RepS.live {κ : Kap} {σ : Sto} {h : Heap} (R : RepS κ σ h) {b : Addr} (hb : b ∈ keys σ) : ∃ o, h.get? b = some o ∧ ∀ vs n, o ≠ { cls := .type "tuple", data := .seq vs n } := by
  obtain ⟨p, hp, rfl⟩ := List.mem_map.mp hb
  obtain ⟨ob, e, r⟩ := R.objs p hp
  exact ⟨ob, e, r.not_tuple⟩
noncomputable def mx {κ : Kap} {σ : Sto} {h : Heap} (R : RepS κ σ h) : Kap where
  p := mxp σ h
  av := κ.av
  ok a ha := by
    cases e : κ.p a with
    | none => exact absurd e (κ.ok a ha)
    | some o => rw [mx_of (R.not_key e) (R.prot _ _ e)]; simp
theorem RepS.mx {κ : Kap} {σ : Sto} {h : Heap} (R : RepS κ σ h) : RepS (mx R) σ h where
  prot b o e := (of_mx e).2
  objs := R.objs
  nodup := R.nodup
  new p hp := by show mxp σ h p.1 = none; unfold mxp; rw [if_pos (List.mem_map_of_mem hp)]
theorem Gd.le_mx {Γ : Gd} {κ : Kap} {σ : Sto} {h : Heap} (R : RepS κ σ h) (l : Γ.le κ) : Γ.le (Mine.mx R) := fun b o e =>
  mx_of (R.not_key (l b o e)) (R.prot _ _ (l b o e))
/-- what is new is no place to be avoided -/
theorem RepS.not_av {κ : Kap} {σ : Sto} {h : Heap} (R : RepS κ σ h) {a : Addr} (hn : h.get? a = none) : ¬ κ.av a := fun hv => by
  cases e : κ.p a with
  | none => exact κ.ok a hv e
  | some o => rw [R.prot _ _ e] at hn; cases hn
/-- what a step leaves alone -/
structure Stp (av : Avd) (σ : Sto) (h : Heap) (σ' : Sto) (h' : Heap) : Prop where
  keep : ∀ b o, b ∉ keys σ → h.get? b = some o → h'.get? b = some o
  new : ∀ a ∈ keys σ', a ∈ keys σ ∨ h.get? a = none
  tk : TK av h h'
theorem Stp.of_mx {κ : Kap} {σ σ' : Sto} {h h' : Heap} (R : RepS κ σ h) (R' : RepS (Mine.mx R) σ' h') : Stp κ.av σ h σ' h' where
  keep b o hb ho := R'.prot b o (mx_of hb ho)
  new a ha := by
    obtain ⟨p, hp, rfl⟩ := List.mem_map.mp ha
    have : mxp σ h p.1 = none := R'.new p hp
    unfold mxp at this
    by_cases hm : p.1 ∈ keys σ
    · exact .inl hm
    · rw [if_neg hm] at this; exact .inr this
  tk a vs := fun _ ⟨n, ho⟩ => by
    refine ⟨n, R'.prot a _ (mx_of (fun hm => ?_) ho)⟩
    obtain ⟨o', e', n'⟩ := R.live hm
    rw [ho] at e'; cases e'; exact n' _ _ rfl
theorem RepS.of_mx {κ : Kap} {σ σ' : Sto} {h h' : Heap} (R : RepS κ σ h) (R' : RepS (Mine.mx R) σ' h') : RepS κ σ' h' :=
  R'.weak rfl fun b o e => mx_of (R.not_key e) (R.prot b o e)

structure Fits (sc : Scope) (env : Env) : Prop where
  scope : env.scope = sc
  kind : sc.kind = .function
  glob : env.globals = mainGlobals
  blt : env.builtins = builtinsNs
  fn : sc.names.lookup (Str.ofString ".0") = none → env.func.isSome = true

theorem Fits.kindOf {sc : Scope} {env : Env} (f : Fits sc env) (x : Str) : env.kindOf x = sc.names.lookup x := by
  unfold Env.kindOf; rw [f.scope]
theorem Fits.fkind {sc : Scope} {env : Env} (f : Fits sc env) : env.scope.kind = .function := by rw [f.scope]; exact f.kind
theorem Fits.hp {sc : Scope} {env : Env} (f : Fits sc env) : (env.scope.kind == .class || (env.scope.kind == .module && env.locals != env.globals)) = false := by rw [f.fkind]; rfl

/-- the frame -/
structure FRel (κ : Kap) (env : Env) (loc : Loc) (σ : Sto) (h : Heap) : Prop where
  ns : ∃ m, h.Ns env.locals m ∧ ∀ x v, loc.lookup x = some v → env.kindOf x = some .local → ∃ V, m x = some V ∧ VRel κ.av h v V
  cell : ∀ x, env.kindOf x = some .cell → ∃ c V, env.cells.lookup x = some c ∧ h.IsCell c V ∧ ∀ v, loc.lookup x = some v → ∃ V', V = some V' ∧ VRel κ.av h v V'
  free : ∀ x v, loc.lookup x = some v → env.kindOf x = some .free → ∃ c o V, env.cells.lookup x = some c ∧ κ.p c = some o ∧ o.data = .cell (some V) ∧ VRel κ.av h v V
  apart : ∀ x y c, env.kindOf x = some .cell → env.kindOf y = some .cell → env.cells.lookup x = some c → env.cells.lookup y = some c → x = y
  Lnew : κ.p env.locals = none ∧ env.locals ∉ keys σ
  cnew : ∀ x c, env.kindOf x = some .cell → env.cells.lookup x = some c → c ∉ keys σ ∧ (env.func.isSome = true → κ.p c = none) ∧ ∀ o, κ.p c = some o → ∃ V, o.data = .cell V

structure Rep (κ : Kap) (env : Env) (loc : Loc) (σ : Sto) (h : Heap) : Prop where
  s : RepS κ σ h
  f : FRel κ env loc σ h

theorem FRel.stp {κ : Kap} {env : Env} {loc : Loc} {σ σ' : Sto} {h h' : Heap} (F : FRel κ env loc σ h) (S : Stp κ.av σ h σ' h') : FRel κ env loc σ' h' where
  ns := by
    obtain ⟨m, hn, hm⟩ := F.ns
    refine ⟨m, ?_, fun x v hx hk => let ⟨V, e, r⟩ := hm x v hx hk; ⟨V, e, r.mono S.tk⟩⟩
    obtain ⟨o, es, ep, ho, r⟩ := hn
    exact ⟨o, es, ep, S.keep _ _ F.Lnew.2 ho, r⟩
  cell x hx := by
    obtain ⟨c, V, hc, ⟨o, ho, hd⟩, hv⟩ := F.cell x hx
    exact ⟨c, V, hc, ⟨o, S.keep _ _ (F.cnew x c hx hc).1 ho, hd⟩, fun v h => let ⟨V', e, r⟩ := hv v h; ⟨V', e, r.mono S.tk⟩⟩
  free x v hx hk := let ⟨c, o, V, a, b, d, e⟩ := F.free x v hx hk; ⟨c, o, V, a, b, d, e.mono S.tk⟩
  apart := F.apart
  Lnew := by
    refine ⟨F.Lnew.1, fun hm => ?_⟩
    rcases S.new _ hm with e | e
    · exact F.Lnew.2 e
    · obtain ⟨m, ⟨o, es, ep, ho, _⟩, _⟩ := F.ns
      rw [ho] at e; cases e
  cnew x c hx hc := by
    refine ⟨fun hm => ?_, (F.cnew x c hx hc).2⟩
    rcases S.new _ hm with e | e
    · exact (F.cnew x c hx hc).1 e
    · obtain ⟨c', V, hc', ⟨o, ho, _⟩, _⟩ := F.cell x hx
      rw [hc] at hc'; cases hc'
      rw [ho] at e; cases e

/-- fewer locals known -/
theorem FRel.forget {κ : Kap} {env : Env} {loc loc' : Loc} {σ : Sto} {h : Heap} (F : FRel κ env loc σ h) (hl : ∀ x v, loc'.lookup x = some v → loc.lookup x = some v) : FRel κ env loc' σ h where
  ns := let ⟨m, hn, hm⟩ := F.ns; ⟨m, hn, fun x v hx hk => hm x v (hl x v hx) hk⟩
  cell x hx := let ⟨c, V, a, b, d⟩ := F.cell x hx; ⟨c, V, a, b, fun v h => d v (hl x v h)⟩
  free x v hx hk := F.free x v (hl x v hx) hk
  apart := F.apart
  Lnew := F.Lnew
  cnew := F.cnew
theorem FRel.sub {κ : Kap} {env : Env} {loc : Loc} {σ σ' : Sto} {h : Heap} (F : FRel κ env loc σ h) (hs : ∀ a ∈ keys σ', a ∈ keys σ) : FRel κ env loc σ' h where
  ns := F.ns
  cell := F.cell
  free := F.free
  apart := F.apart
  Lnew := ⟨F.Lnew.1, fun hm => F.Lnew.2 (hs _ hm)⟩
  cnew x c hx hc := ⟨fun hm => (F.cnew x c hx hc).1 (hs _ hm), (F.cnew x c hx hc).2⟩

/-- posts -/
abbrev PstS (κ : Kap) (s : Shared) (P : AV → Sto → Prop) : Value → Shared → Prop := fun V s' => ∃ v σ' h' tk, s' = { s with heap := h', toks := tk } ∧ RepS κ σ' h' ∧ VRel κ.av h' v V ∧ P v σ'
abbrev PstB (κ : Kap) (s : Shared) (P : Bool → Sto → Prop) : Bool → Shared → Prop := fun b s' => ∃ σ' h' tk, s' = { s with heap := h', toks := tk } ∧ RepS κ σ' h' ∧ P b σ'
abbrev PstE (κ : Kap) (env : Env) (loc : Loc) (s : Shared) (P : AV → Sto → Prop) : Value → Shared → Prop := fun V s' => ∃ v σ' h' tk, s' = { s with heap := h', toks := tk } ∧ TK κ.av s.heap h' ∧ Rep κ env loc σ' h' ∧ VRel κ.av h' v V ∧ P v σ'
abbrev PstT (κ : Kap) (env : Env) (loc : Loc) (s : Shared) (P : Bool → Sto → Prop) : Bool → Shared → Prop := fun b s' => ∃ σ' h' tk, s' = { s with heap := h', toks := tk } ∧ TK κ.av s.heap h' ∧ Rep κ env loc σ' h' ∧ P b σ'
abbrev PstL (κ : Kap) (env : Env) (loc : Loc) (s : Shared) (P : List AV → Sto → Prop) : List Value → Shared → Prop := fun V s' => ∃ v σ' h' tk, s' = { s with heap := h', toks := tk } ∧ TK κ.av s.heap h' ∧ Rep κ env loc σ' h' ∧ VRels κ.av h' v V ∧ P v σ'

inductive AFl where
  | next | brk | cont
  | ret (v : AV)
inductive FlRel (av : Avd) (h : Heap) : AFl → Flow → Prop
  | next : FlRel av h .next .next
  | brk : FlRel av h .brk .brk
  | cont : FlRel av h .cont .cont
  | ret {v : AV} {V : Value} : VRel av h v V → FlRel av h (.ret v) (.ret V)
abbrev PstX (κ : Kap) (env : Env) (s : Shared) (P : AFl → Loc → Sto → Prop) : Flow → Shared → Prop := fun f s' => ∃ fl loc' σ' h' tk, s' = { s with heap := h', toks := tk } ∧ TK κ.av s.heap h' ∧ Rep κ env loc' σ' h' ∧ FlRel κ.av h' fl f ∧ P fl loc' σ'

section
variable (Γ : Gd) (k : Nat)
/-- operations on one, two values; calls -/
noncomputable def Op1 (t : Value → Sem Value) (x : AV) (σ : Sto) (P : AV → Sto → Prop) : Prop :=
  ∀ A κ s X, AOk k A → Γ.le κ → RepS κ σ s.heap → VRel κ.av s.heap x X → wpAny Γ.M A (t X) (PstS κ s P) No s
noncomputable def Op2 (t : Value → Value → Sem Value) (x y : AV) (σ : Sto) (P : AV → Sto → Prop) : Prop :=
  ∀ A κ s X Y, AOk k A → Γ.le κ → RepS κ σ s.heap → VRel κ.av s.heap x X → VRel κ.av s.heap y Y → wpAny Γ.M A (t X Y) (PstS κ s P) No s
noncomputable def Ops (t : List Value → Sem Value) (xs : List AV) (σ : Sto) (P : AV → Sto → Prop) : Prop :=
  ∀ A κ s Xs, AOk k A → Γ.le κ → RepS κ σ s.heap → VRels κ.av s.heap xs Xs → wpAny Γ.M A (t Xs) (PstS κ s P) No s
noncomputable def Tr (x : AV) (σ : Sto) (P : Bool → Sto → Prop) : Prop :=
  ∀ A κ s X, AOk k A → Γ.le κ → RepS κ σ s.heap → VRel κ.av s.heap x X → wpAny Γ.M A (truthy X) (PstB κ s P) No s
/-- in a frame -/
noncomputable def Ev (sc : Scope) (e : Expr) (loc : Loc) (σ : Sto) (P : AV → Sto → Prop) : Prop :=
  ∀ A κ env s, AOk k A → Γ.le κ → Fits sc env → Rep κ env loc σ s.heap → wpAny Γ.M A (eval e env) (PstE κ env loc s P) No s
noncomputable def Ts (sc : Scope) (e : Expr) (loc : Loc) (σ : Sto) (P : Bool → Sto → Prop) : Prop :=
  ∀ A κ env s, AOk k A → Γ.le κ → Fits sc env → Rep κ env loc σ s.heap → wpAny Γ.M A (isTrue e env (eval e env)) (PstT κ env loc s P) No s
noncomputable def Evs (sc : Scope) (es : List Expr) (loc : Loc) (σ : Sto) (P : List AV → Sto → Prop) : Prop :=
  ∀ A κ env s pos, AOk k A → Γ.le κ → Fits sc env → Rep κ env loc σ s.heap → wpAny Γ.M A (spliced (backTo pos (starEach es env))) (PstL κ env loc s P) No s
noncomputable def Ex (sc : Scope) (st : Stmt) (loc : Loc) (σ : Sto) (P : AFl → Loc → Sto → Prop) : Prop :=
  ∀ A κ env s, AOk k A → Γ.le κ → Fits sc env → Rep κ env loc σ s.heap → wpAny Γ.M A (exec st env) (PstX κ env s P) No s
noncomputable def Exs (sc : Scope) (st : List Stmt) (loc : Loc) (σ : Sto) (P : AFl → Loc → Sto → Prop) : Prop :=
  ∀ A κ env s, AOk k A → Γ.le κ → Fits sc env → Rep κ env loc σ s.heap → wpAny Γ.M A (execs st env) (PstX κ env s P) No s
/-- a target given a value -/
noncomputable def Asg (sc : Scope) (t : Expr) (v : AV) (loc : Loc) (σ : Sto) (P : Loc → Sto → Prop) : Prop :=
  ∀ A κ env s V, AOk k A → Γ.le κ → Fits sc env → Rep κ env loc σ s.heap → VRel κ.av s.heap v V → wpAny Γ.M A (assign t env V)
    (fun _ s' => ∃ loc' σ' h' tk, s' = { s with heap := h', toks := tk } ∧ TK κ.av s.heap h' ∧ Rep κ env loc' σ' h' ∧ P loc' σ') No s
end

section
variable {Γ : Gd} {k : Nat} {sc : Scope} {loc : Loc} {σ : Sto}

theorem wp_no {α : Type} {M : Model} {A : Around} {t : Sem α} {Q Q' : α → Shared → Prop} {E : Value → Shared → Prop} {s : Shared} (h : wpAny M A t Q No s) (hq : ∀ a s, Q a s → Q' a s) : wpAny M A t Q' E s :=
  wpAny_mono h hq fun _ _ x => x.elim

end
section
variable {M : Model} {A : Around} {κ : Kap} {env : Env} {loc : Loc} {s : Shared} {E : Value → Shared → Prop}
theorem wpE {t : Sem Value} {P : AV → Sto → Prop} {Q : Value → Shared → Prop} (h : wpAny M A t (PstE κ env loc s P) No s)
    (q : ∀ V v σ' h' tk, TK κ.av s.heap h' → Rep κ env loc σ' h' → VRel κ.av h' v V → P v σ' → Q V { s with heap := h', toks := tk }) : wpAny M A t Q E s :=
  wp_no h fun V s' pst => pst.elim fun v p => p.elim fun σ' p => p.elim fun h' p => p.elim fun tk p => p.1 ▸ q V v σ' h' tk p.2.1 p.2.2.1 p.2.2.2.1 p.2.2.2.2
theorem wpL {t : Sem (List Value)} {P : List AV → Sto → Prop} {Q : List Value → Shared → Prop} (h : wpAny M A t (PstL κ env loc s P) No s)
    (q : ∀ V v σ' h' tk, TK κ.av s.heap h' → Rep κ env loc σ' h' → VRels κ.av h' v V → P v σ' → Q V { s with heap := h', toks := tk }) : wpAny M A t Q E s :=
  wp_no h fun V s' pst => pst.elim fun v p => p.elim fun σ' p => p.elim fun h' p => p.elim fun tk p => p.1 ▸ q V v σ' h' tk p.2.1 p.2.2.1 p.2.2.2.1 p.2.2.2.2
theorem wpS {t : Sem Value} {P : AV → Sto → Prop} {Q : Value → Shared → Prop} (h : wpAny M A t (PstS κ s P) No s)
    (q : ∀ V v σ' h' tk, RepS κ σ' h' → VRel κ.av h' v V → P v σ' → Q V { s with heap := h', toks := tk }) : wpAny M A t Q E s :=
  wp_no h fun V s' pst => pst.elim fun v p => p.elim fun σ' p => p.elim fun h' p => p.elim fun tk p => p.1 ▸ q V v σ' h' tk p.2.1 p.2.2.1 p.2.2.2
theorem wpT {t : Sem Bool} {P : Bool → Sto → Prop} {Q : Bool → Shared → Prop} (h : wpAny M A t (PstT κ env loc s P) No s)
    (q : ∀ V σ' h' tk, TK κ.av s.heap h' → Rep κ env loc σ' h' → P V σ' → Q V { s with heap := h', toks := tk }) : wpAny M A t Q E s :=
  wp_no h fun V s' pst => pst.elim fun σ' p => p.elim fun h' p => p.elim fun tk p => p.1 ▸ q V σ' h' tk p.2.1 p.2.2.1 p.2.2.2
theorem wpX {t : Sem Flow} {P : AFl → Loc → Sto → Prop} {Q : Flow → Shared → Prop} (h : wpAny M A t (PstX κ env s P) No s)
    (q : ∀ V fl loc' σ' h' tk, TK κ.av s.heap h' → Rep κ env loc' σ' h' → FlRel κ.av h' fl V → P fl loc' σ' → Q V { s with heap := h', toks := tk }) : wpAny M A t Q E s :=
  wp_no h fun V s' pst => pst.elim fun fl p => p.elim fun l p => p.elim fun σ' p => p.elim fun h' p => p.elim fun tk p => p.1 ▸ q V fl l σ' h' tk p.2.1 p.2.2.1 p.2.2.2.1 p.2.2.2.2
theorem wpA {t : Sem Unit} {P : Loc → Sto → Prop} {Q : Unit → Shared → Prop} (h : wpAny M A t (fun _ s' => ∃ loc' σ' h' tk, s' = { s with heap := h', toks := tk } ∧ TK κ.av s.heap h' ∧ Rep κ env loc' σ' h' ∧ P loc' σ') No s)
    (q : ∀ loc' σ' h' tk, TK κ.av s.heap h' → Rep κ env loc' σ' h' → P loc' σ' → Q () { s with heap := h', toks := tk }) : wpAny M A t Q E s :=
  wp_no h fun _ s' pst => pst.elim fun l p => p.elim fun σ' p => p.elim fun h' p => p.elim fun tk p => p.1 ▸ q l σ' h' tk p.2.1 p.2.2.1 p.2.2.2
theorem wpU {t : Sem Unit} {P : Sto → Prop} {Q : Unit → Shared → Prop} (h : wpAny M A t (fun _ s' => ∃ σ' h' tk, s' = { s with heap := h', toks := tk } ∧ RepS κ σ' h' ∧ P σ') No s)
    (q : ∀ σ' h' tk, RepS κ σ' h' → P σ' → Q () { s with heap := h', toks := tk }) : wpAny M A t Q E s :=
  wp_no h fun _ s' pst => pst.elim fun σ' p => p.elim fun h' p => p.elim fun tk p => p.1 ▸ q σ' h' tk p.2.1 p.2.2
end

section
variable {Γ : Gd} {k : Nat} {sc : Scope} {loc : Loc} {σ : Sto}
/-- a step without the frame, in a frame -/
theorem frame_step {κ : Kap} {env : Env} {h : Heap} (R : Rep κ env loc σ h) {σ' : Sto} {h' : Heap} (R' : RepS (mx R.s) σ' h') : TK κ.av h h' ∧ Rep κ env loc σ' h' :=
  let S := Stp.of_mx R.s R'
  ⟨S.tk, R.s.of_mx R', R.f.stp S⟩
theorem Op1.at {t : Value → Sem Value} {x : AV} {P : AV → Sto → Prop} (o : Op1 Γ k t x σ P) {A : Around} {κ : Kap} {env : Env} {s : Shared} {X : Value} (hA : AOk k A) (l : Γ.le κ) (R : Rep κ env loc σ s.heap) (hx : VRel κ.av s.heap x X) :
    wpAny Γ.M A (t X) (PstE κ env loc s P) No s :=
  wpS (o A (mx R.s) s X hA (Gd.le_mx R.s l) R.s.mx hx) fun V v σ' h' tk R' r p =>
    let ⟨q, R''⟩ := frame_step R R'; ⟨v, σ', h', tk, rfl, q, R'', r, p⟩
theorem Op2.at {t : Value → Value → Sem Value} {x y : AV} {P : AV → Sto → Prop} (o : Op2 Γ k t x y σ P) {A : Around} {κ : Kap} {env : Env} {s : Shared} {X Y : Value} (hA : AOk k A) (l : Γ.le κ) (R : Rep κ env loc σ s.heap) (hx : VRel κ.av s.heap x X) (hy : VRel κ.av s.heap y Y) :
    wpAny Γ.M A (t X Y) (PstE κ env loc s P) No s :=
  wpS (o A (mx R.s) s X Y hA (Gd.le_mx R.s l) R.s.mx hx hy) fun V v σ' h' tk R' r p =>
    let ⟨q, R''⟩ := frame_step R R'; ⟨v, σ', h', tk, rfl, q, R'', r, p⟩
theorem Ops.at {t : List Value → Sem Value} {xs : List AV} {P : AV → Sto → Prop} (o : Ops Γ k t xs σ P) {A : Around} {κ : Kap} {env : Env} {s : Shared} {Xs : List Value} (hA : AOk k A) (l : Γ.le κ) (R : Rep κ env loc σ s.heap) (hx : VRels κ.av s.heap xs Xs) :
    wpAny Γ.M A (t Xs) (PstE κ env loc s P) No s :=
  wpS (o A (mx R.s) s Xs hA (Gd.le_mx R.s l) R.s.mx hx) fun V v σ' h' tk R' r p =>
    let ⟨q, R''⟩ := frame_step R R'; ⟨v, σ', h', tk, rfl, q, R'', r, p⟩
theorem Tr.at {x : AV} {P : Bool → Sto → Prop} (o : Tr Γ k x σ P) {A : Around} {κ : Kap} {env : Env} {s : Shared} {X : Value} (hA : AOk k A) (l : Γ.le κ) (R : Rep κ env loc σ s.heap) (hx : VRel κ.av s.heap x X) :
    wpAny Γ.M A (truthy X) (PstT κ env loc s P) No s :=
  wp_no (o A (mx R.s) s X hA (Gd.le_mx R.s l) R.s.mx hx) fun V s' ⟨σ', h', tk, e, R', p⟩ =>
    let ⟨q, R''⟩ := frame_step R R'; ⟨σ', h', tk, e, q, R'', p⟩

/-- posts carried on: from s₁ = s with another heap -/
theorem PstE.trans {κ : Kap} {env : Env} {s : Shared} {h₁ : Heap} {tk₁ : Nat} {P : AV → Sto → Prop} {V : Value} {s' : Shared} (tk : TK κ.av s.heap h₁) (h : PstE κ env loc { s with heap := h₁, toks := tk₁ } P V s') : PstE κ env loc s P V s' :=
  let ⟨v, σ', h', t, e, q, R, r, p⟩ := h; ⟨v, σ', h', t, e, tk.trans q, R, r, p⟩
theorem PstL.trans {κ : Kap} {env : Env} {s : Shared} {h₁ : Heap} {tk₁ : Nat} {P : List AV → Sto → Prop} {V : List Value} {s' : Shared} (tk : TK κ.av s.heap h₁) (h : PstL κ env loc { s with heap := h₁, toks := tk₁ } P V s') : PstL κ env loc s P V s' :=
  let ⟨v, σ', h', t, e, q, R, r, p⟩ := h; ⟨v, σ', h', t, e, tk.trans q, R, r, p⟩
theorem PstT.trans {κ : Kap} {env : Env} {s : Shared} {h₁ : Heap} {tk₁ : Nat} {P : Bool → Sto → Prop} {V : Bool} {s' : Shared} (tk : TK κ.av s.heap h₁) (h : PstT κ env loc { s with heap := h₁, toks := tk₁ } P V s') : PstT κ env loc s P V s' :=
  let ⟨σ', h', t, e, q, R, p⟩ := h; ⟨σ', h', t, e, tk.trans q, R, p⟩
theorem PstX.trans {κ : Kap} {env : Env} {s : Shared} {h₁ : Heap} {tk₁ : Nat} {P : AFl → Loc → Sto → Prop} {V : Flow} {s' : Shared} (tk : TK κ.av s.heap h₁) (h : PstX κ env { s with heap := h₁, toks := tk₁ } P V s') : PstX κ env s P V s' :=
  let ⟨v, l, σ', h', t, e, q, R, r, p⟩ := h; ⟨v, l, σ', h', t, e, tk.trans q, R, r, p⟩

/-! rules -/
theorem ev_mono {e : Expr} {P Q : AV → Sto → Prop} (h : Ev Γ k sc e loc σ P) (hq : ∀ v σ, P v σ → Q v σ) : Ev Γ k sc e loc σ Q := fun A κ env s hA l f R =>
  wpE (h A κ env s hA l f R) fun _ v σ' h' tk b c d p => ⟨v, σ', h', tk, rfl, b, c, d, hq _ _ p⟩
theorem ts_mono {e : Expr} {P Q : Bool → Sto → Prop} (h : Ts Γ k sc e loc σ P) (hq : ∀ v σ, P v σ → Q v σ) : Ts Γ k sc e loc σ Q := fun A κ env s hA l f R =>
  wpT (h A κ env s hA l f R) fun _ σ' h' tk b c p => ⟨σ', h', tk, rfl, b, c, hq _ _ p⟩
theorem ex_mono {e : Stmt} {P Q : AFl → Loc → Sto → Prop} (h : Ex Γ k sc e loc σ P) (hq : ∀ f l σ, P f l σ → Q f l σ) : Ex Γ k sc e loc σ Q := fun A κ env s hA l f R =>
  wpX (h A κ env s hA l f R) fun _ v lo σ' h' tk b c d p => ⟨v, lo, σ', h', tk, rfl, b, c, d, hq _ _ _ p⟩
theorem exs_mono {e : List Stmt} {P Q : AFl → Loc → Sto → Prop} (h : Exs Γ k sc e loc σ P) (hq : ∀ f l σ, P f l σ → Q f l σ) : Exs Γ k sc e loc σ Q := fun A κ env s hA l f R =>
  wpX (h A κ env s hA l f R) fun _ v lo σ' h' tk b c d p => ⟨v, lo, σ', h', tk, rfl, b, c, d, hq _ _ _ p⟩
theorem ev_int {i : Int} {n : Nat} {pos : Pos} {P : AV → Sto → Prop} (h : P (.int i) σ) : Ev Γ k sc (.Constant (.int i) n pos) loc σ P := fun _ _ _ s _ _ _ R =>
  wpAny_Constant_int ⟨_, _, s.heap, _, rfl, .refl _, R, .int _ _, h⟩
theorem ev_str {x : Str} {n : Nat} {pos : Pos} {P : AV → Sto → Prop} (h : P (.str x) σ) : Ev Γ k sc (.Constant (.str x) n pos) loc σ P := fun _ _ _ s _ _ _ R =>
  wpAny_Constant_str ⟨_, _, s.heap, _, rfl, .refl _, R, .str _ _, h⟩
theorem ev_bytes {b : List UInt8} {n : Nat} {pos : Pos} {P : AV → Sto → Prop} (h : P (.bytes b.toArray) σ) : Ev Γ k sc (.Constant (.bytes b) n pos) loc σ P := fun _ _ _ s _ _ _ R =>
  fun _ _ _ => ⟨_, _, s.heap, _, rfl, .refl _, R, .bytes _ _, h⟩

theorem ev_local {x : Str} {pos : Pos} {v : AV} {P : AV → Sto → Prop} (hk : sc.names.lookup x = some .local) (hv : loc.lookup x = some v) (h : P v σ) (hd : (x == ("__debug__" : Str)) = false) : Ev Γ k sc (.Name x pos) loc σ P := fun _ _ env s _ _ f R => by
  obtain ⟨m, hn, hm⟩ := R.f.ns
  have hl : env.kindOf x = some .local := by rw [f.kindOf]; exact hk
  obtain ⟨V, e, r⟩ := hm x v hv hl
  exact wpAny_Name (wpAny_loadName_local f.fkind hl hn e ⟨v, σ, s.heap, s.toks, rfl, .refl _, R, r, h⟩) hd
theorem ev_cell {x : Str} {pos : Pos} {v : AV} {P : AV → Sto → Prop} (hk : sc.names.lookup x = some .cell) (hv : loc.lookup x = some v) (h : P v σ) (hd : (x == ("__debug__" : Str)) = false) : Ev Γ k sc (.Name x pos) loc σ P := fun _ _ env s _ _ f R => by
  have hl : env.kindOf x = some .cell := by rw [f.kindOf]; exact hk
  obtain ⟨c, V, hc, hi, hV⟩ := R.f.cell x hl
  obtain ⟨V', rfl, r⟩ := hV v hv
  exact wpAny_Name (wpAny_loadName_cell f.fkind hl hc hi ⟨v, σ, s.heap, s.toks, rfl, .refl _, R, r, h⟩) hd
theorem ev_free {x : Str} {pos : Pos} {v : AV} {P : AV → Sto → Prop} (hk : sc.names.lookup x = some .free) (hv : loc.lookup x = some v) (h : P v σ) (hd : (x == ("__debug__" : Str)) = false) (hn : (x == ("__classdict__" : Str)) = false) : Ev Γ k sc (.Name x pos) loc σ P := fun _ _ env s _ _ f R => by
  have hl : env.kindOf x = some .free := by rw [f.kindOf]; exact hk
  obtain ⟨c, o, V, hc, hκ, hd', r⟩ := R.f.free x v hv hl
  exact wpAny_Name (wpAny_loadName_free f.fkind hl hc ⟨o, R.s.prot _ _ hκ, hd'⟩ ⟨v, σ, s.heap, s.toks, rfl, .refl _, R, r, h⟩ hn) hd

theorem ev_binop {l r : Expr} {op : Operator} {pos : Pos} {P : AV → Sto → Prop}
    (h : Ev Γ k sc l loc σ fun a σ₁ => Ev Γ k sc r loc σ₁ fun b σ₂ => Op2 Γ k (binaryOp op) a b σ₂ P) : Ev Γ k sc (.BinOp l op r pos) loc σ P := fun A κ env s hA l' f R =>
  wpAny_BinOp (wpE (h A κ env s hA l' f R) fun V₁ a σ₁ h₁ tk₁ q₁ R₁ r₁ p₁ => by
    refine wpE (p₁ A κ env _ hA l' f R₁) fun V₂ b σ₂ h₂ tk₂ q₂ R₂ r₂ p₂ => ?_
    exact wp_no (p₂.at hA l' R₂ (r₁.mono q₂) r₂) fun V₃ s₃ h₃ => (h₃.trans (tk₁ := tk₁) q₂).trans q₁)
theorem ev_compare {l r : Expr} {op : CmpOp} {pos : Pos} {P : AV → Sto → Prop}
    (h : Ev Γ k sc l loc σ fun a σ₁ => Ev Γ k sc r loc σ₁ fun b σ₂ => Op2 Γ k (compareOp op) a b σ₂ P) (hm : behindInMarks op r = false) : Ev Γ k sc (.Compare l [op] [r] pos) loc σ P := fun A κ env s hA l' f R =>
  wpAny_Compare1 (wpE (h A κ env s hA l' f R) fun V₁ a σ₁ h₁ tk₁ q₁ R₁ r₁ p₁ => by
    refine wpE (p₁ A κ env _ hA l' f R₁) fun V₂ b σ₂ h₂ tk₂ q₂ R₂ r₂ p₂ => ?_
    exact wp_no (p₂.at hA l' R₂ (r₁.mono q₂) r₂) fun V₃ s₃ h₃ => (h₃.trans (tk₁ := tk₁) q₂).trans q₁) hm
theorem ts_compare {l r : Expr} {op : CmpOp} {pos : Pos} {P : Bool → Sto → Prop}
    (h : Ev Γ k sc l loc σ fun a σ₁ => Ev Γ k sc r loc σ₁ fun b σ₂ => Op2 Γ k (compareOp op) a b σ₂ fun c σ₃ => Tr Γ k c σ₃ P) (hm : behindInMarks op r = false) : Ts Γ k sc (.Compare l [op] [r] pos) loc σ P := fun A κ env s hA l' f R =>
  wpAny_isTrue_Compare1 (wpE (h A κ env s hA l' f R) fun V₁ a σ₁ h₁ tk₁ q₁ R₁ r₁ p₁ => by
    refine wpE (p₁ A κ env _ hA l' f R₁) fun V₂ b σ₂ h₂ tk₂ q₂ R₂ r₂ p₂ => ?_
    refine wpE (p₂.at hA l' R₂ (r₁.mono q₂) r₂) fun V₃ c σ₃ h₃ tk₃ q₃ R₃ r₃ p₃ => ?_
    exact wp_no (p₃.at hA l' R₃ r₃) fun V₄ s₄ h₄ => ((h₄.trans (tk₁ := tk₁) q₃).trans (tk₁ := tk₁) q₂).trans q₁) hm

theorem exs_nil {P : AFl → Loc → Sto → Prop} (h : P .next loc σ) : Exs Γ k sc [] loc σ P := fun _ _ _ s _ _ _ R =>
  wpAny_execs_nil ⟨.next, loc, σ, s.heap, s.toks, rfl, .refl _, R, .next, h⟩
/-- a sequence -/
abbrev Seq (Γ : Gd) (k : Nat) (sc : Scope) (rest : List Stmt) (P : AFl → Loc → Sto → Prop) : AFl → Loc → Sto → Prop := fun f l σ => match f with
  | .next => Exs Γ k sc rest l σ P
  | f => P f l σ
theorem exs_cons {st : Stmt} {rest : List Stmt} {P : AFl → Loc → Sto → Prop} (h : Ex Γ k sc st loc σ (Seq Γ k sc rest P)) : Exs Γ k sc (st :: rest) loc σ P := fun A κ env s hA l f R =>
  wpAny_execs_cons (wpX (h A κ env s hA l f R) fun fl g loc₁ σ₁ h₁ tk₁ q R₁ r p => by
    cases r with
    | next => exact wp_no (p A κ env _ hA l f R₁) fun _ _ h => h.trans q
    | brk => exact ⟨_, _, _, _, _, rfl, q, R₁, .brk, p⟩
    | cont => exact ⟨_, _, _, _, _, rfl, q, R₁, .cont, p⟩
    | ret r => exact ⟨_, _, _, _, _, rfl, q, R₁, .ret r, p⟩)

theorem ex_return {e : Expr} {pos : Pos} {P : AFl → Loc → Sto → Prop} (h : Ev Γ k sc e loc σ fun v σ' => P (.ret v) loc σ') : Ex Γ k sc (.Return (some e) pos) loc σ P := fun A κ env s hA l f R =>
  wpAny_Return_some (wpE (h A κ env s hA l f R) fun V v σ' h' tk q R' r p => ⟨_, _, _, _, _, rfl, q, R', .ret r, p⟩)
theorem ex_break {pos : Pos} {P : AFl → Loc → Sto → Prop} (h : P .brk loc σ) : Ex Γ k sc (.Break pos) loc σ P := fun _ _ _ s _ _ _ R =>
  wpAny_Break ⟨_, _, _, s.heap, s.toks, rfl, .refl _, R, .brk, h⟩
theorem ex_continue {pos : Pos} {P : AFl → Loc → Sto → Prop} (h : P .cont loc σ) : Ex Γ k sc (.Continue pos) loc σ P := fun _ _ _ s _ _ _ R =>
  wpAny_Continue ⟨_, _, _, s.heap, s.toks, rfl, .refl _, R, .cont, h⟩
/-- both ways -/
noncomputable def Both (b : Bool) (T F : Prop) : Prop := (b = true → T) ∧ (b = false → F)
theorem ex_if {test : Expr} {body orelse : List Stmt} {pos : Pos} {P : AFl → Loc → Sto → Prop} (h : Ts Γ k sc test loc σ fun b σ' => Both b (Exs Γ k sc body loc σ' P) (Exs Γ k sc orelse loc σ' P)) : Ex Γ k sc (.If test body orelse pos) loc σ P := fun A κ env s hA l f R =>
  wpAny_If (wpT (h A κ env s hA l f R) fun b σ' h' tk q R' p => by
    cases b with
    | true => simp only [if_true]; exact wp_no (p.1 rfl A κ env _ hA l f R') fun _ _ h => h.trans q
    | false => simp only [Bool.false_eq_true, if_false]; exact wp_no (p.2 rfl A κ env _ hA l f R') fun _ _ h => h.trans q)
theorem ev_ifexp {test body orelse : Expr} {pos : Pos} {P : AV → Sto → Prop} (h : Ts Γ k sc test loc σ fun b σ' => Both b (Ev Γ k sc body loc σ' P) (Ev Γ k sc orelse loc σ' P)) : Ev Γ k sc (.IfExp test body orelse pos) loc σ P := fun A κ env s hA l f R =>
  wpAny_IfExp (wpT (h A κ env s hA l f R) fun b σ' h' tk q R' p => by
    cases b with
    | true => simp only [if_true]; exact wp_no (p.1 rfl A κ env _ hA l f R') fun _ _ h => h.trans q
    | false => simp only [Bool.false_eq_true, if_false]; exact wp_no (p.2 rfl A κ env _ hA l f R') fun _ _ h => h.trans q)
end
end Mine
namespace Mine
section
variable {κ : Kap} {env : Env} {loc : Loc} {σ : Sto} {h h' : Heap}

theorem Rep.set_local (R : Rep κ env loc σ h) {x : Str} {v : AV} {V : Value} {m : Str → Option Value} (hn : h.Ns env.locals m) (hm : ∀ x v, loc.lookup x = some v → env.kindOf x = some .local → ∃ V, m x = some V ∧ VRel κ.av h v V)
    (hk : env.kindOf x = some .local) (hn' : h'.Ns env.locals (fun y => if y = x then some V else m y)) (hs : Heap.SameBut env.locals h h') (r : VRel κ.av h v V) : TK κ.av h h' ∧ Rep κ env (lset loc x v) σ h' := by
  have tk : TK κ.av h h' := by
    obtain ⟨o, es, ep, ho, hd, _⟩ := hn
    exact .of_ext_seq ho (fun xs n e => by rw [hd] at e; cases e) hs.extBut
  refine ⟨tk, R.s.ext R.f.Lnew.1 R.f.Lnew.2 hs.extBut tk, ?_⟩
  exact {
    ns := ⟨_, hn', fun y w hy hky => by
      rw [lookup_lset] at hy
      by_cases e : y = x
      · rw [if_pos e] at hy; cases hy; exact ⟨V, by simp only [if_pos e], r.mono tk⟩
      · rw [if_neg e] at hy; obtain ⟨W, a, b⟩ := hm y w hy hky; exact ⟨W, by simp only [if_neg e]; exact a, b.mono tk⟩⟩
    cell := fun y hy => by
      obtain ⟨c, W, hc, ⟨o, ho, hd⟩, hw⟩ := R.f.cell y hy
      have hne : c ≠ env.locals := fun e => by
        obtain ⟨o', es, ep, ho', hd', _⟩ := hn
        rw [e, ho'] at ho; cases ho; rw [hd'] at hd; cases hd
      refine ⟨c, W, hc, ⟨o, hs.extBut _ _ hne ho, hd⟩, fun w hw' => ?_⟩
      rw [lookup_lset, if_neg (fun e => by rw [e, hk] at hy; cases hy)] at hw'
      obtain ⟨W', a, b⟩ := hw w hw'
      exact ⟨W', a, b.mono tk⟩
    free := fun y w hy hky => by
      rw [lookup_lset, if_neg (fun e => by rw [e, hk] at hky; cases hky)] at hy
      obtain ⟨c, o, W, a, b, d, e⟩ := R.f.free y w hy hky
      exact ⟨c, o, W, a, b, d, e.mono tk⟩
    apart := R.f.apart
    Lnew := R.f.Lnew
    cnew := R.f.cnew }

theorem Rep.set_cell (R : Rep κ env loc σ h) {x : Str} {v : AV} {V : Value} {c : Addr} {V₀ : Option Value} (hk : env.kindOf x = some .cell) (hc : env.cells.lookup x = some c) (hi : h.IsCell c V₀)
    (hi' : h'.IsCell c (some V)) (hs : Heap.SameBut c h h') (r : VRel κ.av h v V) (hf : env.func.isSome = true) : TK κ.av h h' ∧ Rep κ env (lset loc x v) σ h' := by
  have tk : TK κ.av h h' := by
    obtain ⟨o, ho, hd⟩ := hi
    exact .of_ext_seq ho (fun xs n e => by rw [hd] at e; cases e) hs.extBut
  have cn := R.f.cnew x c hk hc
  refine ⟨tk, R.s.ext (cn.2.1 hf) cn.1 hs.extBut tk, ?_⟩
  exact {
    ns := by
      obtain ⟨m, hn, hm⟩ := R.f.ns
      have hne : env.locals ≠ c := fun e => by
        obtain ⟨o', es, ep, ho', hd', _⟩ := hn
        obtain ⟨o, ho, hd⟩ := hi
        rw [e, ho] at ho'; cases ho'; rw [hd'] at hd; cases hd
      refine ⟨m, hn.sameBut hs hne, fun y w hy hky => ?_⟩
      rw [lookup_lset, if_neg (fun e => by rw [e, hk] at hky; cases hky)] at hy
      obtain ⟨W, a, b⟩ := hm y w hy hky
      exact ⟨W, a, b.mono tk⟩
    cell := fun y hy => by
      obtain ⟨c', W, hc', hw, hv⟩ := R.f.cell y hy
      by_cases e : y = x
      · subst e
        rw [hc] at hc'; cases hc'
        refine ⟨c, some V, hc, hi', fun w hw' => ?_⟩
        rw [lookup_lset, if_pos rfl] at hw'; cases hw'
        exact ⟨V, rfl, r.mono tk⟩
      · have hne : c' ≠ c := fun e' => e (R.f.apart y x c hy hk (e' ▸ hc') hc)
        refine ⟨c', W, hc', hw.sameBut hs hne, fun w hw' => ?_⟩
        rw [lookup_lset, if_neg e] at hw'
        obtain ⟨W', a, b⟩ := hv w hw'
        exact ⟨W', a, b.mono tk⟩
    free := fun y w hy hky => by
      rw [lookup_lset, if_neg (fun e => by rw [e, hk] at hky; cases hky)] at hy
      obtain ⟨c, o, W, a, b, d, e⟩ := R.f.free y w hy hky
      exact ⟨c, o, W, a, b, d, e.mono tk⟩
    apart := R.f.apart
    Lnew := R.f.Lnew
    cnew := R.f.cnew }
end

section
variable {Γ : Gd} {k : Nat} {sc : Scope} {loc : Loc} {σ : Sto}

/-- a local stored -/
theorem store_name {x : Str} {v : AV} {P : Loc → Sto → Prop} (hk : sc.names.lookup x = some .local ∨ (sc.names.lookup x = some .cell ∧ sc.names.lookup (Str.ofString ".0") = none)) (h : P (lset loc x v) σ) {A : Around} {κ : Kap} {env : Env} {s : Shared} {V : Value} (f : Fits sc env) (R : Rep κ env loc σ s.heap) (r : VRel κ.av s.heap v V) :
    wpAny Γ.M A (storeName env x V) (fun _ s' => ∃ loc' σ' h' tk, s' = { s with heap := h', toks := tk } ∧ TK κ.av s.heap h' ∧ Rep κ env loc' σ' h' ∧ P loc' σ') No s := by
  rcases hk with hk | hk
  · have hl : env.kindOf x = some .local := by rw [f.kindOf]; exact hk
    obtain ⟨m, hn, hm⟩ := R.f.ns
    exact wpAny_storeName_local hl hn (fun h' hn' hs => let ⟨a, b⟩ := R.set_local hn hm hl hn' hs r; ⟨_, _, h', _, rfl, a, b, h⟩) f.hp
  · have hl : env.kindOf x = some .cell := by rw [f.kindOf]; exact hk.1
    obtain ⟨c, W, hc, hi, _⟩ := R.f.cell x hl
    exact wpAny_storeName_cell f.fkind hl hc hi (fun h' hi' hs => let ⟨a, b⟩ := R.set_cell hl hc hi hi' hs r (f.fn hk.2); ⟨_, _, h', s.toks, rfl, a, b, h⟩)

theorem asg_name {x : Str} {pos : Pos} {v : AV} {P : Loc → Sto → Prop} (hk : sc.names.lookup x = some .local ∨ (sc.names.lookup x = some .cell ∧ sc.names.lookup (Str.ofString ".0") = none)) (h : P (lset loc x v) σ) : Asg Γ k sc (.Name x pos) v loc σ P :=
  fun A κ env s V _ _ f R r => wpAny_assign_Name (store_name hk h f R r)

/-- targets one by one -/
noncomputable def AsgL (Γ : Gd) (k : Nat) (sc : Scope) (ts : List Expr) (vs : List AV) (loc : Loc) (σ : Sto) (P : Loc → Sto → Prop) : Prop :=
  ∀ A κ env s Vs, AOk k A → Γ.le κ → Fits sc env → Rep κ env loc σ s.heap → VRels κ.av s.heap vs Vs → wpAny Γ.M A (assignInOrder ((assignEach ts env).map (·.2)) Vs)
    (fun _ s' => ∃ loc' σ' h' tk, s' = { s with heap := h', toks := tk } ∧ TK κ.av s.heap h' ∧ Rep κ env loc' σ' h' ∧ P loc' σ') No s
theorem asgL_nil {P : Loc → Sto → Prop} (h : P loc σ) : AsgL Γ k sc [] [] loc σ P := fun A κ env s Vs _ _ _ R _ => by
  have : assignInOrder ((assignEach [] env).map (·.2)) Vs = pure () := rfl
  rw [this]
  exact wpAny_pure ⟨_, _, s.heap, s.toks, rfl, .refl _, R, h⟩
theorem asgL_cons {t : Expr} {ts : List Expr} {v : AV} {vs : List AV} {P : Loc → Sto → Prop} (h : Asg Γ k sc t v loc σ fun loc' σ' => AsgL Γ k sc ts vs loc' σ' P)
    (hs : ∀ env, assignEach (t :: ts) env = (false, assign t env) :: assignEach ts env) : AsgL Γ k sc (t :: ts) (v :: vs) loc σ P := fun A κ env s Vs hA l f R r => by
  cases r with
  | cons r rs =>
    rename_i V Vs
    rw [hs]
    show wpAny _ _ (do holding Vs (assign t env V); assignInOrder ((assignEach ts env).map (·.2)) Vs) _ _ s
    refine wpAny_bind (wpAny_holding (wpA (h A κ env s V hA l f R r) fun loc' σ' h' tk q R' p => ?_))
    exact wpA (p A κ env _ Vs hA l f R' (rs.mono q)) fun l₂ σ₂ h₂ tk₂ q₂ R₂ p₂ => ⟨l₂, σ₂, h₂, tk₂, rfl, q.trans q₂, R₂, p₂⟩

theorem size_new {h : Heap} : h.get? h.objs.size = none := by
  cases e : h.get? h.objs.size with
  | none => rfl
  | some o => exact absurd (Heap.lt_size e) (Nat.lt_irrefl _)
theorem ext_new {h h' : Heap} (k : Heap.ExtBut h.objs.size h h') : ∀ b o, h.get? b = some o → h'.get? b = some o := fun b o e => k b o (Nat.ne_of_lt (Heap.lt_size e)) e
/-- the heap only grew -/
theorem Rep.grow {κ : Kap} {env : Env} {h h' : Heap} (R : Rep κ env loc σ h) (k : ∀ b o, h.get? b = some o → h'.get? b = some o) : TK κ.av h h' ∧ Rep κ env loc σ h' :=
  ⟨.of_keeps k, R.s.keep k, R.f.stp ⟨fun b o _ e => k b o e, fun a ha => .inl ha, .of_keeps k⟩⟩

theorem length_assignEach (ts : List Expr) (env : Env) : (assignEach ts env).length = ts.length := by
  induction ts with
  | nil => rfl
  | cons t ts ih => cases t <;> simp [assignEach, ih]

/-- a tuple unpacked -/
theorem asg_tuple {elts : List Expr} {n : Nat} {pos : Pos} {xs : List AV} {P : Loc → Sto → Prop} (h : AsgL Γ k sc elts xs loc σ P) (hl : elts.length = xs.length) (hst : ∀ env, (assignEach elts env).findIdx? (·.1) = none) :
    Asg Γ k sc (.Tuple elts n pos) (.tup xs) loc σ P := fun A κ env s V hA l f R r => by
  cases r with
  | tup na t rs =>
    rename_i a vs
    refine wpAny_assign_Tuple hA.1 t.isTuple (by rw [length_assignEach, hl, ← rs.length]; simp) (hst env) fun h' he => ?_
    obtain ⟨q, R'⟩ := R.grow (ext_new he)
    exact wpA (h A κ env _ _ hA l f R' (rs.mono q)) fun l₂ σ₂ h₂ tk₂ q₂ R₂ p₂ => ⟨l₂, σ₂, h₂, tk₂, rfl, q.trans q₂, R₂, p₂⟩

/-- x = e, one target, plain -/
theorem ex_assign {t value : Expr} {pos : Pos} {P : AFl → Loc → Sto → Prop} (h : Ev Γ k sc value loc σ fun v σ' => Asg Γ k sc t v loc σ' fun loc' σ'' => P .next loc' σ'')
    (hs : ∀ env, Fits sc env → swapsWithSole [t] value pos.line env = pure false) (hw : ∀ env, Fits sc env → swappedStores [t] value env = pure none) (he : ∀ env, (assignEach [t] env).map (·.2) = [assign t env]) : Ex Γ k sc (.Assign [t] value pos) loc σ P := fun A κ env s hA l f R =>
  wpAny_Assign_stores (wpE (h A κ env s hA l f R) fun V v σ₁ h₁ tk₁ q R₁ r p => by
    rw [he]
    show wpAny _ _ (assign t env V) _ _ _
    exact wpA (p A κ env _ V hA l f R₁ r) fun l₂ σ₂ h₂ tk₂ q₂ R₂ p₂ => ⟨_, l₂, σ₂, h₂, tk₂, rfl, q.trans q₂, R₂, .next, p₂⟩) (hs env f) (hw env f)

/-- the names stored from behind -/
noncomputable def lsets (loc : Loc) : List Str → List AV → Loc
  | x :: xs, v :: vs => lset (lsets loc xs vs) x v
  | _, _ => loc
noncomputable def AsgN (Γ : Gd) (k : Nat) (sc : Scope) (xs : List Str) (vs : List AV) (loc : Loc) (σ : Sto) (P : Loc → Sto → Prop) : Prop :=
  ∀ A κ env s Vs, AOk k A → Γ.le κ → Fits sc env → Rep κ env loc σ s.heap → VRels κ.av s.heap vs Vs → wpAny Γ.M A (assignInOrder (xs.map fun n => bindName env n) Vs)
    (fun _ s' => ∃ loc' σ' h' tk, s' = { s with heap := h', toks := tk } ∧ TK κ.av s.heap h' ∧ Rep κ env loc' σ' h' ∧ P loc' σ') No s
theorem VRels.reverse {av : Avd} {h : Heap} : ∀ {xs : List AV} {vs : List Value}, VRels av h xs vs → VRels av h xs.reverse vs.reverse
  | _, _, .nil => .nil
  | _, _, .cons a r => by simp only [List.reverse_cons]; exact (VRels.reverse r).append (.cons a .nil)

/-- a call as a statement -/
theorem ex_expr {e : Expr} {pos : Pos} {P : AFl → Loc → Sto → Prop} (h : Ev Γ k sc e loc σ fun v σ' => v = .none ∧ P .next loc σ') (hs : ∀ env, Fits sc env → swapsWith e none pos.line env = pure false) : Ex Γ k sc (.Expr e pos) loc σ P := fun A κ env s hA l f R => by
  refine wpAny_Expr (wpE (h A κ env s hA l f R) fun V v σ₁ h₁ tk₁ q R₁ r ⟨ev, p⟩ => ?_) (by unfold interactive; rw [f.fkind]; rfl) (hs env f)
  subst ev
  cases r
  exact ⟨_, _, _, _, _, rfl, q, R₁, .next, p⟩

theorem ex_aug_name {x : Str} {op : Operator} {value : Expr} {pos' pos : Pos} {a : AV} {P : AFl → Loc → Sto → Prop} (hk : sc.names.lookup x = some .local) (hv : loc.lookup x = some a)
    (h : Ev Γ k sc value loc σ fun v σ' => Op2 Γ k (inplaceOp op) a v σ' fun r σ'' => P .next (lset loc x r) σ'') : Ex Γ k sc (.AugAssign (.Name x pos') op value pos) loc σ P := fun A κ env s hA l f R => by
  obtain ⟨m, hn, hm⟩ := R.f.ns
  have hl : env.kindOf x = some .local := by rw [f.kindOf]; exact hk
  obtain ⟨V, e, r⟩ := hm x a hv hl
  refine wpAny_AugAssign_Name (wpAny_loadName_local f.fkind hl hn e (wpE (h A κ env s hA l f R) fun V₁ v₁ σ₁ h₁ tk₁ q₁ R₁ r₁ p₁ => ?_))
  refine wpE (p₁.at hA l R₁ (r.mono q₁) r₁) fun V₂ v₂ σ₂ h₂ tk₂ q₂ R₂ r₂ p₂ => ?_
  exact wpA (store_name (P := fun loc' σ' => P .next loc' σ') (.inl hk) p₂ f R₂ r₂) fun l₃ σ₃ h₃ tk₃ q₃ R₃ p₃ => ⟨_, l₃, σ₃, h₃, tk₃, rfl, (q₁.trans q₂).trans q₃, R₃, .next, p₃⟩

/-- one turn of a while -/
abbrev Turn (P : AFl → Loc → Sto → Prop) (again : Loc → Sto → Prop) : AFl → Loc → Sto → Prop := fun f l σ => match f with
  | .next => again l σ
  | .cont => again l σ
  | .brk => P .next l σ
  | .ret v => P (.ret v) l σ
abbrev PstC (κ : Kap) (env : Env) (s : Shared) (P : AFl → Loc → Sto → Prop) : Result → Shared → Prop := fun r s' => match r with
  | .ok f => PstX κ env s P f s'
  | .error _ => False
noncomputable def Whl (Γ : Gd) (k : Nat) (sc : Scope) (test : Expr) (body : List Stmt) (loc : Loc) (σ : Sto) (P : AFl → Loc → Sto → Prop) : Prop :=
  ∀ A κ env s, AOk k A → Γ.le κ → Fits sc env → Rep κ env loc σ s.heap → codeAny Γ.M A (.whileLoop test body [] env) (PstC κ env s P) s
theorem whl {test : Expr} {body : List Stmt} {P : AFl → Loc → Sto → Prop}
    (h : Ts Γ k sc test loc σ fun b σ' => Both b (Exs Γ k sc body loc σ' (Turn P fun l σ'' => Whl Γ k sc test body l σ'' P)) (P .next loc σ')) : Whl Γ k sc test body loc σ P := fun A κ env s hA l f R => by
  refine codeAny_of_tree ?_
  show wpAny _ A ((whileTurn test body [] env).onRaise (fun x => do noteFrame x env; theTreesLotGoes x)) _ _ s
  refine wpAny_noted ?_
  simp only [whileTurn]
  refine wpAny_bind (wpT (h A κ env s hA l f R) fun b σ' h' tk q R' p => ?_)
  cases b with
  | true =>
    simp only [if_true]
    refine wpAny_bind (wpX (p.1 rfl A κ env _ hA l f R') fun fl g l₂ σ₂ h₂ tk₂ q₂ R₂ r₂ p₂ => ?_)
    have go : Whl Γ k sc test body l₂ σ₂ P → codeAny Γ.M A (.whileLoop test body [] env) (PstC κ env s P) { s with heap := h₂, toks := tk₂ } := fun again =>
      codeAny_mono (again A κ env { s with heap := h₂, toks := tk₂ } hA l f R₂) fun r s₃ x => by
        cases r with
        | ok fl => exact PstX.trans (s := s) (tk₁ := tk₂) (q.trans q₂) x
        | error _ => exact x
    cases r₂ with
    | next => exact wpAny_pure ⟨rfl, go p₂⟩
    | cont => exact wpAny_pure ⟨rfl, go p₂⟩
    | brk => exact wpAny_pure ⟨_, _, _, _, _, rfl, q.trans q₂, R₂, .next, p₂⟩
    | ret r => exact wpAny_pure ⟨_, _, _, _, _, rfl, q.trans q₂, R₂, .ret r, p₂⟩
  | false =>
    simp only [Bool.false_eq_true, if_false]
    exact wpAny_bind (wpAny_execs_nil (wpAny_pure ⟨_, _, _, _, _, rfl, q, R', .next, p.2 rfl⟩))
theorem ex_while {test : Expr} {body : List Stmt} {pos : Pos} {P : AFl → Loc → Sto → Prop} (h : Whl Γ k sc test body loc σ P) : Ex Γ k sc (.While test body [] pos) loc σ P := fun A κ env s hA l f R =>
  wpAny_While (codeAny_mono (h A κ env s hA l f R) fun r s' x => by
    cases r with
    | ok _ => exact x
    | error _ => exact x.elim)
end
end Mine
namespace Mine
section
variable {Γ : Gd} {k : Nat} {sc : Scope} {loc : Loc} {σ : Sto}

/-! lists of expressions -/
noncomputable def noStar : Expr → Bool
  | .Starred .. => false
  | _ => true
theorem starEach_eq {es : List Expr} (h : es.all noStar = true) (env : Env) : starEach es env = es.map fun e => (false, eval e env) := by
  induction es with
  | nil => rfl
  | cons e r ih =>
    simp only [List.all_cons, Bool.and_eq_true] at h
    have := ih h.2
    cases e <;> first | (exact absurd h.1 Bool.false_ne_true) | (simp only [starEach, List.map_cons, this])
theorem backTo_plain (pos : Pos) (env : Env) (es : List Expr) : backTo pos (es.map fun e => (false, eval e env)) = es.map fun e => (false, eval e env) := by
  induction es with
  | nil => rfl
  | cons e r ih => simp only [List.map_cons, backTo] at ih ⊢; rw [ih]; rfl

theorem evs_nil {P : List AV → Sto → Prop} (h : P [] σ) : Evs Γ k sc [] loc σ P := fun _ _ _ s _ _ _ _ R =>
  wpAny_items_nil ⟨_, _, s.heap, s.toks, rfl, .refl _, R, .nil, h⟩
theorem evs_cons {e : Expr} {es : List Expr} {P : List AV → Sto → Prop} (h : Ev Γ k sc e loc σ fun v σ' => Evs Γ k sc es loc σ' fun vs σ'' => P (v :: vs) σ'') (hs : (e :: es).all noStar = true) : Evs Γ k sc (e :: es) loc σ P := fun A κ env s pos hA l f R => by
  refine wpAny_items_cons (wpE (h A κ env s hA l f R) fun V v σ₁ h₁ tk₁ q R₁ r p => ?_) ?_
  · skip
    exact wpL (p A κ env _ pos hA l f R₁) fun Vs vs σ₂ h₂ tk₂ q₂ R₂ r₂ p₂ => ⟨_, σ₂, h₂, tk₂, rfl, q.trans q₂, R₂, .cons (r.mono q₂) r₂, p₂⟩
  · rw [starEach_eq hs, List.map_cons]
    simp only [List.all_cons, Bool.and_eq_true] at hs
    rw [starEach_eq hs.2]

/-! displays -/
theorem push_keeps {h : Heap} (o : Obj) : ∀ b o', h.get? b = some o' → (h.push o).get? b = some o' := fun _ _ e => Heap.get?_push_of_some _ e
theorem Rep.add {κ : Kap} {env : Env} {h h' : Heap} (R : Rep κ env loc σ h) {a : Addr} {o : AO} {ob : Obj} (hn : h.get? a = none) (k : ∀ b o, h.get? b = some o → h'.get? b = some o) (hob : h'.get? a = some ob) (r : ORel κ.av h' o ob) : Rep κ env loc ((a, o) :: σ) h' :=
  ⟨R.s.add hn k hob r, R.f.stp ⟨fun b o _ e => k b o e, fun b hb => by
    rcases List.mem_cons.mp hb with e | e
    · exact .inr (e ▸ hn)
    · exact .inl e, .of_keeps k⟩⟩

theorem ev_tuple {es : List Expr} {n : Nat} {pos : Pos} {P : AV → Sto → Prop} (h : Evs Γ k sc es loc σ fun vs σ' => vs.length ≤ sizeLine ∧ P (.tup vs) σ') : Ev Γ k sc (.Tuple es n pos) loc σ P := fun A κ env s hA l f R =>
  wpAny_Tuple (wpL (h A κ env s pos hA l f R) fun Vs vs σ₁ h₁ tk₁ q R₁ r ⟨hl, p⟩ => by
    refine ⟨by rw [r.length]; exact hl, .tup vs, σ₁, _, tk₁, rfl, q.trans (.of_keeps (push_keeps _)), (R₁.grow (push_keeps _)).2, .tup (R₁.s.not_av size_new) ⟨0, Heap.get?_push_size _ rfl⟩ (r.mono (.of_keeps (push_keeps _))), p⟩)
theorem ev_list {es : List Expr} {pos : Pos} {P : AV → Sto → Prop} (h : Evs Γ k sc es loc σ fun vs σ' => vs.length ≤ sizeLine ∧ ∀ a, P (.ref a) ((a, .list vs) :: σ')) : Ev Γ k sc (.List es pos) loc σ P := fun A κ env s hA l f R =>
  wpAny_List (wpL (h A κ env s pos hA l f R) fun Vs vs σ₁ h₁ tk₁ q R₁ r ⟨hl, p⟩ => by
    refine ⟨by rw [r.length]; exact hl, .ref _, _, _, tk₁, rfl, q.trans (.of_keeps (push_keeps _)), R₁.add size_new (push_keeps _) (Heap.get?_push_size _ rfl) (o := .list vs) ⟨Vs, 0, rfl, r.mono (.of_keeps (push_keeps _))⟩, .ref _, p _⟩)

/-! calls -/
/-- what a call does -/
abbrev Cal (Γ : Gd) (k : Nat) (F : Value) (xs : List AV) (σ : Sto) (P : AV → Sto → Prop) : Prop := Ops Γ k (fun Xs => call F Xs) xs σ P
noncomputable def Kpr (Γ : Gd) (σ : Sto) (F : Value) : Prop := ∀ κ h, Γ.le κ → RepS κ σ h → ∃ kp, (kp = Keeper.frame ∨ kp = Keeper.machine ∨ kp = Keeper.boundFrame) ∧ Looks Γ.M h (keeperOf F) kp
theorem kpr_builtin {id : String} : Kpr Γ σ (.builtin id) := fun _ _ _ _ => ⟨.machine, .inr (.inl rfl), .of_pure rfl⟩
theorem kpr_type {T : String} : Kpr Γ σ (.type T) := fun _ _ _ _ => ⟨.machine, .inr (.inl rfl), .of_pure rfl⟩
theorem kpr_obj {f : Addr} {o : Obj} {fd : FuncData} (ho : (f, .obj o) ∈ σ) (hd : o.data = .func fd) : Kpr Γ σ (.ref f) := fun κ h l R =>
  ⟨.frame, .inl rfl, fun A Q E s kk q => by
    obtain ⟨ob, e, rfl, _⟩ := R.objs _ ho
    unfold keeperOf
    refine wpAny_bind (wpAny_load (kk _ _ e) ?_)
    rw [hd]; exact wpAny_pure q⟩

theorem call_args {F : Value} {first : List AV} {es : List Expr} {P : AV → Sto → Prop} (hs : es.all noStar = true)
    (h : Evs Γ k sc es loc σ fun vs σ' => Kpr Γ σ' F ∧ Cal Γ k F (first ++ vs) σ' P) {A : Around} {κ : Kap} {env : Env} {s : Shared} {Fs : List Value} (pos : Pos) (hA : AOk k A) (l : Γ.le κ) (f : Fits sc env) (R : Rep κ env loc σ s.heap) (hf : VRels κ.av s.heap first Fs) :
    wpAny Γ.M A (callWith pos F Fs (backTo pos (starEach es env)) []) (PstE κ env loc s P) No s := by
  refine callWith_of (P := fun h => ∃ kp, (kp = Keeper.frame ∨ kp = Keeper.machine ∨ kp = Keeper.boundFrame) ∧ Looks Γ.M h (keeperOf F) kp) ?_ (fun _ x => x) ?_
  · rw [starEach_eq hs, backTo_plain]
    simp
  · have fin : ∀ Vs s₁, PstL κ env loc s (fun vs σ' => Kpr Γ σ' F ∧ Cal Γ k F (first ++ vs) σ' P) Vs s₁ → (fun (a : Args) (s₁ : Shared) => (∃ kp, (kp = Keeper.frame ∨ kp = Keeper.machine ∨ kp = Keeper.boundFrame) ∧ Looks Γ.M s₁.heap (keeperOf F) kp) ∧ wpAny Γ.M A (call F (Fs ++ a.pos) a.kw) (PstE κ env loc s P) No s₁) ⟨Vs, []⟩ s₁ := by
      intro Vs s₁ ⟨vs, σ₁, h₁, tk₁, e₁, q, R₁, r, kp, p⟩
      subst e₁
      refine ⟨kp κ h₁ l R₁.s, ?_⟩
      exact wp_no (p.at hA l R₁ ((hf.mono q).append r)) fun _ _ x => x.trans q
    have w := h A κ env s pos hA l f R
    cases es with
    | nil => exact fun Θ p hΘ => evalArgs_nil3 (fin [] s (w Θ p hΘ)) Θ p hΘ
    | cons e es =>
      have he : starEach (e :: es) env = (false, eval e env) :: starEach es env := by
        rw [starEach_eq hs, List.map_cons]
        simp only [List.all_cons, Bool.and_eq_true] at hs
        rw [starEach_eq hs.2]
      rw [he] at w ⊢
      exact evalArgs_plain (wp_no w fin)
end
end Mine
namespace Mine

structure Gd.Ok (Γ : Gd) (mg mb : Str → Option Value) : Prop where
  g : Γ.hB.Ns mainGlobals mg
  b : Γ.hB.Ns builtinsNs mb
  nolimit : Γ.hB.NoLimit

section
variable {Γ : Gd} {k : Nat} {sc : Scope} {loc : Loc} {σ : Sto} {mg mb : Str → Option Value}
theorem Gd.le.up {κ : Kap} {h : Heap} (l : Γ.le κ) (R : RepS κ σ h) : ∀ b o, Γ.hB.get? b = some o → h.get? b = some o := fun b o e => R.prot _ _ (l _ _ e)

theorem ev_global {x : Str} {pos : Pos} {V : Value} {P : AV → Sto → Prop} (G : Γ.Ok mg mb) (hk : sc.names.lookup x = some .globalImplicit) (hv : mg x = some V) (h : P (.raw V) σ) (hd : (x == ("__debug__" : Str)) = false) : Ev Γ k sc (.Name x pos) loc σ P := fun A κ env s hA l f R =>
  Name_function_global f.fkind (by rw [f.kindOf]; exact hk) (loadGlobal_global (mg := mg) (by rw [f.glob]; exact G.g.keeps (l.up R.s)) hv ⟨_, _, s.heap, s.toks, rfl, .refl _, R, .raw _, h⟩) hd
theorem ev_builtin {x : Str} {pos : Pos} {V : Value} {P : AV → Sto → Prop} (G : Γ.Ok mg mb) (hk : sc.names.lookup x = some .globalImplicit) (hm : mg x = none) (hv : mb x = some V) (h : P (.raw V) σ) (hd : (x == ("__debug__" : Str)) = false) : Ev Γ k sc (.Name x pos) loc σ P := fun A κ env s hA l f R =>
  Name_function_global f.fkind (by rw [f.kindOf]; exact hk) (loadGlobal_builtin (mg := mg) (mb := mb) (by rw [f.glob]; exact G.g.keeps (l.up R.s)) hm (by rw [f.blt]; exact G.b.keeps (l.up R.s)) hv ⟨_, _, s.heap, s.toks, rfl, .refl _, R, .raw _, h⟩) hd

/-- f(args) -/
theorem ev_call {x : Str} {p pos : Pos} {es : List Expr} {P : AV → Sto → Prop} (hs : es.all noStar = true)
    (h : Ev Γ k sc (.Name x p) loc σ fun fv σ₁ => ∃ F, fv = .raw F ∧ Evs Γ k sc es loc σ₁ fun vs σ₂ => Kpr Γ σ₂ F ∧ Cal Γ k F vs σ₂ P) : Ev Γ k sc (.Call (.Name x p) es [] pos) loc σ P := fun A κ env s hA l f R => by
  rw [arm_eval_Call_Name']
  refine wpAny_bind (wp_no (h A κ env s hA l f R) fun V s₁ pst => ?_)
  obtain ⟨v, σ₁, h₁, tk₁, e₁, q, R₁, r, F, rfl, p⟩ := pst
  subst e₁
  cases r
  exact wp_no (call_args (first := []) hs p pos hA l f R₁ .nil) fun _ _ x => x.trans q

noncomputable def retv : AFl → AV
  | .ret v => v
  | _ => .none
theorem zip_rev_lookup : ∀ (names : List Str) (Xs : List Value), names.Nodup → ∀ x, (names.zip Xs).reverse.lookup x = (names.zip Xs).lookup x
  | [], _, _, x => by simp
  | _ :: _, [], _, x => by simp
  | n :: names, X :: Xs, hn, x => by
    simp only [List.nodup_cons] at hn
    simp only [List.zip_cons_cons, List.reverse_cons, List.lookup_append, zip_rev_lookup names Xs hn.2 x, List.lookup_cons, List.lookup_nil]
    by_cases e : x = n
    · subst e
      have : (names.zip Xs).lookup x = none := by
        rw [List.lookup_eq_none_iff]
        intro p hp
        have : p.1 ∈ names := by
          obtain ⟨a, b⟩ := p
          exact (List.of_mem_zip hp).1
        exact bne_iff_ne.mpr fun (e : x = p.1) => hn.1 (e ▸ this)
      rw [this]; simp
    · simp [beq_eq_false_iff_ne.mpr e]
theorem zip_lookup {av : Avd} {h : Heap} : ∀ {names : List Str} {xs : List AV} {Xs : List Value}, VRels av h xs Xs → ∀ {x : Str} {v : AV}, (names.zip xs).lookup x = some v → x ∈ names ∧ ∃ V, (names.zip Xs).lookup x = some V ∧ VRel av h v V
  | [], _, _, _, x, v, e => by simp at e
  | _ :: _, _, _, .nil, x, v, e => by simp at e
  | n :: names, _, _, .cons r rs, x, v, e => by
    simp only [List.zip_cons_cons, List.lookup_cons] at e ⊢
    by_cases ex : x = n
    · subst ex
      simp only [beq_self_eq_true] at e ⊢
      cases e
      exact ⟨.head _, _, rfl, r⟩
    · simp only [beq_eq_false_iff_ne.mpr ex] at e ⊢
      obtain ⟨m, V, a, b⟩ := zip_lookup rs e
      exact ⟨.tail _ m, V, a, b⟩

/-- what is asked of a def -/
structure FnOk (Γ : Gd) (f : Addr) (fd : FuncData) (body : List Stmt) (names : List Str) : Prop where
  obj : ∃ o, Γ.hB.get? f = some o ∧ o.data = .func fd
  hb : fd.body = .stmts body
  code : Γ.hB.CodeRec fd.code fd.qualname
  bind : ∀ Xs : List Value, Xs.length = names.length → bindArgs fd ⟨Xs, []⟩ = pure (names.zip Xs)
  nodup : names.Nodup
  glob : fd.globals = mainGlobals
  blt : fd.builtins = builtinsNs
  co : fd.scope.isCoroutine = false
  gen : fd.scope.isGenerator = false
  kind : fd.scope.kind = .function
  clo : fd.closure = []

/-- what is known may be less -/
noncomputable def Drp (σ : Sto) (Q : Sto → Prop) : Prop := ∃ σ', σ'.Sublist σ ∧ Q σ'
theorem drp {σ : Sto} {Q : Sto → Prop} (h : Q σ) : Drp σ Q := ⟨σ, .refl _, h⟩
/-- a call, as code -/
noncomputable def CalC (Γ : Gd) (k : Nat) (F : Value) (xs : List AV) (σ : Sto) (P : AV → Sto → Prop) : Prop :=
  ∀ A κ s Xs, AOk k A → Γ.le κ → RepS κ σ s.heap → VRels κ.av s.heap xs Xs → codeAny Γ.M A (.call F ⟨Xs, []⟩) (fun r s' => match r with | .ok (.ret V) => PstS κ s P V s' | .ok _ => False | .error e => No e s') s
theorem cal_of {F : Value} {xs : List AV} {P : AV → Sto → Prop} (h : CalC Γ k F xs σ P) : Cal Γ k F xs σ P := fun A κ s Xs hA l R rs => wpAny_call (h A κ s Xs hA l R rs)

theorem fn_def {f : Addr} {fd : FuncData} {body : List Stmt} {names : List Str} {xs : List AV} {P : AV → Sto → Prop} (G : Γ.Ok mg mb) (O : FnOk Γ f fd body names)
    (hlen : xs.length = names.length) (hloc : ∀ x ∈ names, fd.scope.names.lookup x = some .local) (hcell : ∀ x ∈ fd.scope.names, x.2 ≠ .cell)
    (h : Exs Γ k fd.scope body (names.zip xs) σ fun fl _ σ' => Drp σ' (P (retv fl))) : CalC Γ (k + 1) (.ref f) xs σ P := fun A κ s Xs hA l R rs => by
  obtain ⟨o, ho, hd⟩ := O.obj
  have up := l.up R
  refine (codeAny_call_def hA.room (up _ _ ho) hd (G.nolimit.keeps up) (O.code.keeps up) O.hb (.of_eq (O.bind Xs (by rw [rs.length, hlen]))) hcell (fun x hx => hloc x.1 (List.of_mem_zip hx).1) (fun h₀ hns hkeep => ?_) O.co O.gen O.kind)
  have fit : Fits fd.scope (callEnv fd s.heap.objs.size f) := ⟨rfl, O.kind, O.glob, O.blt, fun _ => rfl⟩
  have R₀ : RepS κ σ h₀ := R.keep hkeep
  have Lκ : κ.p s.heap.objs.size = none := by
    cases e : κ.p s.heap.objs.size with
    | none => rfl
    | some o => exact absurd (R.prot _ _ e) (by rw [size_new]; simp)
  have Lσ : s.heap.objs.size ∉ keys σ := fun hm => by
    obtain ⟨o, e, _⟩ := R.live hm
    rw [size_new] at e; cases e
  have F : FRel κ (callEnv fd s.heap.objs.size f) (names.zip xs) σ h₀ := {
    ns := ⟨_, hns, fun x v hx hk => by
      obtain ⟨_, V, a, b⟩ := zip_lookup rs hx
      refine ⟨V, ?_, b.mono (.of_keeps hkeep)⟩
      rw [zip_rev_lookup _ _ O.nodup]; exact a⟩
    cell := fun x hx => by
      rw [fit.kindOf] at hx
      obtain ⟨p, hp, e⟩ : ∃ p ∈ fd.scope.names, p.2 = .cell := ⟨(x, .cell), mem_of_lookup hx, rfl⟩
      exact absurd e (hcell p hp)
    free := fun x v hx hk => by
      obtain ⟨m, _⟩ := zip_lookup rs hx
      rw [fit.kindOf, hloc x m] at hk; cases hk
    apart := fun x y c hx => by
      rw [fit.kindOf] at hx
      exact absurd rfl (hcell (x, .cell) (mem_of_lookup hx))
    Lnew := ⟨Lκ, Lσ⟩
    cnew := fun x c hx => by
      rw [fit.kindOf] at hx
      exact absurd rfl (hcell (x, .cell) (mem_of_lookup hx)) }
  refine wp_no (h _ κ _ { s with heap := h₀, toks := s.toks + (names.zip Xs).length } (hA.deeper _) l fit ⟨R₀, F⟩) fun fl s' pst0 => ?_
  obtain ⟨g, loc', σ', h', tk, e, q, R', r, σ'', hsub, p⟩ := pst0
  subst e
  refine ⟨_, σ'', h', tk, rfl, R'.s.sub hsub, ?_, p⟩
  cases r with
  | next => exact .none
  | brk => exact .none
  | cont => exact .none
  | ret r => exact r

theorem bindL_local (kindOf : Str → Option NameKind) : ∀ (binds : List (Str × Value)) (m : Str → Option Value) (x : Str), (binds.map (·.1)).Nodup → kindOf x = some .local → bindL kindOf binds m x = (match binds.lookup x with | some V => some V | none => m x)
  | [], m, x, _, _ => rfl
  | (n, v) :: r, m, x, hn, hk => by
    simp only [List.map_cons, List.nodup_cons] at hn
    rw [bindL, bindL_local kindOf r _ x hn.2 hk, List.lookup_cons]
    by_cases e : x = n
    · subst e
      have : r.lookup x = none := by
        rw [List.lookup_eq_none_iff]
        intro p hp
        exact bne_iff_ne.mpr fun (e : x = p.1) => hn.1 (e ▸ List.mem_map_of_mem hp)
      rw [this, if_pos hk]; simp
    · rw [beq_eq_false_iff_ne.mpr e]
      cases r.lookup x with
      | some V => rfl
      | none =>
        simp only
        by_cases hl : kindOf n = some .local
        · rw [if_pos hl]; simp only [if_neg e]
        · rw [if_neg hl]
theorem bindC_other (kindOf : Str → Option NameKind) : ∀ (binds : List (Str × Value)) (m : Str → Option Value) (x : Str), (binds.map (·.1)).Nodup → kindOf x ≠ some .local → bindC kindOf binds m x = (match binds.lookup x with | some V => some V | none => m x)
  | [], m, x, _, _ => rfl
  | (n, v) :: r, m, x, hn, hk => by
    simp only [List.map_cons, List.nodup_cons] at hn
    rw [bindC, bindC_other kindOf r _ x hn.2 hk, List.lookup_cons]
    by_cases e : x = n
    · subst e
      have : r.lookup x = none := by
        rw [List.lookup_eq_none_iff]
        intro p hp
        exact bne_iff_ne.mpr fun (e : x = p.1) => hn.1 (e ▸ List.mem_map_of_mem hp)
      rw [this, if_neg hk]; simp
    · rw [beq_eq_false_iff_ne.mpr e]
      cases r.lookup x with
      | some V => rfl
      | none =>
        simp only
        by_cases hl : kindOf n = some .local
        · rw [if_pos hl]
        · rw [if_neg hl]; simp only [if_neg e]
theorem zip_keys : ∀ (names : List Str) (Xs : List Value), Xs.length = names.length → (names.zip Xs).map (·.1) = names
  | [], _, _ => rfl
  | _ :: _, [], e => by simp at e
  | n :: names, X :: Xs, e => by simp only [List.zip_cons_cons, List.map_cons]; rw [zip_keys names Xs (by simpa using e)]

/-- a def some of whose names comprehensions or inner defs read -/
theorem fn_cells {f : Addr} {fd : FuncData} {body : List Stmt} {names : List Str} {xs : List AV} {P : AV → Sto → Prop} (G : Γ.Ok mg mb) (O : FnOk Γ f fd body names)
    (hlen : xs.length = names.length) (hloc : ∀ x ∈ names, fd.scope.names.lookup x = some .local ∨ fd.scope.names.lookup x = some .cell)
    (h : Exs Γ k fd.scope body (names.zip xs) σ fun fl _ σ' => Drp σ' (P (retv fl))) : CalC Γ (k + 1) (.ref f) xs σ P := fun A κ s Xs hA l R rs => by
  obtain ⟨o, ho, hd⟩ := O.obj
  have up := l.up R
  have hX : Xs.length = names.length := by rw [rs.length, hlen]
  have hcs : ∀ n x, fd.scope.names.lookup x = some .cell → ((cellsFrom n fd.scope.names []).lookup x).isSome = true := fun n x e => cellsFrom_some _ _ _ (.inl e)
  refine (codeAny_call_cells hA.room (up _ _ ho) hd (G.nolimit.keeps up) (O.code.keeps up) O.hb (O.bind Xs hX) O.clo (fun x hx => (hloc x.1 (List.of_mem_zip hx).1).imp id fun e => ⟨e, hcs _ _ e⟩) (fun s₁ I => ?_) O.co O.gen O.kind)
  have fit : Fits fd.scope (callEnvC fd s.heap.objs.size f) := ⟨rfl, O.kind, O.glob, O.blt, fun _ => rfl⟩
  obtain ⟨h₀, tk₀, e₀⟩ := I.toInCall.same
  subst e₀
  have hkeep := I.toInCall.keep
  have hnd : ((names.zip Xs).map (·.1)).Nodup := by rw [zip_keys names Xs hX]; exact O.nodup
  have R₀ : RepS κ σ h₀ := R.keep hkeep
  have fresh : ∀ a, s.heap.objs.size ≤ a → κ.p a = none ∧ a ∉ keys σ := fun a ha => by
    refine ⟨?_, fun hm => ?_⟩
    · cases e : κ.p a with
      | none => rfl
      | some o => exact absurd (Heap.lt_size (R.prot _ _ e)) (Nat.not_lt.mpr ha)
    · obtain ⟨o, e, _⟩ := R.live hm
      exact absurd (Heap.lt_size e) (Nat.not_lt.mpr ha)
  have F : FRel κ (callEnvC fd s.heap.objs.size f) (names.zip xs) σ h₀ := {
    ns := ⟨_, I.toInCall.ns, fun x v hx hk => by
      obtain ⟨_, V, a, b⟩ := zip_lookup rs hx
      refine ⟨V, ?_, b.mono (.of_keeps hkeep)⟩
      rw [bindL_local _ _ _ _ hnd hk, a]⟩
    cell := fun x hx => by
      have hx' := hx
      rw [fit.kindOf] at hx'
      obtain ⟨c, hc⟩ := Option.isSome_iff_exists.mp (hcs (s.heap.objs.size + 1) x hx')
      refine ⟨c, _, hc, I.cell x c hc, fun v hv => ?_⟩
      obtain ⟨_, V, a, b⟩ := zip_lookup rs hv
      refine ⟨V, ?_, b.mono (.of_keeps hkeep)⟩
      rw [bindC_other _ _ _ _ hnd (by rw [hx]; simp), a]
    free := fun x v hx hk => by
      obtain ⟨m, _⟩ := zip_lookup rs hx
      rw [fit.kindOf] at hk
      rcases hloc x m with e | e <;> rw [e] at hk <;> cases hk
    apart := fun x y c _ _ ha hb => name_of_addr I.apart (mem_of_lookup ha) (mem_of_lookup hb)
    Lnew := fresh _ (Nat.le_refl _)
    cnew := fun x c _ hc => let fr := fresh c (Nat.le_of_lt (I.above x c (mem_of_lookup hc))); ⟨fr.2, fun _ => fr.1, fun o e => by rw [fr.1] at e; cases e⟩ }
  refine wp_no (h _ κ _ _ (hA.deeper _) l fit ⟨R₀, F⟩) fun fl s' pst0 => ?_
  obtain ⟨g, loc', σ', h', tk, e, q, R', r, σ'', hsub, p⟩ := pst0
  subst e
  refine ⟨_, σ'', h', tk, rfl, R'.s.sub hsub, ?_, p⟩
  cases r with
  | next => exact .none
  | brk => exact .none
  | cont => exact .none
  | ret r => exact r
end
end Mine
namespace Mine

noncomputable def ofL (l : List Nat) : Str := ⟨l.toArray⟩
theorem ofL_toL (x : Str) : ofL x.cps.toList = x := by cases x; rfl
theorem ofL_length (l : List Nat) : (ofL l).length = l.length := by simp [ofL, Str.length]
theorem ofL_append (a b : List Nat) : ofL a ++ ofL b = ofL (a ++ b) := by
  apply Str.ext'
  show a.toArray ++ b.toArray = (a ++ b).toArray
  simp
theorem ofL_inj {a b : List Nat} (h : ofL a = ofL b) : a = b := by
  have := congrArg (fun x => x.cps.toList) h
  simpa [ofL] using this

section
variable {Γ : Gd} {k : Nat} {sc : Scope} {loc : Loc} {σ : Sto} {P : AV → Sto → Prop}

/-! ints -/
section
variable {a b : Int}
theorem op_add (h : P (.int (a + b)) σ) : Op2 Γ k (binaryOp .Add) (.int a) (.int b) σ P := fun _ _ s _ _ _ _ R x y => by cases x; cases y; exact wpAny_add_int ⟨_, σ, s.heap, _, rfl, R, .int _ _, h⟩
theorem op_iadd (h : P (.int (a + b)) σ) : Op2 Γ k (inplaceOp .Add) (.int a) (.int b) σ P := fun _ _ s _ _ _ _ R x y => by cases x; cases y; exact wpAny_iadd_int ⟨_, σ, s.heap, _, rfl, R, .int _ _, h⟩
theorem op_sub (h : P (.int (a - b)) σ) : Op2 Γ k (binaryOp .Sub) (.int a) (.int b) σ P := fun _ _ s _ _ _ _ R x y => by cases x; cases y; exact PyProof.Rows.sub_int' ⟨_, σ, s.heap, _, rfl, R, .int _ _, h⟩
theorem op_mul (hm : IntMulOk a b) (h : P (.int (a * b)) σ) : Op2 Γ k (binaryOp .Mult) (.int a) (.int b) σ P := fun _ _ s _ _ _ _ R x y => by cases x; cases y; exact PyProof.Rows.mul_int ⟨_, σ, s.heap, _, rfl, R, .int _ _, h⟩ hm
theorem op_fdiv (hb : 0 < b) (hs : b < 1073741824) (h : P (.int (a / b)) σ) : Op2 Γ k (binaryOp .FloorDiv) (.int a) (.int b) σ P := fun _ _ s _ _ _ _ R x y => by
  cases x; cases y
  have e : a.fdiv b = a / b := Int.fdiv_eq_ediv_of_nonneg a (by omega)
  exact PyProof.Rows.floordiv_int (by omega) ⟨_, σ, s.heap, _, rfl, R, .int _ _, e ▸ h⟩ (.inl (PyProof.noPylong_small (by omega)))
theorem op_mod (hb : 0 < b) (h : P (.int (a % b)) σ) : Op2 Γ k (binaryOp .Mod) (.int a) (.int b) σ P := fun _ _ s _ _ _ _ R x y => by
  cases x; cases y
  have e : a.fmod b = a % b := Int.fmod_eq_emod_of_nonneg a (by omega)
  exact PyProof.Rows.mod_int' (by omega) ⟨_, σ, s.heap, _, rfl, R, .int _ _, e ▸ h⟩
theorem op_eq (h : P (.bool (a == b)) σ) : Op2 Γ k (compareOp .Eq) (.int a) (.int b) σ P := fun _ _ s _ _ _ _ R x y => by cases x; cases y; exact PyProof.Rows.eq_int ⟨_, σ, s.heap, s.toks, rfl, R, .bool _, h⟩
theorem op_lt (h : P (.bool (decide (a < b))) σ) : Op2 Γ k (compareOp .Lt) (.int a) (.int b) σ P := fun _ _ s _ _ _ _ R x y => by cases x; cases y; exact PyProof.Rows.lt_int ⟨_, σ, s.heap, s.toks, rfl, R, .bool _, h⟩
theorem op_gt (h : P (.bool (decide (b < a))) σ) : Op2 Γ k (compareOp .Gt) (.int a) (.int b) σ P := fun _ _ s _ _ _ _ R x y => by cases x; cases y; exact PyProof.Rows.gt_int ⟨_, σ, s.heap, s.toks, rfl, R, .bool _, h⟩
theorem op_neg (h : P (.int (-a)) σ) : Op1 Γ k (unaryOp .USub) (.int a) σ P := fun _ _ s _ _ _ R x => by cases x; exact PyProof.Rows.neg_int ⟨_, σ, s.heap, _, rfl, R, .int _ _, h⟩
end
theorem ev_unary {op : UnaryOp} {e : Expr} {pos : Pos} (h : Ev Γ k sc e loc σ fun a σ₁ => Op1 Γ k (unaryOp op) a σ₁ P) : Ev Γ k sc (.UnaryOp op e pos) loc σ P := fun A κ env s hA l f R =>
  wpAny_UnaryOp (wpE (h A κ env s hA l f R) fun V v σ₁ h₁ tk₁ q R₁ r p => by
    exact wp_no (p.at hA l R₁ r) fun _ _ x => x.trans q)

/-! truth -/
theorem tr_int {a : Int} {P : Bool → Sto → Prop} (h : P (a != 0) σ) : Tr Γ k (.int a) σ P := fun _ _ s _ _ _ R x => by cases x; exact PyProof.Rows.truthy_int ⟨σ, s.heap, s.toks, rfl, R, h⟩
theorem tr_bool {b : Bool} {P : Bool → Sto → Prop} (h : P b σ) : Tr Γ k (.bool b) σ P := fun _ _ s _ _ _ R x => by cases x; exact wpAny_truthy_bool ⟨σ, s.heap, s.toks, rfl, R, h⟩
theorem ts_value {e : Expr} {P : Bool → Sto → Prop} (h : Ev Γ k sc e loc σ fun v σ₁ => Tr Γ k v σ₁ P) (hi : ∀ env whole, isTrue e env whole = (do let v ← whole; standAt e.pos; holding [v] (truthy v))) : Ts Γ k sc e loc σ P := fun A κ env s hA l f R => by
  rw [hi]
  refine wpAny_bind (wpE (h A κ env s hA l f R) fun V v σ₁ h₁ tk₁ q R₁ r p => ?_)
  exact wpAny_bind (wpAny_standAt (wpAny_holding (wp_no (p.at hA l R₁ r) fun _ _ x => x.trans q)))
/-- and, or as tests -/
noncomputable def TsL (Γ : Gd) (k : Nat) (sc : Scope) (op : BoolOp) (es : List Expr) (loc : Loc) (σ : Sto) (P : Bool → Sto → Prop) : Prop :=
  ∀ A κ env s, AOk k A → Γ.le κ → Fits sc env → Rep κ env loc σ s.heap → wpAny Γ.M A (allTrue op es env) (PstT κ env loc s P) No s
theorem ts_bool {op : BoolOp} {es : List Expr} {pos : Pos} {P : Bool → Sto → Prop} (h : TsL Γ k sc op es loc σ P) : Ts Γ k sc (.BoolOp op es pos) loc σ P := fun A κ env s hA l f R =>
  wpAny_isTrue_BoolOp (h A κ env s hA l f R)
theorem tsl_and_nil {P : Bool → Sto → Prop} (h : P true σ) : TsL Γ k sc .And [] loc σ P := fun _ _ _ s _ _ _ R => wpAny_allTrue_And_nil ⟨σ, s.heap, s.toks, rfl, .refl _, R, h⟩
theorem tsl_and_cons {e : Expr} {es : List Expr} {P : Bool → Sto → Prop} (h : Ts Γ k sc e loc σ fun b σ₁ => Both b (TsL Γ k sc .And es loc σ₁ P) (P false σ₁)) : TsL Γ k sc .And (e :: es) loc σ P := fun A κ env s hA l f R =>
  wpAny_allTrue_And_cons (wpT (h A κ env s hA l f R) fun b σ₁ h₁ tk₁ q R₁ p => by
    cases b with
    | true => first | exact wp_no (p.1 rfl A κ env _ hA l f R₁) (fun _ _ x => x.trans q) | (simp only [if_true]; exact wp_no (p.1 rfl A κ env _ hA l f R₁) (fun _ _ x => x.trans q))
    | false => first | exact ⟨σ₁, h₁, tk₁, rfl, q, R₁, p.2 rfl⟩ | (simp only [Bool.false_eq_true, if_false]; exact ⟨σ₁, h₁, tk₁, rfl, q, R₁, p.2 rfl⟩))
theorem op_eq_str {x y : Str} (h : P (.bool (x == y)) σ) : Op2 Γ k (compareOp .Eq) (.str x) (.str y) σ P := fun _ _ s _ _ _ _ R a b => by cases a; cases b; exact PyProof.Rows.eq_str ⟨_, σ, s.heap, s.toks, rfl, R, .bool _, h⟩
theorem op_in_str {x y : Str} (h : P (.bool !(Builtin.Str.occurrences x y 0 x.length 1).isEmpty) σ) : Op2 Γ k (compareOp .In) (.str y) (.str x) σ P := fun _ _ s _ _ _ _ R a b => by cases a; cases b; exact PySem.P.in_str ⟨_, σ, s.heap, s.toks, rfl, R, .bool _, h⟩
theorem str_len0 {x : Str} (h : (x.length == 0) = true) : x = ofL [] := by
  have : x.cps.size = 0 := by simpa [Str.length] using h
  apply Str.ext'
  show x.cps = #[]
  exact Array.eq_empty_of_size_eq_zero this
theorem add_texts {x y : Str} {t u : Tok} {A : Around} {s : Shared} {Q : Value → Shared → Prop} (hl : x.length + y.length ≤ sizeLine) (h : ∀ t tk, Q (.str (x ++ y) t) { s with toks := tk }) :
    (if x.length == 0 then Made.val (.str y u) else if y.length == 0 then Made.val (.str x t) else Made.str (x ++ y)).post Q s := by
  by_cases hx : (x.length == 0) = true
  · rw [if_pos hx]
    have e : x ++ y = y := by rw [str_len0 hx, ← ofL_toL y, ofL_append]; rfl
    rw [← e]; exact h u s.toks
  · rw [if_neg hx]
    by_cases hy : (y.length == 0) = true
    · rw [if_pos hy]
      have e : x ++ y = x := by rw [str_len0 hy, ← ofL_toL x, ofL_append]; simp
      have := h t s.toks
      rw [e] at this
      exact this
    · rw [if_neg hy]
      have hh : (x ++ y).length ≤ sizeLine := by rw [strLen_append]; exact hl
      exact ⟨hh, h _ _⟩
theorem op_add_str {x y : Str} (hl : x.length + y.length ≤ sizeLine) (h : P (.str (x ++ y)) σ) : Op2 Γ k (binaryOp .Add) (.str x) (.str y) σ P := fun A _ s _ _ _ _ R a b => by
  cases a; cases b
  exact PySem.P.add_str (add_texts (A := A) hl fun t tk => ⟨_, σ, s.heap, tk, rfl, R, .str _ _, h⟩)
theorem op_iadd_str {x y : Str} (hl : x.length + y.length ≤ sizeLine) (h : P (.str (x ++ y)) σ) : Op2 Γ k (inplaceOp .Add) (.str x) (.str y) σ P := fun A _ s _ _ _ _ R a b => by
  cases a; cases b
  exact PySem.P.iadd_str (add_texts (A := A) hl fun t tk => ⟨_, σ, s.heap, tk, rfl, R, .str _ _, h⟩)
theorem cal_len_str {x : Str} (hl : x.length ≤ sizeLine) (h : P (.int x.length) σ) : Cal Γ k (.builtin "len") [.str x] σ P := fun _ _ s _ _ _ R r => by
  cases r with
  | cons a r => cases a; cases r; exact PySem.P.len_str (by rw [sizeLine_eq] at hl; omega) ⟨_, σ, s.heap, _, rfl, R, .int _ _, h⟩
theorem cal_chr {i : Int} (h0 : 0 ≤ i) (h1 : i ≤ 1114111) (h : P (.str (ofL [i.toNat])) σ) : Cal Γ k (.builtin "chr") [.int i] σ P := fun _ _ s _ _ _ R r => by
  cases r with
  | cons a r => cases a; cases r; exact PySem.P.chr_of_int (by simp; omega) ⟨_, σ, s.heap, _, rfl, R, .str _ _, h⟩
theorem cal_abs {a : Int} (h : P (.int (if a < 0 then -a else a)) σ) : Cal Γ k (.builtin "abs") [.int a] σ P := fun _ _ s _ _ _ R r => by
  cases r with
  | cons x r => cases x; cases r; exact PyProof.Rows.call_abs_int fun u tk => ⟨_, σ, s.heap, tk, rfl, R, .int _ _, h⟩
end
end Mine
namespace Mine
section
variable {Γ : Gd} {k : Nat} {sc : Scope} {loc : Loc} {σ : Sto} {P : AV → Sto → Prop}

/-! more calls -/
theorem cal_int {a : Int} (h : P (.int a) σ) : Cal Γ k (.type "int") [.int a] σ P := fun _ _ s _ _ _ R r => by
  cases r with
  | cons x r => cases x; cases r; exact PySem.call_int_int ⟨_, σ, s.heap, s.toks, rfl, R, .int _ _, h⟩
theorem cal_divmod {a b : Int} (hb : 0 < b) (hs : b < 1073741824) (h : P (.tup [.int (a / b), .int (a % b)]) σ) : Cal Γ k (.builtin "divmod") [.int a, .int b] σ P := fun _ κ s _ _ _ R r => by
  cases r with
  | cons x r =>
    cases x
    cases r with
    | cons y r =>
      cases y; cases r
      have e1 : a.fdiv b = a / b := Int.fdiv_eq_ediv_of_nonneg a (by omega)
      have e2 : a.fmod b = a % b := Int.fmod_eq_emod_of_nonneg a (by omega)
      refine PyProof.Rows.divmod_int (by omega) ⟨_, σ, _, _, rfl, R.keep (push_keeps _), .tup (xs := [.int (a / b), .int (a % b)]) (vs := [.int (a / b) s.toks, .int (a % b) (s.toks + 1)]) (R.not_av size_new) ⟨0, ?_⟩ (.cons (.int _ _) (.cons (.int _ _) .nil)), h⟩ (.inl (PyProof.noPylong_small (by omega)))
      · rw [← e1, ← e2]; exact Heap.get?_push_size _ rfl

/-! lists -/
theorem RepS.list {κ : Kap} {h : Heap} (R : RepS κ σ h) {a : Addr} {xs : List AV} (hm : (a, .list xs) ∈ σ) : ∃ vs n, h.get? a = some { cls := .type "list", data := .seq vs.toArray n } ∧ VRels κ.av h xs vs := by
  obtain ⟨ob, e, vs, n, rfl, r⟩ := R.objs _ hm
  exact ⟨vs, n, e, r⟩
theorem VRels.size {av : Avd} {h : Heap} {xs : List AV} {vs : List Value} (r : VRels av h xs vs) : vs.toArray.size = xs.length := by rw [List.size_toArray]; exact r.length

theorem cal_len_list {a : Addr} {xs : List AV} (hm : (a, .list xs) ∈ σ) (hl : xs.length ≤ sizeLine) (h : P (.int xs.length) σ) : Cal Γ k (.builtin "len") [.ref a] σ P := fun _ _ s _ _ _ R r => by
  cases r with
  | cons x r =>
    cases x; cases r
    obtain ⟨vs, n, e, rs⟩ := R.list hm
    refine call_len_list (items := vs.toArray) ⟨_, e, rfl, n, rfl⟩ (by rw [rs.size]; rw [sizeLine_eq] at hl; omega) ⟨.int xs.length, σ, s.heap, _, rfl, R, ?_, h⟩
    rw [rs.size]; exact .int _ _
theorem cal_append {a : Addr} {xs : List AV} {v : AV} {σ' : Sto} (hat : At σ a (.list xs) (.list (xs ++ [v])) σ') (hl : xs.length ≤ sizeLine) (h : P .none σ') : Cal Γ k (.builtin "list.append") [.ref a, v] σ P := fun _ κ s _ _ _ R r => by
  cases r with
  | cons x r =>
    cases x
    cases r with
    | cons y r =>
      cases r
      obtain ⟨vs, n, e, rs⟩ := R.list hat.mem
      refine wpAny_list_append_plain (items := vs.toArray) ⟨n, e⟩ (fun h' hp hs => ?_) (by rw [rs.size]; exact hl)
      obtain ⟨n', e'⟩ := hp
      have tk := R.tk_upd hat.mem hs.extBut
      refine ⟨.none, σ', h', s.toks, rfl, R.upd hat hs.extBut e' ⟨vs ++ [_], n', ?_, (rs.append (.cons y .nil)).mono tk⟩, .none, h⟩
      simp
theorem cal_pop0 {a : Addr} {x : AV} {xs : List AV} {σ' : Sto} (hat : At σ a (.list (x :: xs)) (.list xs) σ') (hl : xs.length < sizeLine) (h : P x σ') : Cal Γ k (.builtin "list.pop") [.ref a, .int 0] σ P := fun _ κ s _ _ _ R r => by
  cases r with
  | cons y r =>
    cases y
    cases r with
    | cons y r =>
      cases y; cases r
      obtain ⟨vs, n, e, rs⟩ := R.list hat.mem
      have hz : vs.toArray.size ≤ sizeLine := by rw [rs.size]; simp; omega
      cases rs with
      | cons r0 rs =>
        rename_i v vs
        refine call_meets PySem.F.slot_list_pop ⟨_, e, rfl⟩ PySem.F.entry_list_pop (PySem.F.args_list_pop_2 _ _) (PySem.MeetsSeq.list_pop_at a _ n 0 _ 0 v (by decide) (by simp [seqIndex?]) (by simp) hz) ⟨e, ?_⟩
        have q := PySem.IsL.update e (·.eraseIdxIfInBounds 0)
        have he : (v :: vs).toArray.eraseIdxIfInBounds 0 = vs.toArray := kl_erase [] vs v
        simp only [he] at q
        have hs : Heap.SameBut a s.heap (s.heap.update a (Obj.mapSeq (·.eraseIdxIfInBounds 0))) := Heap.SameBut.update ..
        have tk := R.tk_upd hat.mem hs.extBut
        exact ⟨x, σ', _, s.toks, rfl, R.upd hat hs.extBut q ⟨vs, _, rfl, rs.mono tk⟩, r0.mono tk, h⟩

/-! items -/
/-- no Python-written item reader -/
noncomputable def Plain (Γ : Gd) (σ : Sto) (o : AV) : Prop := ∀ A κ s O (Q : Bool → Shared → Prop), RepS κ σ s.heap → VRel κ.av s.heap o O → Q false s → wpAny Γ.M A (getitemInPython O) Q No s
theorem plain_of {o : AV} {T id : String} (hl : typeLookup (.type T) "__getitem__" = pure (some (.builtin id))) (ht : ∀ (κ : Kap) (s : Shared) (O : Value), RepS κ σ s.heap → VRel κ.av s.heap o O → s.TypeIs O T) : Plain Γ σ o := fun A κ s O Q R r h => by
  unfold getitemInPython
  refine wpAny_bind (wpAny_specialOf (ht κ s O R r) hl (wpAny_pure h))
theorem plain_list {a : Addr} {xs : List AV} (hm : (a, .list xs) ∈ σ) : Plain Γ σ (.ref a) := plain_of slot_list_getitem.lookup fun κ s O R r => by
  cases r
  obtain ⟨vs, n, e, _⟩ := R.list hm
  exact ⟨_, e, rfl⟩
theorem plain_str {x : Str} : Plain Γ σ (.str x) := plain_of PySem.F.slot_str_getitem.lookup fun κ s O R r => by
  cases r; exact typeIs_str _ _ _
theorem plain_bytes {x : Array UInt8} : Plain Γ σ (.bytes x) := plain_of PySem.W.FB.slot_bytes_getitem.lookup fun κ s O R r => by
  cases r; exact typeIs_bytes _ _ _

theorem ev_item {value slice : Expr} {pos : Pos} (h : Ev Γ k sc value loc σ fun o σ₁ => Ev Γ k sc slice loc σ₁ fun i σ₂ => Plain Γ σ₂ o ∧ Op2 Γ k getItem o i σ₂ P)
    (hs : ∀ o i, subscripted slice false o i = operate [o, i] (getItem o i)) : Ev Γ k sc (.Subscript value slice pos) loc σ P := fun A κ env s hA l f R => by
  rw [arm_eval_Subscript]
  refine wpAny_bind (wpE (h A κ env s hA l f R) fun V₁ o σ₁ h₁ tk₁ q₁ R₁ r₁ p₁ => ?_)
  refine wpAny_bind (wpAny_holding (wpE (p₁ A κ env _ hA l f R₁) fun V₂ i σ₂ h₂ tk₂ q₂ R₂ r₂ ⟨hp, p₂⟩ => ?_))
  refine wpAny_bind (wpAny_standAt (wpAny_bind (hp A κ _ V₁ _ R₂.s (r₁.mono q₂) ?_)))
  rw [hs]
  refine wpAny_bind (wpAny_operating (wp_no (p₂.at hA l R₂ (r₁.mono q₂) r₂) fun V₃ s₃ h₃ => ?_))
  exact wpAny_bind (wpAny_letTemporaryGo (wpAny_pure ((h₃.trans (tk₁ := tk₁) q₂).trans q₁)))

theorem get_list {a : Addr} {xs : List AV} {i : Int} {x : AV} (hm : (a, .list xs) ∈ σ) (h0 : 0 ≤ i) (hi : i < 2 ^ 63) (hx : xs[i.toNat]? = some x) (h : P x σ) : Op2 Γ k getItem (.ref a) (.int i) σ P := fun _ κ s _ _ _ _ R r r' => by
  cases r; cases r'
  obtain ⟨vs, n, e, rs⟩ := R.list hm
  obtain ⟨v, hv, rv⟩ := rs.get hx
  exact wpAny_getItem_list (items := vs.toArray) ⟨_, e, rfl, n, rfl⟩ h0 hi (by simpa using hv) ⟨x, σ, s.heap, s.toks, rfl, R, rv, h⟩
theorem get_list_neg {a : Addr} {xs : List AV} {i : Int} {x : AV} (hm : (a, .list xs) ∈ σ) (h0 : i < 0) (h1 : -(xs.length : Int) ≤ i) (hi : -(2 ^ 63) ≤ i) (hx : xs[(i + xs.length).toNat]? = some x) (h : P x σ) : Op2 Γ k getItem (.ref a) (.int i) σ P := fun _ κ s _ _ _ _ R r r' => by
  cases r; cases r'
  obtain ⟨vs, n, e, rs⟩ := R.list hm
  obtain ⟨v, hv, rv⟩ := rs.get hx
  refine wpAny_getItem_list_neg (items := vs.toArray) ⟨_, e, rfl, n, rfl⟩ h0 (by rw [rs.size]; exact h1) hi ?_ ⟨x, σ, s.heap, s.toks, rfl, R, rv, h⟩
  rw [rs.size]; simpa using hv
theorem VRels.set {av : Avd} {h : Heap} : ∀ {xs : List AV} {vs : List Value}, VRels av h xs vs → ∀ {i : Nat} {v : AV} {V : Value}, VRel av h v V → VRels av h (xs.set i v) (vs.set i V)
  | _, _, .nil, _, _, _, _ => .nil
  | _, _, .cons _ r, 0, _, _, x => .cons x r
  | _, _, .cons a r, i + 1, _, _, x => .cons a (VRels.set r x)
theorem set_list {a : Addr} {xs : List AV} {i : Int} {v : AV} {σ' : Sto} {P : Sto → Prop} (hat : At σ a (.list xs) (.list (xs.set i.toNat v)) σ') (h0 : 0 ≤ i) (h1 : i < xs.length) (hi : i < 2 ^ 63) (h : P σ')
    {A : Around} {κ : Kap} {s : Shared} {V : Value} {t : Tok} (R : RepS κ σ s.heap) (r : VRel κ.av s.heap v V) : wpAny Γ.M A (setItem (.ref a) (.int i t) V) (fun _ s' => ∃ σ' h' tk, s' = { s with heap := h', toks := tk } ∧ RepS κ σ' h' ∧ P σ') No s := by
  obtain ⟨vs, n, e, rs⟩ := R.list hat.mem
  have hs : Heap.SameBut a s.heap (s.heap.update a (Obj.mapSeq (·.setIfInBounds i.toNat V))) := Heap.SameBut.update ..
  have tk := R.tk_upd hat.mem hs.extBut
  have q := PySem.IsL.update e (·.setIfInBounds i.toNat V)
  have e2 : vs.toArray.setIfInBounds i.toNat V = (vs.set i.toNat V).toArray := by simp
  rw [e2] at q
  exact ki_setAt (items := vs.toArray) (n := n) e h0 hi (by rw [rs.size]; exact h1) ⟨σ', _, s.toks, rfl, R.upd hat hs.extBut q ⟨vs.set i.toNat V, _, rfl, (rs.set r).mono tk⟩, h⟩

/-! slices -/
noncomputable def pick {α : Type} (l : List α) (lo hi : Option Int) : List α := (l.drop (lo.elim 0 (clipAt l.length))).take (hi.elim l.length (clipAt l.length) - lo.elim 0 (clipAt l.length))
theorem VRels.pick {av : Avd} {h : Heap} {xs : List AV} {vs : List Value} (r : VRels av h xs vs) (lo hi : Option Int) : VRels av h (Mine.pick xs lo hi) (Mine.pick vs lo hi) := by
  unfold Mine.pick; rw [r.length]; exact (r.drop _).take _
/-- a bound of a slice -/
noncomputable def EvO (Γ : Gd) (k : Nat) (sc : Scope) (e : Option Expr) (loc : Loc) (σ : Sto) (P : Option Int → Sto → Prop) : Prop := match e with
  | none => P none σ
  | some e => Ev Γ k sc e loc σ fun v σ' => ∃ i, v = .int i ∧ P (some i) σ'
theorem evO_at {e : Option Expr} {P : Option Int → Sto → Prop} (h : EvO Γ k sc e loc σ P) {A : Around} {κ : Kap} {env : Env} {s : Shared} (hA : AOk k A) (l : Γ.le κ) (f : Fits sc env) (R : Rep κ env loc σ s.heap) :
    wpAny Γ.M A (evalPart e env) (fun V s' => ∃ i σ' h' tk, s' = { s with heap := h', toks := tk } ∧ TK κ.av s.heap h' ∧ Rep κ env loc σ' h' ∧ IsPart V i ∧ P i σ') No s := by
  cases e with
  | none => exact wpAny_evalPart_none ⟨none, σ, s.heap, s.toks, rfl, .refl _, R, .none, h⟩
  | some e => exact wpAny_evalPart_some (wp_no (h A κ env s hA l f R) fun V s' pst => by
      obtain ⟨v, σ', h', tk, e, q, R', r, i, ei, p⟩ := pst
      subst ei; cases r
      exact ⟨some i, σ', h', tk, e, q, R', .int _ _, p⟩)
theorem wpO {e : Option Expr} {P : Option Int → Sto → Prop} {Q : Value → Shared → Prop} {E : Value → Shared → Prop} {A : Around} {κ : Kap} {env : Env} {s : Shared} (h : EvO Γ k sc e loc σ P) (hA : AOk k A) (l : Γ.le κ) (f : Fits sc env) (R : Rep κ env loc σ s.heap)
    (q : ∀ V i σ' h' tk, TK κ.av s.heap h' → Rep κ env loc σ' h' → IsPart V i → P i σ' → Q V { s with heap := h', toks := tk }) : wpAny Γ.M A (evalPart e env) Q E s :=
  wp_no (evO_at h hA l f R) fun V s' pst => pst.elim fun v p => p.elim fun σ' p => p.elim fun h' p => p.elim fun tk p => p.1 ▸ q V v σ' h' tk p.2.1 p.2.2.1 p.2.2.2.1 p.2.2.2.2
/-- what a slice makes of a value -/
noncomputable def Slc (Γ : Gd) (k : Nat) (o : AV) (lo hi : Option Int) (σ : Sto) (P : AV → Sto → Prop) : Prop :=
  ∀ A κ s O a vl vu, AOk k A → Γ.le κ → RepS κ σ s.heap → VRel κ.av s.heap o O → s.heap.IsSliceOf a vl vu .none → IsPart vl lo → IsPart vu hi → wpAny Γ.M A (getItem O (.ref a)) (PstS κ s P) No s
theorem ev_slice {value : Expr} {lower upper : Option Expr} {p pos : Pos} (h : Ev Γ k sc value loc σ fun o σ₁ => EvO Γ k sc lower loc σ₁ fun lo σ₂ => EvO Γ k sc upper loc σ₂ fun hi σ₃ => Plain Γ σ₃ o ∧ Slc Γ k o lo hi σ₃ P) :
    Ev Γ k sc (.Subscript value (.Slice lower upper none p) pos) loc σ P := fun A κ env s hA l f R => by
  rw [arm_eval_Subscript]
  refine wpAny_bind (wpE (h A κ env s hA l f R) fun V₁ o σ₁ h₁ tk₁ q₁ R₁ r₁ p₁ => ?_)
  refine wpAny_bind (wpAny_holding (wpAny_Slice ?_))
  refine wpO (s := { s with heap := h₁, toks := tk₁ }) p₁ hA l f R₁ fun V₂ lo σ₂ h₂ tk₂ q₂ R₂ i₂ p₂ => ?_
  refine wpO (s := { s with heap := h₂, toks := tk₂ }) p₂ hA l f R₂ fun V₃ hi σ₃ h₃ tk₃ q₃ R₃ i₃ ph => ?_
  obtain ⟨hp, p₃⟩ := ph
  refine wpAny_evalPart_none ?_
  obtain ⟨q₄, R₄⟩ := R₃.grow (push_keeps { cls := .type "slice", data := .fields #[V₂, V₃, .none] })
  have r₄ := ((r₁.mono q₂).mono q₃).mono q₄
  refine wpAny_bind (wpAny_standAt (wpAny_bind (hp A κ _ V₁ _ R₄.s r₄ ?_)))
  show wpAny _ _ ((operate [_, _] (getItem V₁ _)) >>= _) _ _ _
  refine wpAny_bind (wpAny_operating (wpS (p₃ A _ _ V₁ _ V₂ V₃ hA (Gd.le_mx R₄.s l) R₄.s.mx r₄ ⟨_, Heap.get?_push_size _ rfl, rfl, rfl⟩ i₂ i₃) fun V₅ v σ₅ h₅ tk₅ R₅ r₅ p₅ => ?_))
  obtain ⟨q₅, R₅'⟩ := frame_step R₄ R₅
  exact wpAny_bind (wpAny_letTemporaryGo (wpAny_pure ⟨v, σ₅, h₅, tk₅, rfl, (((q₁.trans q₂).trans q₃).trans q₄).trans q₅, R₅', r₅, p₅⟩))
end
end Mine
namespace Mine
section
variable {Γ : Gd} {k : Nat} {sc : Scope} {loc : Loc} {σ : Sto} {P : AV → Sto → Prop}

theorem pick_len {α : Type} (l : List α) (lo hi : Option Int) : (pick l lo hi).length ≤ l.length := by
  unfold pick; simp only [List.length_take, List.length_drop]; omega
theorem sliceText_pick (x : Str) (lo hi : Option Int) : StrLaws.sliceText x lo hi = ofL (pick x.cps.toList lo hi) := by
  have e : ((Builtin.Str.strSliceIndices lo hi 1 x.length).filterMap (x.cps[·]?)) = pick x.cps.toList lo hi := by
    have e1 : Builtin.Str.strSliceIndices lo hi 1 x.length = sliceRange (sliceBounds lo hi none x.length).1 (sliceBounds lo hi none x.length).2.1 (sliceBounds lo hi none x.length).2.2 := rfl
    rw [e1, sliceBounds_plain]
    simp only [sliceRange_one, pick_run]
    unfold pick
    simp [Str.length]
  unfold StrLaws.sliceText
  split
  · rename_i h
    have hl : (Builtin.Str.strSliceIndices lo hi 1 x.length).length = x.length := by simpa using h
    have e1 : Builtin.Str.strSliceIndices lo hi 1 x.length = sliceRange (sliceBounds lo hi none x.length).1 (sliceBounds lo hi none x.length).2.1 (sliceBounds lo hi none x.length).2.2 := rfl
    rw [e1, sliceBounds_plain, sliceRange_one] at hl
    simp only [List.length_map, List.length_range] at hl
    have hx : x.length = x.cps.toList.length := by simp [Str.length]
    have hc : ∀ i, clipAt x.length i ≤ x.length := fun i => by unfold clipAt; omega
    have h0 : lo.elim 0 (clipAt x.length) = 0 ∨ x.length = 0 := by
      by_cases hz : x.length = 0
      · exact .inr hz
      · left
        have : hi.elim x.length (clipAt x.length) ≤ x.length := by cases hi <;> simp [hc]
        omega
    unfold pick
    rw [← hx, hl]
    rcases h0 with h0 | h0
    · rw [h0, List.drop_zero, hx, List.take_length, ofL_toL]
    · rw [h0]
      have : x.cps.toList = [] := List.eq_nil_of_length_eq_zero (by rw [← hx]; exact h0)
      rw [← ofL_toL x, this]; simp [ofL]
  · rw [e]; rfl
theorem slc_str {x : Str} {lo hi : Option Int} (hl : x.length ≤ sizeLine) (h : P (.str (ofL (pick x.cps.toList lo hi))) σ) : Slc Γ k (.str x) lo hi σ P := fun A κ s O a vl vu hA l R r hs il iu => by
  cases r
  have key : ∀ (t₀ : Tok) (lt ut : Option (Int × Tok)), lt.map (·.1) = lo → ut.map (·.1) = hi → (sliceMade x t₀ lt ut none).post (PstS κ s P) s := fun t₀ lt ut e1 e2 => by
    subst e1; subst e2
    have hp : ∀ t tk, PstS κ s P (.str (ofL (pick x.cps.toList (lt.map (·.1)) (ut.map (·.1)))) t) { s with toks := tk } := fun t tk => ⟨_, σ, s.heap, tk, rfl, R, .str _ _, h⟩
    rw [← sliceText_pick] at hp
    have hlen : (StrLaws.sliceText x (lt.map (·.1)) (ut.map (·.1))).length ≤ sizeLine := by
      rw [sliceText_pick, ofL_length]; exact Nat.le_trans (pick_len _ _ _) (by simpa [Str.length] using hl)
    by_cases hc : ((1 : Int) == 1 && (Builtin.Str.strSliceIndices (lt.map (·.1)) (ut.map (·.1)) 1 x.length).length == x.length) = true
    · have e1 : StrLaws.sliceText x (lt.map (·.1)) (ut.map (·.1)) = x := if_pos hc
      have e2 : sliceMade x t₀ lt ut none = .val (.str x t₀) := if_pos hc
      rw [e1] at hp
      rw [e2]
      exact hp _ s.toks
    · have e1 : StrLaws.sliceText x (lt.map (·.1)) (ut.map (·.1)) = _ := if_neg hc
      have e2 : sliceMade x t₀ lt ut none = _ := if_neg hc
      rw [e1] at hp hlen
      rw [e2]
      exact ⟨hlen, hp _ _⟩
  cases il with
  | none => cases iu with
    | none => exact wpAny_getItem_str_slice (l := none) (u := none) (st := none) hs rfl (key _ none none rfl rfl)
    | int j u => exact wpAny_getItem_str_slice (l := none) (u := some (j, u)) (st := none) hs rfl (key _ none (some (j, u)) rfl rfl)
  | int i t => cases iu with
    | none => exact wpAny_getItem_str_slice (l := some (i, t)) (u := none) (st := none) hs rfl (key _ (some (i, t)) none rfl rfl)
    | int j u => exact wpAny_getItem_str_slice (l := some (i, t)) (u := some (j, u)) (st := none) hs rfl (key _ (some (i, t)) (some (j, u)) rfl rfl)
theorem slc_list {a : Addr} {xs : List AV} {lo hi : Option Int} (hm : (a, .list xs) ∈ σ) (hl : xs.length ≤ sizeLine) (h : ∀ b, P (.ref b) ((b, .list (pick xs lo hi)) :: σ)) : Slc Γ k (.ref a) lo hi σ P := fun A κ s O b vl vu hA l R r hs il iu => by
  cases r
  obtain ⟨vs, n, e, rs⟩ := R.list hm
  have ep : slicePick vs.toArray lo hi none = (pick vs lo hi).toArray := by
    rw [slicePick_plain]; unfold pick; simp
  refine wpAny_getItem_list_slice (items := vs.toArray) ⟨_, e, rfl, n, rfl⟩ hs il iu .none (by simp) ⟨.ref _, _, _, s.toks, rfl, R.add size_new (push_keeps _) (Heap.get?_push_size _ rfl) (o := .list (pick xs lo hi)) ⟨pick vs lo hi, 0, by rw [ep], (rs.pick lo hi).mono (.of_keeps (push_keeps _))⟩, .ref _, h _⟩ (by rw [rs.size]; exact hl)
theorem slc_bytes {b : Array UInt8} {lo hi : Option Int} (hl : b.size ≤ sizeLine) (h : P (.bytes (pick b.toList lo hi).toArray) σ) : Slc Γ k (.bytes b) lo hi σ P := fun A κ s O a vl vu hA l R r hs il iu => by
  cases r
  have ep : KBy.picked b lo hi = (pick b.toList lo hi).toArray := by rw [KBc.picked_eq]; unfold pick; simp
  refine getItem_meets (typeIs_bytes s b _) (by decide) PySem.W.FB.slot_bytes_getitem PySem.W.FB.entry_bytes_getitem (PySem.W.FB.args_bytes_getitem_2 _ _) (KBc.meets_slice2 b _ a il iu) ⟨hs, Nat.le_trans (KBc.size_picked_le _ _ _) hl, fun t' tk => ⟨_, σ, s.heap, tk, rfl, R, ?_, h⟩⟩
  rw [ep]; exact .bytes _ _
theorem op_add_bytes {b c : Array UInt8} (hl : b.size + c.size ≤ 16777216) (h : P (.bytes (b ++ c)) σ) : Op2 Γ k (binaryOp .Add) (.bytes b) (.bytes c) σ P := fun _ _ s _ _ _ _ R x y => by
  cases x; cases y
  exact KBy.add_bytes hl fun t tk => ⟨_, σ, s.heap, tk, rfl, R, .bytes _ _, h⟩

/-! methods -/
/-- what a method's name stands for -/
noncomputable def GM (Γ : Gd) (name : Str) (ov : AV) (σ : Sto) (F : Value) (first : List AV) : Prop :=
  ∀ A κ s OV pl (Q : Value × List Value → Shared → Prop), Γ.le κ → RepS κ σ s.heap → VRel κ.av s.heap ov OV → (∀ Fs tk, VRels κ.av s.heap first Fs → Q (F, Fs) { s with toks := tk }) → wpAny Γ.M A (getMethod OV name pl) Q No s
theorem ev_method {o : Expr} {name : Str} {apos pos : Pos} {args : List Expr} (hs : args.all noStar = true) (hb : ∀ env, attributeBase o name env (eval o env) = eval o env) (hn : args.length < 30) (hline : (apos.endLine == pos.line) = true)
    (h : Ev Γ k sc o loc σ fun ov σ₁ => ∃ F first, GM Γ name ov σ₁ F first ∧ Evs Γ k sc args loc σ₁ fun vs σ₂ => Kpr Γ σ₂ F ∧ Cal Γ k F (first ++ vs) σ₂ P) : Ev Γ k sc (.Call (.Attribute o name apos) args [] pos) loc σ P := fun A κ env s hA l f R => by
  rw [arm_eval_Call, hb]
  refine wpAny_bind (wp_no (h A κ env s hA l f R) fun V s₁ pst => ?_)
  obtain ⟨ov, σ₁, h₁, tk₁, e₁, q, R₁, r, F, first, gm, p⟩ := pst
  subst e₁
  refine wpAny_bind (wpAny_standAt ?_)
  have hform : methodCallForm (args.length + ([] : List Keyword).length) (backTo pos (starEach args env)) (backToKw pos (keywordEach [] env)) = true := by
    unfold methodCallForm
    rw [starEach_eq hs, backTo_plain]
    have e1 : (List.map (fun e => (false, eval e env)) args).all (fun x => !x.1) = true := by simp
    have e2 : (backToKw pos (keywordEach [] env)) = [] := rfl
    rw [e1, e2]
    simp [hn]
  have hpos : methodCallPos true o env apos pos = pure pos := by unfold methodCallPos; simp [hline]
  unfold methodCall
  rw [hform]
  refine wpAny_bind (wpAny_holding (gm A κ _ V _ _ l R₁.s r fun Fs tk' rf => ?_))
  refine wpAny_bind (wpAny_of_eq hpos ?_)
  exact wp_no (call_args (first := first) hs p pos hA l f R₁ rf) fun _ _ x => x.trans q
theorem gm_of {ov : AV} {T : String} {name : Str} {id : String} (pa : PlainAttrs T) (slot : Slot T name id) (hty : typeOf (.builtin id) = pure (.type "method_descriptor")) (ht : ∀ (κ : Kap) (s : Shared) (O : Value), RepS κ σ s.heap → VRel κ.av s.heap ov O → s.TypeIs O T)
    (hd : ∀ (κ : Kap) (s : Shared) (O : Value), RepS κ σ s.heap → VRel κ.av s.heap ov O → ∀ a, O = .ref a → ∃ o, s.heap.get? a = some o ∧ o.dict = none) : GM Γ name ov σ (.builtin id) [ov] := fun A κ s OV pl Q l R r h =>
  getMethod_builtin (ht κ s OV R r) pa slot hty (hd κ s OV R r) (h _ s.toks (.cons r .nil))
theorem gm_list {a : Addr} {xs : List AV} {name : Str} {id : String} (hm : (a, .list xs) ∈ σ) (slot : Slot "list" name id) (hty : typeOf (.builtin id) = pure (.type "method_descriptor")) : GM Γ name (.ref a) σ (.builtin id) [.ref a] :=
  gm_of PySem.F.plainAttrs_list slot hty (fun κ s O R r => by cases r; obtain ⟨vs, n, e, _⟩ := R.list hm; exact ⟨_, e, rfl⟩) fun κ s O R r b e => by
    cases r; cases e; obtain ⟨vs, n, e, _⟩ := R.list hm; exact ⟨_, e, rfl⟩
theorem gm_append {a : Addr} {xs : List AV} (hm : (a, .list xs) ∈ σ) : GM Γ "append" (.ref a) σ (.builtin "list.append") [.ref a] := gm_list hm PySem.F.slot_list_append PySem.F.type_list_append
theorem gm_pop {a : Addr} {xs : List AV} (hm : (a, .list xs) ∈ σ) : GM Γ "pop" (.ref a) σ (.builtin "list.pop") [.ref a] := gm_list hm PySem.F.slot_list_pop PySem.F.type_list_pop
theorem gm_str {x : Str} {name : Str} {id : String} (slot : Slot "str" name id) (hty : typeOf (.builtin id) = pure (.type "method_descriptor")) : GM Γ name (.str x) σ (.builtin id) [.str x] :=
  gm_of PySem.F.plainAttrs_str slot hty (fun κ s O R r => by cases r; exact typeIs_str _ _ _) fun κ s O R r b e => by cases r; cases e
theorem gm_join {x : Str} : GM Γ "join" (.str x) σ (.builtin "str.join") [.str x] := gm_str PySem.F.slot_str_join PySem.F.type_str_join
theorem gm_count {x : Str} : GM Γ "count" (.str x) σ (.builtin "str.count") [.str x] := gm_str PySem.F.slot_str_count PySem.F.type_str_count
theorem gm_decode {b : Array UInt8} : GM Γ "decode" (.bytes b) σ (.builtin "bytes.decode") [.bytes b] :=
  gm_of PySem.W.FB.plainAttrs_bytes PySem.W.FB.slot_bytes_decode PySem.W.FB.type_bytes_decode (fun κ s O R r => by cases r; exact typeIs_bytes _ _ _) fun κ s O R r b e => by cases r; cases e

theorem cal_count {x y : Str} (h : P (.int (Builtin.Str.occurrences x y 0 x.length (x.length + 1)).length) σ) : Cal Γ k (.builtin "str.count") [.str x, .str y] σ P := fun _ κ s _ _ _ R r => by
  cases r with
  | cons a r =>
    cases a
    cases r with
    | cons a r =>
      cases a; cases r
      exact call_meets PySem.F.slot_str_count (typeIs_str _ _ _) PySem.F.entry_str_count (PySem.F.args_str_count_2 _ _) (gives_str_count x y _ _).meets ⟨_, σ, s.heap, _, rfl, R, .int _ _, h⟩
end
end Mine
namespace Mine

mutual
theorem VRel.avoid {av av' : Avd} {h : Heap} (k : ∀ a, av' a → av a ∨ h.get? a = none) : ∀ {x : AV} {v : Value}, VRel av h x v → VRel av' h x v
  | _, _, .none => .none
  | _, _, .bool b => .bool b
  | _, _, .int i t => .int i t
  | _, _, .str x t => .str x t
  | _, _, .bytes b t => .bytes b t
  | _, _, .tup n t r => .tup (fun ha => (k _ ha).elim n fun e => by obtain ⟨m, hm⟩ := t; rw [hm] at e; cases e) t (VRels.avoid k r)
  | _, _, .ref a => .ref a
  | _, _, .raw v => .raw v
theorem VRels.avoid {av av' : Avd} {h : Heap} (k : ∀ a, av' a → av a ∨ h.get? a = none) : ∀ {x : List AV} {v : List Value}, VRels av h x v → VRels av' h x v
  | _, _, .nil => .nil
  | _, _, .cons a b => .cons (VRel.avoid k a) (VRels.avoid k b)
end
theorem EnRel.avoid {av av' : Avd} {h : Heap} (k : ∀ a, av' a → av a ∨ h.get? a = none) {es : List (Str × AV)} {l : List DictEntry} (r : EnRel av h es l) : EnRel av' h es l := by
  induction r with
  | nil => exact .nil
  | cons a b _ ih => exact .cons a (b.avoid k) ih
theorem ORel.avoid {av av' : Avd} {h : Heap} (k : ∀ a, av' a → av a ∨ h.get? a = none) : ∀ {o : AO} {ob : Obj}, ORel av h o ob → ORel av' h o ob
  | .list _, _, ⟨vs, n, e, r⟩ => ⟨vs, n, e, r.avoid k⟩
  | .ns _, _, ⟨l, n, d, e⟩ => ⟨l, n, d, e.avoid k⟩
  | .inst _ _, _, e => e
  | .cell _, _, ⟨V, e, r⟩ => ⟨V, e, r.avoid k⟩
  | .obj _, _, e => e

abbrev avU (κ : Kap) (avs : List Addr) : Avd := fun a => κ.av a ∨ a ∈ avs
/-- what an iterator holds is protected too -/
noncomputable def shield (κ : Kap) (pv avs : List Addr) (h : Heap) (live : ∀ a ∈ pv, h.get? a ≠ none) (sub : ∀ a ∈ avs, a ∈ pv) : Kap where
  p b := if b ∈ pv then h.get? b else κ.p b
  av := avU κ avs
  ok a ha := by
    by_cases hp : a ∈ pv
    · rw [if_pos hp]; exact live a hp
    · rw [if_neg hp]
      rcases ha with ha | ha
      · exact κ.ok a ha
      · exact absurd (sub a ha) hp

/-- κ', av' in place of κ, av: the objects of the store as they were -/
theorem RepS.turn {κ κ' : Kap} {σ : Sto} {h h' : Heap} (R : RepS κ σ h) (pr : ∀ b o, κ'.p b = some o → h'.get? b = some o) (nw : ∀ a ∈ keys σ, κ'.p a = none) (hs : ∀ a ∈ keys σ, ∀ o, h.get? a = some o → h'.get? a = some o) (va : ∀ a, κ'.av a → κ.av a ∨ h.get? a = none) (tk : TK κ'.av h h') : RepS κ' σ h' where
  prot := pr
  objs p hp := let ⟨ob, e, r⟩ := R.objs p hp; ⟨ob, hs _ (List.mem_map_of_mem hp) _ e, (r.avoid va).mono tk⟩
  nodup := R.nodup
  new p hp := nw _ (List.mem_map_of_mem hp)
theorem FRel.turn {κ κ' : Kap} {env : Env} {loc : Loc} {σ : Sto} {h h' : Heap} (F : FRel κ env loc σ h) (hL : ∀ o, h.get? env.locals = some o → h'.get? env.locals = some o) (hC : ∀ b o V, h.get? b = some o → o.data = .cell V → h'.get? b = some o) (ln : κ'.p env.locals = none)
    (pc : ∀ b o V, h.get? b = some o → o.data = .cell V → κ'.p b = κ.p b) (vt : ∀ v V, VRel κ.av h v V → VRel κ'.av h' v V) (pr : ∀ b o, κ.p b = some o → h.get? b = some o) : FRel κ' env loc σ h' where
  ns := by
    obtain ⟨m, hn, hm⟩ := F.ns
    refine ⟨m, ?_, fun x v hx hk => let ⟨V, e, r⟩ := hm x v hx hk; ⟨V, e, vt _ _ r⟩⟩
    obtain ⟨o, es, ep, ho, r⟩ := hn
    exact ⟨o, es, ep, hL _ ho, r⟩
  cell x hx := by
    obtain ⟨c, V, hc, ⟨o, ho, hd⟩, hv⟩ := F.cell x hx
    exact ⟨c, V, hc, ⟨o, hC _ _ _ ho hd, hd⟩, fun v h => let ⟨V', e, r⟩ := hv v h; ⟨V', e, vt _ _ r⟩⟩
  free x v hx hk := let ⟨c, o, V, a, b, d, e⟩ := F.free x v hx hk; ⟨c, o, V, a, by rw [pc c o _ (pr _ _ b) d]; exact b, d, vt _ _ e⟩
  apart := F.apart
  Lnew := ⟨ln, F.Lnew.2⟩
  cnew x c hx hc := by
    obtain ⟨c', V, hc', ⟨o, ho, hd⟩, _⟩ := F.cell x hx
    rw [hc] at hc'; cases hc'
    rw [pc c o _ ho hd]
    exact F.cnew x c hx hc

/-- an iterator -/
structure Itr (Γ : Gd) (k : Nat) (target : Expr) where
  IT : Value
  pv : List Addr
  avs : List Addr
  src : Sto
  cv : List (AV × Value)
  Inv : List AV → Heap → Prop
  sub : ∀ a ∈ avs, a ∈ pv
  live : ∀ vs h, Inv vs h → ∀ a ∈ pv, ∃ o, h.get? a = some o ∧ (a ∉ avs → o.cls ≠ .type "tuple") ∧ ∀ V, o.data ≠ .cell V
  frame : ∀ vs h h', Inv vs h → (∀ a ∈ pv, ∀ o, h.get? a = some o → h'.get? a = some o) → Inv vs h'
  self : ∀ A vs (s : Shared) (Q : Value → Shared → Prop), Inv vs s.heap → Q IT s → wpAny Γ.M A (pyIter IT) Q No s
  next : ∀ A κ σ (s : Shared) v vs (Q : Value → Shared → Prop), AOk k A → Γ.le κ → RepS κ σ s.heap → (∀ a ∈ pv, κ.p a = s.heap.get? a) → (∀ a ∈ avs, κ.av a) → (∀ p ∈ src, p ∈ σ) → (∀ p ∈ cv, VRel κ.av s.heap p.1 p.2) → Inv (v :: vs) s.heap →
    (∀ V h' tk, (∀ b o, b ∉ pv → s.heap.get? b = some o → h'.get? b = some o) → (∀ a ∈ pv, h'.get? a ≠ none) → (TK κ.av s.heap h' → VRel κ.av h' v V) → Inv vs h' → Q V { s with heap := h', toks := tk }) → wpAny Γ.M A (pyNext IT) (fun r s₁ => ∃ V, r = some V ∧ wpAny Γ.M A (letOwnedTupleGo target IT V) (fun _ s₂ => Q V s₂) No s₁) No s
  done : ∀ A κ σ (s : Shared) (Q : Shared → Prop), AOk k A → Γ.le κ → RepS κ σ s.heap → (∀ a ∈ pv, κ.p a = s.heap.get? a) → (∀ p ∈ src, p ∈ σ) → (∀ p ∈ cv, VRel κ.av s.heap p.1 p.2) → Inv [] s.heap →
    (∀ h' tk, (∀ b o, b ∉ pv → s.heap.get? b = some o → h'.get? b = some o) → Q { s with heap := h', toks := tk }) → wpAny Γ.M A (pyNext IT) (fun r s₁ => r = none ∧ Q s₁) No s

theorem Itr.lv {Γ : Gd} {k : Nat} {target : Expr} (I : Itr Γ k target) {vs : List AV} {h : Heap} (i : I.Inv vs h) : ∀ a ∈ I.pv, h.get? a ≠ none := fun a ha e => by
  obtain ⟨o, ho, _⟩ := I.live vs h i a ha
  rw [ho] at e; cases e

abbrev PstF (κ : Kap) (avs : List Addr) (env : Env) (s : Shared) (P : AFl → Loc → Sto → Prop) : Result → Shared → Prop := fun r s' => match r with
  | .ok f => ∃ fl loc' σ' h' tk, s' = { s with heap := h', toks := tk } ∧ TK (avU κ avs) s.heap h' ∧ Rep κ env loc' σ' h' ∧ FlRel κ.av h' fl f ∧ P fl loc' σ'
  | .error _ => False
theorem PstF.trans {κ : Kap} {avs : List Addr} {env : Env} {s : Shared} {h₁ : Heap} {tk₁ : Nat} {P : AFl → Loc → Sto → Prop} {r : Result} {s' : Shared} (tk : TK (avU κ avs) s.heap h₁) (h : PstF κ avs env { s with heap := h₁, toks := tk₁ } P r s') : PstF κ avs env s P r s' := by
  cases r with
  | ok f => obtain ⟨fl, l, σ', h', t, e, q, R, r, p⟩ := h; exact ⟨fl, l, σ', h', t, e, tk.trans q, R, r, p⟩
  | error _ => exact h

section
variable {Γ : Gd} {k : Nat} {sc : Scope} {loc : Loc} {σ : Sto} {target : Expr} {body : List Stmt} {P : AFl → Loc → Sto → Prop}

noncomputable def ForI (sc : Scope) (body : List Stmt) (I : Itr Γ k target) (vs : List AV) (loc : Loc) (σ : Sto) (P : AFl → Loc → Sto → Prop) : Prop :=
  ∀ A κ env s (i : I.Inv vs s.heap), AOk k A → Γ.le κ → Fits sc env → (∀ a ∈ I.pv, κ.p a = none) → Rep (shield κ I.pv I.avs s.heap (I.lv i) I.sub) env loc σ s.heap → (∀ p ∈ I.src, p ∈ σ) → (∀ p ∈ I.cv, VRel (avU κ I.avs) s.heap p.1 p.2) →
    codeAny Γ.M A (.forLoop target I.IT body [] env) (PstF κ I.avs env s P) s

/-- back to what was protected before -/
theorem unshield {κ : Kap} {pv avs : List Addr} {h₀ h : Heap} {l : ∀ a ∈ pv, h₀.get? a ≠ none} {sb : ∀ a ∈ avs, a ∈ pv} {env : Env} (R : Rep (shield κ pv avs h₀ l sb) env loc σ h) (hn : ∀ a ∈ pv, κ.p a = none) (hc : ∀ a ∈ pv, ∀ o, h₀.get? a = some o → ∀ V, o.data ≠ .cell V) : Rep κ env loc σ h := by
  have hp : ∀ b o, κ.p b = some o → (shield κ pv avs h₀ l sb).p b = some o := fun b o e => by
    show (if b ∈ pv then h₀.get? b else κ.p b) = some o
    rw [if_neg (fun hb => by rw [hn b hb] at e; cases e)]; exact e
  have hq : ∀ b, (shield κ pv avs h₀ l sb).p b = none → κ.p b = none := fun b e => by
    cases e' : κ.p b with
    | none => rfl
    | some o => rw [hp b o e'] at e; cases e
  refine ⟨R.s.turn (fun b o e => R.s.prot b o (hp b o e)) (fun a ha => hq a ?_) (fun _ _ _ e => e) (fun a ha => .inl (.inl ha)) (.refl _), ?_⟩
  · obtain ⟨p, hp', rfl⟩ := List.mem_map.mp ha; exact R.s.new p hp'
  · exact {
      ns := let ⟨m, hn', hm⟩ := R.f.ns; ⟨m, hn', fun x v hx hk => let ⟨V, a, b⟩ := hm x v hx hk; ⟨V, a, b.avoid fun a ha => .inl (.inl ha)⟩⟩
      cell := fun x hx => let ⟨c, V, a, b, d⟩ := R.f.cell x hx; ⟨c, V, a, b, fun v h => let ⟨V', e, r⟩ := d v h; ⟨V', e, r.avoid fun a ha => .inl (.inl ha)⟩⟩
      free := fun x v hx hk => by
        obtain ⟨c, o, V, a, b, d, e⟩ := R.f.free x v hx hk
        refine ⟨c, o, V, a, ?_, d, e.avoid fun a ha => .inl (.inl ha)⟩
        have b' : (if c ∈ pv then h₀.get? c else κ.p c) = some o := b
        by_cases hm : c ∈ pv
        · rw [if_pos hm] at b'; exact absurd d (hc c hm o b' _)
        · rw [if_neg hm] at b'; exact b'
      apart := R.f.apart
      Lnew := ⟨hq _ R.f.Lnew.1, R.f.Lnew.2⟩
      cnew := fun x c hx hcc => by
        obtain ⟨a, b, d⟩ := R.f.cnew x c hx hcc
        exact ⟨a, fun hf => hq _ (b hf), fun o e => d o (hp _ _ e)⟩ }
/-- the objects that an iterator holds turned, all else as it was -/
theorem reshield {κ : Kap} {pv avs : List Addr} {h₁ h h' : Heap} {l₁ : ∀ a ∈ pv, h₁.get? a ≠ none} {l₂ : ∀ a ∈ pv, h'.get? a ≠ none} {sb : ∀ a ∈ avs, a ∈ pv} {env : Env} (R : Rep (shield κ pv avs h₁ l₁ sb) env loc σ h)
    (hk : ∀ b o, b ∉ pv → h.get? b = some o → h'.get? b = some o) (hc : ∀ a ∈ pv, ∀ o, h₁.get? a = some o → (a ∉ avs → o.cls ≠ .type "tuple") ∧ ∀ V, o.data ≠ .cell V) : TK (avU κ avs) h h' ∧ Rep (shield κ pv avs h' l₂ sb) env loc σ h' := by
  have live1 : ∀ a ∈ pv, ∃ o, h₁.get? a = some o ∧ h.get? a = some o := fun a ha => by
    cases e : h₁.get? a with
    | none => exact absurd e (l₁ a ha)
    | some o => exact ⟨o, rfl, R.s.prot a o (by show (if a ∈ pv then h₁.get? a else κ.p a) = some o; rw [if_pos ha]; exact e)⟩
  have out : ∀ a, (shield κ pv avs h₁ l₁ sb).p a = none → a ∉ pv := fun a e ha => by
    obtain ⟨o, e1, _⟩ := live1 a ha
    have e' : (if a ∈ pv then h₁.get? a else κ.p a) = none := e
    rw [if_pos ha, e1] at e'; cases e'
  have nn : ∀ a, (shield κ pv avs h₁ l₁ sb).p a = none → (shield κ pv avs h' l₂ sb).p a = none := fun a e => by
    have ha := out a e
    have e' : (if a ∈ pv then h₁.get? a else κ.p a) = none := e
    show (if a ∈ pv then h'.get? a else κ.p a) = none
    rw [if_neg ha] at e' ⊢; exact e'
  have tk : TK (avU κ avs) h h' := fun a vs na ⟨n, e⟩ => by
    refine ⟨n, hk a _ (fun ha => ?_) e⟩
    obtain ⟨o, e1, e2⟩ := live1 a ha
    rw [e] at e2; cases e2
    exact (hc a ha _ e1).1 (fun hm => na (.inr hm)) rfl
  refine ⟨tk, R.s.turn (fun b o e => ?_) (fun a ha => nn a ?_) (fun a ha o e => hk a o (out a ?_) e) (fun a ha => .inl ha) tk, R.f.turn (fun o ho => hk _ o (out _ R.f.Lnew.1) ho) (fun b o V ho hd => hk b o (fun hb => ?_) ho) (nn _ R.f.Lnew.1) (fun b o V ho hd => ?_) (fun _ _ r => r.mono tk) R.s.prot⟩
  · have e' : (if b ∈ pv then h'.get? b else κ.p b) = some o := e
    by_cases hb : b ∈ pv
    · rw [if_pos hb] at e'; exact e'
    · rw [if_neg hb] at e'
      exact hk b o hb (R.s.prot b o (by show (if b ∈ pv then h₁.get? b else κ.p b) = some o; rw [if_neg hb]; exact e'))
  · obtain ⟨p, hp, rfl⟩ := List.mem_map.mp ha; exact R.s.new p hp
  · obtain ⟨p, hp, rfl⟩ := List.mem_map.mp ha; exact R.s.new p hp
  · obtain ⟨o', e1, e2⟩ := live1 b hb
    rw [ho] at e2; cases e2
    exact (hc b hb o e1).2 _ hd
  · have hb : b ∉ pv := fun hb => by
      obtain ⟨o', e1, e2⟩ := live1 b hb
      rw [ho] at e2; cases e2
      exact (hc b hb o e1).2 _ hd
    show (if b ∈ pv then h'.get? b else κ.p b) = (if b ∈ pv then h₁.get? b else κ.p b)
    rw [if_neg hb, if_neg hb]
/-- an iterator just made -/
theorem shield_new {κ : Kap} {pv avs : List Addr} {h h' : Heap} {l : ∀ a ∈ pv, h'.get? a ≠ none} {sb : ∀ a ∈ avs, a ∈ pv} {env : Env} (R : Rep κ env loc σ h) (hk : ∀ b o, h.get? b = some o → h'.get? b = some o) (hn : ∀ a ∈ pv, h.get? a = none) :
    (∀ a ∈ pv, κ.p a = none) ∧ Rep (shield κ pv avs h' l sb) env loc σ h' := by
  have out : ∀ a o, h.get? a = some o → a ∉ pv := fun a o e ha => by rw [hn a ha] at e; cases e
  have pn : ∀ a ∈ pv, κ.p a = none := fun a ha => by
    cases e : κ.p a with
    | none => rfl
    | some o => exact absurd ha (out a o (R.s.prot a o e))
  have nn : ∀ a o, h.get? a = some o → κ.p a = none → (shield κ pv avs h' l sb).p a = none := fun a o ho e => by
    show (if a ∈ pv then h'.get? a else κ.p a) = none
    rw [if_neg (out a o ho)]; exact e
  have va : ∀ a, (shield κ pv avs h' l sb).av a → κ.av a ∨ h.get? a = none := fun a ha => ha.imp id fun hm => hn a (sb a hm)
  have lo : ∃ o, h.get? env.locals = some o := let ⟨m, ⟨o, _, _, ho, _⟩, _⟩ := R.f.ns; ⟨o, ho⟩
  refine ⟨pn, R.s.turn (fun b o e => ?_) (fun a ha => ?_) (fun a ha o e => hk a o e) va (.of_keeps hk), R.f.turn (fun o ho => hk _ o ho) (fun b o V ho hd => hk b o ho) (let ⟨o, ho⟩ := lo; nn _ o ho R.f.Lnew.1) (fun b o V ho hd => ?_) (fun _ _ r => (r.avoid va).mono (.of_keeps hk)) R.s.prot⟩
  · have e' : (if b ∈ pv then h'.get? b else κ.p b) = some o := e
    by_cases hb : b ∈ pv
    · rw [if_pos hb] at e'; exact e'
    · rw [if_neg hb] at e'; exact hk b o (R.s.prot b o e')
  · obtain ⟨o, ho, _⟩ := R.s.live ha
    obtain ⟨p, hp, rfl⟩ := List.mem_map.mp ha; exact nn _ o ho (R.s.new p hp)
  · show (if b ∈ pv then h'.get? b else κ.p b) = κ.p b
    rw [if_neg (out b o ho)]

theorem le_shield {κ : Kap} {pv avs : List Addr} {h : Heap} {l : ∀ a ∈ pv, h.get? a ≠ none} {sb : ∀ a ∈ avs, a ∈ pv} (le : Γ.le κ) (hn : ∀ a ∈ pv, κ.p a = none) : Γ.le (shield κ pv avs h l sb) := fun b o e => by
  show (if b ∈ pv then h.get? b else κ.p b) = some o
  rw [if_neg (fun hb => by have := le b o e; rw [hn b hb] at this; cases this)]; exact le b o e

theorem forI_tree {it : Value} {A : Around} {env : Env} {R : Result → Shared → Prop} {s : Shared}
    (h : wpAny Γ.M A (pyNext it) (fun r s₁ => match r with
      | none => R (.ok .next) s₁
      | some v => wpAny Γ.M A (letOwnedTupleGo target it v) (fun _ s₁ => wpAny Γ.M A (assign target env v) (fun _ s₂ => wpAny Γ.M A (execs body env) (fun f s₃ => match f with
          | .next | .cont => codeAny Γ.M A (.forLoop target it body [] env) R s₃
          | .brk => R (.ok .next) s₃
          | .ret v => R (.ok (.ret v)) s₃) No s₂) No s₁) No s₁) No s) : codeAny Γ.M A (.forLoop target it body [] env) R s := by
  refine codeAny_of_tree ?_
  show wpAny _ A ((forTurn target it body [] env).onRaise (fun x => do noteFrame x env; theTreesLotGoes x)) _ _ s
  refine wpAny_noted ?_
  simp only [forTurn]
  refine wpAny_bind (wpAny_standAt (wpAny_bind (wpAny_onRaise (wpAny_mono h (fun r s₁ h₁ => ?_) fun _ _ x => x.elim))))
  cases r with
  | none => exact wpAny_pure ⟨rfl, codeAny_block (wpAny_execs_nil h₁)⟩
  | some v =>
    refine wpAny_bind (wp_no h₁ fun _ s₂ h₂ => wpAny_bind (wp_no h₂ fun _ s₃ h₃ => wpAny_bind (wp_no h₃ fun f s₄ h₄ => ?_)))
    cases f with
    | next => exact wpAny_pure ⟨rfl, h₄⟩
    | cont => exact wpAny_pure ⟨rfl, h₄⟩
    | brk => exact wpAny_pure h₄
    | ret v => exact wpAny_pure h₄

theorem Itr.cells {I : Itr Γ k target} {vs : List AV} {h : Heap} (i : I.Inv vs h) : ∀ a ∈ I.pv, ∀ o, h.get? a = some o → (a ∉ I.avs → o.cls ≠ .type "tuple") ∧ ∀ V, o.data ≠ .cell V := fun a ha o e => by
  obtain ⟨o', e', p⟩ := I.live vs h i a ha
  rw [e] at e'; cases e'; exact p

theorem forI_nil {I : Itr Γ k target} (h : P .next loc σ) : ForI sc body I [] loc σ P := fun A κ env s i hA le f hn R hs hcv => by
  refine forI_tree (wp_no (I.done A _ σ s (fun s' => PstF κ I.avs env s P (.ok .next) s') hA (le_shield le hn) R.s (fun a ha => ?_) hs hcv i fun h' tk hk => ?_) fun r s₁ pst0 => ?_)
  · show (if a ∈ I.pv then s.heap.get? a else κ.p a) = s.heap.get? a
    rw [if_pos ha]
  · have U := unshield R hn (fun a ha o e => (Itr.cells i a ha o e).2)
    have tk' : TK (avU κ I.avs) s.heap h' := fun a vs na ⟨n, e⟩ => ⟨n, hk a _ (fun ha => (Itr.cells i a ha _ e).1 (fun hm => na (.inr hm)) rfl) e⟩
    have out : ∀ a, κ.p a = none → (∃ o, s.heap.get? a = some o ∧ (shield κ I.pv I.avs s.heap (I.lv i) I.sub).p a = none) → a ∉ I.pv := fun a _ ⟨o, ho, e⟩ ha => by
      have e' : (if a ∈ I.pv then s.heap.get? a else κ.p a) = none := e
      rw [if_pos ha, ho] at e'; cases e'
    refine ⟨.next, loc, σ, h', tk, rfl, tk', ?_, .next, h⟩
    have R2 : RepS κ σ h' := {
      prot := fun b o e => hk b o (fun hb => by rw [hn b hb] at e; cases e) (U.s.prot b o e)
      objs := fun p hp => by
        obtain ⟨ob, e, r⟩ := R.s.objs p hp
        have hnp : p.1 ∉ I.pv := out p.1 (U.s.new p hp) ⟨ob, e, R.s.new p hp⟩
        exact ⟨ob, hk _ _ hnp e, (r.mono tk').avoid fun a ha => .inl (.inl ha)⟩
      nodup := U.s.nodup
      new := U.s.new }
    refine ⟨R2, ?_⟩
    have pvc : ∀ b o V, s.heap.get? b = some o → o.data = .cell V → b ∉ I.pv := fun b o V ho hd hb => (Itr.cells i b hb o ho).2 _ hd
    refine R.f.turn (κ' := κ) (fun o ho => hk _ o (out _ U.f.Lnew.1 ⟨o, ho, R.f.Lnew.1⟩) ho) (fun b o V ho hd => hk b o (pvc b o V ho hd) ho) U.f.Lnew.1 (fun b o V ho hd => ?_) (fun _ _ r => (r.mono tk').avoid fun a ha => .inl (.inl ha)) R.s.prot
    show κ.p b = (if b ∈ I.pv then s.heap.get? b else κ.p b)
    rw [if_neg (pvc b o V ho hd)]
  · obtain ⟨e, q⟩ := pst0; subst e; exact q

theorem forI_cons {I : Itr Γ k target} {v : AV} {vs : List AV} (h : Asg Γ k sc target v loc σ fun loc₁ σ₁ => Exs Γ k sc body loc₁ σ₁ (Turn P fun l σ' => (∀ p ∈ I.src, p ∈ σ') ∧ ForI sc body I vs l σ' P)) : ForI sc body I (v :: vs) loc σ P := fun A κ env s i hA le f hn R hs hcv => by
  refine forI_tree (wp_no (I.next A _ σ s v vs (fun V s₁ => ∃ h' tk, s₁ = { s with heap := h', toks := tk } ∧ TK (avU κ I.avs) s.heap h' ∧ ∃ (i' : I.Inv vs h'), Rep (shield κ I.pv I.avs h' (I.lv i') I.sub) env loc σ h' ∧ VRel (avU κ I.avs) h' v V) hA (le_shield le hn) R.s (fun a ha => ?_) (fun a ha => .inr ha) hs hcv i fun V h' tk hk hl hv i' => ?_) fun r s₁ pst0 => ?_)
  · show (if a ∈ I.pv then s.heap.get? a else κ.p a) = s.heap.get? a
    rw [if_pos ha]
  · obtain ⟨tk', R'⟩ := reshield (l₂ := I.lv i') R hk (Itr.cells i)
    exact ⟨h', tk, rfl, tk', i', R', hv tk'⟩
  · obtain ⟨V, e, q⟩ := pst0
    subst e
    refine wp_no q fun _ s₂ pst0 => ?_
    obtain ⟨h₂, tk₂, e₂, q₂, i₂, R₂, r₂⟩ := pst0
    subst e₂
    refine wpA (h A _ env _ V hA (le_shield le hn) f R₂ r₂) fun l₃ σ₃ h₃ tk₃ q₃ R₃ p₃ => ?_
    refine wpX (p₃ A _ env _ hA (le_shield le hn) f R₃) fun fl g l₄ σ₄ h₄ tk₄ q₄ R₄ r₄ p₄ => ?_
    have tkA : TK (avU κ I.avs) s.heap h₄ := (q₂.trans q₃).trans q₄
    have i₄ : I.Inv vs h₄ := I.frame vs h₂ h₄ i₂ fun a ha o e => R₄.s.prot a o (by show (if a ∈ I.pv then h₂.get? a else κ.p a) = some o; rw [if_pos ha]; exact e)
    have R₅ : Rep (shield κ I.pv I.avs h₄ (I.lv i₄) I.sub) env l₄ σ₄ h₄ := (reshield (l₂ := I.lv i₄) R₄ (fun _ _ _ e => e) (Itr.cells i₂)).2
    have go : (∀ p ∈ I.src, p ∈ σ₄) ∧ ForI sc body I vs l₄ σ₄ P → codeAny Γ.M A (.forLoop target I.IT body [] env) (PstF κ I.avs env s P) { s with heap := h₄, toks := tk₄ } := fun ⟨hs', again⟩ =>
      codeAny_mono (again A κ env { s with heap := h₄, toks := tk₄ } i₄ hA le f hn R₅ hs' fun p hp => (hcv p hp).mono tkA) fun r s₅ x => x.trans (tk₁ := tk₄) tkA
    have U : Rep κ env l₄ σ₄ h₄ := unshield R₅ hn (fun a ha o e => (Itr.cells i₄ a ha o e).2)
    cases r₄ with
    | next => exact go p₄
    | cont => exact go p₄
    | brk => exact ⟨_, _, _, _, _, rfl, tkA, U, .next, p₄⟩
    | ret r => exact ⟨_, _, _, _, _, rfl, tkA, U, .ret (r.avoid fun a ha => .inl (.inl ha)), p₄⟩

/-- a for over an iterator that is there -/
noncomputable def For (Γ : Gd) (k : Nat) (sc : Scope) (target : Expr) (body : List Stmt) (src : Sto) (vs : List AV) (loc : Loc) (σ : Sto) (P : AFl → Loc → Sto → Prop) : Prop :=
  ∀ I : Itr Γ k target, I.src = src → ForI sc body I vs loc σ P
theorem for_nil {src : Sto} (h : P .next loc σ) : For Γ k sc target body src [] loc σ P := fun I _ => forI_nil h
theorem for_cons {src : Sto} {v : AV} {vs : List AV} (h : Asg Γ k sc target v loc σ fun loc₁ σ₁ => Exs Γ k sc body loc₁ σ₁ (Turn P fun l σ' => (∀ p ∈ src, p ∈ σ') ∧ For Γ k sc target body src vs l σ' P)) : For Γ k sc target body src (v :: vs) loc σ P := fun I e => by
  subst e
  refine forI_cons fun A κ env s V hA le f R r => wpA (h A κ env s V hA le f R r) fun l σ' h' tk b c d => ⟨l, σ', h', tk, rfl, b, c, exs_mono d fun fl l₂ σ₂ t => ?_⟩
  cases fl with
  | next => exact ⟨t.1, t.2 I rfl⟩
  | cont => exact ⟨t.1, t.2 I rfl⟩
  | brk => exact t
  | ret v => exact t
end
end Mine
namespace Mine
section
variable {Γ : Gd} {k : Nat} {sc : Scope} {loc : Loc} {σ : Sto} {target : Expr} {body : List Stmt} {P : AFl → Loc → Sto → Prop}

/-- targets that we meet -/
inductive Tgt : Expr → Prop
  | name (x : Str) (p : Pos) : Tgt (.Name x p)
  | tup (es : List Expr) (n : Nat) (p : Pos) : Tgt (.Tuple es n p)

theorem letOwned_plain (T : Tgt target) {M : Model} {A : Around} {E : Value → Shared → Prop} {s : Shared} {I : Addr} {V : Value} {o : Obj} {ty : String} {fs : Array Value} {Q : Unit → Shared → Prop} (ho : s.heap.get? I = some o) (hc : o.cls = .type ty) (hd : o.data = .fields fs)
    (hn : (["enumerate", "zip", "dict_itemiterator", "dict_reverseitemiterator", "odict_iterator", "itertools.zip_longest", "itertools.pairwise"].contains ty) = false) (h : Q () s) : wpAny M A (letOwnedTupleGo target (.ref I) V) Q E s := by
  cases T with
  | name x p => exact wpAny_pure h
  | tup es n p =>
    cases V with
    | ref T =>
      unfold letOwnedTupleGo
      refine wpAny_bind (wpAny_load ho ?_)
      rw [hc, hd]
      show wpAny _ A (if (["enumerate", "zip", "dict_itemiterator", "dict_reverseitemiterator", "odict_iterator", "itertools.zip_longest", "itertools.pairwise"].contains ty && fs[0]? == some (rawInt T)) = true then _ else _) Q E s
      rw [if_neg (by rw [hn, Bool.false_and]; simp)]
      exact wpAny_pure h
    | _ => exact wpAny_pure h

/-- an iterator made of a value -/
noncomputable def Mk (Γ : Gd) (k : Nat) (target : Expr) (v : AV) (σ : Sto) (src : Sto) (vs : List AV) : Prop :=
  ∀ A κ (s : Shared) V, AOk k A → Γ.le κ → RepS κ σ s.heap → VRel κ.av s.heap v V → wpAny Γ.M A (pyIter V) (fun it s' => ∃ (I : Itr Γ k target) (h' : Heap) (tk : Nat), s' = { s with heap := h', toks := tk } ∧ I.src = src ∧ I.avs = [] ∧ it = I.IT ∧ I.Inv vs h' ∧ (∀ b o, s.heap.get? b = some o → h'.get? b = some o) ∧ (∀ a ∈ I.pv, s.heap.get? a = none) ∧ ∀ p ∈ I.cv, VRel κ.av s.heap p.1 p.2) No s

theorem ex_for {iter : Expr} {pos : Pos} (h : Ev Γ k sc iter loc σ fun v σ₁ => ∃ src vs, Mk Γ k target v σ₁ src vs ∧ (∀ p ∈ src, p ∈ σ₁) ∧ For Γ k sc target body src vs loc σ₁ P) (hs : ∀ env x, foldedSetIterable iter env x = pure x) : Ex Γ k sc (.For target iter body [] pos) loc σ P := fun A κ env s hA le f R => by
  refine wpAny_For (wp_no (h A κ env s hA le f R) fun V s₁ pst => ?_) (hs env)
  obtain ⟨v, σ₁, h₁, tk₁, e₁, q₁, R₁, r₁, src, vs, mk, hsr, p⟩ := pst
  subst e₁
  refine wp_no (mk A κ _ V hA le R₁.s r₁) fun it s₂ pst0 => ?_
  obtain ⟨I, h₂, tk₂, e₂, es, _, ei, i, hk, hn, hcv⟩ := pst0
  subst e₂; subst ei; subst es
  obtain ⟨pn, R₂⟩ := shield_new (avs := I.avs) (l := I.lv i) (sb := I.sub) R₁ hk hn
  refine codeAny_mono (p I rfl A κ env { s with heap := h₂, toks := tk₂ } i hA le f pn R₂ hsr fun p hp => ((hcv p hp).avoid fun a ha => ha.imp id fun hm => hn a (I.sub a hm)).mono (.of_keeps hk)) fun r s₃ x => ?_
  cases r with
  | error _ => exact x.elim
  | ok fl =>
    obtain ⟨g, l₃, σ₃, h₃, tk₃, e₃, q₃, R₃, r₃, p₃⟩ := x
    refine ⟨g, l₃, σ₃, h₃, tk₃, e₃, q₁.trans fun a vs na t => q₃ a vs (fun ha => ?_) (TK.of_keeps (av := κ.av) hk a vs na t), R₃, r₃, p₃⟩
    rcases ha with ha | ha
    · exact na ha
    · obtain ⟨n, e⟩ := t; rw [hn a (I.sub a ha)] at e; cases e

/-! lists -/
noncomputable def itrList (T : Tgt target) (I a : Addr) (xs : List AV) : Itr Γ k target where
  IT := .ref I
  pv := [I]
  avs := []
  src := [(a, .list xs)]
  cv := []
  Inv vs h := ∃ i, h.IsListIter I a i ∧ vs = xs.drop i
  sub a ha := nomatch ha
  live vs h := fun ⟨i, ⟨o, ho, hc, hd⟩, _⟩ b hb => by
    rw [List.mem_singleton] at hb; subst hb
    exact ⟨o, ho, fun _ => by rw [hc]; decide, fun V e => by rw [hd] at e; cases e⟩
  frame vs h h' := fun ⟨i, ⟨o, ho, r⟩, e⟩ hk => ⟨i, ⟨o, hk I (List.mem_singleton.mpr rfl) o ho, r⟩, e⟩
  self A vs s Q := fun ⟨i, hit, _⟩ q => wpAny_pyIter_listiter hit q
  next A κ σ s v vs Q hA le R hp ha hs _ i hQ := by
    obtain ⟨i, hit, e⟩ := i
    have hm := hs _ (List.mem_singleton.mpr rfl)
    obtain ⟨ws, n, el, rs⟩ := R.list hm
    have hx : xs[i]? = some v := by
      have := congrArg (fun l => l[0]?) e
      simpa using this.symm
    obtain ⟨V, hv, rv⟩ := rs.get hx
    refine wpAny_pyNext_list_item hit (items := ws.toArray) ⟨_, el, rfl, n, rfl⟩ (x := V) (by simpa using hv) fun h' hit' hsb => ⟨V, rfl, ?_⟩
    obtain ⟨o', ho', hc', hd'⟩ := id hit'
    refine letOwned_plain T (s := { s with heap := h' }) ho' hc' hd' (by decide) (hQ V h' s.toks (fun b o hb hbo => hsb.extBut b o (fun e => hb (e ▸ List.mem_singleton.mpr rfl)) hbo) (fun b hb => ?_) (fun tk => rv.mono tk) ⟨i + 1, hit', ?_⟩)
    · rw [List.mem_singleton] at hb; subst hb; rw [ho']; simp
    · have := congrArg List.tail e
      simpa using this
  done A κ σ s Q hA le R hp hs _ i hQ := by
    obtain ⟨i, hit, e⟩ := i
    have hm := hs _ (List.mem_singleton.mpr rfl)
    obtain ⟨ws, n, el, rs⟩ := R.list hm
    have hx : xs.length ≤ i := by simpa using e.symm
    exact wpAny_pyNext_list_end hA.1 hit (items := ws.toArray) ⟨_, el, rfl, n, rfl⟩ (by simp; rw [rs.length]; exact hx) fun h' he => ⟨rfl, hQ h' s.toks fun b o hb hbo => he b o (fun e => hb (e ▸ List.mem_singleton.mpr rfl)) hbo⟩
theorem mk_list (T : Tgt target) {a : Addr} {xs : List AV} (hm : (a, .list xs) ∈ σ) : Mk Γ k target (.ref a) σ [(a, .list xs)] xs := fun A κ s V hA le R r => by
  cases r
  obtain ⟨vs, n, e, rs⟩ := R.list hm
  exact wpAny_pyIter_list (items := vs.toArray) ⟨_, e, rfl, n, rfl⟩ ⟨itrList T s.heap.objs.size a xs, _, s.toks, rfl, rfl, rfl, rfl, ⟨0, ⟨_, Heap.get?_push_size _ rfl, rfl, rfl⟩, by simp⟩, push_keeps _, fun b hb => by rw [List.mem_singleton.mp hb]; exact size_new, fun _ h => nomatch h⟩

/-! tuples -/
noncomputable def itrTup (T : Tgt target) (I a : Addr) (xs : List AV) : Itr Γ k target where
  IT := .ref I
  pv := [I]
  avs := []
  src := []
  cv := [(.tup xs, .ref a)]
  Inv vs h := ∃ i, h.IsTupleIter I a i ∧ vs = xs.drop i
  sub a ha := nomatch ha
  live vs h := fun ⟨i, ⟨o, ho, hc, hd⟩, _⟩ b hb => by
    rw [List.mem_singleton] at hb; subst hb
    exact ⟨o, ho, fun _ => by rw [hc]; decide, fun V e => by rw [hd] at e; cases e⟩
  frame vs h h' := fun ⟨i, ⟨o, ho, r⟩, e⟩ hk => ⟨i, ⟨o, hk I (List.mem_singleton.mpr rfl) o ho, r⟩, e⟩
  self A vs s Q := fun ⟨i, hit, _⟩ q => wpAny_pyIter_tupleiter hit q
  next A κ σ s v vs Q hA le R hp ha hs hcv i hQ := by
    obtain ⟨i, hit, e⟩ := i
    cases hcv _ (List.mem_singleton.mpr rfl) with
    | tup na t rs =>
      rename_i ws
      have hx : xs[i]? = some v := by
        have := congrArg (fun l => l[0]?) e
        simpa using this.symm
      obtain ⟨V, hv, rv⟩ := rs.get hx
      refine wpAny_pyNext_tuple_item hit (items := ws.toArray) t.isTuple (x := V) (by simpa using hv) fun h' hit' hsb => ⟨V, rfl, ?_⟩
      obtain ⟨o', ho', hc', hd'⟩ := id hit'
      refine letOwned_plain T (s := { s with heap := h' }) ho' hc' hd' (by decide) (hQ V h' s.toks (fun b o hb hbo => hsb.extBut b o (fun e => hb (e ▸ List.mem_singleton.mpr rfl)) hbo) (fun b hb => ?_) (fun tk => rv.mono tk) ⟨i + 1, hit', ?_⟩)
      · rw [List.mem_singleton] at hb; subst hb; rw [ho']; simp
      · have := congrArg List.tail e
        simpa using this
  done A κ σ s Q hA le R hp hs hcv i hQ := by
    obtain ⟨i, hit, e⟩ := i
    cases hcv _ (List.mem_singleton.mpr rfl) with
    | tup na t rs =>
      rename_i ws
      have hx : xs.length ≤ i := by simpa using e.symm
      exact wpAny_pyNext_tuple_end hA.1 hit (items := ws.toArray) t.isTuple (by simp; rw [rs.length]; exact hx) fun h' he => ⟨rfl, hQ h' s.toks fun b o hb hbo => he b o (fun e => hb (e ▸ List.mem_singleton.mpr rfl)) hbo⟩
noncomputable def chars (x : Str) : List AV := x.cps.toList.map fun c => .str (ofL [c])
noncomputable def itrStr (T : Tgt target) (I : Addr) (ty : String) (hty : ty = "str_ascii_iterator" ∨ ty = "str_iterator") (x : Str) (t : Tok) : Itr Γ k target where
  IT := .ref I
  pv := [I]
  avs := []
  src := []
  cv := []
  Inv vs h := ∃ i, h.IsStrIter I ty x t i ∧ vs = (chars x).drop i
  sub a ha := nomatch ha
  live vs h := fun ⟨i, ⟨o, ho, hc, hd⟩, _⟩ b hb => by
    rw [List.mem_singleton] at hb; subst hb
    exact ⟨o, ho, fun _ => by rw [hc]; rcases hty with e | e <;> rw [e] <;> decide, fun V e => by rw [hd] at e; cases e⟩
  frame vs h h' := fun ⟨i, ⟨o, ho, r⟩, e⟩ hk => ⟨i, ⟨o, hk I (List.mem_singleton.mpr rfl) o ho, r⟩, e⟩
  self A vs s Q := fun ⟨i, hit, _⟩ q => by
    rcases hty with e | e
    · subst e; exact wpAny_pyIter_striter_ascii hit q
    · subst e; exact wpAny_pyIter_striter_wide hit q
  next A κ σ s v vs Q hA le R hp ha hs hcv i hQ := by
    obtain ⟨i, hit, e⟩ := i
    have hx : (chars x)[i]? = some v := by
      have := congrArg (fun l => l[0]?) e
      simpa using this.symm
    obtain ⟨c, hc, ev⟩ : ∃ c, x.cps[i]? = some c ∧ AV.str (ofL [c]) = v := by
      unfold chars at hx
      simpa using hx
    have et : vs = (chars x).drop (i + 1) := by
      have := congrArg List.tail e
      simpa using this
    subst ev
    have key : ∀ h', h'.IsStrIter I ty x t (i + 1) → Heap.SameBut I s.heap h' → wpAny Γ.M A (letOwnedTupleGo target (.ref I) (.str ⟨#[c]⟩ s.toks)) (fun _ s₂ => Q (.str ⟨#[c]⟩ s.toks) s₂) No { s with heap := h', toks := s.toks + 1 } := fun h' hit' hsb => by
      obtain ⟨o', ho', hc', hd'⟩ := id hit'
      refine letOwned_plain T (s := { s with heap := h', toks := s.toks + 1 }) ho' hc' hd' (by rcases hty with e | e <;> rw [e] <;> decide) (hQ _ h' (s.toks + 1) (fun b o hb hbo => hsb.extBut b o (fun e => hb (e ▸ List.mem_singleton.mpr rfl)) hbo) (fun b hb => ?_) (fun tk => .str _ _) ⟨i + 1, hit', et⟩)
      rw [List.mem_singleton] at hb; subst hb; rw [ho']; simp
    rcases hty with e' | e'
    · subst e'; exact wpAny_pyNext_ascii_item hit hc fun h' a b => ⟨_, rfl, key h' a b⟩
    · subst e'; exact wpAny_pyNext_wide_item hit hc fun h' a b => ⟨_, rfl, key h' a b⟩
  done A κ σ s Q hA le R hp hs hcv i hQ := by
    obtain ⟨i, hit, e⟩ := i
    have hx : x.cps[i]? = none := by
      have : (chars x).length ≤ i := by simpa using e.symm
      unfold chars at this
      simpa using this
    rcases hty with e' | e'
    · subst e'; exact wpAny_pyNext_ascii_end hA.1 hit hx fun h' he => ⟨rfl, hQ h' s.toks fun b o hb hbo => he b o (fun e => hb (e ▸ List.mem_singleton.mpr rfl)) hbo⟩
    · subst e'; exact wpAny_pyNext_wide_end hA.1 hit hx fun h' he => ⟨rfl, hQ h' s.toks fun b o hb hbo => he b o (fun e => hb (e ▸ List.mem_singleton.mpr rfl)) hbo⟩
theorem mk_str (T : Tgt target) {x : Str} : Mk Γ k target (.str x) σ [] (chars x) := fun A κ s V hA le R r => by
  cases r
  rename_i t
  cases ha : x.cps.all (· < 128) with
  | true => exact wpAny_pyIter_ascii ha ⟨itrStr T s.heap.objs.size _ (.inl rfl) x t, _, s.toks, rfl, rfl, rfl, rfl, ⟨0, ⟨_, Heap.get?_push_size _ rfl, rfl, rfl⟩, by simp⟩, push_keeps _, fun b hb => by rw [List.mem_singleton.mp hb]; exact size_new, fun _ h => nomatch h⟩
  | false => exact wpAny_pyIter_wide ha ⟨itrStr T s.heap.objs.size _ (.inr rfl) x t, _, s.toks, rfl, rfl, rfl, rfl, ⟨0, ⟨_, Heap.get?_push_size _ rfl, rfl, rfl⟩, by simp⟩, push_keeps _, fun b hb => by rw [List.mem_singleton.mp hb]; exact size_new, fun _ h => nomatch h⟩

/-! ranges -/
noncomputable def intsFrom (a : Int) : Nat → List AV
  | 0 => []
  | n + 1 => .int a :: intsFrom (a + 1) n
noncomputable def RangeObj (o : Obj) (a b : Int) : Prop := ∃ t u v, o = { cls := .type "range", data := .fields #[.int a t, .int b u, .int 1 v] }
noncomputable def itrRange (T : Tgt target) (I : Addr) : Itr Γ k target where
  IT := .ref I
  pv := [I]
  avs := []
  src := []
  cv := []
  Inv vs h := ∃ (x : Int) (n : Nat), IsRangeIter h I x n 1 ∧ vs = intsFrom x n
  sub a ha := nomatch ha
  live vs h := fun ⟨x, n, ho, _⟩ b hb => by
    rw [List.mem_singleton] at hb; subst hb
    exact ⟨_, ho, fun _ => by show Value.type "range_iterator" ≠ _; decide, fun V e => by cases e⟩
  frame vs h h' := fun ⟨x, n, ho, e⟩ hk => ⟨x, n, hk I (List.mem_singleton.mpr rfl) _ ho, e⟩
  self A vs s Q := fun ⟨x, n, hit, _⟩ q => wpAny_pyIter_rangeiter hit q
  next A κ σ s v vs Q hA le R hp ha hs hcv i hQ := by
    obtain ⟨x, n, hit, e⟩ := i
    cases n with
    | zero => cases e
    | succ n =>
      cases e
      refine wpAny_pyNext_range_item hit (by omega) fun h' hit' hsb => ⟨_, rfl, ?_⟩
      refine letOwned_plain T (s := { s with heap := h', toks := s.toks + 1 }) hit' rfl rfl (by decide) (hQ _ h' (s.toks + 1) (fun b o hb hbo => hsb.extBut b o (fun e => hb (e ▸ List.mem_singleton.mpr rfl)) hbo) (fun b hb => ?_) (fun tk => .int _ _) ⟨x + 1, n, ?_, rfl⟩)
      · rw [List.mem_singleton] at hb; subst hb; rw [hit']; simp
      · have : ((n + 1 : Nat) : Int) - 1 = (n : Int) := by omega
        rw [this] at hit'; exact hit'
  done A κ σ s Q hA le R hp hs hcv i hQ := by
    obtain ⟨x, n, hit, e⟩ := i
    cases n with
    | succ n => cases e
    | zero => exact wpAny_pyNext_range_end hA.1 hit (by omega) fun h' he => ⟨rfl, hQ h' s.toks fun b o hb hbo => he b o (fun e => hb (e ▸ List.mem_singleton.mpr rfl)) hbo⟩
theorem mk_range (T : Tgt target) {r : Addr} {o : Obj} {a b : Int} (hm : (r, .obj o) ∈ σ) (ho : RangeObj o a b) (ha : -(2 ^ 62) ≤ a) (ha' : a < 2 ^ 62) (hb : -(2 ^ 62) ≤ b) (hb' : b < 2 ^ 62) : Mk Γ k target (.ref r) σ [] (intsFrom a (b - a).toNat) := fun A κ s V hA le R rr => by
  cases rr
  obtain ⟨t, u, v, rfl⟩ := ho
  obtain ⟨ob, e, rfl, _⟩ := R.objs _ hm
  refine wpAny_pyIter_range e (small_one ha ha' hb hb') ⟨itrRange T s.heap.objs.size, _, s.toks, rfl, rfl, rfl, rfl, ⟨a, (b - a).toNat, ?_, rfl⟩, push_keeps _, fun b hb => by rw [List.mem_singleton.mp hb]; exact size_new, fun _ h => nomatch h⟩
  have : Builtin.Range.rangeSize a b 1 = ((b - a).toNat : Int) := by rw [rangeSize_one]; split <;> omega
  rw [this]
  exact Heap.get?_push_size _ rfl
theorem cal_range1 {n : Int} {P : AV → Sto → Prop} (h : ∀ r o, RangeObj o 0 n → P (.ref r) ((r, .obj o) :: σ)) : Cal Γ k (.type "range") [.int n] σ P := fun A κ s Xs hA le R rs => by
  cases rs with
  | cons x rs =>
    cases x; cases rs
    exact call_range_1 ⟨.ref _, _, _, _, rfl, R.add size_new (push_keeps _) (Heap.get?_push_size _ rfl) (o := .obj _) ⟨rfl, fun _ _ e => by have e2 := congrArg Obj.data e; cases e2⟩, .ref _, h _ _ ⟨_, _, _, rfl⟩⟩
end
end Mine
namespace Mine

/-- the cells that a comprehension or an inner def reads -/
noncomputable def clos (env : Env) : List (Str × NameKind) → List (Str × Addr) → List (Str × Addr)
  | [], acc => acc
  | (n, k) :: r, acc => if k == .free then clos env r ((n, (env.cells.lookup n).getD 0) :: acc) else clos env r acc
theorem closure_loop (env : Env) (f : Str × NameKind → List (Str × Addr) → Sem (ForInStep (List (Str × Addr))))
    (hf : ∀ n k c, f (n, k) c = if (k == NameKind.free) = true then (do let a ← cellOf env n; pure (.yield ((n, a) :: c))) else pure (.yield c)) : ∀ (names : List (Str × NameKind)) (acc : List (Str × Addr)), (∀ x, (x, NameKind.free) ∈ names → ∃ c, env.cells.lookup x = some c) → forIn names acc f = pure (clos env names acc)
  | [], acc, _ => rfl
  | (n, k) :: r, acc, h => by
    rw [List.forIn_cons, hf, clos]
    by_cases hk : (k == NameKind.free) = true
    · rw [if_pos hk, if_pos hk]
      have hk' : k = .free := by simpa using hk
      obtain ⟨c, hc⟩ := h n (hk' ▸ .head _)
      have e : cellOf env n = pure c := by unfold cellOf; rw [hc]
      rw [e, hc]
      exact closure_loop env f hf r _ fun x hx => h x (.tail _ hx)
    · rw [if_neg hk, if_neg hk]
      exact closure_loop env f hf r _ fun x hx => h x (.tail _ hx)
theorem closureFor_of {scope : Scope} {env : Env} (h : ∀ x, (x, NameKind.free) ∈ scope.names → ∃ c, env.cells.lookup x = some c) : closureFor scope env = pure (clos env scope.names []) := by
  simp only [closureFor]
  rw [closure_loop env _ (fun n k c => by rfl) _ _ h]
  rfl
theorem clos_acc (env : Env) (x : Str) : ∀ (names : List (Str × NameKind)) (acc : List (Str × Addr)) (c : Addr), env.cells.lookup x = some c → ((x, NameKind.free) ∈ names ∨ acc.lookup x = some c) → (∀ d, acc.lookup x = some d → d = c) → (clos env names acc).lookup x = some c
  | [], acc, c, _, h, _ => h.elim (fun e => nomatch e) id
  | (n, k) :: r, acc, c, hc, h, hu => by
    rw [clos]
    by_cases hk : (k == NameKind.free) = true
    · rw [if_pos hk]
      by_cases e : x = n
      · subst e
        refine clos_acc env x r _ c hc (.inr ?_) ?_
        · rw [List.lookup_cons, beq_self_eq_true, hc]; rfl
        · intro d hd; rw [List.lookup_cons, beq_self_eq_true, hc] at hd; cases hd; rfl
      · have en : (x == n) = false := beq_eq_false_iff_ne.mpr e
        refine clos_acc env x r _ c hc ?_ ?_
        · rcases h with h | h
          · rcases List.mem_cons.mp h with h | h
            · cases h; exact absurd rfl e
            · exact .inl h
          · right; rw [List.lookup_cons, en]; exact h
        · intro d hd; rw [List.lookup_cons, en] at hd; exact hu d hd
    · rw [if_neg hk]
      refine clos_acc env x r acc c hc ?_ hu
      rcases h with h | h
      · rcases List.mem_cons.mp h with h | h
        · cases h; exact absurd rfl hk
        · exact .inl h
      · exact .inr h

/-- a comprehension's scope, as it is run in a def's frame -/
noncomputable def relS (scope sc : Scope) : Scope :=
  { scope with names := scope.names.map fun (n, k) => if (k == .free && sc.kind == .function && sc.names.lookup n == some .cell) then (n, .cell) else (n, k) }
theorem relabel_eq {scope sc : Scope} {env : Env} (f : Fits sc env) : relabel scope env = relS scope sc := by
  unfold relabel relS Env.kindOf
  rw [f.scope]
noncomputable def cloc (sc : Scope) (loc : Loc) : Loc := loc.filter fun p => sc.names.lookup p.1 == some .cell
theorem lookup_cloc {sc : Scope} : ∀ {loc : Loc} {x : Str} {v : AV}, (cloc sc loc).lookup x = some v → sc.names.lookup x = some .cell ∧ loc.lookup x = some v
  | [], x, v, h => by simp [cloc] at h
  | (y, w) :: r, x, v, h => by
    unfold cloc at h
    rw [List.filter_cons] at h
    by_cases e : x = y
    · subst e
      by_cases hk : (sc.names.lookup x == some .cell) = true
      · rw [if_pos hk, List.lookup_cons, beq_self_eq_true] at h
        cases h
        exact ⟨by simpa using hk, by rw [List.lookup_cons, beq_self_eq_true]⟩
      · rw [if_neg hk] at h
        have := (lookup_cloc (loc := r) h).1
        rw [this] at hk; exact absurd rfl hk
    · have en : (x == y) = false := beq_eq_false_iff_ne.mpr e
      rw [List.lookup_cons, en]
      by_cases hk : (sc.names.lookup y == some .cell) = true
      · rw [if_pos hk, List.lookup_cons, en] at h
        exact lookup_cloc (loc := r) h
      · rw [if_neg hk] at h
        exact lookup_cloc (loc := r) h
/-- a name that the comprehension takes from the def -/
theorem relS_cell {scope sc : Scope} (hc : ∀ y ∈ scope.names, y.2 ≠ .cell) {x : Str} (h : (relS scope sc).names.lookup x = some .cell) : (x, NameKind.free) ∈ scope.names ∧ sc.names.lookup x = some .cell := by
  have hm := mem_of_lookup h
  unfold relS at hm
  obtain ⟨p, hp, e⟩ := List.mem_map.mp hm
  obtain ⟨n, k⟩ := p
  simp only at e
  by_cases hk : (k == .free && sc.kind == .function && sc.names.lookup n == some .cell) = true
  · rw [if_pos hk] at e
    cases e
    simp only [Bool.and_eq_true, beq_iff_eq] at hk
    exact ⟨hk.1.1 ▸ hp, hk.2⟩
  · rw [if_neg hk] at e
    cases e
    exact absurd rfl (hc _ hp)

section
variable {Γ : Gd} {k : Nat} {sc : Scope} {loc : Loc} {σ : Sto} {target : Expr}

/-- tests of a comprehension -/
noncomputable def TsC (Γ : Gd) (k : Nat) (sc : Scope) (ifs : List Expr) (loc : Loc) (σ : Sto) (P : Bool → Sto → Prop) : Prop := match ifs with
  | [] => P true σ
  | [c] => Ts Γ k sc c loc σ P
  | _ => False
theorem tsC_at {ifs : List Expr} {P : Bool → Sto → Prop} (h : TsC Γ k sc ifs loc σ P) {A : Around} {κ : Kap} {env : Env} {s : Shared} (hA : AOk k A) (l : Γ.le κ) (f : Fits sc env) (R : Rep κ env loc σ s.heap) :
    wpAny Γ.M A (forIn ifs true fun c r => if r = true then do let ok ← isTrue c env (eval c env); pure (ForInStep.yield ok) else pure (ForInStep.yield r)) (PstT κ env loc s P) No s := by
  match ifs, h with
  | [], h => exact wpAny_tests_nil ⟨σ, s.heap, s.toks, rfl, .refl _, R, h⟩
  | [c], h => exact wpAny_tests_one (h A κ env s hA l f R)

/-- a comprehension's turns -/
noncomputable def CmpI (sc : Scope) (ifs : List Expr) (elt : Expr) (iter : Expr) (scope : Scope) (pos : Pos) (I : Itr Γ k target) (D : Addr) (vs : List AV) (loc : Loc) (σ : Sto) (P : Sto → Prop) : Prop :=
  ∀ A κ env s (i : I.Inv vs s.heap), AOk k A → Γ.le κ → Fits sc env → (∀ a ∈ I.pv, κ.p a = none) → Rep (shield κ I.pv I.avs s.heap (I.lv i) I.sub) env loc σ s.heap → (∀ p ∈ I.src, p ∈ σ) → (∀ p ∈ I.cv, VRel (avU κ I.avs) s.heap p.1 p.2) →
    codeAny Γ.M A (.compLoop (.ListComp elt [⟨target, iter, ifs, 0⟩] scope pos) 0 I.IT (.ref D) env) (fun r s' => match r with
      | .ok _ => ∃ loc' σ' h' tk, s' = { s with heap := h', toks := tk } ∧ Rep κ env loc' σ' h' ∧ P σ'
      | .error _ => False) s

theorem comp_tree {it : Value} {A : Around} {env : Env} {R : Result → Shared → Prop} {s : Shared} {ifs : List Expr} {elt iter : Expr} {scope : Scope} {pos : Pos} {acc : Value}
    (h : wpAny Γ.M A (pyNext it) (fun r s₁ => match r with
      | none => R (.ok .next) s₁
      | some v => wpAny Γ.M A (letOwnedTupleGo target it v) (fun _ s₁ => wpAny Γ.M A (assign target env v) (fun _ s₂ =>
          wpAny Γ.M A (forIn ifs true fun c r => if r = true then do let ok ← isTrue c env (eval c env); pure (ForInStep.yield ok) else pure (ForInStep.yield r)) (fun ok s₃ =>
            if ok = true then wpAny Γ.M A (eval elt env) (fun x s₄ => wpAny Γ.M A (call (.builtin "list.append") [acc, x]) (fun _ s₅ => codeAny Γ.M A (.compLoop (.ListComp elt [⟨target, iter, ifs, 0⟩] scope pos) 0 it acc env) R s₅) No s₄) No s₃
            else codeAny Γ.M A (.compLoop (.ListComp elt [⟨target, iter, ifs, 0⟩] scope pos) 0 it acc env) R s₃) No s₂) No s₁) No s₁) No s) :
    codeAny Γ.M A (.compLoop (.ListComp elt [⟨target, iter, ifs, 0⟩] scope pos) 0 it acc env) R s := by
  refine codeAny_of_tree ?_
  show wpAny _ A ((compTurn (.ListComp elt [⟨target, iter, ifs, 0⟩] scope pos) 0 it acc env).onRaise (fun x => do noteFrame x env; theTreesLotGoes x)) _ _ s
  refine wpAny_noted ?_
  rw [compTurn_list]
  refine wpAny_bind (wpAny_standAt (wpAny_bind (wp_no h fun r s₁ h₁ => ?_)))
  cases r with
  | none => exact wpAny_pure h₁
  | some v =>
    refine wpAny_bind (wp_no h₁ fun _ s₂ h₂ => wpAny_bind (wp_no h₂ fun _ s₃ h₃ => wpAny_bind (wp_no h₃ fun ok s₄ h₄ => ?_)))
    cases ok with
    | false => exact wpAny_pure ⟨rfl, h₄⟩
    | true => exact wpAny_bind (wpAny_bind (wp_no h₄ fun x s₅ h₅ => wpAny_bind (wp_no h₅ fun _ s₆ h₆ => wpAny_pure (wpAny_pure ⟨rfl, h₆⟩))))

theorem cmpI_nil {ifs : List Expr} {elt iter : Expr} {scope : Scope} {pos : Pos} {I : Itr Γ k target} {D : Addr} {P : Sto → Prop} (h : P σ) : CmpI sc ifs elt iter scope pos I D [] loc σ P := fun A κ env s i hA le f hn R hs hcv => by
  refine comp_tree (wp_no (I.done A _ σ s (fun s' => ∃ h' tk, s' = { s with heap := h', toks := tk } ∧ Rep κ env loc σ h') hA (le_shield le hn) R.s (fun a ha => ?_) hs hcv i fun h' tk hk => ?_) fun r s₁ pst0 => ?_)
  · show (if a ∈ I.pv then s.heap.get? a else κ.p a) = s.heap.get? a
    rw [if_pos ha]
  · have U := unshield R hn (fun a ha o e => (Itr.cells i a ha o e).2)
    have tk' : TK (avU κ I.avs) s.heap h' := fun a vs na ⟨n, e⟩ => ⟨n, hk a _ (fun ha => (Itr.cells i a ha _ e).1 (fun hm => na (.inr hm)) rfl) e⟩
    have out : ∀ a, (∃ o, s.heap.get? a = some o ∧ (shield κ I.pv I.avs s.heap (I.lv i) I.sub).p a = none) → a ∉ I.pv := fun a ⟨o, ho, e⟩ ha => by
      have e' : (if a ∈ I.pv then s.heap.get? a else κ.p a) = none := e
      rw [if_pos ha, ho] at e'; cases e'
    have pvc : ∀ b o V, s.heap.get? b = some o → o.data = .cell V → b ∉ I.pv := fun b o V ho hd hb => (Itr.cells i b hb o ho).2 _ hd
    refine ⟨h', tk, rfl, ?_, R.f.turn (κ' := κ) (fun o ho => hk _ o (out _ ⟨o, ho, R.f.Lnew.1⟩) ho) (fun b o V ho hd => hk b o (pvc b o V ho hd) ho) U.f.Lnew.1 (fun b o V ho hd => ?_) (fun _ _ r => (r.mono tk').avoid fun a ha => .inl (.inl ha)) R.s.prot⟩
    · exact {
        prot := fun b o e => hk b o (fun hb => by rw [hn b hb] at e; cases e) (U.s.prot b o e)
        objs := fun p hp => by
          obtain ⟨ob, e, r⟩ := R.s.objs p hp
          exact ⟨ob, hk _ _ (out p.1 ⟨ob, e, R.s.new p hp⟩) e, (r.mono tk').avoid fun a ha => .inl (.inl ha)⟩
        nodup := U.s.nodup
        new := U.s.new }
    · show κ.p b = (if b ∈ I.pv then s.heap.get? b else κ.p b)
      rw [if_neg (pvc b o V ho hd)]
  · obtain ⟨e, h', tk, q, R'⟩ := pst0; subst e; exact ⟨loc, σ, h', tk, q, R', h⟩

theorem cmpI_cons {ifs : List Expr} {elt iter : Expr} {scope : Scope} {pos : Pos} {I : Itr Γ k target} {D : Addr} {P : Sto → Prop} {v : AV} {vs : List AV}
    (h : Asg Γ k sc target v loc σ fun loc₁ σ₁ => TsC Γ k sc ifs loc₁ σ₁ fun b σ₂ => Both b (Ev Γ k sc elt loc₁ σ₂ fun x σ₃ => ∃ xs σ₄, At σ₃ D (.list xs) (.list (xs ++ [x])) σ₄ ∧ xs.length ≤ sizeLine ∧ (∀ p ∈ I.src, p ∈ σ₄) ∧ CmpI sc ifs elt iter scope pos I D vs loc₁ σ₄ P)
      ((∀ p ∈ I.src, p ∈ σ₂) ∧ CmpI sc ifs elt iter scope pos I D vs loc₁ σ₂ P)) : CmpI sc ifs elt iter scope pos I D (v :: vs) loc σ P := fun A κ env s i hA le f hn R hs hcv => by
  refine comp_tree (wp_no (I.next A _ σ s v vs (fun V s₁ => ∃ h' tk, s₁ = { s with heap := h', toks := tk } ∧ TK (avU κ I.avs) s.heap h' ∧ ∃ (i' : I.Inv vs h'), Rep (shield κ I.pv I.avs h' (I.lv i') I.sub) env loc σ h' ∧ VRel (avU κ I.avs) h' v V) hA (le_shield le hn) R.s (fun a ha => ?_) (fun a ha => .inr ha) hs hcv i fun V h' tk hk hl hv i' => ?_) fun r s₁ pst0 => ?_)
  · show (if a ∈ I.pv then s.heap.get? a else κ.p a) = s.heap.get? a
    rw [if_pos ha]
  · obtain ⟨tk', R'⟩ := reshield (l₂ := I.lv i') R hk (Itr.cells i)
    exact ⟨h', tk, rfl, tk', i', R', hv tk'⟩
  · obtain ⟨V, e, q⟩ := pst0
    subst e
    refine wp_no q fun _ s₂ pst0 => ?_
    obtain ⟨h₂, tk₂, e₂, q₂, i₂, R₂, r₂⟩ := pst0
    subst e₂
    refine wpA (h A _ env _ V hA (le_shield le hn) f R₂ r₂) fun l₃ σ₃ h₃ tk₃ q₃ R₃ p₃ => ?_
    -- behind the item: on with the rest
    have go : ∀ (σ₅ : Sto) (h₅ : Heap) (tk₅ : Nat), TK (avU κ I.avs) h₂ h₅ → Rep (shield κ I.pv I.avs h₂ (I.lv i₂) I.sub) env l₃ σ₅ h₅ → (∀ p ∈ I.src, p ∈ σ₅) → CmpI sc ifs elt iter scope pos I D vs l₃ σ₅ P →
        codeAny Γ.M A (.compLoop (.ListComp elt [⟨target, iter, ifs, 0⟩] scope pos) 0 I.IT (.ref D) env) (fun r s' => match r with
          | .ok _ => ∃ loc' σ' h' tk, s' = { s with heap := h', toks := tk } ∧ Rep κ env loc' σ' h' ∧ P σ'
          | .error _ => False) { s with heap := h₅, toks := tk₅ } := fun σ₅ h₅ tk₅ q₅ R₅ hs' again => by
      have i₅ : I.Inv vs h₅ := I.frame vs h₂ h₅ i₂ fun a ha o e => R₅.s.prot a o (by show (if a ∈ I.pv then h₂.get? a else κ.p a) = some o; rw [if_pos ha]; exact e)
      have R₆ : Rep (shield κ I.pv I.avs h₅ (I.lv i₅) I.sub) env l₃ σ₅ h₅ := (reshield (l₂ := I.lv i₅) R₅ (fun _ _ _ e => e) (Itr.cells i₂)).2
      exact codeAny_mono (again A κ env { s with heap := h₅, toks := tk₅ } i₅ hA le f hn R₆ hs' fun p hp => ((hcv p hp).mono q₂).mono q₅) fun r s₅ x => x
    refine wpT (tsC_at p₃ hA (le_shield le hn) f R₃) fun b σ₄ h₄ tk₄ q₄ R₄ p₄ => ?_
    cases b with
    | false => exact go σ₄ h₄ tk₄ (q₃.trans q₄) R₄ (p₄.2 rfl).1 (p₄.2 rfl).2
    | true =>
      simp only [if_true]
      refine wp_no (p₄.1 rfl A _ env _ hA (le_shield le hn) f R₄) fun X s₅ pst0 => ?_
      obtain ⟨x, σ₅, h₅, tk₅, e₅, q₅, R₅, r₅, xs, σ₆, hat, hl, hs', p₅⟩ := pst0
      subst e₅
      refine wpE (Ops.at (cal_append (Γ := Γ) (k := k) (P := fun _ σ' => σ' = σ₆) hat hl rfl) hA (le_shield le hn) R₅ (.cons (.ref D) (.cons r₅ .nil))) fun _ y σ₆' h₆ tk₆ q₆ R₆ _ ey => ?_
      subst ey
      exact go σ₆' h₆ tk₆ (((q₃.trans q₄).trans q₅).trans q₆) R₆ hs' p₅
end
end Mine
namespace Mine
section
variable {Γ : Gd} {k : Nat} {sc : Scope} {loc : Loc} {σ : Sto} {target : Expr}

noncomputable def Cmp (Γ : Gd) (k : Nat) (sc : Scope) (target : Expr) (ifs : List Expr) (elt iter : Expr) (scope : Scope) (pos : Pos) (src : Sto) (D : Addr) (vs : List AV) (loc : Loc) (σ : Sto) (P : Sto → Prop) : Prop :=
  ∀ I : Itr Γ k target, I.src = src → CmpI sc ifs elt iter scope pos I D vs loc σ P
theorem cmp_nil {ifs : List Expr} {elt iter : Expr} {scope : Scope} {pos : Pos} {src : Sto} {D : Addr} {P : Sto → Prop} (h : P σ) : Cmp Γ k sc target ifs elt iter scope pos src D [] loc σ P := fun I _ => cmpI_nil h
theorem cmp_cons {ifs : List Expr} {elt iter : Expr} {scope : Scope} {pos : Pos} {src : Sto} {D : Addr} {P : Sto → Prop} {v : AV} {vs : List AV}
    (h : Asg Γ k sc target v loc σ fun loc₁ σ₁ => TsC Γ k sc ifs loc₁ σ₁ fun b σ₂ => Both b (Ev Γ k sc elt loc₁ σ₂ fun x σ₃ => ∃ xs σ₄, At σ₃ D (.list xs) (.list (xs ++ [x])) σ₄ ∧ xs.length ≤ sizeLine ∧ (∀ p ∈ src, p ∈ σ₄) ∧ Cmp Γ k sc target ifs elt iter scope pos src D vs loc₁ σ₄ P)
      ((∀ p ∈ src, p ∈ σ₂) ∧ Cmp Γ k sc target ifs elt iter scope pos src D vs loc₁ σ₂ P)) : Cmp Γ k sc target ifs elt iter scope pos src D (v :: vs) loc σ P := fun I e => by
  subst e
  refine cmpI_cons fun A κ env s V hA le f R r => wpA (h A κ env s V hA le f R r) fun l σ' h' tk b c d => ⟨l, σ', h', tk, rfl, b, c, ?_⟩
  have tr : ∀ b σ₂, Both b (Ev Γ k sc elt l σ₂ fun x σ₃ => ∃ xs σ₄, At σ₃ D (.list xs) (.list (xs ++ [x])) σ₄ ∧ xs.length ≤ sizeLine ∧ (∀ p ∈ I.src, p ∈ σ₄) ∧ Cmp Γ k sc target ifs elt iter scope pos I.src D vs l σ₄ P) ((∀ p ∈ I.src, p ∈ σ₂) ∧ Cmp Γ k sc target ifs elt iter scope pos I.src D vs l σ₂ P) →
      Both b (Ev Γ k sc elt l σ₂ fun x σ₃ => ∃ xs σ₄, At σ₃ D (.list xs) (.list (xs ++ [x])) σ₄ ∧ xs.length ≤ sizeLine ∧ (∀ p ∈ I.src, p ∈ σ₄) ∧ CmpI sc ifs elt iter scope pos I D vs l σ₄ P) ((∀ p ∈ I.src, p ∈ σ₂) ∧ CmpI sc ifs elt iter scope pos I D vs l σ₂ P) := fun b σ₂ hb =>
    ⟨fun e => ev_mono (hb.1 e) fun x σ₃ ⟨xs, σ₄, a, b, c, d⟩ => ⟨xs, σ₄, a, b, c, d I rfl⟩, fun e => ⟨(hb.2 e).1, (hb.2 e).2 I rfl⟩⟩
  match ifs, d with
  | [], d => exact tr _ _ d
  | [c], d => exact ts_mono d tr

/-- an iterator that stands already, in a frame -/
theorem shield_in {κ : Kap} {pv : List Addr} {h : Heap} {l : ∀ a ∈ pv, h.get? a ≠ none} {sb : ∀ a ∈ ([] : List Addr), a ∈ pv} {env : Env} (R : Rep κ env loc σ h) (hn : ∀ a ∈ pv, κ.p a = none ∧ a ∉ keys σ ∧ a ≠ env.locals) (hc : ∀ a ∈ pv, ∀ o, h.get? a = some o → ∀ V, o.data ≠ .cell V) :
    Rep (shield κ pv [] h l sb) env loc σ h := by
  have va : ∀ a, (shield κ pv [] h l sb).av a → κ.av a ∨ h.get? a = none := fun a ha => .inl (ha.elim id fun h => nomatch h)
  refine ⟨R.s.turn (fun b o e => ?_) (fun a ha => ?_) (fun a ha o e => e) va (.refl _), R.f.turn (fun o ho => ho) (fun b o V ho hd => ho) ?_ (fun b o V ho hd => ?_) (fun _ _ r => r.avoid va) R.s.prot⟩
  · have e' : (if b ∈ pv then h.get? b else κ.p b) = some o := e
    by_cases hb : b ∈ pv
    · rw [if_pos hb] at e'; exact e'
    · rw [if_neg hb] at e'; exact R.s.prot b o e'
  · show (if a ∈ pv then h.get? a else κ.p a) = none
    rw [if_neg (fun hp => (hn a hp).2.1 ha)]
    obtain ⟨p, hp, rfl⟩ := List.mem_map.mp ha; exact R.s.new p hp
  · show (if env.locals ∈ pv then h.get? env.locals else κ.p env.locals) = none
    rw [if_neg (fun hp => (hn _ hp).2.2 rfl)]; exact R.f.Lnew.1
  · show (if b ∈ pv then h.get? b else κ.p b) = κ.p b
    rw [if_neg (fun hb => hc b hb o ho V hd)]

theorem Rep.extC {κ : Kap} {env : Env} {h h' : Heap} {C : Addr} (R : Rep κ env loc σ h) (hn : ∃ m, h.Ns C m) (hκ : κ.p C = none) (hσ : C ∉ keys σ) (hL : C ≠ env.locals) (hs : Heap.SameBut C h h') : TK κ.av h h' ∧ Rep κ env loc σ h' := by
  obtain ⟨m, o, es, ep, ho, hd, hr⟩ := hn
  have tk : TK κ.av h h' := .of_ext_seq ho (fun xs n e => by rw [hd] at e; cases e) hs.extBut
  refine ⟨tk, R.s.ext hκ hσ hs.extBut tk, ?_⟩
  exact {
    ns := by
      obtain ⟨m, ⟨o, es, ep, ho, r⟩, hm⟩ := R.f.ns
      exact ⟨m, ⟨o, es, ep, hs.extBut _ _ (Ne.symm hL) ho, r⟩, fun x v hx hk => let ⟨V, e, r⟩ := hm x v hx hk; ⟨V, e, r.mono tk⟩⟩
    cell := fun x hx => by
      obtain ⟨c, V, hc, ⟨oc, hoc, hdc⟩, hv⟩ := R.f.cell x hx
      refine ⟨c, V, hc, ⟨oc, hs.extBut _ _ (fun e => ?_) hoc, hdc⟩, fun v h => let ⟨V', e, r⟩ := hv v h; ⟨V', e, r.mono tk⟩⟩
      rw [e, ho] at hoc; cases hoc; rw [hd] at hdc; cases hdc
    free := fun x v hx hk => let ⟨c, o, V, a, b, d, e⟩ := R.f.free x v hx hk; ⟨c, o, V, a, b, d, e.mono tk⟩
    apart := R.f.apart
    Lnew := R.f.Lnew
    cnew := R.f.cnew }
theorem comp_core {use : Option (Value → Sem Unit)} {Q : Value → Shared → Prop} {ip : Pos} {elt iter : Expr} {ifs : List Expr} {scope : Scope} {pos : Pos} {P : AV → Sto → Prop}
    (hcell : ∀ y ∈ scope.names, y.2 ≠ .cell) (hkind : scope.kind = .function) (hnames : ∀ x ∈ scope.names, x.2 = .local → scope.names.lookup x.1 = some .local)
    (hfr : ∀ x ∈ scope.names, x.2 = .free → sc.names.lookup x.1 = some .cell) (h0 : (relS scope sc).names.lookup (Str.ofString ".0") ≠ none)
    (h : Ev Γ k sc iter loc σ fun v σ₁ => ∃ src vs, Mk Γ k target v σ₁ src vs ∧ (∀ p ∈ src, p ∈ σ₁) ∧ ∀ D, Cmp Γ k (relS scope sc) target ifs elt iter scope pos src D vs (cloc (relS scope sc) loc) ((D, .list []) :: σ₁) fun σ₂ => P (.ref D) σ₂)
    (hs : ∀ env x, foldedSetIterable iter env x = pure x) {A : Around} {κ : Kap} {env : Env} {s : Shared} (hA : AOk k A) (le : Γ.le κ) (f : Fits sc env) (R : Rep κ env loc σ s.heap)
    (post : ∀ D C σ' h' tk fl, TK κ.av s.heap h' → Rep κ env loc σ' h' → (∃ m, h'.Ns C m) → κ.p C = none → C ∉ keys σ' → C ≠ env.locals → P (.ref D) σ' → compPost Γ.M A No use Q (.ref D) C (.ok fl) { s with heap := h', toks := tk }) :
    wpAny Γ.M A (comprehension (.ListComp elt [⟨target, iter, ifs, 0⟩] scope pos) scope env ip (newList []) false (eval iter env) use) Q No s := by
  have hcl : ∀ x, (x, NameKind.free) ∈ scope.names → ∃ c, env.cells.lookup x = some c := fun x hx => by
    have := hfr _ hx rfl
    obtain ⟨c, _, hc, _⟩ := R.f.cell x (by rw [f.kindOf]; exact this)
    exact ⟨c, hc⟩
  refine wpAny_comprehension_free (g := ⟨target, iter, ifs, 0⟩) (gs := []) (use := use) rfl (hs env) (closureFor_of hcl) hkind hnames ?_
  refine wp_no (h A κ env s hA le f R) fun V s₁ pst => ?_
  obtain ⟨v, σ₁, h₁, tk₁, e₁, q₁, R₁, r₁, src, vs, mk, hsr, p⟩ := pst
  subst e₁
  refine wp_no (mk A κ _ V hA le R₁.s r₁) fun it s₂ pst0 => ?_
  obtain ⟨I, h₂, tk₂, e₂, es, ea, ei, i, hk, hn, hcv⟩ := pst0
  subst e₂; subst ei; subst es
  refine wpAny_newObj_type (wpAny_newFunctionEnv hcell (fun y hy => nomatch hy) (fun h₃ hns hsb => ?_) hkind)
  dsimp only at hns hsb ⊢
  generalize hH2 : h₂.push { cls := .type "list", dict := none, data := .seq ([] : List Value).toArray } = H2 at hns hsb ⊢
  have hC : H2.objs.size = h₂.objs.size + 1 := by rw [← hH2, Heap.size_push]
  have up3 : ∀ b o, h₂.get? b = some o → h₃.get? b = some o := fun b o e => hsb.extBut b o (by rw [hC]; exact Nat.ne_of_lt (Nat.lt_succ_of_lt (Heap.lt_size e))) (Heap.get?_push_of_some _ (hH2 ▸ Heap.get?_push_of_some _ e))
  have up1 : ∀ b o, h₁.get? b = some o → h₃.get? b = some o := fun b o e => up3 b o (hk b o e)
  have hD : h₃.get? h₂.objs.size = some { cls := .type "list", dict := none, data := .seq ([] : List Value).toArray } := hsb.extBut _ _ (by rw [hC]; exact Nat.ne_of_lt (Nat.lt_succ_self _)) (Heap.get?_push_of_some _ (hH2 ▸ Heap.get?_push_size _ rfl))
  have new1 : ∀ a, h₂.objs.size ≤ a → h₁.get? a = none := fun a ha => by
    cases e : h₁.get? a with
    | none => rfl
    | some o => exact absurd (Heap.lt_size (hk a o e)) (Nat.not_lt.mpr ha)
  have lt2 : ∀ a ∈ I.pv, a < h₂.objs.size := fun a ha => by
    obtain ⟨o, ho, _⟩ := I.live vs h₂ i a ha
    exact Heap.lt_size ho
  -- the comprehension's frame
  have RS : RepS (mx R₁.s) ((h₂.objs.size, .list []) :: σ₁) h₃ := R₁.s.mx.add (new1 _ (Nat.le_refl _)) up1 hD (o := .list []) ⟨[], 0, rfl, .nil⟩
  have pn : ∀ a, h₁.get? a = none → (mx R₁.s).p a = none := fun a e => by
    show mxp σ₁ h₁ a = none
    unfold mxp; split
    · rfl
    · exact e
  have fit : Fits (relS scope sc) (compEnvC scope (clos env scope.names []) H2.objs.size env) := ⟨relabel_eq f, hkind, f.glob, f.blt, fun e => absurd e h0⟩
  have hcells : ∀ x, (relS scope sc).names.lookup x = some .cell → ∃ c V, (clos env scope.names []).lookup x = some c ∧ env.kindOf x = some .cell ∧ env.cells.lookup x = some c ∧ h₁.IsCell c V ∧ ∀ v, loc.lookup x = some v → ∃ V', V = some V' ∧ VRel κ.av h₁ v V' := fun x hx => by
    obtain ⟨hm, hsc⟩ := relS_cell hcell hx
    have hkx : env.kindOf x = some .cell := by rw [f.kindOf]; exact hsc
    obtain ⟨c, V, hc, hi, hv⟩ := R₁.f.cell x hkx
    exact ⟨c, V, clos_acc env x _ _ c hc (.inl hm) (fun d hd => by simp at hd), hkx, hc, hi, hv⟩
  have F : FRel (mx R₁.s) (compEnvC scope (clos env scope.names []) H2.objs.size env) (cloc (relS scope sc) loc) ((h₂.objs.size, .list []) :: σ₁) h₃ := {
    ns := ⟨_, hns, fun x w hx hkx => by
      have := (lookup_cloc hx).1
      rw [fit.kindOf, this] at hkx; cases hkx⟩
    cell := fun x hx => by
      rw [fit.kindOf] at hx
      obtain ⟨c, W, hc, _, _, ⟨o, ho, hd⟩, hv⟩ := hcells x hx
      refine ⟨c, W, hc, ⟨o, up1 _ _ ho, hd⟩, fun w hw => ?_⟩
      obtain ⟨V', a, b⟩ := hv w (lookup_cloc hw).2
      exact ⟨V', a, b.mono (.of_keeps up1)⟩
    free := fun x w hx hkx => by
      have := (lookup_cloc hx).1
      rw [fit.kindOf, this] at hkx; cases hkx
    apart := fun x y c hx hy hcx hcy => by
      rw [fit.kindOf] at hx hy
      obtain ⟨c1, _, h1, k1, l1, _⟩ := hcells x hx
      obtain ⟨c2, _, h2, k2, l2, _⟩ := hcells y hy
      have e1 : c1 = c := by
        have : (clos env scope.names []).lookup x = some c := hcx
        rw [h1] at this; cases this; rfl
      have e2 : c2 = c := by
        have : (clos env scope.names []).lookup y = some c := hcy
        rw [h2] at this; cases this; rfl
      exact R₁.f.apart x y c k1 k2 (e1 ▸ l1) (e2 ▸ l2)
    Lnew := ⟨pn _ (new1 _ (by show h₂.objs.size ≤ H2.objs.size; omega)), fun hm => by
      have hm' : H2.objs.size ∈ h₂.objs.size :: keys σ₁ := hm
      rcases List.mem_cons.mp hm' with e | e
      · omega
      · obtain ⟨o, ho, _⟩ := R₁.s.live e
        rw [new1 _ (by omega)] at ho; cases ho⟩
    cnew := fun x c hx hcx => by
      rw [fit.kindOf] at hx
      obtain ⟨c1, V, h1, k1, l1, ⟨o, ho, hd⟩, _⟩ := hcells x hx
      have e1 : c1 = c := by
        have : (clos env scope.names []).lookup x = some c := hcx
        rw [h1] at this; cases this; rfl
      subst e1
      refine ⟨fun hm => ?_, (fun e => by cases e), fun o' e' => ?_⟩
      · have hm' : c1 ∈ h₂.objs.size :: keys σ₁ := hm
        rcases List.mem_cons.mp hm' with e | e
        · rw [e, new1 _ (Nat.le_refl _)] at ho; cases ho
        · exact (R₁.f.cnew x c1 k1 l1).1 e
      · have := (of_mx e').2
        rw [ho] at this; cases this
        exact ⟨V, hd⟩ }
  have i₃ : I.Inv vs h₃ := I.frame vs h₂ h₃ i fun a ha o e => up3 a o e
  have hpv : ∀ a ∈ I.pv, (mx R₁.s).p a = none := fun a ha => pn a (hn a ha)
  have fin : codeAny Γ.M A (.compLoop (.ListComp elt [⟨target, iter, ifs, 0⟩] scope pos) 0 I.IT (.ref h₂.objs.size) (compEnvC scope (clos env scope.names []) H2.objs.size env)) (compPost Γ.M A No use Q (.ref h₂.objs.size) H2.objs.size) { s with heap := h₃, toks := tk₂ + ([] : List (Str × Value)).length } := by
    obtain ⟨IT, pv, avs, src, cv, Inv, sub, live, frame, self, next, done⟩ := I
    cases ea
    have RR : Rep (shield (mx R₁.s) pv [] h₃ (Itr.lv ⟨IT, pv, [], src, cv, Inv, sub, live, frame, self, next, done⟩ i₃) sub) _ _ _ h₃ := shield_in ⟨RS, F⟩ (fun a ha => ⟨hpv a ha, fun hm => ?_, fun e => ?_⟩) (fun a ha o e V => ?_)
    · refine codeAny_mono (p h₂.objs.size ⟨IT, pv, [], src, cv, Inv, sub, live, frame, self, next, done⟩ rfl A (mx R₁.s) _ _ i₃ hA (Gd.le_mx R₁.s le) fit hpv RR (fun p hp => .tail _ (hsr p hp)) (fun p hp => ?_)) fun r s₅ x => ?_
      · exact ((hcv p hp).avoid fun a ha => .inl (ha.elim id fun h => nomatch h)).mono (.of_keeps up1)
      · cases r with
        | error _ => exact x.elim
        | ok fl =>
          obtain ⟨loc', σ', h', tk, e, R', pp⟩ := x
          subst e
          obtain ⟨m, hm, _⟩ := R'.f.ns
          obtain ⟨q6, R7⟩ := frame_step R₁ R'.s
          have hC0 : h₁.get? H2.objs.size = none := new1 _ (by omega)
          refine post h₂.objs.size H2.objs.size σ' h' tk fl (q₁.trans q6) R7 ⟨m, hm⟩ ?_ R'.f.Lnew.2 ?_ pp
          · cases e : κ.p H2.objs.size with
            | none => rfl
            | some o => rw [R₁.s.prot _ _ e] at hC0; cases hC0
          · intro e
            obtain ⟨m, ⟨o, es, ep, ho, _⟩, _⟩ := R₁.f.ns
            rw [← e, hC0] at ho; cases ho
    · have hm' : a ∈ h₂.objs.size :: keys σ₁ := hm
      rcases List.mem_cons.mp hm' with e | e
      · have := lt2 a ha; rw [e] at this; exact absurd this (Nat.lt_irrefl _)
      · obtain ⟨o, ho, _⟩ := R₁.s.live e
        rw [hn a ha] at ho; cases ho
    · have := lt2 a ha
      have e' : a = H2.objs.size := e
      rw [e', hC] at this
      exact absurd (Nat.lt_of_succ_lt this) (Nat.lt_irrefl _)
    · exact (Itr.cells (I := ⟨IT, pv, [], src, cv, Inv, sub, live, frame, self, next, done⟩) i₃ a ha o e).2 V
  exact codeAny_compStart_list fin (wp_no (I.self A vs _ _ i₃ fin) fun _ _ x => x)
theorem ev_listcomp {elt iter : Expr} {ifs : List Expr} {scope : Scope} {pos : Pos} {P : AV → Sto → Prop}
    (hcell : ∀ y ∈ scope.names, y.2 ≠ .cell) (hkind : scope.kind = .function) (hnames : ∀ x ∈ scope.names, x.2 = .local → scope.names.lookup x.1 = some .local)
    (hfr : ∀ x ∈ scope.names, x.2 = .free → sc.names.lookup x.1 = some .cell) (h0 : (relS scope sc).names.lookup (Str.ofString ".0") ≠ none)
    (h : Ev Γ k sc iter loc σ fun v σ₁ => ∃ src vs, Mk Γ k target v σ₁ src vs ∧ (∀ p ∈ src, p ∈ σ₁) ∧ ∀ D, Cmp Γ k (relS scope sc) target ifs elt iter scope pos src D vs (cloc (relS scope sc) loc) ((D, .list []) :: σ₁) fun σ₂ => P (.ref D) σ₂)
    (hs : ∀ env x, foldedSetIterable iter env x = pure x) : Ev Γ k sc (.ListComp elt [⟨target, iter, ifs, 0⟩] scope pos) loc σ P := fun A κ env s hA le f R => by
  rw [eval_ListComp]
  exact comp_core (use := none) hcell hkind hnames hfr h0 h hs hA le f R fun D C σ' h' tk fl q R' hn hκ hσ hL p =>
    let ⟨m, hm⟩ := hn
    ⟨m, hm, fun h₆ hs₆ => let ⟨q6, R6⟩ := R'.extC hn hκ hσ hL hs₆; ⟨_, σ', h₆, tk, rfl, q.trans q6, R6, .ref _, p⟩⟩
/-- name = a comprehension: stored inside -/
theorem ex_assign_comp {x : Str} {xp apos : Pos} {elt iter : Expr} {ifs : List Expr} {scope : Scope} {pos : Pos} {P : AFl → Loc → Sto → Prop}
    (hcell : ∀ y ∈ scope.names, y.2 ≠ .cell) (hkind : scope.kind = .function) (hnames : ∀ x ∈ scope.names, x.2 = .local → scope.names.lookup x.1 = some .local)
    (hfr : ∀ x ∈ scope.names, x.2 = .free → sc.names.lookup x.1 = some .cell) (h0 : (relS scope sc).names.lookup (Str.ofString ".0") ≠ none)
    (h : Ev Γ k sc iter loc σ fun v σ₁ => ∃ src vs, Mk Γ k target v σ₁ src vs ∧ (∀ p ∈ src, p ∈ σ₁) ∧ ∀ D, Cmp Γ k (relS scope sc) target ifs elt iter scope pos src D vs (cloc (relS scope sc) loc) ((D, .list []) :: σ₁) fun σ₂ => P .next (lset loc x (.ref D)) σ₂)
    (hs : ∀ env x, foldedSetIterable iter env x = pure x)
    (hx : sc.names.lookup x = some .local) (hsw : ∀ env, Fits sc env → swapsWith (.ListComp elt [⟨target, iter, ifs, 0⟩] scope pos) (some (.Name x xp)) apos.line env = pure true) :
    Ex Γ k sc (.Assign [.Name x xp] (.ListComp elt [⟨target, iter, ifs, 0⟩] scope pos) apos) loc σ P := fun A κ env s hA le f R => by
  rw [exec_Assign_Name_used _ _ _ _ (hsw env f)]
  refine wpAny_bind (wpAny_standAt (wpAny_bind ?_))
  show wpAny _ A (do let _ ← comprehension (.ListComp elt [⟨target, iter, ifs, 0⟩] scope pos) scope env _ (newList []) false (eval iter env) (some (assign (.Name x xp) env))) _ _ s
  refine wpAny_bind (wp_no (comp_core (P := fun v σ₂ => ∃ D, v = .ref D ∧ P .next (lset loc x (.ref D)) σ₂) (use := some (assign (.Name x xp) env)) (Q := fun _ s' => PstX κ env s P .next s') hcell hkind hnames hfr h0 (ev_mono h fun v σ₁ ⟨src, vs, a, b, c⟩ => ⟨src, vs, a, b, fun D I e A κ env s i hA le f hn R hs hcv => codeAny_mono (c D I e A κ env s i hA le f hn R hs hcv) fun r s' z => match r, z with
      | .ok _, ⟨l, σ', h', tk, e, R, p⟩ => ⟨l, σ', h', tk, e, R, D, rfl, p⟩⟩) hs hA le f R fun D C σ' h' tk fl q R' hn hκ hσ hL p => ?_) fun _ s' hq => wpAny_pure (wpAny_pure hq))
  obtain ⟨D', eD, p⟩ := p
  cases eD
  have hl : env.kindOf x = some .local := by rw [f.kindOf]; exact hx
  obtain ⟨mL, hnL, hmL⟩ := R'.f.ns
  show wpAny _ A (assign (.Name x xp) env (.ref D)) _ _ _
  refine wpAny_assign_Name (wpAny_storeName_local hl hnL (fun h₅ hn₅ hs₅ => ?_) f.hp)
  obtain ⟨q5, R5⟩ := R'.set_local hnL hmL hl hn₅ hs₅ (.ref D)
  obtain ⟨m, hm⟩ := hn
  have hm5 : h₅.Ns C m := hm.sameBut hs₅ hL
  refine ⟨m, hm5, fun h₆ hs₆ => ?_⟩
  obtain ⟨q6, R6⟩ := R5.extC ⟨m, hm5⟩ hκ hσ hL hs₆
  exact ⟨.next, _, σ', h₆, _, rfl, (q.trans q5).trans q6, R6, .next, p⟩
end
end Mine
namespace Mine

/-! dicts whose keys are texts -/
theorem EnRel.find {av : Avd} {h : Heap} {es : List (Str × AV)} {l : List DictEntry} (r : EnRel av h es l) (x : Str) :
    (es.lookup x = none ∧ l.find? (·.key.isStr x) = none) ∨ ∃ v e, es.lookup x = some v ∧ l.find? (·.key.isStr x) = some e ∧ VRel av h v e.val := by
  induction r with
  | nil => exact .inl ⟨rfl, rfl⟩
  | @cons y v e es l hk hv _ ih =>
    obtain ⟨t, hk⟩ := hk
    rw [List.lookup_cons, List.find?_cons]
    have hb : e.key.isStr x = (x == y) := by
      rw [hk]
      show (y == x) = (x == y)
      by_cases q : x = y
      · subst q; rfl
      · rw [beq_eq_false_iff_ne.mpr q, beq_eq_false_iff_ne.mpr fun q' => q q'.symm]
    rw [hb]
    cases x == y with
    | true => exact .inr ⟨v, e, rfl, rfl, hv⟩
    | false => exact ih
theorem EnRel.noref {av : Avd} {h : Heap} {es : List (Str × AV)} {l : List DictEntry} (r : EnRel av h es l) : l.any (·.refKey) = false := by
  induction r with
  | nil => rfl
  | cons hk hv _ ih => obtain ⟨t, hk⟩ := hk; rw [List.any_cons, ih]; simp [DictEntry.refKey, hk]
theorem EnRel.length {av : Avd} {h : Heap} {es : List (Str × AV)} {l : List DictEntry} (r : EnRel av h es l) : l.length = es.length := by
  induction r with
  | nil => rfl
  | cons hk hv _ ih => simp [ih]
theorem EnRel.look {av : Avd} {h : Heap} {es : List (Str × AV)} {l : List DictEntry} (r : EnRel av h es l) {n : Nat} (x : Str) {c : Value} :
    (es.lookup x = none ∧ lookIn x { cls := c, data := .dict l.toArray n } = some none) ∨ ∃ v V, es.lookup x = some v ∧ lookIn x { cls := c, data := .dict l.toArray n } = some (some V) ∧ VRel av h v V := by
  unfold lookIn
  dsimp only
  rcases r.find x with ⟨a, b⟩ | ⟨v, e, a, b, d⟩
  · refine .inl ⟨a, ?_⟩
    rw [b]; simp only; rw [r.noref]; rfl
  · exact .inr ⟨v, e.val, a, by rw [b], d⟩
/-- an entry set -/
theorem EnRel.put {av : Avd} {h : Heap} {es : List (Str × AV)} {l : List DictEntry} (r : EnRel av h es l) (x : Str) {v : AV} {V : Value} (hv : VRel av h v V) (hash : Int) (t : Tok) {n : Nat} {c : Value} :
    ∃ l' n', Obj.putName x hash (.str x t) V { cls := c, data := .dict l.toArray n } = { cls := c, data := .dict l'.toArray n' } ∧ EnRel av h (lset es x v) l' := by
  rw [Obj.putName_eq]
  unfold Obj.putNameByArray
  dsimp only
  have key : (l.findIdx? (·.key.isStr x) = none ∧ EnRel av h (lset es x v) (l ++ [⟨hash, .str x t, V⟩])) ∨ ∃ i, l.findIdx? (·.key.isStr x) = some i ∧ EnRel av h (lset es x v) (l.modify i fun e => { e with val := V }) := by
    induction r with
    | nil => exact .inl ⟨rfl, .cons ⟨t, rfl⟩ hv .nil⟩
    | @cons y w e es l hk hw hr ih =>
      obtain ⟨t', hk⟩ := hk
      have hb : e.key.isStr x = (x == y) := by
        rw [hk]
        show (y == x) = (x == y)
        by_cases q : x = y
        · subst q; rfl
        · rw [beq_eq_false_iff_ne.mpr q, beq_eq_false_iff_ne.mpr fun q' => q q'.symm]
      unfold lset
      rw [List.findIdx?_cons, hb]
      cases q : x == y with
      | true => exact .inr ⟨0, rfl, .cons ⟨t', hk⟩ hv hr⟩
      | false =>
        rcases ih with ⟨a, b⟩ | ⟨i, a, b⟩
        · refine .inl ⟨by rw [a]; rfl, .cons ⟨t', hk⟩ hw b⟩
        · refine .inr ⟨i + 1, by rw [a]; rfl, ?_⟩
          rw [List.modify_succ_cons]
          exact .cons ⟨t', hk⟩ hw b
  rcases key with ⟨a, b⟩ | ⟨i, a, b⟩
  · refine ⟨_, n + 1, ?_, b⟩
    rw [List.findIdx?_toArray, a]
    simp
  · refine ⟨_, n, ?_, b⟩
    rw [List.findIdx?_toArray, a]
    simp

theorem lset_length : ∀ (es : List (Str × AV)) (x : Str) (v : AV), (lset es x v).length ≤ es.length + 1
  | [], _, _ => Nat.le_refl _
  | (y, w) :: r, x, v => by
    unfold lset
    split
    · simp
    · have := lset_length r x v; simp only [List.length_cons]; omega
/-- what is asked of a class -/
structure ClsOk (K : Frag) (C : Addr) : Prop where
  ga : findIn K (.ref C) "__getattribute__" = some (some (.builtin "object.__getattribute__"))
  sa : findIn K (.ref C) "__setattr__" = some (some (.builtin "object.__setattr__"))
  gat : findIn K (.ref C) "__getattr__" = some none
  over : plainOver K C = true
  hd : (clsIn K C).any (·.hasDict) = true
  makes : makesIn K C = true

section
variable {Γ : Gd} {k : Nat} {sc : Scope} {loc : Loc} {σ : Sto} {K : Frag} {C x d : Addr} {es : List (Str × AV)} {κ : Kap} {h : Heap}
theorem RepS.inst (R : RepS κ σ h) (hi : (x, .inst C d) ∈ σ) : h.get? x = some { cls := .ref C, dict := some d } := by
  obtain ⟨ob, e, r⟩ := R.objs _ hi
  cases r; exact e
theorem RepS.ns (R : RepS κ σ h) (hn : (d, .ns es) ∈ σ) : ∃ l n, h.get? d = some { cls := .type "dict", data := .dict l.toArray n } ∧ EnRel κ.av h es l := by
  obtain ⟨ob, e, l, n, rfl, r⟩ := R.objs _ hn
  exact ⟨l, n, e, r⟩
theorem RepS.instAt (R : RepS κ σ h) (hi : (x, .inst C d) ∈ σ) {od : Obj} (hd : h.get? d = some od) : InstAt h x { cls := .ref C, dict := some d } C (some od) := ⟨R.inst hi, rfl, rfl, hd⟩

/-- an attribute of an object, its own -/
theorem findObj_own (O : ClsOk K C) {od : Obj} {name : Str} {V : Value} (hf : findIn K (.ref C) name = some none) (hl : lookIn name od = some (some V)) : findObj K C (some od) name = some (.value V) := by
  obtain ⟨cd, hc, hd⟩ := any_some O.hd
  have e1 : W.ownOf cd (some od) name = some (some V) := by
    unfold W.ownOf
    rw [if_pos hd]
    exact hl
  unfold findObj
  simp only [hc, Option.bind_some, hf, e1]

/-- an attribute read -/
noncomputable def At1 (Γ : Gd) (k : Nat) (name : Str) (ov : AV) (σ : Sto) (P : AV → Sto → Prop) : Prop := Op1 Γ k (fun O => getAttr O name true) ov σ P
theorem at_own (X : K.In Γ.hB) (O : ClsOk K C) {name : Str} (hi : (x, .inst C d) ∈ σ) (hn : (d, .ns es) ∈ σ) (hf : findIn K (.ref C) name = some none) {v : AV} (hv : es.lookup name = some v) (hr : ∀ w, v ≠ .raw w) {P : AV → Sto → Prop} (p : P v σ) : At1 Γ k name (.ref x) σ P := fun A κ s V hA l R r => by
  cases r
  obtain ⟨en, n, ed, er⟩ := R.ns hn
  rcases er.look name (n := n) (c := .type "dict") with ⟨a, _⟩ | ⟨v', V, a, b, c⟩
  · rw [hv] at a; cases a
  · rw [hv] at a; cases a
    refine get_value (X.keeps (l.up R)) (R.instAt hi ed) O.ga (findObj_own O hf b) ?_ ⟨v, σ, s.heap, _, rfl, R, c, p⟩
    cases c <;> first | rfl | exact absurd rfl (hr _)
theorem ev_attr {o : Expr} {name : Str} {pos : Pos} {P : AV → Sto → Prop} (h : Ev Γ k sc o loc σ fun ov σ₁ => At1 Γ k name ov σ₁ P) (hb : ∀ env, attributeBase o name env (eval o env) = eval o env) : Ev Γ k sc (.Attribute o name pos) loc σ P := fun A κ env s hA l f R => by
  rw [arm_eval_Attribute, hb]
  refine wpAny_bind (wpE (h A κ env s hA l f R) fun V v σ₁ h₁ tk₁ q R₁ r p => ?_)
  refine wpAny_bind (wpAny_standAt (wpAny_bind (wpAny_holding (wp_no (Op1.at p hA l R₁ r) fun W s₂ p₂ => ?_))))
  exact wpAny_bind (wpAny_letTemporaryGo (wpAny_pure (p₂.trans q)))

/-- an attribute set -/
noncomputable def St1 (Γ : Gd) (k : Nat) (name : Str) (ov v : AV) (σ : Sto) (P : Sto → Prop) : Prop :=
  ∀ A κ s O V, AOk k A → Γ.le κ → RepS κ σ s.heap → VRel κ.av s.heap ov O → VRel κ.av s.heap v V → wpAny Γ.M A (setAttr O name V) (fun _ s' => ∃ σ' h' tk, s' = { s with heap := h', toks := tk } ∧ RepS κ σ' h' ∧ P σ') No s
/-- a text key stored in an object's dict -/
theorem store_dict {A : Around} {s : Shared} {σ' : Sto} {name : Str} {v : AV} {V : Value} {tk : Tok} {Q : Fin → Shared → Prop} {E : Value → Shared → Prop} (R : RepS κ σ s.heap) (at' : At σ d (.ns es) (.ns (lset es name v)) σ') (hz : es.length < 1000) (hv : VRel κ.av s.heap v V)
    (q : ∀ h' tk', RepS κ σ' h' → Q (.done (.ret .none)) { s with heap := h', toks := tk' }) : wpAny Γ.M A (Builtin.ObjectAttr.storeInDict d (.str name tk) name V) Q E s := by
  obtain ⟨en, n, ed, er⟩ := R.ns at'.mem
  refine wpAny_bind (wpAny_pure (wpAny_bind ?_))
  unfold nsSet
  refine wpAny_bind (wpAny_bind (wpAny_askSetting (wpAny_pure (wpAny_bind (wpAny_mkText (wpAny_bind (wpAny_loadPart ed ?_)))))))
  dsimp only
  have c : (!en.toArray.any (·.key.isStr name) && en.toArray.any (·.refKey)) = false := by
    rw [← Array.any_toList (p := fun x : DictEntry => x.refKey), er.noref, Bool.and_false]
  rw [aRefKeyMayBeTheName_at, c]
  refine wpAny_updatePart ed ?_
  have go : ∀ hsh, Q (.done (.ret .none)) { s with heap := s.heap.update d (Obj.putName name hsh (.str name s.toks) V), toks := s.toks + 1 } ∧ ∃ o, (s.heap.update d (Obj.putName name hsh (.str name s.toks) V)).get? d = some o ∧ o.data.pastItsLine = none := fun hsh => by
    obtain ⟨l', n', ep, er'⟩ := er.put name hv hsh s.toks (n := n) (c := .type "dict")
    have hs : Heap.SameBut d s.heap (s.heap.update d (Obj.putName name hsh (.str name s.toks) V)) := Heap.SameBut.update ..
    have tk := R.tk_upd at'.mem hs.extBut
    have hg : (s.heap.update d (Obj.putName name hsh (.str name s.toks) V)).get? d = some { cls := .type "dict", data := .dict l'.toArray n' } := by
      rw [Heap.get?_update_self _ ed (by rw [ep]; rfl), ep]
    refine ⟨q _ _ (R.upd at' hs.extBut hg ⟨l', n', rfl, er'.mono tk⟩), _, hg, pastItsLine_dict ?_⟩
    have := er'.length
    have hl : (lset es name v).length ≤ es.length + 1 := lset_length es name v
    rw [List.size_toArray, this, sizeLine_eq]; omega
  obtain ⟨g1, o, g2, g3⟩ := go _
  exact wpAny_bind (wpAny_lookBehind g2 g3 (wpAny_pure g1))

theorem st_own (X : K.In Γ.hB) (O : ClsOk K C) {name : Str} {σ' : Sto} {v : AV} (hi : (x, .inst C d) ∈ σ) (at' : At σ d (.ns es) (.ns (lset es name v)) σ') (hz : es.length < 1000) (ht : takerIn K C name = some none) {P : Sto → Prop} (p : P σ') : St1 Γ k name (.ref x) v σ P := fun A κ s V W hA l R r rv => by
  cases r
  obtain ⟨en, n, ed, er⟩ := R.ns at'.mem
  have Xs := X.keeps (l.up R)
  have I := R.instAt hi ed
  obtain ⟨cd, hc, hd'⟩ := any_some O.hd
  refine set_plain Xs I O.sa (osa_open Xs I O.over ht fun b => ?_)
  refine wpAny_bind (wpAny_pure (wpAny_bind (wpAny_bind (wpAny_loadPart (R.inst hi) (wpAny_bind ((looks_clsIn Xs hc).here (s := { s with toks := s.toks + 1 }) ?_))))))
  rw [hd']
  refine wpAny_pure (a := some d) (store_dict (s := { s with toks := s.toks + 1 }) R at' hz rv fun h' tk' R' => ⟨σ', h', tk', rfl, R', p⟩)

theorem St1.at {name : Str} {ov v : AV} {P : Sto → Prop} (o : St1 Γ k name ov v σ P) {A : Around} {κ : Kap} {env : Env} {s : Shared} {O V : Value} (hA : AOk k A) (l : Γ.le κ) (R : Rep κ env loc σ s.heap) (ho : VRel κ.av s.heap ov O) (hv : VRel κ.av s.heap v V) :
    wpAny Γ.M A (setAttr O name V) (fun _ s' => ∃ σ' h' tk, s' = { s with heap := h', toks := tk } ∧ TK κ.av s.heap h' ∧ Rep κ env loc σ' h' ∧ P σ') No s :=
  wpU (o A (mx R.s) s O V hA (Gd.le_mx R.s l) R.s.mx ho hv) fun σ' h' tk R' p =>
    let ⟨q, R''⟩ := frame_step R R'; ⟨σ', h', tk, rfl, q, R'', p⟩
theorem wpV {M : Model} {A : Around} {env : Env} {s : Shared} {E : Value → Shared → Prop} {t : Sem Unit} {P : Sto → Prop} {Q : Unit → Shared → Prop} (h : wpAny M A t (fun _ s' => ∃ σ' h' tk, s' = { s with heap := h', toks := tk } ∧ TK κ.av s.heap h' ∧ Rep κ env loc σ' h' ∧ P σ') No s)
    (q : ∀ σ' h' tk, TK κ.av s.heap h' → Rep κ env loc σ' h' → P σ' → Q () { s with heap := h', toks := tk }) : wpAny M A t Q E s :=
  wp_no h fun _ s' pst => pst.elim fun σ' p => p.elim fun h' p => p.elim fun tk p => p.1 ▸ q σ' h' tk p.2.1 p.2.2.1 p.2.2.2
theorem asg_attr {o : Expr} {name : Str} {pos : Pos} {v : AV} {P : Loc → Sto → Prop} (h : Ev Γ k sc o loc σ fun ov σ₁ => St1 Γ k name ov v σ₁ (P loc)) : Asg Γ k sc (.Attribute o name pos) v loc σ P := fun A κ env s V hA l f R r => by
  rw [assign_Attribute]
  refine wpAny_bind (wpAny_holding (wpE (h A κ env s hA l f R) fun W w σ₁ h₁ tk₁ q R₁ r₁ p => ?_))
  refine wpAny_bind (wpAny_standAt (wpAny_bind (wpAny_holding (wpV (p.at hA l R₁ r₁ (r.mono q)) fun σ₂ h₂ tk₂ q₂ R₂ p₂ => ?_))))
  exact wpAny_release ⟨loc, σ₂, h₂, tk₂, rfl, q.trans q₂, R₂, p₂⟩
theorem ex_aug_attr {o value : Expr} {name : Str} {op : Operator} {tpos pos : Pos} {P : AFl → Loc → Sto → Prop} (h : Ev Γ k sc o loc σ fun ov σ₁ => At1 Γ k name ov σ₁ fun old σ₂ => Ev Γ k sc value loc σ₂ fun v σ₃ => Op2 Γ k (inplaceOp op) old v σ₃ fun new σ₄ => St1 Γ k name ov new σ₄ (P .next loc)) :
    Ex Γ k sc (.AugAssign (.Attribute o name tpos) op value pos) loc σ P := fun A κ env s hA l f R => by
  refine wpAny_AugAssign_AttributeAny (wpE (h A κ env s hA l f R) fun W w σ₁ h₁ tk₁ q₁ R₁ r₁ p₁ => ?_)
  refine wpE (Op1.at p₁ hA l R₁ r₁) fun W₂ w₂ σ₂ h₂ tk₂ q₂ R₂ r₂ p₂ => ?_
  refine wpE (p₂ A κ env _ hA l f R₂) fun W₃ w₃ σ₃ h₃ tk₃ q₃ R₃ r₃ p₃ => ?_
  refine wpE (p₃.at hA l R₃ (r₂.mono q₃) r₃) fun W₄ w₄ σ₄ h₄ tk₄ q₄ R₄ r₄ p₄ => ?_
  refine wpV (p₄.at hA l R₄ (((r₁.mono q₂).mono q₃).mono q₄) r₄) fun σ₅ h₅ tk₅ q₅ R₅ p₅ => ?_
  exact ⟨.next, loc, σ₅, h₅, tk₅, rfl, (((q₁.trans q₂).trans q₃).trans q₄).trans q₅, R₅, .next, p₅⟩

/-- a method of an object -/
theorem gm_inst (X : K.In Γ.hB) (O : ClsOk K C) {name : Str} {f : Addr} (hi : (x, .inst C d) ∈ σ) (hn : (d, .ns es) ∈ σ) (hf : findIn K (.ref C) name = some (some (.ref f))) (ht : typeIn K (.ref f) = some (.type "function")) (hs : es.lookup name = none) : GM Γ name (.ref x) σ (.ref f) [.ref x] := fun A κ s V pl Q l R r h => by
  cases r
  obtain ⟨en, n, ed, er⟩ := R.ns hn
  refine method_fn (X.keeps (l.up R)) (R.instAt hi ed) O.ga O.gat hf ht ?_ (h _ s.toks (.cons (.ref _) .nil))
  rcases er.look name (n := n) (c := .type "dict") with ⟨_, a⟩ | ⟨v', V, a, b, c⟩
  · show (lookIn name _).map _ = _; rw [a]; rfl
  · rw [hs] at a; cases a

/-- an object made -/
theorem cal_make (X : K.In Γ.hB) (O : ClsOk K C) {f : Addr} {xs : List AV} {P : AV → Sto → Prop} (hf : findIn K (.ref C) "__init__" = some (some (.ref f))) (ht : typeIn K (.ref f) = some (.type "function"))
    (h : ∀ x d, CalC Γ k (.ref f) (.ref x :: xs) ((x, .inst C d) :: (d, .ns []) :: σ) fun v σ' => v = .none ∧ P (.ref x) σ') : Cal Γ (k + 1) (.ref C) xs σ P := fun A κ s Xs hA l R rs => by
  have Xs' := X.keeps (l.up R)
  obtain ⟨hh, g, dr, t, os⟩ := s
  refine wpAny_call (make_core (makes_of Xs' O.makes) (looks_findIn Xs' hf) (fun self => bind_fn Xs' self ht) (.inl rfl) ?_)
  have k1 : ∀ b o, hh.get? b = some o → ((hh.push emptyDict).push (instObj C hh.objs.size)).get? b = some o := fun b o e => Heap.get?_push_of_some _ (Heap.get?_push_of_some _ e)
  have R1 : RepS κ ((hh.objs.size, .ns []) :: σ) (hh.push emptyDict) := R.add (o := .ns []) size_new (push_keeps _) (Heap.get?_push_size _ rfl) ⟨[], 0, rfl, .nil⟩
  have R2 : RepS κ ((hh.objs.size + 1, .inst C hh.objs.size) :: (hh.objs.size, .ns []) :: σ) ((hh.push emptyDict).push (instObj C hh.objs.size)) := by
    have := R1.add (a := (hh.push emptyDict).objs.size) (o := .inst C hh.objs.size) (h' := (hh.push emptyDict).push (instObj C hh.objs.size)) size_new (push_keeps _) (Heap.get?_push_size _ rfl) rfl
    rwa [Heap.size_push] at this
  have hA' : AOk k (A.under (.builtin "type.__call__" ⟨.ref C :: Xs, []⟩)) := by
    obtain ⟨a, b, c⟩ := hA
    refine ⟨a, ?_, ?_⟩
    · rw [depth_under_make]; omega
    · rw [units_under_make]; omega
  refine codeAny_mono (h _ _ _ κ _ _ hA' l R2 (.cons (.ref _) (rs.mono (.of_keeps k1)))) fun r s' z => ?_
  rcases r with e | (v | _ | _ | _) <;> first | exact z | exact z.elim | skip
  obtain ⟨v', σ', h', tk, e, R', r', hv, p⟩ := z
  subst hv; cases r'
  exact ⟨rfl, _, σ', h', tk, e, R', .ref _, p⟩
end
end Mine
namespace Mine

theorem slot_ci_next : Slot "callable_iterator" "__next__" "callable_iterator.__next__" :=
  .of (owner := "callable_iterator") (n := "__next__") (by rw [typeLookup_type, builtinLookup_eq_fast]; kernel_rfl) (by decide +kernel) (by decide +kernel) (by decide +kernel)
    (by first | exact .inl (by decide +kernel) | exact .inr (by decide +kernel)) (by rw [isSubtype_type]; kernel_rfl)
theorem slot_ci_iter : Slot "callable_iterator" "__iter__" "callable_iterator.__iter__" :=
  .of (owner := "callable_iterator") (n := "__iter__") (by rw [typeLookup_type, builtinLookup_eq_fast]; kernel_rfl) (by decide +kernel) (by decide +kernel) (by decide +kernel)
    (by first | exact .inl (by decide +kernel) | exact .inr (by decide +kernel)) (by rw [isSubtype_type]; kernel_rfl)
theorem entry_ci_next : entryFor table "callable_iterator.__next__" = some Builtin.«callable_iterator.__next__» := entryFor_of_fast (by kernel_rfl)
theorem entry_ci_iter : entryFor table "callable_iterator.__iter__" = some Builtin.«dict_keyiterator.__iter__» :=
  entryFor_alias (id' := "dict_keyiterator.__iter__") (by kernel_rfl) rfl (by decide +kernel) (by kernel_rfl)
theorem args_ci_next (a : Value) : argsOk "callable_iterator.__next__" ⟨[a], []⟩ := by unfold argsOk; kernel_rfl
theorem args_ci_iter (a : Value) : argsOk "callable_iterator.__iter__" ⟨[a], []⟩ := by unfold argsOk; kernel_rfl
theorem slot_meth_call : Slot "method" "__call__" "method.__call__" :=
  .of (owner := "method") (n := "__call__") (by rw [typeLookup_type, builtinLookup_eq_fast]; kernel_rfl) (by decide +kernel) (by decide +kernel) (by decide +kernel)
    (by first | exact .inl (by decide +kernel) | exact .inr (by decide +kernel)) (by rw [isSubtype_type]; kernel_rfl)
theorem args_iter2 (a b : Value) : argsOk "iter" ⟨[a, b], []⟩ := by unfold argsOk; kernel_rfl
abbrev ciObj (q : Addr) (t : Tok) : Obj := { cls := .type "callable_iterator", data := .fields #[.ref q, .str "" t, .bool false] }

section
variable {Γ : Gd} {k : Nat} {sc : Scope} {loc : Loc} {σ : Sto} {K : Frag} {C x d f q fi : Addr} {es : List (Str × AV)} {κ : Kap} {h : Heap} {target : Expr} {body : List Stmt}
theorem RepS.ob (R : RepS κ σ h) {o : Obj} (hm : (x, .obj o) ∈ σ) : h.get? x = some o := by
  obtain ⟨ob, e, r⟩ := R.objs _ hm
  obtain ⟨rfl, _⟩ := r; exact e

/-- a method, bound -/
theorem at_bound (X : K.In Γ.hB) (O : ClsOk K C) {name : Str} (hi : (x, .inst C d) ∈ σ) (hn : (d, .ns es) ∈ σ) (hf : findIn K (.ref C) name = some (some (.ref f))) (ht : typeIn K (.ref f) = some (.type "function"))
    (hg : specialIn K (.ref f) "__get__" = some (some (.builtin "function.__get__"))) (hk : takesIn K (.ref f) = some false) (hc : copiedNames.contains name = false) (hs : es.lookup name = none) {P : AV → Sto → Prop}
    (p : ∀ q, P (.ref q) ((q, .obj (methodObj (.ref f) (.ref x))) :: σ)) : At1 Γ k name (.ref x) σ P := fun A κ s V hA l R r => by
  cases r
  obtain ⟨en, n, ed, er⟩ := R.ns hn
  have hl : lookIn name { cls := .type "dict", data := .dict en.toArray n } = some none := by
    rcases er.look name (n := n) (c := .type "dict") with ⟨_, a⟩ | ⟨v', V, a, b, c⟩
    · exact a
    · rw [hs] at a; cases a
  have Xs := X.keeps (l.up R)
  refine get_bind Xs (R.instAt hi ed) O.ga (findObj_fn O.hd hf hg hk hc hl) O.gat ?_
  refine wpAny_call (fn_get (s := { s with toks := s.toks + 1 }) Xs ht (handed_on rfl ?_))
  exact ⟨.ref _, _, _, _, rfl, R.add (o := .obj (methodObj (.ref f) (.ref x))) size_new (push_keeps _) (Heap.get?_push_size _ rfl) ⟨rfl, fun _ _ e => by have e2 := congrArg Obj.data e; cases e2⟩, .ref _, p _⟩

/-- iter(f, '') -/
theorem cal_iter {self : Value} (hq : (q, .obj (methodObj (.ref f) self)) ∈ σ) {P : AV → Sto → Prop} (p : ∀ fi t, P (.ref fi) ((fi, .obj (ciObj q t)) :: σ)) : Cal Γ k (.builtin "iter") [.ref q, .str ""] σ P := fun A κ s Xs hA l R rs => by
  cases rs with
  | cons r1 rs =>
    cases r1
    cases rs with
    | cons r2 rs =>
      cases rs
      cases r2
      rename_i t
      have ho := R.ob hq
      have hT : s.TypeIs (.ref q) "method" := ⟨_, ho, rfl⟩
      refine call_function_entry (by decide +kernel) (by decide +kernel) kdk_entry_iter (args_iter2 _ _) ?_
      unfold Builtin.«iter»
      refine wpAny_bind (m := someArgs "iter" 1 2 _) (wpAny_of_eq (a := [Value.ref q, .str "" t]) (by first | rfl | kernel_rfl!) ?_)
      dsimp only
      refine wpAny_bind (wpAny_specialOf hT slot_meth_call.lookup ?_)
      refine wpAny_bind (wpAny_rule (wpAny_bind (wpAny_newObj_type (wpAny_pure ?_) (by size_fits))))
      exact ⟨_, rfl, .ref _, _, _, _, rfl, R.add (o := .obj (ciObj q t)) size_new (push_keeps _) (Heap.get?_push_size _ rfl) ⟨rfl, fun _ _ e => by have e2 := congrArg Obj.data e; cases e2⟩, .ref _, p _ _⟩

/-- the next of an iterator that is an object of the store -/
noncomputable def Nx (Γ : Gd) (k : Nat) (it : Addr) (σ : Sto) (P : Option AV → Sto → Prop) : Prop :=
  ∀ A κ s, AOk k A → Γ.le κ → RepS κ σ s.heap → wpAny Γ.M A (pyNext (.ref it)) (fun r s' => ∃ v σ' h' tk, s' = { s with heap := h', toks := tk } ∧ RepS κ σ' h' ∧ (match r, v with | none, none => True | some V, some v => VRel κ.av h' v V | _, _ => False) ∧ P v σ') No s

theorem AOk.in1 {A : Around} (hA : AOk (k + 1) A) : AOk k A.in1 := by
  obtain ⟨a, b, c⟩ := hA
  refine ⟨a, ?_, ?_⟩
  · rw [depth_in1]; omega
  · rw [units_in1]; omega
theorem wpAny_borrowed {M : Model} {A : Around} {E : Value → Shared → Prop} {s : Shared} {F : Value} {pos : List Value} {Q : Value → Shared → Prop}
    (hc : codeAny M A (.call F ⟨pos, []⟩) (fun r s' => match r with | .ok (.ret v) => Q v s' | .ok _ => False | .error e => E e s') s) : wpAny M A (callBorrowed F pos) Q E s := fun Γ p hΓ => by
  unfold callBorrowed
  rw [Sem.wp_call]
  refine (codeAny_mono hc (fun r s' z => ?_)) _ p rfl (hΓ.enter _ none p (by intro x; cases x))
  rcases r with e | (v | _ | _ | _) <;> first | exact z.elim | (simpa using z)
theorem looks_borrows {M : Model} {h : Heap} {self : Value} {fo : Obj} {fd : FuncData} (hq : h.get? q = some (methodObj (.ref f) self)) (hf : h.get? f = some fo) (hd : fo.data = .func fd) : Looks M h (borrowsExactly (.ref q)) true := fun A Q E s k z => by
  unfold borrowsExactly
  dsimp only
  refine wpAny_bind (wpAny_load (k _ _ hq) ?_)
  show wpAny M A (if (Value.type "method" == Value.type "method") = true then _ else _) _ _ _
  rw [if_pos (by decide)]
  dsimp only
  refine wpAny_bind (wpAny_load (k _ _ hf) ?_)
  rw [hd]
  exact wpAny_pure z
theorem fnIn_of {K : Frag} (e : fnIn K f = true) : ∃ o fd, K.lookup f = some o ∧ o.data = .func fd := by
  unfold fnIn at e
  split at e
  · rename_i a; exact ⟨_, _, a, rfl⟩
  · cases e
/-- what a call gives through a slot -/
theorem nx_step {t : Tok} (X : K.In Γ.hB) (ht : fnIn K f = true) (hi : (fi, .obj (ciObj q t)) ∈ σ) (hq : (q, .obj (methodObj (.ref f) (.ref x))) ∈ σ) {P : Option AV → Sto → Prop}
    (h : CalC Γ k (.ref f) [.ref x] σ fun v σ' => ∃ y, v = .str y ∧ (fi, .obj (ciObj q t)) ∈ σ' ∧ (q, .obj (methodObj (.ref f) (.ref x))) ∈ σ' ∧ (if y = "" then ∃ pre post, σ' = pre ++ (fi, .obj (ciObj q t)) :: post ∧ P none (pre ++ post) else P (some (.str y)) σ')) : Nx Γ (k + 1) fi σ P := fun A κ s hA l R => by
  obtain ⟨fo, fd, hfk, hfd⟩ := fnIn_of ht
  have ho := R.ob hi
  have hT : s.TypeIs (.ref fi) "callable_iterator" := ⟨_, ho, rfl⟩
  unfold pyNext
  refine wpAny_bind (wpAny_attempt (wpAny_callSpecial?_slot (name := Str.ofString "__next__") hT slot_ci_next
    (wpAny_call_entry slot_ci_next hT entry_ci_next ?_ (args_ci_next _))))
  unfold Builtin.«callable_iterator.__next__»
  refine wpAny_bind (m := slotArgs _ _ _) (wpAny_of_eq (a := (Value.ref fi, [])) (by first | rfl | kernel_rfl!) ?_)
  dsimp only
  refine wpAny_bind (wpAny_field ho rfl (x := .bool false) rfl ?_)
  rw [if_neg (by decide)]
  refine wpAny_bind (wpAny_field ho rfl (x := .ref q) rfl ?_)
  refine wpAny_bind (wpAny_attempt ?_)
  unfold callOutOfASlot
  refine wpAny_bind ((looks_borrows (R.ob hq) (l.up R _ _ (X _ _ hfk)) hfd).here ?_)
  rw [if_pos rfl]
  refine wpAny_borrowed (method_call (R.ob hq) (codeAny_mono (h A.in1 κ s [.ref x] hA.in1 l R (.cons (.ref _) .nil)) fun r s' z => ?_))
  rcases r with e | (v | _ | _ | _) <;> first | exact z.elim | skip
  obtain ⟨v', σ', h', tk, e, R', r', y, hv, hi', hq', p⟩ := z
  subst e; subst hv
  cases r'
  rename_i ty
  have ho' := R'.ob hi'
  dsimp only
  refine wpAny_bind (wpAny_field ho' rfl (x := .bool false) rfl ?_)
  rw [if_neg (by decide)]
  refine wpAny_bind (wpAny_field ho' rfl (x := .str "" t) rfl ?_)
  refine wpAny_bind (wpAny_holding (eqBool_str ?_))
  by_cases hy : y = ""
  · subst hy
    rw [if_pos rfl] at p
    obtain ⟨pre, post, es, p⟩ := p
    have hsub : (pre ++ post).Sublist σ' := by rw [es]; exact (List.Sublist.refl _).append (.cons _ (.refl _))
    have hnk : fi ∉ keys (pre ++ post) := by
      have nd := R'.nodup
      rw [es, List.map_append, List.map_cons] at nd
      have := (List.perm_middle.nodup_iff).mp nd
      rw [List.nodup_cons] at this
      rw [keys, List.map_append]; exact this.1
    generalize hσ : pre ++ post = σ'' at *
    rw [if_neg (by decide)]
    refine wpAny_bind (wpAny_rule (wpAny_bind ?_))
    show wpAny _ _ (field (.ref fi) 0 >>= _) _ _ _
    refine wpAny_bind (wpAny_field ho' rfl (x := .ref q) rfl (wpAny_bind ?_))
    unfold slotLetsGo
    dsimp only
    refine wpAny_bind ((looks_borrows (R'.ob hq') (l.up R' _ _ (X _ _ hfk)) hfd).here (s := { s with heap := h', toks := tk }) ?_)
    rw [if_pos rfl]
    refine wpAny_pure ?_
    refine wpAny_bind (wpAny_setField ho' rfl (by simp) ?_)
    have u1 := Heap.get?_update_self (Obj.mapFields (·.setIfInBounds 0 .none)) ho' rfl
    refine wpAny_bind (wpAny_setField (s := { s with heap := _, toks := tk }) u1 rfl (by simp) ?_)
    have u2 := Heap.get?_update_self (Obj.mapFields (·.setIfInBounds 1 .none)) u1 rfl
    refine wpAny_setField (s := { s with heap := _, toks := tk }) u2 rfl (by simp) ?_
    show wpAny _ _ (newExc (.type "StopIteration") [] >>= _) _ _ _
    refine wpAny_bind ?_
    simp only [newExc, newTuple]
    refine wpAny_bind (wpAny_newObj_type ?_ (by size_fits))
    refine wpAny_bind (m := firstArgMember _ _) (wpAny_of_eq (a := Value.none) (by first | rfl | (simp only [firstArgMember]; rfl)) ?_)
    refine wpAny_newObj_type ?_ (by size_fits)
    simp only [raiseNew]
    refine wpAny_bind (wpAny_handled ?_)
    rw [show A.in1.handled = none from hA.1]
    refine wpAny_bind (wpAny_pure (wpAny_throw ?_))
    refine wpAny_bind (wpAny_isInstance (T := "StopIteration") (b := true) ⟨_, Heap.get?_push_size _ rfl, rfl⟩ isSubtype_stop ?_)
    have fin : ∀ h₂, Heap.ExtBut fi h' h₂ → RepS κ σ'' h₂ := fun h₂ E => (R'.sub hsub).ext (R'.new _ hi') hnk E (.of_ext_seq ho' (fun xs n e => by cases e) E)
    exact wpAny_pure ⟨none, σ'', _, tk, rfl, fin _ ((((Heap.SameBut.update ..).extBut.trans ((Heap.SameBut.update ..).extBut.trans (Heap.SameBut.update ..).extBut)).push _).push _), trivial, p⟩
  · rw [if_neg hy] at p
    have hb : ((("" : Str) == y) = false) := beq_eq_false_iff_ne.mpr fun e => hy e.symm
    rw [hb]
    refine wpAny_pure ⟨_, rfl, wpAny_pure ⟨some (.str y), σ', h', tk, rfl, R', .str _ _, p⟩⟩

/-- a for over such an iterator -/
noncomputable def ForC (Γ : Gd) (k : Nat) (sc : Scope) (target : Expr) (body : List Stmt) (it : Addr) (loc : Loc) (σ : Sto) (P : AFl → Loc → Sto → Prop) : Prop :=
  ∀ A κ env s, AOk k A → Γ.le κ → Fits sc env → Rep κ env loc σ s.heap → codeAny Γ.M A (.forLoop target (.ref it) body [] env) (PstC κ env s P) s
theorem Nx.at {it : Addr} {P : Option AV → Sto → Prop} (o : Nx Γ k it σ P) {A : Around} {κ : Kap} {env : Env} {s : Shared} (hA : AOk k A) (l : Γ.le κ) (R : Rep κ env loc σ s.heap) :
    wpAny Γ.M A (pyNext (.ref it)) (fun r s' => ∃ v σ' h' tk, s' = { s with heap := h', toks := tk } ∧ TK κ.av s.heap h' ∧ Rep κ env loc σ' h' ∧ (match r, v with | none, none => True | some V, some v => VRel κ.av h' v V | _, _ => False) ∧ P v σ') No s :=
  wp_no (o A (mx R.s) s hA (Gd.le_mx R.s l) R.s.mx) fun r s' pst => pst.elim fun v p => p.elim fun σ' p => p.elim fun h' p => p.elim fun tk p =>
    have x := frame_step R p.2.1; ⟨v, σ', h', tk, p.1, x.1, x.2, p.2.2.1, p.2.2.2⟩
theorem forC {z : Str} {zp : Pos} {it : Addr} {P : AFl → Loc → Sto → Prop} (h : Nx Γ k it σ fun r σ₁ => match r with
      | none => P .next loc σ₁
      | some v => Asg Γ k sc (.Name z zp) v loc σ₁ fun l σ₂ => Exs Γ k sc body l σ₂ (Turn P fun l σ' => ForC Γ k sc (.Name z zp) body it l σ' P)) : ForC Γ k sc (.Name z zp) body it loc σ P := fun A κ env s hA le f R => by
  refine forI_tree (wp_no (h.at hA le R) fun r s₁ pst => ?_)
  obtain ⟨v, σ₁, h₁, tk₁, e₁, q₁, R₁, m, p⟩ := pst
  subst e₁
  cases r with
  | none =>
    cases v with
    | some _ => exact m.elim
    | none => exact ⟨.next, loc, σ₁, h₁, tk₁, rfl, q₁, R₁, .next, p⟩
  | some V =>
    cases v with
    | none => exact m.elim
    | some v =>
      refine wpAny_pure (wpA (p A κ env _ V hA le f R₁ m) fun l₂ σ₂ h₂ tk₂ q₂ R₂ p₂ => ?_)
      refine wpX (p₂ A κ env _ hA le f R₂) fun fl g l₃ σ₃ h₃ tk₃ q₃ R₃ r₃ p₃ => ?_
      have tkA := (q₁.trans q₂).trans q₃
      have go : ForC Γ k sc (.Name z zp) body it l₃ σ₃ P → codeAny Γ.M A (.forLoop (.Name z zp) (.ref it) body [] env) (PstC κ env s P) { s with heap := h₃, toks := tk₃ } := fun again =>
        codeAny_mono (again A κ env { s with heap := h₃, toks := tk₃ } hA le f R₃) fun r s₅ x => by
          cases r with
          | ok f => exact PstX.trans tkA x
          | error _ => exact x
      cases r₃ with
      | next => exact go p₃
      | cont => exact go p₃
      | brk => exact ⟨_, _, _, _, _, rfl, tkA, R₃, .next, p₃⟩
      | ret r => exact ⟨_, _, _, _, _, rfl, tkA, R₃, .ret r, p₃⟩
theorem ex_forC {z : Str} {zp pos : Pos} {iter : Expr} {P : AFl → Loc → Sto → Prop} (h : Ev Γ k sc iter loc σ fun v σ₁ => ∃ it q t, v = .ref it ∧ (it, .obj (ciObj q t)) ∈ σ₁ ∧ ForC Γ k sc (.Name z zp) body it loc σ₁ P) (hs : ∀ env x, foldedSetIterable iter env x = pure x) : Ex Γ k sc (.For (.Name z zp) iter body [] pos) loc σ P := fun A κ env s hA le f R => by
  refine wpAny_For (wp_no (h A κ env s hA le f R) fun V s₁ pst => ?_) (hs env)
  obtain ⟨v, σ₁, h₁, tk₁, e₁, q₁, R₁, r₁, it, q, t, hv, hm, p⟩ := pst
  subst e₁; subst hv; cases r₁
  have hT : ({ s with heap := h₁, toks := tk₁ } : Shared).TypeIs (.ref it) "callable_iterator" := ⟨_, R₁.s.ob hm, rfl⟩
  refine wpAny_pyIter_slot hT slot_ci_iter (wpAny_call_entry slot_ci_iter hT entry_ci_iter ?_ (args_ci_iter _))
  show wpAny _ _ (ret (.ref it)) _ _ _
  refine wpAny_pure ⟨_, rfl, "callable_iterator", _, hT, slot_ci_next.lookup, codeAny_mono (p A κ env _ hA le f R₁) fun r s₃ x => ?_⟩
  cases r with
  | error _ => exact x.elim
  | ok fl => exact PstX.trans q₁ x
end
end Mine
namespace Mine

theorem store_function : StoreFacts "function" [.type "function", .type "object"] "object.__setattr__" "object" where
  mro := by kernel_rfl
  slot := .of (owner := "object") (n := "__setattr__") (by rw [typeLookup_type, builtinLookup_eq_fast]; kernel_rfl) (by decide +kernel) (by decide +kernel) (by decide +kernel)
    (by first | exact .inl (by decide +kernel) | exact .inr (by decide +kernel)) (by rw [isSubtype_type]; kernel_rfl)
  entry := PySem.F.entry_object_sa
  kind := by decide +kernel
  split := by decide +kernel
  hasOwner := by decide +kernel
  args := fun a b c => by unfold argsOk; kernel_rfl
  passes := fun self => by kernel_rfl
theorem fn_read : typeLookup (.type "function") "read" = pure none := by rw [typeLookup_type, builtinLookup_eq_fast]; kernel_rfl
theorem fn_ga : typeLookup (.type "function") "__getattribute__" = pure (some (.builtin "object.__getattribute__")) := by rw [typeLookup_type, builtinLookup_eq_fast]; kernel_rfl
theorem fn_gat : typeLookup (.type "function") "__getattr__" = pure none := by rw [typeLookup_type, builtinLookup_eq_fast]; kernel_rfl

section
variable {Γ : Gd} {k : Nat} {sc : Scope} {loc : Loc} {σ : Sto} {κ : Kap} {h : Heap} {st d : Addr} {o : Obj} {fd : FuncData} {es : List (Str × AV)}
theorem looks_fnread {M : Model} {od : Obj} {V : Value} (ho : h.get? st = some o) (hc : o.cls = .type "function") (hf : o.data = .func fd) (hd : o.dict = some d) (hod : h.get? d = some od) (hl : lookIn "read" od = some (some V)) : Looks M h (Builtin.ObjectAttr.find (.ref st) (.type "function") "read") (.value V) := by
  refine (Looks.of_pure fn_read).andThen (Looks.now.andThen (Looks.now.andThen ?_))
  have D : Looks M h (Builtin.ObjectAttr.ownDict st) (some d) := fun A Q E s k z => by
    refine wpAny_bind (wpAny_loadPart (k _ _ ho) ?_)
    rw [hf]
    dsimp only
    unfold instanceDict
    refine wpAny_bind (wpAny_loadPart (k _ _ ho) ?_)
    rw [hc, hd]
    exact wpAny_pure z
  have N : Looks M h (nsGet d "read") (some V) := fun A Q E s k z => by
    refine wpAny_bind (wpAny_loadPart (k _ _ hod) ?_)
    rw [nsLook_of hl]; exact wpAny_pure z
  exact (show Looks M h (Builtin.ObjectAttr.inOwnDict "read" (.ref st)) (some V) from D.andThen N).andThen (Looks.tag .now)
theorem slot_fn_ga : Slot "function" "__getattribute__" "object.__getattribute__" :=
  .of (owner := "object") (n := "__getattribute__") (by rw [typeLookup_type, builtinLookup_eq_fast]; kernel_rfl) (by decide +kernel) (by decide +kernel) (by decide +kernel)
    (by first | exact .inl (by decide +kernel) | exact .inr (by decide +kernel)) (by rw [isSubtype_type]; kernel_rfl)
theorem entry_ga : entryFor table "object.__getattribute__" = some Builtin.«object.__getattribute__» := entryFor_of_tree (by kernel_rfl)
theorem args_ga (a b : Value) : argsOk "object.__getattribute__" ⟨[a, b], []⟩ := by unfold argsOk; kernel_rfl
/-- the function that stands under read -/
theorem gm_fnread {rd : Addr} (hs : (st, .obj o) ∈ σ) (hc : o.cls = .type "function") (hf : o.data = .func fd) (hd : o.dict = some d) (hn : (d, .ns es) ∈ σ) (hr : es.lookup ("read" : Str) = some (.ref rd)) : GM Γ "read" (.ref st) σ (.ref rd) [] := fun A κ s V pl Q l R r hq => by
  cases r
  have ho := R.ob hs
  obtain ⟨en, n, ed, er⟩ := R.ns hn
  have hl : lookIn "read" { cls := .type "dict", data := .dict en.toArray n } = some (some (.ref rd)) := by
    rcases er.look "read" (n := n) (c := .type "dict") with ⟨a, _⟩ | ⟨v', V, a, b, c⟩
    · rw [hr] at a; cases a
    · rw [hr] at a; cases a; cases c; exact b
  have hT : Looks Γ.M s.heap (typeOf (.ref st)) (.type "function") := hc ▸ (Looks.ld ho).andThen .now
  have hS : ∀ {x : Str} {v : Option Value}, typeLookup (.type "function") x = pure v → Looks Γ.M s.heap (specialOf (.ref st) x) v := fun e => hT.andThen (Looks.of_pure e)
  have hF := looks_fnread (M := Γ.M) ho hc hf hd ed hl
  unfold getMethod
  refine wpAny_bind ((hS fn_ga).here ?_)
  dsimp only
  rw [PySem.F.canon_object_ga, if_neg (by decide)]
  refine wpAny_bind ((hS fn_gat).here ?_)
  refine wpAny_bind ((hS fn_read).here ?_)
  dsimp only
  refine wpAny_bind ?_
  unfold getAttr getAttrBy
  refine wpAny_bind (wpAny_mkText (wpAny_holding (wpAny_bind (hT.here (s := { s with toks := s.toks + 1 }) (wpAny_bind ((Looks.of_pure fn_ga).here ?_))))))
  show wpAny _ _ (getAttrByItsOwn _ _ _ _ _ _) _ _ _
  unfold getAttrByItsOwn
  refine wpAny_bind (wpAny_pure (wpAny_bind (wpAny_attempt (wpAny_holding ?_))))
  show wpAny _ _ (boundAndCalled _ _ _) _ _ _
  unfold boundAndCalled
  rw [slot_fn_ga.bind]
  refine wpAny_bind (wpAny_pure ?_)
  refine wpAny_call_entry slot_fn_ga ⟨_, ho, hc⟩ entry_ga ?_ (args_ga _ _)
  unfold Builtin.«object.__getattribute__»
  refine wpAny_bind (m := slotArgs _ _ _) (wpAny_of_eq (a := (Value.ref st, [.str "read" s.toks])) (by first | rfl | kernel_rfl!) ?_)
  dsimp only
  refine wpAny_bind (wpAny_pure (wpAny_bind (hT.here (s := { s with toks := s.toks + 1 }) (wpAny_bind (hF.here (s := { s with toks := s.toks + 1 }) ?_)))))
  refine wpAny_pure ⟨_, rfl, ?_⟩
  exact handed_on rfl (wpAny_pure (hq [] _ .nil))

/-- read set on a function that has no dict yet -/
theorem st_fnread {v : AV} {σ' : Addr → Sto} {P : Sto → Prop} (hc : o.cls = .type "function") (hf : o.data = .func fd) (hd : o.dict = none) (at' : ∀ d, At σ st (.obj o) (.obj { o with dict := some d }) (σ' d)) (p : ∀ d, P ((d, .ns [("read", v)]) :: σ' d)) : St1 Γ k "read" (.ref st) v σ P := by
  intro A κ s V W hA l R r rv
  cases r
  have ho := R.ob (at' 0).mem
  have SF := store_function
  have hT : Looks Γ.M s.heap (typeOf (.ref st)) (.type "function") := hc ▸ (Looks.ld ho).andThen .now
  unfold setAttr
  refine wpAny_bind (wpAny_mkText (wpAny_bind (wpAny_callSpecial?_slot (s := { s with toks := s.toks + 1 }) (T := "function") ⟨_, ho, hc⟩ SF.slot (wpAny_call_entry (s := { s with toks := s.toks + 1 }) (T := "function") SF.slot ⟨_, ho, hc⟩ SF.entry ?_ (SF.args _ _ _)))))
  rw [osa_eq, refuse_eq]
  refine wpAny_bind (wpAny_bind (hT.here (s := { s with toks := s.toks + 1 }) (wpAny_bind (wpAny_of_eq SF.mro ?_))))
  rw [SF.passes]
  refine wpAny_pure (wpAny_bind (hT.here (s := { s with toks := s.toks + 1 }) (wpAny_bind (wpAny_of_eq fn_read (wpAny_bind (wpAny_pure ?_))))))
  show wpAny _ _ (Builtin.ObjectAttr.storeInOwnDict _ _ _ _ _ _) _ _ _
  unfold Builtin.ObjectAttr.storeInOwnDict
  refine wpAny_bind (wpAny_of_eq (a := ()) (by first | rfl | kernel_rfl!) ?_)
  rw [if_neg (by decide)]
  refine wpAny_bind ?_
  show wpAny _ _ (instanceDict st true) _ _ _
  unfold instanceDict
  refine wpAny_bind (wpAny_loadPart ho ?_)
  rw [hc, hd]
  dsimp only
  rw [if_neg (by decide +kernel), hf]
  dsimp only
  refine wpAny_bind (wpAny_alloc (wpAny_bind ?_))
  have ho1 := Heap.get?_push_of_some emptyDict ho
  refine wpAny_update (s := { s with heap := s.heap.push emptyDict, toks := s.toks + 1 }) ho1 ?_
  refine wpAny_of_eq (a := some s.heap.objs.size) (by first | rfl | kernel_rfl!) ?_
  dsimp only
  have R1 : RepS κ ((s.heap.objs.size, .ns []) :: σ) (s.heap.push emptyDict) := R.add (o := .ns []) size_new (push_keeps _) (Heap.get?_push_size _ rfl) ⟨[], 0, rfl, .nil⟩
  have hs : Heap.SameBut st (s.heap.push emptyDict) ((s.heap.push emptyDict).update st fun o => { o with dict := some s.heap.objs.size }) := Heap.SameBut.update ..
  have at1 := At.tail (p := (s.heap.objs.size, AO.ns [])) (at' s.heap.objs.size)
  have R2 := R1.upd at1 hs.extBut (Heap.get?_update_self _ ho1 (by show Obj.isFreed { o with dict := _ } = false; unfold Obj.isFreed; rw [hf])) ⟨rfl, fun _ _ e => by have e2 := congrArg Obj.data e; rw [hf] at e2; cases e2⟩
  have tk1 : TK κ.av s.heap ((s.heap.push emptyDict).update st fun o => { o with dict := some s.heap.objs.size }) := (TK.of_keeps (push_keeps _)).trans (R1.tk_upd at1.mem hs.extBut)
  refine store_dict (s := { s with heap := _, toks := s.toks + 1 }) R2 (v := v) (σ' := (s.heap.objs.size, .ns [("read", v)]) :: σ' s.heap.objs.size) .head (by simp) (rv.mono tk1) fun h' tk' R' => ⟨_, rfl, wpAny_pure ⟨_, h', tk', rfl, R', p _⟩⟩
end
end Mine
namespace Mine

/-- in a frame whose code and cells are known -/
noncomputable def ExsF (Γ : Gd) (k : Nat) (sc : Scope) (cd : Value) (ql : Str) (cells : List (Str × Addr)) (st : List Stmt) (loc : Loc) (σ : Sto) (P : AFl → Loc → Sto → Prop) : Prop :=
  ∀ A κ env s, AOk k A → Γ.le κ → Fits sc env → env.code = cd → env.qual = ql → env.cells = cells → Rep κ env loc σ s.heap → wpAny Γ.M A (execs st env) (PstX κ env s P) No s

noncomputable def closL (cells : List (Str × Addr)) : List (Str × NameKind) → List (Str × Addr) → List (Str × Addr)
  | [], acc => acc
  | (n, k) :: r, acc => if k == .free then closL cells r ((n, (cells.lookup n).getD 0) :: acc) else closL cells r acc
theorem clos_eq (env : Env) : ∀ (names : List (Str × NameKind)) (acc : List (Str × Addr)), clos env names acc = closL env.cells names acc
  | [], acc => rfl
  | (n, k) :: r, acc => by unfold clos closL; rw [clos_eq env r, clos_eq env r]

section
variable {Γ : Gd} {k : Nat} {sc : Scope} {loc : Loc} {σ : Sto} {mg mb : Str → Option Value} {cd : Value} {ql : Str} {cells : List (Str × Addr)} {P : AFl → Loc → Sto → Prop} {rest : List Stmt}
theorem exsF_of (h : Exs Γ k sc rest loc σ P) : ExsF Γ k sc cd ql cells rest loc σ P := fun A κ env s hA l f _ _ _ R => h A κ env s hA l f R
theorem exsF_cons {st : Stmt} (h : Ex Γ k sc st loc σ fun f l σ' => match f with | .next => ExsF Γ k sc cd ql cells rest l σ' P | f => P f l σ') : ExsF Γ k sc cd ql cells (st :: rest) loc σ P := fun A κ env s hA l f e1 e3 e2 R =>
  wpAny_execs_cons (wpX (h A κ env s hA l f R) fun fl g loc₁ σ₁ h₁ tk₁ q R₁ r p => by
    cases r with
    | next => exact wp_no (p A κ env _ hA l f e1 e3 e2 R₁) fun _ _ h => h.trans q
    | brk => exact ⟨_, _, _, _, _, rfl, q, R₁, .brk, p⟩
    | cont => exact ⟨_, _, _, _, _, rfl, q, R₁, .cont, p⟩
    | ret r => exact ⟨_, _, _, _, _, rfl, q, R₁, .ret r, p⟩)

/-- what making a function asks for -/
structure MkOk (Γ : Gd) (mg mb : Str → Option Value) (c T : Addr) : Prop where
  ok : Γ.Ok mg mb
  code : CodeHd Γ.hB c T
  bm : ∃ bm ob, mg "__builtins__" = some (.ref bm) ∧ bm ≠ builtinsNs ∧ Γ.hB.get? bm = some ob ∧ ob.cls = .type "module" ∧ ob.dict = some builtinsNs ∧ ob.data = .plain

theorem MkOk.bat {c T : Addr} (W : MkOk Γ mg mb c T) {κ : Kap} {h : Heap} {ps : Array Value} (l : Γ.le κ) (R : RepS κ σ h) (hm : (T, .obj (tabObj ps)) ∈ σ) : h.Ns mainGlobals mg ∧ CodeHd h c T ∧ h.get? T = some (tabObj ps) ∧ mainGlobals ≠ T ∧ h.BuiltinsAt mg T := by
  obtain ⟨bm, ob, b1, b2, b3, b4, b5, b6⟩ := W.bm
  have hT := R.ob hm
  have hg := W.ok.g.keeps (l.up R)
  refine ⟨hg, W.code.keeps (l.up R), hT, fun q => ?_, bm, ob, b1, b2, fun q => ?_, fun q => ?_, l.up R _ _ b3, b4, b5, b6⟩
  · obtain ⟨o, es, ep, e, hd, _⟩ := hg
    rw [q, hT] at e; cases e; cases hd
  · obtain ⟨o, es, ep, e, hd, _⟩ := W.ok.g
    rw [q, e] at b3; cases b3; rw [hd] at b6; cases b6
  · have e := l.up R _ _ b3
    rw [q, hT] at e; cases e; cases b4

/-- what a making leaves: the table grown, a code record, a function -/
theorem made {κ : Kap} {env : Env} {h h' : Heap} {T c' : Addr} {ps ps' : Array Value} {σ' : Sto} {fo oc : Obj} {vs : Array Value} (R : Rep κ env loc σ h) (at' : At σ T (.obj (tabObj ps)) (.obj (tabObj ps')) σ') (hx : Heap.ExtBut T h h') (hge : h.objs.size ≤ c') (hlt : c' < h'.objs.size) (hT : h'.get? T = some (tabObj ps')) (hoc : h'.get? c' = some oc) (hd : oc.data = .fields vs) (hf : ∀ vs n, fo ≠ { cls := .type "tuple", data := .seq vs n }) (hfr : fo.isFreed = false) :
    TK κ.av h (h'.push fo) ∧ Rep κ env loc ((h'.objs.size, .obj fo) :: (c', .obj oc) :: σ') (h'.push fo) := by
  have R1 : RepS κ σ' h' := R.s.upd at' hx hT ⟨rfl, fun _ _ e => by have e2 := congrArg Obj.data e; cases e2⟩
  have tk1 : TK κ.av h h' := R.s.tk_upd at'.mem hx
  have hn : h.get? c' = none := Heap.get?_none_of_le hge
  have R2 : RepS κ ((c', .obj oc) :: σ') h' := {
    prot := R1.prot
    objs := fun p hp => by
      rcases List.mem_cons.mp hp with e | e
      · subst e; exact ⟨oc, hoc, rfl, fun _ _ e => by rw [e] at hd; cases hd⟩
      · exact R1.objs p e
    nodup := by
      simp only [List.map_cons, List.nodup_cons]
      refine ⟨fun hm => ?_, R1.nodup⟩
      rw [at'.keys] at hm
      obtain ⟨o, e, _⟩ := R.s.live hm
      rw [hn] at e; cases e
    new := fun p hp => by
      rcases List.mem_cons.mp hp with e | e
      · subst e
        cases e : κ.p c' with
        | none => rfl
        | some o => have := R.s.prot _ _ e; rw [hn] at this; cases this
      · exact R1.new p e }
  have F2 : FRel κ env loc ((c', .obj oc) :: σ') h' := R.f.stp {
    keep := fun b o hb e => hx b o (fun q => hb (q ▸ List.mem_map_of_mem at'.mem)) e
    new := fun a ha => by
      simp only [keys, List.map_cons] at ha
      rcases List.mem_cons.mp ha with e | e
      · exact .inr (e ▸ hn)
      · rw [at'.keys] at e; exact .inl e
    tk := tk1 }
  have R3 : Rep κ env loc ((h'.objs.size, .obj fo) :: (c', .obj oc) :: σ') (h'.push fo) := Rep.add ⟨R2, F2⟩ size_new (push_keeps _) (Heap.get?_push_size _ hfr) ⟨rfl, hf⟩
  exact ⟨tk1.trans (.of_keeps (push_keeps _)), R3⟩

theorem qual_in {env : Env} {name : Str} (f : Fits sc env) (hk : sc.names.lookup name = some .local) (e : env.qual = ql) : qualnameIn env name name = ql ++ name := by
  unfold qualnameIn
  rw [f.kindOf, hk, e]
  rfl
/-- an inner def, the first time -/
theorem exsF_def {name : Str} {args : Arguments} {body : List Stmt} {scope : Scope} {pos : Pos} {c T : Addr} {ps : Array Value} {σ' : Addr → Sto} (W : MkOk Γ mg mb c T) (hcd : cd = .ref c) (htr : TriplesOk ps.toList) (hnf : codeAmong pos ps.toList = none)
    (at' : ∀ c', At σ T (.obj (tabObj ps)) (.obj (tabObj (ps ++ #[rawInt pos.line, rawInt pos.col, .ref c']))) (σ' c')) (hcl : ∀ x, (x, NameKind.free) ∈ scope.names → ∃ c, cells.lookup x = some c)
    (hda : args.defaults = []) (hdk : args.kw_defaults = []) (han : ∀ e, annTrees args none e = []) (hk : sc.names.lookup name = some .local)
    (h : ∀ f c' oc vs t ctv doc pm qual, qual = ql ++ name → oc.data = .fields vs → vs[1]? = some (.str qual t) → ExsF Γ k sc cd ql cells rest (lset loc name (.ref f)) ((f, .obj (fnMade name qual args body scope (closL cells scope.names []) doc pm c' ctv)) :: (c', .obj oc) :: σ' c') P) :
    ExsF Γ k sc cd ql cells (.FunctionDef name args body [] none [] scope none name pos :: rest) loc σ P := fun A κ env s hA l f e1 e3 e2 R => by
  refine wpAny_execs_cons ?_
  rw [exec_def, defaultsOf_eq, hda, hdk, han]
  refine wpAny_bind (wpAny_standAt (wpAny_bind (wpAny_holding ?_)))
  refine wpAny_bind (wpAny_pure (wpAny_bind (wpAny_holding (wpAny_pure (wpAny_holding (wpAny_bind (wpAny_pure ?_)))))))
  obtain ⟨w1, w2, w3, w4, w5⟩ := W.bat l R.s (at' 0).mem
  refine makeFunction_K (mg := mg) (closureFor_of fun x hx => by rw [e2]; exact hcl x hx) f.glob w1 (by rw [e1, hcd]) w2 w3 htr hnf w4 w5 fun c' ctv doc h' tk hx hge hlt hrec htb => ?_
  obtain ⟨c₂, oc, vs, t, ec, hoc, hd, hv⟩ := hrec
  cases ec
  rw [clos_eq, e2]
  obtain ⟨tk1, R1⟩ := made R (at' c') hx hge hlt htb hoc hd (fo := fnMade name (qualnameIn env name name) args body scope (closL cells scope.names []) doc ((mg "__name__").getD .none) c' ctv) (fun _ _ e => by have e2 := congrArg Obj.data e; cases e2) rfl
  refine wpAny_bind (wpAny_standAt ?_)
  refine wpAny_bind (wpAny_bindName (wpA (store_name (P := fun l' σ₁ => ExsF Γ k sc cd ql cells rest l' σ₁ P) (.inl hk) (h _ c' oc vs t ctv doc _ _ (qual_in f hk e3) hd hv) f R1 (.ref _)) fun l₂ σ₂ h₂ tk₂ q₂ R₂ p₂ => ?_))
  refine wpAny_pure ?_
  exact wp_no (p₂ A κ env _ hA l f e1 e3 e2 R₂) fun _ _ h => (h.trans (tk₁ := tk) q₂).trans tk1

/-- name = lambda, the first time -/
theorem exsF_lam {name : Str} {params : Arguments} {body : Expr} {scope : Scope} {np lpos pos : Pos} {c T : Addr} {ps : Array Value} {σ' : Addr → Sto} (W : MkOk Γ mg mb c T) (hcd : cd = .ref c) (htr : TriplesOk ps.toList) (hnf : codeAmong lpos ps.toList = none)
    (at' : ∀ c', At σ T (.obj (tabObj ps)) (.obj (tabObj (ps ++ #[rawInt lpos.line, rawInt lpos.col, .ref c']))) (σ' c')) (hcl : ∀ x, (x, NameKind.free) ∈ scope.names → ∃ c, cells.lookup x = some c)
    (hdf : ∀ env, defaultsOf params env = ([], [])) (hk : sc.names.lookup name = some .local)
    (hs : ∀ env, Fits sc env → swapsWithSole [.Name name np] (.Lambda params body scope lpos) pos.line env = pure false) (hw : ∀ env, Fits sc env → swappedStores [.Name name np] (.Lambda params body scope lpos) env = pure none)
    (h : ∀ f c' oc vs t ctv pm qual, oc.data = .fields vs → vs[1]? = some (.str qual t) → ExsF Γ k sc cd ql cells rest (lset loc name (.ref f)) ((f, .obj (kla_obj "<lambda>" qual params body scope (closL cells scope.names []) pm c' ctv)) :: (c', .obj oc) :: σ' c') P) :
    ExsF Γ k sc cd ql cells (.Assign [.Name name np] (.Lambda params body scope lpos) pos :: rest) loc σ P := fun A κ env s hA l f e1 e3 e2 R => by
  refine wpAny_execs_cons (wpAny_Assign_stores ?_ (hs env f) (hw env f))
  refine kla_eval (hdf env) ?_
  obtain ⟨w1, w2, w3, w4, w5⟩ := W.bat l R.s (at' 0).mem
  refine kla_makeFunction (mg := mg) (closureFor_of fun x hx => by rw [e2]; exact hcl x hx) f.glob w1 (by rw [e1, hcd]) w2 w3 htr hnf w4 w5 fun c' ctv h' tk hx hge hlt hrec htb => ?_
  obtain ⟨c₂, oc, vs, t, ec, hoc, hd, hv⟩ := hrec
  cases ec
  rw [clos_eq, e2]
  obtain ⟨tk1, R1⟩ := made R (at' c') hx hge hlt htb hoc hd (fo := kla_obj "<lambda>" (env.qual ++ "<lambda>") params body scope (closL cells scope.names []) ((mg "__name__").getD .none) c' ctv) (fun _ _ e => by have e2 := congrArg Obj.data e; cases e2) rfl
  show wpAny _ _ (assign (.Name name np) env _) _ _ _
  refine wpAny_assign_Name (wpA (store_name (P := fun l' σ₁ => ExsF Γ k sc cd ql cells rest l' σ₁ P) (.inl hk) (h _ c' oc vs t ctv _ _ hd hv) f R1 (.ref _)) fun l₂ σ₂ h₂ tk₂ q₂ R₂ p₂ => ?_)
  exact wp_no (p₂ A κ env _ hA l f e1 e3 e2 R₂) fun _ _ h => (h.trans (tk₁ := tk) q₂).trans tk1

/-- two cells of a frame that ends, as objects of the store -/
theorem two_cells {κ : Kap} {env : Env} {h : Heap} {x y : Str} {cx cy : Addr} {vx vy : AV} (R : Rep κ env loc σ h) (hf : env.func.isSome = true) (kx : env.kindOf x = some .cell) (ky : env.kindOf y = some .cell) (hxy : x ≠ y) (ex : env.cells.lookup x = some cx) (ey : env.cells.lookup y = some cy) (lx : loc.lookup x = some vx) (ly : loc.lookup y = some vy) :
    RepS κ ((cx, .cell vx) :: (cy, .cell vy) :: σ) h := by
  obtain ⟨c, V, e, ⟨o, ho, hd⟩, hv⟩ := R.f.cell x kx
  rw [ex] at e; cases e
  obtain ⟨W, rfl, rx⟩ := hv vx lx
  obtain ⟨c, V', e, ⟨o', ho', hd'⟩, hv'⟩ := R.f.cell y ky
  rw [ey] at e; cases e
  obtain ⟨W', rfl, ry⟩ := hv' vy ly
  have nx := R.f.cnew x cx kx ex
  have ny := R.f.cnew y cy ky ey
  have hne : cx ≠ cy := fun q => hxy (R.f.apart x y cx kx ky ex (q ▸ ey))
  exact {
    prot := R.s.prot
    objs := fun p hp => by
      rcases List.mem_cons.mp hp with e | hp
      · subst e; exact ⟨o, ho, W, hd, rx⟩
      · rcases List.mem_cons.mp hp with e | hp
        · subst e; exact ⟨o', ho', W', hd', ry⟩
        · exact R.s.objs p hp
    nodup := by
      simp only [List.map_cons, List.nodup_cons, List.mem_cons, not_or]
      exact ⟨⟨hne, nx.1⟩, ny.1, R.s.nodup⟩
    new := fun p hp => by
      rcases List.mem_cons.mp hp with e | hp
      · subst e; exact nx.2.1 hf
      · rcases List.mem_cons.mp hp with e | hp
        · subst e; exact ny.2.1 hf
        · exact R.s.new p hp }
end
end Mine
namespace Mine
section
variable {Γ : Gd} {k : Nat} {sc : Scope} {loc : Loc} {σ : Sto} {mg mb : Str → Option Value}

/-- a def two of whose names inner functions keep -/
theorem fn_cells2 {f : Addr} {fd : FuncData} {body : List Stmt} {names : List Str} {xs : List AV} {P : AV → Sto → Prop} {x y : Str} (G : Γ.Ok mg mb) (O : FnOk Γ f fd body names)
    (hlen : xs.length = names.length) (hloc : ∀ x ∈ names, fd.scope.names.lookup x = some .local ∨ fd.scope.names.lookup x = some .cell) (kx : fd.scope.names.lookup x = some .cell) (ky : fd.scope.names.lookup y = some .cell) (hxy : x ≠ y)
    (h : ∀ n cx cy, (cellsFrom n fd.scope.names []).lookup x = some cx → (cellsFrom n fd.scope.names []).lookup y = some cy → ExsF Γ k fd.scope fd.code (fd.qualname ++ ".<locals>.") (cellsFrom n fd.scope.names []) body (names.zip xs) σ fun fl l σ' => ∃ vx vy, l.lookup x = some vx ∧ l.lookup y = some vy ∧ Drp ((cx, .cell vx) :: (cy, .cell vy) :: σ') (P (retv fl))) : CalC Γ (k + 1) (.ref f) xs σ P := fun A κ s Xs hA l R rs => by
  obtain ⟨o, ho, hd⟩ := O.obj
  have up := l.up R
  have hX : Xs.length = names.length := by rw [rs.length, hlen]
  have hcs : ∀ n x, fd.scope.names.lookup x = some .cell → ((cellsFrom n fd.scope.names []).lookup x).isSome = true := fun n x e => cellsFrom_some _ _ _ (.inl e)
  refine (codeAny_call_cells hA.room (up _ _ ho) hd (G.nolimit.keeps up) (O.code.keeps up) O.hb (O.bind Xs hX) O.clo (fun x hx => (hloc x.1 (List.of_mem_zip hx).1).imp id fun e => ⟨e, hcs _ _ e⟩) (fun s₁ I => ?_) O.co O.gen O.kind)
  have fit : Fits fd.scope (callEnvC fd s.heap.objs.size f) := ⟨rfl, O.kind, O.glob, O.blt, fun _ => rfl⟩
  obtain ⟨h₀, tk₀, e₀⟩ := I.toInCall.same
  subst e₀
  have hkeep := I.toInCall.keep
  have hnd : ((names.zip Xs).map (·.1)).Nodup := by rw [zip_keys names Xs hX]; exact O.nodup
  have R₀ : RepS κ σ h₀ := R.keep hkeep
  have fresh : ∀ a, s.heap.objs.size ≤ a → κ.p a = none ∧ a ∉ keys σ := fun a ha => by
    refine ⟨?_, fun hm => ?_⟩
    · cases e : κ.p a with
      | none => rfl
      | some o => exact absurd (Heap.lt_size (R.prot _ _ e)) (Nat.not_lt.mpr ha)
    · obtain ⟨o, e, _⟩ := R.live hm
      exact absurd (Heap.lt_size e) (Nat.not_lt.mpr ha)
  have F : FRel κ (callEnvC fd s.heap.objs.size f) (names.zip xs) σ h₀ := {
    ns := ⟨_, I.toInCall.ns, fun x v hx hk => by
      obtain ⟨_, V, a, b⟩ := zip_lookup rs hx
      refine ⟨V, ?_, b.mono (.of_keeps hkeep)⟩
      rw [bindL_local _ _ _ _ hnd hk, a]⟩
    cell := fun x hx => by
      have hx' := hx
      rw [fit.kindOf] at hx'
      obtain ⟨c, hc⟩ := Option.isSome_iff_exists.mp (hcs (s.heap.objs.size + 1) x hx')
      refine ⟨c, _, hc, I.cell x c hc, fun v hv => ?_⟩
      obtain ⟨_, V, a, b⟩ := zip_lookup rs hv
      refine ⟨V, ?_, b.mono (.of_keeps hkeep)⟩
      rw [bindC_other _ _ _ _ hnd (by rw [hx]; simp), a]
    free := fun x v hx hk => by
      obtain ⟨m, _⟩ := zip_lookup rs hx
      rw [fit.kindOf] at hk
      rcases hloc x m with e | e <;> rw [e] at hk <;> cases hk
    apart := fun x y c _ _ ha hb => name_of_addr I.apart (mem_of_lookup ha) (mem_of_lookup hb)
    Lnew := fresh _ (Nat.le_refl _)
    cnew := fun x c _ hc => let fr := fresh c (Nat.le_of_lt (I.above x c (mem_of_lookup hc))); ⟨fr.2, fun _ => fr.1, fun o e => by rw [fr.1] at e; cases e⟩ }
  obtain ⟨cx, hcx⟩ := Option.isSome_iff_exists.mp (hcs (s.heap.objs.size + 1) x kx)
  obtain ⟨cy, hcy⟩ := Option.isSome_iff_exists.mp (hcs (s.heap.objs.size + 1) y ky)
  refine wp_no (h _ cx cy hcx hcy _ κ _ _ (hA.deeper _) l fit rfl rfl rfl ⟨R₀, F⟩) fun fl s' pst0 => ?_
  obtain ⟨g, loc', σ', h', tk, e, q, R', r, vx, vy, lx, ly, σ'', hsub, p⟩ := pst0
  subst e
  have R2 := two_cells R' rfl (by rw [fit.kindOf]; exact kx) (by rw [fit.kindOf]; exact ky) hxy hcx hcy lx ly
  refine ⟨_, σ'', h', tk, rfl, R2.sub hsub, ?_, p⟩
  cases r with
  | next => exact .none
  | brk => exact .none
  | cont => exact .none
  | ret r => exact r

theorem calC_perm {F : Value} {xs : List AV} {σ' : Sto} {P : AV → Sto → Prop} (h : CalC Γ k F xs σ' P) (hs : σ'.Perm σ) : CalC Γ k F xs σ P := fun A κ s Xs hA l R rs => h A κ s Xs hA l (R.perm hs) rs

/-- what is asked of an inner function that keeps two cells -/
structure CloOk (o oc : Obj) (fd : FuncData) (body : List Stmt) (names : List Str) (x y : Str) (cx cy c' : Addr) : Prop where
  data : o.data = .func fd
  hb : fd.body = .stmts body
  code : fd.code = .ref c'
  crec : ∃ vs t, oc.data = .fields vs ∧ vs[1]? = some (.str fd.qualname t)
  bind : ∀ Xs : List Value, Xs.length = names.length → bindArgs fd ⟨Xs, []⟩ = pure (names.zip Xs)
  nodup : names.Nodup
  glob : fd.globals = mainGlobals
  blt : fd.builtins = builtinsNs
  co : fd.scope.isCoroutine = false
  gen : fd.scope.isGenerator = false
  kind : fd.scope.kind = .function
  clx : fd.closure.lookup x = some cx
  cly : fd.closure.lookup y = some cy

/-- two entries of the store protected -/
theorem RepS.lock2 {κ : Kap} {h : Heap} {cx cy : Addr} {vx vy : AV} (R : RepS κ ((cx, .cell vx) :: (cy, .cell vy) :: σ) h) :
    ∃ κ', κ'.av = κ.av ∧ (∀ b o, κ.p b = some o → κ'.p b = some o) ∧ (∀ b, κ'.p b = none → κ.p b = none) ∧ (∀ b, b ≠ cx → b ≠ cy → κ'.p b = κ.p b) ∧ (∃ o V, h.get? cx = some o ∧ κ'.p cx = some o ∧ o.data = .cell (some V) ∧ VRel κ.av h vx V) ∧ (∃ o V, h.get? cy = some o ∧ κ'.p cy = some o ∧ o.data = .cell (some V) ∧ VRel κ.av h vy V) ∧ RepS κ' σ h := by
  obtain ⟨ox, hox, Vx, dx, rx⟩ := R.objs _ (.head _)
  obtain ⟨oy, hoy, Vy, dy, ry⟩ := R.objs _ (.tail _ (.head _))
  have nx := R.new _ (.head _)
  have ny := R.new _ (.tail _ (.head _))
  have nd := R.nodup
  simp only [List.map_cons, List.nodup_cons, List.mem_cons, not_or] at nd
  dsimp only at hox hoy nx ny
  have hp : ∀ b o, κ.p b = some o → (if b = cx then some ox else if b = cy then some oy else κ.p b) = some o := fun b o e => by
    rw [if_neg (fun q => by rw [q, nx] at e; cases e), if_neg (fun q => by rw [q, ny] at e; cases e)]; exact e
  refine ⟨⟨fun b => if b = cx then some ox else if b = cy then some oy else κ.p b, κ.av, fun a ha => ?_⟩, rfl, hp, fun b e => ?_, fun b h1 h2 => ?_, ⟨ox, Vx, hox, if_pos rfl, dx, rx⟩, ⟨oy, Vy, hoy, ?_, dy, ry⟩, ?_⟩
  · intro q
    cases e : κ.p a with
    | none => exact absurd e (κ.ok a ha)
    | some o => rw [hp a o e] at q; cases q
  · cases e' : κ.p b with
    | none => rfl
    | some o => have := hp b o e'; dsimp only at e; rw [this] at e; cases e
  · dsimp only; rw [if_neg h1, if_neg h2]
  · dsimp only; rw [if_neg (fun q => nd.1.1 q.symm), if_pos rfl]
  · exact {
      prot := fun b o e => by
        dsimp only at e
        by_cases q : b = cx
        · rw [if_pos q] at e; cases e; rw [q]; exact hox
        · rw [if_neg q] at e
          by_cases q' : b = cy
          · rw [if_pos q'] at e; cases e; rw [q']; exact hoy
          · rw [if_neg q'] at e; exact R.prot b o e
      objs := fun p hp => R.objs p (.tail _ (.tail _ hp))
      nodup := nd.2.2
      new := fun p hp => by
        have m1 : p.1 ∈ List.map (fun x => x.fst) σ := List.mem_map_of_mem hp
        dsimp only
        rw [if_neg (fun q : p.1 = cx => nd.1.2 (by rw [q] at m1; exact m1)), if_neg (fun q : p.1 = cy => nd.2.1 (by rw [q] at m1; exact m1))]
        exact R.new p (.tail _ (.tail _ hp)) }

/-- an inner function called -/
theorem fn_clo {f c' cx cy : Addr} {o oc : Obj} {fd : FuncData} {body : List Stmt} {names : List Str} {x y : Str} {xs : List AV} {vx vy : AV} {P : AV → Sto → Prop} (G : Γ.Ok mg mb) (O : CloOk o oc fd body names x y cx cy c') (hf : (f, .obj o) ∈ σ) (hoc : (c', .obj oc) ∈ σ)
    (hlen : xs.length = names.length) (hloc : ∀ x ∈ names, fd.scope.names.lookup x = some .local) (hcell : ∀ x ∈ fd.scope.names, x.2 ≠ .cell) (kx : fd.scope.names.lookup x = some .free) (ky : fd.scope.names.lookup y = some .free)
    (h : Exs Γ k fd.scope body (names.zip xs ++ [(x, vx), (y, vy)]) σ fun fl _ σ' => Drp σ' fun σ'' => P (retv fl) ((cx, .cell vx) :: (cy, .cell vy) :: σ'')) : CalC Γ (k + 1) (.ref f) xs ((cx, .cell vx) :: (cy, .cell vy) :: σ) P := fun A κ s Xs hA l R rs => by
  obtain ⟨κ', av', up', dn', oth', ⟨ox, Vx, hox, px, dx, rx⟩, ⟨oy, Vy, hoy, py, dy, ry⟩, R'⟩ := R.lock2
  have l' : Γ.le κ' := fun b o e => up' b o (l b o e)
  have up := l'.up R'
  have hcd : s.heap.CodeRec fd.code fd.qualname := by
    obtain ⟨vs, t, a, b⟩ := O.crec
    exact ⟨c', oc, vs, t, O.code, R'.ob hoc, a, b⟩
  refine (codeAny_call_def hA.room (R'.ob hf) O.data (G.nolimit.keeps up) hcd O.hb (.of_eq (O.bind Xs (by rw [rs.length, hlen]))) hcell (fun x hx => hloc x.1 (List.of_mem_zip hx).1) (fun h₀ hns hkeep => ?_) O.co O.gen O.kind)
  have fit : Fits fd.scope (callEnv fd s.heap.objs.size f) := ⟨rfl, O.kind, O.glob, O.blt, fun _ => rfl⟩
  have R₀ : RepS κ' σ h₀ := R'.keep hkeep
  have Lκ : κ'.p s.heap.objs.size = none := by
    cases e : κ'.p s.heap.objs.size with
    | none => rfl
    | some o => exact absurd (R'.prot _ _ e) (by rw [size_new]; simp)
  have Lσ : s.heap.objs.size ∉ keys σ := fun hm => by
    obtain ⟨o, e, _⟩ := R'.live hm
    rw [size_new] at e; cases e
  have look : ∀ z v, (names.zip xs ++ [(x, vx), (y, vy)]).lookup z = some v → (names.zip xs).lookup z = some v ∨ (z = x ∧ v = vx) ∨ (z = y ∧ v = vy) := fun z v e => by
    rw [List.lookup_append] at e
    cases e1 : (names.zip xs).lookup z with
    | some w => rw [e1] at e; cases e; exact .inl rfl
    | none =>
      rw [e1] at e
      simp only [Option.none_or, List.lookup_cons, List.lookup_nil] at e
      by_cases q : z = x
      · subst q; rw [beq_self_eq_true] at e; cases e; exact .inr (.inl ⟨rfl, rfl⟩)
      · rw [beq_eq_false_iff_ne.mpr q] at e
        by_cases q' : z = y
        · subst q'; simp only [beq_self_eq_true] at e; cases e; exact .inr (.inr ⟨rfl, rfl⟩)
        · simp only [beq_eq_false_iff_ne.mpr q'] at e; cases e
  have F : FRel κ' (callEnv fd s.heap.objs.size f) (names.zip xs ++ [(x, vx), (y, vy)]) σ h₀ := {
    ns := ⟨_, hns, fun z v hz hk => by
      rw [fit.kindOf] at hk
      rcases look z v hz with hz | ⟨rfl, rfl⟩ | ⟨rfl, rfl⟩
      · obtain ⟨_, V, a, b⟩ := zip_lookup rs hz
        refine ⟨V, ?_, av' ▸ b.mono (.of_keeps hkeep)⟩
        rw [zip_rev_lookup _ _ O.nodup]; exact a
      · rw [kx] at hk; cases hk
      · rw [ky] at hk; cases hk⟩
    cell := fun x hx => by
      rw [fit.kindOf] at hx
      obtain ⟨p, hp, e⟩ : ∃ p ∈ fd.scope.names, p.2 = .cell := ⟨(x, .cell), mem_of_lookup hx, rfl⟩
      exact absurd e (hcell p hp)
    free := fun z v hz hk => by
      rcases look z v hz with hz | ⟨rfl, rfl⟩ | ⟨rfl, rfl⟩
      · obtain ⟨m, _⟩ := zip_lookup rs hz
        rw [fit.kindOf, hloc z m] at hk; cases hk
      · exact ⟨cx, ox, Vx, O.clx, px, dx, av' ▸ rx.mono (.of_keeps hkeep)⟩
      · exact ⟨cy, oy, Vy, O.cly, py, dy, av' ▸ ry.mono (.of_keeps hkeep)⟩
    apart := fun x y c hx => by
      rw [fit.kindOf] at hx
      exact absurd rfl (hcell (x, .cell) (mem_of_lookup hx))
    Lnew := ⟨Lκ, Lσ⟩
    cnew := fun x c hx => by
      rw [fit.kindOf] at hx
      exact absurd rfl (hcell (x, .cell) (mem_of_lookup hx)) }
  refine wp_no (h _ κ' _ { s with heap := h₀, toks := s.toks + (names.zip Xs).length } (hA.deeper _) l' fit ⟨R₀, F⟩) fun fl s' pst0 => ?_
  obtain ⟨g, loc', σ', h', tk, e, q, R1, r, σ'', hsub, p⟩ := pst0
  subst e
  have R2 := R1.s.sub hsub
  have tkA : TK κ.av s.heap h' := (TK.of_keeps hkeep).trans (av' ▸ q)
  have nd := R.nodup
  simp only [List.map_cons, List.nodup_cons, List.mem_cons, not_or] at nd
  have R3 : RepS κ ((cx, .cell vx) :: (cy, .cell vy) :: σ'') h' := {
    prot := fun b o e => R2.prot b o (up' b o e)
    objs := fun p hp => by
      rcases List.mem_cons.mp hp with e | hp
      · subst e; exact ⟨ox, R2.prot _ _ px, Vx, dx, rx.mono tkA⟩
      · rcases List.mem_cons.mp hp with e | hp
        · subst e; exact ⟨oy, R2.prot _ _ py, Vy, dy, ry.mono tkA⟩
        · obtain ⟨ob, e, r⟩ := R2.objs p hp
          exact ⟨ob, e, av' ▸ r⟩
    nodup := by
      simp only [List.map_cons, List.nodup_cons, List.mem_cons, not_or]
      refine ⟨⟨nd.1.1, fun hm => ?_⟩, fun hm => ?_, R2.nodup⟩
      · exact R2.not_key px hm
      · exact R2.not_key py hm
    new := fun p hp => by
      rcases List.mem_cons.mp hp with e | hp
      · subst e; exact R.new _ (.head _)
      · rcases List.mem_cons.mp hp with e | hp
        · subst e; exact R.new _ (.tail _ (.head _))
        · exact dn' _ (R2.new p hp) }
  refine ⟨_, _, h', tk, rfl, R3, ?_, p⟩
  cases r with
  | next => exact .none
  | brk => exact .none
  | cont => exact .none
  | ret r => exact av' ▸ r

theorem locB {sc : Scope} {names : List Str} (h : (names.all fun x => sc.names.lookup x == some .local) = true) : ∀ x ∈ names, sc.names.lookup x = some .local := fun x hx => by
  simpa using List.all_eq_true.mp h x hx
theorem locB2 {sc : Scope} {names : List Str} (h : (names.all fun x => sc.names.lookup x == some .local || sc.names.lookup x == some .cell) = true) : ∀ x ∈ names, sc.names.lookup x = some .local ∨ sc.names.lookup x = some .cell := fun x hx => by
  simpa using List.all_eq_true.mp h x hx
theorem cellB {sc : Scope} (h : (sc.names.all fun x => x.2 != .cell) = true) : ∀ x ∈ sc.names, x.2 ≠ .cell := fun x hx => by
  simpa using List.all_eq_true.mp h x hx
theorem fn_defB {f : Addr} {fd : FuncData} {body : List Stmt} {names : List Str} {xs : List AV} {P : AV → Sto → Prop} (G : Γ.Ok mg mb) (O : FnOk Γ f fd body names)
    (hlen : xs.length = names.length) (hloc : (names.all fun x => fd.scope.names.lookup x == some .local) = true) (hcell : (fd.scope.names.all fun x => x.2 != .cell) = true)
    (h : Exs Γ k fd.scope body (names.zip xs) σ fun fl _ σ' => Drp σ' (P (retv fl))) : CalC Γ (k + 1) (.ref f) xs σ P := fn_def G O hlen (locB hloc) (cellB hcell) h
theorem fn_cellsB {f : Addr} {fd : FuncData} {body : List Stmt} {names : List Str} {xs : List AV} {P : AV → Sto → Prop} (G : Γ.Ok mg mb) (O : FnOk Γ f fd body names)
    (hlen : xs.length = names.length) (hloc : (names.all fun x => fd.scope.names.lookup x == some .local || fd.scope.names.lookup x == some .cell) = true)
    (h : Exs Γ k fd.scope body (names.zip xs) σ fun fl _ σ' => Drp σ' (P (retv fl))) : CalC Γ (k + 1) (.ref f) xs σ P := fn_cells G O hlen (locB2 hloc) h
end
end Mine
namespace Mine
/-- locals known here are known there -/
noncomputable def Sub (l' l : Loc) : Prop := ∀ x v, l'.lookup x = some v → l.lookup x = some v
theorem sub_nil {l : Loc} : Sub [] l := fun _ _ e => by cases e
theorem sub_cons {x : Str} {v : AV} {r l : Loc} (h : l.lookup x = some v) (hr : Sub r l) : Sub ((x, v) :: r) l := fun y w e => by
  rw [List.lookup_cons] at e
  by_cases q : y = x
  · subst q; rw [beq_self_eq_true] at e; cases e; exact h
  · rw [beq_eq_false_iff_ne.mpr q] at e; exact hr y w e
theorem Sub.refl (l : Loc) : Sub l l := fun _ _ e => e

section
variable {Γ : Gd} {k : Nat} {sc : Scope} {loc loc' : Loc} {σ σ' : Sto} {target : Expr} {body : List Stmt} {P : AFl → Loc → Sto → Prop}
theorem Rep.less {κ : Kap} {env : Env} {h : Heap} (R : Rep κ env loc σ h) (hl : Sub loc' loc) (hs : σ'.Sublist σ) : Rep κ env loc' σ' h :=
  ⟨R.s.sub hs, (R.f.forget hl).sub fun _ ha => (hs.map _).subset ha⟩
theorem exs_sub {st : List Stmt} (h : Exs Γ k sc st loc' σ' P) (hl : Sub loc' loc) (hs : σ'.Sublist σ) : Exs Γ k sc st loc σ P := fun A κ env s hA l f R => h A κ env s hA l f (R.less hl hs)
theorem whl_sub {test : Expr} (h : Whl Γ k sc test body loc' σ' P) (hl : Sub loc' loc) (hs : σ'.Sublist σ) : Whl Γ k sc test body loc σ P := fun A κ env s hA l f R => h A κ env s hA l f (R.less hl hs)
theorem forC_sub {it : Addr} (h : ForC Γ k sc target body it loc' σ' P) (hl : Sub loc' loc) (hs : σ'.Sublist σ) : ForC Γ k sc target body it loc σ P := fun A κ env s hA l f R => h A κ env s hA l f (R.less hl hs)
theorem for_sub {src : Sto} {vs : List AV} (h : For Γ k sc target body src vs loc' σ' P) (hl : Sub loc' loc) (hs : σ'.Sublist σ) (hm : ∀ p ∈ src, p ∈ σ') : For Γ k sc target body src vs loc σ P := fun I e A κ env s i hA l f hn R _ hcv =>
  h I e A κ env s i hA l f hn (R.less hl hs) (fun p hp => hm p (e ▸ hp)) hcv
theorem cmp_sub {ifs : List Expr} {elt iter : Expr} {scope : Scope} {pos : Pos} {src : Sto} {D : Addr} {vs : List AV} {P : Sto → Prop} (h : Cmp Γ k sc target ifs elt iter scope pos src D vs loc' σ P) (hl : Sub loc' loc) : Cmp Γ k sc target ifs elt iter scope pos src D vs loc σ P := fun I e A κ env s i hA l f hn R hs hcv =>
  h I e A κ env s i hA l f hn (R.less hl (.refl _)) hs hcv
/-- a for, by its turns -/
theorem for_ind {ι α : Type} {src : Sto} (L : ι → Loc) (S : ι → Sto) (g : α → AV) (I : List α → ι → Prop) (hsrc : ∀ i, ∀ p ∈ src, p ∈ S i)
    (step : ∀ x xs i, I (x :: xs) i → Asg Γ k sc target (g x) (L i) (S i) fun l₁ σ₁ => Exs Γ k sc body l₁ σ₁ (Turn P fun l σ' => ∃ j, I xs j ∧ Sub (L j) l ∧ (S j).Sublist σ'))
    (done : ∀ i, I [] i → P .next (L i) (S i)) : ∀ xs i, I xs i → For Γ k sc target body src (xs.map g) (L i) (S i) P
  | [], i, h => for_nil (done i h)
  | x :: xs, i, h => by
    refine for_cons fun A κ env s V hA l f R r => wpA (step x xs i h A κ env s V hA l f R r) fun l₁ σ₁ h' tk q R' p => ⟨l₁, σ₁, h', tk, rfl, q, R', exs_mono p fun fl l₂ σ₂ t => ?_⟩
    have go : (∃ j, I xs j ∧ Sub (L j) l₂ ∧ (S j).Sublist σ₂) → (∀ p ∈ src, p ∈ σ₂) ∧ For Γ k sc target body src (xs.map g) l₂ σ₂ P := fun ⟨j, hj, hl, hs⟩ =>
      ⟨fun p hp => hs.subset (hsrc j p hp), for_sub (for_ind L S g I hsrc step done xs j hj) hl hs (hsrc j)⟩
    cases fl with
    | next => exact go t
    | cont => exact go t
    | brk => exact t
    | ret v => exact t
/-- a while, by its turns -/
theorem whl_ind {ι : Type} {test : Expr} (L : ι → Loc) (S : ι → Sto) (rank : ι → Nat)
    (step : ∀ i, Ts Γ k sc test (L i) (S i) fun b σ' => Both b (Exs Γ k sc body (L i) σ' (Turn P fun l σ'' => ∃ j, rank j < rank i ∧ Sub (L j) l ∧ (S j).Sublist σ'')) (P .next (L i) σ')) : ∀ i, Whl Γ k sc test body (L i) (S i) P := by
  have key : ∀ n i, rank i < n → Whl Γ k sc test body (L i) (S i) P := by
    intro n
    induction n with
    | zero => intro i h; exact absurd h (Nat.not_lt_zero _)
    | succ n ih =>
      intro i h
      refine whl (ts_mono (step i) fun b σ' ⟨t, e⟩ => ⟨fun hb => exs_mono (t hb) fun fl l₂ σ₂ t => ?_, e⟩)
      have go : (∃ j, rank j < rank i ∧ Sub (L j) l₂ ∧ (S j).Sublist σ₂) → Whl Γ k sc test body l₂ σ₂ P := fun ⟨j, hj, hl, hs⟩ => whl_sub (ih j (by omega)) hl hs
      cases fl with
      | next => exact go t
      | cont => exact go t
      | brk => exact t
      | ret v => exact t
  exact fun i => key _ i (Nat.lt_succ_self _)
/-- a for over a callable's iterator, by its turns -/
theorem forC_ind {ι : Type} {z : Str} {zp : Pos} {it : Addr} (L : ι → Loc) (S : ι → Sto) (rank : ι → Nat)
    (step : ∀ i, Nx Γ k it (S i) fun r σ₁ => match r with
      | none => P .next (L i) σ₁
      | some v => Asg Γ k sc (.Name z zp) v (L i) σ₁ fun l σ₂ => Exs Γ k sc body l σ₂ (Turn P fun l σ' => ∃ j, rank j < rank i ∧ Sub (L j) l ∧ (S j).Sublist σ')) : ∀ i, ForC Γ k sc (.Name z zp) body it (L i) (S i) P := by
  have key : ∀ n i, rank i < n → ForC Γ k sc (.Name z zp) body it (L i) (S i) P := by
    intro n
    induction n with
    | zero => intro i h; exact absurd h (Nat.not_lt_zero _)
    | succ n ih =>
      intro i h
      refine forC fun A κ s hA l R => wp_no (step i A κ s hA l R) fun r s' ⟨v, σ', h', tk, e, R', m, p⟩ => ⟨v, σ', h', tk, e, R', m, ?_⟩
      cases v with
      | none => exact p
      | some v =>
        refine fun A κ env s V hA l f R r => wpA (p A κ env s V hA l f R r) fun l₁ σ₁ h' tk q R' p => ⟨l₁, σ₁, h', tk, rfl, q, R', exs_mono p fun fl l₂ σ₂ t => ?_⟩
        have go : (∃ j, rank j < rank i ∧ Sub (L j) l₂ ∧ (S j).Sublist σ₂) → ForC Γ k sc (.Name z zp) body it l₂ σ₂ P := fun ⟨j, hj, hl, hs⟩ => forC_sub (ih j (by omega)) hl hs
        cases fl with
        | next => exact go t
        | cont => exact go t
        | brk => exact t
        | ret v => exact t
  exact fun i => key _ i (Nat.lt_succ_self _)
end
end Mine
namespace Mine
theorem forIn_steps {β : Type} (f : Nat → β → Sem (ForInStep β)) (S : Nat → β) (n : Nat) (h : ∀ x i, i < n → f x (S i) = pure (.yield (S (i + 1)))) : ∀ (l : List Nat) (i : Nat), i + l.length = n → forIn l (S i) f = pure (S n)
  | [], i, e => by rw [List.forIn_nil]; simp at e; subst e; rfl
  | x :: l, i, e => by
    rw [List.forIn_cons, h x i (by simp at e; omega)]
    show forIn l (S (i + 1)) f = _
    exact forIn_steps f S n h l (i + 1) (by simp at e ⊢; omega)
open Builtin in
theorem dec_ascii (id : String) (l : List UInt8) (ha : ∀ c ∈ l, c.toNat < 128) (hl : l.length ≤ 1000) :
    _codecs.runDecoder id _codecs.utf8Decoder none true l.toArray 0 [] = pure ((l.map (·.toNat)).toArray, l.length) := by
  unfold _codecs.runDecoder
  simp only [Std.Legacy.Range.forIn_eq_forIn_range']
  refine Eq.trans (congr (congrArg Bind.bind (forIn_steps _ (fun i => (i, ((l.take i).map (·.toNat)).toArray, ({} : _codecs.Faults))) l.length ?_ _ 0 (by simp [Std.Legacy.Range.size]))) rfl) ?_
  · intro x i hi
    have h1 : ¬ (((l.take i).map (·.toNat)).toArray.size > sizeLine) := by rw [sizeLine_eq]; simp; omega
    have h2 : ¬ (i ≥ l.toArray.size) := by simp; omega
    have h3 : _codecs.utf8Decoder.find true l.toArray i = .text [(l[i]).toNat] (i + 1) := by
      have e : (l.toArray.getD i 0) = l[i] := by simp [Array.getD, hi]
      have hc : (l[i]).toNat < 128 := ha _ (List.getElem_mem _)
      have u : Bytes.utf8At l.toArray i = (.char (l[i]).toNat, i + 1) := by
        unfold Bytes.utf8At
        simp only [e, hc, if_true]
      unfold _codecs.utf8Decoder
      simp only [u]
      rfl
    simp only [if_neg h1, if_neg h2, h3]
    congr 3
    have et : l.take (i + 1) = l.take i ++ [l[i]] := by rw [List.take_add_one]; simp [hi]
    have em : (l.map (·.toNat)).take (i + 1) = (l.map (·.toNat)).take i ++ [(l[i]).toNat] := by rw [List.take_add_one]; simp [hi]
    simp [em]
  · rw [pure_bind]
    simp
section
variable {Γ : Gd} {k : Nat} {sc : Scope} {loc : Loc} {σ : Sto}
theorem cal_decode {l : List UInt8} {P : AV → Sto → Prop} (hne : l ≠ []) (ha : ∀ c ∈ l, c.toNat < 128) (hl : l.length ≤ 1000) (h : P (.str (ofL (l.map (·.toNat)))) σ) : Cal Γ k (.builtin "bytes.decode") [.bytes l.toArray] σ P := fun _ κ s _ _ _ R r => by
  cases r with
  | cons a r =>
    cases a; cases r
    cases l with
    | nil => exact absurd rfl hne
    | cons c cs => exact PySem.W.KBd.decode (fun id => dec_ascii id _ ha hl) (by show (ofL _).length ≤ _; rw [ofL_length]; simp at hl ⊢; omega) fun t' tk => ⟨_, σ, s.heap, tk, rfl, R, .str _ _, h⟩
theorem tr_list {a : Addr} {xs : List AV} {P : Bool → Sto → Prop} (hm : (a, .list xs) ∈ σ) (hl : xs.length < 2 ^ 62) (h : P (!xs.isEmpty) σ) : Tr Γ k (.ref a) σ P := fun _ κ s _ _ _ R r => by
  cases r
  obtain ⟨vs, n, e, rs⟩ := R.list hm
  refine wpAny_truthy_list (items := vs.toArray) ⟨_, e, rfl, n, rfl⟩ (by rw [rs.size]; omega) ⟨σ, s.heap, _, rfl, R, ?_⟩
  have : vs.toArray.isEmpty = xs.isEmpty := by
    have := rs.length
    cases vs <;> cases xs <;> simp_all
  rw [this]; exact h
/-- an item set -/
noncomputable def It1 (Γ : Gd) (k : Nat) (ov i v : AV) (σ : Sto) (P : Sto → Prop) : Prop :=
  ∀ A κ s O I V, AOk k A → Γ.le κ → RepS κ σ s.heap → VRel κ.av s.heap ov O → VRel κ.av s.heap i I → VRel κ.av s.heap v V → wpAny Γ.M A (setItem O I V) (fun _ s' => ∃ σ' h' tk, s' = { s with heap := h', toks := tk } ∧ RepS κ σ' h' ∧ P σ') No s
theorem it_list {a : Addr} {xs : List AV} {i : Int} {v : AV} {σ' : Sto} {P : Sto → Prop} (hat : At σ a (.list xs) (.list (xs.set i.toNat v)) σ') (h0 : 0 ≤ i) (h1 : i < xs.length) (hi : i < 2 ^ 63) (h : P σ') : It1 Γ k (.ref a) (.int i) v σ P := fun A κ s O I V hA l R ro ri rv => by
  cases ro; cases ri
  exact set_list hat h0 h1 hi h R rv
theorem asg_item {o i : Expr} {pos : Pos} {v : AV} {P : Loc → Sto → Prop} (h : Ev Γ k sc o loc σ fun ov σ₁ => Ev Γ k sc i loc σ₁ fun iv σ₂ => It1 Γ k ov iv v σ₂ (P loc)) : Asg Γ k sc (.Subscript o i pos) v loc σ P := fun A κ env s V hA l f R r => by
  rw [assign_Subscript]
  refine wpAny_bind (wpAny_holding (wpE (h A κ env s hA l f R) fun W w σ₁ h₁ tk₁ q₁ R₁ r₁ p₁ => ?_))
  refine wpAny_bind (wpAny_holding (wpE (p₁ A κ env _ hA l f R₁) fun W₂ w₂ σ₂ h₂ tk₂ q₂ R₂ r₂ p₂ => ?_))
  refine wpAny_bind (wpAny_standAt (wpAny_bind (wpAny_holding (wpU (p₂ A (mx R₂.s) _ W W₂ V hA (Gd.le_mx R₂.s l) R₂.s.mx (r₁.mono q₂) r₂ ((r.mono q₁).mono q₂)) fun σ₃ h₃ tk₃ R₃ p₃ => ?_))))
  obtain ⟨q₃, R₃'⟩ := frame_step R₂ R₃
  exact wpAny_release ⟨loc, σ₃, h₃, tk₃, rfl, (q₁.trans q₂).trans q₃, R₃', p₃⟩

theorem strs_of {av : Avd} {h : Heap} : ∀ {ts : List Str} {vs : List Value}, VRels av h (ts.map .str) vs → ∃ l : List (Str × Tok), l.map (·.1) = ts ∧ vs = strValues l
  | [], _, .nil => ⟨[], rfl, rfl⟩
  | t :: ts, _, .cons r rs => by
    cases r
    rename_i u
    obtain ⟨l, e1, e2⟩ := strs_of rs
    exact ⟨(t, u) :: l, by simp [e1], by rw [e2]; rfl⟩
theorem cal_join {sep : Str} {a : Addr} {ts : List Str} {P : AV → Sto → Prop} (hm : (a, .list (ts.map .str)) ∈ σ) (hl : (ts.map (·.length)).sum + ts.length * sep.length ≤ 16777216) (h : P (.str (Builtin.Str.glued sep ts)) σ) : Cal Γ k (.builtin "str.join") [.str sep, .ref a] σ P := fun _ κ s _ _ _ R r => by
  cases r with
  | cons x r =>
    cases x
    cases r with
    | cons y r =>
      cases y; cases r
      obtain ⟨vs, n, e, rs⟩ := R.list hm
      obtain ⟨l, e1, rfl⟩ := strs_of rs
      have hok : JoinOk sep ts = true := by
        unfold JoinOk
        rw [StrLaws.joinTotal]
        unfold Builtin.Str.tooLong
        rw [sizeLine_eq]; simp; omega
      exact SC.join (l := l) ⟨_, e, rfl, n, rfl⟩ e1 hok fun t' tk => ⟨_, σ, s.heap, tk, rfl, R, .str _ _, h⟩
theorem glued_ofL : ∀ (ls : List (List Nat)), Builtin.Str.glued (ofL []) (ls.map ofL) = ofL ls.flatten
  | [] => rfl
  | l :: ls => by
    have key : ∀ (ls : List (List Nat)) (acc : List Nat), (ls.map ofL).foldl (fun acc p => acc ++ (ofL []).cps ++ p.cps) acc.toArray = (acc ++ ls.flatten).toArray := by
      intro ls
      induction ls with
      | nil => intro acc; simp
      | cons l ls ih =>
        intro acc
        simp only [List.map_cons, List.foldl_cons, List.flatten_cons]
        have : acc.toArray ++ (ofL []).cps ++ (ofL l).cps = (acc ++ l).toArray := by simp [ofL]
        rw [this, ih]; simp
    show (⟨(ls.map ofL).foldl (fun acc p => acc ++ (ofL []).cps ++ p.cps) l.toArray⟩ : Str) = _
    rw [key]; rfl
end
end Mine
namespace Mine
/-- what the head leaves -/
structure Wd (Γ : Gd) (K : Frag) (mg mb : Str → Option Value) : Prop where
  X : K.In Γ.hB
  ok : Γ.Ok mg mb
  boot : ∀ x : Str, x ≠ "__name__" → mb x = bootBuiltins x

section
variable {Γ : Gd} {k : Nat} {sc : Scope} {loc : Loc} {σ : Sto} {K : Frag} {mg mb : Str → Option Value}
theorem mg_none {h : Heap} {n : Str} (X : K.In h) (G : h.Ns mainGlobals mg) (e : nsIn K mainGlobals n = some none) : mg n = none := by
  obtain ⟨o, es, ep, ho, hd, _, hf⟩ := G
  unfold nsIn at e
  split at e
  · rename_i c d es' n' sl q
    have e1 := X _ _ q
    rw [ho] at e1; cases e1; cases hd
    split at e
    · cases e
    · rename_i q2
      rw [← hf]
      unfold nsFind findBy
      rw [← Array.find?_toList, q2]; rfl
  · cases e
/-- f(args), f a def or a class of the program -/
theorem ev_callG {x : Str} {p pos : Pos} {es : List Expr} {P : AV → Sto → Prop} (W : Wd Γ K mg mb) (f : Addr) (hs : es.all noStar = true) (hk : sc.names.lookup x = some .globalImplicit) (hg : nsIn K mainGlobals x = some (some (.ref f))) (hkp : keepIn K (.ref f) = true) (hd : (x == ("__debug__" : Str)) = false)
    (h : Evs Γ k sc es loc σ fun vs σ₂ => Cal Γ k (.ref f) vs σ₂ P) : Ev Γ k sc (.Call (.Name x p) es [] pos) loc σ P :=
  ev_call hs (ev_global W.ok hk (mg_of W.X W.ok.g hg) ⟨_, rfl, fun A κ env s pos hA l fi R => wpL (h A κ env s pos hA l fi R) fun Vs vs σ' h' tk b c d e => ⟨vs, σ', h', tk, rfl, b, c, d, fun κ' h₂ l' R' => keeps_K hkp h₂ (W.X.keeps (l'.up R')), e⟩⟩ hd)
/-- f(args), f a builtin -/
theorem ev_callB {x : Str} {p pos : Pos} {es : List Expr} {P : AV → Sto → Prop} (W : Wd Γ K mg mb) (id : String) (hs : es.all noStar = true) (hk : sc.names.lookup x = some .globalImplicit) (hg : nsIn K mainGlobals x = some none) (hx : x ≠ "__name__") (hb : bootBuiltins x = some (.builtin id)) (hd : (x == ("__debug__" : Str)) = false)
    (h : Evs Γ k sc es loc σ fun vs σ₂ => Cal Γ k (.builtin id) vs σ₂ P) : Ev Γ k sc (.Call (.Name x p) es [] pos) loc σ P :=
  ev_call hs (ev_builtin W.ok hk (mg_none W.X W.ok.g hg) (by rw [W.boot x hx]; exact hb) ⟨_, rfl, fun A κ env s pos hA l fi R => wpL (h A κ env s pos hA l fi R) fun Vs vs σ' h' tk b c d e => ⟨vs, σ', h', tk, rfl, b, c, d, kpr_builtin, e⟩⟩ hd)
theorem ev_callT {x : Str} {p pos : Pos} {es : List Expr} {P : AV → Sto → Prop} (W : Wd Γ K mg mb) (id : String) (hs : es.all noStar = true) (hk : sc.names.lookup x = some .globalImplicit) (hg : nsIn K mainGlobals x = some none) (hx : x ≠ "__name__") (hb : bootBuiltins x = some (.type id)) (hd : (x == ("__debug__" : Str)) = false)
    (h : Evs Γ k sc es loc σ fun vs σ₂ => Cal Γ k (.type id) vs σ₂ P) : Ev Γ k sc (.Call (.Name x p) es [] pos) loc σ P :=
  ev_call hs (ev_builtin W.ok hk (mg_none W.X W.ok.g hg) (by rw [W.boot x hx]; exact hb) ⟨_, rfl, fun A κ env s pos hA l fi R => wpL (h A κ env s pos hA l fi R) fun Vs vs σ' h' tk b c d e => ⟨vs, σ', h', tk, rfl, b, c, d, kpr_type, e⟩⟩ hd)
theorem evO_none {P : Option Int → Sto → Prop} (h : P none σ) : EvO Γ k sc none loc σ P := h
theorem evO_some {e : Expr} {P : Option Int → Sto → Prop} (h : Ev Γ k sc e loc σ fun v σ' => ∃ i, v = .int i ∧ P (some i) σ') : EvO Γ k sc (some e) loc σ P := h
end
end Mine
namespace Mine
section
variable {Γ : Gd} {k : Nat} {sc : Scope} {loc : Loc} {σ : Sto} {target : Expr}
/-- a list comprehension, its side conditions told by Bool -/
theorem ev_listcompB {elt iter : Expr} {ifs : List Expr} {scope : Scope} {pos : Pos} {P : AV → Sto → Prop}
    (hcell : (scope.names.all fun x => x.2 != .cell) = true) (hkind : scope.kind = .function) (hnames : (scope.names.all fun x => x.2 != .local || scope.names.lookup x.1 == some .local) = true)
    (hfr : (scope.names.all fun x => x.2 != .free || sc.names.lookup x.1 == some .cell) = true) (h0 : ((relS scope sc).names.lookup (Str.ofString ".0")).isSome = true)
    (h : Ev Γ k sc iter loc σ fun v σ₁ => ∃ src vs, Mk Γ k target v σ₁ src vs ∧ (∀ p ∈ src, p ∈ σ₁) ∧ ∀ D, Cmp Γ k (relS scope sc) target ifs elt iter scope pos src D vs (cloc (relS scope sc) loc) ((D, .list []) :: σ₁) fun σ₂ => P (.ref D) σ₂)
    (hs : ∀ env x, foldedSetIterable iter env x = pure x) : Ev Γ k sc (.ListComp elt [⟨target, iter, ifs, 0⟩] scope pos) loc σ P :=
  ev_listcomp (cellB hcell) hkind (fun x hx e => by have := List.all_eq_true.mp hnames x hx; simpa [e] using this) (fun x hx e => by have := List.all_eq_true.mp hfr x hx; simpa [e] using this) (fun e => by rw [e] at h0; cases h0) h hs
/-- a comprehension without tests, by its turns -/
theorem cmp_ind {ι α : Type} {elt iter : Expr} {scope : Scope} {pos : Pos} {src : Sto} {D : Addr} {P : Sto → Prop} (L : Loc) (S : ι → Sto) (g : α → AV) (I : List α → ι → Prop) (hsrc : ∀ i, ∀ p ∈ src, p ∈ S i)
    (step : ∀ x xs i, I (x :: xs) i → Asg Γ k sc target (g x) L (S i) fun l₁ σ₁ => Ev Γ k sc elt l₁ σ₁ fun y σ₃ => ∃ ys σ₄, At σ₃ D (.list ys) (.list (ys ++ [y])) σ₄ ∧ ys.length ≤ sizeLine ∧ ∃ j, I xs j ∧ Sub L l₁ ∧ σ₄ = S j)
    (done : ∀ i, I [] i → P (S i)) : ∀ xs i, I xs i → Cmp Γ k sc target [] elt iter scope pos src D (xs.map g) L (S i) P
  | [], i, h => cmp_nil (done i h)
  | x :: xs, i, h => by
    refine cmp_cons fun A κ env s V hA l f R r => wpA (step x xs i h A κ env s V hA l f R r) fun l₁ σ₁ h' tk q R' p => ⟨l₁, σ₁, h', tk, rfl, q, R', ?_⟩
    show Both true _ _
    refine ⟨fun _ => ev_mono p fun y σ₃ ⟨ys, σ₄, at', hl, j, hj, hsub, e⟩ => ⟨ys, σ₄, at', hl, e ▸ hsrc j, ?_⟩, fun h => by cases h⟩
    subst e
    exact cmp_sub (cmp_ind L S g I hsrc step done xs j hj) hsub
end
end Mine
namespace Mine
section
variable {Γ : Gd} {k : Nat} {sc : Scope} {loc : Loc} {σ : Sto}

/-! a list unpacked -/
mutual
inductive AvD (σ : Sto) : AV → PyData → Prop
  | none : AvD σ .none .none
  | bool (b : Bool) : AvD σ (.bool b) (.bool b)
  | int (i : Int) : AvD σ (.int i) (.int i)
  | str (x : Str) : AvD σ (.str x) (.str x)
  | tup {xs : List AV} {ds : List PyData} : AvDs σ xs ds → AvD σ (.tup xs) (.tuple ds)
  | list {a : Addr} {xs : List AV} {ds : List PyData} : (a, AO.list xs) ∈ σ → AvDs σ xs ds → AvD σ (.ref a) (.list ds)
inductive AvDs (σ : Sto) : List AV → List PyData → Prop
  | nil : AvDs σ [] []
  | cons {x : AV} {d : PyData} {xs : List AV} {ds : List PyData} : AvD σ x d → AvDs σ xs ds → AvDs σ (x :: xs) (d :: ds)
end
mutual
theorem AvD.reads {κ : Kap} {h : Heap} (R : RepS κ σ h) : ∀ {x : AV} {d : PyData} {V : Value}, AvD σ x d → VRel κ.av h x V → ∃ as, Reads h V d as
  | _, _, _, .none, r => by cases r; exact ⟨_, .none⟩
  | _, _, _, .bool b, r => by cases r; exact ⟨_, .bool _⟩
  | _, _, _, .int i, r => by cases r; exact ⟨_, .int _ _⟩
  | _, _, _, .str x, r => by cases r; exact ⟨_, .str _ _⟩
  | _, _, _, .tup ds, r => by
    cases r with
    | tup na t rs =>
      obtain ⟨n, e⟩ := t
      obtain ⟨as, q⟩ := AvDs.reads R ds rs
      exact ⟨_, .tuple e rfl rfl (by simpa using q)⟩
  | _, _, _, .list hm ds, r => by
    cases r
    obtain ⟨vs, n, e, rs⟩ := R.list hm
    obtain ⟨as, q⟩ := AvDs.reads R ds rs
    exact ⟨_, .list e rfl rfl (by simpa using q)⟩
theorem AvDs.reads {κ : Kap} {h : Heap} (R : RepS κ σ h) : ∀ {xs : List AV} {ds : List PyData} {Vs : List Value}, AvDs σ xs ds → VRels κ.av h xs Vs → ∃ as, ReadsAll h Vs ds as
  | _, _, _, .nil, r => by cases r; exact ⟨_, .nil⟩
  | _, _, _, .cons d ds, r => by
    cases r with
    | cons r rs =>
      obtain ⟨as, q⟩ := d.reads R r
      obtain ⟨bs, p⟩ := ds.reads R rs
      exact ⟨_, .cons q p⟩
end
theorem AOk.deep {A : Around} (hA : AOk k A) {n : Nat} (h : n ≤ 40) : A.units + n < cLine := by have := hA.2.2; omega
theorem op_eq_deep {x y : AV} {d e : PyData} {P : AV → Sto → Prop} (hx : AvD σ x d) (hy : AvD σ y e) (c1 : PyData.canLay0 d = true) (c2 : PyData.canLay0 e = true) (dp : d.depth ≤ 40) (p : P (.bool (PyData.eqv d e)) σ) : Op2 Γ k (compareOp .Eq) x y σ P := fun A κ s X Y hA l R rx ry => by
  obtain ⟨as, q1⟩ := hx.reads R rx
  obtain ⟨bs, q2⟩ := hy.reads R ry
  exact PySem.SeqAt.eqOverData Γ.prog Γ.w A No s X Y d e as bs _ q1 q2 c1 c2 (hA.deep (by omega)) ⟨_, σ, s.heap, s.toks, rfl, R, .bool _, p⟩
theorem op_ne_deep {x y : AV} {d e : PyData} {P : AV → Sto → Prop} (hx : AvD σ x d) (hy : AvD σ y e) (c1 : PyData.canLay0 d = true) (c2 : PyData.canLay0 e = true) (dp : d.depth ≤ 40) (p : P (.bool (!PyData.eqv d e)) σ) : Op2 Γ k (compareOp .NotEq) x y σ P := fun A κ s X Y hA l R rx ry => by
  obtain ⟨as, q1⟩ := hx.reads R rx
  obtain ⟨bs, q2⟩ := hy.reads R ry
  exact PySem.SeqAt.neOverData Γ.prog Γ.w A No s X Y d e as bs _ q1 q2 c1 c2 (hA.deep (by omega)) ⟨_, σ, s.heap, s.toks, rfl, R, .bool _, p⟩
end
end Mine
namespace Mine
section
variable {Γ : Gd} {k : Nat} {sc : Scope} {loc : Loc} {σ : Sto}
/-- a call's arguments, whatever comes behind -/
theorem call_argsQ {F : Value} {es : List Expr} {P : List AV → Sto → Prop} {Q : Value → Shared → Prop} (hs : es.all noStar = true)
    (h : Evs Γ k sc es loc σ P) {A : Around} {κ : Kap} {env : Env} {s : Shared} (pos : Pos) (hA : AOk k A) (l : Γ.le κ) (f : Fits sc env) (R : Rep κ env loc σ s.heap)
    (q : ∀ Vs vs σ' h' tk, TK κ.av s.heap h' → Rep κ env loc σ' h' → VRels κ.av h' vs Vs → P vs σ' → Kpr Γ σ' F ∧ wpAny Γ.M A (call F Vs) Q No { s with heap := h', toks := tk }) :
    wpAny Γ.M A (callWith pos F [] (backTo pos (starEach es env)) []) Q No s := by
  refine callWith_of (P := fun h => ∃ kp, (kp = Keeper.frame ∨ kp = Keeper.machine ∨ kp = Keeper.boundFrame) ∧ Looks Γ.M h (keeperOf F) kp) ?_ (fun _ x => x) ?_
  · rw [starEach_eq hs, backTo_plain]
    simp
  · have fin : ∀ Vs s₁, PstL κ env loc s P Vs s₁ → (fun (a : Args) (s₁ : Shared) => (∃ kp, (kp = Keeper.frame ∨ kp = Keeper.machine ∨ kp = Keeper.boundFrame) ∧ Looks Γ.M s₁.heap (keeperOf F) kp) ∧ wpAny Γ.M A (call F ([] ++ a.pos) a.kw) Q No s₁) ⟨Vs, []⟩ s₁ := by
      intro Vs s₁ ⟨vs, σ₁, h₁, tk₁, e₁, q₁, R₁, r, p⟩
      subst e₁
      obtain ⟨kp, w⟩ := q Vs vs σ₁ h₁ tk₁ q₁ R₁ r p
      exact ⟨kp κ h₁ l R₁.s, w⟩
    have w := h A κ env s pos hA l f R
    cases es with
    | nil => exact fun Θ p hΘ => evalArgs_nil3 (fin [] s (w Θ p hΘ)) Θ p hΘ
    | cons e es =>
      have he : starEach (e :: es) env = (false, eval e env) :: starEach es env := by
        rw [starEach_eq hs, List.map_cons]
        simp only [List.all_cons, Bool.and_eq_true] at hs
        rw [starEach_eq hs.2]
      rw [he] at w ⊢
      exact evalArgs_plain (wp_no w fin)

/-- two lists side by side -/
noncomputable def zipT (xs ys : List AV) : List AV := List.zipWith (fun a b => .tup [a, b]) xs ys
theorem zipT_drop {xs ys : List AV} {i : Nat} {v : AV} {vs : List AV} (e : v :: vs = (zipT xs ys).drop i) : ∃ a b, xs[i]? = some a ∧ ys[i]? = some b ∧ v = .tup [a, b] ∧ vs = (zipT xs ys).drop (i + 1) := by
  have h0 : (zipT xs ys)[i]? = some v := by
    have := congrArg (fun l => l[0]?) e
    simpa using this.symm
  have h1 : vs = (zipT xs ys).drop (i + 1) := by
    have := congrArg List.tail e
    simpa using this
  unfold zipT at h0
  rw [List.getElem?_zipWith] at h0
  cases ex : xs[i]? with
  | none => rw [ex] at h0; simp at h0
  | some a =>
    cases ey : ys[i]? with
    | none => rw [ex, ey] at h0; simp at h0
    | some b => rw [ex, ey] at h0; simp at h0; exact ⟨a, b, rfl, rfl, h0.symm, h1⟩
theorem zipT_end {xs ys : List AV} {i : Nat} (e : [] = (zipT xs ys).drop i) : xs.length ≤ i ∨ ys.length ≤ i := by
  have h : (zipT xs ys).length ≤ i := by simpa using e.symm
  unfold zipT at h
  rw [List.length_zipWith] at h
  omega
theorem getA {av : Avd} {h : Heap} {xs : List AV} {vs : List Value} (r : VRels av h xs vs) {i : Nat} {x : AV} (e : xs[i]? = some x) : ∃ v, vs.toArray[i]? = some v ∧ VRel av h x v := by
  obtain ⟨v, a, b⟩ := r.get e
  exact ⟨v, by simpa using a, b⟩

noncomputable def ZSt (z TI TO i1 i2 l1 l2 : Addr) (f0 : Value) (i : Nat) (h : Heap) : Prop :=
  IsZip h z TI TO f0 ∧ IsPair h TI (.ref i1) (.ref i2) ∧ (∃ a b, IsPair h TO a b) ∧ h.IsListIter i1 l1 i ∧ h.IsListIter i2 l2 i
theorem ZSt.keep {z TI TO i1 i2 l1 l2 : Addr} {f0 : Value} {i : Nat} {h h' : Heap} (S : ZSt z TI TO i1 i2 l1 l2 f0 i h) (hk : ∀ a ∈ [z, TI, TO, i1, i2], ∀ o, h.get? a = some o → h'.get? a = some o) : ZSt z TI TO i1 i2 l1 l2 f0 i h' := by
  obtain ⟨a, b, ⟨x, y, c⟩, d, e⟩ := S
  exact ⟨hk _ (by simp) _ a, hk _ (by simp) _ b, ⟨x, y, hk _ (by simp) _ c⟩, d.at fun o q => hk _ (by simp) o q, e.at fun o q => hk _ (by simp) o q⟩
theorem ZSt.obj {z TI TO i1 i2 l1 l2 : Addr} {f0 : Value} {i : Nat} {h : Heap} (S : ZSt z TI TO i1 i2 l1 l2 f0 i h) : ∀ a ∈ [z, TI, TO, i1, i2], ∃ o, h.get? a = some o ∧ (a ∉ [TI, TO] → o.cls ≠ .type "tuple") ∧ ∀ V, o.data ≠ .cell V := by
  obtain ⟨a, b, ⟨x, y, c⟩, ⟨o1, d1, d2, d3⟩, ⟨o2, e1, e2, e3⟩⟩ := S
  intro q hq
  simp only [List.mem_cons, List.not_mem_nil, or_false] at hq
  rcases hq with rfl | rfl | rfl | rfl | rfl
  · exact ⟨_, a, fun _ => by show Value.type "zip" ≠ Value.type "tuple"; decide, fun V e => by cases e⟩
  · exact ⟨_, b, fun hn => absurd (by simp) hn, fun V e => by cases e⟩
  · exact ⟨_, c, fun hn => absurd (by simp) hn, fun V e => by cases e⟩
  · exact ⟨_, d1, fun _ => by rw [d2]; decide, fun V e => by rw [d3] at e; cases e⟩
  · exact ⟨_, e1, fun _ => by rw [e2]; decide, fun V e => by rw [e3] at e; cases e⟩
noncomputable def itrZip {elts : List Expr} {n : Nat} {pos : Pos} {z TI TO i1 i2 l1 l2 : Addr} (D : ZipApart z TI TO i1 i2 l1 l2) (xs ys : List AV) : Itr Γ k (.Tuple elts n pos) where
  IT := .ref z
  pv := [z, TI, TO, i1, i2]
  avs := [TI, TO]
  src := [(l1, .list xs), (l2, .list ys)]
  cv := []
  Inv vs h := ∃ i, ZSt z TI TO i1 i2 l1 l2 .none i h ∧ vs = (zipT xs ys).drop i
  sub a ha := by simp at ha ⊢; rcases ha with rfl | rfl <;> simp
  live vs h := fun ⟨i, S, _⟩ => S.obj
  frame vs h h' := fun ⟨i, S, e⟩ hk => ⟨i, S.keep hk, e⟩
  self A vs s Q := fun ⟨i, S, _⟩ q => wpAny_pyIter_zip S.1 q
  next A κ σ s v vs Q hA le R hp ha hs _ i hQ := by
    obtain ⟨i, S, e⟩ := i
    obtain ⟨a, b, ea, eb, rfl, et⟩ := zipT_drop e
    obtain ⟨xv, n1, el1, r1⟩ := R.list (hs (l1, .list xs) (by simp))
    obtain ⟨yv, n2, el2, r2⟩ := R.list (hs (l2, .list ys) (by simp))
    obtain ⟨X, hX, rX⟩ := getA r1 ea
    obtain ⟨Y, hY, rY⟩ := getA r2 eb
    obtain ⟨S1, S2, ⟨p, q, S3⟩, S4, S5⟩ := id S
    refine wpAny_pyNext_zip_item D S1 S2 S3 S4 S5 (xs := xv.toArray) (ys := yv.toArray) ⟨_, el1, rfl, n1, rfl⟩ ⟨_, el2, rfl, n2, rfl⟩ hX hY fun h' a1 a2 a3 a4 a5 a6 hk => ⟨_, rfl, ?_⟩
    refine wpAny_letOwnedTupleGo_zip (s := { s with heap := h' }) a1 fun h'' z'' sb => ?_
    have S' : ZSt z TI TO i1 i2 l1 l2 .none (i + 1) h'' := ⟨z'', sb.extBut _ _ D.TIz (hk _ _ D.TIz D.TITO D.TIi1 D.TIi2 S2), ⟨_, _, sb.extBut _ _ D.TOz a2⟩, a3.extBut sb.extBut D.i1z, a4.extBut sb.extBut D.i2z⟩
    have hlt : s.heap.objs.size ≠ z := Nat.ne_of_gt (Heap.lt_size S1)
    refine hQ _ h'' s.toks (fun c o hc ho => ?_) (fun c hc => ?_) (fun tk => ?_) ⟨i + 1, S', et⟩
    · simp only [List.mem_cons, List.not_mem_nil, or_false, not_or] at hc
      exact sb.extBut _ _ hc.1 (hk c o hc.1 hc.2.2.1 hc.2.2.2.1 hc.2.2.2.2 ho)
    · obtain ⟨o, ho, _⟩ := S'.obj c hc
      rw [ho]; simp
    · exact .tup (vs := [X, Y]) (R.not_av size_new) ⟨_, sb.extBut _ _ hlt a5⟩ (.cons (rX.mono tk) (.cons (rY.mono tk) .nil))
  done A κ σ s Q hA le R hp hs _ i hQ := by
    obtain ⟨i, S, e⟩ := i
    obtain ⟨xv, n1, el1, r1⟩ := R.list (hs (l1, .list xs) (by simp))
    obtain ⟨yv, n2, el2, r2⟩ := R.list (hs (l2, .list ys) (by simp))
    obtain ⟨S1, S2, ⟨p, q, S3⟩, S4, S5⟩ := id S
    refine wpAny_pyNext_zip_end hA.1 D S1 S2 S3 S4 S5 (xs := xv.toArray) (ys := yv.toArray) ⟨_, el1, rfl, n1, rfl⟩ ⟨_, el2, rfl, n2, rfl⟩ ?_ fun h' hk => ⟨rfl, hQ h' s.toks fun c o hc ho => ?_⟩
    · refine (zipT_end e).imp (fun h => ?_) fun h => ?_
      · simp; rw [r1.length]; exact h
      · simp; rw [r2.length]; exact h
    · simp only [List.mem_cons, List.not_mem_nil, or_false, not_or] at hc
      exact hk c o hc.1 hc.2.2.1 hc.2.2.2.1 hc.2.2.2.2 ho

theorem zipD (m l1 l2 : Nat) (h1 : l1 < m) (h2 : l2 < m) : ZipApart (m + 4) (m + 2) (m + 3) m (m + 1) l1 l2 := by
  have ne : ∀ a b : Nat, a ≠ b → @Ne Addr a b := fun _ _ h => h
  constructor <;> (apply ne; omega)
/-- for .. in zip(a, b) -/
theorem ex_forZ {elts : List Expr} {n : Nat} {tpos p ipos pos : Pos} {es : List Expr} {body : List Stmt} {P : AFl → Loc → Sto → Prop} (hs : es.all noStar = true)
    (h : Ev Γ k sc (.Name "zip" p) loc σ fun fv σ₁ => fv = .raw (.type "zip") ∧ Evs Γ k sc es loc σ₁ fun vs σ₂ => ∃ l1 l2 xs ys, vs = [.ref l1, .ref l2] ∧ (l1, .list xs) ∈ σ₂ ∧ (l2, .list ys) ∈ σ₂ ∧ For Γ k sc (.Tuple elts n tpos) body [(l1, .list xs), (l2, .list ys)] (zipT xs ys) loc σ₂ P)
    (hf : ∀ env x, foldedSetIterable (.Call (.Name "zip" p) es [] ipos) env x = pure x) : Ex Γ k sc (.For (.Tuple elts n tpos) (.Call (.Name "zip" p) es [] ipos) body [] pos) loc σ P := fun A κ env s hA le f R => by
  refine wpAny_For ?_ (hf env)
  rw [arm_eval_Call_Name']
  refine wpAny_bind (wpE (h A κ env s hA le f R) fun V v σ₁ h₁ tk₁ q₁ R₁ r₁ p₁ => ?_)
  obtain ⟨rfl, p₁⟩ := p₁
  cases r₁
  refine call_argsQ (s := { s with heap := h₁, toks := tk₁ }) hs p₁ ipos hA le f R₁ fun Vs vs σ₂ h₂ tk₂ q₂ R₂ r₂ p₂ => ⟨kpr_type, ?_⟩
  obtain ⟨l1, l2, xs, ys, rfl, m1, m2, fo⟩ := p₂
  cases r₂ with
  | cons ra r₂ =>
    cases ra
    cases r₂ with
    | cons rb r₂ =>
      cases rb; cases r₂
      obtain ⟨xv, n1, e1, r1⟩ := R₂.s.list m1
      obtain ⟨yv, n2, e2, r2⟩ := R₂.s.list m2
      refine call_zip_2 (xs := xv.toArray) (ys := yv.toArray) ⟨_, e1, rfl, n1, rfl⟩ ⟨_, e2, rfl, n2, rfl⟩ fun h₃ z1 z2 z3 z4 z5 z6 hk => ?_
      have lt1 := Heap.lt_size e1
      have lt2 := Heap.lt_size e2
      dsimp only at lt1 lt2 z1 z2 z3 z4 z5
      have D := zipD h₂.objs.size l1 l2 lt1 lt2
      have S : ZSt (h₂.objs.size + 4) (h₂.objs.size + 2) (h₂.objs.size + 3) h₂.objs.size (h₂.objs.size + 1) l1 l2 .none 0 h₃ := ⟨z1, z2, ⟨_, _, z3⟩, z4, z5⟩
      have new : ∀ a, h₂.objs.size ≤ a → h₂.get? a = none := fun a ha => Heap.get?_none_of_le ha
      let I : Itr Γ k (.Tuple elts n tpos) := itrZip D xs ys
      have i : I.Inv (zipT xs ys) h₃ := ⟨0, S, by simp⟩
      have hn : ∀ a ∈ I.pv, h₂.get? a = none := fun a ha => by
        refine new a ?_
        have ha' : a ∈ [h₂.objs.size + 4, h₂.objs.size + 2, h₂.objs.size + 3, h₂.objs.size, h₂.objs.size + 1] := ha
        simp only [List.mem_cons, List.not_mem_nil, or_false] at ha'
        rcases ha' with rfl | rfl | rfl | rfl | rfl <;> first | exact Nat.le_refl _ | exact Nat.le_add_right _ _
      refine wpAny_pyIter_zip (s := { s with heap := h₃, toks := tk₂ }) z1 ?_
      obtain ⟨pn, R₃⟩ := shield_new (avs := I.avs) (l := I.lv i) (sb := I.sub) R₂ hk hn
      refine codeAny_mono (fo I rfl A κ env { s with heap := h₃, toks := tk₂ } i hA le f pn R₃ (fun p hp => ?_) (fun _ hp => nomatch hp)) fun r s₄ x => ?_
      · have hp' : p ∈ [(l1, AO.list xs), (l2, AO.list ys)] := hp
        simp only [List.mem_cons, List.not_mem_nil, or_false] at hp'
        rcases hp' with rfl | rfl
        · exact m1
        · exact m2
      cases r with
      | error _ => exact x.elim
      | ok fl =>
        obtain ⟨g, l₃, σ₃, h₄, tk₃, e₃, q₃, R₄, r₃, p₃⟩ := x
        refine ⟨g, l₃, σ₃, h₄, tk₃, e₃, (q₁.trans q₂).trans fun a vs na t => q₃ a vs (fun ha => ?_) (TK.of_keeps (av := κ.av) hk a vs na t), R₄, r₃, p₃⟩
        rcases ha with ha | ha
        · exact na ha
        · obtain ⟨m, e⟩ := t; rw [hn a (I.sub a ha)] at e; cases e
end
end Mine
namespace Mine
/-- a sort's questions answered by a table; each is one that may be asked -/
noncomputable def runT {α : Type} (lt : Nat → Nat → Bool) : KasT α → α
  | .ret a => a
  | .ask i j k => runT lt (k (lt i j))
noncomputable def okT {α : Type} (lt d : Nat → Nat → Bool) : KasT α → Bool
  | .ret _ => true
  | .ask i j k => d i j && okT lt d (k (lt i j))
section
variable {prog : Program} {w : World} {A : Around} {E : Value → Shared → Prop} {s : Shared}
end

/-! tuples whose first two are ints -/
abbrev K3 := Int × Int × AV
abbrev k3 (x : K3) : AV := .tup [.int x.1, .int x.2.1, x.2.2]
noncomputable def ltK (ks : List K3) (i j : Nat) : Bool := let a := ks.getD i (0, 0, .none); let b := ks.getD j (0, 0, .none); if a.1 = b.1 then decide (a.2.1 < b.2.1) else decide (a.1 < b.1)
noncomputable def dK (ks : List K3) (i j : Nat) : Bool := let a := ks.getD i (0, 0, .none); let b := ks.getD j (0, 0, .none); decide (i < ks.length) && decide (j < ks.length) && !(decide (a.1 = b.1) && decide (a.2.1 = b.2.1))
noncomputable def srtK (ks : List K3) : List K3 := if ks.length < 2 then ks else (runT (ltK ks) (kas_sort ks.length)).toList.map fun i => ks.getD i (0, 0, .none)
noncomputable def okK (ks : List K3) : Bool := decide (ks.length < 2) || (okT (ltK ks) (dK ks) (kas_sort ks.length) && decide ((runT (ltK ks) (kas_sort ks.length)).toList.length = ks.length) && (runT (ltK ks) (kas_sort ks.length)).toList.all fun i => decide (i < ks.length))
section
variable {Γ : Gd} {k : Nat} {sc : Scope} {loc : Loc} {σ : Sto}
end
end Mine
namespace Mine
section
variable {Γ : Gd} {k : Nat} {sc : Scope} {loc loc' : Loc} {σ σ' : Sto} {target : Expr} {body : List Stmt} {P : AFl → Loc → Sto → Prop}
theorem into6 {a b c d e f z : Addr × AO} {ρ : Sto} : List.Perm (a :: b :: c :: d :: e :: f :: z :: ρ) (z :: a :: b :: c :: d :: e :: f :: ρ) := List.perm_middle (l₁ := [a, b, c, d, e, f])
theorem Rep.perm {κ : Kap} {env : Env} {h : Heap} (R : Rep κ env loc σ h) (hs : σ'.Perm σ) : Rep κ env loc σ' h := ⟨R.s.perm hs, R.f.sub fun _ ha => (hs.map _).subset ha⟩
theorem whl_perm {test : Expr} (h : Whl Γ k sc test body loc σ' P) (hs : σ'.Perm σ) : Whl Γ k sc test body loc σ P := fun A κ env s hA l f R => h A κ env s hA l f (R.perm hs)
theorem for_perm {src : Sto} {vs : List AV} (h : For Γ k sc target body src vs loc σ' P) (hs : σ'.Perm σ) : For Γ k sc target body src vs loc σ P := fun I e A κ env s i hA l f hn R hm hcv => h I e A κ env s i hA l f hn (R.perm hs) (fun p hp => hs.mem_iff.mpr (hm p hp)) hcv
theorem cmp_drop {ifs : List Expr} {elt iter : Expr} {scope : Scope} {pos : Pos} {src : Sto} {D : Addr} {vs : List AV} {Q : Sto → Prop} (h : Cmp Γ k sc target ifs elt iter scope pos src D vs loc σ' Q) (hs : σ'.Sublist σ) (hm : ∀ p ∈ src, p ∈ σ') : Cmp Γ k sc target ifs elt iter scope pos src D vs loc σ Q := fun I e A κ env s i hA l f hn R _ hcv =>
  h I e A κ env s i hA l f hn (R.less (.refl _) hs) (fun p hp => hm p (e ▸ hp)) hcv
end
end Mine
namespace Mine
  open PySem.StrLaws PySem.Builtin.Str
theorem cnt_run (x : Str) (c : Nat) : ∀ (m cur : Nat) (st : Array Nat × Nat), st.1.size ≤ cur → st.2 ≤ cur → cur + m = x.length + 1 →
    (forIn (List.range' cur m) st (occBody x ⟨#[c]⟩ x.length (x.length + 1))).run.fst.size = st.1.size + (x.cps.toList.drop cur).count c
  | 0, cur, st, h1, h2, h3 => by
    have : x.cps.toList.drop cur = [] := by rw [List.drop_eq_nil_iff]; simp [Str.length] at h3 ⊢; omega
    rw [this]; rfl
  | m + 1, cur, st, h1, h2, h3 => by
    rw [List.range'_succ, List.forIn_cons]
    have key := subAt_one x c cur
    unfold occBody
    by_cases hc : x.cps.toList[cur]? = some c
    · obtain ⟨k1, k2⟩ := key.mpr hc
      rw [if_pos ⟨⟨⟨by omega, h2⟩, k1⟩, k2⟩]
      have ih := cnt_run x c m (cur + 1) (st.1.push cur, cur + (⟨#[c]⟩ : Str).length) (by simp; omega) (Nat.le_refl _) (by omega)
      have e : x.cps.toList.drop cur = c :: x.cps.toList.drop (cur + 1) := by
        obtain ⟨hl, he⟩ := List.getElem?_eq_some_iff.mp hc
        rw [← he, List.getElem_cons_drop]
      refine Eq.trans ih ?_
      rw [e, List.count_cons_self, Array.size_push]; omega
    · have hn : ¬ (((st.fst.size < x.length + 1 ∧ st.snd ≤ cur) ∧ cur + (⟨#[c]⟩ : Str).length ≤ x.length) ∧ subAt x ⟨#[c]⟩ cur = true) := fun h => hc (key.mp ⟨h.1.2, h.2⟩)
      rw [if_neg hn]
      have ih := cnt_run x c m (cur + 1) (st.1, st.2) (by dsimp only; omega) (by dsimp only; omega) (by omega)
      refine Eq.trans ih ?_
      congr 1
      cases hg : x.cps.toList[cur]? with
      | none => rw [List.drop_eq_nil_of_le (by have := List.getElem?_eq_none_iff.mp hg; omega), List.drop_eq_nil_of_le (by have := List.getElem?_eq_none_iff.mp hg; omega)]
      | some d =>
        obtain ⟨hl, he⟩ := List.getElem?_eq_some_iff.mp hg
        have e : x.cps.toList.drop cur = d :: x.cps.toList.drop (cur + 1) := by rw [← he, List.getElem_cons_drop]
        rw [e, List.count_cons_of_ne]
        intro q; exact hc (by rw [hg, q])
theorem cnt_one (l : List Nat) (c : Nat) : (Builtin.Str.occurrences (ofL l) (ofL [c]) 0 (ofL l).length ((ofL l).length + 1)).length = l.count c := by
  rw [occ_eq, Array.length_toList]
  have := cnt_run (ofL l) c ((ofL l).length + 1 - 0) 0 ((#[] : Array Nat), 0) (Nat.le_refl _) (Nat.le_refl _) (by omega)
  refine Eq.trans this ?_
  simp [ofL]
section
variable {Γ : Gd} {k : Nat} {σ : Sto} {P : AV → Sto → Prop}
theorem cal_count1 {l : List Nat} {c : Nat} (h : P (.int (l.count c)) σ) : Cal Γ k (.builtin "str.count") [.str (ofL l), .str (ofL [c])] σ P := cal_count (by rw [cnt_one]; exact h)
end
theorem pick_take {α : Type} (l : List α) (n : Nat) (h : n ≤ l.length) : pick l none (some (n : Int)) = l.take n := by
  unfold pick
  have : clipAt l.length (n : Int) = n := by unfold clipAt; omega
  simp only [Option.elim, List.drop_zero, Nat.sub_zero, this]
end Mine
namespace Mine
/-- a sort whose questions are answered by an order -/
noncomputable def Ends {α : Type} (lt d : Nat → Nat → Bool) (t : KasT α) (Q : α → Prop) : Prop := okT lt d t = true ∧ Q (runT lt t)
section
variable {lt d : Nat → Nat → Bool} {n : Nat}
structure Ord (n : Nat) (lt d : Nat → Nat → Bool) : Prop where
  tot : ∀ i j, i < n → j < n → i ≠ j → lt i j = false → lt j i = true
  asym : ∀ i j, lt i j = true → lt j i = false
  tr : ∀ i j k, lt i j = true → lt j k = true → lt i k = true
  ask : ∀ i j, i < n → j < n → i ≠ j → d i j = true
abbrev pg (p : Array Nat) (i : Nat) : Nat := p.getD i 0
noncomputable def Prm (n : Nat) (p : Array Nat) : Prop := p.toList.Perm (List.range n)
theorem Prm.size {p : Array Nat} (h : Prm n p) : p.size = n := by have := h.length_eq; simpa using this
theorem pg_eq {p : Array Nat} {i : Nat} (hi : i < p.size) : p[i]? = some (pg p i) := by
  unfold pg
  rw [Array.getElem?_eq_getElem hi, Array.getD, dif_pos hi]; rfl
theorem Prm.inj {p : Array Nat} (h : Prm n p) {i j : Nat} (hi : i < n) (hj : j < n) (hne : i ≠ j) : pg p i ≠ pg p j := fun e => by
  have hnd : p.toList.Nodup := h.nodup_iff.mpr List.nodup_range
  have e1 := pg_eq (p := p) (by rw [h.size]; exact hi)
  have e2 := pg_eq (p := p) (by rw [h.size]; exact hj)
  rw [← Array.getElem?_toList] at e1 e2
  rw [e] at e1
  have hl : i < p.toList.length := by rw [Array.length_toList, h.size]; exact hi
  exact hne ((List.getElem?_inj hl hnd).mp (e1.trans e2.symm))
noncomputable def Srt (lt : Nat → Nat → Bool) (p : Array Nat) (k : Nat) : Prop := ∀ i j, i < j → j < k → lt (pg p i) (pg p j) = true
noncomputable def Dsc (lt : Nat → Nat → Bool) (p : Array Nat) (k : Nat) : Prop := ∀ i j, i < j → j < k → lt (pg p j) (pg p i) = true
theorem Srt.snoc (O : Ord n lt d) {p : Array Nat} {k : Nat} (S : Srt lt p (k + 1)) (h : lt (pg p k) (pg p (k + 1)) = true) : Srt lt p (k + 2) := fun i j h1 h2 => by
  by_cases hj : j = k + 1
  · subst hj
    by_cases hi : i = k
    · subst hi; exact h
    · exact O.tr _ _ _ (S i k (by omega) (by omega)) h
  · exact S i j h1 (by omega)
theorem Dsc.snoc (O : Ord n lt d) {p : Array Nat} {k : Nat} (S : Dsc lt p (k + 1)) (h : lt (pg p (k + 1)) (pg p k) = true) : Dsc lt p (k + 2) := fun i j h1 h2 => by
  by_cases hj : j = k + 1
  · subst hj
    by_cases hi : i = k
    · subst hi; exact h
    · exact O.tr _ _ _ h (S i k (by omega) (by omega))
  · exact S i j h1 (by omega)
end
/-! tuples whose first two differ -/
abbrev key2 (x : K3) : Int × Int := (x.1, x.2.1)
noncomputable def lt2 (a b : Int × Int) : Bool := if a.1 = b.1 then decide (a.2 < b.2) else decide (a.1 < b.1)
end Mine
namespace Mine
/-- a list of ints that stands from the start -/
noncomputable def Fz (Γ : Gd) (a : Addr) (xs : List Int) : Prop := ∃ vs, Γ.hB.IsList a vs.toArray ∧ IntsAre vs xs
theorem ints_rel {av : Avd} {h : Heap} : ∀ {vs : List Value} {xs : List Int}, IntsAre vs xs → VRels av h (xs.map .int) vs
  | _, _, .nil => .nil
  | _, _, .cons k t r => .cons (.int k t) (ints_rel r)
section
variable {Γ : Gd} {k : Nat} {sc : Scope} {loc : Loc} {σ : Sto} {P : AV → Sto → Prop} {a : Addr} {xs : List Int}
theorem Fz.at (F : Fz Γ a xs) {κ : Kap} {h : Heap} (l : Γ.le κ) (R : RepS κ σ h) : ∃ vs, h.IsList a vs.toArray ∧ VRels κ.av h (xs.map .int) vs := by
  obtain ⟨vs, ⟨o, e, r⟩, hI⟩ := F
  exact ⟨vs, ⟨o, l.up R _ _ e, r⟩, ints_rel hI⟩
theorem fz_plain (F : Fz Γ a xs) : ∀ (A : Around) (κ : Kap) (s : Shared) (O : Value) (Q : Bool → Shared → Prop), Γ.le κ → RepS κ σ s.heap → VRel κ.av s.heap (.ref a) O → Q false s → wpAny Γ.M A (getitemInPython O) Q No s := fun A κ s O Q l R r h => by
  cases r
  obtain ⟨vs, ⟨o, e, hc, _⟩, _⟩ := F.at l R
  unfold getitemInPython
  exact wpAny_bind (wpAny_specialOf ⟨o, e, hc⟩ slot_list_getitem.lookup (wpAny_pure h))
theorem fz_get (F : Fz Γ a xs) {i : Int} {x : Int} (h0 : 0 ≤ i) (hi : i < 2 ^ 63) (hx : xs[i.toNat]? = some x) (h : P (.int x) σ) : Op2 Γ k getItem (.ref a) (.int i) σ P := fun _ κ s _ _ _ l R r r' => by
  cases r; cases r'
  obtain ⟨vs, hL, rs⟩ := F.at l R
  obtain ⟨v, hv, rv⟩ := rs.get (i := i.toNat) (x := .int x) (by rw [List.getElem?_map, hx]; rfl)
  exact wpAny_getItem_list (items := vs.toArray) hL h0 hi (by simpa using hv) ⟨.int x, σ, s.heap, s.toks, rfl, R, rv, h⟩
theorem fz_len (F : Fz Γ a xs) (hl : xs.length ≤ sizeLine) (h : P (.int xs.length) σ) : Cal Γ k (.builtin "len") [.ref a] σ P := fun _ κ s _ _ l R r => by
  cases r with
  | cons x r =>
    cases x; cases r
    obtain ⟨vs, hL, rs⟩ := F.at l R
    refine call_len_list (items := vs.toArray) hL (by rw [rs.size, List.length_map]; rw [sizeLine_eq] at hl; omega) ⟨.int xs.length, σ, s.heap, _, rfl, R, ?_, h⟩
    rw [rs.size, List.length_map]; exact .int _ _
/-- items and slices of such a list -/
theorem ev_itemF {value slice : Expr} {pos : Pos} (F : Fz Γ a xs) (h : Ev Γ k sc value loc σ fun o σ₁ => o = .ref a ∧ Ev Γ k sc slice loc σ₁ fun i σ₂ => Op2 Γ k getItem o i σ₂ P)
    (hs : ∀ o i, subscripted slice false o i = operate [o, i] (getItem o i)) : Ev Γ k sc (.Subscript value slice pos) loc σ P := fun A κ env s hA l f R => by
  rw [arm_eval_Subscript]
  refine wpAny_bind (wpE (h A κ env s hA l f R) fun V₁ o σ₁ h₁ tk₁ q₁ R₁ r₁ p₁ => ?_)
  obtain ⟨rfl, p₁⟩ := p₁
  refine wpAny_bind (wpAny_holding (wpE (s := { s with heap := h₁, toks := tk₁ }) (p₁ A κ env _ hA l f R₁) fun V₂ i σ₂ h₂ tk₂ q₂ R₂ r₂ p₂ => ?_))
  refine wpAny_bind (wpAny_standAt (wpAny_bind (fz_plain F A κ _ V₁ _ l R₂.s (r₁.mono q₂) ?_)))
  rw [hs]
  refine wpAny_bind (wpAny_operating (wp_no (p₂.at (s := { s with heap := h₂, toks := tk₂ }) hA l R₂ (r₁.mono q₂) r₂) fun V₃ s₃ h₃ => ?_))
  exact wpAny_bind (wpAny_letTemporaryGo (wpAny_pure ((h₃.trans (s := { s with heap := h₁, toks := tk₁ }) (tk₁ := tk₂) q₂).trans q₁)))
end
end Mine
namespace Mine
noncomputable def fdOf (K : Frag) (a : Addr) : FuncData := match K.lookup a with
  | some ⟨_, _, .func fd, _⟩ => fd
  | _ => default
noncomputable def bodyOf (fd : FuncData) : List Stmt := match fd.body with
  | .stmts b => b
  | _ => []
/-- a def of the program, looked at -/
noncomputable def fnB (K : Frag) (f : Addr) (names : List Str) : Bool := match K.lookup f with
  | some ⟨_, _, .func fd, _⟩ => (match fd.body with | .stmts _ => true | _ => false) && (match fd.code with
      | .ref c => (match K.lookup c with
        | some ⟨_, _, .fields vs, _⟩ => (match (vs[1]? : Option Value) with | some (.str q _) => q == fd.qualname | _ => false)
        | _ => false)
      | _ => false) && decide names.Nodup && fd.globals == mainGlobals && fd.builtins == builtinsNs && !fd.scope.isCoroutine && !fd.scope.isGenerator && (fd.scope.kind == .function) && fd.closure.isEmpty
  | _ => false
theorem fnOkB {Γ : Gd} {K : Frag} {f : Addr} {names : List Str} (X : K.In Γ.hB) (hc : fnB K f names = true) (hb : ∀ Xs : List Value, Xs.length = names.length → bindArgs (fdOf K f) ⟨Xs, []⟩ = pure (names.zip Xs)) : FnOk Γ f (fdOf K f) (bodyOf (fdOf K f)) names := by
  unfold fnB at hc
  split at hc
  · rename_i cl di fd sl hk
    have e : fdOf K f = fd := by unfold fdOf; rw [hk]
    rw [e] at hb ⊢
    simp only [Bool.and_eq_true, beq_iff_eq, Bool.not_eq_true', decide_eq_true_eq, List.isEmpty_iff] at hc
    obtain ⟨⟨⟨⟨⟨⟨⟨⟨h1, h2⟩, h3⟩, h4⟩, h5⟩, h6⟩, h7⟩, h8⟩, h9⟩ := hc
    refine { obj := ⟨_, X _ _ hk, rfl⟩, hb := ?_, code := ?_, bind := hb, nodup := h3, glob := h4, blt := h5, co := h6, gen := h7, kind := h8, clo := h9 }
    · unfold bodyOf
      split at h1
      · rename_i b hb'; rw [hb']
      · cases h1
    · split at h2
      · rename_i c hcd
        split at h2
        · rename_i vs _ hkc
          split at h2
          · rename_i q t hv
            exact ⟨c, _, vs, t, hcd, X _ _ hkc, rfl, by rw [hv, beq_iff_eq.mp h2]⟩
          · cases h2
        · cases h2
      · cases h2
  · cases hc
theorem bind1 {fd : FuncData} {x : Str} (h : ∀ a, bindArgs fd ⟨[a], []⟩ = pure [(x, a)]) (Xs : List Value) (hl : Xs.length = [x].length) : bindArgs fd ⟨Xs, []⟩ = pure ([x].zip Xs) := by
  match Xs, hl with
  | [a], _ => exact h a
theorem bind2 {fd : FuncData} {x y : Str} (h : ∀ a b, bindArgs fd ⟨[a, b], []⟩ = pure [(x, a), (y, b)]) (Xs : List Value) (hl : Xs.length = [x, y].length) : bindArgs fd ⟨Xs, []⟩ = pure ([x, y].zip Xs) := by
  match Xs, hl with
  | [a, b], _ => exact h a b
theorem bind3 {fd : FuncData} {x y z : Str} (h : ∀ a b c, bindArgs fd ⟨[a, b, c], []⟩ = pure [(x, a), (y, b), (z, c)]) (Xs : List Value) (hl : Xs.length = [x, y, z].length) : bindArgs fd ⟨Xs, []⟩ = pure ([x, y, z].zip Xs) := by
  match Xs, hl with
  | [a, b, c], _ => exact h a b c
theorem mul_smallr {a b : Int} (h1 : 0 ≤ b) (h2 : b < 1000000000) : IntMulOk a b := .of_right (intBits_le_64 (by omega) (by omega))
noncomputable def isG (K : Frag) (x : Str) (f : Addr) : Bool := match nsIn K mainGlobals x with
  | some (some (.ref g)) => g == f
  | _ => false
noncomputable def isN (K : Frag) (x : Str) : Bool := match nsIn K mainGlobals x with
  | some none => true
  | _ => false
noncomputable def isB (x : Str) (id : String) : Bool := match bootBuiltins x with
  | some (.builtin i) => i == id
  | _ => false
noncomputable def isT (x : Str) (id : String) : Bool := match bootBuiltins x with
  | some (.type i) => i == id
  | _ => false
theorem isG_eq {K : Frag} {x : Str} {f : Addr} (h : isG K x f = true) : nsIn K mainGlobals x = some (some (.ref f)) := by
  unfold isG at h; split at h
  · rename_i e; rw [e, beq_iff_eq.mp h]
  · cases h
theorem isN_eq {K : Frag} {x : Str} (h : isN K x = true) : nsIn K mainGlobals x = some none := by
  unfold isN at h; split at h
  · assumption
  · cases h
theorem isB_eq {x : Str} {id : String} (h : isB x id = true) : bootBuiltins x = some (.builtin id) := by
  unfold isB at h; split at h
  · rename_i e; rw [e, beq_iff_eq.mp h]
  · cases h
theorem isT_eq {x : Str} {id : String} (h : isT x id = true) : bootBuiltins x = some (.type id) := by
  unfold isT at h; split at h
  · rename_i e; rw [e, beq_iff_eq.mp h]
  · cases h
noncomputable def callK (sc : Scope) (x : Str) (es : List Expr) : Bool := es.all noStar && decide (sc.names.lookup x = some .globalImplicit) && !(x == ("__debug__" : Str))
theorem callK_eq {sc : Scope} {x : Str} {es : List Expr} (h : callK sc x es = true) : es.all noStar = true ∧ sc.names.lookup x = some .globalImplicit ∧ (x == ("__debug__" : Str)) = false := by
  unfold callK at h
  simp only [Bool.and_eq_true, Bool.not_eq_true', decide_eq_true_eq] at h
  exact ⟨h.1.1, h.1.2, h.2⟩
section
variable {Γ : Gd} {K : Frag} {mg mb : Str → Option Value} {k : Nat} {sc : Scope} {loc : Loc} {σ : Sto} {x : Str} {p pos : Pos} {es : List Expr} {P : AV → Sto → Prop}
theorem ev_calG (W : Wd Γ K mg mb) (f : Addr) (c : (callK sc x es && isG K x f && keepIn K (.ref f)) = true) (h : Evs Γ k sc es loc σ fun vs σ₂ => Cal Γ k (.ref f) vs σ₂ P) : Ev Γ k sc (.Call (.Name x p) es [] pos) loc σ P := by
  simp only [Bool.and_eq_true] at c
  exact ev_callG W f (callK_eq c.1.1).1 (callK_eq c.1.1).2.1 (isG_eq c.1.2) c.2 (callK_eq c.1.1).2.2 h
theorem ev_calB (W : Wd Γ K mg mb) (id : String) (c : (callK sc x es && isN K x && decide (x ≠ "__name__") && isB x id) = true) (h : Evs Γ k sc es loc σ fun vs σ₂ => Cal Γ k (.builtin id) vs σ₂ P) : Ev Γ k sc (.Call (.Name x p) es [] pos) loc σ P := by
  simp only [Bool.and_eq_true, decide_eq_true_eq] at c
  exact ev_callB W id (callK_eq c.1.1.1).1 (callK_eq c.1.1.1).2.1 (isN_eq c.1.1.2) c.1.2 (isB_eq c.2) (callK_eq c.1.1.1).2.2 h
theorem ev_calT (W : Wd Γ K mg mb) (id : String) (c : (callK sc x es && isN K x && decide (x ≠ "__name__") && isT x id) = true) (h : Evs Γ k sc es loc σ fun vs σ₂ => Cal Γ k (.type id) vs σ₂ P) : Ev Γ k sc (.Call (.Name x p) es [] pos) loc σ P := by
  simp only [Bool.and_eq_true, decide_eq_true_eq] at c
  exact ev_callT W id (callK_eq c.1.1.1).1 (callK_eq c.1.1.1).2.1 (isN_eq c.1.1.2) c.1.2 (isT_eq c.2) (callK_eq c.1.1.1).2.2 h
end
section
variable {Γ : Gd} {k : Nat} {sc : Scope} {loc loc' : Loc} {σ σ' : Sto} {target : Expr} {body : List Stmt} {P : AFl → Loc → Sto → Prop}
/-- loops by their turns; a turn sees nothing of what is behind the loop -/
theorem for_ind2 {ι α : Type} {src : Sto} (L : ι → Loc) (S : ι → Sto) (g : α → AV) (I : List α → ι → Prop) (hsrc : ∀ i, ∀ p ∈ src, p ∈ S i)
    (step : ∀ x xs i (P' : AFl → Loc → Sto → Prop) (A : Loc → Sto → Prop), (∀ j l σ', I xs j → Sub (L j) l → (S j).Sublist σ' → A l σ') → I (x :: xs) i → Asg Γ k sc target (g x) (L i) (S i) fun l₁ σ₁ => Exs Γ k sc body l₁ σ₁ (Turn P' A))
    (done : ∀ i, I [] i → P .next (L i) (S i)) (xs : List α) (i : ι) (h : I xs i) : For Γ k sc target body src (xs.map g) (L i) (S i) P :=
  for_ind L S g I hsrc (fun x xs i h => step x xs i P _ (fun j _ _ a b c => ⟨j, a, b, c⟩) h) done xs i h
theorem whl_ind2 {ι : Type} {test : Expr} (L : ι → Loc) (S : ι → Sto) (rank : ι → Nat) (X : ι → Prop)
    (step : ∀ i (P' : AFl → Loc → Sto → Prop) (A : Loc → Sto → Prop), (∀ j l σ', rank j < rank i → Sub (L j) l → (S j).Sublist σ' → A l σ') → Ts Γ k sc test (L i) (S i) fun b σ' => Both b (Exs Γ k sc body (L i) σ' (Turn P' A)) (X i ∧ σ' = S i))
    (done : ∀ i, X i → P .next (L i) (S i)) (i : ι) : Whl Γ k sc test body (L i) (S i) P :=
  whl_ind L S rank (fun i => ts_mono (step i P _ fun j _ _ a b c => ⟨j, a, b, c⟩) fun b σ' h => ⟨h.1, fun e => (h.2 e).2 ▸ done i (h.2 e).1⟩) i
/-- the same for a loop over iter(read, end): with one way out by 'return' -/
theorem forC_ind2 {ι : Type} {z : Str} {zp : Pos} {it : Addr} (L : ι → Loc) (S : ι → Sto) (rank : ι → Nat) (X : ι → Sto → Prop) (v0 : AV) (σ0 : Sto)
    (step : ∀ i (P' : AFl → Loc → Sto → Prop) (A : Loc → Sto → Prop), (∀ j l σ', rank j < rank i → Sub (L j) l → (S j).Sublist σ' → A l σ') → (∀ l σ', σ0.Sublist σ' → P' (.ret v0) l σ') → Nx Γ k it (S i) fun r σ₁ => match r with
      | none => X i σ₁
      | some v => Asg Γ k sc (.Name z zp) v (L i) σ₁ fun l σ₂ => Exs Γ k sc body l σ₂ (Turn P' A))
    (ret : ∀ l σ', σ0.Sublist σ' → P (.ret v0) l σ') (done : ∀ i σ₁, X i σ₁ → P .next (L i) σ₁) (i : ι) : ForC Γ k sc (.Name z zp) body it (L i) (S i) P := by
  refine forC_ind L S rank (fun i A κ s hA l R => wp_no (step i P (fun l σ' => ∃ j, rank j < rank i ∧ Sub (L j) l ∧ (S j).Sublist σ') (fun j _ _ a b c => ⟨j, a, b, c⟩) ret A κ s hA l R) fun r s' h => ?_) i
  obtain ⟨v, σ', h', tk, e, R', m, p⟩ := h
  refine ⟨v, σ', h', tk, e, R', m, ?_⟩
  cases v with
  | none => exact done i _ p
  | some v => exact p
theorem cmp_ind2 {ι α : Type} {elt iter : Expr} {scope : Scope} {pos : Pos} {src : Sto} {D : Addr} {P : Sto → Prop} (L : Loc) (S : ι → Sto) (g : α → AV) (I : List α → ι → Prop) (hsrc : ∀ i, ∀ p ∈ src, p ∈ S i)
    (step : ∀ x xs i (A : AV → Sto → Prop), (∀ y ys σ₃ σ₄ j, At σ₃ D (.list ys) (.list (ys ++ [y])) σ₄ → ys.length ≤ sizeLine → I xs j → σ₄ = S j → A y σ₃) → I (x :: xs) i → Asg Γ k sc target (g x) L (S i) fun l₁ σ₁ => Sub L l₁ ∧ Ev Γ k sc elt l₁ σ₁ A)
    (done : ∀ i, I [] i → P (S i)) (xs : List α) (i : ι) (h : I xs i) : Cmp Γ k sc target [] elt iter scope pos src D (xs.map g) L (S i) P :=
  cmp_ind L S g I hsrc (fun x xs i h A κ env s V hA le f R r => wpA (step x xs i (fun y σ₃ => ∃ ys j, At σ₃ D (.list ys) (.list (ys ++ [y])) (S j) ∧ ys.length ≤ sizeLine ∧ I xs j) (fun _ ys _ _ j a b c e => ⟨ys, j, e ▸ a, b, c⟩) h A κ env s V hA le f R r) fun l₁ σ₁ h' tk q R' p =>
    ⟨l₁, σ₁, h', tk, rfl, q, R', ev_mono p.2 fun y σ₃ z => z.elim fun ys z => z.elim fun j z => ⟨ys, S j, z.1, z.2.1, j, z.2.2, p.1, rfl⟩⟩) done xs i h
end
end Mine
namespace Mine
theorem a2 {a b g : Prop} (h : a ∧ b) (f : a → b → g) : g := f h.1 h.2
theorem a3 {a b c g : Prop} (h : a ∧ b ∧ c) (f : a → b → c → g) : g := f h.1 h.2.1 h.2.2
theorem a4 {a b c d g : Prop} (h : a ∧ b ∧ c ∧ d) (f : a → b → c → d → g) : g := f h.1 h.2.1 h.2.2.1 h.2.2.2
theorem a5 {a b c d e g : Prop} (h : a ∧ b ∧ c ∧ d ∧ e) (f : a → b → c → d → e → g) : g := f h.1 h.2.1 h.2.2.1 h.2.2.2.1 h.2.2.2.2
section
variable {Γ : Gd} {k : Nat} {sc : Scope} {loc loc' : Loc} {σ σ' : Sto} {target : Expr} {body : List Stmt} {P : AFl → Loc → Sto → Prop}
theorem whl_i {ι : Type} {test : Expr} (L : ι → Loc) (S : ι → Sto) (rank : ι → Nat) (I X : ι → Prop)
    (step : ∀ i (P' : AFl → Loc → Sto → Prop) (A : Loc → Sto → Prop), (∀ j l σ', I j → rank j < rank i → Sub (L j) l → (S j).Sublist σ' → A l σ') → I i → Ts Γ k sc test (L i) (S i) fun b σ' => Both b (Exs Γ k sc body (L i) σ' (Turn P' A)) (X i ∧ σ' = S i))
    (done : ∀ i, I i → X i → P .next (L i) (S i)) (i : ι) (h : I i) : Whl Γ k sc test body (L i) (S i) P :=
  whl_ind2 (ι := { i // I i }) (fun i => L i.1) (fun i => S i.1) (fun i => rank i.1) (fun i => X i.1) (fun i P' A hA => step i.1 P' A (fun j l σ' q => hA ⟨j, q⟩ l σ') i.2) (fun i => done i.1 i.2) ⟨i, h⟩
theorem forC_i {ι : Type} {z : Str} {zp : Pos} {it : Addr} (L : ι → Loc) (S : ι → Sto) (rank : ι → Nat) (I : ι → Prop) (X : Sto → Prop) (v0 : AV) (σ0 : Sto)
    (step : ∀ i (P' : AFl → Loc → Sto → Prop) (A : Loc → Sto → Prop), (∀ j l σ', I j → rank j < rank i → Sub (L j) l → (S j).Sublist σ' → A l σ') → (∀ l σ', σ0.Sublist σ' → P' (.ret v0) l σ') → I i → Nx Γ k it (S i) fun r σ₁ => match r with
      | none => X σ₁
      | some v => Asg Γ k sc (.Name z zp) v (L i) σ₁ fun l σ₂ => Exs Γ k sc body l σ₂ (Turn P' A))
    (ret : ∀ l σ', σ0.Sublist σ' → P (.ret v0) l σ') (done : ∀ i σ₁, X σ₁ → P .next (L i) σ₁) (i : ι) (h : I i) : ForC Γ k sc (.Name z zp) body it (L i) (S i) P :=
  forC_ind2 (ι := { i // I i }) (fun i => L i.1) (fun i => S i.1) (fun i => rank i.1) (fun _ => X) v0 σ0 (fun i P' A hA r => step i.1 P' A (fun j l σ' q => hA ⟨j, q⟩ l σ') r i.2) ret (fun i => done i.1) ⟨i, h⟩
theorem whl_c2 {α₁ α₂ : Type} {test : Expr} (L : α₁ → α₂ → Loc) (S : α₁ → α₂ → Sto) (rank : α₁ → α₂ → Nat) (I X : α₁ → α₂ → Prop)
    (step : ∀ a b (P' : AFl → Loc → Sto → Prop) (A : Loc → Sto → Prop), (∀ a' b' l σ', I a' b' → rank a' b' < rank a b → Sub (L a' b') l → (S a' b').Sublist σ' → A l σ') → I a b → Ts Γ k sc test (L a b) (S a b) fun t σ' => Both t (Exs Γ k sc body (L a b) σ' (Turn P' A)) (X a b ∧ σ' = S a b))
    (done : ∀ a b, I a b → X a b → P .next (L a b) (S a b)) (a b) (h : I a b) : Whl Γ k sc test body (L a b) (S a b) P :=
  whl_i (fun i => L i.1 i.2) (fun i => S i.1 i.2) (fun i => rank i.1 i.2) (fun i => I i.1 i.2) (fun i => X i.1 i.2) (fun i P' A hA h => step i.1 i.2 P' A (fun a' b' => hA (a', b')) h) (fun i => done i.1 i.2) (a, b) h
theorem forC_c2 {α₁ α₂ : Type} {z : Str} {zp : Pos} {it : Addr} (L : α₁ → α₂ → Loc) (S : α₁ → α₂ → Sto) (rank : α₁ → α₂ → Nat) (I : α₁ → α₂ → Prop) (X : Sto → Prop) (v0 : AV) (σ0 : Sto)
    (step : ∀ a b (P' : AFl → Loc → Sto → Prop) (A : Loc → Sto → Prop), (∀ a' b' l σ', I a' b' → rank a' b' < rank a b → Sub (L a' b') l → (S a' b').Sublist σ' → A l σ') → (∀ l σ', σ0.Sublist σ' → P' (.ret v0) l σ') → I a b → Nx Γ k it (S a b) fun r σ₁ => match r with
      | none => X σ₁
      | some v => Asg Γ k sc (.Name z zp) v (L a b) σ₁ fun l σ₂ => Exs Γ k sc body l σ₂ (Turn P' A))
    (ret : ∀ l σ', σ0.Sublist σ' → P (.ret v0) l σ') (done : ∀ a b σ₁, X σ₁ → P .next (L a b) σ₁) (a b) (h : I a b) : ForC Γ k sc (.Name z zp) body it (L a b) (S a b) P :=
  forC_i (fun i => L i.1 i.2) (fun i => S i.1 i.2) (fun i => rank i.1 i.2) (fun i => I i.1 i.2) X v0 σ0 (fun i P' A hA r h => step i.1 i.2 P' A (fun a' b' => hA (a', b')) r h) ret (fun i => done i.1 i.2) (a, b) h
theorem forC_c4 {α₁ α₂ α₃ α₄ : Type} {z : Str} {zp : Pos} {it : Addr} (L : α₁ → α₂ → α₃ → α₄ → Loc) (S : α₁ → α₂ → α₃ → α₄ → Sto) (rank : α₁ → α₂ → α₃ → α₄ → Nat) (I : α₁ → α₂ → α₃ → α₄ → Prop) (X : Sto → Prop) (v0 : AV) (σ0 : Sto)
    (step : ∀ a b c d (P' : AFl → Loc → Sto → Prop) (A : Loc → Sto → Prop), (∀ a' b' c' d' l σ', I a' b' c' d' → rank a' b' c' d' < rank a b c d → Sub (L a' b' c' d') l → (S a' b' c' d').Sublist σ' → A l σ') → (∀ l σ', σ0.Sublist σ' → P' (.ret v0) l σ') → I a b c d → Nx Γ k it (S a b c d) fun r σ₁ => match r with
      | none => X σ₁
      | some v => Asg Γ k sc (.Name z zp) v (L a b c d) σ₁ fun l σ₂ => Exs Γ k sc body l σ₂ (Turn P' A))
    (ret : ∀ l σ', σ0.Sublist σ' → P (.ret v0) l σ') (done : ∀ a b c d σ₁, X σ₁ → P .next (L a b c d) σ₁) (a b c d) (h : I a b c d) : ForC Γ k sc (.Name z zp) body it (L a b c d) (S a b c d) P :=
  forC_i (fun i => L i.1 i.2.1 i.2.2.1 i.2.2.2) (fun i => S i.1 i.2.1 i.2.2.1 i.2.2.2) (fun i => rank i.1 i.2.1 i.2.2.1 i.2.2.2) (fun i => I i.1 i.2.1 i.2.2.1 i.2.2.2) X v0 σ0 (fun i P' A hA r h => step i.1 i.2.1 i.2.2.1 i.2.2.2 P' A (fun a' b' c' d' => hA (a', b', c', d')) r h) ret (fun i => done i.1 i.2.1 i.2.2.1 i.2.2.2) (a, b, c, d) h
end
end Mine
namespace Mine
open PySem.SeqAt MeetsSeq MeetsSeq2 MeetsSeq3 SeqRoads2
open AutoSeq1 (wpAny_loadPart')
/-! tuples compared by <, and the least of a list of them -/
abbrev IS := Int × Str
noncomputable def ltIS (p q : IS) : Bool := if p.1 = q.1 then decide (p.2.cps.toList < q.2.cps.toList) else decide (p.1 < q.1)
abbrev pIS (p : IS) : AV := .tup [.int p.1, .str p.2]
section
variable {prog : Program} {w : World} {A : Around} {E : Value → Shared → Prop} {s : Shared}
end
section
variable {prog : Program} {w : World} {A : Around} {E : Value → Shared → Prop} {R : Result → Shared → Prop} {I : Addr} {fp wr : List Addr} {n : Nat} {P : Nat → Value → Prop} {St : Nat → Heap → Prop}
/-- what stands while min goes round -/
noncomputable def Bs (K : Addr → Option Obj) (h : Heap) : Prop := ∀ b o, K b = some o → h.get? b = some o
noncomputable def CmpK (prog : Program) (w : World) (A : Around) (K : Addr → Option Obj) (P : Nat → Value → Prop) (bt : Nat → Nat → Bool) : Prop :=
  ∀ i j vi vj (s : Shared) (Q : Value → Shared → Prop) (E : Value → Shared → Prop), Bs K s.heap → P i vi → P j vj → Q (.bool (bt i j)) s → wpAny (model prog w) A (richCompare .Lt vi vj) Q E s
end
end Mine
namespace Mine
open PySem.SeqAt MeetsSeq MeetsSeq2 MeetsSeq3 SeqRoads2
section
variable {Γ : Gd} {k : Nat} {sc : Scope} {loc : Loc} {σ : Sto} {P : AV → Sto → Prop}
theorem rel_ints {av : Avd} {h : Heap} : ∀ {xs : List Int} {vs : List Value}, VRels av h (xs.map .int) vs → IntsAre vs xs
  | [], _, .nil => .nil
  | x :: xs, _, .cons r rs => by cases r; exact .cons _ _ (rel_ints rs)
theorem op_add_list {a b : Addr} {xs ys : List AV} (ha : (a, .list xs) ∈ σ) (hb : (b, .list ys) ∈ σ) (hl : xs.length + ys.length ≤ sizeLine) (h : ∀ c, P (.ref c) ((c, .list (xs ++ ys)) :: σ)) : Op2 Γ k (binaryOp .Add) (.ref a) (.ref b) σ P := fun A κ s X Y hA l R rx ry => by
  cases rx; cases ry
  obtain ⟨vs, n, e, rs⟩ := R.list ha
  obtain ⟨ws, n2, e2, rs2⟩ := R.list hb
  have hz : vs.length + ws.length ≤ sizeLine := by rw [rs.length, rs2.length]; exact hl
  refine concat_meets ⟨_, e, rfl⟩ ⟨_, e2, rfl⟩ noFill_list_add seq_list_add PySem.F.slot_list_add PySem.F.entry_list_add (PySem.F.args_list_add_2 _ _) (list_addW a b vs.toArray ws.toArray n n2 none none #[] #[] (by simpa using hz)) ⟨e, e2, ?_⟩
  refine ⟨.ref _, _, _, s.toks, rfl, R.add (o := .list (xs ++ ys)) size_new (push_keeps _) (Heap.get?_push_size _ rfl) ⟨vs ++ ws, 0, by simp, (rs.append rs2).mono (.of_keeps (push_keeps _))⟩, .ref _, h _⟩
end
end Mine
namespace Mine
section
variable {Γ : Gd} {k : Nat} {sc : Scope} {loc loc' : Loc} {σ σ' : Sto} {target : Expr} {body : List Stmt} {P : AFl → Loc → Sto → Prop}
/-- loops over n things, by the number of the turn -/
theorem for_n {src : Sto} (n : Nat) (L : Loc) (S : Nat → Sto) (g : Nat → AV) (hsrc : ∀ i, ∀ p ∈ src, p ∈ S i)
    (step : ∀ i (P' : AFl → Loc → Sto → Prop) (A : Loc → Sto → Prop), i < n → (∀ l σ', Sub L l → (S (i + 1)).Sublist σ' → A l σ') → Asg Γ k sc target (g i) L (S i) fun l₁ σ₁ => Exs Γ k sc body l₁ σ₁ (Turn P' A))
    (done : P .next L (S n)) : For Γ k sc target body src ((List.range n).map g) L (S 0) P :=
  for_ind2 (fun _ => L) S g (fun ys i => ys = (List.range n).drop i ∧ i ≤ n) (fun i => hsrc i)
    (fun x xs i P' A hA hI => by
      have hlt : i < n := by
        rcases Nat.lt_or_ge i n with h | h
        · exact h
        · have := hI.1; rw [List.drop_of_length_le (by simpa using h)] at this; cases this
      have e := hI.1
      rw [List.drop_eq_getElem_cons (by simpa using hlt), List.getElem_range] at e
      injection e with e1 e2
      subst e1
      exact step x P' A hlt fun l σ' => hA (x + 1) l σ' ⟨e2, hlt⟩)
    (fun i hI => by
      have : i = n := by
        rcases Nat.lt_or_ge i n with h | h
        · have := hI.1; rw [List.drop_eq_getElem_cons (by simpa using h)] at this; cases this
        · exact Nat.le_antisymm hI.2 h
      subst this; exact done)
    (List.range n) 0 ⟨by simp, Nat.zero_le _⟩
theorem cmp_n {elt iter : Expr} {scope : Scope} {pos : Pos} {src : Sto} {D : Addr} {P : Sto → Prop} (n : Nat) (L : Loc) (S : Nat → Sto) (g : Nat → AV) (hsrc : ∀ i, ∀ p ∈ src, p ∈ S i)
    (step : ∀ i (A : AV → Sto → Prop), i < n → (∀ y ys σ₃, At σ₃ D (.list ys) (.list (ys ++ [y])) (S (i + 1)) → ys.length ≤ sizeLine → A y σ₃) → Asg Γ k sc target (g i) L (S i) fun l₁ σ₁ => Sub L l₁ ∧ Ev Γ k sc elt l₁ σ₁ A)
    (done : P (S n)) : Cmp Γ k sc target [] elt iter scope pos src D ((List.range n).map g) L (S 0) P :=
  cmp_ind2 L S g (fun ys i => ys = (List.range n).drop i ∧ i ≤ n) (fun i => hsrc i)
    (fun x xs i A hA hI => by
      have hlt : i < n := by
        rcases Nat.lt_or_ge i n with h | h
        · exact h
        · have := hI.1; rw [List.drop_of_length_le (by simpa using h)] at this; cases this
      have e := hI.1
      rw [List.drop_eq_getElem_cons (by simpa using hlt), List.getElem_range] at e
      injection e with e1 e2
      subst e1
      exact step x A hlt fun y ys σ₃ at' hl => hA y ys σ₃ _ (x + 1) at' hl ⟨e2, hlt⟩ rfl)
    (fun i hI => by
      have : i = n := by
        rcases Nat.lt_or_ge i n with h | h
        · have := hI.1; rw [List.drop_eq_getElem_cons (by simpa using h)] at this; cases this
        · exact Nat.le_antisymm hI.2 h
      subst this; exact done)
    (List.range n) 0 ⟨by simp, Nat.zero_le _⟩
theorem swaps_of {env : Env} {elt : Expr} {gens : List Comprehension} {scope : Scope} {pos xp : Pos} {x : Str} {line : Nat} (f : Fits sc env) (hx : sc.names.lookup x = some .local) (hb : (xp.line == pos.line && !(scope.names.any fun (n, k) => n == x && (k == .local || k == .cell))) = true) :
    swapsWith (.ListComp elt gens scope pos) (some (.Name x xp)) line env = pure true := by
  rw [Bool.and_eq_true] at hb
  have hk : env.kindOf x = some .local := by rw [f.kindOf]; exact hx
  have hbk : env.blockKind = .function := by unfold Env.blockKind; rw [f.fkind]; rfl
  show (pure (env.blockKind == .function && env.kindOf x == some .local && xp.line == pos.line && !(scope.names.any fun (n, k) => n == x && (k == .local || k == .cell))) : Sem Bool) = _
  rw [hk, hbk, hb.1, hb.2]
  rfl
theorem swaps_cell {env : Env} {elt : Expr} {gens : List Comprehension} {scope : Scope} {pos xp : Pos} {x : Str} {line : Nat} (f : Fits sc env) (hx : sc.names.lookup x = some .cell) : swapsWith (.ListComp elt gens scope pos) (some (.Name x xp)) line env = pure false := by
  have hk : env.kindOf x = some .cell := by rw [f.kindOf]; exact hx
  show (pure (env.blockKind == .function && env.kindOf x == some .local && xp.line == pos.line && !(scope.names.any fun (n, k) => n == x && (k == .local || k == .cell))) : Sem Bool) = _
  rw [hk]
  have : (some NameKind.cell == some NameKind.local) = false := by decide
  rw [this, Bool.and_false, Bool.false_and, Bool.false_and]
theorem ex_assign_compC {x : Str} {xp apos : Pos} {elt : Expr} {gens : List Comprehension} {scope : Scope} {pos : Pos} (hx : sc.names.lookup x = some .cell)
    (h : Ev Γ k sc (.ListComp elt gens scope pos) loc σ fun v σ' => Asg Γ k sc (.Name x xp) v loc σ' fun loc' σ'' => P .next loc' σ'') : Ex Γ k sc (.Assign [.Name x xp] (.ListComp elt gens scope pos) apos) loc σ P :=
  ex_assign h (fun _ f => swaps_cell (line := apos.line) f hx) (fun _ _ => rfl) (fun _ => rfl)
theorem ex_assign_compB {x : Str} {xp apos : Pos} {elt iter : Expr} {ifs : List Expr} {scope : Scope} {pos : Pos}
    (hcell : (scope.names.all fun x => x.2 != .cell) = true) (hkind : scope.kind = .function) (hnames : (scope.names.all fun x => x.2 != .local || scope.names.lookup x.1 == some .local) = true)
    (hfr : (scope.names.all fun x => x.2 != .free || sc.names.lookup x.1 == some .cell) = true) (h0 : ((relS scope sc).names.lookup (Str.ofString ".0")).isSome = true) (hx : sc.names.lookup x = some .local)
    (hb : (xp.line == pos.line && !(scope.names.any fun (n, k) => n == x && (k == .local || k == .cell))) = true) (hs : ∀ env x, foldedSetIterable iter env x = pure x)
    (h : Ev Γ k sc iter loc σ fun v σ₁ => ∃ src vs, Mk Γ k target v σ₁ src vs ∧ (∀ p ∈ src, p ∈ σ₁) ∧ ∀ D, Cmp Γ k (relS scope sc) target ifs elt iter scope pos src D vs (cloc (relS scope sc) loc) ((D, .list []) :: σ₁) fun σ₂ => P .next (lset loc x (.ref D)) σ₂) :
    Ex Γ k sc (.Assign [.Name x xp] (.ListComp elt [⟨target, iter, ifs, 0⟩] scope pos) apos) loc σ P :=
  ex_assign_comp (cellB hcell) hkind (fun x hx e => by have := List.all_eq_true.mp hnames x hx; simpa [e] using this) (fun x hx e => by have := List.all_eq_true.mp hfr x hx; simpa [e] using this) (fun e => by rw [e] at h0; cases h0) h hs hx fun env f => swaps_of f hx hb
end
end Mine
namespace Mine
section
variable {Γ : Gd} {k : Nat} {sc : Scope} {loc loc' : Loc} {σ σ' : Sto} {target : Expr}
/-- a comprehension with a test, by its turns -/
theorem cmp_indF {ι α : Type} {c elt iter : Expr} {scope : Scope} {pos : Pos} {src : Sto} {D : Addr} {P : Sto → Prop} (L : Loc) (S : ι → Sto) (g : α → AV) (I : List α → ι → Prop) (hsrc : ∀ i, ∀ p ∈ src, p ∈ S i)
    (step : ∀ x xs i (A : AV → Sto → Prop) (B : Sto → Prop), (∀ y ys σ₃ j, At σ₃ D (.list ys) (.list (ys ++ [y])) (S j) → ys.length ≤ sizeLine → I xs j → A y σ₃) → (∀ j, I xs j → B (S j)) → I (x :: xs) i →
      Asg Γ k sc target (g x) L (S i) fun l₁ σ₁ => Sub L l₁ ∧ Ts Γ k sc c l₁ σ₁ fun b σ₂ => Both b (Ev Γ k sc elt l₁ σ₂ A) (B σ₂))
    (done : ∀ i, I [] i → P (S i)) : ∀ xs i, I xs i → Cmp Γ k sc target [c] elt iter scope pos src D (xs.map g) L (S i) P
  | [], i, h => cmp_nil (done i h)
  | x :: xs, i, h => by
    refine cmp_cons fun A κ env s V hA l f R r => wpA (step x xs i (fun y σ₃ => ∃ ys j, At σ₃ D (.list ys) (.list (ys ++ [y])) (S j) ∧ ys.length ≤ sizeLine ∧ I xs j) (fun σ₂ => ∃ j, I xs j ∧ σ₂ = S j) (fun y ys σ₃ j a b c => ⟨ys, j, a, b, c⟩) (fun j a => ⟨j, a, rfl⟩) h A κ env s V hA l f R r) fun l₁ σ₁ h' tk q R' p => ⟨l₁, σ₁, h', tk, rfl, q, R', ?_⟩
    show Ts Γ k sc c l₁ σ₁ _
    refine ts_mono p.2 fun b σ₂ hb => ⟨fun e => ev_mono (hb.1 e) fun y σ₃ z => ?_, fun e => ?_⟩
    · obtain ⟨ys, j, a, b, c⟩ := z
      exact ⟨ys, S j, a, b, hsrc j, cmp_sub (cmp_indF L S g I hsrc step done xs j c) p.1⟩
    · obtain ⟨j, a, rfl⟩ := hb.2 e
      exact ⟨hsrc j, cmp_sub (cmp_indF L S g I hsrc step done xs j a) p.1⟩
end
/-! data that equal themselves -/
structure OkD (d : PyData) (n : Nat) : Prop where
  lay : d.canLay0 = true
  dep : d.depth ≤ n
  eqv : PyData.eqv d d = true
structure OkDs (l : List PyData) (n : Nat) : Prop where
  lay : PyData.canLayAll0 l = true
  dep : PyData.depthAll l ≤ n
  eqv : PyData.eqvAll l l = true
theorem okDs {n : Nat} : ∀ {l : List PyData}, (∀ d ∈ l, OkD d n) → OkDs l n
  | [], _ => ⟨by simp [PyData.canLayAll0], by simp [PyData.depthAll], by simp [PyData.eqvAll]⟩
  | d :: l, h => by
    obtain ⟨a, b, c⟩ := h d (.head _)
    obtain ⟨a', b', c'⟩ := okDs (l := l) fun d hd => h d (.tail _ hd)
    exact ⟨by simp only [PyData.canLayAll0, a, a', Bool.and_self], by simp only [PyData.depthAll]; exact Nat.max_le.mpr ⟨b, b'⟩, by simp only [PyData.eqvAll, c, c', Bool.and_self]⟩
theorem okD_int (i : Int) (n : Nat) : OkD (.int i) n := ⟨by simp [PyData.canLay0], by simp [PyData.depth], by simp [PyData.eqv]⟩
theorem okD_str {l : List Nat} (h : ∀ c ∈ l, c < 0x110000) (n : Nat) : OkD (.str (ofL l)) n := ⟨by simp only [PyData.canLay0, PyData.strOk, ofL]; rw [List.all_toArray, List.all_eq_true]; exact fun c hc => decide_eq_true (h c hc), by simp [PyData.depth], by simp [PyData.eqv]⟩
theorem okD_list {l : List PyData} {n : Nat} (h : OkDs l n) : OkD (.list l) (n + 1) := ⟨by simp only [PyData.canLay0]; exact h.lay, by simp only [PyData.depth]; exact Nat.succ_le_succ h.dep, by simp only [PyData.eqv]; exact h.eqv⟩
theorem okD_tup {l : List PyData} {n : Nat} (h : OkDs l n) : OkD (.tuple l) (n + 1) := ⟨by simp only [PyData.canLay0]; exact h.lay, by simp only [PyData.depth]; exact Nat.succ_le_succ h.dep, by simp only [PyData.eqv]; exact h.eqv⟩
theorem okDs_map {α : Type} {g : α → PyData} {n : Nat} (h : ∀ a, OkD (g a) n) (l : List α) : OkDs (l.map g) n := okDs fun d hd => by obtain ⟨a, _, rfl⟩ := List.mem_map.mp hd; exact h a
theorem avds_map {σ : Sto} {α : Type} {g : α → AV} {d : α → PyData} (h : ∀ a, AvD σ (g a) (d a)) : ∀ l : List α, AvDs σ (l.map g) (l.map d)
  | [] => .nil
  | a :: l => .cons (h a) (avds_map h l)
section
variable {Γ : Gd} {k : Nat} {σ : Sto}
theorem op_eq_same {x y : AV} {d : PyData} {n : Nat} {P : AV → Sto → Prop} (hx : AvD σ x d) (hy : AvD σ y d) (h : OkD d n) (hn : n ≤ 40) (p : P (.bool true) σ) : Op2 Γ k (compareOp .Eq) x y σ P :=
  op_eq_deep hx hy h.lay h.lay (Nat.le_trans h.dep hn) (by rw [h.eqv]; exact p)
end
end Mine
namespace Mine
/-! a dict from texts to texts -/
noncomputable def VO : Option Value → Option Str → Prop
  | some v, some x => ∃ t, v = .str x t
  | none, none => True
  | _, _ => False
structure MD (Γ : Gd) (o : Obj) (n : Nat) (f : Str → Option Str) : Prop where
  ex : ∃ kvs, o.IsDictOf (strKind Γ.prog Γ.w) kvs ∧ kvs.length ≤ n ∧ ∀ x, VO (valueAt kvs x) (f x)
theorem find_stored {x : Str} {v : Value} (y : Str) : ∀ kvs : List (Str × Value), valueAt (kvs.map fun kv => if kv.1 = x then (kv.1, v) else kv) y = if y = x then (valueAt kvs y).map fun _ => v else valueAt kvs y
  | [] => by simp [valueAt]
  | kv :: kvs => by
    have ih := find_stored (x := x) (v := v) y kvs
    unfold valueAt at ih ⊢
    rw [List.map_cons, List.find?_cons, List.find?_cons]
    by_cases h : kv.1 = x
    · rw [if_pos h]
      by_cases e : kv.1 = y
      · rw [decide_eq_true e, if_pos (e.symm.trans h)]; rfl
      · rw [decide_eq_false e]; exact ih
    · rw [if_neg h]
      by_cases e : kv.1 = y
      · rw [decide_eq_true e, if_neg (fun q => h (e.trans q))]
      · rw [decide_eq_false e]; exact ih
theorem valueAt_append {x : Str} {v : Value} (y : Str) : ∀ kvs : List (Str × Value), (∀ kv ∈ kvs, kv.1 ≠ x) → valueAt (kvs ++ [(x, v)]) y = if y = x then some v else valueAt kvs y
  | [], _ => by
    unfold valueAt
    rw [List.nil_append, List.find?_cons]
    by_cases e : x = y
    · rw [decide_eq_true (show (x, v).1 = y from e), if_pos e.symm]; rfl
    · rw [decide_eq_false (show ¬ (x, v).1 = y from e), if_neg (fun q => e q.symm)]
  | kv :: kvs, h => by
    have ih := valueAt_append (x := x) (v := v) y kvs fun kv hk => h kv (.tail _ hk)
    have hk := h kv (.head _)
    unfold valueAt at ih ⊢
    rw [List.cons_append, List.find?_cons, List.find?_cons]
    by_cases e : kv.1 = y
    · rw [decide_eq_true e, if_neg (fun q => hk (e.trans q))]
    · rw [decide_eq_false e]; exact ih
theorem valueAt_stored {x : Str} {v : Value} (kvs : List (Str × Value)) (y : Str) : valueAt (stored kvs x v) y = if y = x then some v else valueAt kvs y := by
  unfold stored
  split
  · rename_i h
    rw [find_stored]
    by_cases e : y = x
    · subst e
      rw [if_pos rfl, if_pos rfl]
      obtain ⟨kv, hm, hk⟩ := List.any_eq_true.mp h
      have hk := of_decide_eq_true hk
      have : (valueAt kvs y).isSome = true := by
        unfold valueAt
        rw [Option.isSome_map, List.find?_isSome]
        exact ⟨kv, hm, decide_eq_true hk⟩
      cases q : valueAt kvs y with
      | none => rw [q] at this; cases this
      | some w => rfl
    · rw [if_neg e, if_neg e]
  · rename_i h
    refine valueAt_append y kvs fun kv hm e => h (List.any_eq_true.mpr ⟨kv, hm, decide_eq_true e⟩)
theorem stored_len {x : Str} {v : Value} (kvs : List (Str × Value)) : (stored kvs x v).length ≤ kvs.length + 1 := by
  unfold stored; split
  · rw [List.length_map]; omega
  · rw [List.length_append]; simp
section
variable {Γ : Gd} {k : Nat} {sc : Scope} {loc : Loc} {σ : Sto} {P : AV → Sto → Prop}
theorem ev_dict0 {pos : Pos} {c : Addr} {oc : Obj} (hc : Γ.hB.get? c = some oc) (h1 : 1 ≤ c) (h : ∀ a o, a ≠ sysModules → MD Γ o 0 (fun _ => none) → P (.ref a) ((a, .obj o) :: σ)) : Ev Γ k sc (.Dict [] [] pos) loc σ P := fun A κ env s hA l f R =>
  wpAny_Dict_empty (by
    have hlt : c < s.heap.objs.size := Heap.lt_size (R.s.prot _ _ (l _ _ hc))
    obtain ⟨q, R'⟩ := R.grow (push_keeps { cls := .type "dict", data := .dict #[] })
    refine ⟨.ref s.heap.objs.size, _, _, s.toks, rfl, .of_keeps (push_keeps _), R.add (o := .obj { cls := .type "dict", data := .dict #[] }) size_new (push_keeps _) (Heap.get?_push_size _ rfl) ⟨rfl, fun vs n e => by have e2 := congrArg Obj.data e; cases e2⟩, .ref _, h _ _ ?_ ⟨[], ⟨#[], _, ⟨rfl, rfl, rfl⟩, rfl, fun e he => by simp at he, .nil, .nil⟩, Nat.le_refl _, fun x => trivial⟩⟩
    exact Nat.ne_of_gt (Nat.lt_of_le_of_lt h1 hlt))
theorem RepS.dic {κ : Kap} {h : Heap} (R : RepS κ σ h) {a : Addr} {o : Obj} {n : Nat} {f : Str → Option Str} (hm : (a, .obj o) ∈ σ) (D : MD Γ o n f) : ∃ kvs, h.DictOf (strKind Γ.prog Γ.w) a kvs ∧ kvs.length ≤ n ∧ ∀ x, VO (valueAt kvs x) (f x) := by
  obtain ⟨kvs, d, l, v⟩ := D.ex
  exact ⟨kvs, Heap.dictOf_iff.mpr ⟨o, R.ob hm, d⟩, l, v⟩
theorem it_dict {a : Addr} {o : Obj} {n : Nat} {f : Str → Option Str} {x y : Str} {σ' : Obj → Sto} {P : Sto → Prop} (D : MD Γ o n f) (hn : n ≤ 1000) (at' : ∀ o', At σ a (.obj o) (.obj o') (σ' o')) (h : ∀ o', MD Γ o' (n + 1) (fun z => if z = x then some y else f z) → P (σ' o')) : It1 Γ k (.ref a) (.str x) (.str y) σ P := fun A κ s O I V hA l R ro ri rv => by
  cases ro
  obtain ⟨t, rfl⟩ : ∃ t, I = .str x t := by cases ri; exact ⟨_, rfl⟩
  obtain ⟨u, rfl⟩ : ∃ u, V = .str y u := by cases rv; exact ⟨_, rfl⟩
  obtain ⟨kvs, hd, hl, hv⟩ := R.dic (at' o).mem D
  refine wpAny_setItem_pairs (knd := strKind Γ.prog Γ.w) (k := x) (by show Value.isStrOf x (.str x t) = true; simp [Value.isStrOf]) hd (fun h' hd' hs => ?_) (by rw [sizeLine_eq]; omega)
  obtain ⟨o', ho', hio⟩ := Heap.dictOf_iff.mp hd'
  refine ⟨σ' o', h', _, rfl, R.upd (at' o') hs.extBut ho' ⟨rfl, fun vs n e => ?_⟩, h o' ⟨_, hio, Nat.le_trans (stored_len kvs) (by omega), fun z => ?_⟩⟩
  · obtain ⟨es, ep, _, hdat, _⟩ := hio
    rw [e] at hdat; cases hdat
  · rw [valueAt_stored]
    by_cases e : z = x
    · rw [if_pos e, if_pos e]; exact ⟨u, rfl⟩
    · rw [if_neg e, if_neg e]; exact hv z
theorem gm_dget {a : Addr} {o : Obj} {n : Nat} {f : Str → Option Str} (hm : (a, .obj o) ∈ σ) (D : MD Γ o n f) : GM Γ "get" (.ref a) σ (.builtin "dict.get") [.ref a] :=
  gm_of F.plainAttrs_dict F.slot_dict_get F.type_dict_get (fun κ s O R r => by
    cases r
    obtain ⟨kvs, hd, _⟩ := R.dic hm D
    exact hd.typeIs) fun κ s O R r b e => by
    cases r
    cases e
    obtain ⟨kvs, ⟨es, ep, ed, _⟩, _⟩ := D.ex
    exact ⟨o, R.ob hm, ed.2.1⟩
theorem cal_dget {a : Addr} {o : Obj} {n : Nat} {f : Str → Option Str} {x y : Str} (hm : (a, .obj o) ∈ σ) (D : MD Γ o n f) (ha : a ≠ sysModules) (h : P (.str ((f x).getD y)) σ) : Cal Γ k (.builtin "dict.get") [.ref a, .str x, .str y] σ P := fun A κ s Xs hA l R rs => by
  cases rs with
  | cons r1 rs => cases rs with
    | cons r2 rs => cases rs with
      | cons r3 rs =>
        cases r1; cases rs
        cases r2
        rename_i t
        cases r3
        rename_i u
        obtain ⟨kvs, hd, _, hv⟩ := R.dic hm D
        refine call_meetsIn F.slot_dict_get hd.typeIs F.entry_dict_get (F.args_dict_get_3 _ _ _) (meets_dict_get_default (strKind Γ.prog Γ.w) (k := x) a (by show Value.isStrOf x (.str x t) = true; simp [Value.isStrOf]) (beq_eq_false_iff_ne.mpr ha) (.str y u)) ⟨_, hd.mapOf, ?_⟩
        have := hv x
        show ∃ v σ' h' tk, _
        cases q : valueAt kvs x with
        | none =>
          rw [q] at this
          cases q2 : f x with
          | none => rw [q2] at h; exact ⟨_, σ, s.heap, _, rfl, R, .str _ _, h⟩
          | some z => rw [q2] at this; exact this.elim
        | some w =>
          rw [q] at this
          cases q2 : f x with
          | none => rw [q2] at this; exact this.elim
          | some z =>
            rw [q2] at this h
            obtain ⟨tt, rfl⟩ := this
            exact ⟨_, σ, s.heap, _, rfl, R, .str _ _, h⟩
end
end Mine
namespace Mine
section
variable {Γ : Gd} {k : Nat} {sc : Scope} {loc : Loc} {σ : Sto} {P : AV → Sto → Prop}
/-- 2 ** j for a small j -/
theorem op_pow2 {j : Nat} (hj : j < 4) (h : P (.int ((2 ^ j : Nat) : Int)) σ) : Op2 Γ k (binaryOp .Pow) (.int 2) (.int j) σ P := fun A κ s X Y hA l R rx ry => by
  cases rx; cases ry
  match j, hj with
  | 0, _ => exact PySem.AutoIntOps.pow_0 (by decide) (by decide) ⟨_, σ, s.heap, _, rfl, R, .int _ _, h⟩
  | 1, _ => exact PySem.AutoIntOps.pow_4 (by decide) (by decide) (by decide) (by decide) (by decide +kernel) ⟨_, σ, s.heap, _, rfl, R, .int _ _, h⟩
  | 2, _ => exact PySem.AutoIntOps.pow_4 (by decide) (by decide) (by decide) (by decide) (by decide +kernel) ⟨_, σ, s.heap, _, rfl, R, .int _ _, h⟩
  | 3, _ => exact PySem.AutoIntOps.pow_4 (by decide) (by decide) (by decide) (by decide) (by decide +kernel) ⟨_, σ, s.heap, _, rfl, R, .int _ _, h⟩
theorem VRels.rep {av : Avd} {h : Heap} {xs : List AV} {vs : List Value} (r : VRels av h xs vs) : ∀ n : Nat, VRels av h (List.replicate n xs).flatten (List.replicate n vs).flatten
  | 0 => .nil
  | n + 1 => by rw [List.replicate_succ, List.replicate_succ, List.flatten_cons, List.flatten_cons]; exact r.append (VRels.rep r n)
theorem op_mul_list {a : Addr} {xs : List AV} {x : Int} (hm : (a, .list xs) ∈ σ) (hlo : 0 ≤ x) (hhi : x < 2 ^ 31) (hsz : xs.length * x.toNat ≤ 256) (h : ∀ c, P (.ref c) ((c, .list (List.replicate x.toNat xs).flatten) :: σ)) : Op2 Γ k (binaryOp .Mult) (.ref a) (.int x) σ P := fun A κ s X Y hA l R rx ry => by
  cases rx; cases ry
  rename_i u
  obtain ⟨vs, n, ho, rs⟩ := R.list hm
  have hsz' : vs.toArray.size * x.toNat ≤ 256 := by rw [rs.size]; exact hsz
  have hsz2 : vs.length * x.toNat ≤ 256 := by rw [rs.length]; exact hsz
  refine wpAny_binaryOp_repeat_ref (T := "list") (U := "int") (by decide) ⟨_, ho, rfl⟩ (fun s' => typeIs_int s' x u) noFill_list_mul F.fills_int_mul F.slot_int_rmul repeat_list F.slot_int_index.lookup
    (call_meets F.slot_int_rmul (typeIs_int s x u) F.entry_int_rmul (F.args_int_rmul_2 _ _) (lm_int_rmul_list_any x u a vs.toArray n none #[])
      ⟨ho, rfl, ⟨_, ho, rfl⟩, call_meets F.slot_list_mul ⟨_, ho, rfl⟩ F.entry_list_mul (F.args_list_mul_2 _ _)
        (lm_list_mul_any a vs.toArray n none #[] x u (by simp [Builtin.List.listFitsIndex]; omega) (by omega) (by simp [Builtin.List.listTooLong, sizeLine]; omega))
        ⟨ho, ?_⟩⟩)
  refine ⟨.ref _, _, _, s.toks, rfl, R.add (o := .list (List.replicate x.toNat xs).flatten) size_new (push_keeps _) (Heap.get?_push_size _ rfl) ⟨(List.replicate x.toNat vs).flatten, 0, ?_, (rs.rep _).mono (.of_keeps (push_keeps _))⟩, .ref _, h _⟩
  rw [listMul_foldl_if]
theorem items_of {vs : List Value} {ns : List Int} (h : IntsAre vs ns) : ∃ xs : Array (Int × Tok), vs.toArray = intItems xs ∧ xs.toList.map (·.1) = ns := by
  obtain ⟨xs, e⟩ := h.allInts.items
  refine ⟨xs, e, ?_⟩
  rw [← nums_intItems, ← e, show vs.toArray.toList = vs from rfl, h.numsOf]
theorem cal_sum {l : Addr} {ns : List Int} (hm : (l, .list (ns.map .int)) ∈ σ) (h : P (.int ns.sum) σ) : Cal Γ k (.builtin "sum") [.ref l] σ P := fun A κ s Xs hA le R rs => by
  cases rs with
  | cons r rs =>
    cases r; cases rs
    obtain ⟨vs, n, e, rs⟩ := R.list hm
    obtain ⟨xs, ex, en⟩ := items_of (rel_ints rs)
    refine sum_intListG (xs := xs) hA.1 ⟨_, e, rfl, n, by rw [ex]⟩ fun h' tk t' hk => ⟨_, σ, h', tk, rfl, R.keep hk, .int _ _, ?_⟩
    rw [preSum_eq, List.take_of_length_le (by simp), en]; exact h
theorem cal_min2 {a b : Int} (h : P (.int (if b < a then b else a)) σ) : Cal Γ k (.builtin "min") [.int a, .int b] σ P := fun A κ s Xs hA le R rs => by
  cases rs with
  | cons r rs => cases rs with
    | cons r2 rs =>
      cases r; cases r2; cases rs
      refine min_two_ints hA.1 fun h' tk hk => ?_
      by_cases hb : b < a
      · rw [if_pos hb] at h ⊢; exact ⟨_, σ, h', tk, rfl, R.keep hk, .int _ _, h⟩
      · rw [if_neg hb] at h ⊢; exact ⟨_, σ, h', tk, rfl, R.keep hk, .int _ _, h⟩
/-- a list the other way round, by a slice -/
theorem ev_rev {value step : Expr} {p pos : Pos} (h : Ev Γ k sc value loc σ fun o σ₁ => EvO Γ k sc (some step) loc σ₁ fun st σ₂ => st = some (-1) ∧ ∃ a xs, o = .ref a ∧ (a, .list xs) ∈ σ₂ ∧ xs.length ≤ sizeLine ∧ ∀ b, P (.ref b) ((b, .list xs.reverse) :: σ₂)) :
    Ev Γ k sc (.Subscript value (.Slice none none (some step) p) pos) loc σ P := fun A κ env s hA l f R => by
  rw [arm_eval_Subscript]
  refine wpAny_bind (wpE (h A κ env s hA l f R) fun V₁ o σ₁ h₁ tk₁ q₁ R₁ r₁ p₁ => ?_)
  refine wpAny_bind (wpAny_holding (wpAny_Slice ?_))
  refine wpAny_evalPart_none ?_
  refine wpAny_evalPart_none ?_
  refine wpO (s := { s with heap := h₁, toks := tk₁ }) p₁ hA l f R₁ fun V₃ st σ₃ h₃ tk₃ q₃ R₃ i₃ ph => ?_
  obtain ⟨rfl, a, xs, rfl, hm, hz, p₃⟩ := ph
  obtain ⟨q₄, R₄⟩ := R₃.grow (push_keeps { cls := .type "slice", data := .fields #[.none, .none, V₃] })
  have r₄ := (r₁.mono q₃).mono q₄
  refine wpAny_bind (wpAny_standAt (wpAny_bind (plain_list hm A κ _ V₁ _ R₄.s r₄ ?_)))
  cases r₄
  show wpAny _ _ ((operate [_, _] (getItem _ _)) >>= _) _ _ _
  obtain ⟨vs, n, e, rs⟩ := R₄.s.list hm
  refine wpAny_bind (wpAny_operating (wpAny_getItem_list_slice (items := vs.toArray) (lo := none) (hi := none) (st := some (-1)) ⟨_, e, rfl, n, rfl⟩ ⟨_, Heap.get?_push_size _ rfl, rfl, rfl⟩ .none .none i₃ (by decide) ?_ (by rw [rs.size]; exact hz)))
  rw [krv_pick]
  refine wpAny_bind (wpAny_letTemporaryGo (wpAny_pure ?_))
  obtain ⟨q₅, R₅⟩ := R₄.grow (push_keeps { cls := .type "list", data := .seq vs.reverse.toArray })
  exact ⟨.ref _, _, _, tk₃, rfl, ((q₁.trans q₃).trans q₄).trans (.of_keeps (push_keeps _)), R₄.add (o := .list xs.reverse) size_new (push_keeps _) (Heap.get?_push_size _ rfl) ⟨vs.reverse, 0, rfl, rs.reverse.mono (.of_keeps (push_keeps _))⟩, .ref _, p₃ _⟩
end
section
variable {Γ : Gd} {k : Nat} {sc : Scope} {target : Expr} {body : List Stmt} {P : AFl → Loc → Sto → Prop}
/-- a for that may be left by 'break' -/
theorem for_indB {ι α : Type} {src : Sto} (L : ι → Loc) (S : ι → Sto) (g : α → AV) (I : List α → ι → Prop) (X : ι → Prop) (hsrc : ∀ i, ∀ p ∈ src, p ∈ S i)
    (step : ∀ x xs i (P' : AFl → Loc → Sto → Prop) (A : Loc → Sto → Prop), (∀ j l σ', I xs j → Sub (L j) l → (S j).Sublist σ' → A l σ') → (∀ j l σ', X j → Sub (L j) l → (S j).Sublist σ' → P' .next l σ') → I (x :: xs) i → Asg Γ k sc target (g x) (L i) (S i) fun l₁ σ₁ => Exs Γ k sc body l₁ σ₁ (Turn P' A))
    (done : ∀ i, I [] i → X i) (out : ∀ j l σ', X j → Sub (L j) l → (S j).Sublist σ' → P .next l σ') (xs : List α) (i : ι) (h : I xs i) : For Γ k sc target body src (xs.map g) (L i) (S i) P :=
  for_ind L S g I hsrc (fun x xs i h => step x xs i P _ (fun j _ _ a b c => ⟨j, a, b, c⟩) out h) (fun i h => out i _ _ (done i h) (fun _ _ e => e) (.refl _)) xs i h
/-- a while that may be left by 'break' -/
theorem whl_indB {ι : Type} {test : Expr} (L : ι → Loc) (S : ι → Sto) (rank : ι → Nat) (I X : ι → Prop)
    (step : ∀ i (P' : AFl → Loc → Sto → Prop) (A : Loc → Sto → Prop), (∀ j l σ', I j → rank j < rank i → Sub (L j) l → (S j).Sublist σ' → A l σ') → (∀ j l σ', X j → Sub (L j) l → (S j).Sublist σ' → P' .next l σ') → I i → Ts Γ k sc test (L i) (S i) fun b σ' => Both b (Exs Γ k sc body (L i) σ' (Turn P' A)) (X i ∧ σ' = S i))
    (out : ∀ j l σ', X j → Sub (L j) l → (S j).Sublist σ' → P .next l σ') (i : ι) (h : I i) : Whl Γ k sc test body (L i) (S i) P :=
  whl_ind (ι := { i // I i }) (fun i => L i.1) (fun i => S i.1) (fun i => rank i.1) (fun i => ts_mono (step i.1 P _ (fun j _ _ a b c d => ⟨⟨j, a⟩, b, c, d⟩) out i.2) fun b σ' h => ⟨h.1, fun e => (h.2 e).2 ▸ out i.1 _ _ (h.2 e).1 (fun _ _ e => e) (.refl _)⟩) ⟨i, h⟩
/-- what a value's making left behind is let go -/
theorem ev_less {e : Expr} {loc : Loc} {σ : Sto} {P : AV → Sto → Prop} (h : Ev Γ k sc e loc σ fun v σ₁ => ∃ σ₂, σ₂.Sublist σ₁ ∧ P v σ₂) : Ev Γ k sc e loc σ P := fun A κ env s hA l f R => by
  refine wp_no (h A κ env s hA l f R) fun V s' z => ?_
  obtain ⟨v, σ₁, h', tk, e, q, R', r, σ₂, hs, p⟩ := z
  exact ⟨v, σ₂, h', tk, e, q, R'.less (fun _ _ e => e) hs, r, p⟩
theorem bind4 {fd : FuncData} {x y z u : Str} (h : ∀ a b c d, bindArgs fd ⟨[a, b, c, d], []⟩ = pure [(x, a), (y, b), (z, c), (u, d)]) (Xs : List Value) (hl : Xs.length = [x, y, z, u].length) : bindArgs fd ⟨Xs, []⟩ = pure ([x, y, z, u].zip Xs) := by
  match Xs, hl with
  | [a, b, c, d], _ => exact h a b c d
theorem bind5 {fd : FuncData} {x y z u v : Str} (h : ∀ a b c d e, bindArgs fd ⟨[a, b, c, d, e], []⟩ = pure [(x, a), (y, b), (z, c), (u, d), (v, e)]) (Xs : List Value) (hl : Xs.length = [x, y, z, u, v].length) : bindArgs fd ⟨Xs, []⟩ = pure ([x, y, z, u, v].zip Xs) := by
  match Xs, hl with
  | [a, b, c, d, e], _ => exact h a b c d e
/-- a loop over n things, by the number of the turn; the names' values change with it -/
theorem for_nL {src : Sto} (n : Nat) (L : Nat → Loc) (S : Nat → Sto) (g : Nat → AV) (hsrc : ∀ i, ∀ p ∈ src, p ∈ S i)
    (step : ∀ i (P' : AFl → Loc → Sto → Prop) (A : Loc → Sto → Prop), i < n → (∀ l σ', Sub (L (i + 1)) l → (S (i + 1)).Sublist σ' → A l σ') → Asg Γ k sc target (g i) (L i) (S i) fun l₁ σ₁ => Exs Γ k sc body l₁ σ₁ (Turn P' A))
    (done : P .next (L n) (S n)) : For Γ k sc target body src ((List.range n).map g) (L 0) (S 0) P :=
  for_ind2 L S g (fun ys i => ys = (List.range n).drop i ∧ i ≤ n) (fun i => hsrc i)
    (fun x xs i P' A hA hI => by
      have hlt : i < n := by
        rcases Nat.lt_or_ge i n with h | h
        · exact h
        · have := hI.1; rw [List.drop_of_length_le (by simpa using h)] at this; cases this
      have e := hI.1
      rw [List.drop_eq_getElem_cons (by simpa using hlt), List.getElem_range] at e
      injection e with e1 e2
      subst e1
      exact step x P' A hlt fun l σ' => hA (x + 1) l σ' ⟨e2, hlt⟩)
    (fun i hI => by
      have : i = n := by
        rcases Nat.lt_or_ge i n with h | h
        · have := hI.1; rw [List.drop_eq_getElem_cons (by simpa using h)] at this; cases this
        · exact Nat.le_antisymm hI.2 h
      subst this; exact done)
    (List.range n) 0 ⟨by simp, Nat.zero_le _⟩
/-- ways that meet again -/
theorem exs_join {s : Stmt} {rest : List Stmt} {loc : Loc} {σ : Sto} (l₀ : Loc) (σ₀ : Sto) (h : Ex Γ k sc s loc σ fun fl l' σ' => fl = .next ∧ Sub l₀ l' ∧ σ₀.Sublist σ') (c : Exs Γ k sc rest l₀ σ₀ P) : Exs Γ k sc (s :: rest) loc σ P :=
  exs_cons (ex_mono h fun fl l' σ' ⟨e, a, b⟩ => by subst e; exact exs_sub c a b)
end
end Mine
namespace Mine
theorem left_of {p q : Program} {loose : List Str} {Xt : Shared → Bool} {α : Type} {Yf : Shared → α} {Ya : World → α} {N : Nat} {g0 : Bool} {H₀ : Params → Heap} {gs₀ : Array GenState} {d₀ : Drawn} {k₀ : Nat}
    (open_ : ∀ w : World, (fencedOpening treeTable p w N).map (fun s => (s.heap, s.gens, s.drawn, s.toks)) = some (H₀ w.params, gs₀, d₀, k₀))
    (run : ∀ (w : World) (os : OsState), (topFrom treeTable p w N ⟨H₀ w.params, gs₀, d₀, k₀, os⟩).map (fun s => (openSeen q loose (importedModules p.main.body) Xt g0 s, Yf s)) = some (openGood q loose, Ya w)) : LeftO p q loose Xt Yf Ya N g0 := fun w => by
  obtain ⟨⟨h, gs, d, k, os⟩, e, e'⟩ := Option.map_eq_some_iff.mp (open_ w)
  obtain ⟨rfl, rfl, rfl, rfl⟩ : h = H₀ w.params ∧ gs = gs₀ ∧ d = d₀ ∧ k = k₀ := by simpa using e'
  unfold openEnds
  rw [e]
  exact run w os
noncomputable abbrev vw : Program := view PySem.Challenge.pw_pg0050_02 [1, 3, 5, 6, 7, 8, 9, 10, 11, 12, 13, 14]
local macro_rules | `(tactic| o_law) => `(tactic| refine holds_law (by decide +kernel) fun said => ?_)
local macro_rules | `(tactic| o_head $H) => `(tactic| (
  refine holds_open (q := vw) (loose := []) (Xt := fun s => xlAt vw [] s && recOk (RowW.records (OpenRow.toRowW (OpenLaw.row PySem.Challenge.rw_pg0050_02))) s) (XP := XL vw []) (Yf := Hook.obs $H) (Ya := Hook.val $H) (YP := Hook.says $H) (N := 1538) ?hl (Hook.of $H) (Hook.keeps $H) (fun s e => xl_of s (Bool.and_eq_true_iff.mp e).1) XL.keeps (by rfl) (by rfl) (by rfl) (fun s e => recFacts_of (Bool.and_eq_true_iff.mp e).2) (by rfl) (by assumption) (by decide +kernel) ⟨rfl, rfl, rfl, rfl, rfl, by decide +kernel⟩ ?hw ?hc
  (case hl => exact left_of (boot_open (by kernel_rfl) (by decide) (fun _ => by kernel_rfl)) (fun w os => by kernel_rfl))))
open_top hd for PySem.Challenge.rw_pg0050_02
end Mine
noncomputable section
namespace Mine
local macro_rules | `(tactic| walk_at "mem") => `(tactic| (repeat (first | exact List.Mem.head _ | assumption | refine List.Mem.tail _ ?_)))
local macro_rules | `(tactic| walk_at "a") => `(tactic| with_reducible first
  | refine exs_cons ?_
  | refine exs_nil ?_
  | refine ex_return ?_
  | refine ex_if ?_
  | refine ex_while ?_
  | refine ex_break ?_
  | refine ex_continue ?_
  | refine ev_int ?_
  | refine ev_str ?_
  | refine ev_bytes ?_
  | refine ev_binop ?_
  | refine ev_unary ?_
  | refine ev_list ?_
  | refine ev_tuple ?_
  | refine ev_slice ?_
  | refine evO_none ?_
  | refine evO_some ?_
  | refine evs_nil ?_
  | refine asg_attr ?_
  | refine asg_item ?_
  | refine asgL_nil ?_
  | refine ts_bool ?_
  | refine tsl_and_cons ?_
  | refine tsl_and_nil ?_
  | refine tr_int ?_
  | refine tr_bool ?_
  | refine op_add ?_
  | refine op_sub ?_
  | refine op_eq ?_
  | refine op_lt ?_
  | refine op_gt ?_
  | refine op_neg ?_
  | refine op_eq_str ?_
  | refine op_in_str ?_)
local macro_rules | `(tactic| walk_at "m") => `(tactic| first
  | walk_at "a"
  | with_reducible refine ex_expr ?_ (fun _ _ => by kernel_rfl!)
  | with_reducible refine ex_assign ?_ (fun _ _ => by kernel_rfl!) (fun _ _ => by kernel_rfl!) (fun _ => by kernel_rfl!)
  | with_reducible refine ex_assign_compC (by kernel_rfl!) ?_
  | with_reducible refine ex_assign_compB (by kernel_rfl!) (by kernel_rfl!) (by kernel_rfl!) (by kernel_rfl!) (by kernel_rfl!) (by kernel_rfl!) (by kernel_rfl!) (fun _ _ => by kernel_rfl!) ?_
  | ((with_reducible refine ex_aug_name (a := ?v0) ?hk ?hv ?_); (case hk => kernel_rfl!); (case hv => exact rfl))
  | ((with_reducible refine ev_local (v := ?v0) ?hk ?hv ?_ ?hd); (case hk => kernel_rfl!); (case hv => exact rfl); (case hd => kernel_rfl!))
  | ((with_reducible refine ev_cell (v := ?v0) ?hk ?hv ?_ ?hd); (case hk => kernel_rfl!); (case hv => exact rfl); (case hd => kernel_rfl!))
  | ((with_reducible refine ev_free (v := ?v0) ?hk ?hv ?_ ?hd ?hn); (case hk => kernel_rfl!); (case hv => exact rfl); (case hd => kernel_rfl!); (case hn => kernel_rfl!))
  | with_reducible refine ev_compare ?_ (by kernel_rfl!)
  | with_reducible refine ev_listcompB (by kernel_rfl!) (by kernel_rfl!) (by kernel_rfl!) (by kernel_rfl!) (by kernel_rfl!) ?_ (fun _ _ => by kernel_rfl!)
  | with_reducible refine evs_cons ?_ (by kernel_rfl!)
  | with_reducible refine ev_item ?_ (fun _ _ => by kernel_rfl!)
  | with_reducible refine asg_name (.inl (by kernel_rfl!)) ?_
  | with_reducible refine asg_name (.inr ⟨by kernel_rfl!, by kernel_rfl!⟩) ?_
  | with_reducible refine asg_tuple ?_ (by kernel_rfl!) (fun _ => by kernel_rfl!)
  | with_reducible refine asgL_cons ?_ (fun _ => by kernel_rfl!)
  | with_reducible refine ev_method (by kernel_rfl!) (fun _ => by kernel_rfl!) (by decide) (by kernel_rfl!) ?_
  | with_reducible refine ev_attr ?_ (fun _ => by kernel_rfl!)
  | with_reducible refine ts_compare ?_ (by kernel_rfl!)
  | with_reducible refine ts_value ?_ (fun _ _ => by kernel_rfl!)
  | with_reducible refine ev_calB (by assumption) "abs" (by kernel_rfl!) ?_
  | with_reducible refine ev_calB (by assumption) "divmod" (by kernel_rfl!) ?_
  | with_reducible refine ev_calB (by assumption) "ord" (by kernel_rfl!) ?_
  | with_reducible refine ev_calB (by assumption) "len" (by kernel_rfl!) ?_
  | with_reducible refine ev_calB (by assumption) "iter" (by kernel_rfl!) ?_
  | with_reducible refine ev_calB (by assumption) "sorted" (by kernel_rfl!) ?_
  | with_reducible refine ev_calT (by assumption) "int" (by kernel_rfl!) ?_
  | with_reducible refine ev_calT (by assumption) "range" (by kernel_rfl!) ?_
  | with_reducible refine ev_calT (by assumption) "zip" (by kernel_rfl!) ?_)
local macro_rules | `(tactic| walk_at "g") => `(tactic| repeat (walk_at "m"))
abbrev KK (pp : Params) : Frag := Mine.hd.heap_1 pp
variable {Γ : Gd} {k : Nat} {σ : Sto} {mg mb : Str → Option Value} {pp : Params}
theorem ok_ap (X : (KK pp).In Γ.hB) : FnOk Γ 63 (fdOf (KK pp) 63) (bodyOf (fdOf (KK pp) 63)) ["num"] := fnOkB X (by kernel_rfl!) (bind1 fun _ => by kernel_rfl!)
/-- the letters of a number -/
noncomputable def ap (n : Nat) : List UInt8 := if h : n = 0 then [] else ap (n / 16) ++ [UInt8.ofNat (65 + n % 16)]
termination_by n
decreasing_by omega
theorem ap_zero : ap 0 = [] := by unfold ap; rfl
theorem ap_pos {n : Nat} (h : n ≠ 0) : ap n = ap (n / 16) ++ [UInt8.ofNat (65 + n % 16)] := by rw [ap]; simp [h]
theorem ap_len (n : Nat) : ∀ m, n < 16 ^ m → (ap n).length ≤ m := by
  intro m
  induction m generalizing n with
  | zero => intro h; have : n = 0 := by simpa using h
            subst this; simp [ap_zero]
  | succ m ih =>
    intro h
    by_cases hn : n = 0
    · subst hn; simp [ap_zero]
    · rw [ap_pos hn, List.length_append]
      have := ih (n / 16) (by rw [Nat.pow_succ] at h; omega)
      simp; omega
theorem ap_pick : ∀ m : Nat, m < 16 → pick [65, 66, 67, 68, 69, 70, 71, 72, 73, 74, 75, 76, 77, 78, 79, (80 : UInt8)] (some m) (some (m + 1)) = [UInt8.ofNat (65 + m)] := by decide +kernel
theorem int2ap (W : Wd Γ (KK pp) mg mb) {n : Int} (hn : n.natAbs < 16 ^ 100) {P : AV → Sto → Prop} (p : P (.bytes (ap n.natAbs).toArray) σ) : CalC Γ (k + 1) (.ref 63) [.int n] σ P := by
  refine fn_defB W.ok (ok_ap W.X) rfl (by kernel_rfl) (by kernel_rfl) ?_
  refine exs_cons ?_
  walk_at "g"
  refine cal_abs ?_
  walk_at "g"
  refine cal_int ?_
  walk_at "g"
  have e : (if n < 0 then -n else n) = (n.natAbs : Int) := by split <;> omega
  rw [e]
  refine whl_sub (whl_c2 (I := fun (m : Nat) (val : List UInt8) => ap m ++ val = ap n.natAbs) (L := fun (m : Nat) (val : List UInt8) => [("val", .bytes val.toArray), ("AP", .bytes [65, 66, 67, 68, 69, 70, 71, 72, 73, 74, 75, 76, 77, 78, 79, (80 : UInt8)].toArray), ("num", .int m)]) (S := fun _ _ => σ) (rank := fun (m : Nat) _ => m) (X := fun m _ => m = 0) ?_ ?_ n.natAbs [] (by simp)) (sub_cons rfl (sub_cons rfl (sub_cons rfl sub_nil))) (.refl _)
  · intro m val P' A hA hi
    walk_at "g"
    refine ⟨fun hb => ?_, fun hb => ⟨by simpa using hb, rfl⟩⟩
    have hm : m ≠ 0 := by intro h; subst h; simp at hb
    walk_at "g"
    refine cal_divmod (by decide) (by decide) ?_
    walk_at "g"
    refine ⟨_, rfl, ?_⟩
    walk_at "g"
    refine ⟨_, rfl, plain_bytes, slc_bytes (by decide) ?_⟩
    have e1 : ((m : Int) % 16) = ((m % 16 : Nat) : Int) := by omega
    have e2 : ((m : Int) / 16) = ((m / 16 : Nat) : Int) := by omega
    rw [e1, e2]
    rw [show (([65, 66, 67, 68, 69, 70, 71, 72, 73, 74, 75, 76, 77, 78, 79, (80 : UInt8)].toArray).toList) = [65, 66, 67, 68, 69, 70, 71, 72, 73, 74, 75, 76, 77, 78, 79, (80 : UInt8)] from rfl, ap_pick _ (Nat.mod_lt _ (by decide))]
    walk_at "g"
    have hlen : val.length ≤ 100 := by
      have := congrArg List.length hi
      have h2 := ap_len n.natAbs 100 hn
      rw [List.length_append] at this; omega
    refine op_add_bytes (by simp; omega) ?_
    walk_at "g"
    refine hA (m / 16) (UInt8.ofNat (65 + m % 16) :: val) _ _ ?_ (by omega) (sub_cons (by simp [lookup_lset]) (sub_cons rfl (sub_cons rfl sub_nil))) (.refl _)
    rw [← hi, ap_pos hm]; simp
  · rintro m val hi rfl
    walk_at "g"
    refine drp ?_
    rw [ap_zero] at hi
    simp only [List.nil_append] at hi
    rw [hi]
    exact p
theorem ok_fig (X : (KK pp).In Γ.hB) : FnOk Γ 70 (fdOf (KK pp) 70) (bodyOf (fdOf (KK pp) 70)) ["number", "bases"] := fnOkB X (by kernel_rfl!) (bind2 fun _ _ => by kernel_rfl!)
noncomputable def figs (x : Int) : List Int → List Int
  | [] => []
  | b :: bs => x % b :: figs (x / b) bs
theorem figs_length (x : Int) (bs : List Int) : (figs x bs).length = bs.length := by
  induction bs generalizing x with
  | nil => rfl
  | cons b bs ih => simp [figs, ih]
theorem fig (W : Wd Γ (KK pp) mg mb) {x : Int} {b : Addr} {bases : List Int} (hb : ∀ b ∈ bases, 0 < b ∧ b < 1073741824) (hl : bases.length < 1000) (hm : (b, .list (bases.map .int)) ∈ σ) {P : AV → Sto → Prop} (p : ∀ a, P (.ref a) ((a, .list ((figs x bases).map .int)) :: σ)) : CalC Γ (k + 1) (.ref 70) [.int x, .ref b] σ P := by
  refine fn_defB W.ok (ok_fig W.X) rfl (by kernel_rfl) (by kernel_rfl) ?_
  refine exs_cons ?_
  walk_at "g"
  refine ⟨by decide, fun a => ?_⟩
  walk_at "g"
  refine ex_for ?_ (fun _ _ => rfl)
  walk_at "g"
  refine ⟨_, _, mk_list (.name _ _) (.tail _ hm), fun p hp => by rw [List.mem_singleton.mp hp]; exact .tail _ hm, ?_⟩
  refine for_sub (loc' := [("number", .int x), ("figures", .ref a)]) (for_ind2 (ι := Int × List Int) (L := fun i => [("number", .int i.1), ("figures", .ref a)]) (S := fun i => (a, .list (i.2.map .int)) :: σ) (g := .int) (I := fun xs i => i.2 ++ figs i.1 xs = figs x bases ∧ ∀ b ∈ xs, 0 < b ∧ b < 1073741824) ?_ ?_ ?_ bases (x, []) ⟨rfl, hb⟩) (sub_cons rfl (sub_cons rfl sub_nil)) (.refl _) ?_
  · intro i p hp; rw [List.mem_singleton.mp hp]; exact .tail _ hm
  · intro y ys ⟨n, acc⟩ P' A hA ⟨h1, h2⟩
    have hy := h2 y (.head _)
    walk_at "g"
    refine ⟨_, _, gm_append (.head _), ?_⟩
    walk_at "g"
    refine op_mod hy.1 ?_
    walk_at "g"
    refine ⟨kpr_builtin, cal_append .head ?_ ⟨rfl, ?_⟩⟩
    · have := congrArg List.length h1
      simp only [List.length_append, figs_length, List.length_cons, List.length_map, sizeLine_eq] at this ⊢
      omega
    walk_at "g"
    refine op_fdiv hy.1 hy.2 ?_
    walk_at "g"
    refine hA (n / y, acc ++ [n % y]) _ _ ⟨?_, fun b hb => h2 b (.tail _ hb)⟩ (sub_cons rfl (sub_cons rfl sub_nil)) ?_
    · rw [← h1]; simp [figs]
    · simp
  · intro ⟨n, acc⟩ ⟨h1, _⟩
    walk_at "g"
    refine drp ?_
    have h1 : acc ++ [] = figs x bases := h1
    rw [List.append_nil] at h1
    subst h1
    exact p a
  · intro p hp; rw [List.mem_singleton.mp hp]; exact .tail _ hm
/-- the inner def of the stream's maker -/
noncomputable def rdStmt (pp : Params) : Stmt := (bodyOf (fdOf (KK pp) 77)).getD 1 (.Pass ⟨0, 0, 0, 0⟩)
noncomputable def rdBody (pp : Params) : List Stmt := match rdStmt pp with
  | .FunctionDef _ _ b _ _ _ _ _ _ _ => b
  | _ => []
noncomputable def rdScope (pp : Params) : Scope := match rdStmt pp with
  | .FunctionDef _ _ _ _ _ _ s _ _ _ => s
  | _ => default
noncomputable def rdArgs (pp : Params) : Arguments := match rdStmt pp with
  | .FunctionDef _ a _ _ _ _ _ _ _ _ => a
  | _ => default
/-- a stream that reads a text -/
structure Strm (pp : Params) (ρ : Sto) (st cx cy : Addr) : Prop where
  ex : ∃ sd rd rc ost orc fdS qual doc pm ctv vs t, (st, AO.obj ost) ∈ ρ ∧ ost.cls = .type "function" ∧ ost.data = .func fdS ∧ ost.dict = some sd ∧ (sd, AO.ns [("read", .ref rd)]) ∈ ρ ∧
    (rd, AO.obj (fnMade "_law_read" qual (rdArgs pp) (rdBody pp) (rdScope pp) [(("text" : Str), cx), (("place" : Str), cy)] doc pm rc ctv)) ∈ ρ ∧ (rc, AO.obj orc) ∈ ρ ∧ orc.data = .fields vs ∧ vs[1]? = some (.str qual t)
theorem Strm.cons {ρ : Sto} {st cx cy : Addr} (S : Strm pp ρ st cx cy) (p : Addr × AO) : Strm pp (p :: ρ) st cx cy :=
  let ⟨sd, rd, rc, ost, orc, fdS, qual, doc, pm, ctv, vs, t, a, b, c, d, e, f, g, h⟩ := S.ex
  ⟨sd, rd, rc, ost, orc, fdS, qual, doc, pm, ctv, vs, t, .tail _ a, b, c, d, .tail _ e, .tail _ f, .tail _ g, h⟩
theorem ok_stream (X : (KK pp).In Γ.hB) : FnOk Γ 77 (fdOf (KK pp) 77) (bodyOf (fdOf (KK pp) 77)) ["text"] := fnOkB X (by kernel_rfl!) (bind1 fun _ => by kernel_rfl!)
theorem stream (W : Wd Γ (KK pp) mg mb) (M : MkOk Γ mg mb 76 72) {text : Str} {P : AV → Sto → Prop}
    (p : ∀ st pl cx cy ρ ps, Strm pp ρ st cx cy → P (.tup [.ref st, .ref pl]) ((cx, .cell (.str text)) :: (cy, .cell (.ref pl)) :: (ρ ++ (pl, .list [.int 0]) :: (72, .obj (tabObj ps)) :: σ))) : CalC Γ (k + 1) (.ref 77) [.str text] ((72, .obj (tabObj #[])) :: σ) P := by
  refine fn_cells2 (x := "text") (y := "place") W.ok (ok_stream W.X) rfl (locB2 (by kernel_rfl)) (by kernel_rfl) (by kernel_rfl) (by decide) fun n cx cy ex ey => ?_
  refine exsF_cons ?_
  walk_at "g"
  refine ⟨by decide, fun pl => ?_⟩
  walk_at "g"
  show ExsF _ _ _ _ _ _ _ _ _ _
  have ecl : closL (cellsFrom n (fdOf (KK pp) 77).scope.names []) (rdScope pp).names [] = [(("text" : Str), cx), (("place" : Str), cy)] := by
    have e0 : closL (cellsFrom n (fdOf (KK pp) 77).scope.names []) (rdScope pp).names [] = [(("text" : Str), ((cellsFrom n (fdOf (KK pp) 77).scope.names []).lookup ("text" : Str)).getD 0), (("place" : Str), ((cellsFrom n (fdOf (KK pp) 77).scope.names []).lookup ("place" : Str)).getD 0)] := by kernel_rfl!
    rw [e0, ex, ey]; rfl
  refine exsF_def (ps := #[]) M (by kernel_rfl!) trivial (by kernel_rfl!) (fun c' => .tail .head) (fun x hx => ?_) (by kernel_rfl!) (by kernel_rfl!) (fun _ => by kernel_rfl!) (by kernel_rfl!) fun f c' oc vs t ctv doc pm qual dq d1 d2 => ?_
  · have hx' : (x, NameKind.free) ∈ (rdScope pp).names := hx
    have e1 : ∀ y : Str × NameKind, y ∈ (rdScope pp).names → y.2 = .free → y.1 = ("text" : Str) ∨ y.1 = ("place" : Str) := by
      intro y hy
      have e2 : (rdScope pp).names = [(("size" : Str), NameKind.local), (("piece" : Str), NameKind.local), (("place" : Str), NameKind.free), (("text" : Str), NameKind.free), (("len" : Str), NameKind.globalImplicit)] := by kernel_rfl!
      rw [e2] at hy
      simp only [List.mem_cons, List.not_mem_nil, or_false] at hy
      rcases hy with rfl | rfl | rfl | rfl | rfl <;> intro h <;> first | (exact .inl rfl) | (exact .inr rfl) | (cases h)
    rcases e1 _ hx' rfl with e | e
    · dsimp only at e; subst e; exact ⟨_, ex⟩
    · dsimp only at e; subst e; exact ⟨_, ey⟩
  refine exsF_lam (ps := #[rawInt _, rawInt _, .ref c']) M (by kernel_rfl!) trivial ?_ (fun c' => .tail (.tail (.tail .head))) (fun x hx => by cases hx) (fun _ => by kernel_rfl!) (by kernel_rfl!) (fun _ _ => by kernel_rfl!) (fun _ _ => by kernel_rfl!) fun f2 c2 oc2 vs2 t2 ctv2 pm2 qual2 g1 g2 => ?_
  · simp [codeAmong, rawInt]
  refine exsF_of ?_
  walk_at "g"
  refine st_fnread rfl rfl rfl (fun d => .head) fun d => ?_
  walk_at "g"
  refine ⟨by rw [sizeLine_eq]; simp, ?_⟩
  walk_at "g"
  refine ⟨_, _, rfl, rfl, ?_⟩
  refine drp ?_
  refine p f2 pl cx cy [(d, _), (f2, _), (c2, _), (f, _), (c', _)] _ ?_
  refine ⟨⟨d, f, c', _, oc, _, qual, doc, pm, ctv, vs, t, .tail _ (.head _), rfl, rfl, rfl, .head _, ?_, .tail _ (.tail _ (.tail _ (.tail _ (.head _)))), d1, d2⟩⟩
  rw [← ecl]
  exact .tail _ (.tail _ (.tail _ (.head _)))
theorem cls_ok : ClsOk (KK pp) 52 where
  ga := by kernel_rfl!
  sa := by kernel_rfl!
  gat := by kernel_rfl!
  over := by kernel_rfl!
  hd := by kernel_rfl!
  makes := by kernel_rfl!
abbrev nsL (ln : Int) (st pb : Addr) : List (Str × AV) := [("lineno", .int ln), ("instream", .ref st), ("whitespace", .str "\n\t\r "), ("pushback", .ref pb)]
theorem ok_init (X : (KK pp).In Γ.hB) : FnOk Γ 28 (fdOf (KK pp) 28) (bodyOf (fdOf (KK pp) 28)) ["self", "fp"] := fnOkB X (by kernel_rfl!) (bind2 fun _ _ => by kernel_rfl!)
theorem lex_init (W : Wd Γ (KK pp) mg mb) {x d st : Addr} {P : AV → Sto → Prop} (p : ∀ pb, P (.ref x) ((pb, .list []) :: (x, .inst 52 d) :: (d, .ns (nsL 1 st pb)) :: σ)) : CalC Γ (k + 1) (.ref 28) [.ref x, .ref st] ((x, .inst 52 d) :: (d, .ns []) :: σ) fun v σ' => v = .none ∧ P (.ref x) σ' := by
  refine fn_defB W.ok (ok_init W.X) rfl (by kernel_rfl!) (by kernel_rfl!) ?_
  refine exs_cons ?_
  walk_at "g"
  refine st_own W.X cls_ok (.head _) (.tail .head) (by simp) (by kernel_rfl!) ?_
  walk_at "g"
  refine st_own W.X cls_ok (.head _) (.tail .head) (by show (1 : Nat) < 1000; decide) (by kernel_rfl!) ?_
  walk_at "g"
  refine st_own W.X cls_ok (.head _) (.tail .head) (by show (2 : Nat) < 1000; decide) (by kernel_rfl!) ?_
  walk_at "g"
  refine ⟨by rw [sizeLine_eq]; simp, fun pb => ?_⟩
  walk_at "g"
  refine st_own W.X cls_ok (.tail _ (.head _)) (.tail (.tail .head)) (by show (3 : Nat) < 1000; decide) (by kernel_rfl!) ?_
  walk_at "g"
  exact drp ⟨rfl, p pb⟩
theorem lex_make (W : Wd Γ (KK pp) mg mb) {st : Addr} {P : AV → Sto → Prop} (p : ∀ x d pb, P (.ref x) ((pb, .list []) :: (x, .inst 52 d) :: (d, .ns (nsL 1 st pb)) :: σ)) : Cal Γ (k + 2) (.ref 52) [.ref st] σ P :=
  cal_make W.X cls_ok (by kernel_rfl!) (by kernel_rfl!) fun x d => lex_init W fun pb => p x d pb
/-- one letter, or none -/
theorem pick_one (t : List Nat) (p : Nat) (hp : p ≤ t.length) : pick t (some p) (some (p + 1)) = (t.drop p).take 1 := by
  unfold pick
  have e1 : clipAt t.length (p : Int) = p := by unfold clipAt; omega
  simp only [Option.elim, e1]
  by_cases h : p < t.length
  · have e2 : clipAt t.length ((p : Int) + 1) = p + 1 := by unfold clipAt; omega
    rw [e2]; congr 1; omega
  · have e3 : t.drop p = [] := by simp; omega
    rw [e3]; simp
theorem read_one (W : Wd Γ (KK pp) mg mb) {st cx cy pl : Addr} {ρ τ τ' : Sto} {t : List Nat} {p : Nat} (S : Strm pp ρ st cx cy) (hρ : ∀ z ∈ ρ, z ∈ τ) (ht : t.length ≤ 1000000) (hp : p ≤ t.length) (hat : At τ pl (.list [.int p]) (.list [.int ((p + ((t.drop p).take 1).length : Nat) : Int)]) τ') : ∃ rd, GM Γ "read" (.ref st) ((cx, .cell (.str (ofL t))) :: (cy, .cell (.ref pl)) :: τ) (.ref rd) [] ∧ Kpr Γ ((cx, .cell (.str (ofL t))) :: (cy, .cell (.ref pl)) :: τ) (.ref rd) ∧ ∀ P : AV → Sto → Prop, P (.str (ofL ((t.drop p).take 1))) ((cx, .cell (.str (ofL t))) :: (cy, .cell (.ref pl)) :: τ') → CalC Γ (k + 1) (.ref rd) [.int 1] ((cx, .cell (.str (ofL t))) :: (cy, .cell (.ref pl)) :: τ) P := by
  obtain ⟨sd, rd, rc, ost, orc, fdS, qual, doc, pm, ctv, vs, tk, a, b, c, d, e, f, g, h1, h2⟩ := S.ex
  refine ⟨rd, gm_fnread (.tail _ (.tail _ (hρ _ a))) b c d (.tail _ (.tail _ (hρ _ e))) rfl, kpr_obj (.tail _ (.tail _ (hρ _ f))) rfl, fun P q => ?_⟩
  refine fn_clo (x := "text") (y := "place") (names := ["size"]) (body := rdBody pp) W.ok { data := rfl, hb := rfl, code := rfl, crec := ⟨vs, tk, h1, h2⟩, bind := ?_, nodup := by decide, glob := rfl, blt := rfl, co := by kernel_rfl!, gen := by kernel_rfl!, kind := by kernel_rfl!, clx := rfl, cly := rfl } (hρ _ f) (hρ _ g) rfl (locB (by kernel_rfl!)) (cellB (by kernel_rfl!)) (by kernel_rfl!) (by kernel_rfl!) ?_
  · intro Xs h
    match Xs, h with
    | [a], _ => kernel_rfl!
  show Exs Γ k (rdScope pp) _ _ _ _
  refine exs_cons ?_
  walk_at "g"
  have hm := hat.mem
  refine ⟨plain_list hm, get_list hm (by decide) (by decide) rfl ⟨_, rfl, ?_⟩⟩
  walk_at "g"
  refine ⟨plain_list hm, get_list hm (by decide) (by decide) rfl ?_⟩
  walk_at "g"
  refine ⟨_, rfl, plain_str, slc_str (by rw [ofL_length, sizeLine_eq]; omega) ?_⟩
  have e0 : (ofL t).cps.toList = t := by simp [ofL]
  rw [e0, pick_one t p hp]
  walk_at "g"
  refine ⟨plain_list hm, get_list hm (by decide) (by decide) rfl ?_⟩
  walk_at "g"
  refine cal_len_str (by rw [ofL_length, sizeLine_eq]; simp; omega) ?_
  rw [ofL_length]
  walk_at "g"
  refine it_list (xs := [.int p]) (by
    have e : (p : Int) + ((t.drop p).take 1).length = ((p + ((t.drop p).take 1).length : Nat) : Int) := by omega
    rw [e]; exact hat) (by decide) (by simp) (by decide) ?_
  walk_at "g"
  exact drp q
/-- a lexer, its text read up to p, with what is pushed back -/
abbrev lexS (x d st pb pl cx cy : Addr) (t : List Nat) (ln p : Nat) (toks : List AV) (ρ : Sto) : Sto :=
  (cx, .cell (.str (ofL t))) :: (cy, .cell (.ref pl)) :: (pl, .list [.int p]) :: (x, .inst 52 d) :: (d, .ns (nsL ln st pb)) :: (pb, .list toks) :: ρ
theorem ok_rdch (X : (KK pp).In Γ.hB) : FnOk Γ 35 (fdOf (KK pp) 35) (bodyOf (fdOf (KK pp) 35)) ["self"] := fnOkB X (by kernel_rfl!) (bind1 fun _ => by kernel_rfl!)
theorem read_char (W : Wd Γ (KK pp) mg mb) {x d st pb pl cx cy : Addr} {ρ : Sto} {t : List Nat} {ln p : Nat} {toks : List AV} (S : Strm pp ρ st cx cy) (ht : t.length ≤ 1000000) (hp : p ≤ t.length) {P : AV → Sto → Prop}
    (q : P (.str (ofL ((t.drop p).take 1))) (lexS x d st pb pl cx cy t (ln + if (t.drop p).take 1 = [10] then 1 else 0) (p + ((t.drop p).take 1).length) toks ρ)) : CalC Γ (k + 2) (.ref 35) [.ref x] (lexS x d st pb pl cx cy t ln p toks ρ) P := by
  refine fn_defB W.ok (ok_rdch W.X) rfl (by kernel_rfl!) (by kernel_rfl!) ?_
  refine exs_cons ?_
  walk_at "g"
  refine at_own W.X cls_ok (x := x) (d := d) (es := nsL ln st pb) (by walk_at "mem") (by walk_at "mem") (by kernel_rfl!) rfl (fun _ h => by cases h) ?_
  obtain ⟨rd, gm, kp, cl⟩ := read_one (k := k) W S (τ := (pl, .list [.int p]) :: (x, .inst 52 d) :: (d, .ns (nsL ln st pb)) :: (pb, .list toks) :: ρ) (fun z hz => .tail _ (.tail _ (.tail _ (.tail _ hz)))) ht hp .head
  refine ⟨_, _, gm, ?_⟩
  walk_at "g"
  refine ⟨kp, cal_of (cl _ ?_)⟩
  walk_at "g"
  have eb : ((ofL ((t.drop p).take 1)) == ("\n" : Str)) = decide ((t.drop p).take 1 = [10]) := by
    have e1 : ("\n" : Str) = ofL [10] := by kernel_rfl!
    rw [e1]
    by_cases h : (t.drop p).take 1 = [10]
    · rw [h]; simp
    · rw [decide_eq_false h]; exact beq_eq_false_iff_ne.mpr fun e => h (ofL_inj e)
  rw [eb]
  refine ⟨fun hb => ?_, fun hb => ?_⟩
  · have hb : (t.drop p).take 1 = [10] := by simpa using hb
    rw [if_pos hb] at q
    refine exs_cons (ex_aug_attr ?_)
    walk_at "g"
    refine at_own W.X cls_ok (x := x) (d := d) (es := nsL ln st pb) (by walk_at "mem") (by walk_at "mem") (by kernel_rfl!) rfl (fun _ h => by cases h) ?_
    walk_at "g"
    refine op_iadd ?_
    refine st_own W.X cls_ok (x := x) (d := d) (es := nsL ln st pb) (by walk_at "mem") (.tail (.tail (.tail (.tail .head)))) (by show (4 : Nat) < 1000; decide) (by kernel_rfl!) ?_
    walk_at "g"
    exact drp q
  · have hb : ¬ (t.drop p).take 1 = [10] := by simpa using hb
    rw [if_neg hb] at q
    walk_at "g"
    exact drp q
theorem ok_push (X : (KK pp).In Γ.hB) : FnOk Γ 49 (fdOf (KK pp) 49) (bodyOf (fdOf (KK pp) 49)) ["self", "token"] := fnOkB X (by kernel_rfl!) (bind2 fun _ _ => by kernel_rfl!)
theorem push_token (W : Wd Γ (KK pp) mg mb) {x d st pb pl cx cy : Addr} {ρ : Sto} {t : List Nat} {ln p : Nat} {toks : List AV} {v : AV} (hl : toks.length ≤ 1000000) {P : AV → Sto → Prop}
    (q : P .none (lexS x d st pb pl cx cy t ln p (toks ++ [v]) ρ)) : CalC Γ (k + 1) (.ref 49) [.ref x, v] (lexS x d st pb pl cx cy t ln p toks ρ) P := by
  refine fn_defB W.ok (ok_push W.X) rfl (by kernel_rfl!) (by kernel_rfl!) ?_
  refine exs_cons ?_
  walk_at "g"
  refine at_own W.X cls_ok (x := x) (d := d) (es := nsL ln st pb) (by walk_at "mem") (by walk_at "mem") (by kernel_rfl!) rfl (fun _ h => by cases h) ?_
  refine ⟨_, _, gm_append (xs := toks) (by walk_at "mem"), ?_⟩
  walk_at "g"
  refine ⟨kpr_builtin, cal_append (xs := toks) (.tail (.tail (.tail (.tail (.tail .head))))) (by rw [sizeLine_eq]; omega) ⟨rfl, ?_⟩⟩
  walk_at "g"
  exact drp q
theorem ok_get (X : (KK pp).In Γ.hB) : FnOk Γ 42 (fdOf (KK pp) 42) (bodyOf (fdOf (KK pp) 42)) ["self"] := fnOkB X (by kernel_rfl!) (bind1 fun _ => by kernel_rfl!)
/-- what was pushed back comes first -/
theorem get_back (W : Wd Γ (KK pp) mg mb) {x d st pb pl cx cy : Addr} {ρ : Sto} {t : List Nat} {ln p : Nat} {toks : List AV} {v : AV} (hl : toks.length ≤ 1000000) {P : AV → Sto → Prop}
    (q : P v (lexS x d st pb pl cx cy t ln p toks ρ)) : CalC Γ (k + 1) (.ref 42) [.ref x] (lexS x d st pb pl cx cy t ln p (v :: toks) ρ) P := by
  refine fn_defB W.ok (ok_get W.X) rfl (by kernel_rfl!) (by kernel_rfl!) ?_
  refine exs_cons ?_
  walk_at "g"
  refine at_own W.X cls_ok (x := x) (d := d) (es := nsL ln st pb) (by walk_at "mem") (by walk_at "mem") (by kernel_rfl!) rfl (fun _ h => by cases h) ?_
  refine tr_list (xs := v :: toks) (by walk_at "mem") (by simp; omega) ?_
  refine ⟨fun _ => ?_, fun h => by simp at h⟩
  walk_at "g"
  refine at_own W.X cls_ok (x := x) (d := d) (es := nsL ln st pb) (by walk_at "mem") (by walk_at "mem") (by kernel_rfl!) rfl (fun _ h => by cases h) ?_
  refine ⟨_, _, gm_pop (xs := v :: toks) (by walk_at "mem"), ?_⟩
  walk_at "g"
  refine ⟨kpr_builtin, cal_pop0 (x := v) (xs := toks) (.tail (.tail (.tail (.tail (.tail .head))))) (by rw [sizeLine_eq]; omega) ?_⟩
  walk_at "g"
  exact drp q
noncomputable def isWs (c : Nat) : Bool := decide (c ∈ [10, 9, 13, 32])
theorem ws_in (c : Nat) : (!(Builtin.Str.occurrences (Str.ofString "\n\t\r ") (ofL [c]) 0 (Str.ofString "\n\t\r ").length 1).isEmpty) = isWs c := by
  have e : (Str.ofString "\n\t\r ") = ofL [10, 9, 13, 32] := by kernel_rfl!
  rw [e]
  exact StrLaws.found_one _ c
/-- the rest of a word: plain, quoted; a word -/
noncomputable def rdW : Nat → List Nat → List Nat → Option (List Nat × List Nat)
  | 0, _, _ => none
  | _, [], _ => none
  | n + 1, c :: u, w => if isWs c then some (w, u) else if c = 92 then (match u with | [] => none | e :: u' => rdW n u' (w ++ [e])) else rdW n u (w ++ [c])
noncomputable def rdQ : Nat → List Nat → List Nat → Option (List Nat × List Nat)
  | 0, _, _ => none
  | _, [], _ => none
  | n + 1, c :: u, w => if c = 34 then some (w, u) else if c = 92 then (match u with | [] => none | e :: u' => rdQ n u' (w ++ [e])) else rdQ n u (w ++ [c])
noncomputable def rdO (n : Nat) : List Nat → Option (List Nat × List Nat)
  | [] => some ([], [])
  | c :: u => if isWs c then rdO n u else if c = 34 then rdQ n u [] else if c = 92 then (match u with | [] => none | e :: u' => rdW n u' [e]) else rdW n u [c]
theorem drop_suf {t u : List Nat} (h : u <:+ t) : t.drop (t.length - u.length) = u := by
  obtain ⟨pre, rfl⟩ := h
  simp
theorem suf_len {t u : List Nat} (h : u <:+ t) : u.length ≤ t.length := h.length_le
abbrev lexU (x d st pb pl cx cy : Addr) (t : List Nat) (ln : Nat) (u : List Nat) (toks : List AV) (ρ : Sto) : Sto := lexS x d st pb pl cx cy t ln (t.length - u.length) toks ρ
theorem suf_tail {c : Nat} {u t : List Nat} (h : (c :: u) <:+ t) : u <:+ t := (List.suffix_cons c u).trans h
section
variable {x d st pb pl cx cy : Addr} {ρ : Sto} {t : List Nat} {ln : Nat} {toks : List AV}
theorem read_nil (W : Wd Γ (KK pp) mg mb) (S : Strm pp ρ st cx cy) (ht : t.length ≤ 1000000) {P : AV → Sto → Prop} (q : P (.str "") (lexU x d st pb pl cx cy t ln [] toks ρ)) : CalC Γ (k + 2) (.ref 35) [.ref x] (lexU x d st pb pl cx cy t ln [] toks ρ) P := by
  refine read_char W S ht (by simp) ?_
  have e : t.drop (t.length - ([] : List Nat).length) = [] := by simp
  rw [e]
  exact q
theorem read_cons (W : Wd Γ (KK pp) mg mb) (S : Strm pp ρ st cx cy) (ht : t.length ≤ 1000000) {c : Nat} {u : List Nat} (hs : (c :: u) <:+ t) {P : AV → Sto → Prop} (q : P (.str (ofL [c])) (lexU x d st pb pl cx cy t (ln + if c = 10 then 1 else 0) u toks ρ)) : CalC Γ (k + 2) (.ref 35) [.ref x] (lexU x d st pb pl cx cy t ln (c :: u) toks ρ) P := by
  refine read_char W S ht (by omega) ?_
  have hl := suf_len hs
  simp only [List.length_cons] at hl
  have e2 : t.length - (c :: u).length + ([c] : List Nat).length = t.length - u.length := by simp; omega
  rw [drop_suf hs]
  show P _ (lexS x d st pb pl cx cy t (ln + if [c] = [10] then 1 else 0) (t.length - (c :: u).length + ([c] : List Nat).length) toks ρ)
  rw [e2]
  simpa using q
end
section
variable {x d st pb pl cx cy fi q : Addr} {ρ : Sto} {t : List Nat} {ln : Nat} {toks : List AV} {tk : Tok}
abbrev itS (x fi q : Addr) (tk : Tok) (ρ : Sto) : Sto := (fi, .obj (ciObj q tk)) :: (q, .obj (methodObj (.ref 35) (.ref x))) :: ρ
theorem Strm.it {ρ : Sto} (S : Strm pp ρ st cx cy) : Strm pp (itS x fi q tk ρ) st cx cy := (S.cons _).cons _
theorem nx_nil (W : Wd Γ (KK pp) mg mb) (S : Strm pp ρ st cx cy) (ht : t.length ≤ 1000000) {P : Option AV → Sto → Prop} (p : P none (lexU x d st pb pl cx cy t ln [] toks ((q, .obj (methodObj (.ref 35) (.ref x))) :: ρ))) :
    Nx Γ (k + 3) fi (lexU x d st pb pl cx cy t ln [] toks (itS x fi q tk ρ)) P := by
  refine nx_step W.X (by kernel_rfl! : fnIn (KK pp) 35 = true) (by walk_at "mem") (by walk_at "mem") (read_nil W S.it ht ⟨"", rfl, by walk_at "mem", by walk_at "mem", ?_⟩)
  rw [if_pos rfl]
  exact ⟨[_, _, _, _, _, _], _, rfl, p⟩
theorem nx_cons (W : Wd Γ (KK pp) mg mb) (S : Strm pp ρ st cx cy) (ht : t.length ≤ 1000000) {c : Nat} {u : List Nat} (hs : (c :: u) <:+ t) {P : Option AV → Sto → Prop} (p : P (some (.str (ofL [c]))) (lexU x d st pb pl cx cy t (ln + if c = 10 then 1 else 0) u toks (itS x fi q tk ρ))) :
    Nx Γ (k + 3) fi (lexU x d st pb pl cx cy t ln (c :: u) toks (itS x fi q tk ρ)) P := by
  refine nx_step W.X (by kernel_rfl! : fnIn (KK pp) 35 = true) (by walk_at "mem") (by walk_at "mem") (read_cons W S.it ht hs ⟨ofL [c], rfl, by walk_at "mem", by walk_at "mem", ?_⟩)
  rw [if_neg (fun e => by have : ofL [c] = ofL [] := e; have := ofL_inj this; cases this)]
  exact p
theorem eq_q (c : Nat) : ((ofL [c]) == ("\"" : Str)) = decide (c = 34) := by
  have e1 : ("\"" : Str) = ofL [34] := by kernel_rfl!
  rw [e1]
  by_cases h : c = 34
  · subst h; simp
  · rw [decide_eq_false h]; exact beq_eq_false_iff_ne.mpr fun e => h (by have := ofL_inj e; simpa using this)
theorem eq_b (c : Nat) : ((ofL [c]) == ("\\" : Str)) = decide (c = 92) := by
  have e1 : ("\\" : Str) = ofL [92] := by kernel_rfl!
  rw [e1]
  by_cases h : c = 92
  · subst h; simp
  · rw [decide_eq_false h]; exact beq_eq_false_iff_ne.mpr fun e => h (by have := ofL_inj e; simpa using this)
noncomputable def nl (c : Nat) : Nat := if c = 10 then 1 else 0
theorem forC_perm {sc : Scope} {target : Expr} {body : List Stmt} {it : Addr} {loc : Loc} {σ σ' : Sto} {P : AFl → Loc → Sto → Prop} (h : ForC Γ k sc target body it loc σ' P) (hs : σ'.Perm σ) : ForC Γ k sc target body it loc σ P := fun A κ env s hA l f R =>
  h A κ env s hA l f ⟨R.s.perm hs, R.f.sub fun _ ha => (hs.map _).subset ha⟩
theorem get_text (W : Wd Γ (KK pp) mg mb) (S : Strm pp ρ st cx cy) (ht : t.length ≤ 1000000) {u w r : List Nat} {n ln' : Nat} (hs : u <:+ t) (hr : rdO n u = some (w, r)) (hn : ln' + r.count 10 = ln + u.count 10) {P : AV → Sto → Prop}
    (p : P (.str (ofL w)) (lexU x d st pb pl cx cy t ln' r [] ρ)) : CalC Γ (k + 4) (.ref 42) [.ref x] (lexU x d st pb pl cx cy t ln u [] ρ) P := by
  refine fn_defB W.ok (ok_get W.X) rfl (by kernel_rfl!) (by kernel_rfl!) ?_
  refine exs_cons ?_
  walk_at "g"
  refine at_own W.X cls_ok (x := x) (d := d) (es := nsL ln st pb) (by walk_at "mem") (by walk_at "mem") (by kernel_rfl!) rfl (fun _ h => by cases h) ?_
  refine tr_list (xs := []) (by walk_at "mem") (by simp) ?_
  refine ⟨fun h => by simp at h, fun _ => ?_⟩
  walk_at "g"
  refine at_bound W.X cls_ok (x := x) (d := d) (es := nsL ln st pb) (f := 35) (by walk_at "mem") (by walk_at "mem") (by kernel_rfl!) (by kernel_rfl!) (by kernel_rfl!) (by kernel_rfl!) (by kernel_rfl!) rfl fun q => ?_
  walk_at "g"
  refine cal_iter (.head _) fun fi tk => ?_
  walk_at "g"
  refine ex_forC ?_ (fun _ _ => rfl)
  walk_at "g"
  refine ⟨fi, q, tk, rfl, .head _, ?_⟩
  refine forC_perm (σ' := lexU x d st pb pl cx cy t ln u [] (itS x fi q tk ρ)) ?_ (List.perm_append_comm_assoc [_, _, _, _, _, _] [_, _] ρ)
  refine forC_sub (forC_c2 (L := fun _ _ => [("self", .ref x), ("token", .str (ofL [])), ("fiter", .ref fi)]) (S := fun u ln => lexU x d st pb pl cx cy t ln u [] (itS x fi q tk ρ)) (rank := fun u _ => u.length) (I := fun u ln => u <:+ t ∧ rdO n u = some (w, r) ∧ ln' + r.count 10 = ln + u.count 10) (fun σ₁ => w = [] ∧ (lexU x d st pb pl cx cy t ln' r [] ρ).Sublist σ₁) (.str (ofL w)) (lexU x d st pb pl cx cy t ln' r [] ρ) ?_ ?_ ?_ u ln ⟨hs, hr, hn⟩) (sub_cons rfl (sub_cons rfl (sub_cons rfl sub_nil))) (.refl _)
  · clear hs hr hn p
    intro u ln P' A hA hR hI
    refine a3 hI fun hs hr hn => ?_
    clear hI
    cases u with
    | nil =>
      have hr' : some (([] : List Nat), ([] : List Nat)) = some (w, r) := hr
      cases hr'
      have hl : ln' = ln := by simpa using hn
      subst hl
      exact nx_nil W S ht ⟨rfl, (List.Sublist.refl [_, _, _, _, _, _]).append (.cons _ (.refl _))⟩
    | cons c u =>
      refine nx_cons W S ht hs ?_
      walk_at "g"
      refine at_own W.X cls_ok (x := x) (d := d) (es := nsL _ st pb) (by walk_at "mem") (by walk_at "mem") (by kernel_rfl!) rfl (fun _ h => by cases h) ?_
      walk_at "g"
      rw [ws_in]
      refine ⟨fun hw => ?_, fun hw => ?_⟩
      · walk_at "g"
        refine hA u (ln + if c = 10 then 1 else 0) _ _ ⟨suf_tail hs, ?_, ?_⟩ (by simp only [List.length_cons]; omega) (sub_cons rfl (sub_cons rfl (sub_cons rfl sub_nil))) (.refl _)
        · rw [← hr]; simp [rdO, hw]
        · rw [hn, List.count_cons]; by_cases h : c = 10 <;> simp [h] <;> omega
      · walk_at "g"
        rw [eq_q]
        have hc0 : ∀ (c : Nat) (u : List Nat) (m : Nat), m + (c :: u).count 10 = (m + if c = 10 then 1 else 0) + u.count 10 := fun c u m => by rw [List.count_cons]; by_cases h : c = 10 <;> simp [h] <;> omega
        have hlt := suf_len hs
        simp only [List.length_cons] at hlt
        refine ⟨fun h34 => ?_, fun h34 => ?_⟩
        · have h34 : c = 34 := of_decide_eq_true h34
          have hr1 : rdQ n u [] = some (w, r) := by rw [← hr]; show _ = if isWs c then _ else if c = 34 then _ else _; rw [hw, if_neg (by decide), if_pos h34]
          refine exs_cons (ex_forC ?_ (fun _ _ => rfl))
          walk_at "g"
          refine ⟨fi, q, tk, rfl, by walk_at "mem", ?_⟩
          refine forC_sub (forC_c4 (L := fun _ _ w0 _ => [("self", .ref x), ("token", .str (ofL w0)), ("fiter", .ref fi)]) (S := fun _ u _ ln => lexU x d st pb pl cx cy t ln u [] (itS x fi q tk ρ)) (rank := fun _ u _ _ => u.length) (I := fun m u w0 ln => u <:+ t ∧ rdQ m u w0 = some (w, r) ∧ ln' + r.count 10 = ln + u.count 10 ∧ w0.length + u.length ≤ t.length) (fun _ => False) (.str (ofL w)) (lexU x d st pb pl cx cy t ln' r [] ρ) ?_ (by intro l σ' h; exact hR l σ' h) (by intro _ _ _ _ _ h; exact h.elim) n u [] _ ⟨suf_tail hs, hr1, by rw [hn]; exact hc0 c u ln, by simp; omega⟩) (sub_cons rfl (sub_cons rfl (sub_cons rfl sub_nil))) (.refl _)
          clear hA hr1 hr hs hn hlt
          intro m u w0 ln P' A hA hR hI
          refine a4 hI fun hs hr hn hb => ?_
          clear hI
          cases m with
          | zero => simp [rdQ] at hr
          | succ m =>
            cases u with
            | nil => simp [rdQ] at hr
            | cons c u =>
              refine nx_cons W S ht hs ?_
              walk_at "g"
              rw [eq_q]
              refine ⟨fun hq => ?_, fun hq => ?_⟩
              · have hq : c = 34 := of_decide_eq_true hq
                have e : w0 = w ∧ u = r := by simpa [rdQ, hq] using hr
                obtain ⟨rfl, rfl⟩ := e
                have hl : ln' = ln + if c = 10 then 1 else 0 := by have := hc0 c u ln; omega
                subst hl
                walk_at "g"
                exact hR _ _ ((List.Sublist.refl [_, _, _, _, _, _]).append (.cons _ (.cons _ (.refl _))))
              · have hq : ¬ c = 34 := of_decide_eq_false hq
                walk_at "g"
                rw [eq_b]
                refine ⟨fun hbk => ?_, fun hbk => ?_⟩
                · have hbk : c = 92 := of_decide_eq_true hbk
                  cases u with
                  | nil => simp [rdQ, hbk] at hr
                  | cons e u =>
                    have hr2 : rdQ m u (w0 ++ [e]) = some (w, r) := by simpa [rdQ, hbk] using hr
                    walk_at "g"
                    refine ⟨_, _, gm_inst W.X cls_ok (x := x) (d := d) (es := nsL _ st pb) (f := 35) (by walk_at "mem") (by walk_at "mem") (by kernel_rfl!) (by kernel_rfl!) rfl, ?_⟩
                    walk_at "g"
                    refine ⟨fun κ' h₂ l' R' => keeps_K (K := KK pp) (by kernel_rfl!) h₂ (W.X.keeps (l'.up R')), cal_of (read_cons W S.it ht (suf_tail hs) ?_)⟩
                    walk_at "g"
                    refine op_iadd_str (by simp only [ofL_length, sizeLine_eq, List.length_cons] at hb ⊢; simp; omega) ?_
                    rw [ofL_append]
                    walk_at "g"
                    refine hA m u (w0 ++ [e]) _ _ _ ⟨suf_tail (suf_tail hs), hr2, ?_, ?_⟩ (by simp only [List.length_cons]; omega) (sub_cons rfl (sub_cons rfl (sub_cons rfl sub_nil))) (.refl _)
                    · rw [hn, hc0 c (e :: u) ln, hc0 e u]
                    · simp at hb ⊢; omega
                · have hbk : ¬ c = 92 := of_decide_eq_false hbk
                  have hr2 : rdQ m u (w0 ++ [c]) = some (w, r) := by simpa [rdQ, hbk, hq] using hr
                  walk_at "g"
                  refine op_iadd_str (by simp only [ofL_length, sizeLine_eq, List.length_cons] at hb ⊢; simp; omega) ?_
                  rw [ofL_append]
                  walk_at "g"
                  refine hA m u (w0 ++ [c]) _ _ _ ⟨suf_tail hs, hr2, ?_, ?_⟩ (by simp only [List.length_cons]; omega) (sub_cons rfl (sub_cons rfl (sub_cons rfl sub_nil))) (.refl _)
                  · rw [hn]; exact hc0 c u ln
                  · simp at hb ⊢; omega
        · have h34 : ¬ c = 34 := of_decide_eq_false h34
          refine exs_cons (ex_mono (P := fun f l σ' => f = .next ∧ ∃ w1 u1 ln1, Sub [("self", .ref x), ("token", .str (ofL [])), ("fiter", .ref fi), ("ch", .str (ofL w1))] l ∧ σ' = lexU x d st pb pl cx cy t ln1 u1 [] (itS x fi q tk ρ) ∧ rdW n u1 w1 = some (w, r) ∧ u1 <:+ t ∧ ln' + r.count 10 = ln1 + u1.count 10 ∧ w1.length + u1.length ≤ t.length) ?_ ?_)
          · walk_at "g"
            rw [eq_b]
            refine ⟨fun hbk => ?_, fun hbk => ?_⟩
            · have hbk : c = 92 := of_decide_eq_true hbk
              cases u with
              | nil => have hr' : (if isWs c then rdO n [] else if c = 34 then rdQ n [] [] else if c = 92 then none else rdW n [] [c]) = some (w, r) := hr
                       rw [hw, if_neg (by decide), if_neg h34, if_pos hbk] at hr'; cases hr'
              | cons e u =>
                have hr2 : rdW n u [e] = some (w, r) := by rw [← hr]; show _ = if isWs c then _ else if c = 34 then _ else if c = 92 then _ else _; rw [hw, if_neg (by decide), if_neg h34, if_pos hbk]
                walk_at "g"
                refine ⟨_, _, gm_inst W.X cls_ok (x := x) (d := d) (es := nsL _ st pb) (f := 35) (by walk_at "mem") (by walk_at "mem") (by kernel_rfl!) (by kernel_rfl!) rfl, ?_⟩
                walk_at "g"
                refine ⟨fun κ' h₂ l' R' => keeps_K (K := KK pp) (by kernel_rfl!) h₂ (W.X.keeps (l'.up R')), cal_of (read_cons W S.it ht (suf_tail hs) ?_)⟩
                walk_at "g"
                refine ⟨rfl, [e], u, _, sub_cons rfl (sub_cons rfl (sub_cons rfl (sub_cons rfl sub_nil))), rfl, hr2, suf_tail (suf_tail hs), ?_, ?_⟩
                · rw [hn, hc0 c (e :: u) ln, hc0 e u]
                · simp at hlt ⊢; omega
            · have hbk : ¬ c = 92 := of_decide_eq_false hbk
              have hr2 : rdW n u [c] = some (w, r) := by rw [← hr]; show _ = if isWs c then _ else if c = 34 then _ else if c = 92 then _ else _; rw [hw, if_neg (by decide), if_neg h34, if_neg hbk]
              walk_at "g"
              refine ⟨rfl, [c], u, _, sub_cons rfl (sub_cons rfl (sub_cons rfl (sub_cons rfl sub_nil))), rfl, hr2, suf_tail hs, ?_, ?_⟩
              · rw [hn]; exact hc0 c u ln
              · simp; omega
          · rintro f l σ' ⟨rfl, w1, u1, ln1, hsub, rfl, hr1, hs1, hn1, hb1⟩
            refine exs_sub ?_ hsub (.refl _)
            clear hA hr hs hn hlt
            walk_at "g"
            refine op_iadd_str (by simp only [ofL_length, sizeLine_eq]; simp; omega) ?_
            rw [ofL_append]
            refine exs_cons (ex_forC ?_ (fun _ _ => rfl))
            walk_at "g"
            refine ⟨fi, q, tk, rfl, by walk_at "mem", ?_⟩
            refine forC_sub (forC_c4 (L := fun _ _ w0 _ => [("self", .ref x), ("token", .str (ofL w0)), ("fiter", .ref fi)]) (S := fun _ u _ ln => lexU x d st pb pl cx cy t ln u [] (itS x fi q tk ρ)) (rank := fun _ u _ _ => u.length) (I := fun m u w0 ln => u <:+ t ∧ rdW m u w0 = some (w, r) ∧ ln' + r.count 10 = ln + u.count 10 ∧ w0.length + u.length ≤ t.length) (fun _ => False) (.str (ofL w)) (lexU x d st pb pl cx cy t ln' r [] ρ) ?_ (by intro l σ' h; exact hR l σ' h) (by intro _ _ _ _ _ h; exact h.elim) n u1 ([] ++ w1) ln1 ⟨hs1, hr1, hn1, hb1⟩) (sub_cons rfl (sub_cons rfl (sub_cons rfl sub_nil))) (.refl _)
            intro m u w0 ln P' A hA hR hI
            refine a4 hI fun hs hr hn hb => ?_
            clear hI
            cases m with
            | zero => simp [rdW] at hr
            | succ m =>
              cases u with
              | nil => simp [rdW] at hr
              | cons c u =>
                refine nx_cons W S ht hs ?_
                walk_at "g"
                refine at_own W.X cls_ok (x := x) (d := d) (es := nsL _ st pb) (by walk_at "mem") (by walk_at "mem") (by kernel_rfl!) rfl (fun _ h => by cases h) ?_
                walk_at "g"
                rw [ws_in]
                refine ⟨fun hq => ?_, fun hq => ?_⟩
                · have e : w0 = w ∧ u = r := by simpa [rdW, hq] using hr
                  obtain ⟨rfl, rfl⟩ := e
                  have hl : ln' = ln + if c = 10 then 1 else 0 := by have := hc0 c u ln; omega
                  subst hl
                  walk_at "g"
                  exact hR _ _ ((List.Sublist.refl [_, _, _, _, _, _]).append (.cons _ (.cons _ (.refl _))))
                · walk_at "g"
                  rw [eq_b]
                  refine ⟨fun hbk => ?_, fun hbk => ?_⟩
                  · have hbk : c = 92 := of_decide_eq_true hbk
                    cases u with
                    | nil => have hr' : (if isWs c then some (w0, []) else if c = 92 then none else rdW m [] (w0 ++ [c])) = some (w, r) := hr
                             rw [hq, if_neg (by decide), if_pos hbk] at hr'; cases hr'
                    | cons e u =>
                      have hr2 : rdW m u (w0 ++ [e]) = some (w, r) := by rw [← hr]; show _ = if isWs c then _ else if c = 92 then _ else _; rw [hq, if_neg (by decide), if_pos hbk]
                      walk_at "g"
                      refine ⟨_, _, gm_inst W.X cls_ok (x := x) (d := d) (es := nsL _ st pb) (f := 35) (by walk_at "mem") (by walk_at "mem") (by kernel_rfl!) (by kernel_rfl!) rfl, ?_⟩
                      walk_at "g"
                      refine ⟨fun κ' h₂ l' R' => keeps_K (K := KK pp) (by kernel_rfl!) h₂ (W.X.keeps (l'.up R')), cal_of (read_cons W S.it ht (suf_tail hs) ?_)⟩
                      walk_at "g"
                      refine op_iadd_str (by simp only [ofL_length, sizeLine_eq, List.length_cons] at hb ⊢; simp; omega) ?_
                      rw [ofL_append]
                      walk_at "g"
                      refine hA m u (w0 ++ [e]) _ _ _ ⟨suf_tail (suf_tail hs), hr2, ?_, ?_⟩ (by simp only [List.length_cons]; omega) (sub_cons rfl (sub_cons rfl (sub_cons rfl sub_nil))) (.refl _)
                      · rw [hn, hc0 c (e :: u) ln, hc0 e u]
                      · simp at hb ⊢; omega
                  · have hbk : ¬ c = 92 := of_decide_eq_false hbk
                    have hr2 : rdW m u (w0 ++ [c]) = some (w, r) := by rw [← hr]; show _ = if isWs c then _ else if c = 92 then _ else _; rw [hq, if_neg (by decide), if_neg hbk]
                    walk_at "g"
                    refine op_iadd_str (by simp only [ofL_length, sizeLine_eq, List.length_cons] at hb ⊢; simp; omega) ?_
                    rw [ofL_append]
                    walk_at "g"
                    refine hA m u (w0 ++ [c]) _ _ _ ⟨suf_tail hs, hr2, ?_, ?_⟩ (by simp only [List.length_cons]; omega) (sub_cons rfl (sub_cons rfl (sub_cons rfl sub_nil))) (.refl _)
                    · rw [hn]; exact hc0 c u ln
                    · simp at hb ⊢; omega
  
  · intro l σ' h
    exact ⟨_, h, p⟩
  · rintro _ _ _ ⟨rfl, h⟩
    walk_at "g"
    exact ⟨_, h, p⟩
end
noncomputable def numOf (w : List Nat) : Int := w.foldl (fun (a : Int) (c : Nat) => a * 16 + c - 65) 0
theorem ok_written (X : (KK pp).In Γ.hB) : FnOk Γ 82 (fdOf (KK pp) 82) (bodyOf (fdOf (KK pp) 82)) ["word", "way"] := fnOkB X (by kernel_rfl!) (bind2 fun _ _ => by kernel_rfl!)
noncomputable def esc (w : List Nat) : List Nat := (w.map fun c => [92, c]).flatten
/-- a word, as it is written -/
noncomputable def wr (w : List Nat) : Nat → List Nat
  | 0 => w
  | 1 => [34] ++ w ++ [34]
  | 2 => esc w
  | _ => [34] ++ esc w ++ [34]
theorem esc_len (w : List Nat) : (esc w).length = 2 * w.length := by
  induction w with
  | nil => rfl
  | cons c w ih => simp only [esc, List.map_cons, List.flatten_cons, List.length_append] at ih ⊢; simp at ih ⊢; omega
theorem written (W : Wd Γ (KK pp) mg mb) {w : List Nat} {way : Nat} (hl : w.length ≤ 1000) (hw : way < 4) {P : AV → Sto → Prop} (q : P (.str (ofL (wr w way))) σ) : CalC Γ (k + 1) (.ref 82) [.str (ofL w), .int way] σ P := by
  refine fn_defB W.ok (ok_written W.X) rfl (by kernel_rfl!) (by kernel_rfl!) ?_
  refine exs_cons ?_
  walk_at "g"
  refine ⟨_, _, gm_join, ?_⟩
  walk_at "g"
  refine ⟨_, _, mk_str (.name _ _), (fun p hp => by cases hp), fun D => ?_⟩
  have e0 : (ofL w).cps.toList = w := by simp [ofL]
  have e5 : chars (ofL w) = w.map fun c => .str (ofL [c]) := by unfold chars; rw [e0]
  rw [e5]
  refine cmp_sub (cmp_ind2 (ι := { v : List Nat × List Nat // v.1 ++ v.2 = w }) (L := []) (S := fun i => (D, .list ((i.1.1.map fun c => ofL [92, c]).map .str)) :: σ) (g := fun c => .str (ofL [c])) (I := fun xs i => i.1.2 = xs) ?_ ?_ ?_ w ⟨([], w), rfl⟩ rfl) sub_nil
  · intro i p hp; cases hp
  · rintro c xs ⟨⟨v, u⟩, hv⟩ A hA hu
    dsimp only at hv hu ⊢
    subst hu
    walk_at "g"
    refine ⟨sub_nil, ?_⟩
    walk_at "g"
    have e6 : (Str.ofString "\\") = ofL [92] := by kernel_rfl!
    rw [e6]
    refine op_add_str (by simp only [ofL_length, sizeLine_eq]; simp) ?_
    rw [ofL_append]
    have hvl := congrArg List.length hv
    refine hA _ _ _ _ ⟨(v ++ [c], xs), by simpa using hv⟩ .head (by simp only [List.length_append] at hvl; simp [sizeLine_eq]; omega) rfl (by simp)
  · rintro ⟨⟨v, u⟩, hv⟩ hu
    dsimp only at hv hu ⊢
    subst hu
    have hv : v = w := by simpa using hv
    subst hv
    walk_at "g"
    refine ⟨kpr_builtin, cal_join (.head _) ?_ ?_⟩
    · have e8 : ∀ l : List Nat, ((l.map fun c => ofL [92, c]).map (·.length)).sum = 2 * l.length := by
        intro l
        induction l with
        | nil => rfl
        | cons c l ih => simp only [List.map_cons, List.sum_cons, ih, ofL_length, List.length_cons, List.length_nil]; omega
      rw [e8]
      have e9 : (Str.ofString "").length = 0 := by kernel_rfl!
      rw [e9]; omega
    have e7 : Builtin.Str.glued (Str.ofString "") (v.map fun c => ofL [92, c]) = ofL (esc v) := by
      have := glued_ofL (v.map fun c => [92, c])
      rw [List.map_map] at this
      exact this
    rw [e7]
    walk_at "g"
    have e6 : (Str.ofString "\"") = ofL [34] := by kernel_rfl!
    rw [e6]
    refine op_add_str (by simp only [ofL_length, sizeLine_eq]; simp; omega) ?_
    rw [ofL_append]
    walk_at "g"
    refine op_add_str (by simp only [ofL_length, sizeLine_eq]; simp; omega) ?_
    rw [ofL_append]
    walk_at "g"
    have el := esc_len v
    refine op_add_str (by simp only [ofL_length, sizeLine_eq]; simp; omega) ?_
    rw [ofL_append]
    walk_at "g"
    refine op_add_str (by simp only [ofL_length, sizeLine_eq]; simp; omega) ?_
    rw [ofL_append]
    walk_at "g"
    refine ⟨by rw [sizeLine_eq]; simp, fun a => ?_⟩
    walk_at "g"
    refine ⟨plain_list (.head _), get_list (x := .str (ofL (wr v way))) (.head _) (by omega) (by omega) ?_ ?_⟩
    · rw [Int.toNat_natCast]
      match way, hw with
      | 0, _ => rfl
      | 1, _ => rfl
      | 2, _ => rfl
      | 3, _ => rfl
    exact ⟨_, .cons _ (.cons _ (.refl _)), q⟩
theorem figs_range : ∀ (bs : List Int) (x : Int), (∀ b ∈ bs, 0 < b) → ∀ i b, bs[i]? = some b → 0 ≤ (figs x bs).getD i 0 ∧ (figs x bs).getD i 0 < b
  | [], x, _, i, b, e => by simp at e
  | c :: bs, x, h, 0, b, e => by
    simp at e; subst e
    have := h c (.head _)
    exact ⟨Int.emod_nonneg _ (by omega), Int.emod_lt_of_pos _ this⟩
  | c :: bs, x, h, i + 1, b, e => by
    simp only [List.getElem?_cons_succ] at e
    have := figs_range bs (x / c) (fun b hb => h b (.tail _ hb)) i b e
    simpa [figs] using this
noncomputable def apN (n : Nat) : List Nat := (ap n).map (·.toNat)
noncomputable def sepN : Nat → List Nat
  | 0 => [32]
  | 1 => [10]
  | 2 => [9]
  | _ => [13, 10, 32]
theorem ap_rng (n : Nat) : ∀ c ∈ ap n, 65 ≤ c.toNat ∧ c.toNat ≤ 80 := by
  induction n using Nat.strongRecOn with
  | _ n ih =>
    intro c hc
    by_cases hn : n = 0
    · subst hn; rw [ap_zero] at hc; cases hc
    · rw [ap_pos hn] at hc
      rcases List.mem_append.mp hc with h | h
      · exact ih (n / 16) (by omega) c h
      · rw [List.mem_singleton] at h; subst h
        have : (UInt8.ofNat (65 + n % 16)).toNat = 65 + n % 16 := by simp; omega
        rw [this]; omega
theorem ap_ne {n : Nat} (h : n ≠ 0) : ap n ≠ [] := by rw [ap_pos h]; simp
theorem wr_len (w : List Nat) (k : Nat) : (wr w k).length ≤ 2 * w.length + 2 := by
  have := esc_len w
  unfold wr; split <;> simp <;> omega
theorem sep_len (k : Nat) : (sepN k).length ≤ 3 := by unfold sepN; split <;> simp
theorem apN_pos {n : Nat} (h : n ≠ 0) : apN n = apN (n / 16) ++ [65 + n % 16] := by
  unfold apN
  rw [ap_pos h, List.map_append]
  congr 1
  simp; omega
theorem apN_zero : apN 0 = [] := by unfold apN; rw [ap_zero]; rfl
theorem apN_rng (n : Nat) : ∀ c ∈ apN n, 65 ≤ c ∧ c ≤ 80 := by
  intro c hc
  unfold apN at hc
  obtain ⟨b, hb, rfl⟩ := List.mem_map.mp hc
  exact ap_rng n b hb
/-- letters that nothing is meant by -/
noncomputable def plainL (w : List Nat) : Prop := ∀ c ∈ w, 65 ≤ c ∧ c ≤ 80
theorem plain_ws {c : Nat} (h : 65 ≤ c ∧ c ≤ 80) : isWs c = false := by unfold isWs; simp; omega
theorem rdW_plain : ∀ (w : List Nat) (n : Nat) (acc r : List Nat) (c : Nat), plainL w → isWs c = true → w.length < n → rdW n (w ++ c :: r) acc = some (acc ++ w, r)
  | [], n + 1, acc, r, c, _, hc, _ => by simp [rdW, hc]
  | a :: w, n + 1, acc, r, c, hw, hc, hn => by
    have h1 := hw a (.head _)
    have h2 := plain_ws h1
    rw [List.cons_append]
    show (if isWs a then _ else if a = 92 then _ else rdW n (w ++ c :: r) (acc ++ [a])) = _
    rw [h2, if_neg (by decide), if_neg (by omega), rdW_plain w n _ r c (fun b hb => hw b (.tail _ hb)) hc (by simp at hn; omega)]
    simp
theorem rdW_esc : ∀ (w : List Nat) (n : Nat) (acc r : List Nat) (c : Nat), isWs c = true → w.length < n → rdW n (esc w ++ c :: r) acc = some (acc ++ w, r)
  | [], n + 1, acc, r, c, hc, _ => by simp [rdW, esc, hc]
  | a :: w, n + 1, acc, r, c, hc, hn => by
    have e : esc (a :: w) ++ c :: r = 92 :: a :: (esc w ++ c :: r) := by simp [esc]
    rw [e]
    show (if isWs 92 then _ else if 92 = 92 then rdW n (esc w ++ c :: r) (acc ++ [a]) else _) = _
    rw [if_neg (by decide), if_pos rfl, rdW_esc w n _ r c hc (by simp at hn; omega)]
    simp
theorem rdQ_plain : ∀ (w : List Nat) (n : Nat) (acc r : List Nat), plainL w → w.length < n → rdQ n (w ++ 34 :: r) acc = some (acc ++ w, r)
  | [], n + 1, acc, r, _, _ => by simp [rdQ]
  | a :: w, n + 1, acc, r, hw, hn => by
    have h1 := hw a (.head _)
    rw [List.cons_append]
    show (if a = 34 then _ else if a = 92 then _ else rdQ n (w ++ 34 :: r) (acc ++ [a])) = _
    rw [if_neg (by omega), if_neg (by omega), rdQ_plain w n _ r (fun b hb => hw b (.tail _ hb)) (by simp at hn; omega)]
    simp
theorem rdQ_esc : ∀ (w : List Nat) (n : Nat) (acc r : List Nat), w.length < n → rdQ n (esc w ++ 34 :: r) acc = some (acc ++ w, r)
  | [], n + 1, acc, r, _ => by simp [rdQ, esc]
  | a :: w, n + 1, acc, r, hn => by
    have e : esc (a :: w) ++ 34 :: r = 92 :: a :: (esc w ++ 34 :: r) := by simp [esc]
    rw [e]
    show (if 92 = 34 then _ else if 92 = 92 then rdQ n (esc w ++ 34 :: r) (acc ++ [a]) else _) = _
    rw [if_neg (by decide), if_pos rfl, rdQ_esc w n _ r (by simp at hn; omega)]
    simp
theorem rdO_ws : ∀ (b : List Nat) (n : Nat) (r : List Nat), (∀ c ∈ b, isWs c = true) → rdO n (b ++ r) = rdO n r
  | [], _, _, _ => rfl
  | c :: b, n, r, h => by
    show (if isWs c then rdO n (b ++ r) else _) = _
    rw [h c (.head _), if_pos rfl, rdO_ws b n r fun d hd => h d (.tail _ hd)]
/-- a written word read -/
theorem rdO_wr {w : List Nat} {way n : Nat} (hw : plainL w) (hne : w ≠ [] ∨ way % 2 = 1) (h4 : way < 4) (hn : w.length < n) {c : Nat} (hc : isWs c = true) (r : List Nat) :
    rdO n (wr w way ++ c :: r) = some (w, if way % 2 = 1 then c :: r else r) := by
  match way, h4 with
  | 0, _ =>
    cases w with
    | nil => rcases hne with h | h; exact absurd rfl h; cases h
    | cons a w =>
      have h1 := hw a (.head _)
      show (if isWs a then _ else if a = 34 then _ else if a = 92 then _ else rdW n (w ++ c :: r) [a]) = _
      rw [plain_ws h1, if_neg (by decide), if_neg (by omega), if_neg (by omega), rdW_plain w n _ r c (fun b hb => hw b (.tail _ hb)) hc (by simp at hn; omega)]
      rfl
  | 1, _ =>
    have e : wr w 1 ++ c :: r = 34 :: (w ++ 34 :: c :: r) := by simp [wr]
    rw [e]
    show (if isWs 34 then _ else if 34 = 34 then rdQ n (w ++ 34 :: c :: r) [] else _) = _
    rw [if_neg (by decide), if_pos rfl, rdQ_plain w n _ _ hw hn]
    rfl
  | 2, _ =>
    cases w with
    | nil => rcases hne with h | h; exact absurd rfl h; cases h
    | cons a w =>
      have e : wr (a :: w) 2 ++ c :: r = 92 :: a :: (esc w ++ c :: r) := by simp [wr, esc]
      rw [e]
      show (if isWs 92 then _ else if 92 = 34 then _ else if 92 = 92 then rdW n (esc w ++ c :: r) [a] else _) = _
      rw [if_neg (by decide), if_neg (by decide), if_pos rfl, rdW_esc w n _ r c hc (by simp at hn; omega)]
      rfl
  | 3, _ =>
    have e : wr w 3 ++ c :: r = 34 :: (esc w ++ 34 :: c :: r) := by simp [wr]
    rw [e]
    show (if isWs 34 then _ else if 34 = 34 then rdQ n (esc w ++ 34 :: c :: r) [] else _) = _
    rw [if_neg (by decide), if_pos rfl, rdQ_esc w n _ _ hn]
    rfl
theorem sep_ws (k : Nat) : ∃ c r, sepN k = c :: r ∧ isWs c = true ∧ ∀ d ∈ sepN k, isWs d = true := by
  unfold sepN
  split
  · exact ⟨_, _, rfl, rfl, by decide⟩
  · exact ⟨_, _, rfl, rfl, by decide⟩
  · exact ⟨_, _, rfl, rfl, by decide⟩
  · exact ⟨_, _, rfl, rfl, by decide⟩
/-- blanks, a word, blanks: what is left behind the word -/
theorem rdO_piece {bl w : List Nat} {way s n : Nat} (hb : ∀ c ∈ bl, isWs c = true) (hw : plainL w) (hne : w ≠ [] ∨ way % 2 = 1) (h4 : way < 4) (hn : w.length < n) (r : List Nat) :
    rdO n (bl ++ (wr w way ++ (sepN s ++ r))) = some (w, (sepN s).drop (1 - way % 2) ++ r) := by
  obtain ⟨c, q, e, hc, _⟩ := sep_ws s
  rw [rdO_ws _ _ _ hb, e, List.cons_append, rdO_wr hw hne h4 hn hc]
  by_cases h : way % 2 = 1
  · rw [if_pos h, h]; rfl
  · rw [if_neg h, show way % 2 = 0 by omega]; rfl
theorem sep_drop (s i : Nat) : ∀ c ∈ (sepN s).drop i, isWs c = true := by
  obtain ⟨_, _, _, _, h⟩ := sep_ws s
  exact fun c hc => h c (List.mem_of_mem_drop hc)
/-- what one get_token gives -/
inductive Gets (t : List Nat) : Nat × List Nat × List AV → List Nat → Nat × List Nat × List AV → Prop
  | back {ln : Nat} {u : List Nat} {w : List Nat} {toks : List AV} : toks.length ≤ 1000000 → Gets t (ln, u, .str (ofL w) :: toks) w (ln, u, toks)
  | text {ln ln' n : Nat} {u w r : List Nat} : u <:+ t → rdO n u = some (w, r) → ln' + r.count 10 = ln + u.count 10 → Gets t (ln, u, []) w (ln', r, [])
theorem get_any (W : Wd Γ (KK pp) mg mb) {x d st pb pl cx cy : Addr} {ρ : Sto} {t : List Nat} (S : Strm pp ρ st cx cy) (ht : t.length ≤ 1000000) {a b : Nat × List Nat × List AV} {w : List Nat} (g : Gets t a w b) {P : AV → Sto → Prop}
    (p : P (.str (ofL w)) (lexU x d st pb pl cx cy t b.1 b.2.1 b.2.2 ρ)) : CalC Γ (k + 4) (.ref 42) [.ref x] (lexU x d st pb pl cx cy t a.1 a.2.1 a.2.2 ρ) P := by
  cases g with
  | back hl => exact get_back W hl p
  | text hs hr hn => exact get_text W S ht hs hr hn p
theorem gets_piece {t u0 bl w R : List Nat} {way s : Nat} (e : u0 = bl ++ (wr w way ++ (sepN s ++ R))) (hs : u0 <:+ t) (hb : ∀ c ∈ bl, isWs c = true) (hw : plainL w) (hne : w ≠ [] ∨ way % 2 = 1) (h4 : way < 4) :
    ((sepN s).drop (1 - way % 2) ++ R) <:+ t ∧ Gets t (1 + t.count 10 - u0.count 10, u0, []) w (1 + t.count 10 - ((sepN s).drop (1 - way % 2) ++ R).count 10, (sepN s).drop (1 - way % 2) ++ R, []) := by
  have h1 : ((sepN s).drop (1 - way % 2) ++ R) <:+ u0 := ⟨bl ++ wr w way ++ (sepN s).take (1 - way % 2), by
    have := List.take_append_drop (1 - way % 2) (sepN s)
    rw [e]
    simp only [List.append_assoc]
    rw [← List.append_assoc ((sepN s).take _), this]⟩
  have h2 := h1.trans hs
  have c1 := h1.sublist.count_le 10
  have c2 := hs.sublist.count_le 10
  refine ⟨h2, .text (n := w.length + 1) hs (by rw [e]; exact rdO_piece hb hw hne h4 (Nat.lt_succ_self _) R) (by omega)⟩
section
variable (R : Nat → List Nat)
/-- words of d + 1 figures that keep the rule and begin with j -/
noncomputable def tl : Nat → Nat → List (List Nat)
  | 0, j => [[j]]
  | d + 1, j => (((R j).map (tl d)).flatten).map (j :: ·)
noncomputable def lv (d : Nat) (C : List Nat) : List (List Nat) := (C.map (tl R d)).flatten
noncomputable def cnt (d j : Nat) : Nat := (tl R d j).length
noncomputable def kidsW (w : List Nat) : List (List Nat) := (R (w.getLastD 0)).map fun j => w ++ [j]
noncomputable def ext (l : List (List Nat)) : List (List Nat) := (l.map (kidsW R)).flatten
/-- the first n words told, where q wait -/
noncomputable def bfs : Nat → List (List Nat) → List (List Nat)
  | _, [] => []
  | 0, _ => []
  | n + 1, w :: q => w :: bfs n (q ++ kidsW R w)
theorem tl_ne : ∀ d j w, w ∈ tl R d j → w ≠ []
  | 0, j, w, h => by rw [List.mem_singleton.mp h]; simp
  | d + 1, j, w, h => by obtain ⟨v, _, rfl⟩ := List.mem_map.mp h; simp
theorem ext_app (a b : List (List Nat)) : ext R (a ++ b) = ext R a ++ ext R b := by unfold ext; rw [List.map_append, List.flatten_append]
theorem ext_flat {α : Type} (f : α → List (List Nat)) : ∀ l : List α, ext R ((l.map f).flatten) = (l.map fun a => ext R (f a)).flatten
  | [] => rfl
  | a :: l => by simp only [List.map_cons, List.flatten_cons, ext_app, ext_flat f l]
theorem ext_cons (j : Nat) : ∀ l : List (List Nat), (∀ w ∈ l, w ≠ []) → ext R (l.map (j :: ·)) = (ext R l).map (j :: ·)
  | [], _ => rfl
  | w :: l, h => by
    have h1 := ext_cons j l fun v hv => h v (.tail _ hv)
    have h2 := h w (.head _)
    show kidsW R (j :: w) ++ ext R (l.map (j :: ·)) = (kidsW R w ++ ext R l).map (j :: ·)
    rw [h1, List.map_append]
    congr 1
    unfold kidsW
    rw [List.map_map]
    cases w with
    | nil => exact absurd rfl h2
    | cons a w => rfl
theorem lv_ne (d : Nat) (C : List Nat) : ∀ w ∈ lv R d C, w ≠ [] := fun w hw => by
  obtain ⟨l, hl, hw⟩ := List.mem_flatten.mp hw
  obtain ⟨j, _, rfl⟩ := List.mem_map.mp hl
  exact tl_ne R d j w hw
theorem ext_tl : ∀ d j, ext R (tl R d j) = tl R (d + 1) j
  | 0, j => by
    show kidsW R [j] ++ [] = (((R j).map (tl R 0)).flatten).map (j :: ·)
    rw [List.append_nil]
    unfold kidsW
    show (R j).map (fun i => [j] ++ [i]) = _
    generalize R j = l
    induction l with
    | nil => rfl
    | cons a l ih => simp only [List.map_cons, List.flatten_cons, List.map_append, ih]; rfl
  | d + 1, j => by
    show ext R ((lv R d (R j)).map (j :: ·)) = (lv R (d + 1) (R j)).map (j :: ·)
    rw [ext_cons R j _ (lv_ne R d _)]
    congr 1
    unfold lv
    rw [ext_flat]
    congr 1
    exact List.map_congr_left fun i _ => ext_tl d i
theorem ext_lv (d : Nat) (C : List Nat) : ext R (lv R d C) = lv R (d + 1) C := by
  unfold lv
  rw [ext_flat]
  congr 1
  exact List.map_congr_left fun i _ => ext_tl R d i
theorem cnt_succ (d j : Nat) : cnt R (d + 1) j = ((R j).map (cnt R d)).sum := by
  show (((((R j).map (tl R d)).flatten).map (j :: ·))).length = _
  rw [List.length_map, List.length_flatten, List.map_map]
  rfl
theorem lv_len (d : Nat) (C : List Nat) : (lv R d C).length = (C.map (cnt R d)).sum := by
  unfold lv; rw [List.length_flatten, List.map_map]; rfl
theorem bfs_nil (n : Nat) : bfs R n [] = [] := by cases n <;> rfl
theorem bfs_zero (q : List (List Nat)) : bfs R 0 q = [] := by cases q <;> rfl
theorem bfs_app : ∀ (q k : List (List Nat)) (n : Nat), bfs R n (q ++ k) = if n ≤ q.length then q.take n else q ++ bfs R (n - q.length) (k ++ ext R q)
  | [], k, n => by
    by_cases h : n = 0
    · subst h; rw [bfs_zero]; rfl
    · rw [if_neg (by simpa using h)]; simp [ext]
  | w :: q, k, 0 => by rw [bfs_zero]; rfl
  | w :: q, k, n + 1 => by
    show w :: bfs R n ((q ++ k) ++ kidsW R w) = _
    rw [List.append_assoc, bfs_app q (k ++ kidsW R w) n]
    simp only [List.length_cons]
    by_cases h : n ≤ q.length
    · rw [if_pos h, if_pos (by omega)]; rfl
    · rw [if_neg h, if_neg (by omega), show n + 1 - (q.length + 1) = n - q.length by omega]
      simp [ext]
theorem bfs_lv (n d : Nat) (C : List Nat) : bfs R n (lv R d C) = (lv R d C).take n ++ bfs R (n - (lv R d C).length) (lv R (d + 1) C) := by
  have := bfs_app R (lv R d C) [] n
  rw [List.append_nil, List.nil_append, ext_lv] at this
  rw [this]
  by_cases h : n ≤ (lv R d C).length
  · rw [if_pos h, show n - (lv R d C).length = 0 by omega, bfs_zero, List.append_nil]
  · rw [if_neg h, List.take_of_length_le (by omega)]
theorem bfs_len : ∀ (n : Nat) (q : List (List Nat)), (bfs R n q).length ≤ n
  | n, [] => by rw [bfs_nil]; simp
  | 0, _ :: _ => by simp [bfs]
  | n + 1, p :: q => by
    have := bfs_len n (q ++ kidsW R p)
    simp only [bfs, List.length_cons]; omega
theorem bfs_all {G : List Nat → Prop} (hk : ∀ w, G w → ∀ v ∈ kidsW R w, G v) : ∀ (n : Nat) (q : List (List Nat)), (∀ w ∈ q, G w) → ∀ w ∈ bfs R n q, G w
  | n, [], _, w, h => by rw [bfs_nil] at h; cases h
  | 0, _ :: _, _, w, h => by simp [bfs] at h
  | n + 1, p :: q, hq, w, h => by
    rcases List.mem_cons.mp h with rfl | h
    · exact hq _ (.head _)
    · refine bfs_all hk n _ (fun v hv => ?_) w h
      rcases List.mem_append.mp hv with hv | hv
      · exact hq v (.tail _ hv)
      · exact hk p (hq _ (.head _)) v hv
theorem bfs_size : ∀ (n m : Nat) (q : List (List Nat)), (∀ w ∈ q, w.length ≤ m) → ∀ w ∈ bfs R n q, w.length ≤ m + n
  | n, m, [], _, w, h => by rw [bfs_nil] at h; cases h
  | 0, m, _ :: _, _, w, h => by simp [bfs] at h
  | n + 1, m, p :: q, hq, w, h => by
    rcases List.mem_cons.mp h with rfl | h
    · have := hq _ (.head _); omega
    · have := bfs_size n (m + 1) _ (fun v hv => ?_) w h
      · omega
      · rcases List.mem_append.mp hv with hv | hv
        · have := hq v (.tail _ hv); omega
        · obtain ⟨j, _, rfl⟩ := List.mem_map.mp hv
          have := hq p (.head _)
          rw [List.length_append]; simpa using this
end
/-- a word's number -/
noncomputable def valW (V : Nat → Nat) (a : Nat) (w : List Nat) : Nat := w.foldl (fun a j => a * 16 + V j) a
noncomputable def ltr (V : Nat → Nat) (w : List Nat) : List Nat := w.map fun j => 65 + V j
theorem apN_snoc {a b : Nat} (hb : b < 16) (h : a * 16 + b ≠ 0) : apN (a * 16 + b) = apN a ++ [65 + b] := by
  rw [apN_pos h, show (a * 16 + b) / 16 = a by omega, show (a * 16 + b) % 16 = b by omega]
theorem apN_valW {V : Nat → Nat} : ∀ (w : List Nat) (a : Nat), a ≠ 0 → (∀ j ∈ w, V j < 16) → apN (valW V a w) = apN a ++ ltr V w
  | [], a, _, _ => by simp [valW, ltr]
  | j :: w, a, h, hw => by
    have h1 := hw j (.head _)
    have h2 : a * 16 + V j ≠ 0 := by omega
    show apN (valW V (a * 16 + V j) w) = _
    rw [apN_valW w _ h2 (fun i hi => hw i (.tail _ hi)), apN_snoc h1 h2, List.append_assoc]
    rfl
theorem apN_word {V : Nat → Nat} {j : Nat} {w : List Nat} (hj : 0 < V j) (hw : ∀ i ∈ j :: w, V i < 16) : apN (valW V 0 (j :: w)) = ltr V (j :: w) := by
  have h1 := hw j (.head _)
  show apN (valW V (0 * 16 + V j) w) = _
  rw [apN_valW w _ (by omega) (fun i hi => hw i (.tail _ hi)), apN_snoc h1 (by omega), apN_zero]
  rfl
theorem valW_lt {V : Nat → Nat} : ∀ (w : List Nat) (a n : Nat), a < 16 ^ n → (∀ j ∈ w, V j < 16) → valW V a w < 16 ^ (n + w.length)
  | [], a, n, h, _ => h
  | j :: w, a, n, h, hw => by
    have h1 := hw j (.head _)
    have := valW_lt w (a * 16 + V j) (n + 1) (by rw [Nat.pow_succ]; omega) (fun i hi => hw i (.tail _ hi))
    rw [List.length_cons, show n + (w.length + 1) = n + 1 + w.length by omega]
    exact this
theorem valW_pos {V : Nat → Nat} : ∀ (w : List Nat) (a : Nat), a ≠ 0 → valW V a w ≠ 0
  | [], a, h => h
  | j :: w, a, h => valW_pos w (a * 16 + V j) (by omega)
/-- a word that may be told -/
noncomputable def Gd4 (V : Nat → Nat) (w : List Nat) : Prop := ∃ j r, w = j :: r ∧ 0 < V j ∧ ∀ i ∈ w, i < 4
/-- the four figures and what may follow each -/
structure Pl (V : Nat → Nat) (R : Nat → List Nat) : Prop where
  lt : ∀ j, j < 4 → V j < 16
  inj : ∀ i j, i < 4 → j < 4 → V i = V j → i = j
  row : ∀ j, ∀ i ∈ R j, i < 4
  len : ∀ j, (R j).length ≤ 4
theorem gd_kids {V : Nat → Nat} {R : Nat → List Nat} (F : Pl V R) (w : List Nat) (h : Gd4 V w) : ∀ v ∈ kidsW R w, Gd4 V v := fun v hv => by
  obtain ⟨i, hi, rfl⟩ := List.mem_map.mp hv
  obtain ⟨j, r, rfl, a, b⟩ := h
  refine ⟨j, r ++ [i], rfl, a, fun z hz => ?_⟩
  rcases List.mem_append.mp hz with hz | hz
  · exact b z hz
  · rw [List.mem_singleton.mp hz]; exact F.row _ i hi
theorem gd_start {V : Nat → Nat} {R : Nat → List Nat} {C : List Nat} (hC : ∀ j ∈ C, j < 4 ∧ 0 < V j) : ∀ w ∈ lv R 0 C, Gd4 V w := fun w hw => by
  obtain ⟨l, hl, hw⟩ := List.mem_flatten.mp hw
  obtain ⟨j, hj, rfl⟩ := List.mem_map.mp hl
  rw [List.mem_singleton.mp hw]
  exact ⟨j, [], rfl, (hC j hj).2, fun i hi => by rw [List.mem_singleton.mp hi]; exact (hC j hj).1⟩
theorem len_start {R : Nat → List Nat} {C : List Nat} : ∀ w ∈ lv R 0 C, w.length ≤ 1 := fun w hw => by
  obtain ⟨l, hl, hw⟩ := List.mem_flatten.mp hw
  obtain ⟨j, hj, rfl⟩ := List.mem_map.mp hl
  rw [List.mem_singleton.mp hw]; exact Nat.le_refl _
/-- what is known of a word told -/
theorem told_ok {V : Nat → Nat} {R : Nat → List Nat} (F : Pl V R) {C : List Nat} (hC : ∀ j ∈ C, j < 4 ∧ 0 < V j) {n : Nat} (hn : n ≤ 20) : ∀ w ∈ bfs R n (lv R 0 C), apN (valW V 0 w) = ltr V w ∧ valW V 0 w < 16 ^ 21 ∧ valW V 0 w ≠ 0 := fun w hw => by
  obtain ⟨j, r, rfl, a, b⟩ := bfs_all R (gd_kids F) n _ (gd_start hC) w hw
  have hl := bfs_size R n 1 _ len_start _ hw
  have hV : ∀ i ∈ j :: r, V i < 16 := fun i hi => F.lt i (b i hi)
  refine ⟨apN_word a hV, Nat.lt_of_lt_of_le (valW_lt _ 0 0 (by decide) hV) (Nat.pow_le_pow_right (by decide) (by omega)), ?_⟩
  exact valW_pos r (0 * 16 + V j) (by omega)
/-- where the rule lies -/
structure RuleS (σ : Sto) (va ra : Addr) (row : Nat → Addr) (V : Nat → Nat) (R : Nat → List Nat) : Prop where
  va : (va, .list ((List.range 4).map fun k => .int (V k : Nat))) ∈ σ
  ra : (ra, .list ((List.range 4).map fun k => .ref (row k))) ∈ σ
  rw : ∀ k, k < 4 → (row k, .list ((R k).map fun j : Nat => .int j)) ∈ σ
theorem RuleS.mono {σ τ : Sto} {va ra : Addr} {row : Nat → Addr} {V : Nat → Nat} {R : Nat → List Nat} (h : RuleS σ va ra row V R) (s : ∀ p ∈ σ, p ∈ τ) : RuleS τ va ra row V R := ⟨s _ h.va, s _ h.ra, fun k hk => s _ (h.rw k hk)⟩
theorem at4 {α : Type} (g : Nat → α) {i : Nat} (hi : i < 4) : ((List.range 4).map g)[((i : Nat) : Int).toNat]? = some (g i) := by
  rw [Int.toNat_natCast]
  match i, hi with
  | 0, _ => rfl
  | 1, _ => rfl
  | 2, _ => rfl
  | 3, _ => rfl
theorem snocD {α : Type} (g : Nat → α) (i : Nat) : (List.range (i + 1)).map g = (List.range i).map g ++ [g i] := by rw [List.range_succ, List.map_append]; rfl
noncomputable def Suf (σ τ : Sto) : Prop := ∃ pre, τ = pre ++ σ
theorem Suf.nil {σ : Sto} : Suf σ σ := ⟨[], rfl⟩
theorem Suf.cons {σ τ : Sto} {p : Addr × AO} (h : Suf σ τ) : Suf σ (p :: τ) := by obtain ⟨l, rfl⟩ := h; exact ⟨p :: l, rfl⟩
theorem Suf.app {σ τ l : Sto} (h : Suf σ τ) : Suf σ (l ++ τ) := by obtain ⟨m, rfl⟩ := h; exact ⟨l ++ m, by rw [List.append_assoc]⟩
theorem Suf.mem {σ τ : Sto} (h : Suf σ τ) : ∀ p ∈ σ, p ∈ τ := by obtain ⟨m, rfl⟩ := h; exact fun p hp => List.mem_append_right _ hp
theorem At.app2 {τ τ' l : Sto} {a : Addr} {o o' : AO} (h : At τ a o o' τ') : At (l ++ τ) a o o' (l ++ τ') := by
  induction l with
  | nil => exact h
  | cons p l ih => exact .tail ih
theorem ok_drawn (X : (KK pp).In Γ.hB) : FnOk Γ 87 (fdOf (KK pp) 87) (bodyOf (fdOf (KK pp) 87)) ["script"] := fnOkB X (by kernel_rfl!) (bind1 fun _ => by kernel_rfl!)
/-- the script's numbers, and what stands for those that lack -/
noncomputable def scrF (k : Nat) : Int := ([0, 27228, 44, 0] : List Int).getD k 0
noncomputable def scr4 (xs : List Int) (k : Nat) : Int := (xs[k]?).getD (scrF k)
noncomputable def b4 : List Int := [4, 4, 4, 4]
noncomputable def b16 : List Int := [16, 16, 16, 16]
noncomputable def bG : List Int := [4, 4, 4, 4, 4, 4, 4, 4, 4, 4]
noncomputable def bD : List Int := [15, 15, 4, 4, 4, 4, 4, 4, 4, 4, 4, 4]
noncomputable def fN (x : Int) (bs : List Int) (i : Nat) : Nat := ((figs x bs).getD i 0).toNat
theorem fN_eq {x : Int} {bs : List Int} (hb : ∀ b ∈ bs, 0 < b) {i : Nat} {b : Int} (e : bs[i]? = some b) : (figs x bs).getD i 0 = (fN x bs i : Nat) ∧ (fN x bs i : Int) < b := by
  have := figs_range bs x hb i b e
  have h2 : (figs x bs).getD i 0 = (fN x bs i : Int) := by unfold fN; rw [Int.toNat_of_nonneg]; exact this.1
  exact ⟨h2, h2 ▸ this.2⟩
theorem figs_list {x : Int} {bs : List Int} (hb : ∀ b ∈ bs, 0 < b) : (figs x bs).map AV.int = (List.range bs.length).map fun i => AV.int (fN x bs i : Nat) := by
  apply List.ext_getElem
  · rw [List.length_map, List.length_map, List.length_range, figs_length]
  · intro i h1 h2
    rw [List.length_map, List.length_range] at h2
    rw [List.getElem_map, List.getElem_map, List.getElem_range]
    have := (fN_eq (x := x) hb (List.getElem?_eq_getElem h2)).1
    rw [← this]
    have hl : i < (figs x bs).length := by rw [figs_length]; exact h2
    rw [List.getD_eq_getElem?_getD, List.getElem?_eq_getElem hl]; rfl
/-- the figures, rising -/
noncomputable def vN (xs : List Int) : Nat → Nat
  | 0 => fN (scr4 xs 0) b4 0
  | k + 1 => fN (scr4 xs 0) b4 (k + 1) + (vN xs k + 1)
noncomputable def bit (n j : Nat) : Bool := n / 2 ^ j % 2 == 1
noncomputable def rN (xs : List Int) (k : Nat) : List Nat := (List.range 4).filter fun j => bit (fN (scr4 xs 1) b16 k) j
noncomputable def sN (xs : List Int) (p : Nat) : List Nat := (List.range 4).filter fun j => bit (fN (scr4 xs 2) bD p + 1) j && decide (0 < vN xs j)
noncomputable def yN (xs : List Int) (i : Nat) : Nat := fN (scr4 xs 2) bD (2 + i)
noncomputable def gN (xs : List Int) (i : Nat) : Nat := fN (scr4 xs 3) bG i
theorem at4x {i : Nat} (h : i < 4) : b4[i]? = some 4 ∧ b16[i]? = some 16 := by
  match i, h with
  | 0, _ => exact ⟨rfl, rfl⟩
  | 1, _ => exact ⟨rfl, rfl⟩
  | 2, _ => exact ⟨rfl, rfl⟩
  | 3, _ => exact ⟨rfl, rfl⟩
theorem vN_lt (xs : List Int) : ∀ k, k < 4 → vN xs k ≤ 4 * k + 3
  | 0, _ => by have := (fN_eq (x := scr4 xs 0) (bs := b4) (by decide) (at4x (i := 0) (by decide)).1).2; unfold vN; omega
  | k + 1, h => by
    have := (fN_eq (x := scr4 xs 0) (bs := b4) (by decide) (at4x h).1).2
    have := vN_lt xs k (by omega)
    unfold vN; omega
theorem vN_mono (xs : List Int) : ∀ k d, vN xs k < vN xs (k + d + 1)
  | k, 0 => by show _ < fN _ _ _ + (vN xs k + 1); omega
  | k, d + 1 => by have := vN_mono xs k d; show _ < fN _ _ _ + (vN xs (k + d + 1) + 1); omega
theorem pl_xs (xs : List Int) : Pl (vN xs) (rN xs) where
  lt := fun j hj => by have := vN_lt xs j hj; omega
  inj := fun i j hi hj e => by
    rcases Nat.lt_trichotomy i j with h | h | h
    · have := vN_mono xs i (j - i - 1); rw [show i + (j - i - 1) + 1 = j by omega] at this; omega
    · exact h
    · have := vN_mono xs j (i - j - 1); rw [show j + (i - j - 1) + 1 = i by omega] at this; omega
  row := fun j i hi => by have := (List.mem_filter.mp hi).1; exact List.mem_range.mp this
  len := fun j => by have := List.length_filter_le (fun i => bit (fN (scr4 xs 1) b16 j) i) (List.range 4); exact Nat.le_trans this (by simp)
theorem sN_ok (xs : List Int) (p : Nat) : (∀ j ∈ sN xs p, j < 4 ∧ 0 < vN xs j) ∧ (sN xs p).length ≤ 4 := by
  refine ⟨fun j hj => ?_, ?_⟩
  · obtain ⟨h1, h2⟩ := List.mem_filter.mp hj
    rw [Bool.and_eq_true] at h2
    exact ⟨List.mem_range.mp h1, of_decide_eq_true h2.2⟩
  · have := List.length_filter_le (fun j => bit (fN (scr4 xs 2) bD p + 1) j && decide (0 < vN xs j)) (List.range 4); exact Nat.le_trans this (by simp)
theorem yN_lt (xs : List Int) (i : Nat) (h : i < 10) : yN xs i < 4 ∧ gN xs i < 4 := by
  have h1 : bD[2 + i]? = some 4 ∧ bG[i]? = some 4 := by
    match i, h with
    | 0, _ => exact ⟨rfl, rfl⟩
    | 1, _ => exact ⟨rfl, rfl⟩
    | 2, _ => exact ⟨rfl, rfl⟩
    | 3, _ => exact ⟨rfl, rfl⟩
    | 4, _ => exact ⟨rfl, rfl⟩
    | 5, _ => exact ⟨rfl, rfl⟩
    | 6, _ => exact ⟨rfl, rfl⟩
    | 7, _ => exact ⟨rfl, rfl⟩
    | 8, _ => exact ⟨rfl, rfl⟩
    | 9, _ => exact ⟨rfl, rfl⟩
  have a := (fN_eq (x := scr4 xs 2) (bs := bD) (by decide) h1.1).2
  have b := (fN_eq (x := scr4 xs 3) (bs := bG) (by decide) h1.2).2
  unfold yN gN
  omega
theorem eqv_nil (l : List PyData) : PyData.eqv (.list l) (.list []) = decide (l = []) := by
  cases l with
  | nil => simp [PyData.eqv, PyData.eqvAll]
  | cons a l => simp [PyData.eqv, PyData.eqvAll]
noncomputable def rowD (xs : List Int) (r : Nat × Addr) : Addr × AO := (r.2, .list ((rN xs r.1).map fun j : Nat => .int j))
noncomputable def staD (xs : List Int) (r : Nat × Addr) : Addr × AO := (r.2, .list ((sN xs r.1).map fun j : Nat => .int j))
theorem fun_of {n : Nat} {ws : List (Nat × Addr)} (h : ws.map (·.1) = List.range n) : ∃ b : Nat → Addr, ws = (List.range n).map fun i => (i, b i) := by
  have hl : ws.length = n := by have := congrArg List.length h; simpa using this
  refine ⟨fun i => (ws.getD i (0, 0)).2, ?_⟩
  apply List.ext_getElem
  · simp [hl]
  · intro i h1 h2
    rw [List.getElem_map, List.getElem_range]
    show ws[i] = (i, (ws.getD i (0, 0)).2)
    rw [List.getD_eq_getElem?_getD, List.getElem?_eq_getElem h1]
    have e : (ws.map (·.1))[i]'(by rw [List.length_map]; exact h1) = i := by simp only [h, List.getElem_range]
    rw [List.getElem_map] at e
    exact Prod.ext e rfl
theorem bit_int (n j : Nat) : (((n : Int) / ((2 ^ j : Nat) : Int) % 2) == 1) = bit n j := by
  have : (n : Int) / ((2 ^ j : Nat) : Int) % 2 = ((n / 2 ^ j % 2 : Nat) : Int) := by rw [Int.natCast_emod, Int.natCast_ediv]; rfl
  rw [this]
  unfold bit
  rw [Bool.eq_iff_iff]
  simp only [beq_iff_eq]
  omega
theorem drawn (W : Wd Γ (KK pp) mg mb) {sa : Addr} {xs : List Int} (hl : xs.length ≤ 63) (hm : Fz Γ sa xs) {P : AV → Sto → Prop}
    (q : ∀ va ra ssa ya ga (row st : Nat → Addr) τ, Suf σ τ → RuleS τ va ra row (vN xs) (rN xs) → (ssa, .list ((List.range 2).map fun p => .ref (st p))) ∈ τ → (∀ p, p < 2 → (st p, .list ((sN xs p).map fun j : Nat => .int j)) ∈ τ) →
      (ya, .list ((List.range 10).map fun i => .int (yN xs i : Nat))) ∈ τ → (ga, .list ((List.range 10).map fun i => .int (gN xs i : Nat))) ∈ τ → P (.tup [.ref va, .ref ra, .ref ssa, .ref ya, .ref ga]) τ) : CalC Γ (k + 2) (.ref 87) [.ref sa] σ P := by
  refine fn_cellsB W.ok (ok_drawn W.X) rfl (by kernel_rfl!) ?_
  refine exs_cons ?_
  walk_at "g"
  refine ⟨by rw [sizeLine_eq]; simp, fun fa => ?_⟩
  walk_at "g"
  refine cal_range1 fun rg og hog => ?_
  refine ⟨_, _, mk_range (.name _ _) (.head _) hog (by decide) (by decide) (by decide) (by decide), (fun p hp => by cases hp), fun na => ?_⟩
  rw [show intsFrom 0 ((4 : Int) - 0).toNat = (List.range 4).map fun n : Nat => AV.int n from rfl]
  have hfa : ∀ i, i < 4 → ([.int 0, .int 27228, .int 44, .int 0] : List AV)[((i : Nat) : Int).toNat]? = some (.int (scrF i)) := fun i h => by
    match i, h with
    | 0, _ => rfl
    | 1, _ => rfl
    | 2, _ => rfl
    | 3, _ => rfl
  refine cmp_drop (σ' := (na, .list []) :: (fa, .list [.int 0, .int 27228, .int 44, .int 0]) :: σ) ?_ (.cons₂ _ (.cons _ (.refl _))) (fun p hp => by cases hp)
  refine cmp_sub (cmp_n 4 [("script", .ref sa), ("fixed", .ref fa)] (fun i => (na, .list ((List.range i).map fun j => .int (scr4 xs j))) :: (fa, .list [.int 0, .int 27228, .int 44, .int 0]) :: σ) (fun n => .int (n : Nat)) (fun i p hp => by cases hp) ?_ ?_) (sub_cons (by kernel_rfl!) (sub_cons (by kernel_rfl!) sub_nil))
  · intro i A hi hC
    walk_at "g"
    refine ⟨sub_cons rfl (sub_cons rfl sub_nil), ?_⟩
    have hC' : A (.int (scr4 xs i)) ((na, .list ((List.range i).map fun j => .int (scr4 xs j))) :: (fa, .list [.int 0, .int 27228, .int 44, .int 0]) :: σ) := by
      refine hC _ ((List.range i).map fun j => .int (scr4 xs j)) _ ?_ (by rw [sizeLine_eq]; simp; omega)
      rw [snocD (fun j => AV.int (scr4 xs j)) i]
      exact .head
    refine ev_ifexp ?_
    walk_at "g"
    refine fz_len hm (by rw [sizeLine_eq]; omega) ?_
    walk_at "g"
    refine ⟨fun hb => ?_, fun hb => ?_⟩
    · have hb : i < xs.length := by have := of_decide_eq_true hb; omega
      refine ev_itemF hm ?_ (fun _ _ => by kernel_rfl!)
      walk_at "g"
      refine ⟨rfl, ?_⟩
      walk_at "g"
      refine fz_get hm (by omega) (by omega) (x := scr4 xs i) ?_ hC'
      unfold scr4
      rw [Int.toNat_natCast, List.getElem?_eq_getElem hb]; rfl
    · have hb : xs.length ≤ i := by have := of_decide_eq_false hb; omega
      walk_at "g"
      refine ⟨plain_list (a := fa) (.tail _ (.head _)), get_list (a := fa) (x := .int (scr4 xs i)) (.tail _ (.head _)) (by omega) (by omega) ?_ hC'⟩
      rw [hfa i hi]
      unfold scr4
      rw [List.getElem?_eq_none hb]; rfl
  walk_at "g"
  refine ⟨by rw [sizeLine_eq]; simp, fun va => ?_⟩
  walk_at "g"
  have hna : (na, AO.list ((List.range 4).map fun j => .int (scr4 xs j))) ∈ (na, .list ((List.range 4).map fun j => .int (scr4 xs j))) :: (fa, .list [.int 0, .int 27228, .int 44, .int 0]) :: σ := .head _
  have hsuf : Suf σ ((na, .list ((List.range 4).map fun j => .int (scr4 xs j))) :: (fa, .list [.int 0, .int 27228, .int 44, .int 0]) :: σ) := .cons (.cons .nil)
  generalize ((na, AO.list ((List.range 4).map fun j => .int (scr4 xs j))) :: (fa, .list [.int 0, .int 27228, .int 44, .int 0]) :: σ) = B at hna hsuf ⊢
  refine ex_for ?_ (fun _ _ => rfl)
  refine ev_calG W 70 (by kernel_rfl!) ?_
  walk_at "g"
  refine ⟨plain_list (a := na) (.tail _ hna), get_list (a := na) (.tail _ hna) (by decide) (by decide) (at4 (fun k => AV.int (scr4 xs k)) (i := 0) (by decide)) ?_⟩
  walk_at "g"
  refine ⟨by rw [sizeLine_eq]; simp, fun ba => ?_⟩
  walk_at "g"
  refine cal_of (fig W (bases := b4) (by decide) (by decide) (.head _) fun fb => ?_)
  rw [figs_list (by decide), show b4.length = 4 from rfl]
  refine ⟨_, _, mk_list (.name _ _) (xs := (List.range 4).map fun i => .int (fN (scr4 xs 0) b4 i : Nat)) (a := fb) (.head _), (fun p hp => by rw [List.mem_singleton.mp hp]; exact .head _), ?_⟩
  refine for_sub (σ' := (fb, .list ((List.range 4).map fun i => .int (fN (scr4 xs 0) b4 i : Nat))) :: (va, .list []) :: B) (for_n 4 [("values", .ref va), ("numbers", .ref na)] (fun i => (fb, .list ((List.range 4).map fun i => .int (fN (scr4 xs 0) b4 i : Nat))) :: (va, .list ((List.range i).map fun k => .int (vN xs k : Nat))) :: B) (fun i => .int (fN (scr4 xs 0) b4 i : Nat)) (fun i p hp => by rw [List.mem_singleton.mp hp]; exact .head _) ?_ ?_) (sub_cons rfl (sub_cons rfl sub_nil)) (.cons₂ _ (.cons _ (.refl _))) (fun p hp => by rw [List.mem_singleton.mp hp]; exact .head _)
  · intro i P' A hi hA
    have fin : ∀ (τ : Sto) l' (v : Int), v = (vN xs i : Nat) → Sub [("values", .ref va), ("numbers", .ref na)] l' → A l' (τ ++ (fb, .list ((List.range 4).map fun i => .int (fN (scr4 xs 0) b4 i : Nat))) :: (va, .list (((List.range i).map fun k => .int (vN xs k : Nat)) ++ [.int v])) :: B) := fun τ l' v e hs => by
      subst e
      refine hA _ _ hs ?_
      rw [snocD (fun k => AV.int (vN xs k : Nat)) i]
      exact List.sublist_append_right _ _
    walk_at "g"
    refine ⟨_, _, gm_append (xs := (List.range i).map fun k => .int (vN xs k : Nat)) (a := va) (.tail _ (.head _)), ?_⟩
    walk_at "g"
    refine ev_ifexp ?_
    walk_at "g"
    refine ⟨by rw [sizeLine_eq]; simp, fun la => ?_⟩
    walk_at "g"
    have ok : OkD (.list ((List.range i).map fun k => PyData.int (vN xs k : Nat))) 1 := okD_list (okDs_map (fun a => okD_int _ 0) _)
    refine op_ne_deep (d := .list ((List.range i).map fun k => .int (vN xs k : Nat))) (e := .list []) (.list (a := va) (.tail _ (.tail _ (.head _))) (avds_map (fun a => .int _) _)) (.list (.head _) .nil) ok.lay (by simp [PyData.canLay0, PyData.canLayAll0]) (Nat.le_trans ok.dep (by decide)) ?_
    rw [eqv_nil]
    walk_at "g"
    refine ⟨fun hb => ?_, fun hb => ?_⟩
    · cases i with
      | zero => simp at hb
      | succ i =>
        walk_at "g"
        refine ⟨plain_list (a := va) (.tail _ (.tail _ (.head _))), get_list_neg (a := va) (x := .int (vN xs i : Nat)) (.tail _ (.tail _ (.head _))) (by decide) (by rw [List.length_map, List.length_range]; omega) (by decide) ?_ ?_⟩
        · rw [List.length_map, List.length_range, show (-1 + ((i + 1 : Nat) : Int)).toNat = i by omega, List.getElem?_map, List.getElem?_range (Nat.lt_succ_self i)]; rfl
        walk_at "g"
        refine ⟨kpr_builtin, cal_append (xs := (List.range (i + 1)).map fun k => .int (vN xs k : Nat)) (.tail (.tail .head)) (by rw [sizeLine_eq]; simp; omega) ⟨rfl, ?_⟩⟩
        walk_at "g"
        refine fin [_] _ _ ?_ (sub_cons rfl (sub_cons rfl sub_nil))
        show _ = ((fN (scr4 xs 0) b4 (i + 1) + (vN xs i + 1) : Nat) : Int)
        omega
    · cases i with
      | succ i =>
        have : ((List.range (i + 1)).map fun k => PyData.int (vN xs k : Nat)) ≠ [] := by simp
        rw [decide_eq_false this] at hb
        cases hb
      | zero =>
        walk_at "g"
        refine ⟨kpr_builtin, cal_append (xs := (List.range 0).map fun k => .int (vN xs k : Nat)) (.tail (.tail .head)) (by rw [sizeLine_eq]; simp) ⟨rfl, ?_⟩⟩
        walk_at "g"
        refine fin [_] _ _ ?_ (sub_cons rfl (sub_cons rfl sub_nil))
        show _ = ((fN (scr4 xs 0) b4 0 : Nat) : Int)
        omega
  have hva : (va, AO.list ((List.range 4).map fun k => .int (vN xs k : Nat))) ∈ (fb, .list ((List.range 4).map fun i => .int (fN (scr4 xs 0) b4 i : Nat))) :: (va, .list ((List.range 4).map fun k => .int (vN xs k : Nat))) :: B := .tail _ (.head _)
  have hna := (List.mem_cons_of_mem (fb, AO.list ((List.range 4).map fun i => .int (fN (scr4 xs 0) b4 i : Nat))) (List.mem_cons_of_mem (va, AO.list ((List.range 4).map fun k => .int (vN xs k : Nat))) hna))
  have hsuf := (hsuf.cons (p := (va, AO.list ((List.range 4).map fun k => .int (vN xs k : Nat))))).cons (p := (fb, AO.list ((List.range 4).map fun i => .int (fN (scr4 xs 0) b4 i : Nat))))
  generalize ((fb, AO.list ((List.range 4).map fun i => .int (fN (scr4 xs 0) b4 i : Nat))) :: (va, .list ((List.range 4).map fun k => .int (vN xs k : Nat))) :: B) = B1 at hva hna hsuf ⊢
  walk_at "g"
  refine ⟨by rw [sizeLine_eq]; simp, fun ra => ?_⟩
  walk_at "g"
  refine ex_for ?_ (fun _ _ => rfl)
  refine ev_calG W 70 (by kernel_rfl!) ?_
  walk_at "g"
  refine ⟨plain_list (a := na) (.tail _ hna), get_list (a := na) (.tail _ hna) (by decide) (by decide) (at4 (fun k => AV.int (scr4 xs k)) (i := 1) (by decide)) ?_⟩
  walk_at "g"
  refine ⟨by rw [sizeLine_eq]; simp, fun bb => ?_⟩
  walk_at "g"
  refine cal_of (fig W (bases := b16) (by decide) (by decide) (.head _) fun fc => ?_)
  rw [figs_list (by decide), show b16.length = 4 from rfl]
  refine ⟨_, _, mk_list (.name _ _) (xs := (List.range 4).map fun i => .int (fN (scr4 xs 1) b16 i : Nat)) (a := fc) (.head _), (fun p hp => by rw [List.mem_singleton.mp hp]; exact .head _), ?_⟩
  generalize hFC : (fc, AO.list ((List.range 4).map fun i => .int (fN (scr4 xs 1) b16 i : Nat))) = FC
  refine for_sub (σ' := FC :: (ra, .list []) :: B1) (for_ind2 (ι := List (Nat × Addr)) (L := fun _ => [("rule", .ref ra), ("values", .ref va), ("numbers", .ref na)]) (S := fun rs => rs.map (rowD xs) ++ FC :: (ra, .list (rs.reverse.map fun r => .ref r.2)) :: B1) (g := fun i => .int (fN (scr4 xs 1) b16 i : Nat)) (I := fun ys rs => rs.reverse.map (·.1) ++ ys = List.range 4 ∧ ∀ y ∈ ys, y < 4) ?_ ?_ ?_ (List.range 4) [] ⟨rfl, fun y hy => List.mem_range.mp hy⟩) (sub_cons rfl (sub_cons rfl (sub_cons rfl sub_nil))) (.cons₂ _ (.cons _ (.refl _))) (fun p hp => by rw [List.mem_singleton.mp hp]; exact .head _)
  · intro rs p hp; rw [List.mem_singleton.mp hp]; exact List.mem_append_right _ (.head _)
  · rintro i ys rs P' A hA ⟨h1, h2⟩
    have hi := h2 i (.head _)
    have hlen := congrArg List.length h1
    simp only [List.length_append, List.length_map, List.length_reverse, List.length_cons, List.length_range] at hlen
    have hb16 := (fN_eq (x := scr4 xs 1) (bs := b16) (by decide) (at4x hi).2).2
    generalize hFb : fN (scr4 xs 1) b16 i = fb1 at *
    walk_at "g"
    refine ⟨_, _, gm_append (xs := rs.reverse.map fun r => .ref r.2) (a := ra) (List.mem_append_right _ (.tail _ (.head _))), ?_⟩
    walk_at "g"
    refine cal_range1 fun rg og hog => ?_
    refine ⟨_, _, mk_range (.name _ _) (.head _) hog (by decide) (by decide) (by decide) (by decide), (fun p hp => by cases hp), fun D => ?_⟩
    rw [show intsFrom 0 ((4 : Int) - 0).toNat = (List.range 4).map fun n : Nat => AV.int n from rfl]
    refine cmp_drop (σ' := (D, .list []) :: (rs.map (rowD xs) ++ FC :: (ra, .list (rs.reverse.map fun r => .ref r.2)) :: B1)) ?_ (.cons₂ _ (.cons _ (.refl _))) (fun p hp => by cases hp)
    refine cmp_sub (cmp_indF (ι := List Nat) (L := [("bits", .int (fb1 : Nat))]) (S := fun js => (D, .list (js.map fun j : Nat => .int j)) :: (rs.map (rowD xs) ++ FC :: (ra, .list (rs.reverse.map fun r => .ref r.2)) :: B1)) (g := fun n : Nat => .int n) (I := fun zs js => js ++ zs.filter (bit fb1) = (List.range 4).filter (bit fb1) ∧ ∀ z ∈ zs, z < 4) ?_ ?_ ?_ (List.range 4) [] ⟨rfl, fun y hy => List.mem_range.mp hy⟩) (sub_cons (by kernel_rfl!) sub_nil)
    · intro _ p hp; cases hp
    · rintro z zs js A₂ B₂ hC hD ⟨g1, g2⟩
      have hz := g2 z (.head _)
      walk_at "g"
      refine ⟨sub_cons rfl sub_nil, ?_⟩
      walk_at "g"
      refine op_pow2 hz ?_
      refine op_fdiv (by have := Nat.two_pow_pos z; omega) (by have : 2 ^ z < 2 ^ 4 := Nat.pow_lt_pow_right (by decide) hz; omega) ?_
      walk_at "g"
      refine op_mod (by decide) ?_
      walk_at "g"
      rw [bit_int]
      refine ⟨fun hb => ?_, fun hb => ?_⟩
      · walk_at "g"
        rw [List.filter_cons_of_pos hb] at g1
        have hjl := congrArg List.length g1
        have hfl := List.length_filter_le (bit fb1) (List.range 4)
        rw [List.length_range] at hfl
        rw [List.length_append] at hjl
        refine hC _ (js.map fun j : Nat => .int j) _ (js ++ [z]) ?_ (by rw [sizeLine_eq, List.length_map]; omega) ⟨by rw [← g1]; simp, fun y hy => g2 y (.tail _ hy)⟩
        rw [List.map_append]
        exact .head
      · refine hD js ⟨?_, fun y hy => g2 y (.tail _ hy)⟩
        rw [List.filter_cons_of_neg (by rw [hb]; decide)] at g1
        exact g1
    · rintro js ⟨g1, _⟩
      rw [List.filter_nil, List.append_nil] at g1
      subst g1
      walk_at "g"
      refine ⟨kpr_builtin, cal_append (xs := rs.reverse.map fun r => .ref r.2) (.tail (At.app2 (.tail .head))) (by rw [sizeLine_eq, List.length_map, List.length_reverse]; omega) ⟨rfl, ?_⟩⟩
      walk_at "g"
      refine hA ((i, D) :: rs) _ _ ⟨by rw [← h1]; simp, fun y hy => h2 y (.tail _ hy)⟩ (sub_cons rfl (sub_cons rfl (sub_cons rfl sub_nil))) ?_
      simp only [List.map_cons, List.reverse_cons, List.map_append, List.map_nil]
      have e : rowD xs (i, D) = (D, .list (((List.range 4).filter (bit fb1)).map fun j : Nat => .int j)) := by rw [← hFb]; rfl
      rw [e]
      exact .refl _
  rintro rs ⟨h1, _⟩
  rw [List.append_nil] at h1
  obtain ⟨row, hrow⟩ := fun_of h1
  have hrows : ∀ k, k < 4 → rowD xs (k, row k) ∈ rs.map (rowD xs) := fun k hk => List.mem_map_of_mem (List.mem_reverse.mp (hrow ▸ List.mem_map_of_mem (f := fun i => (i, row i)) (List.mem_range.mpr hk)))
  have T : RuleS (rs.map (rowD xs) ++ FC :: (ra, .list (rs.reverse.map fun r => .ref r.2)) :: B1) va ra row (vN xs) (rN xs) := by
    refine ⟨List.mem_append_right _ (.tail _ (.tail _ hva)), List.mem_append_right _ (.tail _ ?_), fun k hk => List.mem_append_left _ (hrows k hk)⟩
    rw [hrow, List.map_map]
    exact .head _
  have hna := (List.mem_append_right (rs.map (rowD xs)) (List.mem_cons_of_mem FC (List.mem_cons_of_mem (ra, AO.list (rs.reverse.map fun r => .ref r.2)) hna)))
  have hsuf : Suf σ (rs.map (rowD xs) ++ FC :: (ra, .list (rs.reverse.map fun r => .ref r.2)) :: B1) := .app (.cons (.cons hsuf))
  generalize (rs.map (rowD xs) ++ FC :: (ra, AO.list (rs.reverse.map fun r => .ref r.2)) :: B1) = B2 at T hna hsuf ⊢
  walk_at "g"
  refine ev_calG W 70 (by kernel_rfl!) ?_
  walk_at "g"
  refine ⟨plain_list (a := na) hna, get_list (a := na) hna (by decide) (by decide) (at4 (fun k => AV.int (scr4 xs k)) (i := 2) (by decide)) ?_⟩
  walk_at "g"
  refine ⟨by rw [sizeLine_eq]; simp, fun u1 => ?_⟩
  walk_at "g"
  refine ⟨by rw [sizeLine_eq]; simp, fun u2 => ?_⟩
  walk_at "g"
  refine op_mul_list (.head _) (by decide) (by decide) (by decide) fun u3 => ?_
  refine op_add_list (.tail _ (.tail _ (.head _))) (.head _) (by rw [sizeLine_eq]; decide) fun u4 => ?_
  walk_at "g"
  refine cal_of (fig W (bases := bD) (by decide) (by decide) (.head _) fun da => ?_)
  rw [figs_list (by decide), show bD.length = 12 from rfl]
  walk_at "g"
  refine ⟨by rw [sizeLine_eq]; simp, fun ssa => ?_⟩
  have hsub : ∀ p ∈ B2, p ∈ (da, AO.list ((List.range 12).map fun i => .int (fN (scr4 xs 2) bD i : Nat))) :: (u4, .list (bD.map AV.int)) :: (u3, .list (List.replicate (10 : Int).toNat [AV.int 4]).flatten) :: (u2, .list [AV.int 4]) :: (u1, .list [AV.int 15, .int 15]) :: B2 := fun p hp => .tail _ (.tail _ (.tail _ (.tail _ (.tail _ hp))))
  have hda : (da, AO.list ((List.range 12).map fun i => .int (fN (scr4 xs 2) bD i : Nat))) ∈ (da, AO.list ((List.range 12).map fun i => .int (fN (scr4 xs 2) bD i : Nat))) :: (u4, .list (bD.map AV.int)) :: (u3, .list (List.replicate (10 : Int).toNat [AV.int 4]).flatten) :: (u2, .list [AV.int 4]) :: (u1, .list [AV.int 15, .int 15]) :: B2 := .head _
  have hsuf : Suf σ ((da, AO.list ((List.range 12).map fun i => .int (fN (scr4 xs 2) bD i : Nat))) :: (u4, .list (bD.map AV.int)) :: (u3, .list (List.replicate (10 : Int).toNat [AV.int 4]).flatten) :: (u2, .list [AV.int 4]) :: (u1, .list [AV.int 15, .int 15]) :: B2) := .cons (.cons (.cons (.cons (.cons hsuf))))
  have T := T.mono hsub
  have hna := hsub _ hna
  clear hsub
  generalize ((da, AO.list ((List.range 12).map fun i => .int (fN (scr4 xs 2) bD i : Nat))) :: (u4, .list (bD.map AV.int)) :: (u3, .list (List.replicate (10 : Int).toNat [AV.int 4]).flatten) :: (u2, .list [AV.int 4]) :: (u1, .list [AV.int 15, .int 15]) :: B2) = B3 at T hna hsuf hda ⊢
  walk_at "g"
  refine ex_for ?_ (fun _ _ => rfl)
  walk_at "g"
  refine ⟨_, rfl, plain_list (a := da) (.tail _ hda), slc_list (a := da) (.tail _ hda) (by rw [sizeLine_eq]; simp) fun ea => ?_⟩
  rw [show pick ((List.range 12).map fun i => AV.int (fN (scr4 xs 2) bD i : Nat)) none (some 2) = (List.range 2).map fun i => AV.int (fN (scr4 xs 2) bD i : Nat) from rfl]
  refine ⟨_, _, mk_list (.name _ _) (xs := (List.range 2).map fun i => .int (fN (scr4 xs 2) bD i : Nat)) (a := ea) (.head _), (fun p hp => by rw [List.mem_singleton.mp hp]; exact .head _), ?_⟩
  generalize hEA : (ea, AO.list ((List.range 2).map fun i => .int (fN (scr4 xs 2) bD i : Nat))) = EA
  refine for_sub (σ' := EA :: (ssa, .list []) :: B3) (for_ind2 (ι := List (Nat × Addr)) (L := fun _ => [("starts", .ref ssa), ("rule", .ref ra), ("values", .ref va), ("numbers", .ref na), ("drawn", .ref da)]) (S := fun rs => rs.map (staD xs) ++ EA :: (ssa, .list (rs.reverse.map fun r => .ref r.2)) :: B3) (g := fun i => .int (fN (scr4 xs 2) bD i : Nat)) (I := fun ys rs => rs.reverse.map (·.1) ++ ys = List.range 2 ∧ ∀ y ∈ ys, y < 2) ?_ ?_ ?_ (List.range 2) [] ⟨rfl, fun y hy => List.mem_range.mp hy⟩) (sub_cons rfl (sub_cons rfl (sub_cons rfl (sub_cons rfl (sub_cons rfl sub_nil))))) (.refl _) (fun p hp => by rw [List.mem_singleton.mp hp]; exact .head _)
  · intro rs p hp; rw [List.mem_singleton.mp hp]; exact List.mem_append_right _ (.head _)
  · rintro i ys rs P' A hA ⟨h1, h2⟩
    have hi := h2 i (.head _)
    have hlen := congrArg List.length h1
    simp only [List.length_append, List.length_map, List.length_reverse, List.length_cons, List.length_range] at hlen
    generalize hFb : fN (scr4 xs 2) bD i = fb1 at *
    walk_at "g"
    refine ⟨_, _, gm_append (xs := rs.reverse.map fun r => .ref r.2) (a := ssa) (List.mem_append_right _ (.tail _ (.head _))), ?_⟩
    walk_at "g"
    refine cal_range1 fun rg og hog => ?_
    refine ⟨_, _, mk_range (.name _ _) (.head _) hog (by decide) (by decide) (by decide) (by decide), (fun p hp => by cases hp), fun D => ?_⟩
    rw [show intsFrom 0 ((4 : Int) - 0).toNat = (List.range 4).map fun n : Nat => AV.int n from rfl]
    refine cmp_drop (σ' := (D, .list []) :: (rs.map (staD xs) ++ EA :: (ssa, .list (rs.reverse.map fun r => .ref r.2)) :: B3)) ?_ (.cons₂ _ (.cons _ (.refl _))) (fun p hp => by cases hp)
    generalize hpp : (fun j => bit (fb1 + 1) j && decide (0 < vN xs j)) = pp1
    have hppj : ∀ j, pp1 j = (bit (fb1 + 1) j && decide (0 < vN xs j)) := fun j => by rw [← hpp]
    refine cmp_sub (cmp_indF (ι := List Nat) (L := [("bits", .int (fb1 : Nat)), ("values", .ref va)]) (S := fun js => (D, .list (js.map fun j : Nat => .int j)) :: (rs.map (staD xs) ++ EA :: (ssa, .list (rs.reverse.map fun r => .ref r.2)) :: B3)) (g := fun n : Nat => .int n) (I := fun zs js => js ++ zs.filter pp1 = (List.range 4).filter pp1 ∧ ∀ z ∈ zs, z < 4) ?_ ?_ ?_ (List.range 4) [] ⟨rfl, fun y hy => List.mem_range.mp hy⟩) (sub_cons (by kernel_rfl!) (sub_cons (by kernel_rfl!) sub_nil))
    · intro _ p hp; cases hp
    · rintro z zs js A₂ B₂ hC hD ⟨g1, g2⟩
      have hz := g2 z (.head _)
      have hno : pp1 z = false → B₂ ((D, .list (js.map fun j : Nat => .int j)) :: (rs.map (staD xs) ++ EA :: (ssa, .list (rs.reverse.map fun r => .ref r.2)) :: B3)) := fun hb => by
        refine hD js ⟨?_, fun y hy => g2 y (.tail _ hy)⟩
        rw [List.filter_cons_of_neg (by rw [hb]; decide)] at g1
        exact g1
      walk_at "g"
      refine ⟨sub_cons rfl (sub_cons rfl sub_nil), ?_⟩
      walk_at "g"
      refine op_pow2 hz ?_
      refine op_fdiv (by have := Nat.two_pow_pos z; omega) (by have : 2 ^ z < 2 ^ 4 := Nat.pow_lt_pow_right (by decide) hz; omega) ?_
      walk_at "g"
      refine op_mod (by decide) ?_
      walk_at "g"
      rw [show ((fb1 : Int) + 1) = ((fb1 + 1 : Nat) : Int) from rfl, bit_int]
      refine ⟨fun hb => ?_, fun hb => ?_⟩
      · walk_at "g"
        have hva : (va, AO.list ((List.range 4).map fun k => .int (vN xs k : Nat))) ∈ (D, .list (js.map fun j : Nat => .int j)) :: (rs.map (staD xs) ++ EA :: (ssa, .list (rs.reverse.map fun r => .ref r.2)) :: B3) := .tail _ (List.mem_append_right _ (.tail _ (.tail _ T.va)))
        refine ⟨plain_list hva, get_list hva (by omega) (by omega) (at4 (fun k => AV.int (vN xs k : Nat)) hz) ?_⟩
        walk_at "g"
        refine ⟨fun hc => ?_, fun hc => ?_⟩
        · have hc : 0 < vN xs z := by have := of_decide_eq_true hc; omega
          have hp : pp1 z = true := by rw [hppj, hb, decide_eq_true hc]; rfl
          walk_at "g"
          refine ⟨fun _ => ?_, fun h => nomatch h⟩
          walk_at "g"
          rw [List.filter_cons_of_pos hp] at g1
          have hjl := congrArg List.length g1
          have hfl := List.length_filter_le pp1 (List.range 4)
          rw [List.length_range] at hfl
          rw [List.length_append] at hjl
          refine hC _ (js.map fun j : Nat => .int j) _ (js ++ [z]) ?_ (by rw [sizeLine_eq, List.length_map]; omega) ⟨by rw [← g1]; simp, fun y hy => g2 y (.tail _ hy)⟩
          rw [List.map_append]
          exact .head
        · have hc : ¬ 0 < vN xs z := by have := of_decide_eq_false hc; omega
          refine ⟨fun h => (nomatch h), fun _ => ?_⟩
          exact hno (by rw [hppj, hb, decide_eq_false hc]; rfl)
      · refine ⟨fun h => (nomatch h), fun _ => ?_⟩
        exact hno (by rw [hppj, hb]; rfl)
    · rintro js ⟨g1, _⟩
      rw [List.filter_nil, List.append_nil] at g1
      subst g1
      walk_at "g"
      refine ⟨kpr_builtin, cal_append (xs := rs.reverse.map fun r => .ref r.2) (.tail (At.app2 (.tail .head))) (by rw [sizeLine_eq, List.length_map, List.length_reverse]; omega) ⟨rfl, ?_⟩⟩
      walk_at "g"
      refine hA ((i, D) :: rs) _ _ ⟨by rw [← h1]; simp, fun y hy => h2 y (.tail _ hy)⟩ (sub_cons rfl (sub_cons rfl (sub_cons rfl (sub_cons rfl (sub_cons rfl sub_nil))))) ?_
      simp only [List.map_cons, List.reverse_cons, List.map_append, List.map_nil]
      have e : staD xs (i, D) = (D, .list (((List.range 4).filter pp1).map fun j : Nat => .int j)) := by rw [← hpp, ← hFb]; rfl
      rw [e]
      exact .refl _
  rintro ss ⟨h3, _⟩
  rw [List.append_nil] at h3
  obtain ⟨st, hst⟩ := fun_of h3
  have hsts : ∀ k, k < 2 → staD xs (k, st k) ∈ ss.map (staD xs) := fun k hk => List.mem_map_of_mem (List.mem_reverse.mp (hst ▸ List.mem_map_of_mem (f := fun i => (i, st i)) (List.mem_range.mpr hk)))
  have hss : (ssa, AO.list ((List.range 2).map fun p => .ref (st p))) ∈ ss.map (staD xs) ++ EA :: (ssa, .list (ss.reverse.map fun r => .ref r.2)) :: B3 := by
    refine List.mem_append_right _ (.tail _ ?_)
    rw [hst, List.map_map]
    exact .head _
  have hs4 : ∀ p, p < 2 → (st p, AO.list ((sN xs p).map fun j : Nat => .int j)) ∈ ss.map (staD xs) ++ EA :: (ssa, .list (ss.reverse.map fun r => .ref r.2)) :: B3 := fun p hp => List.mem_append_left _ (hsts p hp)
  have hsub : ∀ p ∈ B3, p ∈ ss.map (staD xs) ++ EA :: (ssa, .list (ss.reverse.map fun r => .ref r.2)) :: B3 := fun p hp => List.mem_append_right _ (.tail _ (.tail _ hp))
  have T := T.mono hsub
  have hna := hsub _ hna
  have hda := hsub _ hda
  have hsuf : Suf σ (ss.map (staD xs) ++ EA :: (ssa, .list (ss.reverse.map fun r => .ref r.2)) :: B3) := .app (.cons (.cons hsuf))
  clear hsub
  generalize (ss.map (staD xs) ++ EA :: (ssa, AO.list (ss.reverse.map fun r => .ref r.2)) :: B3) = B4 at T hna hda hss hs4 hsuf ⊢
  walk_at "g"
  refine ⟨_, rfl, plain_list (a := da) hda, slc_list (a := da) hda (by rw [sizeLine_eq]; simp) fun ya => ?_⟩
  rw [show pick ((List.range 12).map fun i => AV.int (fN (scr4 xs 2) bD i : Nat)) (some 2) none = (List.range 10).map fun i => AV.int (yN xs i : Nat) from rfl]
  walk_at "g"
  refine ev_calG W 70 (by kernel_rfl!) ?_
  walk_at "g"
  refine ⟨plain_list (a := na) (.tail _ hna), get_list (a := na) (.tail _ hna) (by decide) (by decide) (at4 (fun k => AV.int (scr4 xs k)) (i := 3) (by decide)) ?_⟩
  walk_at "g"
  refine ⟨by rw [sizeLine_eq]; simp, fun w1 => ?_⟩
  walk_at "g"
  refine op_mul_list (.head _) (by decide) (by decide) (by decide) fun w2 => ?_
  walk_at "g"
  refine cal_of (fig W (bases := bG) (by decide) (by decide) (.head _) fun ga => ?_)
  rw [figs_list (by decide), show bG.length = 10 from rfl]
  walk_at "g"
  refine ⟨by rw [sizeLine_eq]; simp, ?_⟩
  walk_at "g"
  refine ⟨_, .refl _, q va ra ssa ya ga row st _ (.cons (.cons (.cons (.cons hsuf)))) (T.mono fun p hp => .tail _ (.tail _ (.tail _ (.tail _ hp)))) (.tail _ (.tail _ (.tail _ (.tail _ hss)))) (fun p hp => .tail _ (.tail _ (.tail _ (.tail _ (hs4 p hp))))) (.tail _ (.tail _ (.tail _ (.head _)))) (.head _)⟩
theorem snocW {α : Type} (g : Nat → α) (i : Nat) : (List.range (i + 1)).map g = (List.range i).map g ++ [g i] := by rw [List.range_succ, List.map_append]; rfl
theorem ok_words (X : (KK pp).In Γ.hB) : FnOk Γ 92 (fdOf (KK pp) 92) (bodyOf (fdOf (KK pp) 92)) ["values", "rule", "starts"] := fnOkB X (by kernel_rfl!) (bind3 fun _ _ _ => by kernel_rfl!)
/-- the ten words of a rule's text -/
noncomputable def wN (V : Nat → Nat) (R S : Nat → List Nat) (i : Nat) : List Nat := if i < 8 then (if i % 2 = 0 then [65 + V (i / 2)] else ltr V (R (i / 2))) else ltr V (S (i - 8))
theorem wN_even (V : Nat → Nat) (R S : Nat → List Nat) {i : Nat} (h : i < 4) : wN V R S (2 * i) = [65 + V i] := by
  unfold wN
  rw [if_pos (by omega), if_pos (by omega), show 2 * i / 2 = i by omega]
theorem wN_odd (V : Nat → Nat) (R S : Nat → List Nat) {i : Nat} (h : i < 4) : wN V R S (2 * i + 1) = ltr V (R i) := by
  unfold wN
  rw [if_pos (by omega), if_neg (by omega), show (2 * i + 1) / 2 = i by omega]
theorem wN_start (V : Nat → Nat) (R S : Nat → List Nat) (p : Nat) : wN V R S (8 + p) = ltr V (S p) := by
  unfold wN
  rw [if_neg (by omega), show 8 + p - 8 = p by omega]
theorem sum_ones (V : Nat → Nat) : ∀ l : List Nat, ((l.map fun j => ofL [65 + V j]).map (·.length)).sum = l.length
  | [] => rfl
  | c :: l => by simp only [List.map_cons, List.sum_cons, sum_ones V l, ofL_length, List.length_cons, List.length_nil]; omega
theorem glued_ltr (V : Nat → Nat) (l : List Nat) : Builtin.Str.glued (Str.ofString "") (l.map fun j => ofL [65 + V j]) = ofL (ltr V l) := by
  have := glued_ofL (l.map fun j => [65 + V j])
  rw [List.map_map] at this
  have e : ∀ l : List Nat, (l.map fun j => [65 + V j]).flatten = ltr V l := fun l => by
    induction l with
    | nil => rfl
    | cons a l ih => rw [List.map_cons, List.flatten_cons, ih]; rfl
  rw [e] at this
  exact this
theorem words (W : Wd Γ (KK pp) mg mb) {va ra ssa : Addr} {row st : Nat → Addr} {V : Nat → Nat} {R S : Nat → List Nat} (F : Pl V R) (T : RuleS σ va ra row V R) (hs : (ssa, .list ((List.range 2).map fun p => .ref (st p))) ∈ σ) (hS : ∀ p, p < 2 → (st p, .list ((S p).map fun j : Nat => .int j)) ∈ σ) (hS4 : ∀ p, p < 2 → ∀ j ∈ S p, j < 4) (hSl : ∀ p, p < 2 → (S p).length ≤ 4)
    {P : AV → Sto → Prop} (q : ∀ wa, P (.ref wa) ((wa, .list ((List.range 10).map fun i => .str (ofL (wN V R S i)))) :: σ)) : CalC Γ (k + 1) (.ref 92) [.ref va, .ref ra, .ref ssa] σ P := by
  refine fn_cellsB W.ok (ok_words W.X) rfl (by kernel_rfl!) ?_
  refine exs_cons ?_
  walk_at "g"
  refine ⟨_, _, mk_list (.name _ _) (xs := (List.range 4).map fun k => .int (V k : Nat)) (a := va) T.va, (fun p hp => by rw [List.mem_singleton.mp hp]; exact T.va), fun la => ?_⟩
  refine cmp_sub (cmp_n 4 [] (fun i => (la, .list ((List.range i).map fun k => .str (ofL [65 + V k]))) :: σ) (fun k => .int (V k : Nat)) (fun i p hp => by rw [List.mem_singleton.mp hp]; exact .tail _ T.va) ?_ ?_) sub_nil
  · intro i A hi hC
    have hv := F.lt i hi
    walk_at "g"
    refine ⟨sub_nil, ?_⟩
    walk_at "g"
    refine ev_calB W "chr" (by kernel_rfl!) ?_
    walk_at "g"
    refine cal_chr (by omega) (by omega) ?_
    rw [show ((65 : Int) + (V i : Nat)).toNat = 65 + V i by omega]
    refine hC _ ((List.range i).map fun k => .str (ofL [65 + V k])) _ ?_ (by rw [sizeLine_eq]; simp; omega)
    rw [snocW (fun k => AV.str (ofL [65 + V k])) i]
    exact .head
  walk_at "g"
  refine ⟨by rw [sizeLine_eq]; simp, fun wa => ?_⟩
  walk_at "g"
  refine ex_for ?_ (fun _ _ => rfl)
  walk_at "g"
  refine cal_range1 fun rg og hog => ?_
  refine ⟨_, _, mk_range (.name _ _) (.head _) hog (by decide) (by decide) (by decide) (by decide), (fun p hp => by cases hp), ?_⟩
  rw [show intsFrom 0 ((4 : Int) - 0).toNat = (List.range 4).map fun n : Nat => AV.int n from rfl]
  have hσ : ∀ τ : Sto, ∀ p ∈ σ, p ∈ τ ++ σ := fun _ p hp => List.mem_append_right _ hp
  -- the letters of a list of figures, joined
  refine for_sub (σ' := (wa, .list []) :: (la, .list ((List.range 4).map fun k => .str (ofL [65 + V k]))) :: σ) (for_n 4 [("letters", .ref la), ("words", .ref wa), ("rule", .ref ra), ("starts", .ref ssa)] (fun i => (wa, .list ((List.range (2 * i)).map fun i => .str (ofL (wN V R S i)))) :: (la, .list ((List.range 4).map fun k => .str (ofL [65 + V k]))) :: σ) (fun n => .int (n : Nat)) (fun i p hp => by cases hp) ?_ ?_) (sub_cons rfl (sub_cons rfl (sub_cons rfl (sub_cons rfl sub_nil)))) (.cons _ (.refl _)) (fun p hp => by cases hp)
  · intro i P'' A' hi hD
    walk_at "g"
    refine ⟨_, _, gm_append (xs := (List.range (2 * i)).map fun i => .str (ofL (wN V R S i))) (a := wa) (.head _), ?_⟩
    walk_at "g"
    refine ⟨plain_list (a := la) (.tail _ (.head _)), get_list (a := la) (.tail _ (.head _)) (by omega) (by omega) (at4 (fun k => AV.str (ofL [65 + V k])) hi) ?_⟩
    walk_at "g"
    refine ⟨kpr_builtin, cal_append (xs := (List.range (2 * i)).map fun i => .str (ofL (wN V R S i))) .head (by rw [sizeLine_eq]; simp; omega) ⟨rfl, ?_⟩⟩
    have ea : ((List.range (2 * i)).map fun i => AV.str (ofL (wN V R S i))) ++ [.str (ofL [65 + V i])] = (List.range (2 * i + 1)).map fun i => AV.str (ofL (wN V R S i)) := by
      rw [snocW (fun i => AV.str (ofL (wN V R S i))) (2 * i), wN_even V R S hi]
    rw [ea]
    walk_at "g"
    refine ⟨_, _, gm_append (xs := (List.range (2 * i + 1)).map fun i => .str (ofL (wN V R S i))) (a := wa) (.head _), ?_⟩
    walk_at "g"
    refine ⟨_, _, gm_join, ?_⟩
    walk_at "g"
    refine ⟨plain_list (a := ra) (.tail _ (.tail _ T.ra)), get_list (a := ra) (.tail _ (.tail _ T.ra)) (by omega) (by omega) (at4 (fun k => AV.ref (row k)) hi) ?_⟩
    have hln := F.len i
    have hc0 : (row i, AO.list ((R i).map fun j : Nat => AV.int j)) ∈ σ := T.rw i hi
    refine ⟨_, _, mk_list (.name _ _) (xs := (R i).map fun j : Nat => .int j) (a := row i) (.tail _ (.tail _ hc0)), (fun p hp => by rw [List.mem_singleton.mp hp]; exact .tail _ (.tail _ hc0)), fun D => ?_⟩
    refine cmp_sub (cmp_ind2 (ι := List Nat) (L := [("letters", .ref la)]) (S := fun js => (D, .list ((js.map fun j => ofL [65 + V j]).map .str)) :: (wa, .list ((List.range (2 * i + 1)).map fun i => .str (ofL (wN V R S i)))) :: (la, .list ((List.range 4).map fun k => .str (ofL [65 + V k]))) :: σ) (g := fun j : Nat => .int j) (I := fun ys js => js ++ ys = R i) ?_ ?_ ?_ (R i) [] rfl) (sub_cons (by kernel_rfl!) sub_nil)
    · intro _ p hp; rw [List.mem_singleton.mp hp]; exact .tail _ (.tail _ (.tail _ hc0))
    · intro j ys js A hF hI
      have hj : j < 4 := F.row i j (by rw [← hI]; exact List.mem_append_right _ (.head _))
      have hjl := congrArg List.length hI
      rw [List.length_append, List.length_cons] at hjl
      walk_at "g"
      refine ⟨sub_cons rfl sub_nil, ?_⟩
      walk_at "g"
      refine ⟨plain_list (a := la) (.tail _ (.tail _ (.head _))), get_list (a := la) (.tail _ (.tail _ (.head _))) (by omega) (by omega) (at4 (fun k => AV.str (ofL [65 + V k])) hj) ?_⟩
      exact hF _ ((js.map fun j => ofL [65 + V j]).map .str) _ _ (js ++ [j]) .head (by rw [sizeLine_eq, List.length_map, List.length_map]; omega) (by rw [← hI]; simp) (by rw [List.map_append, List.map_append]; rfl)
    rintro js hI
    rw [List.append_nil] at hI
    subst hI
    walk_at "g"
    refine ⟨kpr_builtin, cal_join (.head _) (by rw [sum_ones, List.length_map, show (Str.ofString "").length = 0 from by kernel_rfl!]; omega) ?_⟩
    rw [glued_ltr]
    walk_at "g"
    refine ⟨kpr_builtin, cal_append (xs := (List.range (2 * i + 1)).map fun i => .str (ofL (wN V R S i))) (.tail .head) (by rw [sizeLine_eq]; simp; omega) ⟨rfl, ?_⟩⟩
    walk_at "g"
    refine hD _ _ (sub_cons rfl (sub_cons rfl (sub_cons rfl (sub_cons rfl sub_nil)))) ?_
    rw [show 2 * (i + 1) = 2 * i + 1 + 1 by omega, snocW (fun i => AV.str (ofL (wN V R S i))) (2 * i + 1), wN_odd V R S hi]
    exact .cons _ (.refl _)
  walk_at "g"
  refine ex_for ?_ (fun _ _ => rfl)
  walk_at "g"
  refine ⟨_, _, mk_list (.name _ _) (xs := (List.range 2).map fun p => .ref (st p)) (a := ssa) (.tail _ (.tail _ hs)), (fun p hp => by rw [List.mem_singleton.mp hp]; exact .tail _ (.tail _ hs)), ?_⟩
  refine for_sub (for_n 2 [("letters", .ref la), ("words", .ref wa)] (fun i => (wa, .list ((List.range (8 + i)).map fun i => .str (ofL (wN V R S i)))) :: (la, .list ((List.range 4).map fun k => .str (ofL [65 + V k]))) :: σ) (fun p => .ref (st p)) (fun i p hp => by rw [List.mem_singleton.mp hp]; exact .tail _ (.tail _ hs)) ?_ ?_) (sub_cons rfl (sub_cons rfl sub_nil)) (.refl _) (fun p hp => by rw [List.mem_singleton.mp hp]; exact .tail _ (.tail _ hs))
  · intro i P'' A' hi hD
    walk_at "g"
    refine ⟨_, _, gm_append (xs := (List.range (8 + i)).map fun i => .str (ofL (wN V R S i))) (a := wa) (.head _), ?_⟩
    walk_at "g"
    refine ⟨_, _, gm_join, ?_⟩
    walk_at "g"
    have hln := hSl i hi
    have hc0 : (st i, AO.list ((S i).map fun j : Nat => AV.int j)) ∈ σ := hS i hi
    refine ⟨_, _, mk_list (.name _ _) (xs := (S i).map fun j : Nat => .int j) (a := st i) (.tail _ (.tail _ hc0)), (fun p hp => by rw [List.mem_singleton.mp hp]; exact .tail _ (.tail _ hc0)), fun D => ?_⟩
    refine cmp_sub (cmp_ind2 (ι := List Nat) (L := [("letters", .ref la)]) (S := fun js => (D, .list ((js.map fun j => ofL [65 + V j]).map .str)) :: (wa, .list ((List.range (8 + i)).map fun i => .str (ofL (wN V R S i)))) :: (la, .list ((List.range 4).map fun k => .str (ofL [65 + V k]))) :: σ) (g := fun j : Nat => .int j) (I := fun ys js => js ++ ys = S i) ?_ ?_ ?_ (S i) [] rfl) (sub_cons (by kernel_rfl!) sub_nil)
    · intro _ p hp; rw [List.mem_singleton.mp hp]; exact .tail _ (.tail _ (.tail _ hc0))
    · intro j ys js A hF hI
      have hj : j < 4 := hS4 i hi j (by rw [← hI]; exact List.mem_append_right _ (.head _))
      have hjl := congrArg List.length hI
      rw [List.length_append, List.length_cons] at hjl
      walk_at "g"
      refine ⟨sub_cons rfl sub_nil, ?_⟩
      walk_at "g"
      refine ⟨plain_list (a := la) (.tail _ (.tail _ (.head _))), get_list (a := la) (.tail _ (.tail _ (.head _))) (by omega) (by omega) (at4 (fun k => AV.str (ofL [65 + V k])) hj) ?_⟩
      exact hF _ ((js.map fun j => ofL [65 + V j]).map .str) _ _ (js ++ [j]) .head (by rw [sizeLine_eq, List.length_map, List.length_map]; omega) (by rw [← hI]; simp) (by rw [List.map_append, List.map_append]; rfl)
    rintro js hI
    rw [List.append_nil] at hI
    subst hI
    walk_at "g"
    refine ⟨kpr_builtin, cal_join (.head _) (by rw [sum_ones, List.length_map, show (Str.ofString "").length = 0 from by kernel_rfl!]; omega) ?_⟩
    rw [glued_ltr]
    walk_at "g"
    refine ⟨kpr_builtin, cal_append (xs := (List.range (8 + i)).map fun i => .str (ofL (wN V R S i))) (.tail .head) (by rw [sizeLine_eq]; simp; omega) ⟨rfl, ?_⟩⟩
    walk_at "g"
    refine hD _ _ (sub_cons rfl (sub_cons rfl sub_nil)) ?_
    rw [show 8 + (i + 1) = 8 + i + 1 by omega, snocW (fun i => AV.str (ofL (wN V R S i))) (8 + i), wN_start V R S i]
    exact .cons _ (.refl _)
  walk_at "g"
  exact ⟨_, .cons₂ _ (.cons _ (.refl _)), q wa⟩
theorem snocF {α : Type} (g : Nat → α) (i : Nat) : (List.range (i + 1)).map g = (List.range i).map g ++ [g i] := by rw [List.range_succ, List.map_append]; rfl
theorem ok_file (X : (KK pp).In Γ.hB) : FnOk Γ 99 (fdOf (KK pp) 99) (bodyOf (fdOf (KK pp) 99)) ["words", "ways", "gaps"] := fnOkB X (by kernel_rfl!) (bind3 fun _ _ _ => by kernel_rfl!)
/-- how a word is written: an empty one is quoted -/
noncomputable def wayE (w : Nat → List Nat) (y : Nat → Nat) (i : Nat) : Nat := if w i = [] ∧ y i % 2 = 0 then y i + 1 else y i
noncomputable def wdT (w : Nat → List Nat) (y : Nat → Nat) (i : Nat) : List Nat := wr (w i) (wayE w y i)
noncomputable def pcT (w : Nat → List Nat) (y g : Nat → Nat) (i : Nat) : List Nat := wdT w y i ++ sepN (g i)
noncomputable def upT (w : Nat → List Nat) (y g : Nat → Nat) (j : Nat) : List Nat := ((List.range j).map (pcT w y g)).flatten
noncomputable def spT (w : Nat → List Nat) (y g : Nat → Nat) (i : Nat) : Nat := (upT w y g i ++ wdT w y i).length + 1 - wayE w y i % 2
theorem wayE_lt {w : Nat → List Nat} {y : Nat → Nat} {i : Nat} (h : y i < 4) : wayE w y i < 4 := by
  unfold wayE; split
  · omega
  · exact h
theorem upT_succ (w : Nat → List Nat) (y g : Nat → Nat) (j : Nat) : upT w y g (j + 1) = upT w y g j ++ pcT w y g j := by simp [upT, List.range_succ]
theorem wdT_len {w : Nat → List Nat} {y : Nat → Nat} {i : Nat} (h : (w i).length ≤ 4) : (wdT w y i).length ≤ 10 := by
  have := wr_len (w i) (wayE w y i)
  unfold wdT; omega
theorem upT_len {w : Nat → List Nat} {y g : Nat → Nat} {n : Nat} (h : ∀ i, i < n → (w i).length ≤ 4) : ∀ j, j ≤ n → (upT w y g j).length ≤ 13 * j
  | 0, _ => by simp [upT]
  | j + 1, hj => by
    rw [upT_succ, List.length_append]
    have h1 := upT_len (y := y) (g := g) h j (by omega)
    have h2 := wdT_len (y := y) (h j (by omega))
    have h3 := sep_len (g j)
    unfold pcT; rw [List.length_append]; omega
theorem at10 {α : Type} (g : Nat → α) {i : Nat} (hi : i < 10) : ((List.range 10).map g)[((i : Nat) : Int).toNat]? = some (g i) := by
  rw [Int.toNat_natCast, List.getElem?_map, List.getElem?_range hi]; rfl
theorem str_empty (l : List Nat) : (ofL l == Str.ofString "") = decide (l = []) := by
  have e : Str.ofString "" = ofL [] := by kernel_rfl!
  rw [e]
  cases l with
  | nil => simp
  | cons a l =>
    rw [decide_eq_false (by simp)]
    exact beq_eq_false_iff_ne.mpr fun h => by have := ofL_inj h; cases this
theorem file (W : Wd Γ (KK pp) mg mb) {wa ya ga : Addr} {w : Nat → List Nat} {y g : Nat → Nat} (hw : (wa, .list ((List.range 10).map fun i => .str (ofL (w i)))) ∈ σ) (hy : (ya, .list ((List.range 10).map fun i => .int (y i : Nat))) ∈ σ) (hg : (ga, .list ((List.range 10).map fun i => .int (g i : Nat))) ∈ σ)
    (hwl : ∀ i, i < 10 → (w i).length ≤ 4) (hy4 : ∀ i, i < 10 → y i < 4) (hg4 : ∀ i, i < 10 → g i < 4) {P : AV → Sto → Prop} (q : ∀ sa, P (.tup [.str (ofL (upT w y g 10)), .ref sa]) ((sa, .list ((List.range 10).map fun i => .int (spT w y g i : Nat))) :: σ)) :
    CalC Γ (k + 2) (.ref 99) [.ref wa, .ref ya, .ref ga] σ P := by
  refine fn_defB W.ok (ok_file W.X) rfl (by kernel_rfl!) (by kernel_rfl!) ?_
  refine exs_cons ?_
  walk_at "g"
  refine ⟨by rw [sizeLine_eq]; simp, fun sa => ?_⟩
  walk_at "g"
  refine ex_for ?_ (fun _ _ => rfl)
  walk_at "g"
  refine cal_len_list (.tail _ hw) (by rw [sizeLine_eq]; simp) ?_
  walk_at "g"
  have h10 : (((List.range 10).map fun i => AV.str (ofL (w i))).length : Int) = 10 := by rw [List.length_map, List.length_range]; rfl
  rw [h10]
  refine cal_range1 fun rg og hog => ?_
  refine ⟨_, _, mk_range (.name _ _) (.head _) hog (by decide) (by decide) (by decide) (by decide), (fun p hp => by cases hp), ?_⟩
  rw [show intsFrom 0 ((10 : Int) - 0).toNat = (List.range 10).map fun n : Nat => AV.int n from rfl]
  refine for_sub (σ' := (sa, .list []) :: σ) (for_nL 10 (fun i => [("text", .str (ofL (upT w y g i))), ("spots", .ref sa), ("words", .ref wa), ("ways", .ref ya), ("gaps", .ref ga)]) (fun i => (sa, .list ((List.range i).map fun i => .int (spT w y g i : Nat))) :: σ) (fun n => .int (n : Nat)) (fun i p hp => by cases hp) ?_ ?_) (sub_cons rfl (sub_cons rfl (sub_cons rfl (sub_cons rfl (sub_cons rfl sub_nil))))) (.cons _ (.refl _)) (fun p hp => by cases hp)
  · intro i P' A hi hA
    have hwi := hwl i hi
    have hyi := hy4 i hi
    have hgi := hg4 i hi
    refine asg_name (.inl (by kernel_rfl!)) ?_
    refine exs_cons ?_
    walk_at "m"
    walk_at "m"
    walk_at "m"
    walk_at "m"
    refine ⟨plain_list (a := ya) (.tail _ hy), get_list (a := ya) (.tail _ hy) (by omega) (by omega) (at10 (fun i => AV.int (y i : Nat)) hi) ?_⟩
    refine asg_name (.inl (by kernel_rfl!)) ?_
    refine exs_join [("way", .int (wayE w y i : Nat)), ("k", .int (i : Nat)), ("text", .str (ofL (upT w y g i))), ("spots", .ref sa), ("words", .ref wa), ("ways", .ref ya), ("gaps", .ref ga)] ((sa, .list ((List.range i).map fun i => .int (spT w y g i : Nat))) :: σ) ?_ ?_
    · walk_at "g"
      refine ⟨plain_list (a := wa) (.tail _ hw), get_list (a := wa) (.tail _ hw) (by omega) (by omega) (at10 (fun i => AV.str (ofL (w i))) hi) ?_⟩
      walk_at "g"
      rw [str_empty]
      refine ⟨fun hb => ?_, fun hb => ?_⟩
      · have hb : w i = [] := of_decide_eq_true hb
        walk_at "g"
        refine op_mod (by decide) ?_
        walk_at "g"
        refine ⟨fun hc => ?_, fun hc => ?_⟩
        · have hc : y i % 2 = 0 := by have := of_decide_eq_true hc; omega
          walk_at "g"
          refine ⟨fun _ => ?_, fun h => nomatch h⟩
          walk_at "g"
          have ew : wayE w y i = y i + 1 := if_pos ⟨hb, hc⟩
          rw [ew]
          exact ⟨rfl, sub_cons rfl (sub_cons rfl (sub_cons rfl (sub_cons rfl (sub_cons rfl (sub_cons rfl (sub_cons rfl sub_nil)))))), .refl _⟩
        · have hc : ¬ y i % 2 = 0 := by have := of_decide_eq_false hc; omega
          
          refine ⟨fun h => (nomatch h), fun _ => ?_⟩
          walk_at "g"
          have ew : wayE w y i = y i := if_neg fun h => hc h.2
          rw [ew]
          exact ⟨rfl, sub_cons rfl (sub_cons rfl (sub_cons rfl (sub_cons rfl (sub_cons rfl (sub_cons rfl (sub_cons rfl sub_nil)))))), .refl _⟩
      · have hb : ¬ w i = [] := of_decide_eq_false hb
        refine ⟨fun h => (nomatch h), fun _ => ?_⟩
        walk_at "g"
        have ew : wayE w y i = y i := if_neg fun h => hb h.1
        rw [ew]
        exact ⟨rfl, sub_cons rfl (sub_cons rfl (sub_cons rfl (sub_cons rfl (sub_cons rfl (sub_cons rfl (sub_cons rfl sub_nil)))))), .refl _⟩
    · walk_at "g"
      refine ev_calG W 82 (by kernel_rfl!) ?_
      walk_at "g"
      refine ⟨plain_list (a := wa) (.tail _ hw), get_list (a := wa) (.tail _ hw) (by omega) (by omega) (at10 (fun i => AV.str (ofL (w i))) hi) ?_⟩
      walk_at "g"
      refine cal_of (written W (by omega) (wayE_lt hyi) ?_)
      have l1 := upT_len (y := y) (g := g) hwl i (by omega)
      have l2 := wdT_len (y := y) hwi
      have l3 := sep_len (g i)
      unfold wdT at l2
      refine op_add_str (by rw [ofL_length, ofL_length, sizeLine_eq]; omega) ?_
      rw [ofL_append]
      walk_at "g"
      refine ⟨_, _, gm_append (xs := (List.range i).map fun i => .int (spT w y g i : Nat)) (a := sa) (.head _), ?_⟩
      walk_at "g"
      refine cal_len_str (by rw [ofL_length, sizeLine_eq, List.length_append]; omega) ?_
      rw [ofL_length]
      walk_at "g"
      refine op_mod (by decide) ?_
      walk_at "g"
      refine ⟨kpr_builtin, cal_append (xs := (List.range i).map fun i => .int (spT w y g i : Nat)) .head (by rw [sizeLine_eq]; simp; omega) ⟨rfl, ?_⟩⟩
      have es : AV.int ((((upT w y g i ++ wr (w i) (wayE w y i)).length : Nat) : Int) + 1 - (wayE w y i : Nat) % 2) = .int (spT w y g i : Nat) := by
        congr 1
        unfold spT wdT
        omega
      rw [es, ← snocF (fun i => AV.int (spT w y g i : Nat)) i]
      walk_at "g"
      refine ⟨by rw [sizeLine_eq]; simp, fun la => ?_⟩
      walk_at "g"
      refine ⟨plain_list (a := ga) (.tail _ (.tail _ hg)), get_list (a := ga) (.tail _ (.tail _ hg)) (by omega) (by omega) (at10 (fun i => AV.int (g i : Nat)) hi) ?_⟩
      have hsep : ∀ v : Nat, v < 4 → ([.str (Str.ofString " "), .str (Str.ofString "\n"), .str (Str.ofString "\t"), .str (Str.ofString "\r\n ")] : List AV)[((v : Nat) : Int).toNat]? = some (.str (ofL (sepN v))) := by
        intro v hv
        match v, hv with
        | 0, _ => kernel_rfl!
        | 1, _ => kernel_rfl!
        | 2, _ => kernel_rfl!
        | 3, _ => kernel_rfl!
      refine ⟨plain_list (.head _), get_list (.head _) (by omega) (by omega) (hsep _ hgi) ?_⟩
      refine op_add_str (by simp only [ofL_length, sizeLine_eq, List.length_append]; omega) ?_
      rw [ofL_append]
      walk_at "g"
      refine hA _ _ (sub_cons ?_ (sub_cons rfl (sub_cons rfl (sub_cons rfl (sub_cons rfl sub_nil))))) (.cons _ (.refl _))
      rw [upT_succ]
      unfold pcT wdT
      rw [← List.append_assoc]
      rfl
  · walk_at "g"
    refine ⟨by rw [sizeLine_eq]; simp, ?_⟩
    walk_at "g"
    exact ⟨_, .refl _, q sa⟩
theorem ok_run (X : (KK pp).In Γ.hB) : FnOk Γ 106 (fdOf (KK pp) 106) (bodyOf (fdOf (KK pp) 106)) ["text", "many"] := fnOkB X (by kernel_rfl!) (bind2 fun _ _ => by kernel_rfl!)
theorem perm_run {cx cy pl x d pb ta : Addr × AO} {ρ r : Sto} : List.Perm (cx :: cy :: pl :: x :: d :: pb :: ta :: (ρ ++ r)) (ta :: pb :: x :: d :: cx :: cy :: (ρ ++ pl :: r)) := by
  have h1 : List.Perm [cx, cy, pl, x, d, pb, ta] [ta, pb, x, d, cx, cy, pl] := (show [0, 1, 2, 3, 4, 5, 6].Perm [6, 5, 3, 4, 0, 1, 2] by decide).map fun i => [cx, cy, pl, x, d, pb, ta].getD i cx
  have h2 : List.Perm (ρ ++ pl :: r) (pl :: (ρ ++ r)) := List.perm_middle
  exact (h1.append_right (ρ ++ r)).trans (List.Perm.append_left [ta, pb, x, d, cx, cy] h2.symm)
noncomputable def lnT (t v : List Nat) : Nat := 1 + t.count 10 - v.count 10
noncomputable def wdV (V : Nat → Nat) (w : List Nat) : AV := .str (ofL (ltr V w))
noncomputable def tolW (V : Nat → Nat) (t v : List Nat) (w : List Nat) : AV := .tup [wdV V w, .int (lnT t v : Nat), .int (t.length - v.length : Nat)]
noncomputable def endW (t : List Nat) : AV := .tup [.str (ofL []), .int (1 + t.count 10 : Nat), .int (t.length : Nat)]
noncomputable def toldP (V : Nat → Nat) (R : Nat → List Nat) (t v : List Nat) (n : Nat) (C : List Nat) : List AV := (bfs R n (lv R 0 C)).map (tolW V t v)
/-- what is told of the first parts -/
noncomputable def accP (V : Nat → Nat) (R S : Nat → List Nat) (t : List Nat) (u : Nat → List Nat) (n : Nat) : Nat → List AV
  | 0 => []
  | p + 1 => accP V R S t u n p ++ toldP V R t (u (8 + p + 1)) (n - (accP V R S t u n p).length) (S p)
noncomputable def toldAll (V : Nat → Nat) (R S : Nat → List Nat) (t : List Nat) (u : Nat → List Nat) (n : Nat) : List AV := accP V R S t u n 2 ++ if (accP V R S t u n 2).length < n then [endW t] else []
theorem accP_len (V : Nat → Nat) (R S : Nat → List Nat) (t : List Nat) (u : Nat → List Nat) (n : Nat) : ∀ p, (accP V R S t u n p).length ≤ n
  | 0 => Nat.zero_le _
  | p + 1 => by
    have h1 := accP_len V R S t u n p
    have h2 := bfs_len R (n - (accP V R S t u n p).length) (lv R 0 (S p))
    show (accP V R S t u n p ++ toldP V R t (u (8 + p + 1)) (n - (accP V R S t u n p).length) (S p)).length ≤ n
    unfold toldP
    rw [List.length_append, List.length_map]; omega
/-- who follows whom -/
noncomputable def fm (V : Nat → Nat) (R : Nat → List Nat) : Nat → Str → Option Str
  | 0 => fun _ => none
  | i + 1 => fun z => if z = ofL [65 + V i] then some (ofL (ltr V (R i))) else fm V R i z
theorem fm_at {V : Nat → Nat} {R : Nat → List Nat} (F : Pl V R) : ∀ i, i ≤ 4 → ∀ j, j < i → fm V R i (ofL [65 + V j]) = some (ofL (ltr V (R j)))
  | 0, _, j, h => by cases h
  | i + 1, hi, j, h => by
    show (if ofL [65 + V j] = ofL [65 + V i] then _ else fm V R i (ofL [65 + V j])) = _
    by_cases e : j = i
    · subst e; rw [if_pos rfl]
    · rw [if_neg fun h2 => e (F.inj j i (by omega) (by omega) (by have := ofL_inj h2; simp at this; omega))]
      exact fm_at F i (by omega) j (by omega)
theorem pick_last (l : List Nat) (a : Nat) : pick (l ++ [a]) (some (-1)) none = [a] := by
  have e : clipAt (l ++ [a]).length (-1) = l.length := by
    unfold clipAt
    rw [List.length_append, List.length_singleton]
    simp only [show ((-1 : Int) < 0) = True from by simp]
    simp
    omega
  unfold pick
  show ((l ++ [a]).drop (clipAt (l ++ [a]).length (-1))).take ((l ++ [a]).length - clipAt (l ++ [a]).length (-1)) = [a]
  rw [e, List.drop_left, List.length_append, List.length_singleton, Nat.add_sub_cancel_left]
  rfl
section
variable {V : Nat → Nat} {R S : Nat → List Nat} {w u : Nat → List Nat} {t : List Nat} {many : Nat}
theorem lv0 (R : Nat → List Nat) (C : List Nat) : lv R 0 C = C.map fun j => [j] := by
  unfold lv
  induction C with
  | nil => rfl
  | cons a l ih => rw [List.map_cons, List.flatten_cons, ih]; rfl
theorem chars_ltr (V : Nat → Nat) (l : List Nat) : chars (ofL (ltr V l)) = l.map fun j => .str (ofL [65 + V j]) := by
  have e0 : (ofL (ltr V l)).cps.toList = ltr V l := by simp [ofL]
  unfold chars
  rw [e0]
  unfold ltr
  rw [List.map_map]
  rfl
theorem run (W : Wd Γ (KK pp) mg mb) (M : MkOk Γ mg mb 76 72) (F : Pl V R) (hS : ∀ p, p < 2 → (∀ j ∈ S p, j < 4 ∧ 0 < V j) ∧ (S p).length ≤ 4) (hm : many ≤ 20) (ht : t.length ≤ 1000000)
    (hw0 : ∀ i, i < 4 → w (2 * i) = [65 + V i]) (hw1 : ∀ i, i < 4 → w (2 * i + 1) = ltr V (R i)) (hw2 : ∀ p, w (8 + p) = ltr V (S p)) (hu0 : u 0 = t) (hu : ∀ i, i ≤ 10 → u i <:+ t) (hG : ∀ i, i < 10 → Gets t (lnT t (u i), u i, []) (w i) (lnT t (u (i + 1)), u (i + 1), [])) (hend : ∀ c ∈ u 10, isWs c = true) {P : AV → Sto → Prop}
    (q : ∀ ta ps, P (.ref ta) ((ta, .list (toldAll V R S t u many)) :: (72, .obj (tabObj ps)) :: σ)) :
    CalC Γ (k + 5) (.ref 106) [.str (ofL t), .int many] ((72, .obj (tabObj #[])) :: σ) P := by
  refine fn_defB W.ok (ok_run W.X) rfl (by kernel_rfl!) (by kernel_rfl!) ?_
  refine exs_cons ?_
  walk_at "g"
  refine ev_calG W 77 (by kernel_rfl!) ?_
  walk_at "g"
  refine cal_of (stream W M fun st pl cx cy ρ₀ ps S₀ => ?_)
  walk_at "g"
  refine ev_calG W 52 (by kernel_rfl!) ?_
  walk_at "g"
  refine lex_make W fun x d pb => ?_
  walk_at "g"
  obtain ⟨o, ho, _⟩ := (ok_run W.X).obj
  refine ev_dict0 ho (by decide) fun fo ob hfo hD => ?_
  walk_at "g"
  refine ex_for ?_ (fun _ _ => rfl)
  walk_at "g"
  refine cal_range1 fun rg og hog => ?_
  refine ⟨_, _, mk_range (.name _ _) (.head _) hog (by decide) (by decide) (by decide) (by decide), (fun p hp => by cases hp), ?_⟩
  rw [show intsFrom 0 ((4 : Int) - 0).toNat = (List.range 4).map fun n : Nat => AV.int n from rfl]
  have S₁ : Strm pp (ρ₀ ++ (72, .obj (tabObj ps)) :: σ) st cx cy := by
    obtain ⟨sd, rd, rc, ost, orc, fdS, qual, doc, pm, ctv, vs, tk, a, b, c, d, e, f, g, h⟩ := S₀.ex
    exact ⟨sd, rd, rc, ost, orc, fdS, qual, doc, pm, ctv, vs, tk, List.mem_append_left _ a, b, c, d, List.mem_append_left _ e, List.mem_append_left _ f, List.mem_append_left _ g, h⟩
  refine for_sub (σ' := (fo, .obj ob) :: (pb, .list []) :: (x, .inst 52 d) :: (d, .ns (nsL 1 st pb)) :: (cx, .cell (.str (ofL t))) :: (cy, .cell (.ref pl)) :: (ρ₀ ++ (pl, .list [.int 0]) :: (72, .obj (tabObj ps)) :: σ)) ?_ (fun _ _ e => e) (.cons _ (.refl _)) (fun p hp => by cases hp)
  generalize hTl : (72, AO.obj (tabObj ps)) :: σ = TL at *
  refine for_perm (σ' := lexU x d st pb pl cx cy t 1 t [] ((fo, .obj ob) :: (ρ₀ ++ TL))) ?_ (by
    have e : t.length - t.length = 0 := Nat.sub_self _
    show List.Perm ((cx, .cell (.str (ofL t))) :: (cy, .cell (.ref pl)) :: (pl, .list [.int ((t.length - t.length : Nat) : Int)]) :: (x, .inst 52 d) :: (d, .ns (nsL ((1 : Nat) : Int) st pb)) :: (pb, .list []) :: (fo, .obj ob) :: (ρ₀ ++ TL)) _
    rw [e]
    exact perm_run)
  have hl1 : lnT t (u 0) = 1 := by rw [hu0]; unfold lnT; omega
  refine for_sub (for_ind2 (ι := Nat × Obj) (L := fun _ => [("follow", .ref fo), ("lexer", .ref x), ("place", .ref pl), ("many", .int (many : Nat))]) (S := fun i => lexU x d st pb pl cx cy t (lnT t (u (2 * i.1))) (u (2 * i.1)) [] ((fo, .obj i.2) :: (ρ₀ ++ TL))) (g := fun n : Nat => .int n) (I := fun ys i => ys = (List.range 4).drop i.1 ∧ i.1 ≤ 4 ∧ MD Γ i.2 i.1 (fm V R i.1)) ?_ ?_ ?_ (List.range 4) (0, ob) ⟨rfl, Nat.zero_le _, hD⟩) (sub_cons rfl (sub_cons rfl (sub_cons rfl (sub_cons rfl sub_nil)))) (by show (lexU x d st pb pl cx cy t (lnT t (u 0)) (u 0) [] _).Sublist _; rw [hl1, hu0]; exact .refl _) (fun p hp => by cases hp)
  · intro i p hp; cases hp
  · rintro y ys ⟨i, oo⟩ P' A hA ⟨h1, h2, h3⟩
    dsimp only at h1 h2 h3
    have hi : i < 4 := by
      rcases Nat.lt_or_ge i 4 with h | h
      · exact h
      · rw [List.drop_of_length_le (by simpa using h)] at h1; cases h1
    rw [List.drop_eq_getElem_cons (by simpa using hi), List.getElem_range] at h1
    injection h1 with e1 e2
    subst e1
    walk_at "g"
    refine ⟨_, _, gm_inst W.X cls_ok (x := x) (d := d) (es := nsL _ st pb) (f := 42) (by walk_at "mem") (by walk_at "mem") (by kernel_rfl!) (by kernel_rfl!) rfl, ?_⟩
    walk_at "g"
    refine ⟨fun κ' h₂ l' R' => keeps_K (K := KK pp) (by kernel_rfl!) h₂ (W.X.keeps (l'.up R')), cal_of (get_any W (S₁.cons _) ht (hG (2 * y) (by omega)) ?_)⟩
    walk_at "g"
    refine ⟨_, _, gm_inst W.X cls_ok (x := x) (d := d) (es := nsL _ st pb) (f := 42) (by walk_at "mem") (by walk_at "mem") (by kernel_rfl!) (by kernel_rfl!) rfl, ?_⟩
    walk_at "g"
    refine ⟨fun κ' h₂ l' R' => keeps_K (K := KK pp) (by kernel_rfl!) h₂ (W.X.keeps (l'.up R')), cal_of (get_any W (S₁.cons _) ht (hG (2 * y + 1) (by omega)) ?_)⟩
    walk_at "g"
    refine it_dict (σ' := fun o' => lexU x d st pb pl cx cy t (lnT t (u (2 * y + 1 + 1))) (u (2 * y + 1 + 1)) [] ((fo, .obj o') :: (ρ₀ ++ TL))) h3 (by omega) (fun o' => .tail (.tail (.tail (.tail (.tail (.tail .head)))))) fun o' hD' => ?_
    walk_at "g"
    refine hA (y + 1, o') _ _ ⟨e2, hi, ?_⟩ (sub_cons rfl (sub_cons rfl (sub_cons rfl (sub_cons rfl sub_nil)))) (.refl _)
    rw [hw0 y hi, hw1 y hi] at hD'
    exact hD'
  · rintro ⟨i, oo⟩ ⟨h1, h2, h3⟩
    dsimp only at h1 h2 h3
    obtain rfl : i = 4 := by
      rcases Nat.lt_or_ge i 4 with h | h
      · rw [List.drop_eq_getElem_cons (by simpa using h)] at h1; cases h1
      · omega
    walk_at "g"
    refine ⟨by rw [sizeLine_eq]; simp, fun ta => ?_⟩
    walk_at "g"
    refine ex_for ?_ (fun _ _ => rfl)
    walk_at "g"
    refine cal_range1 fun rg2 og2 hog2 => ?_
    refine ⟨_, _, mk_range (.name _ _) (.head _) hog2 (by decide) (by decide) (by decide) (by decide), (fun p hp => by cases hp), ?_⟩
    rw [show intsFrom 0 ((2 : Int) - 0).toNat = (List.range 2).map fun n : Nat => AV.int n from rfl]
    have hpl : ∀ (l p : Nat) (tk : List AV) (τ : Sto), (pl, AO.list [.int p]) ∈ lexS x d st pb pl cx cy t l p tk τ := fun _ _ _ _ => .tail _ (.tail _ (.head _))
    have S₂ : ∀ ac : List AV, Strm pp ((ta, .list ac) :: (fo, .obj oo) :: (ρ₀ ++ TL)) st cx cy := fun ac => (S₁.cons _).cons _
    refine for_sub (σ' := (ta, .list []) :: lexU x d st pb pl cx cy t (lnT t (u 8)) (u 8) [] ((fo, .obj oo) :: (ρ₀ ++ TL))) ?_ (fun _ _ e => e) (.cons _ (.refl _)) (fun p hp => by cases hp)
    refine for_perm ?_ into6
    refine for_sub (for_ind2 (ι := Nat × Nat × List (List Nat) × List AV) (L := fun i => [("follow", .ref fo), ("lexer", .ref x), ("place", .ref pl), ("many", .int (many : Nat)), ("told", .ref ta), ("waiting", .int (i.2.2.1.length : Nat))]) (S := fun i => lexU x d st pb pl cx cy t (lnT t (u i.2.1)) (u i.2.1) (i.2.2.1.map (wdV V)) ((ta, .list i.2.2.2) :: (fo, .obj oo) :: (ρ₀ ++ TL))) (g := fun n : Nat => .int n)
      (I := fun ys i => ys = (List.range 2).drop i.1 ∧ i.1 ≤ 2 ∧ i.2.2.2 = accP V R S t u many i.1 ∧ (i.2.2.1 = [] → i.2.1 = 8 + i.1) ∧ (i.2.2.1 ≠ [] → i.2.2.2.length = many) ∧ i.2.1 ≤ 10 ∧ i.2.2.1.length ≤ 4 + 4 * i.2.2.2.length) ?_ ?_ ?_ (List.range 2) (0, 8, [], []) ⟨rfl, Nat.zero_le _, rfl, fun _ => rfl, fun h => absurd rfl h, by decide, Nat.zero_le _⟩) (sub_cons rfl (sub_cons rfl (sub_cons rfl (sub_cons rfl (sub_cons rfl (sub_cons rfl sub_nil)))))) (.refl _) (fun p hp => by cases hp)
    · intro i p hp; cases hp
    · rintro y ys ⟨p, e, q0, acc⟩ P' A hA ⟨h1, h2, h4, h5, h6, h7, h8⟩
      dsimp only at h1 h2 h4 h5 h6 h7 h8
      have hp : p < 2 := by
        rcases Nat.lt_or_ge p 2 with h | h
        · exact h
        · rw [List.drop_of_length_le (by simpa using h)] at h1; cases h1
      rw [List.drop_eq_getElem_cons (by simpa using hp), List.getElem_range] at h1
      injection h1 with e1 e2
      subst e1
      obtain ⟨hS1, hS2⟩ := hS y hp
      have hal := accP_len V R S t u many y
      obtain ⟨e', q1, hq1, hq2⟩ : ∃ (e' : Nat) (q1 : List (List Nat)), (q0 = [] → e' = 8 + y + 1 ∧ q1 = lv R 0 (S y)) ∧ (q0 ≠ [] → e' = e ∧ q1 = q0) := by
        by_cases h : q0 = []
        · exact ⟨8 + y + 1, lv R 0 (S y), fun _ => ⟨rfl, rfl⟩, fun h2 => absurd h h2⟩
        · exact ⟨e, q0, fun h2 => absurd h2 h, fun _ => ⟨rfl, rfl⟩⟩
      refine asg_name (.inl (by kernel_rfl!)) ?_
      refine exs_join [("follow", .ref fo), ("lexer", .ref x), ("place", .ref pl), ("many", .int (many : Nat)), ("told", .ref ta), ("waiting", .int (q1.length : Nat))] (lexU x d st pb pl cx cy t (lnT t (u e')) (u e') (q1.map (wdV V)) ((ta, .list acc) :: (fo, .obj oo) :: (ρ₀ ++ TL))) ?_ ?_
      · walk_at "g"
        refine ⟨fun hb => ?_, fun hb => ?_⟩
        · have hb : ((q0.length : Int) == 0) = true := hb
          have hb : q0 = [] := List.eq_nil_of_length_eq_zero (by have := of_decide_eq_true hb; omega)
          subst hb
          obtain ⟨rfl, rfl⟩ := hq1 rfl
          obtain rfl := h5 rfl
          walk_at "g"
          refine ⟨_, _, gm_inst W.X cls_ok (x := x) (d := d) (es := nsL _ st pb) (f := 42) (by walk_at "mem") (by walk_at "mem") (by kernel_rfl!) (by kernel_rfl!) rfl, ?_⟩
          walk_at "g"
          refine ⟨fun κ' h₂ l' R' => keeps_K (K := KK pp) (by kernel_rfl!) h₂ (W.X.keeps (l'.up R')), cal_of (get_any W (S₂ _) ht (hG (8 + y) (by omega)) ?_)⟩
          rw [hw2 y]
          walk_at "g"
          refine ex_for ?_ (fun _ _ => rfl)
          walk_at "g"
          refine ⟨_, _, mk_str (.name _ _), (fun p hp => by cases hp), ?_⟩
          rw [chars_ltr]
          rw [lv0]
          refine for_sub (for_ind2 (ι := List (List Nat)) (L := fun _ => [("follow", .ref fo), ("lexer", .ref x), ("place", .ref pl), ("many", .int (many : Nat)), ("told", .ref ta), ("begin", .str (ofL (ltr V (S y))))]) (S := fun qq => lexU x d st pb pl cx cy t (lnT t (u (8 + y + 1))) (u (8 + y + 1)) (qq.map (wdV V)) ((ta, .list acc) :: (fo, .obj oo) :: (ρ₀ ++ TL))) (g := fun j => .str (ofL [65 + V j])) (I := fun ys qq => qq ++ ys.map (fun j => [j]) = (S y).map fun j => [j]) ?_ ?_ ?_ (S y) [] rfl) (sub_cons rfl (sub_cons rfl (sub_cons rfl (sub_cons rfl (sub_cons rfl (sub_cons rfl sub_nil)))))) (.refl _) (fun p hp => by cases hp)
          · intro i p hp; cases hp
          · intro j zs qq P'' A' hB hI
            have hql := congrArg List.length hI
            rw [List.length_append, List.length_map, List.length_map] at hql
            walk_at "g"
            refine ⟨_, _, gm_inst W.X cls_ok (x := x) (d := d) (es := nsL _ st pb) (f := 49) (by walk_at "mem") (by walk_at "mem") (by kernel_rfl!) (by kernel_rfl!) rfl, ?_⟩
            walk_at "g"
            refine ⟨fun κ' h₂ l' R' => keeps_K (K := KK pp) (by kernel_rfl!) h₂ (W.X.keeps (l'.up R')), cal_of (push_token W (by rw [List.length_map]; omega) ⟨rfl, ?_⟩)⟩
            walk_at "g"
            refine hB (qq ++ [[j]]) _ _ (by rw [← hI]; simp) (sub_cons rfl (sub_cons rfl (sub_cons rfl (sub_cons rfl (sub_cons rfl (sub_cons rfl sub_nil)))))) ?_
            rw [List.map_append]
            exact .refl _
          · intro qq hI
            rw [List.map_nil, List.append_nil] at hI
            subst hI
            walk_at "g"
            refine cal_len_str (by rw [ofL_length, sizeLine_eq]; unfold ltr; rw [List.length_map]; omega) ?_
            rw [ofL_length]
            walk_at "g"
            refine ⟨rfl, sub_cons rfl (sub_cons rfl (sub_cons rfl (sub_cons rfl (sub_cons rfl (sub_cons ?_ sub_nil))))), .refl _⟩
            show some (AV.int _) = some (AV.int _)
            unfold ltr
            rw [List.length_map, List.length_map]
        · have hb : q0 ≠ [] := fun h => by subst h; cases hb
          obtain ⟨rfl, rfl⟩ := hq2 hb
          walk_at "g"
          exact ⟨rfl, sub_cons rfl (sub_cons rfl (sub_cons rfl (sub_cons rfl (sub_cons rfl (sub_cons rfl sub_nil))))), .refl _⟩
      · walk_at "g"
        have hinv : acc ++ (bfs R (many - acc.length) q1).map (tolW V t (u e')) = accP V R S t u many (y + 1) ∧ (acc.length < many → ∀ w ∈ q1, Gd4 V w ∧ w.length ≤ 1 + acc.length) ∧ q1.length ≤ 4 + 4 * acc.length ∧ acc.length ≤ many ∧ (e' = 8 + y + 1 ∨ (q1 ≠ [] ∧ acc.length = many)) := by
          by_cases h : q0 = []
          · obtain ⟨rfl, rfl⟩ := hq1 h
            subst h4
            refine ⟨rfl, fun _ w hw => ⟨gd_start hS1 w hw, ?_⟩, ?_, hal, .inl rfl⟩
            · have := len_start w hw; omega
            · rw [lv0, List.length_map]; omega
          · obtain ⟨rfl, rfl⟩ := hq2 h
            have h6 := h6 h
            refine ⟨?_, fun h2 => absurd h2 (by omega), h8, by omega, .inr ⟨h, h6⟩⟩
            rw [show many - acc.length = 0 by omega, bfs_zero]
            show _ = accP V R S t u many y ++ toldP V R t (u (8 + y + 1)) (many - (accP V R S t u many y).length) (S y)
            rw [← h4, show many - acc.length = 0 by omega]
            unfold toldP
            rw [bfs_zero]
            rfl
        have he' : e' ≤ 10 := by
          by_cases h : q0 = []
          · have := (hq1 h).1; omega
          · have := (hq2 h).1; omega
        clear hq1 hq2 h5 h6 h8 h4
        refine whl_sub (whl_c2 (I := fun q ac => ac ++ (bfs R (many - ac.length) q).map (tolW V t (u e')) = accP V R S t u many (y + 1) ∧ (ac.length < many → ∀ w ∈ q, Gd4 V w ∧ w.length ≤ 1 + ac.length) ∧ q.length ≤ 4 + 4 * ac.length ∧ ac.length ≤ many ∧ (e' = 8 + y + 1 ∨ (q ≠ [] ∧ ac.length = many)))
          (L := fun q _ => [("follow", .ref fo), ("lexer", .ref x), ("place", .ref pl), ("many", .int (many : Nat)), ("told", .ref ta), ("waiting", .int (q.length : Nat))]) (S := fun q ac => lexU x d st pb pl cx cy t (lnT t (u e')) (u e') (q.map (wdV V)) ((ta, .list ac) :: (fo, .obj oo) :: (ρ₀ ++ TL))) (rank := fun _ ac => many - ac.length) (X := fun q ac => q = [] ∨ ac.length = many) ?_ ?_ q1 acc hinv) (sub_cons rfl (sub_cons rfl (sub_cons rfl (sub_cons rfl (sub_cons rfl (sub_cons rfl sub_nil)))))) (.refl _)
        · intro q ac P'' A' hB hI
          refine a5 hI fun i1 i2 i3 i4 i5 => ?_
          clear hI
          walk_at "g"
          refine ⟨fun hq => ?_, fun hq => ?_⟩
          · have hq0 : 0 < q.length := by have := of_decide_eq_true hq; omega
            walk_at "g"
            refine cal_len_list (xs := ac) (by walk_at "mem") (by rw [sizeLine_eq]; omega) ?_
            walk_at "g"
            refine ⟨fun hc => ?_, fun hc => ?_⟩
            · have hc : ac.length < many := by have := of_decide_eq_true hc; omega
              walk_at "g"
              refine ⟨fun _ => ?_, fun h => nomatch h⟩
              obtain ⟨w1, q, rfl⟩ : ∃ p q', q = p :: q' := by
                cases q with
                | nil => simp at hq0
                | cons p q => exact ⟨p, q, rfl⟩
              obtain ⟨g1, g2⟩ := i2 hc w1 (.head _)
              walk_at "g"
              refine ⟨_, _, gm_inst W.X cls_ok (x := x) (d := d) (es := nsL _ st pb) (f := 42) (by walk_at "mem") (by walk_at "mem") (by kernel_rfl!) (by kernel_rfl!) rfl, ?_⟩
              walk_at "g"
              refine ⟨fun κ' h₂ l' R' => keeps_K (K := KK pp) (by kernel_rfl!) h₂ (W.X.keeps (l'.up R')), cal_of (get_any (w := ltr V w1) W (S₂ ac) ht (.back (by rw [List.length_map]; simp only [List.length_cons] at i3; omega)) ?_)⟩
              walk_at "g"
              refine ⟨_, _, gm_append (xs := ac) (by walk_at "mem"), ?_⟩
              walk_at "g"
              refine at_own W.X cls_ok (x := x) (d := d) (es := nsL _ st pb) (by walk_at "mem") (by walk_at "mem") (by kernel_rfl!) rfl (fun _ h => by cases h) ?_
              walk_at "g"
              refine ⟨plain_list (hpl _ _ _ _), get_list (hpl _ _ _ _) (by decide) (by decide) rfl ?_⟩
              walk_at "g"
              refine ⟨by rw [sizeLine_eq]; simp, ?_⟩
              walk_at "g"
              refine ⟨kpr_builtin, cal_append (xs := ac) (.tail (.tail (.tail (.tail (.tail (.tail .head)))))) (by rw [sizeLine_eq]; omega) ⟨rfl, ?_⟩⟩
              walk_at "g"
              refine ⟨_, _, gm_dget (a := fo) (by walk_at "mem") h3, ?_⟩
              walk_at "g"
              obtain ⟨w0, a, rfl⟩ : ∃ w0 a, w1 = w0 ++ [a] := by
                rcases List.eq_nil_or_concat w1 with h | ⟨w0, a, h⟩
                · obtain ⟨j, r, e, _⟩ := g1; rw [h] at e; cases e
                · exact ⟨w0, a, by rw [h]; simp⟩
              have ha : a < 4 := by obtain ⟨_, _, _, _, h⟩ := g1; exact h a (by simp)
              have hRl := F.len a
              have hlt : ltr V (w0 ++ [a]) = ltr V w0 ++ [65 + V a] := by unfold ltr; rw [List.map_append]; rfl
              have hll : (ltr V (w0 ++ [a])).length ≤ 22 := by unfold ltr; rw [List.length_map]; omega
              refine ⟨_, rfl, plain_str, slc_str (by rw [ofL_length, sizeLine_eq]; omega) ?_⟩
              rw [show (ofL (ltr V (w0 ++ [a]))).cps.toList = ltr V (w0 ++ [a]) by simp [ofL], hlt, pick_last, ← hlt]
              walk_at "g"
              refine ⟨kpr_builtin, cal_dget (a := fo) (by walk_at "mem") h3 hfo ?_⟩
              rw [fm_at F 4 (Nat.le_refl _) a ha]
              rw [Option.getD_some]
              walk_at "g"
              refine ex_for ?_ (fun _ _ => rfl)
              walk_at "g"
              refine ⟨_, _, mk_str (.name _ _), (fun p hp => by cases hp), ?_⟩
              rw [chars_ltr]
              have hk : kidsW R (w0 ++ [a]) = (R a).map fun j => (w0 ++ [a]) ++ [j] := by unfold kidsW; rw [show (w0 ++ [a]).getLastD 0 = a by simp]
              obtain ⟨n, hn⟩ : ∃ n, many - ac.length = n + 1 := ⟨many - ac.length - 1, by omega⟩
              rw [hn] at i1
              have hG4 := gd_kids F (w0 ++ [a]) g1
              generalize hw1' : w0 ++ [a] = w1 at *
              refine for_sub (for_ind2 (ι := List (List Nat)) (L := fun _ => [("follow", .ref fo), ("lexer", .ref x), ("place", .ref pl), ("many", .int (many : Nat)), ("told", .ref ta), ("waiting", .int ((w1 :: q).length : Nat)), ("word", wdV V w1), ("behind", .str (ofL (ltr V (R a))))]) (S := fun qq => lexU x d st pb pl cx cy t (lnT t (u e')) (u e') (qq.map (wdV V)) ((ta, .list (ac ++ [tolW V t (u e') w1])) :: (fo, .obj oo) :: (ρ₀ ++ TL))) (g := fun j => .str (ofL [65 + V j])) (I := fun ys qq => qq ++ ys.map (fun j => w1 ++ [j]) = q ++ kidsW R w1) ?_ ?_ ?_ (R a) q (by rw [hk])) (sub_cons rfl (sub_cons rfl (sub_cons rfl (sub_cons rfl (sub_cons rfl (sub_cons rfl (sub_cons rfl (sub_cons rfl sub_nil)))))))) (.refl _) (fun p hp => by cases hp)
              · intro i p hp; cases hp
              · intro j zs qq P3 A3 hC hI
                have hql := congrArg List.length hI
                rw [List.length_append, List.length_map, List.length_append, hk, List.length_map] at hql
                simp only [List.length_cons] at i3
                walk_at "g"
                refine ⟨_, _, gm_inst W.X cls_ok (x := x) (d := d) (es := nsL _ st pb) (f := 49) (by walk_at "mem") (by walk_at "mem") (by kernel_rfl!) (by kernel_rfl!) rfl, ?_⟩
                walk_at "g"
                refine op_add_str (by rw [ofL_length, ofL_length, sizeLine_eq]; simp only [List.length_singleton]; omega) ?_
                rw [ofL_append]
                walk_at "g"
                refine ⟨fun κ' h₂ l' R' => keeps_K (K := KK pp) (by kernel_rfl!) h₂ (W.X.keeps (l'.up R')), cal_of (push_token W (by rw [List.length_map]; omega) ⟨rfl, ?_⟩)⟩
                walk_at "g"
                refine hC (qq ++ [w1 ++ [j]]) _ _ (by rw [← hI]; simp) (sub_cons rfl (sub_cons rfl (sub_cons rfl (sub_cons rfl (sub_cons rfl (sub_cons rfl (sub_cons rfl (sub_cons rfl sub_nil)))))))) ?_
                have e : (qq ++ [w1 ++ [j]]).map (wdV V) = qq.map (wdV V) ++ [.str (ofL (ltr V w1 ++ [65 + V j]))] := by
                  rw [List.map_append]
                  have : wdV V (w1 ++ [j]) = .str (ofL (ltr V w1 ++ [65 + V j])) := by unfold wdV ltr; rw [List.map_append]; rfl
                  rw [← this]; rfl
                rw [e]
                exact .refl _
              · intro qq hI
                rw [List.map_nil, List.append_nil] at hI
                subst hI
                walk_at "g"
                refine cal_len_str (by rw [ofL_length, sizeLine_eq]; unfold ltr; rw [List.length_map]; omega) ?_
                rw [ofL_length]
                walk_at "g"
                simp only [List.length_cons] at i3
                have hlk : (kidsW R w1).length = (R a).length := by rw [hk, List.length_map]
                refine hB (q ++ kidsW R w1) (ac ++ [tolW V t (u e') w1]) _ _ ⟨?_, fun hlt2 w hw => ?_, ?_, ?_, ?_⟩ ?_ (sub_cons rfl (sub_cons rfl (sub_cons rfl (sub_cons rfl (sub_cons rfl (sub_cons ?_ sub_nil)))))) (.refl _)
                · rw [← i1, List.length_append, List.length_singleton, show many - (ac.length + 1) = n by omega]
                  simp [bfs]
                · rw [List.length_append, List.length_singleton]
                  rcases List.mem_append.mp hw with hw | hw
                  · obtain ⟨a1, a2⟩ := i2 hc w (.tail _ hw)
                    exact ⟨a1, by omega⟩
                  · refine ⟨hG4 w hw, ?_⟩
                    rw [hk] at hw
                    obtain ⟨j, _, rfl⟩ := List.mem_map.mp hw
                    rw [List.length_append, List.length_singleton]; omega
                · rw [List.length_append, List.length_append, List.length_singleton]; omega
                · rw [List.length_append, List.length_singleton]; omega
                · rcases i5 with h | h
                  · exact .inl h
                  · have := h.2; omega
                · rw [List.length_append, List.length_singleton]; omega
                · show some (AV.int _) = some (AV.int _)
                  congr 2
                  rw [List.length_append, hlk]
                  unfold ltr
                  rw [List.length_map, List.length_cons]
                  omega
            · have hc : ac.length = many := by have := of_decide_eq_false hc; omega
              exact ⟨fun h => (nomatch h), fun _ => ⟨.inr hc, rfl⟩⟩
          · have hq0 : q = [] := List.eq_nil_of_length_eq_zero (by have := of_decide_eq_false hq; omega)
            exact ⟨fun h => (nomatch h), fun _ => ⟨.inl hq0, rfl⟩⟩
        · intro q ac hI hX
          refine a5 hI fun i1 i2 i3 i4 i5 => ?_
          clear hI
          have hac : ac = accP V R S t u many (y + 1) := by
            rw [← i1]
            rcases hX with h | h
            · rw [h, bfs_nil]; simp
            · rw [show many - ac.length = 0 by omega, bfs_zero]; simp
          walk_at "g"
          refine hA (y + 1, e', q, ac) _ _ ⟨e2, hp, hac, fun h => ?_, fun h => ?_, he', i3⟩ (sub_cons rfl (sub_cons rfl (sub_cons rfl (sub_cons rfl (sub_cons rfl (sub_cons rfl sub_nil)))))) (.refl _)
          · rcases i5 with h2 | h2
            · exact h2
            · exact absurd h h2.1
          · rcases hX with h2 | h2
            · exact absurd h2 h
            · exact h2
    · rintro ⟨p, e, q0, acc⟩ ⟨h1, h2, h4, h5, h6, h7, h8⟩
      dsimp only at h1 h2 h4 h5 h6 h7 h8
      obtain rfl : p = 2 := by
        rcases Nat.lt_or_ge p 2 with h | h
        · rw [List.drop_eq_getElem_cons (by simpa using h)] at h1; cases h1
        · omega
      subst h4
      have hal := accP_len V R S t u many 2
      walk_at "g"
      refine cal_len_list (xs := accP V R S t u many 2) (by walk_at "mem") (by rw [sizeLine_eq]; omega) ?_
      walk_at "g"
      refine ⟨fun hc => ?_, fun hc => ?_⟩
      · have hc : (accP V R S t u many 2).length < many := by have := of_decide_eq_true hc; omega
        have hq : q0 = [] := by
          by_cases h : q0 = []
          · exact h
          · have := h6 h; omega
        subst hq
        obtain rfl : e = 10 := h5 rfl
        walk_at "g"
        refine ⟨_, _, gm_append (xs := accP V R S t u many 2) (by walk_at "mem"), ?_⟩
        walk_at "g"
        refine ⟨_, _, gm_inst W.X cls_ok (x := x) (d := d) (es := nsL _ st pb) (f := 42) (by walk_at "mem") (by walk_at "mem") (by kernel_rfl!) (by kernel_rfl!) rfl, ?_⟩
        walk_at "g"
        have hend2 : rdO 1 (u 10) = some ([], []) := by
          have := rdO_ws (u 10) 1 [] hend
          rw [List.append_nil] at this
          rw [this]; rfl
        have hc10 := (hu 10 (Nat.le_refl _)).sublist.count_le 10
        refine ⟨fun κ' h₂ l' R' => keeps_K (K := KK pp) (by kernel_rfl!) h₂ (W.X.keeps (l'.up R')), cal_of (get_text W (S₂ _) ht (hu 10 (Nat.le_refl _)) hend2 (ln' := 1 + t.count 10) (by unfold lnT; simp; omega) ?_)⟩
        walk_at "g"
        refine at_own W.X cls_ok (x := x) (d := d) (es := nsL _ st pb) (by walk_at "mem") (by walk_at "mem") (by kernel_rfl!) rfl (fun _ h => by cases h) ?_
        walk_at "g"
        refine ⟨plain_list (hpl _ _ _ _), get_list (hpl _ _ _ _) (by decide) (by decide) rfl ?_⟩
        walk_at "g"
        refine ⟨by rw [sizeLine_eq]; simp, ?_⟩
        walk_at "g"
        refine ⟨kpr_builtin, cal_append (xs := accP V R S t u many 2) (.tail (.tail (.tail (.tail (.tail (.tail .head)))))) (by rw [sizeLine_eq]; omega) ⟨rfl, ?_⟩⟩
        walk_at "g"
        have := q ta ps
        unfold toldAll at this
        rw [if_pos hc] at this
        rw [← hTl]
        exact ⟨_, .cons _ (.cons _ (.cons _ (.cons _ (.cons _ (.cons _ (.cons₂ _ (.cons _ (List.sublist_append_right _ _)))))))), this⟩
      · have hc : ¬ (accP V R S t u many 2).length < many := by have := of_decide_eq_false hc; omega
        walk_at "g"
        have := q ta ps
        unfold toldAll at this
        rw [if_neg hc, List.append_nil] at this
        rw [← hTl]
        exact ⟨_, .cons _ (.cons _ (.cons _ (.cons _ (.cons _ (.cons _ (.cons₂ _ (.cons _ (List.sublist_append_right _ _)))))))), this⟩
end
theorem ok_ranked (X : (KK pp).In Γ.hB) : FnOk Γ 113 (fdOf (KK pp) 113) (bodyOf (fdOf (KK pp) 113)) ["rank", "choices", "rule", "values", "counts"] := fnOkB X (by kernel_rfl!) (bind5 fun _ _ _ _ _ => by kernel_rfl!)
theorem ok_nums (X : (KK pp).In Γ.hB) : FnOk Γ 118 (fdOf (KK pp) 118) (bodyOf (fdOf (KK pp) 118)) ["start", "rule", "values", "many"] := fnOkB X (by kernel_rfl!) (bind4 fun _ _ _ _ => by kernel_rfl!)
noncomputable def dn : Nat → List Nat
  | 0 => []
  | e + 1 => e :: dn e
theorem dn_len : ∀ n, (dn n).length = n
  | 0 => rfl
  | n + 1 => by show (dn n).length + 1 = n + 1; rw [dn_len n]
noncomputable def cntE (R : Nat → List Nat) (r : Nat × Addr) : Addr × AO := (r.2, .list ((List.range 4).map fun j => .int (cnt R r.1 j : Nat)))
theorem lv_cons (R : Nat → List Nat) (d z : Nat) (zs : List Nat) : lv R d (z :: zs) = tl R d z ++ lv R d zs := by unfold lv; rw [List.map_cons, List.flatten_cons]
theorem ranked (W : Wd Γ (KK pp) mg mb) {va ra ca sa : Addr} {row : Nat → Addr} {V : Nat → Nat} {R : Nat → List Nat} (F : Pl V R) (T : RuleS σ va ra row V R) {C : List Nat} (hC : (sa, .list (C.map fun j : Nat => .int j)) ∈ σ) (hC4 : ∀ j ∈ C, j < 4)
    {ws : List (Nat × Addr)} {d : Nat} (hw : ws.map (·.1) = dn (d + 1)) (hd : d < 20) (hca : (ca, .list (ws.reverse.map fun r => .ref r.2)) ∈ σ) (hws : ∀ r ∈ ws, cntE R r ∈ σ) {rank : Nat} {w : List Nat} (hr : (lv R d C)[rank]? = some w) {P : AV → Sto → Prop} (q : P (.int (valW V 0 w : Nat)) σ) :
    CalC Γ (k + 1) (.ref 113) [.int rank, .ref sa, .ref ra, .ref va, .ref ca] σ P := by
  refine fn_defB W.ok (ok_ranked W.X) rfl (by kernel_rfl!) (by kernel_rfl!) ?_
  refine exs_cons ?_
  walk_at "g"
  refine ex_for ?_ (fun _ _ => rfl)
  refine ev_rev ?_
  walk_at "g"
  refine ⟨_, rfl, rfl, _, _, rfl, hca, ?_, fun D => ?_⟩
  · have := congrArg List.length hw
    rw [List.length_map, dn_len] at this
    rw [sizeLine_eq, List.length_map, List.length_reverse]; omega
  rw [← List.map_reverse, List.reverse_reverse]
  refine ⟨_, _, mk_list (.name _ _) (xs := ws.map fun r => .ref r.2) (.head _), (fun p hp => by rw [List.mem_singleton.mp hp]; exact .head _), ?_⟩
  generalize hN : valW V 0 w = N at *
  refine for_sub (for_ind2 (ι := Nat × Nat × List Nat × Addr) (L := fun i => [("number", .int (i.1 : Nat)), ("rank", .int (i.2.1 : Nat)), ("choices", .ref i.2.2.2), ("rule", .ref ra), ("values", .ref va)]) (S := fun _ => (D, .list (ws.map fun r => .ref r.2)) :: σ) (g := fun r : Nat × Addr => .ref r.2)
    (I := fun ys i => ∃ e, ys.map (·.1) = dn e ∧ (∀ y ∈ ys, cntE R y ∈ σ) ∧ (i.2.2.2, AO.list (i.2.2.1.map fun j : Nat => AV.int j)) ∈ σ ∧ (∀ j ∈ i.2.2.1, j < 4) ∧ (e = 0 → i.1 = N) ∧ ∀ e', e = e' + 1 → ∃ w, (lv R e' i.2.2.1)[i.2.1]? = some w ∧ valW V i.1 w = N) ?_ ?_ ?_ ws (0, rank, C, sa) ⟨d + 1, hw, hws, hC, hC4, fun h => (by cases h), fun e' h => (by cases h; exact ⟨w, hr, hN⟩)⟩) (sub_cons rfl (sub_cons rfl (sub_cons rfl (sub_cons rfl (sub_cons rfl sub_nil))))) (.refl _) (fun p hp => by rw [List.mem_singleton.mp hp]; exact .head _)
  · intro i p hp; rw [List.mem_singleton.mp hp]; exact .head _
  · rintro ⟨e, ad⟩ ys ⟨a, r, cc, cad⟩ P' A hA hI
    obtain ⟨e1, h1, h2, h3, h4, h5, h6⟩ := hI
    dsimp only at h1 h2 h3 h4 h5 h6
    cases e1 with
    | zero => cases h1
    | succ e1 =>
    injection h1 with h1 h1'
    dsimp only at h1
    subst h1
    obtain ⟨w', g1, g2⟩ := h6 e rfl
    clear h5 h6
    have had := h2 _ (.head _)
    walk_at "g"
    refine ex_for ?_ (fun _ _ => rfl)
    walk_at "g"
    refine ⟨_, _, mk_list (.name _ _) (xs := cc.map fun j : Nat => .int j) (a := cad) (.tail _ h3), (fun p hp => by rw [List.mem_singleton.mp hp]; exact .tail _ h3), ?_⟩
    refine for_sub (for_indB (ι := Nat × Nat) (L := fun i => [("chosen", .int (i.2 : Nat)), ("rank", .int (i.1 : Nat)), ("sizes", .ref ad), ("number", .int (a : Nat)), ("rule", .ref ra), ("values", .ref va)]) (S := fun _ => (D, .list (ws.map fun r => .ref r.2)) :: σ) (g := fun j : Nat => .int j)
      (I := fun zs i => (∀ z ∈ zs, z < 4) ∧ (lv R e zs)[i.1]? = some w') (X := fun i => i.2 < 4 ∧ (tl R e i.2)[i.1]? = some w') ?_ ?_ ?_ ?_ cc (r, 0) ⟨h4, g1⟩) (sub_cons rfl (sub_cons rfl (sub_cons rfl (sub_cons rfl (sub_cons rfl (sub_cons rfl sub_nil)))))) (.refl _) (fun p hp => by rw [List.mem_singleton.mp hp]; exact .tail _ h3)
    · intro i p hp; rw [List.mem_singleton.mp hp]; exact .tail _ h3
    · rintro z zs ⟨r', c⟩ P'' A' hA' hB ⟨m1, m2⟩
      have hz := m1 z (.head _)
      dsimp only at m2
      rw [lv_cons] at m2
      walk_at "g"
      refine ⟨plain_list (a := ad) (.tail _ had), get_list (a := ad) (x := .int (cnt R e z : Nat)) (.tail _ had) (by omega) (by omega) (at4 (fun j => AV.int (cnt R e j : Nat)) hz) ?_⟩
      walk_at "g"
      refine ⟨fun hb => ?_, fun hb => ?_⟩
      · have hb : r' < cnt R e z := by have := of_decide_eq_true hb; omega
        walk_at "g"
        refine hB (r', z) _ _ ⟨hz, ?_⟩ (sub_cons rfl (sub_cons rfl (sub_cons rfl (sub_cons rfl (sub_cons rfl (sub_cons rfl sub_nil)))))) (.refl _)
        rw [List.getElem?_append_left hb] at m2
        exact m2
      · have hb : cnt R e z ≤ r' := by have := of_decide_eq_false hb; omega
        walk_at "g"
        refine ⟨plain_list (a := ad) (.tail _ had), get_list (a := ad) (x := .int (cnt R e z : Nat)) (.tail _ had) (by omega) (by omega) (at4 (fun j => AV.int (cnt R e j : Nat)) hz) ?_⟩
        walk_at "g"
        refine hA' (r' - cnt R e z, z) _ _ ⟨fun y hy => m1 y (.tail _ hy), ?_⟩ (sub_cons rfl (sub_cons (by show some (AV.int _) = some (AV.int _); rw [Int.ofNat_sub hb]) (sub_cons rfl (sub_cons rfl (sub_cons rfl (sub_cons rfl sub_nil)))))) (.refl _)
        rw [List.getElem?_append_right hb] at m2
        exact m2
    · rintro ⟨r', c⟩ ⟨_, m2⟩
      cases m2
    · rintro ⟨r', c⟩ l' σ' ⟨m1, m2⟩ hl hs
      dsimp only at m1 m2 hl
      refine exs_sub ?_ hl hs
      walk_at "g"
      refine op_mul (mul_smallr (by decide) (by decide)) ?_
      walk_at "g"
      refine ⟨plain_list (a := va) (.tail _ T.va), get_list (a := va) (.tail _ T.va) (by omega) (by omega) (at4 (fun j => AV.int (V j : Nat)) m1) ?_⟩
      walk_at "g"
      refine ⟨plain_list (a := ra) (.tail _ T.ra), get_list (a := ra) (.tail _ T.ra) (by omega) (by omega) (at4 (fun j => AV.ref (row j)) m1) ?_⟩
      walk_at "g"
      refine hA (a * 16 + V c, r', R c, row c) _ _ ⟨e, h1', fun y hy => h2 y (.tail _ hy), T.rw c m1, F.row c, fun he => ?_, fun e2 he => ?_⟩ (sub_cons rfl (sub_cons rfl (sub_cons rfl (sub_cons rfl (sub_cons rfl sub_nil))))) (.refl _)
      · subst he
        have m3 : ([[c]] : List (List Nat))[r']? = some w' := m2
        obtain ⟨hlt, hh⟩ := List.getElem?_eq_some_iff.mp m3
        have : r' = 0 := by simpa using hlt
        subst this
        have : [c] = w' := hh
        subst this
        exact g2
      · subst he
        have m3 : ((lv R e2 (R c)).map (c :: ·))[r']? = some w' := m2
        rw [List.getElem?_map, Option.map_eq_some_iff] at m3
        obtain ⟨w2, k1, rfl⟩ := m3
        exact ⟨w2, k1, g2⟩
  · rintro ⟨a, r, cc, cad⟩ ⟨e, h1, _, _, _, h5, _⟩
    cases e with
    | succ e => cases h1
    | zero =>
      have h5 : a = N := h5 rfl
      subst h5
      walk_at "g"
      exact ⟨_, .cons _ (.refl _), q⟩
theorem sum_cast {α : Type} (f : α → Nat) : ∀ l : List α, (l.map fun a => ((f a : Nat) : Int)).sum = (((l.map f).sum : Nat) : Int)
  | [] => rfl
  | a :: l => by rw [List.map_cons, List.map_cons, List.sum_cons, List.sum_cons, sum_cast f l, Int.natCast_add]
theorem ints_rangeN (n : Nat) (m : Int) (h : m.toNat = n) : intsFrom 0 m.toNat = (List.range n).map fun k : Nat => AV.int k := by
  have : ∀ (n a : Nat), intsFrom (a : Int) n = (List.range' a n).map fun k : Nat => AV.int k := fun n => by
    induction n with
    | zero => exact fun a => rfl
    | succ n ih =>
      intro a
      show AV.int a :: intsFrom ((a : Int) + 1) n = _
      rw [show (a : Int) + 1 = ((a + 1 : Nat) : Int) from by omega, ih (a + 1)]
      rfl
  rw [h, List.range_eq_range']
  exact this n 0
theorem snoc {α : Type} (g : Nat → α) (i : Nat) : (List.range (i + 1)).map g = (List.range i).map g ++ [g i] := by rw [List.range_succ, List.map_append]; rfl
theorem At.app {τ τ' l : Sto} {a : Addr} {o o' : AO} (h : At τ a o o' τ') : At (l ++ τ) a o o' (l ++ τ') := by
  induction l with
  | nil => exact h
  | cons p l ih => exact .tail ih
noncomputable abbrev numS (R : Nat → List Nat) (V : Nat → Nat) (ca na : Addr) (σ : Sto) (ws : List (Nat × Addr)) (acc : List (List Nat)) : Sto := ws.map (cntE R) ++ (ca, .list (ws.reverse.map fun r => .ref r.2)) :: (na, .list (acc.map fun w => .int (valW V 0 w : Nat))) :: σ
theorem nums (W : Wd Γ (KK pp) mg mb) {va ra sa : Addr} {row : Nat → Addr} {V : Nat → Nat} {R : Nat → List Nat} (F : Pl V R) (T : RuleS σ va ra row V R) {C : List Nat} (hC : (sa, .list (C.map fun j : Nat => .int j)) ∈ σ) (hC4 : ∀ j ∈ C, j < 4) (hCl : C.length ≤ 4)
    {many : Nat} (hm : many ≤ 20) {P : AV → Sto → Prop} (q : ∀ na, P (.ref na) ((na, .list ((bfs R many (lv R 0 C)).map fun w => .int (valW V 0 w : Nat))) :: σ)) :
    CalC Γ (k + 2) (.ref 118) [.ref sa, .ref ra, .ref va, .int many] σ P := by
  refine fn_cellsB W.ok (ok_nums W.X) rfl (by kernel_rfl!) ?_
  refine exs_cons ?_
  walk_at "g"
  refine ⟨by rw [sizeLine_eq]; simp, fun na => ?_⟩
  walk_at "g"
  refine ⟨by rw [sizeLine_eq]; simp, fun c0 => ?_⟩
  walk_at "g"
  refine ⟨by rw [sizeLine_eq]; simp, fun ca => ?_⟩
  walk_at "g"
  have hTl := bfs_len R many (lv R 0 C)
  refine whl_perm (σ' := (c0, .list [.int 1, .int 1, .int 1, .int 1]) :: (ca, .list [.ref c0]) :: (na, .list []) :: σ) ?_ (.swap _ _ _)
  generalize hTT : bfs R many (lv R 0 C) = TT at *
  refine whl_sub (whl_indB (ι := Nat × List (Nat × Addr) × List (List Nat)) (L := fun _ => [("numbers", .ref na), ("counts", .ref ca), ("start", .ref sa), ("rule", .ref ra), ("values", .ref va), ("many", .int (many : Nat))])
    (S := fun i => i.2.1.map (cntE R) ++ (ca, .list (i.2.1.reverse.map fun r => .ref r.2)) :: (na, .list (i.2.2.map fun w => .int (valW V 0 w : Nat))) :: σ) (rank := fun i => many - i.2.2.length)
    (I := fun i => i.2.1.map (·.1) = dn (i.1 + 1) ∧ i.1 ≤ i.2.2.length ∧ i.2.2 ++ bfs R (many - i.2.2.length) (lv R i.1 C) = TT) (X := fun i => i.2.2 = TT) ?_ ?_ (0, [(0, c0)], []) ⟨rfl, Nat.le_refl _, hTT⟩) (sub_cons rfl (sub_cons rfl (sub_cons rfl (sub_cons rfl (sub_cons rfl (sub_cons rfl sub_nil)))))) (.refl _)
  · rintro ⟨d, ws, acc⟩ P' A hA hB ⟨h1, h2, h3⟩
    dsimp only at h1 h2 h3
    have hal : acc.length ≤ TT.length := by have := congrArg List.length h3; rw [List.length_append] at this; omega
    have hwl := congrArg List.length h1
    rw [List.length_map, dn_len] at hwl
    have hna : ∀ τ : Sto, (na, AO.list (acc.map fun w => AV.int (valW V 0 w : Nat))) ∈ τ ++ (ws.map (cntE R) ++ (ca, .list (ws.reverse.map fun r => .ref r.2)) :: (na, .list (acc.map fun w => .int (valW V 0 w : Nat))) :: σ) := fun _ => List.mem_append_right _ (List.mem_append_right _ (.tail _ (.head _)))
    obtain ⟨hd, ws', rfl⟩ : ∃ hd ws', ws = hd :: ws' := by
      cases ws with
      | nil => cases hwl
      | cons a b => exact ⟨a, b, rfl⟩
    obtain ⟨d', cd⟩ := hd
    injection h1 with e1 e2
    dsimp only at e1
    subst e1
    have h1 : ((d', cd) :: ws').map (·.1) = dn (d' + 1) := by show d' :: ws'.map (·.1) = d' :: dn d'; rw [e2]
    walk_at "g"
    refine cal_len_list (hna []) (by rw [sizeLine_eq, List.length_map]; omega) ?_
    rw [List.length_map]
    walk_at "g"
    refine ⟨fun hb => ?_, fun hb => ?_⟩
    · have hb : acc.length < many := by have := of_decide_eq_true hb; omega
      walk_at "g"
      refine ev_calB W "sum" (by kernel_rfl!) ?_
      walk_at "g"
      have hσ : ∀ (τ : Sto) (ws : List (Nat × Addr)) (acc : List (List Nat)), ∀ p ∈ σ, p ∈ τ ++ numS R V ca na σ ws acc := fun _ _ _ p hp => List.mem_append_right _ (List.mem_append_right _ (.tail _ (.tail _ hp)))
      have hca : ∀ (τ : Sto) (ws : List (Nat × Addr)) (acc : List (List Nat)), (ca, AO.list (ws.reverse.map fun r => AV.ref r.2)) ∈ τ ++ numS R V ca na σ ws acc := fun _ _ _ => List.mem_append_right _ (List.mem_append_right _ (.head _))
      have hneg : ((((d', cd) :: ws').reverse.map fun r => AV.ref r.2))[(-1 + ((((d', cd) :: ws').reverse.map fun r : Nat × Addr => AV.ref r.2).length : Int)).toNat]? = some (.ref cd) := by
        rw [List.length_map, List.length_reverse, List.length_cons, show (-1 + ((ws'.length + 1 : Nat) : Int)).toNat = ws'.length by omega, List.getElem?_map, List.reverse_cons, List.getElem?_append_right (by simp)]
        simp
      have hnl : -((((d', cd) :: ws').reverse.map fun r : Nat × Addr => AV.ref r.2).length : Int) ≤ -1 := by simp; omega
      refine ⟨_, _, mk_list (.name _ _) (xs := C.map fun j : Nat => .int j) (a := sa) (hσ [] ((d', cd) :: ws') acc _ hC), (fun p hp => by rw [List.mem_singleton.mp hp]; exact hσ [] ((d', cd) :: ws') acc _ hC), fun D => ?_⟩
      refine cmp_sub (cmp_ind2 (ι := List Nat) (L := [("counts", .ref ca)]) (S := fun js => (D, .list (js.map fun j => .int (cnt R d' j : Nat))) :: numS R V ca na σ ((d', cd) :: ws') acc) (g := fun j : Nat => .int j) (I := fun ys js => js ++ ys = C) ?_ ?_ ?_ C [] rfl) (sub_cons (by kernel_rfl!) sub_nil)
      · intro i p hp; rw [List.mem_singleton.mp hp]; exact hσ [_] ((d', cd) :: ws') acc _ hC
      · intro j ys js A hD hI
        have hj : j < 4 := hC4 j (by rw [← hI]; exact List.mem_append_right _ (.head _))
        have hjl := congrArg List.length hI
        rw [List.length_append, List.length_cons] at hjl
        walk_at "g"
        refine ⟨sub_cons rfl sub_nil, ?_⟩
        walk_at "g"
        refine ⟨plain_list (a := ca) (hca [_] ((d', cd) :: ws') acc), get_list_neg (a := ca) (hca [_] ((d', cd) :: ws') acc) (by decide) hnl (by decide) hneg ?_⟩
        walk_at "g"
        refine ⟨plain_list (a := cd) (.tail _ (.head _)), get_list (a := cd) (.tail _ (.head _)) (by omega) (by omega) (at4 (fun j => AV.int (cnt R d' j : Nat)) hj) ?_⟩
        exact hD _ (js.map fun j => .int (cnt R d' j : Nat)) _ _ (js ++ [j]) .head (by rw [sizeLine_eq, List.length_map]; omega) (by rw [← hI]; simp) (by rw [List.map_append]; rfl)
      · rintro js hI
        rw [List.append_nil] at hI
        subst hI
        walk_at "g"
        refine cal_sum (ns := js.map fun j => ((cnt R d' j : Nat) : Int)) (by rw [List.map_map]; exact .head _) ?_
        rw [sum_cast, ← lv_len]
        walk_at "g"
        refine ⟨fun hz => ?_, fun hz => ?_⟩
        · have hz : lv R d' js = [] := List.eq_nil_of_length_eq_zero (by have := of_decide_eq_true hz; omega)
          rw [hz, bfs_nil, List.append_nil] at h3
          walk_at "g"
          exact hB (d', (d', cd) :: ws', acc) _ _ h3 (sub_cons rfl (sub_cons rfl (sub_cons rfl (sub_cons rfl (sub_cons rfl (sub_cons rfl sub_nil)))))) (.cons _ (.refl _))
        · have hz : 0 < (lv R d' js).length := by have := of_decide_eq_false hz; omega
          walk_at "g"
          refine ex_for ?_ (fun _ _ => rfl)
          walk_at "g"
          refine ev_calB W "min" (by kernel_rfl!) ?_
          walk_at "g"
          refine cal_len_list (hna [_]) (by rw [sizeLine_eq, List.length_map]; omega) ?_
          rw [List.length_map]
          walk_at "g"
          obtain ⟨m, hm1, hm2, hm3, hm4⟩ : ∃ m : Nat, (if (many : Int) - (acc.length : Int) < ((lv R d' js).length : Int) then (many : Int) - (acc.length : Int) else ((lv R d' js).length : Int)) = (m : Int) ∧ m ≤ (lv R d' js).length ∧ m ≤ many - acc.length ∧ (m = (lv R d' js).length ∨ m = many - acc.length) := by
            by_cases h : (many : Int) - (acc.length : Int) < ((lv R d' js).length : Int)
            · exact ⟨many - acc.length, by rw [if_pos h]; omega, by omega, Nat.le_refl _, .inr rfl⟩
            · exact ⟨(lv R d' js).length, by rw [if_neg h], Nat.le_refl _, by omega, .inl rfl⟩
          refine cal_min2 ?_
          rw [hm1]
          walk_at "g"
          refine cal_range1 fun rg og hog => ?_
          refine ⟨_, _, mk_range (.name _ _) (.head _) hog (by decide) (by decide) (by omega) (by omega), (fun p hp => by cases hp), ?_⟩
          rw [ints_rangeN m ((m : Int) - 0) (by omega)]
          refine for_sub (σ' := numS R V ca na σ ((d', cd) :: ws') acc) (for_sub (for_n m [("numbers", .ref na), ("counts", .ref ca), ("start", .ref sa), ("rule", .ref ra), ("values", .ref va), ("many", .int (many : Nat))] (fun i => numS R V ca na σ ((d', cd) :: ws') (acc ++ (lv R d' js).take i)) (fun n => .int (n : Nat)) (fun i p hp => by cases hp) ?_ ?_) (fun _ _ e => e) (by rw [List.take_zero, List.append_nil]; exact .refl _) (fun p hp => by cases hp)) (sub_cons rfl (sub_cons rfl (sub_cons rfl (sub_cons rfl (sub_cons rfl (sub_cons rfl sub_nil)))))) (.cons _ (.cons _ (.refl _))) (fun p hp => by cases hp)
          · intro i P'' A' hi hD
            have hil : i < (lv R d' js).length := by omega
            have hna2 : ∀ τ : Sto, (na, AO.list ((acc ++ (lv R d' js).take i).map fun w => AV.int (valW V 0 w : Nat))) ∈ τ ++ numS R V ca na σ ((d', cd) :: ws') (acc ++ (lv R d' js).take i) := fun _ => List.mem_append_right _ (List.mem_append_right _ (.tail _ (.head _)))
            walk_at "g"
            refine ⟨_, _, gm_append (xs := (acc ++ (lv R d' js).take i).map fun w => .int (valW V 0 w : Nat)) (a := na) (hna2 []), ?_⟩
            walk_at "g"
            refine ev_calG W 113 (by kernel_rfl!) ?_
            walk_at "g"
            refine cal_of (ranked (σ := numS R V ca na σ ((d', cd) :: ws') (acc ++ (lv R d' js).take i)) W F (T.mono (hσ [] ((d', cd) :: ws') (acc ++ (lv R d' js).take i))) (hσ [] ((d', cd) :: ws') (acc ++ (lv R d' js).take i) _ hC) hC4 (ws := (d', cd) :: ws') (d := d') h1 (by omega) (hca [] ((d', cd) :: ws') (acc ++ (lv R d' js).take i)) (fun r hr => List.mem_append_left _ (List.mem_map_of_mem (f := cntE R) hr)) (List.getElem?_eq_getElem hil) ?_)
            walk_at "g"
            refine ⟨kpr_builtin, cal_append (xs := (acc ++ (lv R d' js).take i).map fun w => .int (valW V 0 w : Nat)) (At.app (l := ((d', cd) :: ws').map (cntE R)) (.tail .head)) (by rw [sizeLine_eq, List.length_map, List.length_append, List.length_take]; omega) ⟨rfl, ?_⟩⟩
            walk_at "g"
            refine hD _ _ (sub_cons rfl (sub_cons rfl (sub_cons rfl (sub_cons rfl (sub_cons rfl (sub_cons rfl sub_nil)))))) ?_
            have e : (acc ++ (lv R d' js).take (i + 1)).map (fun w => AV.int (valW V 0 w : Nat)) = (acc ++ (lv R d' js).take i).map (fun w => AV.int (valW V 0 w : Nat)) ++ [.int (valW V 0 (lv R d' js)[i] : Nat)] := by
              rw [List.take_succ_eq_append_getElem hil, ← List.append_assoc, List.map_append]; rfl
            show (((d', cd) :: ws').map (cntE R) ++ _ :: (na, AO.list (List.map _ (acc ++ (lv R d' js).take (i + 1)))) :: σ).Sublist _
            rw [e]
            exact .refl _
          generalize hac : acc ++ (lv R d' js).take m = ac2
          have hal2 : ac2.length = acc.length + m := by rw [← hac, List.length_append, List.length_take]; omega
          walk_at "g"
          refine ⟨_, _, gm_append (xs := ((d', cd) :: ws').reverse.map fun r => .ref r.2) (a := ca) (hca [] ((d', cd) :: ws') ac2), ?_⟩
          walk_at "g"
          refine ⟨_, _, mk_list (.name _ _) (xs := (List.range 4).map fun k => .ref (row k)) (a := ra) (hσ [] ((d', cd) :: ws') ac2 _ T.ra), (fun p hp => by rw [List.mem_singleton.mp hp]; exact hσ [] ((d', cd) :: ws') ac2 _ T.ra), fun E => ?_⟩
          refine cmp_sub (cmp_n 4 [("counts", .ref ca)] (fun i => (E, .list ((List.range i).map fun k => .int (cnt R (d' + 1) k : Nat))) :: numS R V ca na σ ((d', cd) :: ws') ac2) (fun k => .ref (row k)) (fun i p hp => by rw [List.mem_singleton.mp hp]; exact hσ [_] ((d', cd) :: ws') ac2 _ T.ra) ?_ ?_) (sub_cons (by kernel_rfl!) sub_nil)
          · intro i A' hi hD
            walk_at "g"
            refine ⟨sub_cons rfl sub_nil, ?_⟩
            refine ev_less ?_
            walk_at "g"
            refine ev_calB W "sum" (by kernel_rfl!) ?_
            walk_at "g"
            refine ⟨_, _, mk_list (.name _ _) (xs := (R i).map fun j : Nat => .int j) (a := row i) (hσ [_] ((d', cd) :: ws') ac2 _ (T.rw i hi)), (fun p hp => by rw [List.mem_singleton.mp hp]; exact hσ [_] ((d', cd) :: ws') ac2 _ (T.rw i hi)), fun D => ?_⟩
            refine cmp_sub (cmp_ind2 (ι := List Nat) (L := [("counts", .ref ca)]) (S := fun js => (D, .list (js.map fun j => .int (cnt R d' j : Nat))) :: (E, .list ((List.range i).map fun k => .int (cnt R (d' + 1) k : Nat))) :: numS R V ca na σ ((d', cd) :: ws') ac2) (g := fun j : Nat => .int j) (I := fun ys js => js ++ ys = R i) ?_ ?_ ?_ (R i) [] rfl) (sub_cons (by kernel_rfl!) sub_nil)
            · intro _ p hp; rw [List.mem_singleton.mp hp]; exact hσ [_, _] ((d', cd) :: ws') ac2 _ (T.rw i hi)
            · intro j ys js A hF hI
              have hj : j < 4 := F.row i j (by rw [← hI]; exact List.mem_append_right _ (.head _))
              have hjl := congrArg List.length hI
              have hRl := F.len i
              rw [List.length_append, List.length_cons] at hjl
              walk_at "g"
              refine ⟨sub_cons rfl sub_nil, ?_⟩
              walk_at "g"
              refine ⟨plain_list (a := ca) (hca [_, _] ((d', cd) :: ws') ac2), get_list_neg (a := ca) (hca [_, _] ((d', cd) :: ws') ac2) (by decide) hnl (by decide) hneg ?_⟩
              walk_at "g"
              refine ⟨plain_list (a := cd) (.tail _ (.tail _ (.head _))), get_list (a := cd) (.tail _ (.tail _ (.head _))) (by omega) (by omega) (at4 (fun j => AV.int (cnt R d' j : Nat)) hj) ?_⟩
              exact hF _ (js.map fun j => .int (cnt R d' j : Nat)) _ _ (js ++ [j]) .head (by rw [sizeLine_eq, List.length_map]; omega) (by rw [← hI]; simp) (by rw [List.map_append]; rfl)
            · rintro js hI
              rw [List.append_nil] at hI
              subst hI
              walk_at "g"
              refine cal_sum (ns := (R i).map fun j => ((cnt R d' j : Nat) : Int)) (by rw [List.map_map]; exact .head _) ?_
              rw [sum_cast, ← cnt_succ]
              refine ⟨_, .cons _ (.refl _), ?_⟩
              refine hD _ ((List.range i).map fun k => .int (cnt R (d' + 1) k : Nat)) _ ?_ (by rw [sizeLine_eq]; simp; omega)
              rw [snoc (fun k => AV.int (cnt R (d' + 1) k : Nat)) i]
              exact .head
          walk_at "g"
          refine ⟨kpr_builtin, cal_append (xs := ((d', cd) :: ws').reverse.map fun r => .ref r.2) (.tail (At.app (l := ((d', cd) :: ws').map (cntE R)) .head)) (by rw [sizeLine_eq, List.length_map, List.length_reverse]; omega) ⟨rfl, ?_⟩⟩
          walk_at "g"
          refine hA (d' + 1, (d' + 1, E) :: (d', cd) :: ws', ac2) _ _ ⟨?_, ?_, ?_⟩ ?_ (sub_cons rfl (sub_cons rfl (sub_cons rfl (sub_cons rfl (sub_cons rfl (sub_cons rfl sub_nil)))))) ?_
          · show (d' + 1) :: ((d', cd) :: ws').map (·.1) = _
            rw [h1]; rfl
          · dsimp only; omega
          · dsimp only
            rw [bfs_lv, ← List.append_assoc] at h3
            rw [← h3, ← hac]
            have e1 : (lv R d' js).take (many - acc.length) = (lv R d' js).take m := by
              rcases hm4 with h | h
              · rw [List.take_of_length_le (by omega), List.take_of_length_le (by omega)]
              · rw [h]
            rw [e1]
            congr 1
            congr 1
            rw [List.length_append, List.length_take]
            omega
          · dsimp only; omega
          · have e : (((d' + 1, E) :: (d', cd) :: ws').reverse.map fun r => AV.ref r.2) = (((d', cd) :: ws').reverse.map fun r => AV.ref r.2) ++ [.ref E] := by
              rw [List.reverse_cons, List.map_append]; rfl
            show (cntE R (d' + 1, E) :: (((d', cd) :: ws').map (cntE R) ++ (ca, .list (((d' + 1, E) :: (d', cd) :: ws').reverse.map fun r => AV.ref r.2)) :: _)).Sublist _
            rw [e]
            exact .refl _
    · have hb : many ≤ acc.length := by have := of_decide_eq_false hb; omega
      refine ⟨?_, rfl⟩
      rw [show many - acc.length = 0 by omega, bfs_zero, List.append_nil] at h3
      exact h3
  · rintro ⟨d, ws, acc⟩ l' σ' hX hl hs
    dsimp only at hX
    subst hX
    refine exs_sub ?_ hl hs
    walk_at "g"
    exact ⟨_, List.Sublist.trans (.cons _ (.refl _)) (List.sublist_append_right _ _), q na⟩
section
variable (w : Nat → List Nat) (y g : Nat → Nat)
/-- n pieces from the i-th on -/
noncomputable def rsT : Nat → Nat → List Nat
  | 0, _ => []
  | n + 1, i => pcT w y g i ++ rsT n (i + 1)
theorem up_rest : ∀ n i, upT w y g i ++ rsT w y g n i = upT w y g (i + n)
  | 0, i => by simp [rsT]
  | n + 1, i => by
    show upT w y g i ++ (pcT w y g i ++ rsT w y g n (i + 1)) = _
    rw [← List.append_assoc, ← upT_succ, up_rest n (i + 1), show i + 1 + n = i + (n + 1) by omega]
/-- the blanks that a word's reading leaves -/
noncomputable def blT : Nat → List Nat
  | 0 => []
  | i + 1 => (sepN (g i)).drop (1 - wayE w y i % 2)
/-- what is left before the i-th word -/
noncomputable def uT (i : Nat) : List Nat := blT w y g i ++ rsT w y g (10 - i) i
theorem u_zero : uT w y g 0 = upT w y g 10 := by
  have := up_rest w y g 10 0
  unfold uT blT
  rw [List.nil_append]
  have e : upT w y g 0 = [] := rfl
  rw [e, List.nil_append] at this
  exact this
theorem u_last : uT w y g 10 = blT w y g 10 := List.append_nil _
theorem bl_ws (i : Nat) : ∀ c ∈ blT w y g i, isWs c = true := by
  cases i with
  | zero => intro c hc; cases hc
  | succ i => exact sep_drop _ _
theorem cut {i : Nat} (h : i < 10) : upT w y g 10 = (upT w y g i ++ wdT w y i ++ (sepN (g i)).take (1 - wayE w y i % 2)) ++ uT w y g (i + 1) := by
  have h1 := up_rest w y g (10 - i) i
  rw [show i + (10 - i) = 10 by omega, show 10 - i = (10 - (i + 1)) + 1 by omega] at h1
  rw [← h1]
  show upT w y g i ++ (pcT w y g i ++ rsT w y g (10 - (i + 1)) (i + 1)) = _ ++ ((sepN (g i)).drop (1 - wayE w y i % 2) ++ rsT w y g (10 - (i + 1)) (i + 1))
  have h2 := List.take_append_drop (1 - wayE w y i % 2) (sepN (g i))
  unfold pcT
  simp only [List.append_assoc]
  rw [← List.append_assoc ((sepN (g i)).take _), h2]
theorem u_suf {i : Nat} (h : i ≤ 10) : uT w y g i <:+ upT w y g 10 := by
  cases i with
  | zero => rw [u_zero]; exact List.suffix_refl _
  | succ i => exact ⟨_, (cut w y g (by omega)).symm⟩
theorem wayE_odd {w : Nat → List Nat} {y : Nat → Nat} (i : Nat) : w i ≠ [] ∨ wayE w y i % 2 = 1 := by
  by_cases h : w i = []
  · refine .inr ?_
    unfold wayE
    split
    · rename_i h2; omega
    · rename_i h2
      have : ¬ y i % 2 = 0 := fun h3 => h2 ⟨h, h3⟩
      omega
  · exact .inl h
theorem gets10 {i : Nat} (h : i < 10) (hw : plainL (w i)) (hy : y i < 4) : Gets (upT w y g 10) (lnT (upT w y g 10) (uT w y g i), uT w y g i, []) (w i) (lnT (upT w y g 10) (uT w y g (i + 1)), uT w y g (i + 1), []) := by
  have e : uT w y g i = blT w y g i ++ (wr (w i) (wayE w y i) ++ (sepN (g i) ++ rsT w y g (10 - (i + 1)) (i + 1))) := by
    unfold uT
    rw [show 10 - i = (10 - (i + 1)) + 1 by omega]
    show _ ++ (pcT w y g i ++ _) = _
    unfold pcT wdT
    rw [List.append_assoc]
  exact (gets_piece e (u_suf w y g (by omega)) (bl_ws w y g i) hw (wayE_odd i) (wayE_lt hy)).2
theorem spot10 {i : Nat} (h : i < 10) : spT w y g i = (upT w y g 10).length - (uT w y g (i + 1)).length ∧ 1 + ((upT w y g 10).take (spT w y g i)).count 10 = lnT (upT w y g 10) (uT w y g (i + 1)) ∧ spT w y g i ≤ (upT w y g 10).length := by
  obtain ⟨c, r, e, _, _⟩ := sep_ws (g i)
  have hl : 1 ≤ (sepN (g i)).length := by rw [e]; simp
  have hc := cut w y g h
  generalize hp : upT w y g i ++ wdT w y i ++ (sepN (g i)).take (1 - wayE w y i % 2) = p at hc
  have hpl : p.length = spT w y g i := by
    rw [← hp, List.length_append, List.length_take]
    unfold spT
    omega
  have hlen := congrArg List.length hc
  rw [List.length_append] at hlen
  have hcnt := congrArg (List.count 10) hc
  rw [List.count_append] at hcnt
  have ht : (upT w y g 10).take (spT w y g i) = p := by rw [hc, ← hpl, List.take_left]
  refine ⟨by omega, ?_, by omega⟩
  rw [ht]
  unfold lnT
  omega
end
theorem wN_plain {V : Nat → Nat} {R S : Nat → List Nat} (F : Pl V R) (hS : ∀ p, p < 2 → ∀ j ∈ S p, j < 4) {i : Nat} (hi : i < 10) : plainL (wN V R S i) ∧ True := by
  refine ⟨fun c hc => ?_, trivial⟩
  have key : ∀ l : List Nat, (∀ j ∈ l, j < 4) → c ∈ ltr V l → 65 ≤ c ∧ c ≤ 80 := fun l hl h => by
    obtain ⟨j, hj, rfl⟩ := List.mem_map.mp h
    have := F.lt j (hl j hj)
    omega
  unfold wN at hc
  split at hc
  · split at hc
    · have := F.lt (i / 2) (by omega)
      rw [List.mem_singleton.mp hc]; omega
    · exact key _ (F.row _) hc
  · exact key _ (hS (i - 8) (by omega)) hc
theorem wN_len {V : Nat → Nat} {R S : Nat → List Nat} (F : Pl V R) (hS : ∀ p, p < 2 → (S p).length ≤ 4) {i : Nat} (hi : i < 10) : (wN V R S i).length ≤ 4 := by
  unfold wN ltr
  split
  · split
    · simp
    · rw [List.length_map]; exact F.len _
  · rw [List.length_map]; exact hS _ (by omega)
theorem ok_law (X : (KK pp).In Γ.hB) : FnOk Γ 125 (fdOf (KK pp) 125) (bodyOf (fdOf (KK pp) 125)) ["script"] := fnOkB X (by kernel_rfl!) (bind1 fun _ => by kernel_rfl!)
noncomputable def rowW (r : List Nat × Nat × Nat) : AV := .tup [.str (ofL r.1), .int (r.2.1 : Nat), .int (r.2.2 : Nat)]
noncomputable def rowQ (r : List Nat × Nat × Nat) : PyData := .tuple [.str (ofL r.1), .int (r.2.1 : Nat), .int (r.2.2 : Nat)]
noncomputable def OkR (r : List Nat × Nat × Nat) : Prop := ∀ c ∈ r.1, c < 0x110000
theorem rowQ_ok {r : List Nat × Nat × Nat} (h : OkR r) : OkD (rowQ r) 1 := okD_tup (okDs fun d hd => by
  rcases List.mem_cons.mp hd with rfl | hd
  · exact okD_str h 0
  · rcases List.mem_cons.mp hd with rfl | hd
    · exact okD_int _ 0
    · rw [List.mem_singleton.mp hd]; exact okD_int _ 0)
theorem rowW_avd {σ : Sto} (r : List Nat × Nat × Nat) : AvD σ (rowW r) (rowQ r) := .tup (.cons (.str _) (.cons (.int _) (.cons (.int _) .nil)))
section
variable {V : Nat → Nat} {R S : Nat → List Nat} {t : List Nat} {u : Nat → List Nat} {many : Nat}
theorem acc_rows (F : Pl V R) (hS : ∀ p, p < 2 → ∀ j ∈ S p, j < 4 ∧ 0 < V j) (hm : many ≤ 20) : ∀ p, p ≤ 2 → ∃ rows : List (List Nat × Nat × Nat), accP V R S t u many p = rows.map rowW ∧ ∀ r ∈ rows, OkR r
  | 0, _ => ⟨[], rfl, fun _ h => nomatch h⟩
  | p + 1, hp => by
    obtain ⟨rows, e, h⟩ := acc_rows F hS hm p (by omega)
    refine ⟨rows ++ (bfs R (many - (accP V R S t u many p).length) (lv R 0 (S p))).map fun w => (ltr V w, lnT t (u (8 + p + 1)), t.length - (u (8 + p + 1)).length), ?_, fun r hr => ?_⟩
    · rw [List.map_append, ← e, List.map_map]
      rfl
    · rcases List.mem_append.mp hr with hr | hr
      · exact h r hr
      · obtain ⟨w, hw, rfl⟩ := List.mem_map.mp hr
        have h1 := (told_ok F (hS p (by omega)) (by omega) w hw).1
        intro c hc
        have hc : c ∈ ltr V w := hc
        rw [← h1] at hc
        have := apN_rng _ c hc
        omega
theorem all_rows (F : Pl V R) (hS : ∀ p, p < 2 → ∀ j ∈ S p, j < 4 ∧ 0 < V j) (hm : many ≤ 20) : ∃ rows : List (List Nat × Nat × Nat), toldAll V R S t u many = rows.map rowW ∧ ∀ r ∈ rows, OkR r := by
  obtain ⟨rows, e, h⟩ := acc_rows (t := t) (u := u) F hS hm 2 (Nat.le_refl _)
  unfold toldAll
  split
  · refine ⟨rows ++ [([], 1 + t.count 10, t.length)], by rw [List.map_append, ← e]; rfl, fun r hr => ?_⟩
    rcases List.mem_append.mp hr with hr | hr
    · exact h r hr
    · rw [List.mem_singleton.mp hr]; exact fun c hc => nomatch hc
  · exact ⟨rows, by rw [List.append_nil, e], h⟩
end
theorem law2 (W : Wd Γ (KK pp) mg mb) (M : MkOk Γ mg mb 76 72) {sa : Addr} {xs : List Int} (hl : xs.length ≤ 63) (hm : Fz Γ sa xs) {N : Nat} (hN : N = 20) :
    CalC Γ (k + 6) (.ref 125) [.ref sa] ((72, .obj (tabObj #[])) :: σ) fun v σ' => v = .bool true ∧ ∃ ps, (72, AO.obj (tabObj ps)) ∈ σ' := by
  refine fn_defB W.ok (ok_law W.X) rfl (by kernel_rfl!) (by kernel_rfl!) ?_
  refine exs_cons ?_
  walk_at "g"
  refine ev_calG W 87 (by kernel_rfl!) ?_
  walk_at "g"
  refine cal_of (drawn W hl hm fun va ra ssa ya ga row st τ hsuf T hss hst hya hga => ?_)
  walk_at "g"
  refine ev_calG W 99 (by kernel_rfl!) ?_
  walk_at "g"
  refine ev_calG W 92 (by kernel_rfl!) ?_
  walk_at "g"
  have F := pl_xs xs
  have hS4 : ∀ p, p < 2 → ∀ j ∈ sN xs p, j < 4 := fun p _ j hj => ((sN_ok xs p).1 j hj).1
  have hSl : ∀ p, p < 2 → (sN xs p).length ≤ 4 := fun p _ => (sN_ok xs p).2
  refine cal_of (words W F T hss hst hS4 hSl fun wa => ?_)
  walk_at "g"
  have hwl : ∀ i, i < 10 → (wN (vN xs) (rN xs) (sN xs) i).length ≤ 4 := fun i hi => wN_len F hSl hi
  have hpl : ∀ i, i < 10 → plainL (wN (vN xs) (rN xs) (sN xs) i) := fun i hi => (wN_plain F hS4 hi).1
  refine cal_of (file W (w := wN (vN xs) (rN xs) (sN xs)) (y := yN xs) (g := gN xs) (.head _) (.tail _ hya) (.tail _ hga) hwl (fun i hi => (yN_lt xs i hi).1) (fun i hi => (yN_lt xs i hi).2) fun sp => ?_)
  have htl : (upT (wN (vN xs) (rN xs) (sN xs)) (yN xs) (gN xs) 10).length ≤ 1000000 := by have := upT_len (y := yN xs) (g := gN xs) hwl 10 (Nat.le_refl _); omega
  walk_at "g"
  refine ⟨by rw [sizeLine_eq]; simp, fun da => ?_⟩
  walk_at "g"
  have hw0 : ∀ i, i < 4 → wN (vN xs) (rN xs) (sN xs) (2 * i) = [65 + vN xs i] := fun i h => wN_even _ _ _ h
  have hw1 : ∀ i, i < 4 → wN (vN xs) (rN xs) (sN xs) (2 * i + 1) = ltr (vN xs) (rN xs i) := fun i h => wN_odd _ _ _ h
  have hw2 : ∀ p, wN (vN xs) (rN xs) (sN xs) (8 + p) = ltr (vN xs) (sN xs p) := fun p => wN_start _ _ _ p
  have hy4 : ∀ i, i < 10 → yN xs i < 4 := fun i hi => (yN_lt xs i hi).1
  generalize wN (vN xs) (rN xs) (sN xs) = w at *
  generalize yN xs = y at *
  generalize gN xs = g at *
  have hS := fun p (_ : p < 2) => sN_ok xs p
  generalize vN xs = V at *
  generalize rN xs = R at *
  generalize sN xs = S at *
  have hsp := fun i (h : i < 10) => spot10 w y g h
  have hG := fun i (h : i < 10) => gets10 w y g h (hpl i h) (hy4 i h)
  have hU0 := u_zero w y g
  have hUs := fun i (h : i ≤ 10) => u_suf w y g h
  have hUe : ∀ c ∈ uT w y g 10, isWs c = true := by rw [u_last]; exact bl_ws w y g 10
  generalize upT w y g 10 = t at *
  generalize uT w y g = u at *
  generalize hspg : spT w y g = sg at *
  refine ex_forZ (by kernel_rfl!) ?_ (fun _ _ => rfl)
  refine ev_builtin W.ok (by kernel_rfl!) (mg_none W.X W.ok.g (by kernel_rfl!)) (by rw [W.boot _ (by decide)]; kernel_rfl!) ⟨rfl, ?_⟩ (by kernel_rfl!)
  walk_at "g"
  refine ⟨_, rfl, plain_list (a := sp) (.tail _ (.head _)), slc_list (a := sp) (.tail _ (.head _)) (by rw [sizeLine_eq]; simp) fun ea => ?_⟩
  rw [show pick ((List.range 10).map fun i => AV.int (sg i : Nat)) (some 8) none = (List.range 2).map fun p => AV.int (sg (8 + p) : Nat) from rfl]
  walk_at "g"
  refine ⟨ssa, ea, (List.range 2).map fun p => .ref (st p), (List.range 2).map fun p => .int (sg (8 + p) : Nat), rfl, .tail _ (.tail _ (.tail _ (.tail _ hss))), .head _, ?_⟩
  rw [show zipT ((List.range 2).map fun p => AV.ref (st p)) ((List.range 2).map fun p => AV.int (sg (8 + p) : Nat)) = (List.range 2).map fun p => AV.tup [.ref (st p), .int (sg (8 + p) : Nat)] from rfl]
  have T0 := T
  have hss0 := hss
  generalize hB0 : ((sp, AO.list ((List.range 10).map fun i => AV.int (sg i : Nat))) :: (wa, .list ((List.range 10).map fun i => AV.str (ofL (w i)))) :: τ) = B0 at *
  have hτ : ∀ p ∈ τ, p ∈ B0 := fun p hp => by rw [← hB0]; exact .tail _ (.tail _ hp)
  have T := T.mono hτ
  have hss := hτ _ hss
  have hst := fun p hp => hτ _ (hst p hp)
  refine for_sub (for_n 2 [("due", .ref da), ("text", .str (ofL t)), ("rule", .ref ra), ("values", .ref va)] (fun p => (ea, .list ((List.range 2).map fun p => .int (sg (8 + p) : Nat))) :: (da, .list (accP V R S t u 20 p)) :: B0) (fun p => .tup [.ref (st p), .int (sg (8 + p) : Nat)]) ?_ ?_ ?_) (sub_cons rfl (sub_cons rfl (sub_cons rfl (sub_cons rfl sub_nil)))) (.refl _) ?_
  · intro i p hp
    simp only [List.mem_cons, List.not_mem_nil, or_false] at hp
    rcases hp with rfl | rfl
    · exact .tail _ (.tail _ hss)
    · exact .head _
  · intro p P' A hp hA
    obtain ⟨s1, s2, s3⟩ := hsp (8 + p) (by omega)
    have hal := accP_len V R S t u 20 p
    obtain ⟨hS1, hS2⟩ := hS p hp
    walk_at "g"
    refine ⟨_, rfl, plain_str, slc_str (by rw [ofL_length, sizeLine_eq]; omega) ?_⟩
    have e0 : (ofL t).cps.toList = t := by simp [ofL]
    rw [e0, pick_take _ _ s3]
    refine ⟨_, _, gm_count, ?_⟩
    walk_at "g"
    have enl : (Str.ofString "\n") = ofL [10] := by kernel_rfl!
    rw [enl]
    refine ⟨kpr_builtin, cal_count1 ?_⟩
    walk_at "g"
    refine ex_for ?_ (fun _ _ => rfl)
    walk_at "g"
    refine ev_calG W 118 (by kernel_rfl!) ?_
    walk_at "g"
    refine cal_len_list (xs := accP V R S t u 20 p) (.tail _ (.head _)) (by rw [sizeLine_eq]; omega) ?_
    walk_at "g"
    rw [show ((20 : Int) - ((accP V R S t u 20 p).length : Int)) = ((20 - (accP V R S t u 20 p).length : Nat) : Int) from by omega]
    refine cal_of (nums W F (T.mono fun _ h => .tail _ (.tail _ h)) (.tail _ (.tail _ (hst p hp))) (fun j hj => (hS1 j hj).1) hS2 (many := 20 - (accP V R S t u 20 p).length) (by omega) fun na => ?_)
    have htold := told_ok F hS1 (n := 20 - (accP V R S t u 20 p).length) (by omega)
    have hbl := bfs_len R (20 - (accP V R S t u 20 p).length) (lv R 0 (S p))
    have hnext : accP V R S t u 20 (p + 1) = accP V R S t u 20 p ++ (bfs R (20 - (accP V R S t u 20 p).length) (lv R 0 (S p))).map (tolW V t (u (8 + p + 1))) := rfl
    generalize bfs R (20 - (accP V R S t u 20 p).length) (lv R 0 (S p)) = BF at *
    refine ⟨_, _, mk_list (.name _ _) (xs := BF.map fun w => .int (valW V 0 w : Nat)) (.head _), (fun p hp => by rw [List.mem_singleton.mp hp]; exact .head _), ?_⟩
    refine for_sub (for_ind2 (ι := List AV) (L := fun _ => [("due", .ref da), ("text", .str (ofL t)), ("rule", .ref ra), ("values", .ref va), ("line", .int (lnT t (u (8 + p + 1)) : Nat)), ("spot", .int (sg (8 + p) : Nat))]) (S := fun ac => (na, .list (BF.map fun w => .int (valW V 0 w : Nat))) :: (ea, .list ((List.range 2).map fun p => .int (sg (8 + p) : Nat))) :: (da, .list ac) :: B0) (g := fun w => .int (valW V 0 w : Nat))
      (I := fun ws ac => ac ++ ws.map (tolW V t (u (8 + p + 1))) = accP V R S t u 20 (p + 1) ∧ (∀ w ∈ ws, w ∈ BF) ∧ ac.length + ws.length ≤ 20) ?_ ?_ ?_ BF (accP V R S t u 20 p) ⟨hnext.symm, fun _ h => h, by omega⟩) (sub_cons rfl (sub_cons rfl (sub_cons rfl (sub_cons rfl (sub_cons (by show some (AV.int _) = some (AV.int _); rw [← s2]; congr 2) (sub_cons rfl sub_nil)))))) (.refl _) (fun p hp => by rw [List.mem_singleton.mp hp]; exact .head _)
    · intro i p hp; rw [List.mem_singleton.mp hp]; exact .head _
    · rintro w1 ws ac P'' A' hA' ⟨i1, i2, i3⟩
      obtain ⟨q1, q2, q3⟩ := htold w1 (i2 w1 (.head _))
      simp only [List.length_cons] at i3
      walk_at "g"
      refine ⟨_, _, gm_append (xs := ac) (a := da) (.tail _ (.tail _ (.head _))), ?_⟩
      walk_at "g"
      refine ev_calG W 63 (by kernel_rfl!) ?_
      walk_at "g"
      refine cal_of (int2ap W (by rw [Int.natAbs_natCast]; exact Nat.lt_trans q2 (by decide)) ?_)
      rw [Int.natAbs_natCast]
      refine ⟨_, _, gm_decode, ?_⟩
      walk_at "g"
      refine ⟨kpr_builtin, cal_decode (ap_ne q3) (fun c hc => by have := ap_rng _ c hc; omega) (by have := ap_len _ 21 q2; omega) ?_⟩
      rw [show List.map (fun x => x.toNat) (ap (valW V 0 w1)) = ltr V w1 from q1]
      walk_at "g"
      refine ⟨by rw [sizeLine_eq]; simp, ?_⟩
      walk_at "g"
      refine ⟨kpr_builtin, cal_append (xs := ac) (.tail (.tail .head)) (by rw [sizeLine_eq]; omega) ⟨rfl, ?_⟩⟩
      walk_at "g"
      have et : AV.tup [.str (ofL (ltr V w1)), .int (lnT t (u (8 + p + 1)) : Nat), .int (sg (8 + p) : Nat)] = tolW V t (u (8 + p + 1)) w1 := by rw [s1]; rfl
      rw [et]
      exact hA' (ac ++ [tolW V t (u (8 + p + 1)) w1]) _ _ ⟨by rw [← i1]; simp, fun w hw => i2 w (.tail _ hw), by rw [List.length_append, List.length_singleton]; omega⟩ (sub_cons rfl (sub_cons rfl (sub_cons rfl (sub_cons rfl (sub_cons rfl (sub_cons rfl sub_nil)))))) (.refl _)
    · rintro ac ⟨i1, _, _⟩
      rw [List.map_nil, List.append_nil] at i1
      subst i1
      walk_at "g"
      exact hA _ _ (sub_cons rfl (sub_cons rfl (sub_cons rfl (sub_cons rfl sub_nil)))) (.cons _ (.refl _))
  · have hal := accP_len V R S t u 20 2
    refine exs_join [("due", .ref da), ("text", .str (ofL t))] ((da, .list (toldAll V R S t u 20)) :: B0) ?_ ?_
    · walk_at "g"
      refine cal_len_list (xs := accP V R S t u 20 2) (.tail _ (.head _)) (by rw [sizeLine_eq]; omega) ?_
      walk_at "g"
      refine ⟨fun hc => ?_, fun hc => ?_⟩
      · have hc : (accP V R S t u 20 2).length < 20 := by have := of_decide_eq_true hc; omega
        walk_at "g"
        refine ⟨_, _, gm_append (xs := accP V R S t u 20 2) (a := da) (.tail _ (.head _)), ?_⟩
        walk_at "g"
        refine ⟨_, _, gm_count, ?_⟩
        walk_at "g"
        have enl : (Str.ofString "\n") = ofL [10] := by kernel_rfl!
        rw [enl]
        refine ⟨kpr_builtin, cal_count1 ?_⟩
        walk_at "g"
        refine cal_len_str (by rw [ofL_length, sizeLine_eq]; omega) ?_
        rw [ofL_length]
        walk_at "g"
        refine ⟨by rw [sizeLine_eq]; simp, ?_⟩
        walk_at "g"
        refine ⟨kpr_builtin, cal_append (xs := accP V R S t u 20 2) (.tail .head) (by rw [sizeLine_eq]; omega) ⟨rfl, ?_⟩⟩
        walk_at "g"
        have ee : (Str.ofString "") = ofL [] := by kernel_rfl!
        have et : AV.tup [.str (Str.ofString ""), .int (1 + (t.count 10 : Nat)), .int (t.length : Nat)] = endW t := by unfold endW; rw [ee, Int.natCast_add]; rfl
        rw [et]
        refine ⟨rfl, sub_cons rfl (sub_cons rfl sub_nil), ?_⟩
        unfold toldAll
        rw [if_pos hc]
        exact .cons _ (.refl _)
      · have hc : ¬ (accP V R S t u 20 2).length < 20 := by have := of_decide_eq_false hc; omega
        walk_at "g"
        refine ⟨rfl, sub_cons rfl (sub_cons rfl sub_nil), ?_⟩
        unfold toldAll
        rw [if_neg hc, List.append_nil]
        exact .cons _ (.refl _)
    · walk_at "g"
      refine ev_calG W 106 (by kernel_rfl!) ?_
      walk_at "g"
      obtain ⟨pre, hpre⟩ := hsuf
      have hperm : ((72, AO.obj (tabObj #[])) :: ((da, AO.list (toldAll V R S t u 20)) :: (sp, AO.list ((List.range 10).map fun i => AV.int (sg i : Nat))) :: (wa, .list ((List.range 10).map fun i => AV.str (ofL (w i)))) :: (pre ++ σ))).Perm ((da, AO.list (toldAll V R S t u 20)) :: B0) := by
        rw [← hB0, hpre]
        exact (List.perm_middle (l₁ := (da, AO.list (toldAll V R S t u 20)) :: (sp, AO.list ((List.range 10).map fun i => AV.int (sg i : Nat))) :: (wa, .list ((List.range 10).map fun i => AV.str (ofL (w i)))) :: pre) (a := (72, AO.obj (tabObj #[]))) (l₂ := σ)).symm
      refine cal_of (calC_perm (run W M F hS (many := 20) (by decide) htl hw0 hw1 hw2 hU0 hUs hG hUe fun ta ps => ?_) hperm)
      walk_at "g"
      obtain ⟨rows, erows, hrows⟩ := all_rows (V := V) (R := R) (S := S) (t := t) (u := u) (many := 20) F (fun p hp => (hS p hp).1) (by decide)
      rw [erows]
      refine op_eq_same (d := .list (rows.map rowQ)) (n := 2) (.list (.head _) (avds_map rowW_avd rows)) (.list (.tail _ (.tail _ (.head _))) (avds_map rowW_avd rows)) (okD_list (okDs fun d hd => by obtain ⟨r, hr, rfl⟩ := List.mem_map.mp hd; exact rowQ_ok (hrows r hr))) (by decide) ?_
      exact drp ⟨rfl, ps, .tail _ (.head _)⟩
  · intro p hp
    simp only [List.mem_cons, List.not_mem_nil, or_false] at hp
    rcases hp with rfl | rfl
    · exact .tail _ (.tail _ hss)
    · exact .head _
theorem main (W : Wd Γ (KK pp) mg mb) (M : MkOk Γ mg mb 76 72) {sa : Addr} {xs : List Int} (hl : xs.length ≤ 63) (hm : Fz Γ sa xs) :
    CalC Γ (k + 6) (.ref 125) [.ref sa] ((72, .obj (tabObj #[])) :: σ) fun v σ' => v = .bool true ∧ ∃ ps, (72, AO.obj (tabObj ps)) ∈ σ' := law2 W M hl hm (N := 20) rfl
theorem gh_tab {h : Heap} (hT : h.get? 72 = some (tabObj #[])) {K : Frag} (X : K.In h) (e : codeHdIn K 76 72 = true) : TabsAt [(76, 72)] h := fun q hq => by
  rw [List.mem_singleton.mp hq]
  exact ⟨codeHd_of_K X e, hT⟩
theorem bridge {w : World} {s₁ : Shared} {mg mb : Str → Option Value} {p : Program} {loose : List Str} {mean : ExcName → Option Value} (KX : (KK w.params).In s₁.heap) (hT : s₁.heap.get? 72 = some (tabObj #[])) (T : Top p loose mean mg mb s₁.heap) (hg : s₁.gens = #[])
    {fa sa : Addr} {vs : List Value} {xs : List Int} {prog : Program} (hmg : mg "law" = some (.ref fa)) (hL : s₁.heap.IsList sa vs.toArray) (hI : IntsAre vs xs)
    (main : ∀ Γ : Gd, Γ.prog = prog → Γ.w = w → Wd Γ (KK w.params) mg mb → MkOk Γ mg mb 76 72 → Fz Γ sa xs → CalC Γ 6 (.ref 125) [.ref sa] [(72, .obj (tabObj #[]))] fun v σ' => v = .bool true ∧ ∃ ps, (72, AO.obj (tabObj ps)) ∈ σ')
    {c : ClaimW} {cl : Str → Option Addr} {args : List WData} (hr : ∀ a x, c.raises a x = false) (hp : c.post args (.bool true) args = true) :
    codeAny (model prog w) callerA (.call (.ref fa) ⟨[.ref sa], []⟩) (GoodWG c cl mean args s₁) s₁ := by
  have hTA := gh_tab hT KX (by kernel_rfl!)
  refine kn_post hTA hr ?_
  have hX := ghost_K hTA KX (by kernel_rfl!)
  have hfa : fa = 125 := by
    have h := mg_of KX T.g (n := "law") (v := .ref 125) (by kernel_rfl!)
    rw [hmg] at h
    exact Value.ref.inj (Option.some.inj h)
  subst hfa
  let hB := ghostOf s₁.heap [(76, 72)]
  let Γ : Gd := ⟨prog, w, hB⟩
  have T' := ghost_top hTA T
  have W : Wd Γ (KK w.params) mg mb := ⟨hX, ⟨T'.g, T'.b, T'.nolimit⟩, T'.builtins⟩
  have M : MkOk Γ mg mb 76 72 := ⟨⟨T'.g, T'.b, T'.nolimit⟩, (ghost_code hTA).1, T'.bmain⟩
  let κ : Kap := ⟨hB.get?, fun _ => False, fun _ h => h.elim⟩
  have le : Γ.le κ := fun _ _ e => e
  have R : RepS κ [(72, .obj (tabObj #[]))] s₁.heap := {
    prot := fun b o e => of_hideAll _ e
    objs := fun q hq => by
      rw [List.mem_singleton.mp hq]
      exact ⟨_, hT, rfl, fun _ _ e => by have e2 := congrArg Obj.data e; cases e2⟩
    nodup := by simp
    new := fun q hq => by
      rw [List.mem_singleton.mp hq]
      exact hideAll_none _ (.head _) }
  have hA : AOk 6 callerA := ⟨rfl, by decide +kernel, by decide +kernel⟩
  refine codeAny_mono (main Γ rfl rfl W M ⟨vs, ghost_list hTA hL, hI⟩ callerA κ s₁ [.ref sa] hA le R (.cons (.ref sa) .nil)) fun r s' z => ?_
  rcases r with e | (V | _ | _ | _) <;> first | exact z.elim | skip
  obtain ⟨v, σ', h', tk, e, R', rv, rfl, ps, hm⟩ := z
  subst e
  cases rv
  refine ⟨⟨.inl ⟨.bool true, .bool true, [], rfl, fun x => hr _ x, .bool true, hp, fun _ => ⟨.nil, fun _ h => nomatch h⟩⟩, fun b o e => R'.prot b o e, rfl, hg⟩, ⟨ps, ?_⟩, trivial⟩
  exact R'.ob hm
end Mine
end
set_option maxHeartbeats 8000000 in
theorem PySem.Challenge.cw_pg0050_02_holds : PySem.Challenge.rw_pg0050_02.Holds := by
  exact Mine.hd (by
    k_fill
    intro w s₀ s₁ mg mb G Y fa o pm cd doc dV kV ho hd hcd hD hmg hg args vals as hpre hlay hrd hwl hlo
    have KX := km_in_of Y
    have hT8 := km_tabs_of Y
    have X := (Ground.X G).1
    have V := (Ground.X G).2
    refine Ground.open G ?_
    intro T B D TE TW
    try (refine guard_noD D (by decide +kernel) ?_; clear D)
    wrow_args hpre hlay hrd hwl hlo
    all_goals (
      first | refine callC_kw (enter_call ?_) | refine enter_call ?_
      w_top on)
    rename_i hcond _
    exact Mine.bridge KX (hT8 72 (by simp)) T hg hmg (by assumption) (by assumption) (fun Γ e1 e2 W M F => Mine.main W M (by omega) F) (fun _ _ => rfl) (by kernel_rfl!))

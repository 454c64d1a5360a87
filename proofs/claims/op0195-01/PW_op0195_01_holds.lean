import PyProof.Rows.All
import Wide.All
import OpenK.KWalk
import OpenK.KDescr
import Wide.FinOn
import PyProof.NeKinds
import PySem.Challenge.RW_op0195_01
set_option Elab.async false
set_option genInjectivity false
set_option genSizeOf false
set_option genSizeOfSpec false
section
open PySem PySem.Calls PyProof.Rows
set_option autoImplicit false
set_option linter.unusedVariables false
namespace Mine
/-- a value without its identity token -/
noncomputable def er : Value → Value
  | .int i _ => .int i 0
  | .str s _ => .str s 0
  | .float b _ => .float b 0
  | .bytes b _ => .bytes b 0
  | v => v
noncomputable def erF : Flow → Flow
  | .ret v => .ret (er v)
  | f => f
theorem er_int {v : Value} {i : Int} (h : er v = .int i 0) : ∃ t, v = .int i t := by
  cases v <;> simp [er] at h; subst h; exact ⟨_, rfl⟩
theorem er_str {v : Value} {x : Str} (h : er v = .str x 0) : ∃ t, v = .str x t := by
  cases v <;> simp [er] at h; subst h; exact ⟨_, rfl⟩
theorem er_ref {v : Value} {a : Addr} (h : er v = .ref a) : v = .ref a := by
  cases v <;> simp [er] at h; subst h; rfl
theorem er_bool {v : Value} {b : Bool} (h : er v = .bool b) : v = .bool b := by
  cases v <;> simp [er] at h; subst h; rfl
theorem er_none {v : Value} (h : er v = .none) : v = .none := by
  cases v <;> simp [er] at h; rfl
theorem er_builtin {v : Value} {b : String} (h : er v = .builtin b) : v = .builtin b := by
  cases v <;> simp [er] at h; subst h; rfl
theorem er_type {v : Value} {b : String} (h : er v = .type b) : v = .type b := by
  cases v <;> simp [er] at h; subst h; rfl

set_option genInjectivity true in
/-- an object as the proof sees it -/
inductive AObj where
  | list (xs : List Value)
  | tup (xs : List Value)
  | ns (m : List (Str × Option Value))
  | dict (kvs : List (Int × Value))
  | set (ks : List Int)
  | cell (v : Option Value)
  | slots (c : Addr) (vs : List (Option Value))
  | gen (g : Nat) (x : GenState)
  | raw (o : Obj)
  | objp (P : Obj → Prop)

noncomputable def intEnt (e : DictEntry) : Option (Int × Value) := match e.key with
  | .int k _ => if e.hash = hashInt k then some (k, er e.val) else none
  | _ => none

noncomputable def Rep (s : Shared) (a : Addr) : AObj → Prop
  | .list xs => ∃ vs ep, s.heap.get? a = some { cls := .type "list", data := .seq vs ep } ∧ vs.toList.map er = xs
  | .tup xs => ∃ vs ep, s.heap.get? a = some { cls := .type "tuple", data := .seq vs ep } ∧ vs.toList.map er = xs
  | .ns m => (m.map (·.1)).Nodup ∧ ∃ f, s.heap.Ns a f ∧ ∀ p ∈ m, (f p.1).map er = p.2
  | .dict kvs => (kvs.map (·.1)).Nodup ∧ ∃ es ep, s.heap.get? a = some { cls := .type "dict", data := .dict es ep } ∧ es.toList.map intEnt = kvs.map some
  | .set ks => ks = ks ∧ False
  | .cell v => ∃ o w, s.heap.get? a = some o ∧ o.data = .cell w ∧ w.map er = v
  | .slots c vs => ∃ ws, s.heap.get? a = some { cls := .ref c, data := .plain, slots := ws } ∧ ws.toList.map (·.map er) = vs
  | .gen g x => (∃ o nm qn, s.heap.get? a = some o ∧ o.cls = .type "generator" ∧ o.data = .fields #[.int g 0, nm, qn] ∧ o.slots = #[]) ∧ s.gens[g]? = some x
  | .raw o => s.heap.get? a = some o
  | .objp P => ∃ o, s.heap.get? a = some o ∧ P o

noncomputable abbrev SH := List (Addr × AObj)
noncomputable def genOf (p : Addr × AObj) : Option Nat := match p.2 with
  | .gen g _ => some g
  | _ => none

structure Cx where
  prog : Program
  w : World
  h0 : Heap
  os : OsState
  tabs : List Addr := []
  R : SH → Option (List Env) → Prop := fun _ _ => True
  Rm : ∀ F Φ x, R Φ x → R (F ++ Φ) x := by intros; trivial
noncomputable abbrev Cx.M (C : Cx) : Model := model C.prog C.w

structure Inv (C : Cx) (H : SH) (s : Shared) : Prop where
  keep : ∀ b o, C.h0.get? b = some o → b ∉ C.tabs → s.heap.get? b = some o
  own : ∀ p ∈ H, Rep s p.1 p.2
  new : ∀ p ∈ H, C.h0.get? p.1 = none ∨ p.1 ∈ C.tabs
  nodup : (H.map (·.1)).Nodup
  gens : (H.filterMap genOf).Nodup
  os : s.os = C.os
  bare : AllBare s.gens

theorem Rep.there {s : Shared} {a : Addr} {x : AObj} (h : Rep s a x) : ∃ o, s.heap.get? a = some o := by
  cases x with
  | list xs => obtain ⟨_, _, h, _⟩ := h; exact ⟨_, h⟩
  | tup xs => obtain ⟨_, _, h, _⟩ := h; exact ⟨_, h⟩
  | ns m => obtain ⟨_, f, ⟨o, _, _, h, _⟩, _⟩ := h; exact ⟨_, h⟩
  | dict m => obtain ⟨_, _, _, h, _⟩ := h; exact ⟨_, h⟩
  | set m => exact h.2.elim
  | cell m => obtain ⟨_, _, h, _⟩ := h; exact ⟨_, h⟩
  | slots c m => obtain ⟨_, h, _⟩ := h; exact ⟨_, h⟩
  | gen g m => obtain ⟨⟨_, _, _, h, _⟩, _⟩ := h; exact ⟨_, h⟩
  | raw o => exact ⟨_, h⟩
  | objp P => obtain ⟨_, h, _⟩ := h; exact ⟨_, h⟩

/-- the object stands as it stood: what is said of it stays so -/
theorem Rep.same {s s' : Shared} {a : Addr} {x : AObj} (h : Rep s a x) (e : ∀ o, s.heap.get? a = some o → s'.heap.get? a = some o)
    (g : ∀ n y, x = .gen n y → s'.gens[n]? = s.gens[n]?) : Rep s' a x := by
  cases x with
  | list xs => obtain ⟨v, p, h, r⟩ := h; exact ⟨v, p, e _ h, r⟩
  | tup xs => obtain ⟨v, p, h, r⟩ := h; exact ⟨v, p, e _ h, r⟩
  | ns m => obtain ⟨n, f, ⟨o, es, ep, h, r⟩, q⟩ := h; exact ⟨n, f, ⟨o, es, ep, e _ h, r⟩, q⟩
  | dict m => obtain ⟨n, v, p, h, r⟩ := h; exact ⟨n, v, p, e _ h, r⟩
  | set m => exact h.2.elim
  | cell m => obtain ⟨v, p, h, r⟩ := h; exact ⟨v, p, e _ h, r⟩
  | slots c m => obtain ⟨v, h, r⟩ := h; exact ⟨v, e _ h, r⟩
  | gen n y => obtain ⟨⟨v, nm, qn, h, r⟩, q⟩ := h; exact ⟨⟨v, nm, qn, e _ h, r⟩, (g n y rfl).trans q⟩
  | raw o => exact e _ h
  | objp P => obtain ⟨o, h, r⟩ := h; exact ⟨o, e _ h, r⟩

theorem Inv.perm {C : Cx} {H H' : SH} {s : Shared} (I : Inv C H s) (p : H.Perm H') : Inv C H' s :=
  ⟨I.keep, fun q hq => I.own q (p.mem_iff.mpr hq), fun q hq => I.new q (p.mem_iff.mpr hq), (p.map _).nodup_iff.mp I.nodup, (p.filterMap _).nodup_iff.mp I.gens, I.os, I.bare⟩
theorem Inv.sub {C : Cx} {H H' : SH} {s : Shared} (I : Inv C H s) (p : H'.Sublist H) : Inv C H' s :=
  ⟨I.keep, fun q hq => I.own q (p.subset hq), fun q hq => I.new q (p.subset hq), (p.map _).nodup I.nodup, (p.filterMap _).nodup I.gens, I.os, I.bare⟩

/-- only the tokens and what was drawn turn -/
theorem Inv.tok {C : Cx} {H : SH} {s s' : Shared} (I : Inv C H s) (eh : s'.heap = s.heap) (eg : s'.gens = s.gens) (eo : s'.os = s.os) : Inv C H s' :=
  ⟨by rw [eh]; exact I.keep, fun p hp => (I.own p hp).same (by rw [eh]; exact fun _ e => e) (by rw [eg]; exact fun _ _ _ => rfl), I.new, I.nodup, I.gens, eo.trans I.os, by rw [eg]; exact I.bare⟩

theorem Inv.fresh {C : Cx} {H : SH} {s : Shared} (I : Inv C H s) {a : Addr} (ha : s.heap.objs.size ≤ a) : C.h0.get? a = none ∨ a ∈ C.tabs := by
  by_cases t : a ∈ C.tabs
  · exact .inr t
  · left
    cases q : C.h0.get? a with
    | none => rfl
    | some o => exact absurd (Heap.lt_size (I.keep a o q t)) (Nat.not_lt.mpr ha)
/-- one object more -/
theorem Inv.push {C : Cx} {H : SH} {s s' : Shared} {x : AObj} (I : Inv C H s) {a : Addr} (ha : s.heap.objs.size ≤ a) (hk : ∀ b o, s.heap.get? b = some o → s'.heap.get? b = some o)
    (hx : Rep s' a x) (hg : genOf (a, x) = none) (eg : s'.gens = s.gens) (eo : s'.os = s.os) : Inv C ((a, x) :: H) s' := by
  have out : ∀ p ∈ H, p.1 ≠ a := fun p hp e => by
    obtain ⟨o, ho⟩ := (I.own p hp).there
    have q := Heap.lt_size ho
    rw [e] at q
    exact absurd q (Nat.not_lt.mpr ha)
  refine ⟨fun b o e t => hk b o (I.keep b o e t), fun p hp => ?_, fun p hp => ?_, ?_, ?_, eo.trans I.os, by rw [eg]; exact I.bare⟩
  · rcases List.mem_cons.mp hp with rfl | hp
    · exact hx
    · exact (I.own p hp).same (fun o e => hk _ _ e) (by rw [eg]; exact fun _ _ _ => rfl)
  · rcases List.mem_cons.mp hp with rfl | hp
    · exact I.fresh ha
    · exact I.new p hp
  · rw [List.map_cons, List.nodup_cons]
    refine ⟨fun hm => ?_, I.nodup⟩
    obtain ⟨p, hp, e⟩ := List.mem_map.mp hm
    exact out p hp e
  · rw [List.filterMap_cons, hg]; exact I.gens

/-- one object turned -/
theorem Inv.turn {C : Cx} {H : SH} {s s' : Shared} {a : Addr} {x y : AObj} (I : Inv C ((a, x) :: H) s) (hs : ∀ b o, b ≠ a → s.heap.get? b = some o → s'.heap.get? b = some o)
    (hy : Rep s' a y) (hg : genOf (a, y) = genOf (a, x)) (eg : s'.gens = s.gens) (eo : s'.os = s.os) : Inv C ((a, y) :: H) s' := by
  have nd := I.nodup
  rw [List.map_cons, List.nodup_cons] at nd
  refine ⟨fun b o e t => ?_, fun p hp => ?_, fun p hp => ?_, ?_, ?_, eo.trans I.os, by rw [eg]; exact I.bare⟩
  · refine hs b o (fun q => ?_) (I.keep b o e t)
    subst q
    rcases I.new (b, x) (.head _) with h | h
    · rw [h] at e; cases e
    · exact t h
  · rcases List.mem_cons.mp hp with rfl | hp
    · exact hy
    · exact (I.own p (.tail _ hp)).same (fun o e => hs _ _ (fun q => nd.1 (List.mem_map.mpr ⟨p, hp, q⟩)) e) (by rw [eg]; exact fun _ _ _ => rfl)
  · rcases List.mem_cons.mp hp with rfl | hp
    · exact I.new (a, x) (.head _)
    · exact I.new p (.tail _ hp)
  · rw [List.map_cons, List.nodup_cons]; exact nd
  · have := I.gens
    rw [List.filterMap_cons] at this ⊢
    rw [hg]; exact this

/-- the frames below ask nothing -/
noncomputable def Cx.Off (C : Cx) : Prop := ∀ Φ x, C.R Φ x
structure Bd (C : Cx) (d : Nat) (Φ : SH) (A : Around) : Prop where
  depth : A.depth + d < recursionLimit
  units : A.units + 8 * d < cLine
  handled : A.handled = none
  fr : C.R Φ A.frames
theorem Bd.more {C : Cx} {Φ F : SH} {d : Nat} {A : Around} (b : Bd C d Φ A) : Bd C d (F ++ Φ) A := ⟨b.depth, b.units, b.handled, C.Rm F Φ _ b.fr⟩
theorem Bd.in1 {C : Cx} {Φ : SH} {d : Nat} {A : Around} (b : Bd C (d + 1) Φ A) : Bd C d Φ A.in1 := ⟨by have := b.depth; simp; lia, by have := b.units; simp; lia, b.handled, b.fr⟩
theorem Bd.deeper {C : Cx} {Φ : SH} {d : Nat} {A : Around} {env : Env} (o : C.Off) (b : Bd C (d + 1) Φ A) : Bd C d Φ (A.deeper env) := ⟨by have := b.depth; show A.depth + 1 + d < _; lia, by have := b.units; simp; lia, b.handled, o _ _⟩

/-- the objects are some H' that is in P, and those beside them -/
inductive Post (C : Cx) (Φ : SH) (P : SH → Prop) (s : Shared) : Prop
  | mk (H' : SH) (I : Inv C (H' ++ Φ) s) (h : P H') : Post C Φ P s
/-- from the objects H (and any others beside them, that stay) the tree ends in Q, and raises nothing -/
noncomputable def T {α : Type} (C : Cx) (d : Nat) (t : Sem α) (H : SH) (Q : α → SH → Prop) : Prop :=
  ∀ (Φ : SH) (A : Around) (s : Shared), Bd C d Φ A → Inv C (H ++ Φ) s → wpAny C.M A t (fun a s' => Post C Φ (Q a) s') (fun _ _ => False) s
noncomputable def TC (C : Cx) (d : Nat) (c : Code) (H : SH) (Q : Flow → SH → Prop) : Prop :=
  ∀ (Φ : SH) (A : Around) (s : Shared), Bd C d Φ A → Inv C (H ++ Φ) s → codeAny C.M A c (fun r s' => ∃ f, r = .ok f ∧ Post C Φ (Q (erF f)) s') s

section
variable {α β : Type} {C : Cx} {d : Nat} {H : SH}
theorem T.run {t : Sem α} {Q : α → SH → Prop} {Φ : SH} {A : Around} {s : Shared} {K : α → Shared → Prop} {E : Value → Shared → Prop} (h : T C d t H Q) (b : Bd C d Φ A) (I : Inv C (H ++ Φ) s)
    (k : ∀ a s' H', Inv C (H' ++ Φ) s' → Q a H' → K a s') : wpAny C.M A t K E s := wpAny_mono (h Φ A s b I) (fun a s' z => by obtain ⟨H', I', q⟩ := z; exact k a s' H' I' q) fun _ _ x => x.elim
theorem T.pure {a : α} {Q : α → SH → Prop} (h : Q a H) : T C d (Pure.pure a) H Q := fun _ _ _ _ I => wpAny_pure ⟨H, I, h⟩
theorem T.bind {m : Sem α} {f : α → Sem β} {Q : β → SH → Prop} (h : T C d m H fun a H' => T C d (f a) H' Q) : T C d (m >>= f) H Q :=
  fun Φ A s b I => wpAny_bind (T.run h b I fun _ s' _ I' q => q Φ A s' b I')
theorem T.mono {t : Sem α} {Q Q' : α → SH → Prop} (h : T C d t H Q) (hq : ∀ a H', Q a H' → Q' a H') : T C d t H Q' :=
  fun Φ A s b I => T.run h b I fun _ _ H' I' q => ⟨H', I', hq _ _ q⟩
theorem T.perm {t : Sem α} {H' : SH} {Q : α → SH → Prop} (p : H.Perm H') (h : T C d t H' Q) : T C d t H Q :=
  fun Φ A s b I => h Φ A s b (I.perm (p.append_right Φ))
theorem T.frame {t : Sem α} {F : SH} {Q : α → SH → Prop} (h : T C d t H fun a H' => Q a (H' ++ F)) : T C d t (H ++ F) Q :=
  fun Φ A s b I => T.run h b.more (by rw [← List.append_assoc]; exact I) fun _ _ H' I' q => ⟨H' ++ F, by rw [List.append_assoc]; exact I', q⟩
theorem T.within {t : Sem α} {H₁ F : SH} {Q₁ Q : α → SH → Prop} (p : H.Perm (H₁ ++ F)) (h : T C d t H₁ Q₁) (k : ∀ a H', Q₁ a H' → Q a (H' ++ F)) : T C d t H Q :=
  T.perm p (T.frame (T.mono h k))
theorem T.drop {t : Sem α} {H' : SH} {Q : α → SH → Prop} (p : H'.Sublist H) (h : T C d t H' Q) : T C d t H Q :=
  fun Φ A s b I => h Φ A s b (I.sub (p.append_right Φ))
theorem T.post {t : Sem α} {Q : α → SH → Prop} (h : T C d t H fun a H' => ∃ H₁, H₁.Sublist H' ∧ Q a H₁) : T C d t H Q :=
  fun Φ A s b I => T.run h b I fun _ _ _ I' ⟨H₁, p, q⟩ => ⟨H₁, I'.sub (p.append_right Φ), q⟩
theorem T.postPerm {t : Sem α} {Q : α → SH → Prop} (h : T C d t H fun a H' => ∃ H₁, H'.Perm H₁ ∧ Q a H₁) : T C d t H Q :=
  fun Φ A s b I => T.run h b I fun _ _ _ I' ⟨H₁, p, q⟩ => ⟨H₁, I'.perm (p.append_right Φ), q⟩
theorem T.eq {t t' : Sem α} {Q : α → SH → Prop} (e : t = t') (h : T C d t' H Q) : T C d t H Q := e ▸ h
end

/-- the entry (a, x) stands in H; H' is H with y in its place -/
inductive Swap (a : Addr) (x y : AObj) : SH → SH → Prop
  | head {r : SH} : Swap a x y ((a, x) :: r) ((a, y) :: r)
  | tail {p : Addr × AObj} {r r' : SH} : Swap a x y r r' → Swap a x y (p :: r) (p :: r')
theorem Swap.front {a : Addr} {x y : AObj} {H H' : SH} (h : Swap a x y H H') : ∃ R, H.Perm ((a, x) :: R) ∧ ((a, y) :: R).Perm H' := by
  induction h with
  | head => exact ⟨_, .refl _, .refl _⟩
  | tail _ ih =>
    obtain ⟨R, p, q⟩ := ih
    exact ⟨_ :: R, (p.cons _).trans (.swap ..), (List.Perm.swap ..).trans (q.cons _)⟩
inductive Has (a : Addr) (x : AObj) : SH → Prop
  | head {r : SH} : Has a x ((a, x) :: r)
  | tail {p : Addr × AObj} {r : SH} : Has a x r → Has a x (p :: r)
theorem Has.mem {a : Addr} {x : AObj} {H : SH} (h : Has a x H) : (a, x) ∈ H := by
  induction h with
  | head => exact .head _
  | tail _ ih => exact .tail _ ih
theorem Has.swap {a : Addr} {x : AObj} {H : SH} (h : Has a x H) : Swap a x x H H := by
  induction h with
  | head => exact .head
  | tail _ ih => exact .tail ih
theorem Has.of_mem {a : Addr} {x : AObj} {H : SH} (h : (a, x) ∈ H) : Has a x H := by
  induction H with
  | nil => cases h
  | cons p r ih =>
    rcases List.mem_cons.mp h with e | h
    · subst e; exact .head
    · exact .tail (ih h)
theorem Has.append_left {a : Addr} {x : AObj} {H F : SH} (h : Has a x H) : Has a x (H ++ F) := .of_mem (List.mem_append_left _ h.mem)
theorem Has.append_right {a : Addr} {x : AObj} {H F : SH} (h : Has a x F) : Has a x (H ++ F) := .of_mem (List.mem_append_right _ h.mem)
theorem Swap.append_left {a : Addr} {x y : AObj} {H H' F : SH} (h : Swap a x y H H') : Swap a x y (H ++ F) (H' ++ F) := by
  induction h with
  | head => exact .head
  | tail _ ih => exact .tail ih
theorem Swap.append_right {a : Addr} {x y : AObj} {H H' F : SH} (h : Swap a x y H H') : Swap a x y (F ++ H) (F ++ H') := by
  induction F with
  | nil => exact h
  | cons p r ih => exact .tail ih
/-- one entry let go -/
theorem Inv.pop {C : Cx} {H : SH} {s s' : Shared} {a : Addr} {x : AObj} (I : Inv C ((a, x) :: H) s) (hs : ∀ b o, b ≠ a → s.heap.get? b = some o → s'.heap.get? b = some o)
    (eg : s'.gens = s.gens) (eo : s'.os = s.os) : Inv C H s' := by
  have nd := I.nodup
  rw [List.map_cons, List.nodup_cons] at nd
  refine ⟨fun b o e t => ?_, fun p hp => ?_, fun p hp => I.new p (.tail _ hp), nd.2, ?_, eo.trans I.os, by rw [eg]; exact I.bare⟩
  · refine hs b o (fun q => ?_) (I.keep b o e t)
    subst q
    rcases I.new (b, x) (.head _) with h | h
    · rw [h] at e; cases e
    · exact t h
  · exact (I.own p (.tail _ hp)).same (fun o e => hs _ _ (fun q => nd.1 (List.mem_map.mpr ⟨p, hp, q⟩)) e) (by rw [eg]; exact fun _ _ _ => rfl)
  · exact ((List.sublist_cons_self (a, x) H).filterMap genOf).nodup I.gens
section
variable {C : Cx} {H : SH} {s : Shared} {Φ : SH}
theorem Has.rep {a : Addr} {x : AObj} (h : Has a x H) (I : Inv C (H ++ Φ) s) : Rep s a x := I.own (a, x) (List.mem_append_left _ h.mem)
theorem Swap.inv {a : Addr} {x y : AObj} {H' : SH} {s' : Shared} (h : Swap a x y H H') (I : Inv C (H ++ Φ) s) (hs : ∀ b o, b ≠ a → s.heap.get? b = some o → s'.heap.get? b = some o)
    (hy : Rep s' a y) (hg : genOf (a, y) = genOf (a, x)) (eg : s'.gens = s.gens) (eo : s'.os = s.os) : Inv C (H' ++ Φ) s' := by
  obtain ⟨R, p, q⟩ := h.front
  have I₁ : Inv C ((a, x) :: (R ++ Φ)) s := I.perm (p.append_right Φ)
  exact (I₁.turn hs hy hg eg eo).perm (q.append_right Φ)
theorem Swap.rep {a : Addr} {x y : AObj} {H' : SH} (h : Swap a x y H H') (I : Inv C (H ++ Φ) s) : Rep s a x := by
  obtain ⟨R, p, q⟩ := h.front
  exact (I.perm (p.append_right Φ)).own (a, x) (.head _)
end
end Mine
end
section
open PySem PySem.Calls PyProof.Rows
set_option autoImplicit false
set_option linter.unusedVariables false
namespace Mine
noncomputable def TE (C : Cx) (d : Nat) (e : Expr) (env : Env) (H : SH) (Q : Value → SH → Prop) : Prop := T C d (eval e env) H fun v => Q (er v)
noncomputable def TX (C : Cx) (d : Nat) (ss : List Stmt) (env : Env) (H : SH) (Q : Flow → SH → Prop) : Prop := T C d (execs ss env) H fun f => Q (erF f)
noncomputable def TB (C : Cx) (d : Nat) (e : Expr) (env : Env) (H : SH) (Q : Bool → SH → Prop) : Prop := T C d (isTrue e env (eval e env)) H Q
noncomputable def TBin (C : Cx) (d : Nat) (op : Operator) (a b : Value) (H : SH) (Q : Value → SH → Prop) : Prop := ∀ x y, er x = a → er y = b → T C d (binaryOp op x y) H fun v => Q (er v)
noncomputable def TInp (C : Cx) (d : Nat) (op : Operator) (a b : Value) (H : SH) (Q : Value → SH → Prop) : Prop := ∀ x y, er x = a → er y = b → T C d (inplaceOp op x y) H fun v => Q (er v)
noncomputable def TCmp (C : Cx) (d : Nat) (op : CmpOp) (a b : Value) (H : SH) (Q : Value → SH → Prop) : Prop := ∀ x y, er x = a → er y = b → T C d (compareOp op x y) H fun v => Q (er v)
noncomputable def TTr (C : Cx) (d : Nat) (a : Value) (H : SH) (Q : Bool → SH → Prop) : Prop := ∀ x, er x = a → T C d (truthy x) H Q
noncomputable def TUn (C : Cx) (d : Nat) (op : UnaryOp) (a : Value) (H : SH) (Q : Value → SH → Prop) : Prop := ∀ x, er x = a → T C d (unaryOp op x) H fun v => Q (er v)
/-- a call by place -/
noncomputable def TCall (C : Cx) (d : Nat) (f : Value) (as : List Value) (H : SH) (Q : Value → SH → Prop) : Prop := ∀ xs, xs.map er = as → T C d (call f xs []) H fun v => Q (er v)

section
variable {C : Cx} {d : Nat} {env : Env} {H : SH} {Q : Value → SH → Prop} {QF : Flow → SH → Prop} {QB : Bool → SH → Prop}

-- constants
theorem TE.cint {i k pos} (h : Q (.int i 0) H) : TE C d (.Constant (.int i) k pos) env H Q := fun Φ A s b I => wpAny_Constant_int ⟨H, I.tok rfl rfl rfl, h⟩
theorem TE.cstr {x k pos} (h : Q (.str x 0) H) : TE C d (.Constant (.str x) k pos) env H Q := fun Φ A s b I => Constant_str ⟨H, I.tok rfl rfl rfl, h⟩
theorem TE.cbool {x k pos} (h : Q (.bool x) H) : TE C d (.Constant (.bool x) k pos) env H Q := fun Φ A s b I => Constant_bool ⟨H, I, h⟩
theorem TE.cnone {k pos} (h : Q .none H) : TE C d (.Constant .none k pos) env H Q := fun Φ A s b I => Constant_none ⟨H, I, h⟩

-- names
-- the names of a block, written short
noncomputable def rI (x : Str) (i : Int) (r : List (Str × Option Value)) : List (Str × Option Value) := (x, some (.int i 0)) :: r
noncomputable def rS (x : Str) (c : Str) (r : List (Str × Option Value)) : List (Str × Option Value) := (x, some (.str c 0)) :: r
noncomputable def rR (x : Str) (a : Addr) (r : List (Str × Option Value)) : List (Str × Option Value) := (x, some (.ref a)) :: r
noncomputable def rV (x : Str) (o : Option Value) (r : List (Str × Option Value)) : List (Str × Option Value) := (x, o) :: r
inductive Loc (x : Str) : Option Value → List (Str × Option Value) → Prop
  | hI {i r} : Loc x (some (.int i 0)) (rI x i r)
  | hS {c r} : Loc x (some (.str c 0)) (rS x c r)
  | hR {a r} : Loc x (some (.ref a)) (rR x a r)
  | hV {o r} : Loc x o (rV x o r)
  | tI {v n i r} (h : Loc x v r) : Loc x v (rI n i r)
  | tS {v n c r} (h : Loc x v r) : Loc x v (rS n c r)
  | tR {v n a r} (h : Loc x v r) : Loc x v (rR n a r)
  | tV {v n o r} (h : Loc x v r) : Loc x v (rV n o r)
  | head {v r} : Loc x v ((x, v) :: r)
  | tail {v p r} (h : Loc x v r) : Loc x v (p :: r)
theorem Loc.mem {x : Str} {v : Option Value} {m : List (Str × Option Value)} (h : Loc x v m) : (x, v) ∈ m := by
  induction h with
  | hI => exact .head _
  | hS => exact .head _
  | hR => exact .head _
  | hV => exact .head _
  | head => exact .head _
  | tI _ ih => exact .tail _ ih
  | tS _ ih => exact .tail _ ih
  | tR _ ih => exact .tail _ ih
  | tV _ ih => exact .tail _ ih
  | tail _ ih => exact .tail _ ih
/-- a row written by what its value is -/
inductive Nrm (x : Str) : Option Value → List (Str × Option Value) → List (Str × Option Value) → Prop
  | I {i r} : Nrm x (some (.int i 0)) r (rI x i r)
  | S {c r} : Nrm x (some (.str c 0)) r (rS x c r)
  | R {a r} : Nrm x (some (.ref a)) r (rR x a r)
  | V {o r} : Nrm x o r (rV x o r)
theorem Nrm.eq {x : Str} {o : Option Value} {r m : List (Str × Option Value)} (h : Nrm x o r m) : m = (x, o) :: r := by cases h <;> rfl
inductive Put (x : Str) (v : Option Value) : List (Str × Option Value) → List (Str × Option Value) → Prop
  | hI {i r m} (n : Nrm x v r m) : Put x v (rI x i r) m
  | hS {c r m} (n : Nrm x v r m) : Put x v (rS x c r) m
  | hR {a r m} (n : Nrm x v r m) : Put x v (rR x a r) m
  | hV {o r m} (n : Nrm x v r m) : Put x v (rV x o r) m
  | tI {n i r r'} (h : Put x v r r') : Put x v (rI n i r) (rI n i r')
  | tS {n c r r'} (h : Put x v r r') : Put x v (rS n c r) (rS n c r')
  | tR {n a r r'} (h : Put x v r r') : Put x v (rR n a r) (rR n a r')
  | tV {n o r r'} (h : Put x v r r') : Put x v (rV n o r) (rV n o r')
  | head {o r} : Put x v ((x, o) :: r) ((x, v) :: r)
  | tail {p r r'} (h : Put x v r r') : Put x v (p :: r) (p :: r')
noncomputable def PutK (x : Str) (v : Option Value) (m m' : List (Str × Option Value)) : Prop := m'.map (·.1) = m.map (·.1) ∧ x ∈ m.map (·.1) ∧ ∀ p ∈ m', p = (x, v) ∨ (p ∈ m ∧ ((m.map (·.1)).Nodup → p.1 ≠ x))
theorem PutK.head {x : Str} {v o : Option Value} {r m : List (Str × Option Value)} (e : m = (x, v) :: r) : PutK x v ((x, o) :: r) m := by
  subst e
  refine ⟨rfl, .head _, fun p hp => ?_⟩
  rcases List.mem_cons.mp hp with rfl | hp
  · exact .inl rfl
  · refine .inr ⟨.tail _ hp, fun nd e => ?_⟩
    rw [List.map_cons, List.nodup_cons] at nd
    exact nd.1 (List.mem_map.mpr ⟨p, hp, e⟩)
theorem PutK.tail {x : Str} {v : Option Value} {q : Str × Option Value} {r r' : List (Str × Option Value)} (h : PutK x v r r') : PutK x v (q :: r) (q :: r') := by
  obtain ⟨h1, h2, h3⟩ := h
  refine ⟨by rw [List.map_cons, List.map_cons, h1], .tail _ h2, fun p hp => ?_⟩
  rcases List.mem_cons.mp hp with rfl | hp
  · refine .inr ⟨.head _, fun nd e => ?_⟩
    rw [List.map_cons, List.nodup_cons] at nd
    exact nd.1 (e ▸ h2)
  · rcases h3 p hp with e | ⟨h4, h5⟩
    · exact .inl e
    · refine .inr ⟨.tail _ h4, fun nd => h5 ?_⟩
      rw [List.map_cons, List.nodup_cons] at nd
      exact nd.2
theorem Put.keys {x : Str} {v : Option Value} {m m' : List (Str × Option Value)} (h : Put x v m m') : m'.map (·.1) = m.map (·.1) ∧ x ∈ m.map (·.1) ∧ ∀ p ∈ m', p = (x, v) ∨ (p ∈ m ∧ ((m.map (·.1)).Nodup → p.1 ≠ x)) := by
  show PutK x v m m'
  induction h with
  | hI n => exact PutK.head n.eq
  | hS n => exact PutK.head n.eq
  | hR n => exact PutK.head n.eq
  | hV n => exact PutK.head n.eq
  | head => exact PutK.head rfl
  | tI _ ih => exact ih.tail
  | tS _ ih => exact ih.tail
  | tR _ ih => exact ih.tail
  | tV _ ih => exact ih.tail
  | tail _ ih => exact ih.tail

theorem opt_er {o : Option Value} {v : Value} (h : o.map er = some v) : ∃ u, o = some u ∧ er u = v := by
  cases o with
  | none => cases h
  | some u => exact ⟨u, rfl, Option.some.inj h⟩
theorem TE.loc {x pos m v} (hL : Has env.locals (.ns m) H) (hx : Loc x (some v) m) (hl : env.kindOf x = some .local) (hk : env.scope.kind = .function) (h : Q v H) (hd : (x == ("__debug__" : Str)) = false := by decide) :
    TE C d (.Name x pos) env H Q := fun Φ A s b I => by
  obtain ⟨nd, f, hf, hm⟩ := hL.rep I
  obtain ⟨u, hu, hv⟩ := opt_er (hm _ hx.mem)
  exact wpAny_Name (wpAny_loadName_local hk hl hf hu ⟨H, I, by subst hv; exact h⟩) hd

/-- the top's names -/
structure Names (C : Cx) (mg mb : Str → Option Value) : Prop where
  g : C.h0.Ns mainGlobals mg
  b : C.h0.Ns builtinsNs mb
  tg : mainGlobals ∉ C.tabs
  tb : builtinsNs ∉ C.tabs
theorem Inv.ns {C : Cx} {H : SH} {s : Shared} (I : Inv C H s) {a : Addr} {m : Str → Option Value} (h : C.h0.Ns a m) (ha : a ∉ C.tabs) : s.heap.Ns a m := by
  obtain ⟨o, es, ep, h, r⟩ := h
  exact ⟨o, es, ep, I.keep _ _ h ha, r⟩
theorem TE.glob {x pos mg mb v} (N : Names C mg mb) (hv : mg x = some v) (hl : env.kindOf x = some .globalImplicit) (hk : env.scope.kind = .function) (hg : env.globals = mainGlobals) (h : Q (er v) H) (hd : (x == ("__debug__" : Str)) = false := by decide) :
    TE C d (.Name x pos) env H Q := fun Φ A s b I =>
  Name_function_global hk hl (loadGlobal_global (hg ▸ I.ns N.g N.tg) hv ⟨H, I, h⟩) hd
theorem TE.blt {x pos mg mb v} (N : Names C mg mb) (hn : mg x = none) (hv : mb x = some v) (hl : env.kindOf x = some .globalImplicit) (hk : env.scope.kind = .function) (hg : env.globals = mainGlobals) (hb : env.builtins = builtinsNs) (h : Q (er v) H) (hd : (x == ("__debug__" : Str)) = false := by decide) :
    TE C d (.Name x pos) env H Q := fun Φ A s b I =>
  Name_function_global hk hl (loadGlobal_builtin (hg ▸ I.ns N.g N.tg) hn (hb ▸ I.ns N.b N.tb) hv ⟨H, I, h⟩) hd
theorem TE.cell {x pos c v} (hL : Has c (.cell (some v)) H) (hc : env.cells.lookup x = some c) (hl : env.kindOf x = some .cell) (hk : env.scope.kind = .function) (h : Q v H) (hd : (x == ("__debug__" : Str)) = false := by decide) :
    TE C d (.Name x pos) env H Q := fun Φ A s b I => by
  obtain ⟨o, w, ho, hw, e⟩ := hL.rep I
  obtain ⟨u, rfl, hv⟩ := opt_er e
  exact wpAny_Name (wpAny_loadName_cell hk hl hc ⟨o, ho, hw⟩ ⟨H, I, by subst hv; exact h⟩) hd
theorem TE.free {x pos c v} (hL : Has c (.cell (some v)) H) (hc : env.cells.lookup x = some c) (hl : env.kindOf x = some .free) (hk : env.scope.kind = .function) (h : Q v H) (hd : (x == ("__debug__" : Str)) = false := by decide) (hn : (x == ("__classdict__" : Str)) = false := by decide) :
    TE C d (.Name x pos) env H Q := fun Φ A s b I => by
  obtain ⟨o, w, ho, hw, e⟩ := hL.rep I
  obtain ⟨u, rfl, hv⟩ := opt_er e
  exact wpAny_Name (wpAny_loadName_free hk hl hc ⟨o, ho, hw⟩ ⟨H, I, by subst hv; exact h⟩ hn) hd

/-- a local name stored -/
theorem T.store {x m m' H'} {v : Value} {Q : Unit → SH → Prop} (hl : env.kindOf x = some .local) (hk : env.scope.kind = .function) (hp : Put x (some (er v)) m m') (hs : Swap env.locals (.ns m) (.ns m') H H') (h : Q () H') :
    T C d (storeName env x v) H Q := fun Φ A s b I => by
  obtain ⟨nd, f, hf, hm⟩ := hs.rep I
  obtain ⟨k1, k2, k3⟩ := hp.keys
  refine wpAny_storeName_local hl hf (fun h' hn hb => ⟨H', hs.inv I (fun b o q e => (hb.2 b q).trans e) ⟨by rw [k1]; exact nd, _, hn, fun p hp' => ?_⟩ rfl rfl rfl, h⟩) (by rw [hk]; rfl)
  rcases k3 p hp' with rfl | ⟨h4, h5⟩
  · simp
  · show Option.map er (if p.1 = x then _ else _) = _
    rw [if_neg (h5 nd)]; exact hm p h4
theorem T.storeC {x c w H'} {v : Value} {Q : Unit → SH → Prop} (hl : env.kindOf x = some .cell) (hk : env.scope.kind = .function) (hc : env.cells.lookup x = some c) (hs : Swap c (.cell w) (.cell (some (er v))) H H') (h : Q () H') :
    T C d (storeName env x v) H Q := fun Φ A s b I => by
  obtain ⟨o, u, ho, hu, e⟩ := hs.rep I
  refine wpAny_storeName_cell hk hl hc ⟨o, ho, hu⟩ fun h' hn hb => ?_
  obtain ⟨o', ho', hd'⟩ := hn
  exact ⟨H', hs.inv I (fun b o q e => (hb.2 b q).trans e) ⟨o', _, ho', hd', rfl⟩ rfl rfl rfl, h⟩

-- operators
theorem TE.binop {l op r pos} (h : TE C d l env H fun a H₁ => TE C d r env H₁ fun b H₂ => TBin C d op a b H₂ Q) : TE C d (.BinOp l op r pos) env H Q := fun Φ A s b I =>
  wpAny_BinOp (T.run h b I fun x s₁ _ I₁ h₁ => T.run h₁ b I₁ fun y s₂ _ I₂ h₂ => h₂ x y rfl rfl Φ A s₂ b I₂)
theorem TE.cmp {l op r pos} (h : TE C d l env H fun a H₁ => TE C d r env H₁ fun b H₂ => TCmp C d op a b H₂ Q) (hm : behindInMarks op r = false := by with_unfolding_all rfl) : TE C d (.Compare l [op] [r] pos) env H Q := fun Φ A s b I =>
  wpAny_Compare1 (T.run h b I fun x s₁ _ I₁ h₁ => T.run h₁ b I₁ fun y s₂ _ I₂ h₂ => h₂ x y rfl rfl Φ A s₂ b I₂) hm
theorem TE.unop {op x pos} (h : TE C d x env H fun a H₁ => TUn C d op a H₁ Q) : TE C d (.UnaryOp op x pos) env H Q := fun Φ A s b I =>
  UnaryOp_ (T.run h b I fun x s₁ _ I₁ h₁ => h₁ x rfl Φ A s₁ b I₁)
theorem TE.ifexp {t x y pos} (h : TB C d t env H fun c H₁ => if c then TE C d x env H₁ Q else TE C d y env H₁ Q) : TE C d (.IfExp t x y pos) env H Q := fun Φ A s b I => by
  refine IfExp_ (T.run h b I fun c s₁ _ I₁ h₁ => ?_)
  cases c <;> exact h₁ Φ A s₁ b I₁
theorem TE.or2 {x y pos} (h : TE C d x env H fun v H₁ => TTr C d v H₁ fun c H₂ => if c then Q v H₂ else TE C d y env H₂ Q) : TE C d (.BoolOp .Or [x, y] pos) env H Q := fun Φ A s b I => by
  refine BoolOp_or (T.run h b I fun v s₁ _ I₁ h₁ => T.run (h₁ v rfl) b I₁ fun c s₂ H₂ I₂ h₂ => ?_)
  cases c with
  | true => exact ⟨H₂, I₂, h₂⟩
  | false => exact BoolOp_one (h₂ Φ A s₂ b I₂)
-- tests
theorem TB.cmp {l op r pos} (h : TE C d l env H fun a H₁ => TE C d r env H₁ fun b H₂ => TCmp C d op a b H₂ fun v H₃ => TTr C d v H₃ QB) (hm : behindInMarks op r = false := by with_unfolding_all rfl) : TB C d (.Compare l [op] [r] pos) env H QB := fun Φ A s b I =>
  wpAny_isTrue_Compare1 (T.run h b I fun x s₁ _ I₁ h₁ => T.run h₁ b I₁ fun y s₂ _ I₂ h₂ => T.run (h₂ x y rfl rfl) b I₂ fun z s₃ _ I₃ h₃ => h₃ z rfl Φ A s₃ b I₃) hm
theorem TB.or1 {x pos} (h : TB C d x env H QB) : TB C d (.BoolOp .Or [x] pos) env H QB := fun Φ A s b I => by
  refine isTrue_or (T.run h b I fun c s₁ H₁ I₁ h₁ => ?_)
  cases c with
  | true => exact ⟨H₁, I₁, h₁⟩
  | false => exact isTrue_or_nil ⟨H₁, I₁, h₁⟩
theorem TB.or2 {x y pos} (h : TB C d x env H fun c H₁ => if c then QB true H₁ else TB C d y env H₁ QB) : TB C d (.BoolOp .Or [x, y] pos) env H QB := fun Φ A s b I => by
  refine isTrue_or (T.run h b I fun c s₁ H₁ I₁ h₁ => ?_)
  cases c with
  | true => exact ⟨H₁, I₁, h₁⟩
  | false => exact TB.or1 (pos := pos) h₁ Φ A s₁ b I₁
theorem TB.plain {e} (h : TE C d e env H fun v H₁ => TTr C d v H₁ QB) (he : ∀ whole, isTrue e env whole = (do let v ← whole; standAt e.pos; holding [v] (truthy v)) := by with_unfolding_all (intro _; rfl)) : TB C d e env H QB := fun Φ A s b I =>
  isTrue_plain (T.run h b I fun v s₁ _ I₁ h₁ => h₁ v rfl Φ A s₁ b I₁) (he _)
theorem TTr.bool {c : Bool} (h : QB c H) : TTr C d (.bool c) H QB := fun x e Φ A s b I => by
  cases er_bool e; exact wpAny_truthy_bool ⟨H, I, h⟩
theorem TTr.none (h : QB false H) : TTr C d .none H QB := fun x e Φ A s b I => by
  cases er_none e; exact truthy_none ⟨H, I, h⟩
-- ints
variable {i j : Int}
theorem TBin.add (h : Q (.int (i + j) 0) H) : TBin C d .Add (.int i 0) (.int j 0) H Q := fun x y ex ey Φ A s b I => by
  obtain ⟨t, rfl⟩ := er_int ex; obtain ⟨u, rfl⟩ := er_int ey; exact PyProof.Rows.add_int ⟨H, I.tok rfl rfl rfl, h⟩
theorem TBin.sub (h : Q (.int (i - j) 0) H) : TBin C d .Sub (.int i 0) (.int j 0) H Q := fun x y ex ey Φ A s b I => by
  obtain ⟨t, rfl⟩ := er_int ex; obtain ⟨u, rfl⟩ := er_int ey; exact PyProof.Rows.sub_int ⟨H, I.tok rfl rfl rfl, h⟩
theorem TBin.mul (hm : IntMulOk i j) (h : Q (.int (i * j) 0) H) : TBin C d .Mult (.int i 0) (.int j 0) H Q := fun x y ex ey Φ A s b I => by
  obtain ⟨t, rfl⟩ := er_int ex; obtain ⟨u, rfl⟩ := er_int ey; exact PyProof.Rows.mul_int ⟨H, I.tok rfl rfl rfl, h⟩ hm
theorem TBin.mod (hj : j ≠ 0) (h : Q (.int (i.fmod j) 0) H) : TBin C d .Mod (.int i 0) (.int j 0) H Q := fun x y ex ey Φ A s b I => by
  obtain ⟨t, rfl⟩ := er_int ex; obtain ⟨u, rfl⟩ := er_int ey; exact PyProof.Rows.mod_int hj ⟨H, I.tok rfl rfl rfl, h⟩
theorem TBin.fdiv (hj : j ≠ 0) (hs : j.natAbs < 1073741824) (h : Q (.int (i.fdiv j) 0) H) : TBin C d .FloorDiv (.int i 0) (.int j 0) H Q := fun x y ex ey Φ A s b I => by
  obtain ⟨t, rfl⟩ := er_int ex; obtain ⟨u, rfl⟩ := er_int ey; exact PyProof.Rows.floordiv_int hj ⟨H, I.tok rfl rfl rfl, h⟩ (.inl (PyProof.noPylong_small hs))
theorem TBin.pow (hj : 0 ≤ j) (hj2 : j ≤ 1000000) (hi : i.natAbs < 2 ^ 64) (h : Q (.int (i ^ j.toNat) 0) H) : TBin C d .Pow (.int i 0) (.int j 0) H Q := fun x y ex ey Φ A s b I => by
  obtain ⟨t, rfl⟩ := er_int ex; obtain ⟨u, rfl⟩ := er_int ey; exact PyProof.Rows.pow_int_small hj hj2 hi ⟨H, I.tok rfl rfl rfl, h⟩
theorem TInp.add (h : Q (.int (i + j) 0) H) : TInp C d .Add (.int i 0) (.int j 0) H Q := fun x y ex ey Φ A s b I => by
  obtain ⟨t, rfl⟩ := er_int ex; obtain ⟨u, rfl⟩ := er_int ey; exact PyProof.Rows.iadd_int ⟨H, I.tok rfl rfl rfl, h⟩
theorem TUn.neg (h : Q (.int (-i) 0) H) : TUn C d .USub (.int i 0) H Q := fun x ex Φ A s b I => by
  obtain ⟨t, rfl⟩ := er_int ex; exact PyProof.Rows.neg_int ⟨H, I.tok rfl rfl rfl, h⟩
theorem TCmp.lt (h : Q (.bool (decide (i < j))) H) : TCmp C d .Lt (.int i 0) (.int j 0) H Q := fun x y ex ey Φ A s b I => by
  obtain ⟨t, rfl⟩ := er_int ex; obtain ⟨u, rfl⟩ := er_int ey; exact PyProof.Rows.lt_int ⟨H, I, h⟩
theorem TCmp.eq (h : Q (.bool (i == j)) H) : TCmp C d .Eq (.int i 0) (.int j 0) H Q := fun x y ex ey Φ A s b I => by
  obtain ⟨t, rfl⟩ := er_int ex; obtain ⟨u, rfl⟩ := er_int ey; exact PyProof.Rows.eq_int ⟨H, I, h⟩
theorem TCmp.ne (h : Q (.bool (i != j)) H) : TCmp C d .NotEq (.int i 0) (.int j 0) H Q := fun x y ex ey Φ A s b I => by
  obtain ⟨t, rfl⟩ := er_int ex; obtain ⟨u, rfl⟩ := er_int ey; exact PyProof.Rows.ne_int ⟨H, I, h⟩
theorem TCmp.eqs {x y : Str} (h : Q (.bool (x == y)) H) : TCmp C d .Eq (.str x 0) (.str y 0) H Q := fun _ _ ex ey Φ A s b I => by
  obtain ⟨t, rfl⟩ := er_str ex; obtain ⟨u, rfl⟩ := er_str ey; exact PyProof.Rows.eq_str ⟨H, I, h⟩

-- statements
/-- what follows a block -/
noncomputable def thenX (C : Cx) (d : Nat) (rest : List Stmt) (env : Env) (QF : Flow → SH → Prop) (f : Flow) (H : SH) : Prop := match f with
  | .next => TX C d rest env H QF
  | g => QF g H
/-- what follows a turn of a loop -/
@[reducible] def turnX (J B : SH → Prop) (QF : Flow → SH → Prop) (f : Flow) (H : SH) : Prop := match f with
  | .next => J H
  | .cont => J H
  | .brk => B H
  | .ret v => QF (.ret v) H
theorem TX.nil (h : QF .next H) : TX C d [] env H QF := T.pure (Q := fun f => QF (erF f)) h
theorem TX.cons {st rest} (h : T C d (exec st env) H fun f H₁ => thenX C d rest env QF (erF f) H₁) : TX C d (st :: rest) env H QF := fun Φ A s b I =>
  wpAny_execs_cons (T.run h b I fun f s₁ H₁ I₁ h₁ => by
    cases f with
    | next => exact h₁ Φ A s₁ b I₁
    | brk => exact ⟨H₁, I₁, h₁⟩
    | cont => exact ⟨H₁, I₁, h₁⟩
    | ret v => exact ⟨H₁, I₁, h₁⟩)
theorem TX.ret {e pos rest} (h : TE C d e env H fun v H₁ => QF (.ret v) H₁) : TX C d (.Return (some e) pos :: rest) env H QF :=
  TX.cons fun Φ A s b I => wpAny_Return_some (wpAny_mono (h Φ A s b I) (fun v s₁ q => q) fun _ _ x => x)
theorem TX.brk {pos rest} (h : QF .brk H) : TX C d (.Break pos :: rest) env H QF := TX.cons fun Φ A s b I => wpAny_Break ⟨H, I, h⟩
theorem TX.cont {pos rest} (h : QF .cont H) : TX C d (.Continue pos :: rest) env H QF := TX.cons fun Φ A s b I => wpAny_Continue ⟨H, I, h⟩
theorem TX.ite {test body orelse pos rest} (h : TB C d test env H fun c H₁ => if c then TX C d body env H₁ (thenX C d rest env QF) else TX C d orelse env H₁ (thenX C d rest env QF)) :
    TX C d (.If test body orelse pos :: rest) env H QF :=
  TX.cons fun Φ A s b I => by
    refine wpAny_If (T.run h b I fun c s₁ _ I₁ h₁ => ?_)
    cases c <;> exact h₁ Φ A s₁ b I₁
/-- an expression for its effect; what comes back is no object, or one of the heap -/
theorem TX.expr {e pos rest} (h : TE C d e env H fun v H₁ => (∀ a, v ≠ .ref a) ∧ TX C d rest env H₁ QF) (hi : interactive env = false := by with_unfolding_all rfl) (hs : swapsWith e none pos.line env = pure false := by with_unfolding_all rfl) :
    TX C d (.Expr e pos :: rest) env H QF :=
  TX.cons fun Φ A s b I => wpAny_Expr (T.run h b I fun v s₁ H₁ I₁ ⟨hv, h₁⟩ => by
    cases v <;> first | exact ⟨H₁, I₁, h₁⟩ | exact absurd rfl (hv _)) hi hs
end
end Mine
end
section
open PySem PySem.Calls PyProof.Rows
set_option autoImplicit false
set_option linter.unusedVariables false
namespace Mine
/-- the look at what is called goes through and turns nothing -/
noncomputable def KeepOk (C : Cx) (f : Value) (H : SH) : Prop := ∀ (Φ : SH) (A : Around) (s : Shared), Inv C (H ++ Φ) s → wpAny C.M A (keeperOf f) (fun _ s' => s' = s) (fun _ _ => False) s
noncomputable def TArgs (C : Cx) (d : Nat) (pos : Pos) (args : List Expr) (env : Env) (H : SH) (Q : List Value → SH → Prop) : Prop := T C d (spliced (backTo pos (starEach args env))) H fun vs => Q (vs.map er)
noncomputable def TM (C : Cx) (d : Nat) (v : Value) (name : Str) (H : SH) (Q : Value → List Value → SH → Prop) : Prop := ∀ x pl, er x = v → T C d (getMethod x name pl) H fun fx => Q fx.1 (fx.2.map er)
section
variable {C : Cx} {d : Nat} {env : Env} {H : SH} {Q : Value → SH → Prop} {QF : Flow → SH → Prop} {QB : Bool → SH → Prop} {QL : List Value → SH → Prop}

theorem TArgs.nil {pos} (h : QL [] H) : TArgs C d pos [] env H QL := fun Φ A s b I => args_nil ⟨H, I, h⟩
theorem TArgs.cons {pos e rest} (h : TE C d e env H fun v H₁ => TArgs C d pos rest env H₁ fun vs H₂ => QL (v :: vs) H₂) (he : starEach (e :: rest) env = (false, eval e env) :: starEach rest env := by with_unfolding_all rfl) :
    TArgs C d pos (e :: rest) env H QL := fun Φ A s b I =>
  args_cons (T.run h b I fun v s₁ _ I₁ h₁ => wpAny_mono (h₁ Φ A s₁ b I₁) (fun vs s₂ q => q) fun _ _ x => x) he

theorem wpAny_operate {M : Model} {A : Around} {E : Value → Shared → Prop} {s : Shared} {vs : List Value} {m : Sem Value} {Q : Value → Shared → Prop} (h : wpAny M A m Q E s) : wpAny M A (operate vs m) Q E s :=
  fun Γ p hΓ => by rw [Sem.wp_operate]; exact h Γ p hΓ
theorem T.callWith {pos f first args} {Q : Value → SH → Prop} (h : T C d (evalArgs f true args []) H fun a H₁ => a.kw = [] ∧ KeepOk C f H₁ ∧ T C d (call f (first ++ a.pos) []) H₁ Q) : T C d (callWith pos f first args []) H Q := by
  intro Φ A s b I
  unfold PySem.callWith
  refine wpAny_bind (wpAny_holding (T.run h b I fun a s₁ H₁ I₁ ⟨hkw, hk, hc⟩ => wpAny_bind (wpAny_standAt ?_)))
  have tail : ∀ {t : Sem Value}, wpAny C.M A t (fun v s' => Post C Φ (Q v) s') (fun _ _ => False) s₁ → wpAny C.M A (t >>= fun r => holding [r] point >>= fun _ => Pure.pure r) (fun v s' => Post C Φ (Q v) s') (fun _ _ => False) s₁ :=
    fun ht => wpAny_bind (wpAny_mono ht (fun r s₂ hr => wpAny_bind (wpAny_holding (wpAny_point (wpAny_pure hr)))) fun _ _ x => x)
  have go := hc Φ A s₁ b I₁
  rw [hkw]
  refine wpAny_bind (wpAny_mono (hk Φ A s₁ I₁) (fun k s₂ e => ?_) fun _ _ x => x.elim)
  subst e
  cases k <;> cases (args.any (·.1) || ([] : List (Option Str × Sem Value)).any (·.1.isNone)) <;> dsimp only <;>
    first
      | exact tail go
      | exact tail (by unfold callMarked; exact wpAny_keep go)
      | exact tail (wpAny_operate go)
      | (split <;> first | exact tail go | exact tail (by unfold callMarked; exact wpAny_keep go))
theorem T.evalArgs {f args} {QA : Args → SH → Prop} (hl : ∀ x, args ≠ [(true, x)]) (h : T C d (spliced args) H fun vs H₁ => QA ⟨vs, []⟩ H₁) : T C d (PySem.evalArgs f true args []) H QA := fun Φ A s b I => by
  have e : PySem.evalArgs f true args [] = (do
      let vs ← spliced args
      holding (vs ++ []) (do
        let kw ← evalAll []
        let pos ← (Pure.pure vs : Sem (List Value))
        Pure.pure (⟨pos, ([] : List Str).zip kw⟩ : Args))) := by
    unfold PySem.evalArgs
    match args, hl with
    | [], _ => rfl
    | [(true, x)], hl => exact absurd rfl (hl x)
    | [(false, x)], _ => rfl
    | (true, x) :: y :: r, _ => rfl
    | (false, x) :: y :: r, _ => rfl
  rw [e]
  refine wpAny_bind (wpAny_mono (h Φ A s b I) (fun vs s₁ q => wpAny_holding ?_) fun _ _ x => x)
  exact wpAny_bind (wpAny_pure (wpAny_bind (wpAny_pure (wpAny_pure q))))

/-- what is called is told apart by its kind -/
noncomputable def Fix (f : Value) : Prop := ∀ x, er x = f → x = f
theorem Fix.ref {a : Addr} : Fix (.ref a) := fun _ e => er_ref e
theorem Fix.builtin {a : String} : Fix (.builtin a) := fun _ e => er_builtin e
theorem Fix.type {a : String} : Fix (.type a) := fun _ e => er_type e
theorem KeepOk.builtin {id : String} : KeepOk C (.builtin id) H := fun Φ A s I => wpAny_pure rfl
theorem KeepOk.type {id : String} : KeepOk C (.type id) H := fun Φ A s I => wpAny_pure rfl
theorem KeepOk.func {f : Addr} {o : Obj} {fd : FuncData} (ho : C.h0.get? f = some o) (hd : o.data = .func fd) (ht : f ∉ C.tabs) : KeepOk C (.ref f) H := fun Φ A s I => by
  unfold keeperOf
  refine wpAny_bind (wpAny_load (I.keep _ _ ho ht) ?_)
  rw [hd]; exact wpAny_pure rfl
/-- the call goes through -/
inductive CallOk (C : Cx) (d : Nat) (f : Value) (as : List Value) (H : SH) (Q : Value → SH → Prop) : Prop
  | mk (fix : Fix f) (keep : KeepOk C f H) (call : TCall C d f as H Q) : CallOk C d f as H Q
inductive MethOk (C : Cx) (d : Nat) (f : Value) (as : List Value) (H : SH) (Q : Value → SH → Prop) : Prop
  | mk (keep : KeepOk C f H) (call : TCall C d f as H Q) : MethOk C d f as H Q
/-- one argument alone, and it has a star -/
noncomputable def oneStar (l : List (Bool × Sem Value)) : Bool := l.map (·.1) == [true]
theorem oneStar_back {pos : Pos} {l : List (Bool × Sem Value)} (h : oneStar l = false) : ∀ x, backTo pos l ≠ [(true, x)] := fun x q => by
  have e : (backTo pos l).map (·.1) = l.map (·.1) := by
    unfold backTo
    rw [List.map_map]; rfl
  rw [q] at e
  unfold oneStar at h
  rw [← e] at h
  cases h
theorem TE.call {func args pos} (h : TE C d func env H fun f H₁ => TArgs C d pos args env H₁ fun as H₂ => CallOk C d f as H₂ Q)
    (hl : oneStar (starEach args env) = false := by with_unfolding_all rfl)
    (he : eval (.Call func args [] pos) env = (do PySem.callWith pos (← eval func env) [] (backTo pos (starEach args env)) (backToKw pos (keywordEach [] env))) := by with_unfolding_all rfl) : TE C d (.Call func args [] pos) env H Q := fun Φ A s b I =>
  Call_ (T.run h b I fun f s₁ H₁ I₁ h₁ => T.callWith (Q := fun v => Q (er v)) (T.evalArgs (oneStar_back hl) (T.mono h₁ fun vs H₂ ⟨hf, hk, hc⟩ => by
    have e := hf f rfl
    rw [← e] at hk hc
    exact ⟨rfl, hk, hc vs rfl⟩)) Φ A s₁ b I₁) he
theorem TE.meth {o name apos args pos} {pl : Sem Bool} (h : TE C d o env H fun v H₁ => TM C d v name H₁ fun f first H₂ => TArgs C d pos args env H₂ fun as H₃ => MethOk C d f (first ++ as) H₃ Q)
    (hl : oneStar (starEach args env) = false := by with_unfolding_all rfl)
    (he : eval (.Call (.Attribute o name apos) args [] pos) env = (do
      let ov ← eval o env
      standAt apos.atName
      let (f, first) ← holding [ov] (getMethod ov name pl)
      PySem.callWith pos f first (backTo pos (starEach args env)) []) := by with_unfolding_all rfl) : TE C d (.Call (.Attribute o name apos) args [] pos) env H Q := fun Φ A s b I =>
  MethodCall_ (T.run h b I fun v s₁ H₁ I₁ h₁ => T.run (h₁ v pl rfl) b I₁ fun fx s₂ H₂ I₂ h₂ => T.callWith (Q := fun v => Q (er v)) (T.evalArgs (oneStar_back hl) (T.mono h₂ fun vs H₃ ⟨hk, hc⟩ =>
    ⟨rfl, hk, hc (fx.2 ++ vs) (by rw [List.map_append])⟩)) Φ A s₂ b I₂) he
/-- a method of a built-in type -/
theorem TM.of {v : Value} {T₀ : String} {name : Str} {id : String} {QM : Value → List Value → SH → Prop} (pa : PlainAttrs T₀) (sl : Slot T₀ name id) (hty : typeOf (.builtin id) = pure (.type "method_descriptor"))
    (hT : ∀ x, er x = v → ∀ Φ s, Inv C (H ++ Φ) s → s.TypeIs x T₀ ∧ ∀ a, x = .ref a → ∃ o, s.heap.get? a = some o ∧ o.dict = none) (h : QM (.builtin id) [v] H) : TM C d v name H QM := fun x pl e Φ A s b I => by
  obtain ⟨h1, h2⟩ := hT x e Φ s I
  exact getMethod_builtin h1 pa sl hty h2 ⟨H, I, by rw [← e] at h; exact h⟩
end
end Mine
end
section
open PySem PySem.Calls PyProof.Rows
set_option autoImplicit false
set_option linter.unusedVariables false
set_option linter.unusedSimpArgs false
namespace Mine
/-- several objects more -/
theorem Inv.add {C : Cx} {H K : SH} {s s' : Shared} (I : Inv C H s) (hK : ∀ p ∈ K, s.heap.objs.size ≤ p.1 ∧ Rep s' p.1 p.2 ∧ genOf p = none) (hn : (K.map (·.1)).Nodup)
    (hk : ∀ b o, s.heap.get? b = some o → s'.heap.get? b = some o) (eg : s'.gens = s.gens) (eo : s'.os = s.os) : Inv C (K ++ H) s' := by
  have base : Inv C H s' := ⟨fun b o e t => hk b o (I.keep b o e t), fun p hp => (I.own p hp).same (fun o e => hk _ _ e) (by rw [eg]; exact fun _ _ _ => rfl), I.new, I.nodup, I.gens, eo.trans I.os, by rw [eg]; exact I.bare⟩
  have out : ∀ p ∈ H, p.1 < s.heap.objs.size := fun p hp => by
    obtain ⟨o, ho⟩ := (I.own p hp).there
    exact Heap.lt_size ho
  refine ⟨base.keep, fun p hp => ?_, fun p hp => ?_, ?_, ?_, base.os, base.bare⟩
  · rcases List.mem_append.mp hp with hp | hp
    · exact (hK p hp).2.1
    · exact base.own p hp
  · rcases List.mem_append.mp hp with hp | hp
    · exact I.fresh (hK p hp).1
    · exact base.new p hp
  · rw [List.map_append, List.nodup_append]
    refine ⟨hn, I.nodup, fun a ha b hb e => ?_⟩
    obtain ⟨p, hp, rfl⟩ := List.mem_map.mp ha
    obtain ⟨q, hq, rfl⟩ := List.mem_map.mp hb
    have := out q hq
    rw [← e] at this
    exact absurd this (Nat.not_lt.mpr (hK p hp).1)
  · rw [List.filterMap_append]
    have : K.filterMap genOf = [] := List.filterMap_eq_nil_iff.mpr fun p hp => (hK p hp).2.2
    rw [this]; exact I.gens

structure Fn (C : Cx) (f : Addr) (fd : FuncData) : Prop where
  at' : ∃ o, C.h0.get? f = some o ∧ o.data = .func fd
  out : f ∉ C.tabs
  code : C.h0.CodeRec fd.code fd.qualname
  codeOut : ∀ c, fd.code = .ref c → c ∉ C.tabs
structure Lim (C : Cx) : Prop where
  lim : C.h0.NoLimit
  out : cStatics ∉ C.tabs
  off : C.Off

noncomputable def cellNames (fd : FuncData) : List Str := (fd.scope.names.filter (·.2 == .cell)).map (·.1)
noncomputable def locNames (fd : FuncData) : List Str := (fd.scope.names.filter (·.2 == .local)).map (·.1)
noncomputable def entryH (fd : FuncData) (env : Env) (eb : List (Str × Value)) (H : SH) : SH :=
  (env.locals, .ns ((locNames fd).map fun n => (n, eb.reverse.lookup n))) :: ((env.cells.map fun p => (p.2, .cell (eb.reverse.lookup p.1))) ++ H)
noncomputable def mkEnv (fd : FuncData) (L : Addr) (cs : List (Str × Addr)) (a : Addr) : Env := newEnv fd.scope L fd.globals cs (fd.qualname ++ ".<locals>.") (some a) fd.code none fd.builtins
noncomputable def erB (bs : List (Str × Value)) : List (Str × Value) := bs.map fun p => (p.1, er p.2)
noncomputable def retOf : Flow → Value
  | .ret v => v
  | _ => .none
/-- the block that a call of the def opens -/
structure IsEnv (fd : FuncData) (f : Addr) (env : Env) : Prop where
  scope : env.scope = fd.scope
  globals : env.globals = fd.globals
  builtins : env.builtins = fd.builtins
  code : env.code = fd.code
  func : env.func = some f
  frame : env.frame = some env.locals
  qual : env.qual = fd.qualname ++ ".<locals>."
  cells : env.cells.map (·.1) = (cellNames fd).reverse
theorem IsEnv.kind {fd : FuncData} {f : Addr} {env : Env} (E : IsEnv fd f env) {x : Str} {k : NameKind} (h : fd.scope.names.lookup x = some k) : env.kindOf x = some k := by
  unfold Env.kindOf; rw [E.scope]; exact h
/-- what the body must show -/
noncomputable def FnBody (C : Cx) (d : Nat) (fd : FuncData) (f : Addr) (body : List Stmt) (eb : List (Str × Value)) (H : SH) (Q : Value → SH → Prop) : Prop :=
  ∀ env : Env, IsEnv fd f env → TX C d body env (entryH fd env eb H) fun fl H' => ∃ H₂, H₂.Sublist H' ∧ Q (retOf fl) H₂

theorem nodup_rev {α : Type} {l : List α} (h : l.Nodup) : l.reverse.Nodup := (List.reverse_perm l).nodup_iff.mpr h
theorem cellsFrom_names : ∀ (names : List (Str × NameKind)) (n : Nat) (acc : List (Str × Addr)), (cellsFrom n names acc).map (·.1) = ((names.filter (·.2 == .cell)).map (·.1)).reverse ++ acc.map (·.1)
  | [], _, _ => rfl
  | (x, k) :: r, n, acc => by
    unfold cellsFrom
    cases h : (k == NameKind.cell) with
    | true => rw [if_pos rfl, cellsFrom_names r (n + 1) _, List.filter_cons]; simp [h]
    | false => rw [if_neg (by simp), cellsFrom_names r n acc, List.filter_cons]; simp [h]
theorem lookup_erB (bs : List (Str × Value)) (n : Str) : (bs.lookup n).map er = (erB bs).lookup n := by
  induction bs with
  | nil => rfl
  | cons p r ih =>
    obtain ⟨x, v⟩ := p
    show Option.map er (List.lookup n ((x, v) :: r)) = List.lookup n ((x, er v) :: erB r)
    rw [List.lookup_cons, List.lookup_cons]
    cases h : (n == x) with
    | true => rfl
    | false => exact ih
theorem erB_reverse (bs : List (Str × Value)) : (erB bs).reverse = erB bs.reverse := by simp [erB]
theorem bindL_is (k : Str → Option NameKind) : ∀ (bs : List (Str × Value)) (m : Str → Option Value) (n : Str), k n = some .local → bindL k bs m n = (bs.reverse.lookup n).or (m n)
  | [], m, n, _ => by simp [bindL]
  | (x, v) :: r, m, n, h => by
    unfold bindL
    rw [bindL_is k r _ n h, List.reverse_cons, List.lookup_append, Option.or_assoc]
    congr 1
    by_cases hx : n = x
    · subst hx; simp [h, List.lookup_cons]
    · have : (n == x) = false := beq_eq_false_iff_ne.mpr hx
      simp only [List.lookup_cons, this, List.lookup_nil]
      split <;> simp [hx]
theorem bindC_is (k : Str → Option NameKind) : ∀ (bs : List (Str × Value)) (m : Str → Option Value) (n : Str), k n ≠ some .local → bindC k bs m n = (bs.reverse.lookup n).or (m n)
  | [], m, n, _ => by simp [bindC]
  | (x, v) :: r, m, n, h => by
    unfold bindC
    rw [bindC_is k r _ n h, List.reverse_cons, List.lookup_append, Option.or_assoc]
    congr 1
    by_cases hx : n = x
    · subst hx; simp [h, List.lookup_cons]
    · have : (n == x) = false := beq_eq_false_iff_ne.mpr hx
      simp only [List.lookup_cons, this, List.lookup_nil]
      split <;> simp [hx]
theorem lookup_of_mem {α : Type} : ∀ {l : List (Str × α)} {n : Str} {c : α}, (l.map (·.1)).Nodup → (n, c) ∈ l → l.lookup n = some c
  | (x, v) :: r, n, c, nd, hm => by
    rw [List.map_cons, List.nodup_cons] at nd
    rw [List.lookup_cons]
    rcases List.mem_cons.mp hm with e | hm
    · cases e; simp
    · have : (n == x) = false := beq_eq_false_iff_ne.mpr fun e => nd.1 (e ▸ List.mem_map.mpr ⟨_, hm, rfl⟩)
      rw [this]; exact lookup_of_mem nd.2 hm

theorem kind_of_mem {names : List (Str × NameKind)} (nd : (names.map (·.1)).Nodup) {n : Str} {k : NameKind} (h : n ∈ (names.filter (·.2 == k)).map (·.1)) : names.lookup n = some k := by
  obtain ⟨p, hp, rfl⟩ := List.mem_map.mp h
  obtain ⟨h1, h2⟩ := List.mem_filter.mp hp
  have : p.2 = k := by simpa using h2
  exact lookup_of_mem nd (by rw [← this]; exact h1)

/-- a call by place, as code -/
noncomputable def TCallC (C : Cx) (d : Nat) (f : Value) (as : List Value) (H : SH) (Q : Value → SH → Prop) : Prop := ∀ xs, xs.map er = as → ∀ (Φ : SH) (A : Around) (s : Shared), Bd C d Φ A → Inv C (H ++ Φ) s →
  codeAny C.M A (.call f ⟨xs, []⟩) (fun r s' => match r with | .ok (.ret v) => Post C Φ (Q (er v)) s' | .ok _ => False | .error _ => False) s
theorem retP {r : Result} {P : Value → Prop} (z : match r with | .ok (.ret v) => P v | .ok _ => False | .error _ => False) : ∃ v, r = .ok (.ret v) ∧ P v := by
  match r, z with
  | .ok (.ret v), z => exact ⟨v, rfl, z⟩
theorem TCallC.call {C : Cx} {d : Nat} {f : Value} {as : List Value} {H : SH} {Q : Value → SH → Prop} (h : TCallC C d f as H Q) : TCall C d f as H Q := fun xs e Φ A s b I => wpAny_call (h xs e Φ A s b I)
/-- the call of a def of the text -/
theorem TCallC.def {C : Cx} {d : Nat} {H : SH} {Q : Value → SH → Prop} {f : Addr} {fd : FuncData} {body : List Stmt} {as : List Value} (F : Fn C f fd) (Lm : Lim C) (hbody : fd.body = .stmts body) (hclo : fd.closure = [])
    (nd : (fd.scope.names.map (·.1)).Nodup)
    (h : ∀ xs, xs.map er = as → T C d (bindArgs fd ⟨xs, []⟩) H fun binds H₁ => (∀ x ∈ binds, fd.scope.names.lookup x.1 = some .local ∨ fd.scope.names.lookup x.1 = some .cell) ∧ FnBody C d fd f body (erB binds) H₁ Q)
    (hco : fd.scope.isCoroutine = false := by kernel_rfl) (hgen : fd.scope.isGenerator = false := by kernel_rfl) (hk : fd.scope.kind = .function := by kernel_rfl) : TCallC C (d + 1) (.ref f) as H Q := by
  intro xs hxs Φ A s b I
  obtain ⟨o, ho, hdat⟩ := F.at'
  have keepC : ∀ {s' : Shared} {H' : SH}, Inv C H' s' → s'.heap.CodeRec fd.code fd.qualname := fun {s' H'} I' => by
    obtain ⟨c, o, vs, t, e, g, r⟩ := F.code
    exact ⟨c, o, vs, t, e, I'.keep _ _ g (F.codeOut c e), r⟩
  refine codeAny_call_function (by have := b.depth; lia) (I.keep _ _ ho F.out) hdat hco hgen hbody (keepC I) ?_
  refine T.run (h xs hxs) (b.in1) I fun binds s₁ H₁ I₁ zz => ?_
  obtain ⟨hkind, hB⟩ := zz
  rw [hclo]
  have lk : ∀ n, Env.kindOf (callEnvC fd s₁.heap.objs.size f) n = fd.scope.names.lookup n := fun n => rfl
  refine wpAny_newFunctionEnv_cells hk (fun x hx => ?_) fun env he s₂ X => ?_
  · rcases hkind x hx with q | q
    · exact .inl q
    · refine .inr ⟨q, ?_⟩
      have hm : x.1 ∈ (cellsFrom (s₁.heap.objs.size + 1) fd.scope.names []).map (·.1) := by
        rw [cellsFrom_names]
        simp only [List.map_nil, List.append_nil, List.mem_reverse]
        obtain hmem := mem_of_lookup q
        exact List.mem_map.mpr ⟨_, List.mem_filter.mpr ⟨hmem, by simp⟩, rfl⟩
      obtain ⟨p, hp, e⟩ := List.mem_map.mp hm
      have ndc : ((cellsFrom (s₁.heap.objs.size + 1) fd.scope.names []).map (·.1)).Nodup := by
        rw [cellsFrom_names]
        simp only [List.map_nil, List.append_nil]
        exact nodup_rev ((List.filter_sublist.map _).nodup nd)
      rw [← e, lookup_of_mem ndc hp]; rfl
  · subst he
    obtain ⟨hh, tk, es⟩ := X.toInCall.same
    have hgens : s₂.gens = s₁.gens := by rw [es]
    have hos : s₂.os = s₁.os := by rw [es]
    have nl : s₂.heap.NoLimit := by
      obtain ⟨mc, hns, hv⟩ := Lm.lim
      exact ⟨mc, (I₁.ns hns Lm.out).keeps X.toInCall.keep, hv⟩
    refine ⟨nl, codeAny_func ?_⟩
    generalize hcs : cellsFrom (s₁.heap.objs.size + 1) fd.scope.names [] = cs at X ⊢
    have hnames : cs.map (·.1) = (cellNames fd).reverse := by
      rw [← hcs, cellsFrom_names]; simp [cellNames]
    have ndc : (cs.map (·.1)).Nodup := by
      rw [hnames]
      exact nodup_rev ((List.filter_sublist.map _).nodup nd)
    have I₂ : Inv C (entryH fd (mkEnv fd s₁.heap.objs.size cs f) (erB binds) H₁ ++ Φ) s₂ := by
      have e : entryH fd (mkEnv fd s₁.heap.objs.size cs f) (erB binds) H₁ ++ Φ = ((s₁.heap.objs.size, AObj.ns ((locNames fd).map fun n => (n, (erB binds).reverse.lookup n))) :: (cs.map fun p => (p.2, AObj.cell ((erB binds).reverse.lookup p.1)))) ++ (H₁ ++ Φ) := by
        show _ :: (_ ++ H₁) ++ Φ = _ :: _ ++ (H₁ ++ Φ)
        rw [List.cons_append, List.append_assoc]; rfl
      rw [e]
      refine Inv.add I₁ (fun p hp => ?_) ?_ X.toInCall.keep hgens hos
      · rcases List.mem_cons.mp hp with rfl | hp
        · refine ⟨Nat.le_refl _, ⟨?_, _, X.toInCall.ns, fun q hq => ?_⟩, rfl⟩
          · rw [List.map_map]
            exact (show ((locNames fd).map fun n => n).Nodup by rw [List.map_id']; exact (List.filter_sublist.map _).nodup nd)
          · obtain ⟨n, hn, rfl⟩ := List.mem_map.mp hq
            have hkn : fd.scope.names.lookup n = some .local := kind_of_mem nd hn
            show Option.map er (bindL _ binds (fun _ => none) n) = _
            rw [bindL_is _ _ _ _ (show List.lookup n fd.scope.names = _ from hkn), Option.or_none, lookup_erB, erB_reverse]
        · obtain ⟨q, hq, rfl⟩ := List.mem_map.mp hp
          have hl : cs.lookup q.1 = some q.2 := lookup_of_mem ndc hq
          have hkn : fd.scope.names.lookup q.1 = some .cell := by
            have : q.1 ∈ (cellNames fd).reverse := hnames ▸ List.mem_map.mpr ⟨q, hq, rfl⟩
            exact kind_of_mem nd (List.mem_reverse.mp this)
          obtain ⟨oc, hoc, hdc⟩ := X.cell q.1 q.2 hl
          refine ⟨Nat.le_of_lt (X.above q.1 q.2 hq), ⟨oc, _, hoc, hdc, ?_⟩, rfl⟩
          rw [bindC_is _ _ _ _ (show List.lookup q.1 fd.scope.names ≠ _ by rw [hkn]; intro e; cases e), Option.or_none, lookup_erB, erB_reverse]
      · rw [List.map_cons, List.nodup_cons]
        refine ⟨fun hm => ?_, ?_⟩
        · obtain ⟨p, hp, e⟩ := List.mem_map.mp hm
          obtain ⟨q, hq, rfl⟩ := List.mem_map.mp hp
          have := X.above q.1 q.2 hq
          exact absurd (show s₁.heap.objs.size < q.2 from this) (by rw [show q.2 = s₁.heap.objs.size from e]; exact Nat.lt_irrefl _)
        · rw [List.map_map]
          have hap : cs.Pairwise fun x y => x.2 ≠ y.2 := X.apart
          exact List.pairwise_map.mpr hap
    have hb' : newEnv fd.scope s₁.heap.objs.size fd.globals cs (fd.qualname ++ ".<locals>.") (some f) fd.code none fd.builtins = mkEnv fd s₁.heap.objs.size cs f := rfl
    rw [hb']
    refine T.run (hB (mkEnv fd s₁.heap.objs.size cs f) ⟨rfl, rfl, rfl, rfl, rfl, rfl, rfl, hnames⟩) (b.deeper Lm.off) I₂ fun fl s₃ H' I' zz => ?_
    obtain ⟨H₂, sub, q⟩ := zz
    refine ⟨H₂, I'.sub (sub.append_right Φ), ?_⟩
    cases fl <;> exact q
theorem TCall.def {C : Cx} {d : Nat} {H : SH} {Q : Value → SH → Prop} {f : Addr} {fd : FuncData} {body : List Stmt} {as : List Value} (F : Fn C f fd) (Lm : Lim C) (hbody : fd.body = .stmts body) (hclo : fd.closure = [])
    (nd : (fd.scope.names.map (·.1)).Nodup)
    (h : ∀ xs, xs.map er = as → T C d (bindArgs fd ⟨xs, []⟩) H fun binds H₁ => (∀ x ∈ binds, fd.scope.names.lookup x.1 = some .local ∨ fd.scope.names.lookup x.1 = some .cell) ∧ FnBody C d fd f body (erB binds) H₁ Q)
    (hco : fd.scope.isCoroutine = false := by kernel_rfl) (hgen : fd.scope.isGenerator = false := by kernel_rfl) (hk : fd.scope.kind = .function := by kernel_rfl) : TCall C (d + 1) (.ref f) as H Q :=
  (TCallC.def F Lm hbody hclo nd h hco hgen hk).call
theorem TCallC.perm {C : Cx} {d : Nat} {f : Value} {as : List Value} {H H' : SH} {Q : Value → SH → Prop} (p : H.Perm H') (h : TCallC C d f as H' Q) : TCallC C d f as H Q :=
  fun xs e Φ A s b I => h xs e Φ A s b (I.perm (p.append_right Φ))
theorem TCallC.mapPost {C : Cx} {d : Nat} {f : Value} {as : List Value} {H : SH} {Q Q' : Value → SH → Prop} (h : TCallC C d f as H Q) (hq : ∀ v H' (Φ : SH) s, Inv C (H' ++ Φ) s → Q v H' → Post C Φ (Q' v) s) : TCallC C d f as H Q' :=
  fun xs e Φ A s b I => codeAny_mono (h xs e Φ A s b I) fun r s' z => by
    obtain ⟨v, rfl, H', I', q⟩ := retP z
    exact hq _ _ _ _ I' q
theorem TCallC.postPerm {C : Cx} {d : Nat} {f : Value} {as : List Value} {H : SH} {Q : Value → SH → Prop} (h : TCallC C d f as H fun v H' => ∃ H₁, H'.Perm H₁ ∧ Q v H₁) : TCallC C d f as H Q :=
  h.mapPost fun v H' Φ s I ⟨H₁, p, q⟩ => ⟨H₁, I.perm (p.append_right Φ), q⟩
theorem TCallC.frame {C : Cx} {d : Nat} {f : Value} {as : List Value} {H F : SH} {Q : Value → SH → Prop} (h : TCallC C d f as H fun v H' => Q v (H' ++ F)) : TCallC C d f as (H ++ F) Q := fun xs e Φ A s b I =>
  codeAny_mono (h xs e (F ++ Φ) A s b.more (by rw [← List.append_assoc]; exact I)) fun r s' z => by
    obtain ⟨v, rfl, H', I', q⟩ := retP z
    exact ⟨H' ++ F, by rw [List.append_assoc]; exact I', q⟩
end Mine
end
section
open PySem PySem.Calls PyProof.Rows
set_option autoImplicit false
set_option linter.unusedVariables false
set_option linter.unusedSimpArgs false
namespace Mine
/-- a name stored, a local or a cell -/
inductive Sto (env : Env) (x : Str) (v : Value) (H H' : SH) : Prop
  | loc {m m'} (hl : env.kindOf x = some .local) (hp : Put x (some v) m m') (hs : Swap env.locals (.ns m) (.ns m') H H') : Sto env x v H H'
  | cell {c w} (hl : env.kindOf x = some .cell) (hc : env.cells.lookup x = some c) (hs : Swap c (.cell w) (.cell (some v)) H H') : Sto env x v H H'

/-- a name stored, and what is so then -/
inductive StoP (env : Env) (x : Str) (v : Value) (H : SH) (P : SH → Prop) : Prop
  | mk (H' : SH) (st : Sto env x v H H') (h : P H') : StoP env x v H P

section
variable {C : Cx} {d : Nat} {env : Env} {H : SH} {Q : Value → SH → Prop} {QF : Flow → SH → Prop} {QB : Bool → SH → Prop} {QL : List Value → SH → Prop}

theorem T.sto {x H'} {v : Value} {Q : Unit → SH → Prop} (hk : env.scope.kind = .function) (st : Sto env x (er v) H H') (h : Q () H') : T C d (storeName env x v) H Q := by
  cases st with
  | loc hl hp hs => exact T.store hl hk hp hs h
  | cell hl hc hs => exact T.storeC hl hk hc hs h
theorem T.asgName {x : Str} {p : Pos} {v : Value} {Q : Unit → SH → Prop} (hk : env.scope.kind = .function) (h : StoP env x (er v) H fun H₃ => Q () H₃) : T C d (assign (.Name x p) env v) H Q := by
  obtain ⟨H₃, hs, hq⟩ := h
  exact fun Φ A s b I => wpAny_assign_Name (T.run (T.sto (Q := Q) hk hs hq) b I fun _ s' H' I' q => ⟨H', I', q⟩)
theorem TX.asg {x p e pos rest} (hk : env.scope.kind = .function) (h : TE C d e env H fun v H₂ => StoP env x v H₂ fun H₃ => TX C d rest env H₃ QF)
    (hs : swapsWith e (some (.Name x p)) pos.line env = pure false := by with_unfolding_all rfl) : TX C d (.Assign [.Name x p] e pos :: rest) env H QF :=
  TX.cons fun Φ A s b I => wpAny_Assign_Name (T.run h b I fun v s₁ H₂ I₁ ⟨H₃, hs, hr⟩ => T.run (T.sto (Q := fun _ H' => H' = H₃) hk hs rfl) b I₁ fun _ s₂ H' I' e => ⟨H', I', by subst e; exact hr⟩) hs
theorem TX.augS {x p op e pos rest m v} (hk : env.scope.kind = .function) (hl : env.kindOf x = some .local) (hL : Has env.locals (.ns m) H) (hx : Loc x (some v) m)
    (h : TE C d e env H fun u H₁ => TInp C d op v u H₁ fun r H₂ => StoP env x r H₂ fun H₃ => TX C d rest env H₃ QF) :
    TX C d (.AugAssign (.Name x p) op e pos :: rest) env H QF :=
  TX.cons fun Φ A s b I => by
    obtain ⟨nd, f, hf, hm⟩ := hL.rep I
    obtain ⟨u, hu, hv⟩ := opt_er (hm _ hx.mem)
    refine wpAny_AugAssign_Name (wpAny_loadName_local hk hl hf hu (T.run h b I fun w s₁ _ I₁ h₁ => T.run (h₁ u w hv rfl) b I₁ fun r s₂ _ I₂ zz => ?_))
    obtain ⟨H₃, hs, hr⟩ := zz
    exact T.run (T.sto (Q := fun _ H' => H' = H₃) hk hs rfl) b I₂ fun _ s₂ H' I' e => ⟨H', I', by subst e; exact hr⟩

-- new lists and tuples
theorem rep_list {s : Shared} {vs : List Value} : Rep { s with heap := s.heap.push { cls := .type "list", data := .seq vs.toArray } } s.heap.objs.size (.list (vs.map er)) :=
  ⟨vs.toArray, 0, Heap.get?_push_size _ rfl, by simp⟩
theorem rep_tup {s : Shared} {vs : List Value} : Rep { s with heap := s.heap.push { cls := .type "tuple", data := .seq vs.toArray } } s.heap.objs.size (.tup (vs.map er)) :=
  ⟨vs.toArray, 0, Heap.get?_push_size _ rfl, by simp⟩
theorem Inv.alloc {x : AObj} {o : Obj} {s : Shared} (I : Inv C H s) (hx : Rep { s with heap := s.heap.push o } s.heap.objs.size x) (hg : genOf (s.heap.objs.size, x) = none) : Inv C ((s.heap.objs.size, x) :: H) { s with heap := s.heap.push o } :=
  I.push (Nat.le_refl _) (fun b o' e => Heap.get?_push_of_some _ e) hx hg rfl rfl
theorem T.newList {vs : List Value} {Q : Value → SH → Prop} (hz : vs.length ≤ sizeLine) (h : ∀ l, Q (.ref l) ((l, .list (vs.map er)) :: H)) : T C d (PySem.newList vs) H Q := fun Φ A s b I =>
  wpAny_newList ⟨_, I.alloc rep_list rfl, h _⟩ hz
theorem T.newTuple {vs : List Value} {Q : Value → SH → Prop} (hz : vs.length ≤ sizeLine) (h : ∀ l, Q (.ref l) ((l, .tup (vs.map er)) :: H)) : T C d (PySem.newTuple vs) H Q := fun Φ A s b I =>
  wpAny_newTuple ⟨_, I.alloc rep_tup rfl, h _⟩ hz
theorem TE.list {elts pos} (h : TArgs C d pos elts env H fun vs H₁ => vs.length ≤ sizeLine ∧ ∀ l, Q (.ref l) ((l, .list vs) :: H₁)) : TE C d (.List elts pos) env H Q := fun Φ A s b I =>
  List_ (T.run h b I fun vs s₁ H₁ I₁ ⟨hz, h₁⟩ => T.newList (Q := fun v => Q (er v)) (by simpa using hz) h₁ Φ A s₁ b I₁)
theorem TE.tuple {elts k pos} (h : TArgs C d pos elts env H fun vs H₁ => vs.length ≤ sizeLine ∧ ∀ l, Q (.ref l) ((l, .tup vs) :: H₁)) : TE C d (.Tuple elts k pos) env H Q := fun Φ A s b I =>
  Tuple_ (T.run h b I fun vs s₁ H₁ I₁ ⟨hz, h₁⟩ => T.newTuple (Q := fun v => Q (er v)) (by simpa using hz) h₁ Φ A s₁ b I₁)

-- subscripts
noncomputable def TGet (C : Cx) (d : Nat) (o i : Value) (H : SH) (Q : Value → SH → Prop) : Prop := ∀ x y, er x = o → er y = i →
  ∃ Ty id, typeLookup (.type Ty) "__getitem__" = pure (some (.builtin id)) ∧ (∀ Φ s, Inv C (H ++ Φ) s → s.TypeIs x Ty) ∧ T C d (getItem x y) H fun v => Q (er v)
theorem subscripted_is (slice : Expr) (o i : Value) : ∃ ops, subscripted slice false o i = operate ops (getItem o i) := by
  unfold subscripted
  split
  · exact ⟨_, rfl⟩
  · rename_i h; cases h
  · exact ⟨_, rfl⟩
theorem TE.sub {value slice pos} (h : TE C d value env H fun o H₁ => TE C d slice env H₁ fun i H₂ => TGet C d o i H₂ Q) : TE C d (.Subscript value slice pos) env H Q := fun Φ A s b I =>
  Subscript_ (T.run h b I fun o s₁ H₁ I₁ h₁ => T.run h₁ b I₁ fun i s₂ H₂ I₂ h₂ => by
    obtain ⟨Ty, id, hl, hT, hg⟩ := h₂ o i rfl rfl
    obtain ⟨ops, e⟩ := subscripted_is slice o i
    exact tail_any (hT Φ s₂ I₂) hl (hg Φ A s₂ b I₂) e)

theorem Has.isList {l : Addr} {xs : List Value} {Φ : SH} {s : Shared} (h : Has l (.list xs) H) (I : Inv C (H ++ Φ) s) : ∃ vs : Array Value, s.heap.IsList l vs ∧ vs.toList.map er = xs := by
  obtain ⟨vs, ep, ho, e⟩ := h.rep I
  exact ⟨vs, ⟨_, ho, rfl, ep, rfl⟩, e⟩
theorem Has.listT {l : Addr} {xs : List Value} {Φ : SH} {s : Shared} (h : Has l (.list xs) H) (I : Inv C (H ++ Φ) s) : s.TypeIs (.ref l) "list" := by
  obtain ⟨vs, hl, _⟩ := h.isList I
  exact hl.typeIs
theorem Has.listD {l : Addr} {xs : List Value} {Φ : SH} {s : Shared} (h : Has l (.list xs) H) (I : Inv C (H ++ Φ) s) : ∀ a, Value.ref l = .ref a → ∃ o, s.heap.get? a = some o ∧ o.dict = none := by
  obtain ⟨vs, ep, ho, e⟩ := h.rep I
  intro a q; cases q; exact ⟨_, ho, rfl⟩
theorem map_at {vs : Array Value} {xs : List Value} (e : vs.toList.map er = xs) {i : Nat} {u : Value} (h : xs[i]? = some u) : ∃ v, vs[i]? = some v ∧ er v = u := by
  rw [← e, List.getElem?_map] at h
  cases q : vs.toList[i]? with
  | none => rw [q] at h; cases h
  | some v => rw [q] at h; exact ⟨v, by rw [← Array.getElem?_toList]; exact q, Option.some.inj h⟩
theorem map_size {vs : Array Value} {xs : List Value} (e : vs.toList.map er = xs) : vs.size = xs.length := by rw [← e]; simp
theorem TGet.list {l : Addr} {xs : List Value} {k : Int} {u : Value} (hl : Has l (.list xs) H) (h0 : 0 ≤ k) (hk : k < 2 ^ 63) (hx : xs[k.toNat]? = some u) (h : Q u H) : TGet C d (.ref l) (.int k 0) H Q := fun x y ex ey => by
  cases er_ref ex
  obtain ⟨t, rfl⟩ := er_int ey
  refine ⟨"list", _, slot_list_getitem.lookup, fun Φ s I => hl.listT I, fun Φ A s b I => ?_⟩
  obtain ⟨vs, il, e⟩ := hl.isList I
  obtain ⟨v, hv, ev⟩ := map_at e hx
  exact wpAny_getItem_list il h0 hk hv ⟨H, I, by subst ev; exact h⟩
theorem TGet.listNeg {l : Addr} {xs : List Value} {k : Int} {u : Value} (hl : Has l (.list xs) H) (h0 : k < 0) (h1 : -(xs.length : Int) ≤ k) (hk : -(2 ^ 63) ≤ k) (hx : xs[(k + xs.length).toNat]? = some u) (h : Q u H) : TGet C d (.ref l) (.int k 0) H Q := fun x y ex ey => by
  cases er_ref ex
  obtain ⟨t, rfl⟩ := er_int ey
  refine ⟨"list", _, slot_list_getitem.lookup, fun Φ s I => hl.listT I, fun Φ A s b I => ?_⟩
  obtain ⟨vs, il, e⟩ := hl.isList I
  obtain ⟨v, hv, ev⟩ := map_at e hx
  have hz := map_size e
  exact wpAny_getItem_list_neg il h0 (by rw [hz]; exact h1) hk (by rw [hz]; exact hv) ⟨H, I, by subst ev; exact h⟩

-- methods of lists
theorem TM.list {l : Addr} {xs : List Value} {name : Str} {id : String} {QM : Value → List Value → SH → Prop} (hl : Has l (.list xs) H) (sl : Slot "list" name id) (hty : typeOf (.builtin id) = pure (.type "method_descriptor"))
    (h : QM (.builtin id) [.ref l] H) : TM C d (.ref l) name H QM :=
  TM.of F.plainAttrs_list sl hty (fun x ex Φ s I => by cases er_ref ex; exact ⟨hl.listT I, hl.listD I⟩) h
theorem args_cons {xs : List Value} {a : Value} {as : List Value} (h : xs.map er = a :: as) : ∃ x xs', xs = x :: xs' ∧ er x = a ∧ xs'.map er = as := List.map_eq_cons_iff.mp h
theorem args1 {xs : List Value} {a : Value} (h : xs.map er = [a]) : ∃ x, xs = [x] ∧ er x = a := by
  obtain ⟨x, xs, rfl, e, h⟩ := args_cons h
  exact ⟨x, by rw [List.map_eq_nil_iff.mp h], e⟩
theorem args2 {xs : List Value} {a b : Value} (h : xs.map er = [a, b]) : ∃ x y, xs = [x, y] ∧ er x = a ∧ er y = b := by
  obtain ⟨x, xs, rfl, e, h⟩ := args_cons h
  obtain ⟨y, rfl, e2⟩ := args1 h
  exact ⟨x, y, rfl, e, e2⟩
theorem args3 {xs : List Value} {a b c : Value} (h : xs.map er = [a, b, c]) : ∃ x y z, xs = [x, y, z] ∧ er x = a ∧ er y = b ∧ er z = c := by
  obtain ⟨x, xs, rfl, e, h⟩ := args_cons h
  obtain ⟨y, z, rfl, e2⟩ := args2 h
  exact ⟨x, y, z, rfl, e, e2⟩
theorem args4 {xs : List Value} {a b c e : Value} (h : xs.map er = [a, b, c, e]) : ∃ x y z u, xs = [x, y, z, u] ∧ er x = a ∧ er y = b ∧ er z = c ∧ er u = e := by
  obtain ⟨x, xs, rfl, e1, h⟩ := args_cons h
  obtain ⟨y, z, u, rfl, e2⟩ := args3 h
  exact ⟨x, y, z, u, rfl, e1, e2⟩
/-- the list at l turned by f -/
theorem wpAny_seqUpd {A : Around} {l : Addr} {xs : List Value} {Φ : SH} {s : Shared} {f : Array Value → Array Value} {ys : List Value} {H' : SH} {E : Value → Shared → Prop} {P : Unit → Shared → Prop}
    (hs : Swap l (.list xs) (.list ys) H H') (I : Inv C (H ++ Φ) s) (hf : ∀ vs : Array Value, vs.toList.map er = xs → (f vs).toList.map er = ys) (hz : xs.length ≤ sizeLine) (hz' : ys.length ≤ sizeLine + 1)
    (h : ∀ s', Inv C (H' ++ Φ) s' → P () s') : wpAny C.M A (updateSeq l f) P E s := by
  obtain ⟨vs, ep, ho, e⟩ := hs.rep I
  refine wpAny_updateSeq ho rfl (h _ (hs.inv I (fun b o q g => (Heap.get?_update_other _ _ (Ne.symm q)).trans g) ?_ rfl rfl rfl)) (by rw [map_size e]; exact hz) (by rw [map_size (hf vs e)]; exact hz')
  refine ⟨f vs, if (f vs).size == vs.size then ep else ep + 1, ?_, hf vs e⟩
  exact Heap.get?_update_self _ ho rfl
theorem TCall.append {l : Addr} {xs : List Value} {v : Value} {H' : SH} (hs : Swap l (.list xs) (.list (xs ++ [v])) H H') (hz : xs.length ≤ sizeLine) (h : Q .none H') : TCall C d (.builtin "list.append") [.ref l, v] H Q := fun as ea Φ A s b I => by
  obtain ⟨x, y, rfl, ex, ey⟩ := args2 ea
  cases er_ref ex
  have hT : s.TypeIs (.ref l) "list" := by
    obtain ⟨vs, ep, ho, e⟩ := hs.rep I
    exact ⟨_, ho, rfl⟩
  refine wpAny_call_entry slot_list_append hT entry_list_append ?_ (args_list_append _ _)
  show wpAny _ _ (updateSeq l (·.push y) >>= fun _ => ret .none) _ _ s
  exact wpAny_bind (wpAny_seqUpd hs I (fun vs e => by simp [e, ey]) hz (by simp; exact hz) fun s' I' => wpAny_pure ⟨.none, rfl, H', I', h⟩)

theorem TCall.lenList {l : Addr} {xs : List Value} (hl : Has l (.list xs) H) (hz : xs.length ≤ sizeLine) (h : Q (.int xs.length 0) H) : TCall C d (.builtin "len") [.ref l] H Q := fun as ea Φ A s b I => by
  obtain ⟨x, rfl, ex⟩ := args1 ea
  cases er_ref ex
  obtain ⟨vs, il, e⟩ := hl.isList I
  have hs := map_size e
  refine call_len_list il (by rw [hs]; have : sizeLine = 16777216 := rfl; omega) ⟨H, I.tok rfl rfl rfl, ?_⟩
  rw [hs]; exact h
theorem TCall.lenStr {x : Str} (hz : x.length ≤ sizeLine) (h : Q (.int x.length 0) H) : TCall C d (.builtin "len") [.str x 0] H Q := fun as ea Φ A s b I => by
  obtain ⟨y, rfl, ex⟩ := args1 ea
  obtain ⟨t, rfl⟩ := er_str ex
  exact PySem.P.len_str (by have : sizeLine = 16777216 := rfl; omega) ⟨H, I.tok rfl rfl rfl, h⟩
theorem TTr.list {l : Addr} {xs : List Value} (hl : Has l (.list xs) H) (hz : xs.length ≤ sizeLine) (h : QB (!xs.isEmpty) H) : TTr C d (.ref l) H QB := fun x ex Φ A s b I => by
  cases er_ref ex
  obtain ⟨vs, il, e⟩ := hl.isList I
  have hs := map_size e
  refine wpAny_truthy_list il (by rw [hs]; have : sizeLine = 16777216 := rfl; omega) ⟨H, I.tok rfl rfl rfl, ?_⟩
  have : vs.isEmpty = xs.isEmpty := by
    rw [Array.isEmpty, hs]
    cases xs <;> simp
  rw [this]; exact h

-- walking over what gives items
noncomputable def Iter (C : Cx) (v : Value) (items : List Value) (K : SH → Prop) : Prop :=
  ∀ x, er x = v → ∀ d H, K H → T C d (pyIter x) H fun it H' => ∃ (a : Addr) (X : Nat → AObj), it = .ref a ∧ H' = (a, X 0) :: H ∧
    (∀ i u, items[i]? = some u → ∀ d H₁, K H₁ → T C d (pyNext (.ref a)) ((a, X i) :: H₁) fun r H₂ => ∃ y, r = some y ∧ er y = u ∧ H₂ = (a, X (i + 1)) :: H₁) ∧
    (∀ d H₁, K H₁ → T C d (pyNext (.ref a)) ((a, X items.length) :: H₁) fun r H₂ => r = none ∧ H₂ = H₁) ∧
    (∀ i d H₁, K H₁ → T C d (pyIter (.ref a)) ((a, X i) :: H₁) fun r H₂ => r = .ref a ∧ H₂ = (a, X i) :: H₁)

theorem Iter.list {l : Addr} {xs : List Value} : Iter C (.ref l) xs (Has l (.list xs)) := fun x ex d H hl Φ A s b I => by
  cases er_ref ex
  obtain ⟨vs, il, e⟩ := hl.isList I
  refine wpAny_pyIter_list il ⟨_, I.alloc (x := .objp fun o => o.cls = .type "list_iterator" ∧ o.data = .fields #[.ref l, .int (0 : Nat) 0]) ⟨_, Heap.get?_push_size _ rfl, rfl, rfl⟩ rfl, _, fun i => .objp fun o => o.cls = .type "list_iterator" ∧ o.data = .fields #[.ref l, .int i 0], rfl, rfl, ?_, ?_, ?_⟩
  · intro i u hu d₁ H₁ hl₁ Φ₁ A₁ s₁ b₁ I₁
    obtain ⟨o, ho, hc, hd⟩ := I₁.own _ (.head _)
    obtain ⟨vs₁, il₁, e₁⟩ := Has.isList (Has.tail hl₁) I₁
    obtain ⟨v, hv, ev⟩ := map_at e₁ hu
    refine wpAny_pyNext_list_item ⟨o, ho, hc, hd⟩ il₁ hv fun h' hi hb => ⟨_, I₁.turn (s' := { s₁ with heap := h' }) (y := .objp fun o => o.cls = .type "list_iterator" ∧ o.data = .fields #[.ref l, .int (i + 1 : Nat) 0]) (fun b o q g => (hb.2 b q).trans g) ?_ rfl rfl rfl, v, rfl, ev, rfl⟩
    obtain ⟨o', ho', hc', hd'⟩ := hi
    exact ⟨o', ho', hc', hd'⟩
  · intro d₁ H₁ hl₁ Φ₁ A₁ s₁ b₁ I₁
    obtain ⟨o, ho, hc, hd⟩ := I₁.own _ (.head _)
    obtain ⟨vs₁, il₁, e₁⟩ := Has.isList (Has.tail hl₁) I₁
    refine wpAny_pyNext_list_end b₁.handled ⟨o, ho, hc, hd⟩ il₁ ?_ fun h' he => ⟨H₁, I₁.pop (fun b o q g => he b o q g) rfl rfl, rfl, rfl⟩
    rw [← Array.getElem?_toList]
    have := map_size e₁
    exact List.getElem?_eq_none (by simp [this])
  · intro i d₁ H₁ hl₁ Φ₁ A₁ s₁ b₁ I₁
    obtain ⟨o, ho, hc, hd⟩ := I₁.own _ (.head _)
    exact wpAny_pyIter_listiter ⟨o, ho, hc, hd⟩ ⟨_, I₁, rfl, rfl⟩
/-- one turn of a for -/
theorem TC.forStep {target it body env} (h : T C d (pyNext it) H fun r H₁ => match r with
      | none => QF .next H₁
      | some v => T C d (letOwnedTupleGo target it v) H₁ fun _ H₂ => T C d (assign target env v) H₂ fun _ H₃ => TX C d body env H₃ (turnX (fun H₄ => TC C d (.forLoop target it body [] env) H₄ QF) (QF .next) QF)) : TC C d (.forLoop target it body [] env) H QF := fun Φ A s b I => by
  refine codeAny_of_tree ?_
  rw [show A.under (.forLoop target it body [] env) = A from Around.under_of_weight rfl]
  show wpAny _ A ((forTurn target it body [] env).onRaise (fun x => do noteFrame x env; theTreesLotGoes x)) _ _ s
  refine wpAny_noted ?_
  simp only [forTurn]
  refine wpAny_bind (wpAny_standAt (wpAny_bind (wpAny_onRaise (T.run h b I fun r s₁ H₁ I₁ h₁ => ?_))))
  cases r with
  | none => exact wpAny_pure ⟨rfl, codeAny_block (wpAny_execs_nil ⟨.next, rfl, H₁, I₁, h₁⟩)⟩
  | some v =>
    refine wpAny_bind (T.run h₁ b I₁ fun _ s₂ H₂ I₂ h₂ => ?_)
    refine wpAny_bind (T.run h₂ b I₂ fun _ s₃ H₃ I₃ h₃ => ?_)
    refine wpAny_bind (T.run h₃ b I₃ fun f s₄ H₄ I₄ h₄ => ?_)
    cases f with
    | next => exact wpAny_pure ⟨rfl, h₄ Φ A s₄ b I₄⟩
    | cont => exact wpAny_pure ⟨rfl, h₄ Φ A s₄ b I₄⟩
    | brk => exact wpAny_pure ⟨.next, rfl, H₄, I₄, h₄⟩
    | ret v => exact wpAny_pure ⟨.ret v, rfl, H₄, I₄, h₄⟩

/-- what a for over items that stay asks: an invariant -/
inductive ForOk (C : Cx) (d : Nat) (env : Env) (x : Str) (body rest : List Stmt) (QF : Flow → SH → Prop) (v : Value) (H : SH) : Prop
  | mk (items : List Value) (K : SH → Prop) (it : Iter C v items K) (J : Nat → SH → Prop) (j0 : J 0 H) (jk : ∀ i Hi, J i Hi → K Hi)
      (turn : ∀ i u Hi, items[i]? = some u → J i Hi → StoP env x u Hi fun H₂ => TX C d body env H₂ (turnX (J (i + 1)) (fun H₃ => TX C d rest env H₃ QF) QF))
      (fin : ∀ Hn, J items.length Hn → TX C d rest env Hn QF) : ForOk C d env x body rest QF v H
/-- a for over items that stay, by an invariant -/
theorem TX.for {x p iter body pos rest} (hk : env.scope.kind = .function)
    (h : TE C d iter env H fun v H₁ => ForOk C d env x body rest QF v H₁)
    (hs : ∀ x, foldedSetIterable iter env x = pure x := by with_unfolding_all (intro _; rfl)) : TX C d (.For (.Name x p) iter body [] pos :: rest) env H QF := by
  refine TX.cons fun Φ A s b I => ?_
  refine wpAny_For (T.run h b I fun v s₁ H₁ I₁ zz => ?_) hs
  obtain ⟨items, K, it, J, J0, JK, turn, fin⟩ := zz
  refine T.run (it v rfl d H₁ (JK 0 _ J0)) b I₁ fun w s₂ H₂ I₂ zz => ?_
  obtain ⟨a, X, e, e₂, nx, nd, nself⟩ := zz
  subst e e₂
  -- from the i-th item on
  have go : ∀ n i Hi, n = items.length - i → i ≤ items.length → J i Hi → TC C d (.forLoop (.Name x p) (.ref a) body [] env) ((a, X i) :: Hi) (thenX C d rest env QF) := by
    intro n
    induction n with
    | zero =>
      intro i Hi hn hi hJ
      have e : i = items.length := by omega
      subst e
      refine TC.forStep (T.mono (nd d Hi (JK _ _ hJ)) fun r H₃ zz => ?_)
      obtain ⟨er, eh⟩ := zz
      subst er eh
      exact fin _ hJ
    | succ n ih =>
      intro i Hi hn hi hJ
      have hlt : i < items.length := by omega
      have hu : items[i]? = some items[i] := List.getElem?_eq_getElem hlt
      refine TC.forStep (T.mono (nx i _ hu d Hi (JK _ _ hJ)) fun r H₃ zz => ?_)
      obtain ⟨y, er', ey, eh⟩ := zz
      subst er' eh
      refine T.pure ?_
      obtain ⟨H₂, st, tb⟩ := turn i _ Hi hu hJ
      have st' : Sto env x (er y) ((a, X (i + 1)) :: Hi) ((a, X (i + 1)) :: H₂) := by
        rw [ey]
        cases st with
        | loc hl hp hs => exact .loc hl hp (.tail hs)
        | cell hl hc hs => exact .cell hl hc (.tail hs)
      intro Φ₁ A₁ s₃ b₁ I₃
      refine wpAny_assign_Name (T.run (T.sto (Q := fun _ H' => H' = (a, X (i + 1)) :: H₂) hk st' rfl) b₁ I₃ fun _ s₄ H' I' e' => ?_)
      subst e'
      refine ⟨_, I', ?_⟩
      have pm : ∀ H₃ : SH, List.Perm (H₃ ++ [(a, X (i + 1))]) ((a, X (i + 1)) :: H₃) := fun H₃ => List.perm_append_comm
      have tb' : TX C d body env (H₂ ++ [(a, X (i + 1))]) (turnX (fun H₃ => TC C d (.forLoop (.Name x p) (.ref a) body [] env) H₃ (thenX C d rest env QF)) (fun H₃ => TX C d rest env H₃ QF) QF) := by
        refine T.post (T.frame (T.mono tb fun f H₃ h₃ => ?_))
        cases f with
        | next => exact ⟨_, List.Sublist.refl _, fun Φ A s b I => ih (i + 1) H₃ (by omega) (by omega) h₃ Φ A s b (I.perm ((pm H₃).append_right Φ))⟩
        | cont => exact ⟨_, List.Sublist.refl _, fun Φ A s b I => ih (i + 1) H₃ (by omega) (by omega) h₃ Φ A s b (I.perm ((pm H₃).append_right Φ))⟩
        | brk => exact ⟨H₃, List.sublist_append_left .., h₃⟩
        | ret v => exact ⟨H₃, List.sublist_append_left .., h₃⟩
      exact T.perm (pm H₂).symm tb'
  refine codeAny_mono (go _ 0 H₁ rfl (Nat.zero_le _) J0 Φ A s₂ b I₂) fun r s₃ zz => ?_
  obtain ⟨f, e, H₃, I₃, h₃⟩ := zz
  subst e
  refine ⟨H₃, I₃, ?_⟩
  cases f <;> exact h₃
end
end Mine
end
section
open PySem PySem.Calls PyProof.Rows
set_option autoImplicit false
set_option linter.unusedVariables false
set_option maxRecDepth 100000
namespace Mine
theorem TCall.frame {C : Cx} {d : Nat} {f : Value} {as : List Value} {H F : SH} {Q : Value → SH → Prop} (h : TCall C d f as H fun v H' => Q v (H' ++ F)) : TCall C d f as (H ++ F) Q := fun xs e => T.frame (h xs e)
noncomputable def intL (l : List Int) : List Value := l.map fun i => .int i 0
noncomputable def stmtAt (p : Program) (i : Nat) : Stmt := p.main.body.getD i (.Pass ⟨0, 0, 0, 0⟩)
noncomputable def fdOf (st : Stmt) (qual : Str) (code : Addr) (dflt md : Value) : FuncData := match st with
  | .FunctionDef name args body _ _ _ scope _ _ _ => { name, qualname := qual, params := args, body := .stmts body, scope, globals := mainGlobals, closure := [], defaults := dflt, kwdefaults := .none, doc := .none, pyModule := md, annotations := none, code := .ref code, closureTuple := .none, builtins := builtinsNs }
  | _ => default
noncomputable def bodyOf : Stmt → List Stmt
  | .FunctionDef _ _ body _ _ _ _ _ _ _ => body
  | _ => []
theorem interactive_of {env : Env} (hk : env.scope.kind = .function) : interactive env = false := by
  unfold interactive; rw [hk]; rfl
section
variable {C : Cx} {d : Nat} {H : SH} {Q : Value → SH → Prop} {f : Addr} {fd : FuncData} {body : List Stmt}
noncomputable def isPar (fd : FuncData) (p : Str) : Prop := fd.scope.names.lookup p = some .local ∨ fd.scope.names.lookup p = some .cell
theorem TCall.def1 {a : Value} {p : Str} (F : Fn C f fd) (Lm : Lim C) (hbody : fd.body = .stmts body) (hclo : fd.closure = []) (nd : (fd.scope.names.map (·.1)).Nodup)
    (hb : ∀ x, bindArgs fd ⟨[x], []⟩ = pure [(p, x)]) (hp : isPar fd p) (h : FnBody C d fd f body [(p, a)] H Q)
    (hco : fd.scope.isCoroutine = false := by kernel_rfl) (hgen : fd.scope.isGenerator = false := by kernel_rfl) (hk : fd.scope.kind = .function := by kernel_rfl) : TCall C (d + 1) (.ref f) [a] H Q :=
  TCall.def F Lm hbody hclo nd (fun xs ex => by
    obtain ⟨x, rfl, e⟩ := args1 ex
    refine T.eq (hb x) (T.pure ⟨fun y hy => ?_, ?_⟩)
    · simp at hy; subst hy; exact hp
    · subst e; exact h) hco hgen hk
theorem TCall.def2 {a b : Value} {p q : Str} (F : Fn C f fd) (Lm : Lim C) (hbody : fd.body = .stmts body) (hclo : fd.closure = []) (nd : (fd.scope.names.map (·.1)).Nodup)
    (hb : ∀ x y, bindArgs fd ⟨[x, y], []⟩ = pure [(p, x), (q, y)]) (hp : isPar fd p ∧ isPar fd q) (h : FnBody C d fd f body [(p, a), (q, b)] H Q)
    (hco : fd.scope.isCoroutine = false := by kernel_rfl) (hgen : fd.scope.isGenerator = false := by kernel_rfl) (hk : fd.scope.kind = .function := by kernel_rfl) : TCall C (d + 1) (.ref f) [a, b] H Q :=
  TCall.def F Lm hbody hclo nd (fun xs ex => by
    obtain ⟨x, y, rfl, e, e'⟩ := args2 ex
    refine T.eq (hb x y) (T.pure ⟨fun z hz => ?_, ?_⟩)
    · simp at hz; rcases hz with rfl | rfl <;> first | exact hp.1 | exact hp.2
    · subst e e'; exact h) hco hgen hk
theorem TCall.def3 {a b c : Value} {p q r : Str} (F : Fn C f fd) (Lm : Lim C) (hbody : fd.body = .stmts body) (hclo : fd.closure = []) (nd : (fd.scope.names.map (·.1)).Nodup)
    (hb : ∀ x y z, bindArgs fd ⟨[x, y, z], []⟩ = pure [(p, x), (q, y), (r, z)]) (hp : isPar fd p ∧ isPar fd q ∧ isPar fd r) (h : FnBody C d fd f body [(p, a), (q, b), (r, c)] H Q)
    (hco : fd.scope.isCoroutine = false := by kernel_rfl) (hgen : fd.scope.isGenerator = false := by kernel_rfl) (hk : fd.scope.kind = .function := by kernel_rfl) : TCall C (d + 1) (.ref f) [a, b, c] H Q :=
  TCall.def F Lm hbody hclo nd (fun xs ex => by
    obtain ⟨x, y, z, rfl, e, e', e''⟩ := args3 ex
    refine T.eq (hb x y z) (T.pure ⟨fun u hu => ?_, ?_⟩)
    · simp at hu; rcases hu with rfl | rfl | rfl <;> first | exact hp.1 | exact hp.2.1 | exact hp.2.2
    · subst e e' e''; exact h) hco hgen hk
theorem TCall.def4 {a b c e : Value} {p q r t : Str} (F : Fn C f fd) (Lm : Lim C) (hbody : fd.body = .stmts body) (hclo : fd.closure = []) (nd : (fd.scope.names.map (·.1)).Nodup)
    (hb : ∀ x y z u, bindArgs fd ⟨[x, y, z, u], []⟩ = pure [(p, x), (q, y), (r, z), (t, u)]) (hp : isPar fd p ∧ isPar fd q ∧ isPar fd r ∧ isPar fd t) (h : FnBody C d fd f body [(p, a), (q, b), (r, c), (t, e)] H Q)
    (hco : fd.scope.isCoroutine = false := by kernel_rfl) (hgen : fd.scope.isGenerator = false := by kernel_rfl) (hk : fd.scope.kind = .function := by kernel_rfl) : TCall C (d + 1) (.ref f) [a, b, c, e] H Q :=
  TCall.def F Lm hbody hclo nd (fun xs ex => by
    obtain ⟨x, y, z, u, rfl, e1, e2, e3, e4⟩ := args4 ex
    refine T.eq (hb x y z u) (T.pure ⟨fun v hv => ?_, ?_⟩)
    · simp at hv; rcases hv with rfl | rfl | rfl | rfl <;> first | exact hp.1 | exact hp.2.1 | exact hp.2.2.1 | exact hp.2.2.2
    · subst e1 e2 e3 e4; exact h) hco hgen hk
/-- a def without cells: the frame written out -/
theorem FnBody.flat {eb : List (Str × Value)} {m : List (Str × Option Value)} (hc : cellNames fd = []) (hm : (locNames fd).map (fun n => (n, eb.reverse.lookup n)) = m) (hk : fd.scope.kind = .function)
    (h : ∀ env, IsEnv fd f env → env.scope.kind = .function → TX C d body env ((env.locals, .ns m) :: H) fun fl H' => ∃ H₂, H₂.Sublist H' ∧ Q (retOf fl) H₂) : FnBody C d fd f body eb H Q := fun env E => by
  have ec : env.cells = [] := by have := E.cells; rw [hc] at this; simpa using this
  unfold entryH
  rw [ec, hm]
  exact h env E (by rw [E.scope]; exact hk)
end
end Mine
end
section
open PySem PySem.Calls PyProof.Rows
set_option autoImplicit false
set_option linter.unusedVariables false
set_option linter.unusedSimpArgs false
namespace Mine
/-- the block of a comprehension -/
structure IsComp (scope : Scope) (env : Env) (cl : List (Str × Addr)) (cenv : Env) : Prop where
  sc : cenv.scope = relabel scope env
  globals : cenv.globals = env.globals
  builtins : cenv.builtins = env.builtins
  code : cenv.code = env.code
  frame : cenv.frame = env.frame
  qual : cenv.qual = env.qual
  func : cenv.func = none
  cells : ∃ own, cenv.cells = own ++ cl ∧ own.map (·.1) = ((scope.names.filter (·.2 == .cell)).map (·.1)).reverse

theorem relabel_lookup {scope : Scope} {env : Env} {x : Str} : (relabel scope env).names.lookup x = (scope.names.lookup x).map fun k => if (k == .free && env.scope.kind == .function && env.kindOf x == some .cell) then NameKind.cell else k := by
  have key : ∀ ns : List (Str × NameKind), (ns.map fun (n, k) => if (k == NameKind.free && env.scope.kind == .function && env.kindOf n == some .cell) then (n, NameKind.cell) else (n, k)).lookup x =
      (ns.lookup x).map fun k => if (k == .free && env.scope.kind == .function && env.kindOf x == some .cell) then NameKind.cell else k := by
    intro ns
    induction ns with
    | nil => rfl
    | cons p r ih =>
      obtain ⟨n, k⟩ := p
      show List.lookup x ((if (k == NameKind.free && env.scope.kind == .function && env.kindOf n == some .cell) = true then (n, NameKind.cell) else (n, k)) :: _) = _
      by_cases hx : x = n
      · subst hx
        by_cases hc : (k == NameKind.free && env.scope.kind == .function && env.kindOf x == some .cell) = true
        · rw [if_pos hc]
          simp only [List.lookup_cons, beq_self_eq_true, Option.map_some, if_pos hc]
        · rw [if_neg hc]
          simp only [List.lookup_cons, beq_self_eq_true, Option.map_some, if_neg hc]
      · have hb : (x == n) = false := beq_eq_false_iff_ne.mpr hx
        by_cases hc : (k == NameKind.free && env.scope.kind == .function && env.kindOf n == some .cell) = true
        · rw [if_pos hc]; simp only [List.lookup_cons, hb]; exact ih
        · rw [if_neg hc]; simp only [List.lookup_cons, hb]; exact ih
  exact key scope.names
section
variable {scope : Scope} {env cenv : Env} {cl : List (Str × Addr)} {x : Str}
theorem IsComp.kindOf (E : IsComp scope env cl cenv) : cenv.kindOf x = (scope.names.lookup x).map fun k => if (k == .free && env.scope.kind == .function && env.kindOf x == some .cell) then NameKind.cell else k := by
  unfold Env.kindOf; rw [E.sc]; exact relabel_lookup
theorem IsComp.local (E : IsComp scope env cl cenv) (h : scope.names.lookup x = some .local) : cenv.kindOf x = some .local := by rw [E.kindOf, h]; rfl
theorem IsComp.own (E : IsComp scope env cl cenv) (h : scope.names.lookup x = some .cell) : cenv.kindOf x = some .cell := by rw [E.kindOf, h]; rfl
theorem IsComp.cell (E : IsComp scope env cl cenv) (h : scope.names.lookup x = some .free) (hk : env.scope.kind = .function) (he : env.kindOf x = some .cell) : cenv.kindOf x = some .cell := by rw [E.kindOf, h, hk, he]; rfl
theorem IsComp.kind (E : IsComp scope env cl cenv) (h : scope.kind = .function) : cenv.scope.kind = .function := by rw [E.sc]; exact h
end

/-- the cells that a block takes along -/
noncomputable def closL (look : Str → Option Addr) : List (Str × NameKind) → List (Str × Addr) → Option (List (Str × Addr))
  | [], acc => some acc
  | (n, k) :: r, acc => if k == .free then (match look n with | some c => closL look r ((n, c) :: acc) | none => none) else closL look r acc
theorem closureFor_is {scope : Scope} {env : Env} {cl : List (Str × Addr)} (h : closL (fun n => env.cells.lookup n) scope.names [] = some cl) : closureFor scope env = pure cl := by
  unfold closureFor
  have key : ∀ (ns : List (Str × NameKind)) (acc : List (Str × Addr)), closL (fun n => env.cells.lookup n) ns acc = some cl →
      (forIn ns acc fun x cs => if (x.2 == NameKind.free) = true then (do let c ← cellOf env x.1; pure (ForInStep.yield ((x.1, c) :: cs))) else pure (ForInStep.yield cs) : Sem (List (Str × Addr))) = pure cl := by
    intro ns
    induction ns with
    | nil => intro acc h; cases h; rfl
    | cons p r ih =>
      obtain ⟨n, k⟩ := p
      intro acc h
      rw [List.forIn_cons]
      unfold closL at h
      split at h
      · rename_i hk
        split at h
        · rename_i c hc
          have e : cellOf env n = pure c := by unfold cellOf; rw [hc]
          simp only [hk, if_true, e, pure_bind]
          exact ih _ h
        · cases h
      · rename_i hk
        simp only [hk, if_false, pure_bind]
        exact ih _ h
  have := key scope.names [] h
  first
    | exact this
    | (simp only [bind_pure]; exact this)
    | (rw [show (forIn scope.names [] _ : Sem (List (Str × Addr))) = pure cl from this]; rfl)

section
variable {C : Cx} {d : Nat} {env : Env} {H : SH} {Q : Value → SH → Prop} {QF : Flow → SH → Prop} {QB : Bool → SH → Prop}

theorem T.alloc {o : Obj} {x : AObj} {Q : Addr → SH → Prop} (hx : ∀ s : Shared, Rep { s with heap := s.heap.push o } s.heap.objs.size x) (hg : ∀ a, genOf (a, x) = none) (h : ∀ a, Q a ((a, x) :: H)) : T C d (PySem.alloc o) H Q := fun Φ A s b I =>
  wpAny_alloc ⟨_, I.alloc (hx s) (hg _), h _⟩
theorem T.layCells (f : Str × NameKind → List (Str × Addr) → Sem (ForInStep (List (Str × Addr))))
    (hf : ∀ name kind cells, f (name, kind) cells = if kind == .cell then (do let a ← PySem.alloc { cls := .type "cell", data := .cell none }; Pure.pure (ForInStep.yield ((name, a) :: cells)) : Sem _) else Pure.pure (ForInStep.yield cells)) :
    ∀ (names : List (Str × NameKind)) (acc : List (Str × Addr)) (H : SH) (Q : List (Str × Addr) → SH → Prop),
      (∀ own : List (Str × Addr), own.map (·.1) = ((names.filter (·.2 == .cell)).map (·.1)).reverse → Q (own ++ acc) ((own.map fun p => (p.2, .cell none)) ++ H)) → T C d (forIn names acc f) H Q
  | [], acc, H, Q, h => by rw [List.forIn_nil]; exact T.pure (h [] rfl)
  | (name, kind) :: r, acc, H, Q, h => by
    rw [List.forIn_cons, hf]
    by_cases hk : (kind == NameKind.cell) = true
    · rw [if_pos hk]
      refine T.bind (T.bind (T.alloc (x := .cell none) (fun s => ⟨_, none, Heap.get?_push_size _ rfl, rfl, rfl⟩) (fun _ => rfl) fun a => T.pure ?_))
      refine T.layCells f hf r _ _ Q fun own ho => ?_
      have := h (own ++ [(name, a)]) (by rw [List.map_append, ho, List.filter_cons, if_pos hk]; simp)
      simpa using this
    · rw [if_neg hk]
      refine T.bind (T.pure ?_)
      refine T.layCells f hf r _ _ Q fun own ho => h own (by rw [ho, List.filter_cons, if_neg hk])
theorem T.newEnvAround {scope : Scope} {cl : List (Str × Addr)} {Q : Env → SH → Prop} (ns : List Str) (nd : ns.Nodup)
    (h : ∀ cenv, IsComp scope env cl { cenv with scope := relabel scope env } → cenv.scope = scope → ∀ own : List (Str × Addr), own.map (·.1) = ((scope.names.filter (·.2 == .cell)).map (·.1)).reverse → cenv.cells = own ++ cl →
      Q cenv ((own.map fun p => (p.2, AObj.cell none)) ++ (cenv.locals, .ns (ns.map fun n => (n, none))) :: H)) :
    T C d (newFunctionEnv scope env.globals cl [] env.qual none .none (some env)) H Q := by
  unfold newFunctionEnv
  refine T.bind (T.alloc (x := .ns (ns.map fun n => (n, none))) (fun s => ⟨?_, _, Heap.Ns.new _ _, fun p hp => ?_⟩) (fun _ => rfl) fun a => ?_)
  · rw [List.map_map]; exact (show (ns.map fun n => n).Nodup by rw [List.map_id']; exact nd)
  · obtain ⟨n, _, rfl⟩ := List.mem_map.mp hp; rfl
  refine T.bind (T.layCells _ (fun name kind cells => by cases hkc : kind == NameKind.cell <;> simp [hkc]) _ _ _ _ fun own ho => ?_)
  refine T.bind (T.pure ?_)
  refine T.pure (h { scope := scope, locals := a, globals := env.globals, cells := own ++ cl, qual := env.qual, func := none, code := env.code, frame := env.frame, builtins := env.builtins } ⟨rfl, rfl, rfl, rfl, rfl, rfl, rfl, own, rfl, ho⟩ rfl own ho rfl)

noncomputable def TIfs (C : Cx) (d : Nat) (ifs : List Expr) (env : Env) (H : SH) (Q : Bool → SH → Prop) : Prop :=
  T C d (forIn ifs true fun c r => if r = true then do let ok ← isTrue c env (eval c env); pure (ForInStep.yield ok) else pure (ForInStep.yield r)) H Q
theorem TIfs.nil (h : QB true H) : TIfs C d [] env H QB := T.pure (a := true) h
theorem TIfs.one {c : Expr} (h : TB C d c env H QB) : TIfs C d [c] env H QB := fun Φ A s b I => wpAny_tests_one (h Φ A s b I)

theorem TC.compStep {elt target iter ifs scope pos it acc} (h : T C d (pyNext it) H fun r H₁ => match r with
      | none => QF .next H₁
      | some v => T C d (letOwnedTupleGo target it v) H₁ fun _ H₂ => T C d (assign target env v) H₂ fun _ H₃ => TIfs C d ifs env H₃ fun ok H₄ =>
          if ok then T C d (eval elt env) H₄ fun x H₅ => T C d (call (.builtin "list.append") [acc, x]) H₅ fun _ H₆ => TC C d (.compLoop (.ListComp elt [⟨target, iter, ifs, 0⟩] scope pos) 0 it acc env) H₆ QF
          else TC C d (.compLoop (.ListComp elt [⟨target, iter, ifs, 0⟩] scope pos) 0 it acc env) H₄ QF) :
    TC C d (.compLoop (.ListComp elt [⟨target, iter, ifs, 0⟩] scope pos) 0 it acc env) H QF := fun Φ A s b I => by
  refine codeAny_of_tree ?_
  rw [show A.under (.compLoop (.ListComp elt [⟨target, iter, ifs, 0⟩] scope pos) 0 it acc env) = A from Around.under_of_weight rfl]
  show wpAny _ A ((compTurn (.ListComp elt [⟨target, iter, ifs, 0⟩] scope pos) 0 it acc env).onRaise (fun x => do noteFrame x env; theTreesLotGoes x)) _ _ s
  refine wpAny_noted ?_
  rw [compTurn_list]
  refine wpAny_bind (wpAny_standAt (wpAny_bind (T.run h b I fun r s₁ H₁ I₁ h₁ => ?_)))
  cases r with
  | none => exact wpAny_pure ⟨.next, rfl, H₁, I₁, h₁⟩
  | some v =>
    refine wpAny_bind (T.run h₁ b I₁ fun _ s₂ H₂ I₂ h₂ => ?_)
    refine wpAny_bind (T.run h₂ b I₂ fun _ s₃ H₃ I₃ h₃ => ?_)
    refine wpAny_bind (T.run h₃ b I₃ fun ok s₄ H₄ I₄ h₄ => ?_)
    cases ok with
    | false => exact wpAny_pure ⟨rfl, h₄ Φ A s₄ b I₄⟩
    | true =>
      refine wpAny_bind (wpAny_bind (T.run h₄ b I₄ fun x s₅ H₅ I₅ h₅ => wpAny_bind (T.run h₅ b I₅ fun _ s₆ H₆ I₆ h₆ => wpAny_pure (wpAny_pure ⟨rfl, h₆ Φ A s₆ b I₆⟩))))

noncomputable def ownKind : Bool → NameKind
  | false => .local
  | true => .cell
noncomputable def ownNames (y : Str) : Bool → List Str
  | false => []
  | true => [y]
noncomputable def nsOf (y : Str) : Bool → List Str
  | false => [y]
  | true => []
/-- what a comprehension keeps for itself: the block of its names, its own cell if the name is one -/
noncomputable def compPV (y : Str) (own : Bool) (cenv : Env) (o : Option Value) : SH := match own with
  | false => [(cenv.locals, .ns [(y, o)])]
  | true => [((cenv.cells.lookup y).getD 0, .cell o), (cenv.locals, .ns [])]
theorem compPV_sto {y : Str} {own : Bool} {cenv : Env} {o : Option Value} {u : Value} {F : SH} (hk : cenv.kindOf y = some (ownKind own)) (hc : own = true → ∃ c, cenv.cells.lookup y = some c) :
    Sto cenv y u (compPV y own cenv o ++ F) (compPV y own cenv (some u) ++ F) := by
  cases own with
  | false => exact .loc hk .head .head
  | true =>
    obtain ⟨c, hc⟩ := hc rfl
    unfold compPV
    rw [hc]
    exact .cell hk hc .head
theorem TC.mono {c : Code} {Q Q' : Flow → SH → Prop} (h : TC C d c H Q) (hq : ∀ f H', Q f H' → Q' f H') : TC C d c H Q' :=
  fun Φ A s b I => codeAny_mono (h Φ A s b I) fun r s' z => by
    obtain ⟨f, e, H', I', q⟩ := z
    exact ⟨f, e, H', I', hq _ _ q⟩
/-- what a comprehension of one for asks -/
inductive CompOk (C : Cx) (d : Nat) (env : Env) (elt : Expr) (y : Str) (ifs : List Expr) (scope : Scope) (cl : List (Str × Addr)) (own : Bool) (F : Addr → SH → Prop) (v : Value) (H : SH) : Prop
  | mk (items : List Value) (K : SH → Prop) (it : Iter C v items K) (hz : items.length ≤ sizeLine) (J : Nat → List Value → SH → Prop) (j0 : J 0 [] H) (jk : ∀ i acc Hi, J i acc Hi → K Hi)
      (turn : ∀ cenv, IsComp scope env cl cenv → ∀ i u acc Hi, items[i]? = some u → J i acc Hi →
        TIfs C d ifs cenv (compPV y own cenv (some u) ++ Hi) fun ok H₂ =>
          if ok then TE C d elt cenv H₂ fun w H₃ => ∃ o Hi', H₃ = compPV y own cenv o ++ Hi' ∧ J (i + 1) (acc ++ [w]) Hi'
          else ∃ o Hi', H₂ = compPV y own cenv o ++ Hi' ∧ J (i + 1) acc Hi')
      (fin : ∀ acc Hn, J items.length acc Hn → ∀ l, F l ((l, .list acc) :: Hn)) : CompOk C d env elt y ifs scope cl own F v H
theorem Inv.leave {a : Addr} {m : List (Str × Option Value)} {R : SH} {s : Shared} (I : Inv C ((a, .ns m) :: R) s) : ∃ f, s.heap.Ns a f ∧ ∀ h', Heap.SameBut a s.heap h' → Inv C R { s with heap := h' } := by
  obtain ⟨_, f, hf, _⟩ := I.own _ (.head _)
  exact ⟨f, hf, fun h' hb => I.pop (s' := { s with heap := h' }) (fun b o q e => (hb.2 b q).trans e) rfl rfl⟩
/-- how the list of a comprehension is used -/
@[reducible] def useX (C : Cx) (d : Nat) (use : Option (Value → Sem Unit)) (Q : Value → SH → Prop) (l : Addr) (R : SH) : Prop := match use with
  | none => Q (.ref l) R
  | some u => T C d (u (.ref l)) R fun _ H'' => Q .none H''
/-- what a comprehension asks when its source is in hand -/
noncomputable def CompG (C : Cx) (d : Nat) (env : Env) (e : Expr) (scope : Scope) (cl : List (Str × Addr)) (F : Addr → SH → Prop) (ns : List Str) (v : Value) (H₁ : SH) : Prop :=
  ∀ x, er x = v → T C d (pyIter x) H₁ fun it H₂ => ∀ (l : Addr) (cenv : Env) (own : List (Str × Addr)), IsComp scope env cl cenv → own.map (·.1) = ((scope.names.filter (·.2 == .cell)).map (·.1)).reverse → cenv.cells = own ++ cl →
    TC C d (.compStart e 0 it (.ref l) cenv) ((own.map fun p => (p.2, AObj.cell none)) ++ (cenv.locals, .ns (ns.map fun n => (n, none))) :: (l, .list []) :: H₂) fun _ H' => ∃ X m R, H'.Perm (X ++ (cenv.locals, .ns m) :: R) ∧ F l R
/-- the block of a comprehension laid, and let go -/
theorem T.compG {e : Expr} {g : Comprehension} {gs : List Comprehension} {scope : Scope} {pos' : Pos} {cl : List (Str × Addr)} {use : Option (Value → Sem Unit)} {Q : Value → SH → Prop} (ns : List Str) (nd : ns.Nodup)
    (hce : clausesOf e = g :: gs) (hs : ∀ x, foldedSetIterable g.iter env x = Pure.pure x) (hcl : closureFor scope env = Pure.pure cl) (hkind : scope.kind = .function) (hnames : ∀ x ∈ scope.names, x.2 = .local → scope.names.lookup x.1 = some .local)
    (h : TE C d g.iter env H (CompG C d env e scope cl (useX C d use Q) ns)) : T C d (comprehension e scope env pos' (PySem.newList []) false (eval g.iter env) use) H fun v => Q (er v) := by
  intro Φ A s b I
  refine wpAny_comprehension_free hce hs hcl hkind hnames (T.run h b I fun v s₁ H₁ I₁ h₁ => T.run (h₁ v rfl) b I₁ fun it s₂ H₂ I₂ h₂ => wpAny_newList ?_ (by decide))
  refine T.run (T.newEnvAround (scope := scope) (env := env) (cl := cl) ns nd (Q := fun cenv H₄ => ∃ own : List (Str × Addr), IsComp scope env cl { cenv with scope := relabel scope env } ∧ own.map (·.1) = ((scope.names.filter (·.2 == .cell)).map (·.1)).reverse ∧ cenv.cells = own ++ cl ∧
    H₄ = (own.map fun p => (p.2, AObj.cell none)) ++ (cenv.locals, .ns (ns.map fun n => (n, none))) :: (s₂.heap.objs.size, .list []) :: H₂) fun cenv ic _ own ho hc => ⟨own, ic, ho, hc, rfl⟩) b (I₂.alloc (x := .list []) rep_list rfl) fun cenv s₄ H₄ I₄ z => ?_
  obtain ⟨own, ic, ho, hc, rfl⟩ := z
  refine codeAny_mono (h₂ _ { cenv with scope := relabel scope env } own ic ho hc Φ A s₄ b I₄) fun r s₅ z => ?_
  obtain ⟨f, rfl, H₅, I₅, X, m, R, p, q⟩ := z
  have I₆ : Inv C ((cenv.locals, .ns m) :: (R ++ Φ)) s₅ := (I₅.perm (p.append_right Φ)).sub (by rw [List.append_assoc]; exact List.sublist_append_right _ _)
  cases use with
  | none =>
    obtain ⟨f', hf, k⟩ := I₆.leave
    exact ⟨f', hf, fun h' hb => ⟨R, k h' hb, q⟩⟩
  | some u =>
    refine T.run (Φ := (cenv.locals, .ns m) :: Φ) (show T C d (u (.ref _)) R fun _ H'' => Q .none H'' from q) (b.more (F := [(cenv.locals, .ns m)])) (I₆.perm List.perm_middle.symm) fun _ s₆ H' I' q' => ?_
    obtain ⟨f', hf, k⟩ := (I'.perm List.perm_middle).leave
    exact ⟨f', hf, fun h' hb => ⟨H', k h' hb, q'⟩⟩
/-- the turns of a comprehension of one for; the iterator is among the entries -/
structure Turns (C : Cx) (d : Nat) (z : Addr) (n : Nat) (elt : Expr) (y : Str) (ifs : List Expr) (own : Bool) (cenv : Env) (J : Nat → List Value → SH → Prop) (F : Addr → SH → Prop) : Prop where
  hz : n ≤ sizeLine
  turn : ∀ i acc Hi, i < n → J i acc Hi → T C d (pyNext (.ref z)) Hi fun r H₂ => ∃ yv, r = some yv ∧ TIfs C d ifs cenv (compPV y own cenv (some (er yv)) ++ H₂) fun ok H₃ =>
    if ok then TE C d elt cenv H₃ fun w H₄ => ∃ o Hi', H₄.Perm (compPV y own cenv o ++ Hi') ∧ J (i + 1) (acc ++ [w]) Hi' else ∃ o Hi', H₃.Perm (compPV y own cenv o ++ Hi') ∧ J (i + 1) acc Hi'
  fin : ∀ acc Hn, J n acc Hn → T C d (pyNext (.ref z)) Hn fun r H' => r = none ∧ ∀ l, F l ((l, .list acc) :: H')
section
variable {z l : Addr} {n : Nat} {elt iter : Expr} {y : Str} {p : Pos} {ifs : List Expr} {own : Bool} {cenv : Env} {J : Nat → List Value → SH → Prop} {F : Addr → SH → Prop} {scope : Scope} {pos : Pos}
theorem perm_in (x : Addr × AObj) (P R : SH) : (x :: (P ++ R)).Perm (R ++ (x :: P)) := List.perm_append_comm (l₁ := x :: P)
theorem Turns.go (W : Turns C d z n elt y ifs own cenv J F) (hsk : cenv.scope.kind = .function) (hky : cenv.kindOf y = some (ownKind own)) (hcy : own = true → ∃ c, cenv.cells.lookup y = some c) :
    ∀ m i acc o Hi, m + i = n → acc.length ≤ i → J i acc Hi → TC C d (.compLoop (.ListComp elt [⟨.Name y p, iter, ifs, 0⟩] scope pos) 0 (.ref z) (.ref l) cenv) ((l, .list acc) :: (compPV y own cenv o ++ Hi)) fun _ H' => ∃ o R, H'.Perm (compPV y own cenv o ++ R) ∧ F l R := by
  intro m
  induction m with
  | zero =>
    intro i acc o Hi hm ha hJ
    obtain rfl : i = n := by lia
    refine TC.compStep (T.within (perm_in _ _ _) (W.fin acc Hi hJ) fun r H' z => ?_)
    obtain ⟨rfl, q⟩ := z
    exact ⟨o, _, (perm_in _ _ _).symm.trans List.perm_middle.symm, q l⟩
  | succ m ih =>
    intro i acc o Hi hm ha hJ
    have hz := W.hz
    refine TC.compStep (T.within (perm_in _ _ _) (W.turn i acc Hi (by lia) hJ) fun r H₂ z => ?_)
    obtain ⟨yv, rfl, hT⟩ := z
    refine T.pure (T.perm ((perm_in _ _ _).symm.trans ((List.perm_append_comm (l₁ := [(l, AObj.list acc)])).trans (.of_eq (List.append_assoc ..)))) (T.asgName hsk ⟨_, compPV_sto hky hcy, ?_⟩))
    refine T.within (F := [(l, .list acc)]) (.of_eq (List.append_assoc ..).symm) hT fun ok H₃ h₃ => ?_
    cases ok with
    | false =>
      obtain ⟨o', Hi', p', hJ'⟩ := h₃
      exact fun Φ A s b I => ih (i + 1) acc o' Hi' (by lia) (by lia) hJ' Φ A s b (I.perm ((List.perm_append_comm.trans (p'.cons _)).append_right Φ))
    | true =>
      refine T.within (F := [(l, .list acc)]) (.refl _) h₃ fun w H₄ h₄ => ?_
      obtain ⟨o', Hi', p', hJ'⟩ := h₄
      exact T.perm (List.perm_append_comm.trans (p'.cons _)) (TCall.append (v := er w) (Q := fun _ H' => TC C d (.compLoop (.ListComp elt [⟨.Name y p, iter, ifs, 0⟩] scope pos) 0 (.ref z) (.ref l) cenv) H' _) .head (by lia) (ih (i + 1) (acc ++ [er w]) o' Hi' (by lia) (by simp; lia) hJ') _ rfl)
theorem Turns.start {H₁ : SH} (W : Turns C d z n elt y ifs own cenv J F) (hsk : cenv.scope.kind = .function) (hky : cenv.kindOf y = some (ownKind own)) (hcy : own = true → ∃ c, cenv.cells.lookup y = some c)
    (j0 : J 0 [] H₁) (hself : T C d (pyIter (.ref z)) H₁ fun r H' => r = .ref z ∧ H' = H₁) :
    TC C d (.compStart (.ListComp elt [⟨.Name y p, iter, ifs, 0⟩] scope pos) 0 (.ref z) (.ref l) cenv) (compPV y own cenv none ++ (l, .list []) :: H₁) fun _ H' => ∃ o R, H'.Perm (compPV y own cenv o ++ R) ∧ F l R := by
  have g := W.go (p := p) (iter := iter) (scope := scope) (pos := pos) (l := l) hsk hky hcy n 0 [] none H₁ (by lia) (by simp) j0
  intro Φ A s b I
  have I := I.perm (List.perm_middle.append_right Φ)
  refine codeAny_compStart_list (g Φ A s b I) (T.run (T.within (perm_in _ _ _) hself (Q := fun r H' => r = .ref z ∧ H' = H₁ ++ ((l, .list []) :: compPV y own cenv none)) fun r H' z => ⟨z.1, by rw [z.2]⟩) b I fun w s' H' I' z => ?_)
  obtain ⟨rfl, rfl⟩ := z
  exact g Φ A s' b (I'.perm ((perm_in _ _ _).symm.append_right Φ))
end
theorem compPV_own {y : Str} {own : Bool} {scope : Scope} {cenv : Env} {cl ow : List (Str × Addr)} {R : SH} (hown : (scope.names.filter (·.2 == .cell)).map (·.1) = ownNames y own) (ho : ow.map (·.1) = ((scope.names.filter (·.2 == .cell)).map (·.1)).reverse) (hc : cenv.cells = ow ++ cl) :
    (ow.map fun p => (p.2, AObj.cell none)) ++ (cenv.locals, .ns ((nsOf y own).map fun n => (n, none))) :: R = compPV y own cenv none ++ R ∧ (own = true → ∃ c, cenv.cells.lookup y = some c) := by
  rw [hown] at ho
  cases own with
  | false =>
    cases ow with
    | nil => exact ⟨rfl, fun h => by cases h⟩
    | cons a b => cases ho
  | true =>
    obtain ⟨⟨n, c⟩, rfl, e⟩ := List.map_eq_singleton_iff.mp (show ow.map (·.1) = [y] from ho)
    obtain rfl : n = y := e
    have : List.lookup n cenv.cells = some c := by rw [hc]; simp [List.lookup_cons]
    exact ⟨by unfold compPV; rw [this]; rfl, fun _ => ⟨c, this⟩⟩
theorem compPV_end {y : Str} {own : Bool} {cenv : Env} {o : Option Value} : ∃ X m, compPV y own cenv o = X ++ [(cenv.locals, .ns m)] := by
  cases own with
  | false => exact ⟨[], _, rfl⟩
  | true => exact ⟨[_], _, rfl⟩
/-- a comprehension of one for, any tests -/
theorem T.comp {elt : Expr} {y : Str} {p : Pos} {iter : Expr} {ifs : List Expr} {scope : Scope} {pos pos' : Pos} {cl : List (Str × Addr)} {own : Bool} {use : Option (Value → Sem Unit)} {Q : Value → SH → Prop}
    (hcl : closureFor scope env = Pure.pure cl) (hkind : scope.kind = .function) (hnames : ∀ x ∈ scope.names, x.2 = .local → scope.names.lookup x.1 = some .local)
    (hy : scope.names.lookup y = some (ownKind own)) (hown : (scope.names.filter (·.2 == .cell)).map (·.1) = ownNames y own)
    (hs : ∀ x, foldedSetIterable iter env x = Pure.pure x)
    (h : TE C d iter env H fun v H₁ => CompOk C d env elt y ifs scope cl own (useX C d use Q) v H₁) :
    T C d (comprehension (.ListComp elt [⟨.Name y p, iter, ifs, 0⟩] scope pos) scope env pos' (PySem.newList []) false (eval iter env) use) H fun v => Q (er v) := by
  refine T.compG (g := ⟨.Name y p, iter, ifs, 0⟩) (nsOf y own) (by cases own <;> simp [nsOf]) rfl hs hcl hkind hnames (T.mono h fun v H₁ z x ex => ?_)
  obtain ⟨items, K, it, hz, J, J0, JK, turn, fin⟩ := z
  refine T.mono (it x ex d H₁ (JK 0 _ _ J0)) fun w H₂ z => ?_
  obtain ⟨a, X, rfl, rfl, nx, nd, nself⟩ := z
  intro l cenv ow ic ho hc
  obtain ⟨e1, hcy⟩ := compPV_own (R := (l, .list []) :: (a, X 0) :: H₁) hown ho hc
  rw [e1]
  have hky : cenv.kindOf y = some (ownKind own) := by
    cases own with
    | false => exact ic.local hy
    | true => exact ic.own hy
  have pq : ∀ (P R : SH) (x : Addr × AObj), ((P ++ R) ++ [x]).Perm (P ++ (x :: R)) := fun P R x => (List.perm_append_comm (l₂ := [x])).trans (show (x :: (P ++ R)).Perm _ from List.perm_middle.symm)
  have W : Turns C d a items.length elt y ifs own cenv (fun i acc Hi => ∃ H', Hi.Perm ((a, X i) :: H') ∧ J i acc H') (useX C d use Q) := {
    hz := hz
    turn := fun i acc Hi hi z => by
      obtain ⟨H', pp, hJ⟩ := z
      have hu : items[i]? = some items[i] := List.getElem?_eq_getElem hi
      refine T.perm pp (T.mono (nx i _ hu d H' (JK _ _ _ hJ)) fun r H₂ z => ?_)
      obtain ⟨yv, er', ey, rfl⟩ := z
      refine ⟨yv, er', ?_⟩
      rw [ey]
      refine T.within (F := [(a, X (i + 1))]) (pq _ _ _).symm (turn cenv ic i _ acc H' hu hJ) fun ok H₃ h₃ => ?_
      cases ok with
      | false =>
        obtain ⟨o, Hi', rfl, hJ'⟩ := h₃
        exact ⟨o, _, pq _ _ _, Hi', .refl _, hJ'⟩
      | true =>
        refine T.within (F := [(a, X (i + 1))]) (.refl _) h₃ fun w H₄ h₄ => ?_
        obtain ⟨o, Hi', rfl, hJ'⟩ := h₄
        exact ⟨o, _, pq _ _ _, Hi', .refl _, hJ'⟩
    fin := fun acc Hn z => by
      obtain ⟨H', pp, hJ⟩ := z
      refine T.perm pp (T.mono (nd d H' (JK _ _ _ hJ)) fun r H₂ z => ?_)
      obtain ⟨e1, rfl⟩ := z
      exact ⟨e1, fin acc _ hJ⟩ }
  refine TC.mono (W.start (ic.kind hkind) hky hcy ⟨H₁, .refl _, J0⟩ (nself 0 d H₁ (JK 0 _ _ J0))) fun f H' z => ?_
  obtain ⟨o, R, p', q⟩ := z
  obtain ⟨X', m, e2⟩ := compPV_end (y := y) (own := own) (cenv := cenv) (o := o)
  rw [e2, List.append_assoc] at p'
  exact ⟨X', m, R, p', q⟩
theorem TE.comp {elt : Expr} {y : Str} {p : Pos} {iter : Expr} {ifs : List Expr} {scope : Scope} {pos : Pos} {cl : List (Str × Addr)} {own : Bool}
    (hcl : closureFor scope env = pure cl) (hkind : scope.kind = .function) (hnames : ∀ x ∈ scope.names, x.2 = .local → scope.names.lookup x.1 = some .local)
    (hy : scope.names.lookup y = some (ownKind own)) (hown : (scope.names.filter (·.2 == .cell)).map (·.1) = ownNames y own)
    (h : TE C d iter env H fun v H₁ => CompOk C d env elt y ifs scope cl own (fun l H' => Q (.ref l) H') v H₁)
    (hs : ∀ x, foldedSetIterable iter env x = pure x := by intro _; rfl) : TE C d (.ListComp elt [⟨.Name y p, iter, ifs, 0⟩] scope pos) env H Q :=
  T.comp (use := none) hcl hkind hnames hy hown hs h
/-- a comprehension that turns nothing of the heap: P says what of it the turns look at -/
theorem CompOk.over {env : Env} {elt : Expr} {y : Str} {ifs : List Expr} {scope : Scope} {cl : List (Str × Addr)} {own : Bool} {F : Addr → SH → Prop} {v : Value} {items : List Value} {K : SH → Prop} (P : SH → Prop) (it : Iter C v items K) (hz : items.length ≤ sizeLine) (hk : K H) (hP : P H)
    (f : Nat → List Value) (f0 : f 0 = [])
    (turn : ∀ H', P H' → ∀ cenv, IsComp scope env cl cenv → ∀ i u, i < items.length → items[i]? = some u → TIfs C d ifs cenv (compPV y own cenv (some u) ++ H') fun ok H₂ =>
      if ok then TE C d elt cenv H₂ fun w H₃ => (∃ o, (compPV y own cenv o ++ H').Sublist H₃) ∧ f i ++ [w] = f (i + 1) else (∃ o, (compPV y own cenv o ++ H').Sublist H₂) ∧ f i = f (i + 1))
    (fin : ∀ l, F l ((l, .list (f items.length)) :: H)) : CompOk C d env elt y ifs scope cl own F v H := by
  refine ⟨items, K, it, hz, fun i acc Hi => acc = f i ∧ Hi = H, ⟨f0.symm, rfl⟩, fun i acc Hi z => z.2 ▸ hk, fun cenv Ec i u acc Hi hu z => ?_, fun acc Hn z l => ?_⟩
  · obtain ⟨rfl, rfl⟩ := z
    have hi : i < items.length := (List.getElem?_eq_some_iff.mp hu).1
    refine T.post (T.mono (turn _ hP cenv Ec i u hi hu) fun ok H₂ q => ?_)
    cases ok with
    | false =>
      obtain ⟨⟨o, sub⟩, e⟩ := q
      exact ⟨_, sub, o, _, rfl, e, rfl⟩
    | true =>
      refine ⟨_, List.Sublist.refl _, T.post (T.mono q fun w H₃ q => ?_)⟩
      obtain ⟨⟨o, sub⟩, e⟩ := q
      exact ⟨_, sub, o, _, rfl, e, rfl⟩
  · obtain ⟨rfl, rfl⟩ := z
    exact fin l
theorem swaps_comp {elt : Expr} {gs : List Comprehension} {scope : Scope} {pos px : Pos} {x : Str} {n : Nat} (hk : env.scope.kind = .function) (hl : env.kindOf x = some .local) (hp : (px.line == pos.line) = true)
    (hn : (scope.names.any fun (n, k) => n == x && (k == .local || k == .cell)) = false) : swapsWith (.ListComp elt gs scope pos) (some (.Name x px)) n env = pure true := by
  unfold swapsWith
  show (Pure.pure (env.blockKind == .function && env.kindOf x == some .local && px.line == pos.line && !(scope.names.any fun (n, k) => n == x && (k == .local || k == .cell))) : Sem Bool) = _
  rw [hl, hp, hn]
  have : env.blockKind = .function := by unfold Env.blockKind; rw [hk]; rfl
  rw [this]; rfl
theorem swaps_cell {elt : Expr} {gs : List Comprehension} {scope : Scope} {pos px : Pos} {x : Str} {n : Nat} (hl : env.kindOf x = some .cell) : swapsWith (.ListComp elt gs scope pos) (some (.Name x px)) n env = pure false := by
  unfold swapsWith
  show (Pure.pure (env.blockKind == .function && env.kindOf x == some .local && px.line == pos.line && !(scope.names.any fun (n, k) => n == x && (k == .local || k == .cell))) : Sem Bool) = _
  rw [hl]
  have : (some NameKind.cell == some NameKind.local) = false := rfl
  rw [this, Bool.and_false, Bool.false_and, Bool.false_and]
theorem TX.asgComp {x : Str} {px spos : Pos} {rest : List Stmt} {elt : Expr} {y : Str} {p : Pos} {iter : Expr} {ifs : List Expr} {scope : Scope} {pos : Pos} {cl : List (Str × Addr)} {own : Bool}
    (hk : env.scope.kind = .function) (hsw : swapsWith (.ListComp elt [⟨.Name y p, iter, ifs, 0⟩] scope pos) (some (.Name x px)) spos.line env = pure true)
    (hcl : closureFor scope env = pure cl) (hkind : scope.kind = .function) (hnames : ∀ x ∈ scope.names, x.2 = .local → scope.names.lookup x.1 = some .local)
    (hy : scope.names.lookup y = some (ownKind own)) (hown : (scope.names.filter (·.2 == .cell)).map (·.1) = ownNames y own)
    (h : TE C d iter env H fun v H₁ => CompOk C d env elt y ifs scope cl own (fun l H' => StoP env x (.ref l) H' fun H₃ => TX C d rest env H₃ QF) v H₁)
    (hs : ∀ x, foldedSetIterable iter env x = pure x := by intro _; rfl) : TX C d (.Assign [.Name x px] (.ListComp elt [⟨.Name y p, iter, ifs, 0⟩] scope pos) spos :: rest) env H QF := by
  refine TX.cons ?_
  rw [exec_Assign_Name_used _ _ _ _ hsw]
  refine T.bind (fun Φ A s b I => wpAny_standAt ⟨H, I, ?_⟩)
  refine T.bind ?_
  show T C d (do let _ ← comprehension (.ListComp elt [⟨.Name y p, iter, ifs, 0⟩] scope pos) scope env _ (PySem.newList []) false (eval iter env) (some (PySem.assign (.Name x px) env))) H _
  refine T.bind (T.mono (T.comp (use := some (PySem.assign (.Name x px) env)) (Q := fun _ H' => TX C d rest env H' QF) hcl hkind hnames hy hown hs (T.mono h fun v H₁ z => ?_)) fun _ H' q => T.pure (T.pure q))
  obtain ⟨items, K, it, hz, J, J0, JK, turn, fin⟩ := z
  refine ⟨items, K, it, hz, J, J0, JK, turn, fun acc Hn hJ l => ?_⟩
  obtain ⟨H₃, st, hr⟩ := fin acc Hn hJ l
  exact fun Φ A s b I => wpAny_assign_Name (T.run (T.sto (v := .ref l) (Q := fun _ H' => H' = H₃) hk st rfl) b I fun _ s' H' I' e => ⟨H', I', by subst e; exact hr⟩)
end
end Mine
end
section
open PySem PySem.Calls PyProof.Rows
set_option autoImplicit false
set_option linter.unusedVariables false
set_option linter.unusedSimpArgs false
namespace Mine
theorem Inv.ext {C : Cx} {H : SH} {s : Shared} {h' : Heap} {tk : Tok} (I : Inv C H s) (hk : ∀ b o, s.heap.get? b = some o → h'.get? b = some o) : Inv C H { s with heap := h', toks := tk } :=
  Inv.add (K := []) (s' := { s with heap := h', toks := tk }) I (fun _ h => nomatch h) (by simp) hk rfl rfl
/-- old objects kept, one more at a -/
theorem Inv.more {C : Cx} {H : SH} {s : Shared} {h' : Heap} {tk : Tok} {a : Addr} {x : AObj} (I : Inv C H s) (hk : ∀ b o, s.heap.get? b = some o → h'.get? b = some o) (ha : s.heap.objs.size ≤ a)
    (hx : Rep { s with heap := h', toks := tk } a x) (hg : genOf (a, x) = none) : Inv C ((a, x) :: H) { s with heap := h', toks := tk } :=
  I.push ha hk hx hg rfl rfl
noncomputable def rng (a b c : Int) : AObj := .objp fun o => ∃ t u v, o = { cls := .type "range", dict := none, data := .fields #[.int a t, .int b u, .int c v], slots := #[] }
noncomputable def rngL (a c : Int) (n : Nat) : List Value := (List.range n).map fun (i : Nat) => .int (a + i * c) 0
section
variable {C : Cx} {d : Nat} {env : Env} {H : SH} {Q : Value → SH → Prop} {QF : Flow → SH → Prop} {QB : Bool → SH → Prop} {QL : List Value → SH → Prop}
theorem TCall.range1 {n : Int} (h : ∀ r, Q (.ref r) ((r, rng 0 n 1) :: H)) : TCall C d (.type "range") [.int n 0] H Q := fun as ea Φ A s b I => by
  obtain ⟨x, rfl, ex⟩ := args1 ea
  obtain ⟨t, rfl⟩ := er_int ex
  exact call_range_1 ⟨_, I.more (x := rng 0 n 1) (fun b o e => Heap.get?_push_of_some _ e) (Nat.le_refl _) ⟨_, Heap.get?_push_size _ rfl, _, _, _, rfl⟩ rfl, h _⟩
theorem Iter.range {r : Addr} {a b c : Int} (hsm : Builtin.Range.small a b c = true) (hpos : 0 ≤ Builtin.Range.rangeSize a b c) : Iter C (.ref r) (rngL a c (Builtin.Range.rangeSize a b c).toNat) (Has r (rng a b c)) := fun x ex d H hl Φ A s bd I => by
  cases er_ref ex
  obtain ⟨_, ho, t, u, v, rfl⟩ := hl.rep I
  refine wpAny_pyIter_range ho hsm ⟨_ :: H, I.alloc (x := .raw { cls := .type "range_iterator", dict := none, data := .fields #[rawInt a, rawInt (Builtin.Range.rangeSize a b c), rawInt c], slots := #[] }) (show Heap.get? _ _ = _ from Heap.get?_push_size _ rfl) rfl, _,
    fun i => .raw { cls := .type "range_iterator", dict := none, data := .fields #[rawInt (a + i * c), rawInt (Builtin.Range.rangeSize a b c - i), rawInt c], slots := #[] }, rfl, by dsimp only; rw [show a + ((0 : Nat) : Int) * c = a by simp, show Builtin.Range.rangeSize a b c - ((0 : Nat) : Int) = Builtin.Range.rangeSize a b c by simp], ?_, ?_, ?_⟩
  · intro i u hu d₁ H₁ hl₁ Φ₁ A₁ s₁ b₁ I₁
    have hit := I₁.own _ (.head _)
    have hlt : i < (Builtin.Range.rangeSize a b c).toNat := by
      have := (List.getElem?_eq_some_iff.mp hu).1
      simpa [rngL] using this
    have eu : u = .int (a + i * c) 0 := by
      have h2 : (rngL a c (Builtin.Range.rangeSize a b c).toNat)[i]? = some u := hu
      simp [rngL, List.getElem?_range hlt] at h2
      exact h2.symm
    refine wpAny_pyNext_range_item hit (by lia) fun h' hi hb => ⟨_, I₁.turn (s' := { s₁ with heap := h', toks := s₁.toks + 1 }) (y := .raw { cls := .type "range_iterator", dict := none, data := .fields #[rawInt (a + (i + 1 : Nat) * c), rawInt (Builtin.Range.rangeSize a b c - (i + 1 : Nat)), rawInt c], slots := #[] }) (fun b o q g => (hb.2 b q).trans g) ?_ rfl rfl rfl, _, rfl, ?_, rfl⟩
    · show h'.get? _ = _
      rw [hi]
      rw [show a + ((i + 1 : Nat) : Int) * c = a + i * c + c by rw [Int.natCast_add, Int.add_mul]; simp [Int.add_assoc], show Builtin.Range.rangeSize a b c - ((i + 1 : Nat) : Int) = Builtin.Range.rangeSize a b c - i - 1 by lia]
    · rw [eu]; rfl
  · intro d₁ H₁ hl₁ Φ₁ A₁ s₁ b₁ I₁
    have hit := I₁.own _ (.head _)
    refine wpAny_pyNext_range_end b₁.handled hit ?_ fun h' he => ⟨H₁, I₁.pop (fun b o q g => he b o q g) rfl rfl, rfl, rfl⟩
    simp [rngL]; lia
  · intro i d₁ H₁ hl₁ Φ₁ A₁ s₁ b₁ I₁
    have hit := I₁.own _ (.head _)
    exact wpAny_pyIter_rangeiter hit ⟨_, I₁, rfl, rfl⟩
theorem Iter.range1 {r : Addr} {a : Int} {n : Nat} (ha : -(2 ^ 61) ≤ a) (ha' : a < 2 ^ 61) (hn : n < 2 ^ 61) : Iter C (.ref r) (rngL a 1 n) (Has r (rng a (a + n) 1)) := by
  have e : Builtin.Range.rangeSize a (a + n) 1 = n := by rw [rangeSize_one]; split <;> lia
  have := Iter.range (C := C) (r := r) (a := a) (b := a + n) (c := 1) (small_one (by lia) (by lia) (by lia) (by lia)) (by rw [e]; lia)
  rwa [e] at this
theorem Has.isTup {t : Addr} {xs : List Value} {Φ : SH} {s : Shared} (h : Has t (.tup xs) H) (I : Inv C (H ++ Φ) s) : ∃ vs, s.heap.IsTuple t vs ∧ vs.toList.map er = xs := by
  obtain ⟨vs, ep, ho, e⟩ := h.rep I
  exact ⟨vs, ⟨_, ho, rfl, ep, rfl⟩, e⟩
theorem Iter.tup {l : Addr} {xs : List Value} : Iter C (.ref l) xs (Has l (.tup xs)) := fun x ex d H hl Φ A s b I => by
  cases er_ref ex
  obtain ⟨vs, il, e⟩ := hl.isTup I
  refine wpAny_pyIter_tuple il ⟨_, I.alloc (x := .objp fun o => o.cls = .type "tuple_iterator" ∧ o.data = .fields #[.ref l, .int (0 : Nat) 0]) ⟨_, Heap.get?_push_size _ rfl, rfl, rfl⟩ rfl, _, fun i => .objp fun o => o.cls = .type "tuple_iterator" ∧ o.data = .fields #[.ref l, .int i 0], rfl, rfl, ?_, ?_, ?_⟩
  · intro i u hu d₁ H₁ hl₁ Φ₁ A₁ s₁ b₁ I₁
    obtain ⟨o, ho, hc, hd⟩ := I₁.own _ (.head _)
    obtain ⟨vs₁, il₁, e₁⟩ := Has.isTup (Has.tail hl₁) I₁
    obtain ⟨v, hv, ev⟩ := map_at e₁ hu
    refine wpAny_pyNext_tuple_item ⟨o, ho, hc, hd⟩ il₁ hv fun h' hi hb => ⟨_, I₁.turn (s' := { s₁ with heap := h' }) (y := .objp fun o => o.cls = .type "tuple_iterator" ∧ o.data = .fields #[.ref l, .int (i + 1 : Nat) 0]) (fun b o q g => (hb.2 b q).trans g) ?_ rfl rfl rfl, v, rfl, ev, rfl⟩
    obtain ⟨o', ho', hc', hd'⟩ := hi
    exact ⟨o', ho', hc', hd'⟩
  · intro d₁ H₁ hl₁ Φ₁ A₁ s₁ b₁ I₁
    obtain ⟨o, ho, hc, hd⟩ := I₁.own _ (.head _)
    obtain ⟨vs₁, il₁, e₁⟩ := Has.isTup (Has.tail hl₁) I₁
    refine wpAny_pyNext_tuple_end b₁.handled ⟨o, ho, hc, hd⟩ il₁ ?_ fun h' he => ⟨H₁, I₁.pop (fun b o q g => he b o q g) rfl rfl, rfl, rfl⟩
    rw [← Array.getElem?_toList]
    have := map_size e₁
    exact List.getElem?_eq_none (by simp [this])
  · intro i d₁ H₁ hl₁ Φ₁ A₁ s₁ b₁ I₁
    obtain ⟨o, ho, hc, hd⟩ := I₁.own _ (.head _)
    exact wpAny_pyIter_tupleiter ⟨o, ho, hc, hd⟩ ⟨_, I₁, rfl, rfl⟩

-- lists
theorem Has.listAt {l : Addr} {xs : List Value} {Φ : SH} {s : Shared} (h : Has l (.list xs) H) (I : Inv C (H ++ Φ) s) : ∃ vs ep, s.heap.get? l = some { cls := .type "list", dict := none, data := .seq vs ep, slots := #[] } ∧ vs.toList.map er = xs := h.rep I
theorem Rep.mapSeq {s : Shared} {l : Addr} {vs : Array Value} {ep : Nat} {f : Array Value → Array Value} {ys : List Value} (ho : s.heap.get? l = some { cls := .type "list", dict := none, data := .seq vs ep, slots := #[] }) (e : (f vs).toList.map er = ys) :
    Rep { s with heap := s.heap.update l (Obj.mapSeq f) } l (.list ys) :=
  ⟨f vs, if (f vs).size == vs.size then ep else ep + 1, Heap.get?_update_self _ ho rfl, e⟩
theorem Swap.seq {l : Addr} {xs ys : List Value} {H' Φ : SH} {s : Shared} {vs : Array Value} {ep : Nat} {f : Array Value → Array Value} (hs : Swap l (.list xs) (.list ys) H H') (I : Inv C (H ++ Φ) s)
    (ho : s.heap.get? l = some { cls := .type "list", dict := none, data := .seq vs ep, slots := #[] }) (e : (f vs).toList.map er = ys) : Inv C (H' ++ Φ) { s with heap := s.heap.update l (Obj.mapSeq f) } :=
  hs.inv I (fun b o q g => (Heap.get?_update_other _ _ (Ne.symm q)).trans g) (Rep.mapSeq ho e) rfl rfl rfl
theorem TBin.addList {l m : Addr} {xs ys : List Value} (hl : Has l (.list xs) H) (hm : Has m (.list ys) H) (hz : xs.length + ys.length ≤ sizeLine) (h : ∀ r, Q (.ref r) ((r, .list (xs ++ ys)) :: H)) : TBin C d .Add (.ref l) (.ref m) H Q := fun x y ex ey Φ A s b I => by
  cases er_ref ex; cases er_ref ey
  obtain ⟨vs, ep, ho, e⟩ := hl.listAt I
  obtain ⟨ws, eq, ho', e'⟩ := hm.listAt I
  refine concat_meets ⟨_, ho, rfl⟩ ⟨_, ho', rfl⟩ noFill_list_add seq_list_add PySem.F.slot_list_add PySem.F.entry_list_add (PySem.F.args_list_add_2 _ _) (list_addW l m vs ws ep eq none none #[] #[] (by rw [map_size e, map_size e']; exact hz)) ⟨ho, ho', ?_⟩
  exact ⟨_, I.alloc (x := .list (xs ++ ys)) ⟨_, _, Heap.get?_push_size _ rfl, by simp [e, e']⟩ rfl, h _⟩
theorem TCall.clear {l : Addr} {xs : List Value} {H' : SH} (hs : Swap l (.list xs) (.list []) H H') (hz : xs.length ≤ sizeLine) (h : Q .none H') : TCall C d (.builtin "list.clear") [.ref l] H Q := fun as ea Φ A s b I => by
  obtain ⟨x, rfl, ex⟩ := args1 ea
  cases er_ref ex
  obtain ⟨vs, ep, ho, e⟩ := hs.rep I
  exact call_meets F.slot_list_clear ⟨_, ho, rfl⟩ F.entry_list_clear (F.args_list_clear_1 _) (AutoSeq1.list_clear_list_0 l vs ep (by rw [map_size e]; exact hz)) ⟨ho, H', hs.seq I ho rfl, h⟩
end
end Mine
end
section
open PySem PySem.Calls PyProof.Rows
set_option autoImplicit false
set_option linter.unusedVariables false
set_option linter.unusedSimpArgs false
namespace Mine
theorem intL_of : ∀ {vs : List Value} {ns : List Int}, IntsAre vs ns → vs.map er = intL ns
  | [], [], _ => rfl
  | _, _, .cons n t h => by simp [intL, er]; exact intL_of h
theorem intL_items {vs : Array Value} {ns : List Int} (h : vs.toList.map er = intL ns) : ∃ xs : Array (Int × Tok), vs = intItems xs ∧ xs.toList.map (·.1) = ns := by
  have : ∀ (l : List Value) (ns : List Int), l.map er = intL ns → ∃ ps : List (Int × Tok), l = ps.map (fun p => .int p.1 p.2) ∧ ps.map (·.1) = ns := by
    intro l
    induction l with
    | nil => intro ns h; cases ns with
      | nil => exact ⟨[], rfl, rfl⟩
      | cons => simp [intL] at h
    | cons v r ih =>
      intro ns h
      cases ns with
      | nil => simp [intL] at h
      | cons n ns =>
        simp [intL] at h
        obtain ⟨t, rfl⟩ := er_int h.1
        obtain ⟨ps, e1, e2⟩ := ih ns (by simpa [intL] using h.2)
        exact ⟨(n, t) :: ps, by rw [e1]; rfl, by simp [e2]⟩
  obtain ⟨ps, e1, e2⟩ := this vs.toList ns h
  exact ⟨ps.toArray, by apply Array.ext'; rw [e1]; simp [intItems], by simpa using e2⟩
theorem intL_length (ns : List Int) : (intL ns).length = ns.length := by simp [intL]
theorem numAt_of {xs : Array (Int × Tok)} {ns : List Int} (e : xs.toList.map (·.1) = ns) (i : Nat) : numAt xs i = (ns[i]?).getD 0 := by
  subst e; unfold numAt; simp
theorem preSum_of {xs : Array (Int × Tok)} {ns : List Int} (e : xs.toList.map (·.1) = ns) : preSum (numAt xs) xs.size = ns.sum := by
  have hl : ns.length = xs.size := by rw [← e]; simp
  have : ∀ k, k ≤ ns.length → preSum (numAt xs) k = (ns.take k).sum := by
    intro k
    induction k with
    | zero => intro _; simp [preSum]
    | succ k ih =>
      intro hk
      have h1 : ns[k]? = some ns[k] := List.getElem?_eq_getElem (by lia)
      rw [preSum, ih (by lia), numAt_of e, List.take_add_one, h1, List.sum_append]
      simp
  rw [this _ (by lia), ← hl, List.take_length]
section
variable {C : Cx} {d : Nat} {env : Env} {H : SH} {Q : Value → SH → Prop} {QF : Flow → SH → Prop} {QB : Bool → SH → Prop} {QL : List Value → SH → Prop}
theorem TCall.sum {l : Addr} {ns : List Int} (hl : Has l (.list (intL ns)) H) (h : Q (.int ns.sum 0) H) : TCall C d (.builtin "sum") [.ref l] H Q := fun as ea Φ A s b I => by
  obtain ⟨x, rfl, ex⟩ := args1 ea
  cases er_ref ex
  obtain ⟨vs, il, e⟩ := hl.isList I
  obtain ⟨xs, rfl, e'⟩ := intL_items e
  exact sum_intListG b.handled il fun h' tk t' hk => ⟨H, I.ext hk, by rw [preSum_of e']; exact h⟩
theorem TCall.maxTwo {i j : Int} (h : Q (.int (max i j) 0) H) : TCall C d (.builtin "max") [.int i 0, .int j 0] H Q := fun as ea Φ A s b I => by
  obtain ⟨x, y, rfl, ex, ey⟩ := args2 ea
  obtain ⟨t, rfl⟩ := er_int ex
  obtain ⟨u, rfl⟩ := er_int ey
  refine max_two_ints b.handled fun h' tk hk => ⟨H, I.ext hk, ?_⟩
  split
  · rename_i q; rw [show max i j = j by lia] at h; exact h
  · rename_i q; rw [show max i j = i by lia] at h; exact h
theorem TCall.listOf {l : Addr} {xs : List Value} (hl : Has l (.list xs) H) (hz : xs.length ≤ sizeLine) (h : ∀ r, Q (.ref r) ((r, .list xs) :: H)) : TCall C d (.type "list") [.ref l] H Q := fun as ea Φ A s b I => by
  obtain ⟨x, rfl, ex⟩ := args1 ea
  cases er_ref ex
  obtain ⟨vs, ep, ho, e⟩ := hl.listAt I
  exact call_list_seq l (.inl rfl) ho rfl rfl (fun h' c' hk hn => ⟨_, I.more (tk := s.toks) (x := .list xs) hk (Nat.le_refl _) ⟨vs, c', hn, e⟩ rfl, h _⟩) (by rw [map_size e]; exact hz)
theorem TCall.tupleOf {l : Addr} {xs : List Value} (hl : Has l (.list xs) H) (hz : xs.length ≤ sizeLine) (h : ∀ r, Q (.ref r) ((r, .tup xs) :: H)) : TCall C d (.type "tuple") [.ref l] H Q := fun as ea Φ A s b I => by
  obtain ⟨x, rfl, ex⟩ := args1 ea
  cases er_ref ex
  obtain ⟨vs, il, e⟩ := hl.isList I
  refine call_tuple_list il (fun h' hk => ⟨_, (I.ext (tk := s.toks) hk).alloc (x := .tup xs) ⟨vs, _, Heap.get?_push_size _ rfl, e⟩ rfl, h _⟩) (by rw [map_size e]; exact hz)
theorem TCall.extendTup {l t : Addr} {xs ys : List Value} {H' : SH} (ht : Has t (.tup ys) H) (hs : Swap l (.list xs) (.list (xs ++ ys)) H H') (hz : xs.length + ys.length ≤ sizeLine) (h : Q .none H') : TCall C d (.builtin "list.extend") [.ref l, .ref t] H Q := fun as ea Φ A s b I => by
  obtain ⟨x, y, rfl, ex, ey⟩ := args2 ea
  cases er_ref ex; cases er_ref ey
  obtain ⟨vs, ep, ho, e⟩ := hs.rep I
  obtain ⟨ws, eq, ho', e'⟩ := ht.rep I
  have hv := map_size e
  have hw := map_size e'
  exact call_meets F.slot_list_extend ⟨_, ho, rfl⟩ F.entry_list_extend (F.args_list_extend_2 _ _) (AutoSeq1.list_extend_list_tuple_0 l vs ep t ws eq (by
      rw [hv, hw]
      have : Builtin.List.listTooLong (xs.length + ys.length) = false := by
        unfold Builtin.List.listTooLong
        have hz' : xs.length + ys.length ≤ 16777216 := hz
        simp; lia
      simp [this]) (by rw [hv]; lia) (by rw [hv, hw]; lia)) ⟨ho, ho', H', hs.seq I ho (by simp [e, e']), h⟩
theorem TCall.extendList {l t : Addr} {xs ys : List Value} {H' : SH} (ht : Has t (.list ys) H) (hs : Swap l (.list xs) (.list (xs ++ ys)) H H') (hz : xs.length + ys.length ≤ sizeLine) (h : Q .none H') : TCall C d (.builtin "list.extend") [.ref l, .ref t] H Q := fun as ea Φ A s b I => by
  obtain ⟨x, y, rfl, ex, ey⟩ := args2 ea
  cases er_ref ex; cases er_ref ey
  obtain ⟨vs, ep, ho, e⟩ := hs.rep I
  obtain ⟨ws, eq, ho', e'⟩ := ht.rep I
  have hv := map_size e
  have hw := map_size e'
  exact call_meets F.slot_list_extend ⟨_, ho, rfl⟩ F.entry_list_extend (F.args_list_extend_2 _ _) (AutoSeq1.list_extend_list_list_0 l vs ep t ws eq (by
      rw [hv, hw]
      have : Builtin.List.listTooLong (xs.length + ys.length) = false := by
        unfold Builtin.List.listTooLong
        have hz' : xs.length + ys.length ≤ 16777216 := hz
        simp; lia
      simp [this]) (by rw [hv]; lia) (by rw [hv, hw]; lia)) ⟨ho, ho', H', hs.seq I ho (by simp [e, e']), h⟩
theorem eqG_int {y x : Value} {n m : Int} (hy : er y = .int n 0) (hx : er x = .int m 0) : MeetsSeq.EqGives y x (n == m) := by
  obtain ⟨t, rfl⟩ := er_int hy
  obtain ⟨u, rfl⟩ := er_int hx
  exact MeetsSeq.EqGives.int n m t u
/-- the number that a value is -/
noncomputable def numV : Value → Int
  | .int i _ => i
  | _ => 0
theorem numV_er (v : Value) : numV (er v) = numV v := by cases v <;> rfl
theorem mem_intL {vs : Array Value} {ns : List Int} (e : vs.toList.map er = intL ns) {y : Value} (hy : y ∈ vs) : er y = .int (numV y) 0 := by
  have : er y ∈ intL ns := by rw [← e]; exact List.mem_map_of_mem (Array.mem_toList_iff.mpr hy)
  obtain ⟨n, _, en⟩ := List.mem_map.mp this
  rw [← numV_er, ← en]; rfl
theorem any_intL {vs : Array Value} {ns : List Int} (e : vs.toList.map er = intL ns) (m : Int) : vs.any (fun y => numV y == m) = decide (m ∈ ns) := by
  rw [← Array.any_toList]
  have h1 : vs.toList.any (fun y => numV y == m) = (vs.toList.map er).any (fun y => numV y == m) := by
    rw [List.any_map]; congr 1; funext y; simp [numV_er]
  rw [h1, e, intL, List.any_map]
  by_cases hm : m ∈ ns
  · rw [decide_eq_true hm, List.any_eq_true]; exact ⟨m, hm, by simp [numV]⟩
  · rw [decide_eq_false hm, Bool.eq_false_iff]
    intro h
    obtain ⟨x, hx, e'⟩ := List.any_eq_true.mp h
    have : x = m := by simpa [numV] using e'
    exact hm (this ▸ hx)
theorem TCmp.inList {l : Addr} {ns : List Int} {m : Int} (hl : Has l (.list (intL ns)) H) (h : Q (.bool (decide (m ∈ ns))) H) : TCmp C d .In (.int m 0) (.ref l) H Q := fun x y ex ey Φ A s b I => by
  cases er_ref ey
  obtain ⟨vs, il, e⟩ := hl.isList I
  exact SeqInW.in_listW (fun y => numV y == m) (fun y hy => eqG_int (mem_intL e hy) ex) il ⟨H, I, by rw [any_intL e]; exact h⟩
theorem TCmp.notInList {l : Addr} {ns : List Int} {m : Int} (hl : Has l (.list (intL ns)) H) (h : Q (.bool (!decide (m ∈ ns))) H) : TCmp C d .NotIn (.int m 0) (.ref l) H Q := fun x y ex ey Φ A s b I => by
  cases er_ref ey
  obtain ⟨vs, il, e⟩ := hl.isList I
  exact SeqInW.notIn_listW (fun y => numV y == m) (fun y hy => eqG_int (mem_intL e hy) ex) il ⟨H, I, by rw [any_intL e]; exact h⟩
theorem TCmp.isBool {a c : Bool} (h : Q (.bool (a == c)) H) : TCmp C d .Is (.bool a) (.bool c) H Q := fun x y ex ey Φ A s b I => by
  cases er_bool ex; cases er_bool ey
  exact is_bool ⟨H, I, h⟩
theorem TCmp.isNotBool {a c : Bool} (h : Q (.bool (a != c)) H) : TCmp C d .IsNot (.bool a) (.bool c) H Q := fun x y ex ey Φ A s b I => by
  cases er_bool ex; cases er_bool ey
  exact isnot_bool ⟨H, I, h⟩
theorem er_eq_none (x : Value) : (er x == Value.none) = (x == Value.none) := by cases x <;> rfl
theorem TCmp.isNone {a : Value} (h : Q (.bool (a == .none)) H) : TCmp C d .Is a .none H Q := fun x y ex ey Φ A s b I => by
  cases er_none ey
  exact is_none_gen ⟨H, I, by rw [← er_eq_none, ex]; exact h⟩
theorem TCmp.isNotNone {a : Value} (h : Q (.bool (!(a == .none))) H) : TCmp C d .IsNot a .none H Q := fun x y ex ey Φ A s b I => by
  cases er_none ey
  exact isnot_none_gen ⟨H, I, by rw [← er_eq_none, ex]; exact h⟩
end
end Mine
end
section
open PySem PySem.Calls PyProof.Rows
set_option autoImplicit false
set_option linter.unusedVariables false
set_option linter.unusedSimpArgs false
namespace Mine
/-- a text by its signs -/
noncomputable def S (cs : List Nat) : Str := ⟨cs.toArray⟩
theorem S_cps (cs : List Nat) : (S cs).cps.toList = cs := by simp [S]
theorem S_len (cs : List Nat) : (S cs).length = cs.length := by simp [S, Str.length]
theorem S_app (a b : List Nat) : S a ++ S b = S (a ++ b) := by
  show Str.append _ _ = _
  simp [Str.append, S]
theorem S_of (x : Str) : x = S x.cps.toList := by cases x; simp [S]
theorem S_inj {a b : List Nat} : S a = S b ↔ a = b := by
  constructor
  · intro h; have := congrArg (fun x : Str => x.cps.toList) h; simpa [S] using this
  · intro h; rw [h]
theorem S_beq (a b : List Nat) : (S a == S b) = decide (a = b) := by
  by_cases h : a = b
  · subst h; simp
  · rw [decide_eq_false h, Bool.eq_false_iff]; intro q; exact h (S_inj.mp (by simpa using q))
/-- a piece of a list: places from lo on, up to hi -/
noncomputable def cut {α : Type} (lo hi : Option Nat) (xs : List α) : List α :=
  let ys := match hi with | none => xs | some b => xs.take b
  match lo with | none => ys | some a => ys.drop a
theorem cut_run {α : Type} (xs : List α) (a b : Nat) : (xs.drop (min a xs.length)).take (min b xs.length - min a xs.length) = (xs.take b).drop a := by
  apply List.ext_getElem?
  intro i
  simp only [List.getElem?_take, List.getElem?_drop]
  by_cases h1 : a ≤ xs.length
  · rw [show min a xs.length = a by lia]
    by_cases h2 : b ≤ xs.length
    · rw [show min b xs.length = b by lia]
      by_cases h3 : i < b - a
      · rw [if_pos h3, if_pos (by lia)]
      · rw [if_neg h3, if_neg (by lia)]
    · rw [show min b xs.length = xs.length by lia]
      by_cases h3 : a + i < xs.length
      · rw [if_pos (by lia), if_pos (by lia)]
      · rw [List.getElem?_eq_none (by lia)]; simp
  · rw [show min a xs.length = xs.length by lia]
    rw [List.getElem?_eq_none (show xs.length ≤ xs.length + i by lia), List.getElem?_eq_none (show xs.length ≤ a + i by lia)]; simp
noncomputable abbrev natPart : Option Nat → Value
  | none => .none
  | some a => .int a 0
theorem bound_nat (a n : Nat) : max 0 (min (if (a : Int) < 0 then (a : Int) + n else a) (n : Int)) = ((min a n : Nat) : Int) := by
  rw [if_neg (Int.not_lt.mpr (Int.natCast_nonneg a))]; lia
theorem bounds_nat (lo hi : Option Nat) (n : Nat) : sliceBounds (lo.map fun a => (a : Int)) (hi.map fun a => (a : Int)) none n = (((match lo with | none => 0 | some a => min a n : Nat) : Int), ((match hi with | none => n | some b => min b n : Nat) : Int), 1) := by
  cases lo <;> cases hi <;> simp [sliceBounds] <;> first | exact ⟨bound_nat _ _, bound_nat _ _⟩ | exact bound_nat _ _ | lia
theorem cut_eq {α : Type} (xs : List α) (lo hi : Option Nat) :
    (xs.drop (match lo with | none => 0 | some a => min a xs.length)).take ((match hi with | none => xs.length | some b => min b xs.length) - (match lo with | none => 0 | some a => min a xs.length)) = cut lo hi xs := by
  cases lo with
  | none => cases hi with
    | none => simp [cut]
    | some b =>
      have := cut_run xs 0 b
      simpa [cut] using this
  | some a => cases hi with
    | none =>
      have := cut_run xs a xs.length
      simpa [cut] using this
    | some b => exact cut_run xs a b
theorem pick_nat (items : Array Value) (lo hi : Option Nat) : slicePick items (lo.map fun a => (a : Int)) (hi.map fun a => (a : Int)) none = (cut lo hi items.toList).toArray := by
  unfold slicePick
  rw [bounds_nat]
  simp only [sliceRange_one]
  rw [pick_run]
  congr 1
  exact cut_eq items.toList lo hi
theorem strIdx_nat (lo hi : Option Nat) (n : Nat) : Builtin.Str.strSliceIndices (lo.map fun a => (a : Int)) (hi.map fun a => (a : Int)) 1 n = sliceRange ((match lo with | none => 0 | some a => min a n : Nat) : Int) ((match hi with | none => n | some b => min b n : Nat) : Int) 1 := by
  cases lo <;> cases hi <;> simp [Builtin.Str.strSliceIndices] <;> (congr 1 <;> lia)
theorem slice_nat (x : Str) (lo hi : Option Nat) : Txt.slice x (lo.map fun a => (a : Int)) (hi.map fun a => (a : Int)) = S (cut lo hi x.cps.toList) := by
  have key : (Builtin.Str.strSliceIndices (lo.map fun a => (a : Int)) (hi.map fun a => (a : Int)) 1 x.length).filterMap (x.cps[·]?) = cut lo hi x.cps.toList := by
    rw [strIdx_nat, sliceRange_one, pick_run]
    exact cut_eq x.cps.toList lo hi
  unfold Txt.slice
  split
  · rename_i h
    have hl : (cut lo hi x.cps.toList).length = x.cps.toList.length := by
      have h1 : (Builtin.Str.strSliceIndices (lo.map fun a => (a : Int)) (hi.map fun a => (a : Int)) 1 x.length).length = x.length := by simpa using h
      rw [strIdx_nat, sliceRange_one] at h1
      rw [← cut_eq]
      cases lo <;> cases hi <;> simp [Str.length] at h1 ⊢ <;> lia
    have sub : ∀ (lo hi : Option Nat) (l : List Nat), (cut lo hi l).Sublist l := fun lo hi l => by
      cases lo <;> cases hi <;> simp [cut, List.take_sublist, List.drop_sublist]
      exact (List.drop_sublist _ _).trans (List.take_sublist _ _)
    have := (sub lo hi x.cps.toList).eq_of_length hl
    rw [this]
    exact S_of x
  · rw [key]; rfl
noncomputable def slc (l u : Value) : AObj := .objp fun o => o.cls = .type "slice" ∧ ∃ vl vu, o.data = .fields #[vl, vu, .none] ∧ er vl = l ∧ er vu = u
section
variable {C : Cx} {d : Nat} {env : Env} {H : SH} {Q : Value → SH → Prop} {QF : Flow → SH → Prop} {QB : Bool → SH → Prop} {QL : List Value → SH → Prop}
noncomputable def TPart (C : Cx) (d : Nat) (e : Option Expr) (env : Env) (H : SH) (Q : Value → SH → Prop) : Prop := match e with
  | none => Q .none H
  | some e => TE C d e env H Q
theorem TPart.go {e : Option Expr} (h : TPart C d e env H Q) : T C d (evalPart e env) H fun v => Q (er v) := by
  cases e with
  | none => exact T.pure h
  | some e => exact h
theorem TE.slice {l u : Option Expr} {p : Pos} (h : TPart C d l env H fun a H₁ => TPart C d u env H₁ fun b H₂ => ∀ sl, Q (.ref sl) ((sl, slc a b) :: H₂)) : TE C d (.Slice l u none p) env H Q := fun Φ A s b I =>
  wpAny_Slice (T.run h.go b I fun x s₁ H₁ I₁ h₁ => T.run h₁.go b I₁ fun y s₂ H₂ I₂ h₂ => wpAny_pure
    ⟨_, I₂.alloc (x := slc (er x) (er y)) ⟨_, Heap.get?_push_size _ rfl, rfl, x, y, rfl, rfl, rfl⟩ rfl, h₂ _⟩)
theorem natPart_val {v : Value} {a : Option Nat} (h : er v = natPart a) : IsPart v (a.map fun a => (a : Int)) ∧ ∃ p : Option (Int × Tok), v = partValue p ∧ p.map (·.1) = a.map fun a => (a : Int) := by
  cases a with
  | none => rw [er_none h]; exact ⟨.none, none, rfl, rfl⟩
  | some a => obtain ⟨t, rfl⟩ := er_int h; exact ⟨.int _ _, some (a, t), rfl, rfl⟩
theorem TGet.strCut {cs : List Nat} {sl : Addr} {lo hi : Option Nat} (hs : Has sl (slc (natPart lo) (natPart hi)) H) (hz : cs.length ≤ sizeLine) (h : Q (.str (S (cut lo hi cs)) 0) H) : TGet C d (.str (S cs) 0) (.ref sl) H Q := fun x y ex ey => by
  obtain ⟨t, rfl⟩ := er_str ex
  cases er_ref ey
  refine ⟨"str", _, F.slot_str_getitem.lookup, fun Φ s I => typeIs_str _ _ _, fun Φ A s b I => ?_⟩
  obtain ⟨o, ho, hc, vl, vu, hd, e1, e2⟩ := hs.rep I
  obtain ⟨p, rfl, ep⟩ := (natPart_val e1).2
  obtain ⟨q, rfl, eq⟩ := (natPart_val e2).2
  refine wpAny_getItem_str_slice (l := p) (u := q) (st := none) ⟨o, ho, hc, hd⟩ rfl ?_
  have em : sliceMade (S cs) t p q none = (if ((1 : Int) == 1 && (Builtin.Str.strSliceIndices (p.map (·.1)) (q.map (·.1)) 1 (S cs).length).length == (S cs).length) = true then Made.val (.str (S cs) t) else Made.str ⟨((Builtin.Str.strSliceIndices (p.map (·.1)) (q.map (·.1)) 1 (S cs).length).filterMap ((S cs).cps[·]?)).toArray⟩) := rfl
  rw [em]
  refine post_val_or_str ⟨?_, fun t' k => ⟨H, I.tok rfl rfl rfl, ?_⟩⟩
  · have h1 : (Txt.slice (S cs) (p.map (·.1)) (q.map (·.1))).length ≤ (S cs).length := Txt.slice_le _ _ _
    rw [S_len] at h1
    generalize sizeLine = z at hz ⊢
    exact Nat.le_trans h1 hz
  · show Q (.str (Txt.slice (S cs) (p.map (·.1)) (q.map (·.1))) 0) H
    rw [ep, eq, slice_nat, S_cps]; exact h
-- texts
theorem TE.cS {x : Str} {cs : List Nat} {k pos} (e : x = S cs) (h : Q (.str (S cs) 0) H) : TE C d (.Constant (.str x) k pos) env H Q := TE.cstr (by rw [e]; exact h)
theorem TBin.adds {a c : List Nat} (hz : a.length + c.length ≤ sizeLine) (h : Q (.str (S (a ++ c)) 0) H) : TBin C d .Add (.str (S a) 0) (.str (S c) 0) H Q := fun x y ex ey Φ A s b I => by
  obtain ⟨t, rfl⟩ := er_str ex; obtain ⟨u, rfl⟩ := er_str ey
  exact SB.add (fun t' k => ⟨H, I.tok rfl rfl rfl, by rw [S_app]; exact h⟩) (by rw [S_len, S_len]; exact hz)
theorem TInp.adds {a c : List Nat} (hz : a.length + c.length ≤ sizeLine) (h : Q (.str (S (a ++ c)) 0) H) : TInp C d .Add (.str (S a) 0) (.str (S c) 0) H Q := fun x y ex ey Φ A s b I => by
  obtain ⟨t, rfl⟩ := er_str ex; obtain ⟨u, rfl⟩ := er_str ey
  exact SB.iadd (fun t' k => ⟨H, I.tok rfl rfl rfl, by rw [S_app]; exact h⟩) (by rw [S_len, S_len]; exact hz)
theorem TBin.muls {c : Nat} {n : Int} (hn : n ≤ 1000) (hn' : -1000 ≤ n) (h : Q (.str (S (List.replicate n.toNat c)) 0) H) : TBin C d .Mult (.str (S [c]) 0) (.int n 0) H Q := fun x y ex ey Φ A s b I => by
  obtain ⟨t, rfl⟩ := er_str ex; obtain ⟨u, rfl⟩ := er_int ey
  have hl : (S [c]).length = 1 := rfl
  refine SB.mul ⟨?_, fun h1 h2 => ?_, fun h1 h2 => ?_⟩ (fun t' k => ⟨H, I.tok rfl rfl rfl, ?_⟩)
  · simp; lia
  · rw [hl]
    have : (2 ^ 63 - 1) / n ≥ 1 := Int.le_ediv_of_mul_le (by lia) (by lia)
    lia
  · rw [hl]
    have : n.toNat ≤ 1000 := by lia
    unfold Builtin.Str.tooLong
    have e : sizeLine = 16777216 := rfl
    simp [e]; lia
  · have : Txt.mul (S [c]) n = S (List.replicate n.toNat c) := by
      unfold Txt.mul
      split
      · rename_i h1
        have : n.toNat = 0 := by lia
        rw [this]; rfl
      · split
        · rename_i h1 h2
          rw [hl] at h2
          have : n = 1 := by simpa using h2
          subst this; rfl
        · have key : ∀ (k : Nat) (acc : Array Nat), ((List.replicate k (S [c]).cps).foldl (· ++ ·) acc).toList = acc.toList ++ List.replicate k c := by
            intro k
            induction k with
            | zero => intro acc; simp
            | succ k ih => intro acc; rw [List.replicate_succ, List.foldl_cons, ih, List.replicate_succ]; simp [S]
          have := key n.toNat #[]
          show Str.mk _ = Str.mk _
          congr 1
          apply Array.ext'
          rw [this]; simp
    show Q (.str (Txt.mul (S [c]) n) 0) H
    rw [this]; exact h
theorem TCmp.notInS {cs : List Nat} {c : Nat} (h : Q (.bool (!decide (c ∈ cs))) H) : TCmp C d .NotIn (.str (S [c]) 0) (.str (S cs) 0) H Q := fun x y ex ey Φ A s b I => by
  obtain ⟨t, rfl⟩ := er_str ex; obtain ⟨u, rfl⟩ := er_str ey
  refine SB.notContains ⟨H, I, ?_⟩
  have := StrLaws.found_one (S cs) c
  show Q (.bool (!Txt.contains (S cs) (S [c]))) H
  unfold Txt.contains
  rw [show S [c] = ⟨#[c]⟩ from rfl, this, S_cps]; exact h
theorem TCmp.eqS {a c : List Nat} (h : Q (.bool (decide (a = c))) H) : TCmp C d .Eq (.str (S a) 0) (.str (S c) 0) H Q := TCmp.eqs (by rw [S_beq]; exact h)
theorem TM.str {x : Str} {name : Str} {id : String} {QM : Value → List Value → SH → Prop} (sl : Slot "str" name id) (hty : typeOf (.builtin id) = pure (.type "method_descriptor"))
    (h : QM (.builtin id) [.str x 0] H) : TM C d (.str x 0) name H QM :=
  TM.of F.plainAttrs_str sl hty (fun y ey Φ s I => by obtain ⟨t, rfl⟩ := er_str ey; exact ⟨typeIs_str _ _ _, fun a q => by cases q⟩) h
theorem strL_vals : ∀ {vs : List Value} {ts : List (List Nat)}, vs.map er = ts.map (fun c => .str (S c) 0) → StrsAre vs (ts.map S)
  | [], [], _ => .nil
  | [], _ :: _, h => by simp at h
  | _ :: _, [], h => by simp at h
  | v :: vs, n :: ns, h => by
    simp at h
    obtain ⟨t, rfl⟩ := er_str h.1
    exact .cons (S n) t (strL_vals (by simpa using h.2))
theorem TCall.join {l : Addr} {ts : List (List Nat)} (hl : Has l (.list (ts.map fun c => .str (S c) 0)) H) (hz : ts.flatten.length ≤ 1000000) (h : Q (.str (S ts.flatten) 0) H) : TCall C d (.builtin "str.join") [.str (S []) 0, .ref l] H Q := fun as ea Φ A s b I => by
  obtain ⟨x, y, rfl, ex, ey⟩ := args2 ea
  obtain ⟨t, rfl⟩ := er_str ex; cases er_ref ey
  obtain ⟨vs, il, e⟩ := hl.isList I
  have key : ∀ ts : List (List Nat), Str.join (S []) (ts.map S) = S ts.flatten := by
    intro ts
    induction ts with
    | nil => rfl
    | cons a r ih =>
      cases r with
      | nil => simp [Str.join]
      | cons b r =>
        rw [List.flatten_cons, ← S_app, ← ih]
        show S a ++ S [] ++ _ = _
        rw [S_app, List.append_nil]
  refine join_list il (strL_vals e) ?_ fun t' k => ⟨H, I.tok rfl rfl rfl, ?_⟩
  · have h1 : ((ts.map S).map (·.length)).sum = ts.flatten.length := by
      rw [List.map_map, List.length_flatten]; congr 1
    have h2 : (S []).length = 0 := rfl
    rw [h1, h2]; lia
  · have : Txt.join (S []) (ts.map S) = S ts.flatten := by
      show Builtin.Str.glued _ _ = _
      rw [StrLaws.glued_eq_join]; exact key ts
    show Q (.str (Txt.join (S []) (ts.map S)) 0) H
    rw [this]; exact h
end
end Mine
end
section
open PySem PySem.Calls PyProof.Rows
set_option autoImplicit false
set_option linter.unusedVariables false
set_option linter.unusedSimpArgs false
namespace Mine
section
variable {C : Cx} {d : Nat} {env : Env} {H : SH} {Q : Value → SH → Prop} {QF : Flow → SH → Prop} {QB : Bool → SH → Prop} {QL : List Value → SH → Prop}
/-- what a for goes over, item by item: n of them; X i: its own objects ahead of the i-th -/
structure Walk (C : Cx) (dd : Nat) (target : Expr) (it : Value) (n : Nat) (X : Nat → SH → Prop) (K : SH → Prop) (P : Nat → Value → SH → Prop) : Prop where
  next : ∀ i, i < n → ∀ d H₁ Xi, K H₁ → X i Xi → T C (d + dd) (pyNext it) (Xi ++ H₁) fun r H₂ => ∃ y, r = some y ∧ T C (d + dd) (letOwnedTupleGo target it y) H₂ fun _ H₃ => ∃ N X', P i (er y) N ∧ X (i + 1) X' ∧ H₃ = N ++ (X' ++ H₁)
  fin : ∀ d H₁ Xn, K H₁ → X n Xn → T C (d + dd) (pyNext it) (Xn ++ H₁) fun r H₂ => r = none ∧ H₂ = H₁
theorem perm3 (N X H₁ : SH) : (N ++ (X ++ H₁)).Perm ((N ++ H₁) ++ X) := by
  rw [List.append_assoc]; exact (List.perm_append_comm (l₁ := X) (l₂ := H₁)).append_left N
theorem TC.forWalk {dd : Nat} {target : Expr} {it : Value} {n : Nat} {X : Nat → SH → Prop} {X0 : SH} {K : SH → Prop} {P : Nat → Value → SH → Prop} {body : List Stmt} (W : Walk C dd target it n X K P) (J : Nat → SH → Prop) (JK : ∀ i Hi, J i Hi → K Hi)
    (turn : ∀ i, i < n → ∀ Hi y N, J i Hi → P i (er y) N → T C (d + dd) (assign target env y) (N ++ Hi) fun _ H₂ => TX C (d + dd) body env H₂ (turnX (J (i + 1)) (QF .next) QF))
    (fin : ∀ Hn, J n Hn → QF .next Hn) (hX : X 0 X0) (h0 : J 0 H) : TC C (d + dd) (.forLoop target it body [] env) (X0 ++ H) QF := by
  have go : ∀ m i Hi Xi, m = n - i → i ≤ n → X i Xi → J i Hi → TC C (d + dd) (.forLoop target it body [] env) (Xi ++ Hi) QF := by
    intro m
    induction m with
    | zero =>
      intro i Hi Xi hm hi hx hJ
      have e : i = n := by omega
      subst e
      refine TC.forStep (T.mono (W.fin d Hi Xi (JK _ _ hJ) hx) fun r H₃ zz => ?_)
      obtain ⟨er', eh⟩ := zz
      subst er' eh
      exact fin _ hJ
    | succ m ih =>
      intro i Hi Xi hm hi hx hJ
      refine TC.forStep (T.mono (W.next i (by omega) d Hi Xi (JK _ _ hJ) hx) fun r H₃ zz => ?_)
      obtain ⟨y, er', h'⟩ := zz
      subst er'
      refine T.mono h' fun _ H₄ zz => ?_
      obtain ⟨N, X', hP, hx', e⟩ := zz
      subst e
      refine T.perm (perm3 N X' Hi) (T.frame (T.mono (turn i (by omega) Hi y N hJ hP) fun _ H₅ h₅ => ?_))
      refine T.post (T.frame (T.mono h₅ fun f H₆ h₆ => ?_))
      cases f with
      | next => exact ⟨_, List.Sublist.refl _, fun Φ A s b I => ih (i + 1) H₆ X' (by omega) (by omega) hx' h₆ Φ A s b (I.perm ((List.perm_append_comm).append_right Φ))⟩
      | cont => exact ⟨_, List.Sublist.refl _, fun Φ A s b I => ih (i + 1) H₆ X' (by omega) (by omega) hx' h₆ Φ A s b (I.perm ((List.perm_append_comm).append_right Φ))⟩
      | brk => exact ⟨H₆, List.sublist_append_left .., h₆⟩
      | ret v => exact ⟨H₆, List.sublist_append_left .., h₆⟩
  exact go _ 0 H X0 rfl (Nat.zero_le _) hX h0
theorem TX.forW {target iter body pos rest}
    (h : TE C d iter env H fun v H₁ => ∀ x, er x = v → T C d (pyIter x) H₁ fun it H₂ => TC C d (.forLoop target it body [] env) H₂ (thenX C d rest env QF))
    (hs : ∀ x, foldedSetIterable iter env x = pure x := by intro _; rfl) : TX C d (.For target iter body [] pos :: rest) env H QF := by
  refine TX.cons fun Φ A s b I => ?_
  refine wpAny_For (T.run h b I fun v s₁ H₁ I₁ h₁ => ?_) hs
  refine T.run (h₁ v rfl) b I₁ fun w s₂ H₂ I₂ h₂ => ?_
  refine codeAny_mono (h₂ Φ A s₂ b I₂) fun r s₃ zz => ?_
  obtain ⟨f, e, H₃, I₃, h₃⟩ := zz
  subst e
  refine ⟨H₃, I₃, ?_⟩
  cases f <;> exact h₃
/-- a tuple laid on several names -/
inductive TSeq (C : Cx) (d : Nat) (env : Env) : List Expr → List Value → SH → (SH → Prop) → Prop
  | done {H : SH} {Q : SH → Prop} (h : Q H) : TSeq C d env [] [] H Q
  | more {x : Str} {p : Pos} {es : List Expr} {v : Value} {vs : List Value} {H H' : SH} {Q : SH → Prop} (st : Sto env x v H H') (h : TSeq C d env es vs H' Q) : TSeq C d env (.Name x p :: es) (v :: vs) H Q
theorem T.asgIn (hk : env.scope.kind = .function) {es : List Expr} {us : List Value} {H : SH} {Q : SH → Prop} (h : TSeq C d env es us H Q) : ∀ {vs : List Value}, vs.map er = us → T C d (assignInOrder ((assignEach es env).map (·.2)) vs) H fun _ H' => Q H' := by
  induction h with
  | done h =>
    intro vs e
    obtain rfl := List.map_eq_nil_iff.mp e
    exact T.pure h
  | @more x p es u us H H' Q st h ih =>
    intro vs e
    obtain ⟨v, vs', rfl, e1, e2⟩ := args_cons e
    show T C d (holding vs' (PySem.assign (.Name x p) env v) >>= fun _ => assignInOrder ((assignEach es env).map (·.2)) vs') H _
    refine T.bind (fun Φ A s b I => wpAny_holding (wpAny_assign_Name (wpAny_mono (T.sto (v := v) (Q := fun _ H'' => H'' = H') hk (by rw [e1]; exact st) rfl Φ A s b I) (fun _ s' z => ?_) fun _ _ x => x)))
    obtain ⟨H₂, I₂, e₂⟩ := z
    subst e₂
    exact ⟨_, I₂, ih e2⟩
theorem each_len {es : List Expr} {us : List Value} {H : SH} {Q : SH → Prop} (h : TSeq C d env es us H Q) : (assignEach es env).length = us.length ∧ (assignEach es env).findIdx? (·.1) = none := by
  induction h with
  | done h => exact ⟨rfl, rfl⟩
  | @more x p es v vs H H' Q st h ih =>
    have e : assignEach (.Name x p :: es) env = (false, assign (.Name x p) env) :: assignEach es env := rfl
    rw [e]
    refine ⟨by simp [ih.1], ?_⟩
    rw [List.findIdx?_cons]
    simp [ih.2]
theorem T.asgTup {es : List Expr} {k} {pos : Pos} {t : Addr} {us : List Value} {Q : SH → Prop} (hk : env.scope.kind = .function) (ht : Has t (.tup us) H) (h : TSeq C d env es us H Q) : T C d (assign (.Tuple es k pos) env (.ref t)) H fun _ H' => Q H' := fun Φ A s b I => by
  obtain ⟨vs, il, e⟩ := ht.isTup I
  obtain ⟨h1, h2⟩ := each_len h
  have hz := map_size e
  refine wpAny_assign_Tuple b.handled il (by rw [h1, hz]) h2 fun h' he => ?_
  refine T.asgIn hk h e Φ A _ b (I.ext (tk := s.toks) fun c o q => he c o (fun z => ?_) q)
  exact absurd (z ▸ Heap.lt_size q) (Nat.lt_irrefl _)
/-- the assignment of a tuple to several names -/
theorem TX.asgTup {es : List Expr} {k} {p : Pos} {e : Expr} {pos : Pos} {rest : List Stmt} (hk : env.scope.kind = .function)
    (h : TE C d e env H fun v H₁ => ∃ t us, v = .ref t ∧ Has t (.tup us) H₁ ∧ TSeq C d env es us H₁ fun H₂ => TX C d rest env H₂ QF)
    (hs : swapsWithSole [.Tuple es k p] e pos.line env = pure false := by rfl)
    (hw : swappedStores [.Tuple es k p] e env = pure none := by rfl) : TX C d (.Assign [.Tuple es k p] e pos :: rest) env H QF := by
  refine TX.cons fun Φ A s b I => Assign_Tuple (T.run h b I fun v s₁ H₁ I₁ zz => ?_) hs hw
  obtain ⟨t, us, ev, ht, hq⟩ := zz
  rw [er_ref ev]
  exact T.run (T.asgTup hk ht hq) b I₁ fun _ s' H' I' q => ⟨H', I', q⟩
end
end Mine
end
section
open PySem PySem.Calls PyProof.Rows
set_option autoImplicit false
set_option linter.unusedVariables false
set_option linter.unusedSimpArgs false
namespace Mine
/-- a block that can sleep, run as far as it goes -/
noncomputable def Stretch (M : Model) (A : Around) (c : Code) (t : Sem Fin) (fs : List Frame) (s : Shared) (P : End → Shared → Prop) : Prop :=
  ∀ Γ p, Γ.code = c → Γ.Woken A → ∃ e s', Runs M Γ p t fs s e s' ∧ e.quiet = true ∧ P e s'
theorem Stretch.step {α : Type} {M : Model} {A : Around} {c : Code} {fs : List Frame} {s : Shared} {P : End → Shared → Prop} {m : Sem α} {k : α → Sem Fin} {lv : List Value → List Value}
    (h : wpAny M (A.over c fs) m (fun a s' => Stretch M A c (k a) fs s' P) (fun _ _ => False) s) : Stretch M A c (m.wrap k .raise id lv) fs s P := fun Γ p hc hΓ => by
  subst hc
  exact runs_wrap_of_wp (Φ := fun e s' => e.quiet = true ∧ P e s') k .raise id lv m (h (Γ.over fs) p (hΓ.over fs)) (fun a p' s' z => z Γ p' rfl hΓ) fun _ _ _ z => z.elim
/-- a stretch of a block that can sleep: it ends in P -/
noncomputable def TSeg (C : Cx) (d : Nat) (c : Code) (t : Sem Fin) (fs : List Frame) (H : SH) (P : End → SH → Prop) : Prop :=
  ∀ (Φ : SH) (A : Around) (s : Shared), Bd C d Φ A → Inv C (H ++ Φ) s → Stretch C.M A c t fs s fun e s' => Post C Φ (P e) s'
noncomputable def Ov (C : Cx) (k : Nat) (c : Code) (fs : List Frame) : Prop := ∀ d Φ A, Bd C (d + k) Φ A → Bd C d Φ (A.over c fs)
section
variable {C : Cx} {d k : Nat} {c : Code} {fs : List Frame} {H : SH} {P : End → SH → Prop} {env : Env} {K : Flow → Sem Fin} {Hh : Value → Sem Fin} {gd : Bool → Bool} {lv : List Value → List Value}
theorem TSeg.wrap {α : Type} {m : Sem α} {K : α → Sem Fin} {Hh : Value → Sem Fin} {gd lv} (ov : Ov C k c fs) (h : T C d m H fun a H' => TSeg C (d + k) c (K a) fs H' P) : TSeg C (d + k) c (m.wrap K Hh gd lv) fs H P := fun Φ A s b I Γ p hc hΓ => by
  subst hc
  exact runs_wrap_of_wp (Φ := fun e s' => e.quiet = true ∧ Post C Φ (P e) s') K Hh gd lv m (h Φ (A.over Γ.code fs) s (ov d Φ A b) I (Γ.over fs) p (hΓ.over fs))
    (fun a p' s' ⟨H', I', h'⟩ => h' Φ A s' b I' Γ p' rfl hΓ) (fun _ _ _ x => x.elim)
theorem TSeg.at {p' : Pos} {kk : Unit → Sem Fin} (h : TSeg C d c (kk ()) fs H P) : TSeg C d c (.at p' kk) fs H P := fun Φ A s b I =>
  Stretch.step (m := standAt p') (lv := id) (wpAny_standAt (h Φ A s b I))
theorem TSeg.point {l : List Value} {kk : Unit → Sem Fin} (h : TSeg C d c (kk ()) fs H P) : TSeg C d c (.point l kk) fs H P := fun Φ A s b I =>
  Stretch.step (m := PySem.point) (lv := fun _ => l) (wpAny_point (h Φ A s b I))
theorem TSeg.call {c' : Code} {hd g l} {kk : Result → Sem Fin} (h : ∀ p, TSeg C d c' (denote table c') (.ret kk hd g l c p [] :: fs) H P) : TSeg C d c (.call c' hd g l kk) fs H P := fun Φ A s b I Γ p hc hΓ => by
  subst hc
  obtain ⟨e, s', hr, hq⟩ := h p Φ A s b I (Γ.goto c') p rfl (hΓ.goto c')
  exact ⟨e, s', runs_call_seg hr, hq⟩
theorem TSeg.again {c' : Code} (hq : c'.quiet = true) (h : TSeg C d c' (denote table c') fs H P) : TSeg C d c (.pure (.again c')) fs H P := fun Φ A s b I Γ p hc hΓ => by
  subst hc
  obtain ⟨e, s', hr, hq'⟩ := h Φ A s b I (Γ.goto c') p rfl (hΓ.goto c')
  exact ⟨e, s', Runs.head (c₁ := c') (fun _ _ y => .again hq y) hr, hq'⟩
theorem TSeg.pop {r : Result} {kk hd g l c₁ p₁ kp} (h : TSeg C d c₁ (kk r) fs H P) : TSeg C d c (leafOf r) (.ret kk hd g l c₁ p₁ kp :: fs) H P := fun Φ A s b I Γ p hc hΓ => by
  subst hc
  obtain ⟨e, s', hr, hq⟩ := h Φ A s b I (Γ.goto c₁) p₁ rfl (hΓ.goto c₁)
  exact ⟨e, s', Runs.pop r hr, hq⟩
theorem TSeg.fin {r : Result} (h : P (.ret r) H) : TSeg C d c (leafOf r) [] H P := fun Φ A s b I Γ p hc hΓ =>
  ⟨.ret r, s, Runs.leaf r, rfl, H, I, h⟩
theorem TSeg.yield {v : Value} {l : List Value} {kk : Resume → Sem Fin} (hfs : splitAtGen fs = none) (hfg : fs.any Frame.guarded = false) (h : ∀ p, P (.susp v false l kk c p fs) H) : TSeg C d c (.yield v false l kk) fs H P := fun Φ A s b I Γ p hc hΓ => by
  subst hc
  exact ⟨_, s, Runs.yield' fs hfs, by simp [End.quiet, hfg], H, I, h p⟩

-- statements
theorem execs_append_wrap : ∀ (pre rest : List Stmt) (K : Flow → Sem Fin), (execs (pre ++ rest) env).wrap K Hh gd lv = (execs pre env).wrap (fun f => match f with | .next => (execs rest env).wrap K Hh gd lv | f => K f) Hh gd lv
  | [], rest, K => rfl
  | st :: pre, rest, K => by
    rw [List.cons_append, execs_cons_wrap, execs_cons_wrap]
    refine Sem.wrap_congr _ _ _ (fun f => ?_) (fun _ => rfl)
    cases f with
    | next => exact execs_append_wrap pre rest K
    | _ => rfl
theorem TSeg.nil (h : TSeg C d c (K .next) fs H P) : TSeg C d c ((execs [] env).wrap K Hh gd lv) fs H P := h
theorem TSeg.pre {pre rest : List Stmt} (ov : Ov C k c fs) (h : TX C d pre env H fun f H' => f = .next ∧ TSeg C (d + k) c ((execs rest env).wrap K Hh gd lv) fs H' P) : TSeg C (d + k) c ((execs (pre ++ rest) env).wrap K Hh gd lv) fs H P := by
  rw [execs_append_wrap]
  refine TSeg.wrap ov (T.mono h fun f H' zz => ?_)
  obtain ⟨e, h'⟩ := zz
  cases f <;> simp [erF] at e
  exact h'
theorem TSeg.ite {test : Expr} {body orelse : List Stmt} {pos : Pos} {rest : List Stmt} (ov : Ov C k c fs)
    (h : TB C d test env H fun b H₁ => TSeg C (d + k) c ((execs (if b then body else orelse) env).wrap (fun f => match f with | .next => (execs rest env).wrap K Hh gd lv | f => K f) Hh gd lv) fs H₁ P) :
    TSeg C (d + k) c ((execs (.If test body orelse pos :: rest) env).wrap K Hh gd lv) fs H P := by
  rw [execs_cons_wrap]
  show TSeg C (d + k) c (.at pos fun _ => ((isTrue test env (eval test env) >>= fun b => if b = true then execs body env else execs orelse env) : Sem Flow).wrap _ Hh gd lv) fs H P
  refine TSeg.at ?_
  rw [Sem.bind_eq_wrap', Sem.wrap_wrap]
  refine TSeg.wrap ov (T.mono h fun b H' h' => ?_)
  cases b <;> exact h'
theorem TSeg.yieldX {e : Expr} {ypos pos : Pos} {rest : List Stmt} (ov : Ov C k c fs) (hfs : splitAtGen fs = none) (hgd : gd false = false) (hfg : fs.any Frame.guarded = false)
    (h : TE C d e env H fun v H' => ∀ x, er x = v → ∀ l kk p, (kk (.send .none) = (execs rest env).wrap K Hh gd lv) → P (.susp x false l kk c p fs) H')
    (hco : env.scope.isCoroutine = false) (hi : interactive env = false) :
    TSeg C (d + k) c ((execs (.Expr (.Yield (some e) ypos) pos :: rest) env).wrap K Hh gd lv) fs H P := by
  rw [execs_cons_wrap, exec_Expr env _ pos hi rfl]
  show TSeg C (d + k) c (.at pos fun _ => ((eval e env >>= fun v => (standAt ypos >>= fun _ => yieldOut env v)) >>= fun x => dropValue (.Yield (some e) ypos) pos x).wrap _ Hh gd lv) fs H P
  have hy : ∀ v, yieldOut env v = yieldValue v := fun v => by simp only [yieldOut, hco, Bool.false_eq_true, if_false]
  simp only [hy]
  refine TSeg.at ?_
  rw [Sem.bind_eq_wrap', Sem.bind_eq_wrap', Sem.wrap_wrap, Sem.wrap_wrap]
  refine TSeg.wrap ov (T.mono h fun v H' h' => ?_)
  refine TSeg.at ?_
  show TSeg C (d + k) c (.yield v (gd false) _ _) fs H' P
  rw [hgd]
  exact TSeg.yield hfs hfg fun p => h' v rfl _ _ p rfl
theorem TSeg.for {target iter : Expr} {body : List Stmt} {pos : Pos} {rest : List Stmt} (ov : Ov C k c fs)
    (h : TE C d iter env H fun v H₁ => ∀ x, er x = v → T C d (pyIter x) H₁ fun it H₂ => ∀ kk p, (kk (.ok .next) = (execs rest env).wrap K Hh gd lv) → TSeg C (d + k) (.forLoop target it body [] env) (denote table (.forLoop target it body [] env)) (.ret kk none (gd false) (lv []) c p [] :: fs) H₂ P)
    (hs : ∀ x, foldedSetIterable iter env x = pure x := by intro _; rfl) :
    TSeg C (d + k) c ((execs (.For target iter body [] pos :: rest) env).wrap K Hh gd lv) fs H P := by
  rw [execs_cons_wrap]
  show TSeg C (d + k) c (.at pos fun _ => ((eval iter env >>= fun x => (foldedSetIterable iter env x >>= fun y => (standAt iter.pos >>= fun _ => (holding [y] (pyIter y) >>= fun it => runOwn (.forLoop target it body [] env) env)))) : Sem Flow).wrap _ Hh gd lv) fs H P
  refine TSeg.at ?_
  rw [Sem.bind_eq_wrap', Sem.wrap_wrap]
  refine TSeg.wrap ov (T.mono h fun v H₁ h₁ => ?_)
  rw [hs v]
  show TSeg C (d + k) c (.at iter.pos fun _ => ((holding [v] (pyIter v) >>= fun it => runOwn (.forLoop target it body [] env) env) : Sem Flow).wrap _ _ _ _) fs H₁ P
  refine TSeg.at ?_
  rw [Sem.bind_eq_wrap', Sem.wrap_wrap]
  refine TSeg.wrap ov (fun Φ A s b I => wpAny_holding (T.mono (h₁ v rfl) (fun it H₂ h₂ => ?_) Φ A s b I))
  exact TSeg.call fun p => h₂ _ p rfl
/-- one turn of a for in a block that can sleep -/
theorem TSeg.forStep {target : Expr} {it : Value} {body : List Stmt} (ov : Ov C k (.forLoop target it body [] env) fs) (ovb : Ov C k (.block [] env) fs)
    (h : T C d (pyNext it) H fun r H₁ => match r with
      | none => TSeg C (d + k) (.block [] env) (leafOf (.ok .next)) fs H₁ P
      | some v => T C d (letOwnedTupleGo target it v) H₁ fun _ H₂ => T C d (assign target env v) H₂ fun _ H₃ => ∀ K' Hh', (K' .next = .pure (.again (.forLoop target it body [] env))) →
          TSeg C (d + k) (.forLoop target it body [] env) ((execs body env).wrap K' Hh' id id) fs H₃ P) :
    TSeg C (d + k) (.forLoop target it body [] env) (denote table (.forLoop target it body [] env)) fs H P := by
  show TSeg C (d + k) _ ((forTurn target it body [] env).onRaise (fun x => do noteFrame x env; theTreesLotGoes x)) fs H P
  rw [Sem.onRaise_eq_wrap]
  unfold forTurn
  show TSeg C (d + k) _ (.at target.pos fun _ => (((pyNext it).onRaise (fun _ => standAt { target.pos with line := 0 })) >>= _ : Sem Fin).wrap _ _ _ _) fs H P
  refine TSeg.at ?_
  rw [Sem.bind_eq_wrap', Sem.wrap_wrap]
  refine TSeg.wrap ov (fun Φ A s b I => wpAny_onRaise (T.run h b I fun r s₁ H₁ I₁ h₁ => ?_))
  refine ⟨H₁, I₁, ?_⟩
  cases r with
  | none =>
    show TSeg C (d + k) _ (.pure (.again (.block [] env))) fs H₁ P
    refine TSeg.again rfl ?_
    show TSeg C (d + k) _ ((((execs [] env).onRaise (fun x => do noteFrame x env; theTreesLotGoes x)) >>= fun f => (pure (Fin.done f) : Sem Fin))) fs H₁ P
    exact h₁
  | some v =>
    show TSeg C (d + k) _ ((letOwnedTupleGo target it v >>= fun _ => (assign target env v >>= fun _ => (execs body env >>= fun f => _)) : Sem Fin).wrap _ _ _ _) fs H₁ P
    rw [Sem.bind_eq_wrap', Sem.wrap_wrap]
    refine TSeg.wrap ov (T.mono h₁ fun _ H₂ h₂ => ?_)
    rw [Sem.bind_eq_wrap', Sem.wrap_wrap]
    refine TSeg.wrap ov (T.mono h₂ fun _ H₃ h₃ => ?_)
    rw [Sem.bind_eq_wrap', Sem.wrap_wrap]
    exact h₃ _ _ rfl
theorem TSeg.func {body : List Stmt} (h : ∀ K' Hh', (K' .next = leafOf (.ok (.ret .none))) → TSeg C d (.func body env) ((execs body env).wrap K' Hh' id id) [] H P) :
    TSeg C d (.func body env) (denote table (.func body env)) [] H P := by
  show TSeg C d _ (.point [] fun _ => ((execs body env).onRaise (leaving env)) >>= _) [] H P
  refine TSeg.point ?_
  rw [Sem.onRaise_eq_wrap, Sem.bind_eq_wrap', Sem.wrap_wrap]
  exact h _ _ rfl
end
end Mine
end
section
open PySem PySem.Calls PyProof.Rows
set_option autoImplicit false
set_option linter.unusedVariables false
set_option linter.unusedSimpArgs false
namespace Mine
section
variable {C : Cx} {d : Nat} {H : SH}
/-- the block of a def laid -/
theorem T.newFn {fd : FuncData} {f : Addr} {binds : List (Str × Value)} (hclo : fd.closure = []) (nd : (fd.scope.names.map (·.1)).Nodup) (hk : fd.scope.kind = .function)
    (hkind : ∀ x ∈ binds, fd.scope.names.lookup x.1 = some .local ∨ fd.scope.names.lookup x.1 = some .cell) :
    T C d (newFunctionEnv fd.scope fd.globals fd.closure binds (fd.qualname ++ ".<locals>.") (some f) fd.code none fd.builtins) H fun env H₂ => IsEnv fd f env ∧ H₂ = entryH fd env (erB binds) H := fun Φ A s₁ b I₁ => by
  rw [hclo]
  have lk : ∀ n, Env.kindOf (callEnvC fd s₁.heap.objs.size f) n = fd.scope.names.lookup n := fun n => rfl
  refine wpAny_newFunctionEnv_cells hk (fun x hx => ?_) fun env he s₂ X => ?_
  · rcases hkind x hx with q | q
    · exact .inl q
    · refine .inr ⟨q, ?_⟩
      have hm : x.1 ∈ (cellsFrom (s₁.heap.objs.size + 1) fd.scope.names []).map (·.1) := by
        rw [cellsFrom_names]
        simp only [List.map_nil, List.append_nil, List.mem_reverse]
        obtain hmem := mem_of_lookup q
        exact List.mem_map.mpr ⟨_, List.mem_filter.mpr ⟨hmem, by simp⟩, rfl⟩
      obtain ⟨p, hp, e⟩ := List.mem_map.mp hm
      have ndc : ((cellsFrom (s₁.heap.objs.size + 1) fd.scope.names []).map (·.1)).Nodup := by
        rw [cellsFrom_names]
        simp only [List.map_nil, List.append_nil]
        exact nodup_rev ((List.filter_sublist.map _).nodup nd)
      rw [← e, lookup_of_mem ndc hp]; rfl
  · subst he
    obtain ⟨hh, tk, es⟩ := X.toInCall.same
    have hgens : s₂.gens = s₁.gens := by rw [es]
    have hos : s₂.os = s₁.os := by rw [es]
    generalize hcs : cellsFrom (s₁.heap.objs.size + 1) fd.scope.names [] = cs at X ⊢
    have hnames : cs.map (·.1) = (cellNames fd).reverse := by
      rw [← hcs, cellsFrom_names]; simp [cellNames]
    have ndc : (cs.map (·.1)).Nodup := by
      rw [hnames]
      exact nodup_rev ((List.filter_sublist.map _).nodup nd)
    have I₂ : Inv C (entryH fd (mkEnv fd s₁.heap.objs.size cs f) (erB binds) H ++ Φ) s₂ := by
      have e : entryH fd (mkEnv fd s₁.heap.objs.size cs f) (erB binds) H ++ Φ = ((s₁.heap.objs.size, AObj.ns ((locNames fd).map fun n => (n, (erB binds).reverse.lookup n))) :: (cs.map fun p => (p.2, AObj.cell ((erB binds).reverse.lookup p.1)))) ++ (H ++ Φ) := by
        show _ :: (_ ++ H) ++ Φ = _ :: _ ++ (H ++ Φ)
        rw [List.cons_append, List.append_assoc]; rfl
      rw [e]
      refine Inv.add I₁ (fun p hp => ?_) ?_ X.toInCall.keep hgens hos
      · rcases List.mem_cons.mp hp with rfl | hp
        · refine ⟨Nat.le_refl _, ⟨?_, _, X.toInCall.ns, fun q hq => ?_⟩, rfl⟩
          · rw [List.map_map]
            exact (show ((locNames fd).map fun n => n).Nodup by rw [List.map_id']; exact (List.filter_sublist.map _).nodup nd)
          · obtain ⟨n, hn, rfl⟩ := List.mem_map.mp hq
            have hkn : fd.scope.names.lookup n = some .local := kind_of_mem nd hn
            show Option.map er (bindL _ binds (fun _ => none) n) = _
            rw [bindL_is _ _ _ _ (show List.lookup n fd.scope.names = _ from hkn), Option.or_none, lookup_erB, erB_reverse]
        · obtain ⟨q, hq, rfl⟩ := List.mem_map.mp hp
          have hl : cs.lookup q.1 = some q.2 := lookup_of_mem ndc hq
          have hkn : fd.scope.names.lookup q.1 = some .cell := by
            have : q.1 ∈ (cellNames fd).reverse := hnames ▸ List.mem_map.mpr ⟨q, hq, rfl⟩
            exact kind_of_mem nd (List.mem_reverse.mp this)
          obtain ⟨oc, hoc, hdc⟩ := X.cell q.1 q.2 hl
          refine ⟨Nat.le_of_lt (X.above q.1 q.2 hq), ⟨oc, _, hoc, hdc, ?_⟩, rfl⟩
          rw [bindC_is _ _ _ _ (show List.lookup q.1 fd.scope.names ≠ _ by rw [hkn]; intro e; cases e), Option.or_none, lookup_erB, erB_reverse]
      · rw [List.map_cons, List.nodup_cons]
        refine ⟨fun hm => ?_, ?_⟩
        · obtain ⟨p, hp, e⟩ := List.mem_map.mp hm
          obtain ⟨q, hq, rfl⟩ := List.mem_map.mp hp
          have := X.above q.1 q.2 hq
          exact absurd (show s₁.heap.objs.size < q.2 from this) (by rw [show q.2 = s₁.heap.objs.size from e]; exact Nat.lt_irrefl _)
        · rw [List.map_map]
          have hap : cs.Pairwise fun x y => x.2 ≠ y.2 := X.apart
          exact List.pairwise_map.mpr hap
    exact ⟨_, I₂, ⟨rfl, rfl, rfl, rfl, rfl, rfl, rfl, hnames⟩, rfl⟩

theorem Inv.setGen {R : SH} {s : Shared} {a : Addr} {g : Nat} {x y : GenState} (I : Inv C ((a, .gen g x) :: R) s) (hy : y.bare = true) : Inv C ((a, .gen g y) :: R) (s.setGen g y) := by
  have hg := I.gens
  rw [List.filterMap_cons] at hg
  have hg' : (g :: R.filterMap genOf).Nodup := hg
  rw [List.nodup_cons] at hg'
  obtain ⟨ho, hgs⟩ := I.own _ (.head _)
  have hlt : g < s.gens.size := (Array.getElem?_eq_some_iff.mp hgs).1
  refine ⟨I.keep, fun p hp => ?_, fun p hp => ?_, ?_, ?_, I.os, ?_⟩
  · rcases List.mem_cons.mp hp with rfl | hp
    · exact ⟨ho, by show (s.gens.setIfInBounds g y)[g]? = _; rw [Array.getElem?_setIfInBounds]; simp [hlt]⟩
    · refine (I.own p (.tail _ hp)).same (fun o e => e) fun n z e => ?_
      show (s.gens.setIfInBounds g y)[n]? = s.gens[n]?
      rw [Array.getElem?_setIfInBounds, if_neg]
      intro q
      exact hg'.1 (List.mem_filterMap.mpr ⟨p, hp, by rw [q]; obtain ⟨p1, p2⟩ := p; simp at e; subst e; rfl⟩)
  · rcases List.mem_cons.mp hp with rfl | hp
    · exact I.new (a, .gen g x) (.head _)
    · exact I.new p (.tail _ hp)
  · exact I.nodup
  · exact hg
  · intro z hz
    have hz' : z ∈ s.gens.setIfInBounds g y := hz
    rcases Array.mem_or_eq_of_mem_setIfInBounds hz' with h | h
    · exact I.bare z h
    · rw [h]; exact hy
theorem Inv.newGen {R : SH} {s : Shared} {c : Code} {nm qn : Value} {tk : Tok} (I : Inv C R s) : Inv C ((s.heap.objs.size, .gen s.gens.size (.fresh c)) :: R)
    { s with gens := s.gens.push (.fresh c), toks := tk, heap := s.heap.push { cls := .type "generator", data := .fields #[.int s.gens.size 0, nm, qn] } } := by
  have J : Inv C R { s with gens := s.gens.push (.fresh c), toks := tk, heap := s.heap.push { cls := .type "generator", data := .fields #[.int s.gens.size 0, nm, qn] } } := by
    refine ⟨fun b o e t => Heap.get?_push_of_some _ (I.keep b o e t), fun p hp => (I.own p hp).same (fun o e => Heap.get?_push_of_some _ e) fun n y e => ?_, I.new, I.nodup, I.gens, I.os, I.bare.push rfl⟩
    have h := I.own p hp
    rw [e] at h
    have hlt : n < s.gens.size := (Array.getElem?_eq_some_iff.mp h.2).1
    show (s.gens.push _)[n]? = s.gens[n]?
    rw [Array.getElem?_push_lt hlt]; simp [hlt]
  refine ⟨J.keep, fun p hp => ?_, fun p hp => ?_, ?_, ?_, J.os, J.bare⟩
  · rcases List.mem_cons.mp hp with rfl | hp
    · exact ⟨⟨_, _, _, Heap.get?_push_size _ rfl, rfl, rfl, rfl⟩, by simp⟩
    · exact J.own p hp
  · rcases List.mem_cons.mp hp with rfl | hp
    · exact I.fresh (Nat.le_refl _)
    · exact I.new p hp
  · rw [List.map_cons, List.nodup_cons]
    refine ⟨fun hm => ?_, I.nodup⟩
    obtain ⟨p, hp, e⟩ := List.mem_map.mp hm
    obtain ⟨o, ho⟩ := (I.own p hp).there
    have := Heap.lt_size ho
    rw [e] at this
    exact absurd this (Nat.lt_irrefl _)
  · rw [List.filterMap_cons]
    show (s.gens.size :: R.filterMap genOf).Nodup
    rw [List.nodup_cons]
    refine ⟨fun hm => ?_, I.gens⟩
    obtain ⟨p, hp, e⟩ := List.mem_filterMap.mp hm
    have h := I.own p hp
    obtain ⟨a, x⟩ := p
    cases x <;> simp [genOf] at e
    subst e
    exact absurd (Array.getElem?_eq_some_iff.mp h.2).1 (Nat.lt_irrefl _)

/-- a block that sleeps has these tuples still to give -/
noncomputable def GenAt (C : Cx) (dd : Nat) : List (List Value) → Code → Sem Fin → List Frame → SH → Prop
  | [], c, t, fs, X => ∀ d, TSeg C (d + dd) c t fs X fun e _ => e = .ret (.ok (.ret .none))
  | us :: r, c, t, fs, X => ∀ d, TSeg C (d + dd) c t fs X fun e H' => ∃ tp l kk c' p fs' X', e = .susp (.ref tp) false l kk c' p fs' ∧ H' = (tp, .tup us) :: X' ∧ GenAt C dd r c' (kk (.send .none)) fs' X'
noncomputable def GenSt (C : Cx) (dd : Nat) (r : List (List Value)) (gs : GenState) (X : SH) : Prop :=
  (∃ c, gs = .fresh c ∧ GenAt C dd r c (denote table c) [] X) ∨ (∃ kk l c p fs cl, gs = .suspended kk l c p fs cl ∧ GenAt C dd r c (kk (.send .none)) fs X)
/-- what a stretch ends in -/
noncomputable def GenOut (C : Cx) (dd : Nat) (r : List (List Value)) (e : End) (H' : SH) : Prop := match r with
  | [] => e = .ret (.ok (.ret .none))
  | us :: r' => ∃ tp l kk c' p fs' X', e = .susp (.ref tp) false l kk c' p fs' ∧ H' = (tp, .tup us) :: X' ∧ GenAt C dd r' c' (kk (.send .none)) fs' X'
theorem GenAt.go {dd : Nat} {r : List (List Value)} {c : Code} {t : Sem Fin} {fs : List Frame} {X : SH} (h : GenAt C dd r c t fs X) (d : Nat) : TSeg C (d + dd) c t fs X (GenOut C dd r) := by
  cases r with
  | nil => exact h d
  | cons us r => exact h d
theorem GenAt.mk {dd : Nat} {r : List (List Value)} {c : Code} {t : Sem Fin} {fs : List Frame} {X : SH} (h : ∀ d, TSeg C (d + dd) c t fs X (GenOut C dd r)) : GenAt C dd r c t fs X := by
  cases r with
  | nil => exact h
  | cons us r => exact h
noncomputable def NextOut (C : Cx) (dd : Nat) (r : List (List Value)) (a : Addr) (g : Nat) (H₁ : SH) (v : Option Value) (H₂ : SH) : Prop := match r with
  | [] => v = none ∧ H₂ = H₁
  | us :: r' => ∃ tp gs' X', v = some (.ref tp) ∧ GenSt C dd r' gs' X' ∧ H₂ = (tp, .tup us) :: ((a, .gen g gs') :: (X' ++ H₁))
theorem gen_wake {α : Type} {M : Model} {A : Around} {Q : α → Shared → Prop} {E : Value → Shared → Prop} {s : Shared} {g : Nat} {gs : GenState} {r : Resume} {l : List Value} {k : GenResult → Sem α} {c₀ : Code} {t₀ : Sem Fin} {fs₀ : List Frame} (hg : s.gens[g]? = some gs)
    (hgs : (gs = .fresh c₀ ∧ r = .send .none ∧ t₀ = M.den c₀ ∧ fs₀ = []) ∨ (∃ k₀ l₀ p₀ cl, gs = .suspended k₀ l₀ c₀ p₀ fs₀ cl ∧ t₀ = k₀ r))
    (h : Stretch M A c₀ t₀ fs₀ (s.setGen g .running) fun e s₁ => wpAny M A (k e.result) Q E (s₁.setGen g e.genState)) : wpAny M A (.resume g r l k) Q E s := fun Γ p hΓ => by
  rw [Sem.wp_resume]
  rcases hgs with ⟨rfl, rfl, rfl, rfl⟩ | ⟨k₀, l₀, p₀, cl, rfl, rfl⟩
  · obtain ⟨e, s₁, hr, hq, he⟩ := h (Γ.wake c₀ p) p rfl (hΓ.wake c₀ p)
    exact ⟨_, _, by unfold Wakes; rw [hg]; exact ⟨e, s₁, hr, hq, rfl, rfl⟩, he Γ p hΓ⟩
  · obtain ⟨e, s₁, hr, hq, he⟩ := h (Γ.wake c₀ p) p₀ rfl (hΓ.wake c₀ p)
    exact ⟨_, _, by unfold Wakes; rw [hg]; exact ⟨e, s₁, hr, hq, rfl, rfl⟩, he Γ p hΓ⟩
theorem gen_next {dd : Nat} {a : Addr} {g : Nat} {gs : GenState} {r : List (List Value)} {X H₁ : SH} (Lm : Lim C) (G : GenSt C dd r gs X) :
    T C (d + (dd + 1)) (pyNext (.ref a)) ((a, .gen g gs) :: (X ++ H₁)) (NextOut C dd r a g H₁) := fun Φ A s b I => by
  obtain ⟨hg, hgs⟩ := I.own _ (.head _)
  have hgen : s.heap.IsGen a g := hg
  have hl : s.heap.NoLimit := by
    obtain ⟨mc, hns, hv⟩ := Lm.lim
    exact ⟨mc, I.ns hns Lm.out, hv⟩
  unfold pyNext
  refine wpAny_bind (wpAny_attempt (wpAny_callSpecial?_slot (name := Str.ofString "__next__") hgen.typeIs slot_gen_next
    (wpAny_call_entry slot_gen_next hgen.typeIs entry_gen_next ?_ (args_gen_next _))))
  show wpAny _ _ (Builtin.Generator.genWake (.ref a) (.send .none)) _ _ s
  unfold Builtin.Generator.genWake
  refine wpAny_bind (wpAny_holding (wpAny_genNumber hgen (wpAny_bind (wpAny_genState hgs ?_))))
  have hroom : A.in1.depth < recursionLimit := by have := b.in1.depth; lia
  have I₀ : Inv C ((a, .gen g .running) :: (X ++ H₁ ++ Φ)) (s.setGen g .running) := Inv.setGen (y := .running) (by simpa using I) rfl
  have I₁ : Inv C (X ++ ((a, .gen g .running) :: (H₁ ++ Φ))) (s.setGen g .running) := I₀.perm (by rw [List.append_assoc]; exact List.perm_middle.symm)
  have bd : Bd C (d + dd) ((a, .gen g .running) :: (H₁ ++ Φ)) A.in1 := (b.in1 : Bd C (d + dd) Φ A.in1).more (F := (a, .gen g .running) :: H₁)
  have back : ∀ {s₁ : Shared} {H' : SH} {y : GenState}, Inv C (H' ++ ((a, .gen g .running) :: (H₁ ++ Φ))) s₁ → y.bare = true → Inv C ((a, .gen g y) :: (H' ++ (H₁ ++ Φ))) (s₁.setGen g y) := fun I' hy => Inv.setGen (I'.perm List.perm_middle) hy
  have go : ∀ (c₀ : Code) (t₀ : Sem Fin) (fs₀ : List Frame) (hgo : (gs = .fresh c₀ ∧ Resume.send .none = .send .none ∧ t₀ = denote table c₀ ∧ fs₀ = []) ∨ (∃ k₀ l₀ p₀ cl, gs = .suspended k₀ l₀ c₀ p₀ fs₀ cl ∧ t₀ = k₀ (.send .none))), GenAt C dd r c₀ t₀ fs₀ X →
      ∀ {k : GenResult → Sem Fin}, (∀ v, k (.yielded v) = ret v) → (∃ f : PUnit → Sem Fin, k (.returned .none) = (newExc (.type "StopIteration") [] >>= fun e => (raiseNew e : Sem PUnit) >>= f)) →
      wpAny C.M A.in1 (.resume g (.send .none) [] k) (fun fin s' => ∃ v, fin = .done (.ret v) ∧ wpAny C.M A (Pure.pure (some v)) (fun v s' => Post C Φ (NextOut C dd r a g H₁ v) s') (fun _ _ => False) s')
        (fun e s' => wpAny C.M A (isInstance e (.type "StopIteration") >>= fun b => if b = true then Pure.pure none else throw e) (fun v s' => Post C Φ (NextOut C dd r a g H₁ v) s') (fun _ _ => False) s') s := by
    intro c₀ t₀ fs₀ hgo hat k hky ⟨kf, hkr⟩
    refine gen_wake hgs hgo ?_
    intro Γ p hc hΓ
    obtain ⟨e, s₁, hr, hq, H', I', h'⟩ := hat.go d _ _ _ bd I₁ Γ p hc hΓ
    refine ⟨e, s₁, hr, hq, ?_⟩
    show wpAny C.M A.in1 (k e.result) _ _ (s₁.setGen g e.genState)
    cases r with
    | nil =>
      have he : e = .ret (.ok (.ret .none)) := h'
      subst he
      have J := (back (y := .finished) I' rfl).sub ((List.sublist_append_right H' (H₁ ++ Φ)).trans (List.sublist_cons_self _ _))
      show wpAny _ _ (k (.returned .none)) _ _ _
      rw [hkr]
      refine wpAny_bind ?_
      simp only [newExc, newTuple]
      refine wpAny_bind (wpAny_newObj_type ?_ (by size_fits))
      refine wpAny_bind (m := firstArgMember _ _) (wpAny_of_eq (a := Value.none) (by first | rfl | (simp only [firstArgMember]; rfl)) ?_)
      refine wpAny_newObj_type ?_ (by size_fits)
      simp only [raiseNew]
      refine wpAny_bind (wpAny_bind (wpAny_handled ?_))
      rw [show A.in1.handled = none from b.handled]
      refine wpAny_throw ?_
      refine wpAny_bind (wpAny_isInstance (T := "StopIteration") (b := true) ⟨_, Heap.get?_push_size _ rfl, rfl⟩ isSubtype_stop ?_)
      exact wpAny_pure ⟨H₁, J.ext (tk := s₁.toks) fun b o hb => Heap.get?_push_of_some _ (Heap.get?_push_of_some _ hb), rfl, rfl⟩
    | cons us r' =>
      obtain ⟨tp, l, kk, c', p', fs', X', rfl, rfl, hat'⟩ := h'
      have J := back (y := End.genState (.susp (.ref tp) false l kk c' p' fs')) I' (End.bare_of_quiet hq)
      show wpAny _ _ (k (.yielded (.ref tp))) _ _ _
      rw [hky]
      refine wpAny_pure ⟨_, rfl, wpAny_pure ⟨_, ?_, tp, End.genState (.susp (.ref tp) false l kk c' p' fs'), X', rfl, .inr ⟨kk, l, c', p', fs', false || fs'.any Frame.guarded, rfl, hat'⟩, rfl⟩⟩
      refine J.perm ?_
      show List.Perm ((a, AObj.gen g _) :: ((tp, AObj.tup us) :: X' ++ (H₁ ++ Φ))) ((tp, AObj.tup us) :: ((a, AObj.gen g _) :: (X' ++ H₁)) ++ Φ)
      simp only [List.cons_append, List.append_assoc]
      exact List.Perm.swap ..
  rcases G with ⟨c₀, rfl, hat⟩ | ⟨k₀, l₀, c₀, p₀, fs₀, cl, rfl, hat⟩
  · refine wpAny_bind (wpAny_roomToWake hl hroom ?_)
    show wpAny _ _ (.resume g (.send .none) [] _) _ _ s
    exact go c₀ _ [] (.inl ⟨rfl, rfl, rfl, rfl⟩) hat (fun v => rfl) ⟨_, rfl⟩
  · refine wpAny_bind (wpAny_roomToWake hl hroom ?_)
    show wpAny _ _ (.resume g (.send .none) [] _) _ _ s
    exact go c₀ _ fs₀ (.inr ⟨k₀, l₀, p₀, cl, rfl, rfl⟩) hat (fun v => rfl) ⟨_, rfl⟩

/-- the call of a def that yields -/
theorem TCall.gen {Q : Value → SH → Prop} {f : Addr} {fd : FuncData} {body : List Stmt} {as : List Value} (F : Fn C f fd) (Lm : Lim C) (hbody : fd.body = .stmts body) (hclo : fd.closure = [])
    (nd : (fd.scope.names.map (·.1)).Nodup)
    (h : ∀ xs, xs.map er = as → T C d (bindArgs fd ⟨xs, []⟩) H fun binds H₁ => (∀ x ∈ binds, fd.scope.names.lookup x.1 = some .local ∨ fd.scope.names.lookup x.1 = some .cell) ∧
      ∀ env, IsEnv fd f env → ∀ a g, Q (.ref a) ((a, .gen g (.fresh (.func body env))) :: entryH fd env (erB binds) H₁))
    (hco : fd.scope.isCoroutine = false := by kernel_rfl) (hgen : fd.scope.isGenerator = true := by kernel_rfl) (hk : fd.scope.kind = .function := by kernel_rfl) : TCall C (d + 1) (.ref f) as H Q := by
  intro xs hxs Φ A s b I
  obtain ⟨o, ho, hdat⟩ := F.at'
  have keepC : ∀ {s' : Shared} {H' : SH}, Inv C H' s' → s'.heap.CodeRec fd.code fd.qualname := fun {s' H'} I' => by
    obtain ⟨c, o, vs, t, e, g, r⟩ := F.code
    exact ⟨c, o, vs, t, e, I'.keep _ _ g (F.codeOut c e), r⟩
  refine wpAny_call (codeAny_call_generator (by have := b.depth; lia) (I.keep _ _ ho F.out) hdat hco hgen hbody (keepC I) ?_)
  refine T.run (h xs hxs) (b.in1) I fun binds s₁ H₁ I₁ zz => ?_
  obtain ⟨hkind, hB⟩ := zz
  refine T.run (T.newFn (C := C) (d := d) (H := H₁) (f := f) hclo nd hk hkind) b.in1 I₁ fun env s₂ H₂ I₂ zz => ?_
  obtain ⟨hE, e⟩ := zz
  subst e
  refine ⟨?_, ?_⟩
  · obtain ⟨mc, hns, hv⟩ := Lm.lim
    exact ⟨mc, I₂.ns hns Lm.out, hv⟩
  · exact ⟨_, I₂.newGen, hB env hE _ _⟩
theorem genWalk {dd : Nat} {es : List Expr} {k : Nat} {pos : Pos} {a : Addr} {g : Nat} {outs : List (List Value)} (Lm : Lim C) :
    Walk C (dd + 1) (.Tuple es k pos) (.ref a) outs.length (fun i Xi => ∃ gs X, Xi = (a, .gen g gs) :: X ∧ GenSt C dd (outs.drop i) gs X) (fun _ => True) (fun i v N => ∃ tp us, v = .ref tp ∧ outs[i]? = some us ∧ N = [(tp, .tup us)]) where
  next := by
    rintro i hi d H₁ _ _ ⟨gs, X, rfl, G⟩
    have hd : outs.drop i = outs[i] :: outs.drop (i + 1) := List.drop_eq_getElem_cons hi
    rw [hd] at G
    refine T.mono (gen_next (d := d) (g := g) (a := a) (H₁ := H₁) Lm G) fun v H₂ zz => ?_
    obtain ⟨tp, gs', X', ev, G', e⟩ := zz
    subst ev e
    refine ⟨_, rfl, ?_⟩
    intro Φ A s b I
    obtain ⟨⟨o, nm, qn, ho, hc, hdt, _⟩, _⟩ := I.own (a, .gen g gs') (.tail _ (.head _))
    unfold letOwnedTupleGo
    refine wpAny_bind (wpAny_load ho ?_)
    rw [hc, hdt]
    refine wpAny_pure ⟨_, I, [(tp, .tup outs[i])], (a, .gen g gs') :: X', ⟨tp, outs[i], rfl, List.getElem?_eq_getElem hi, rfl⟩, ⟨gs', X', rfl, G'⟩, rfl⟩
  fin := by
    rintro d H₁ _ _ ⟨gs, X, rfl, G⟩
    rw [List.drop_length] at G
    exact gen_next (d := d) (g := g) (a := a) (H₁ := H₁) Lm G
theorem T.iterGen {a : Addr} {g : Nat} {gs : GenState} {Q : Value → SH → Prop} (h : Q (.ref a) ((a, .gen g gs) :: H)) : ∀ x, er x = .ref a → T C d (pyIter x) ((a, .gen g gs) :: H) Q := fun x ex Φ A s b I => by
  cases er_ref ex
  obtain ⟨hg, hgs⟩ := I.own _ (.head _)
  exact wpAny_pyIter_gen hg ⟨_, I, h⟩
end
end Mine
end
section
open PySem PySem.Calls PyProof.Rows
set_option autoImplicit false
set_option linter.unusedVariables false
set_option linter.unusedSimpArgs false
namespace Mine
section
variable {C : Cx} {d : Nat} {H : SH}
/-- several objects turned and several new -/
theorem Inv.redo {K K' R : SH} {s s' : Shared} (I : Inv C (K ++ R) s) (hk : ∀ b o, b ∉ K.map (·.1) → s.heap.get? b = some o → s'.heap.get? b = some o)
    (ha : ∀ p ∈ K', p.1 ∈ K.map (·.1) ∨ s.heap.objs.size ≤ p.1) (nd : (K'.map (·.1)).Nodup) (hr : ∀ p ∈ K', Rep s' p.1 p.2 ∧ genOf p = none) (eg : s'.gens = s.gens) (eo : s'.os = s.os) : Inv C (K' ++ R) s' := by
  have nk := I.nodup
  rw [List.map_append, List.nodup_append] at nk
  have apart : ∀ p ∈ R, p.1 ∉ K.map (·.1) := fun p hp hm => nk.2.2 _ hm _ (List.mem_map.mpr ⟨p, hp, rfl⟩) rfl
  have newK : ∀ p ∈ K, C.h0.get? p.1 = none ∨ p.1 ∈ C.tabs := fun p hp => I.new p (List.mem_append_left _ hp)
  refine ⟨fun b o e t => ?_, fun p hp => ?_, fun p hp => ?_, ?_, ?_, eo.trans I.os, by rw [eg]; exact I.bare⟩
  · refine hk b o (fun hm => ?_) (I.keep b o e t)
    obtain ⟨p, hp, rfl⟩ := List.mem_map.mp hm
    rcases newK p hp with h | h
    · rw [h] at e; cases e
    · exact t h
  · rcases List.mem_append.mp hp with hp | hp
    · exact (hr p hp).1
    · exact (I.own p (List.mem_append_right _ hp)).same (fun o e => hk _ _ (apart p hp) e) (by rw [eg]; exact fun _ _ _ => rfl)
  · rcases List.mem_append.mp hp with hp | hp
    · rcases ha p hp with hm | hm
      · obtain ⟨q, hq, e⟩ := List.mem_map.mp hm
        rw [← e]; exact newK q hq
      · exact I.fresh hm
    · exact I.new p (List.mem_append_right _ hp)
  · rw [List.map_append, List.nodup_append]
    refine ⟨nd, nk.2.1, fun a h1 b h2 e => ?_⟩
    obtain ⟨p, hp, rfl⟩ := List.mem_map.mp h1
    obtain ⟨q, hq, rfl⟩ := List.mem_map.mp h2
    rcases ha p hp with hm | hm
    · exact apart q hq (e ▸ hm)
    · obtain ⟨o, ho⟩ := (I.own q (List.mem_append_right _ hq)).there
      have := Heap.lt_size ho
      rw [← e] at this
      exact absurd this (Nat.not_lt.mpr hm)
  · rw [List.filterMap_append]
    have : K'.filterMap genOf = [] := List.filterMap_eq_nil_iff.mpr fun p hp => (hr p hp).2
    rw [this]
    exact ((List.sublist_append_right K R).filterMap genOf).nodup I.gens
noncomputable def enumO (it : Addr) (i : Int) (f0 : Value) : AObj := .objp fun o => ∃ old, o = { cls := .type "enumerate", dict := none, data := .fields #[f0, .bool false, .ref it, rawInt i, .none, old], slots := #[] }
noncomputable def strItO (x : Str) (i : Nat) : AObj := .objp fun o => ∃ t, o.cls = .type (strIterType x) ∧ o.data = .fields #[.str x t, .int i 0]
theorem TCall.enumStr {x : Str} {Q : Value → SH → Prop} (h : ∀ e it, Q (.ref e) ((e, enumO it 0 .none) :: (it, strItO x 0) :: H)) : TCall C d (.type "enumerate") [.str x 0] H Q := fun as ea Φ A s b I => by
  obtain ⟨y, rfl, ey⟩ := args1 ea
  obtain ⟨t, rfl⟩ := er_str ey
  refine call_enumerate_str fun h' he hi hz hk => ⟨_, ?_, h (s.heap.objs.size + 1) s.heap.objs.size⟩
  refine Inv.redo (K := []) (K' := [(s.heap.objs.size + 1, enumO s.heap.objs.size 0 .none), (s.heap.objs.size, strItO x 0)]) (s' := { s with heap := h' }) I (fun b o _ e => hk b o e) (fun p hp => .inr ?_) (by simp) (fun p hp => ?_) rfl rfl
  · simp at hp; rcases hp with rfl | rfl
    · exact Nat.le_succ _
    · exact Nat.le_refl _
  · simp at hp; rcases hp with rfl | rfl
    · exact ⟨⟨_, he, _, rfl⟩, rfl⟩
    · obtain ⟨o, ho, hc, hd⟩ := hi
      exact ⟨⟨o, ho, t, hc, hd⟩, rfl⟩
theorem T.iterEnum {e it : Addr} {i : Int} {Q : Value → SH → Prop} (h : Q (.ref e) ((e, enumO it i .none) :: H)) : ∀ x, er x = .ref e → T C d (pyIter x) ((e, enumO it i .none) :: H) Q := fun x ex Φ A s b I => by
  cases er_ref ex
  obtain ⟨o, ho, old, rfl⟩ := I.own _ (.head _)
  exact wpAny_pyIter_enum ho ⟨_, I, h⟩
theorem draws {x : Str} {t : Tok} {it : Addr} {A : Around} (hh : A.handled = none) : Draws C.prog C.w A it [it] x.cps.size (fun i v => ∃ c u, x.cps[i]? = some c ∧ v = .str ⟨#[c]⟩ u) (fun i h => h.IsStrIter it (strIterType x) x t i) := by
  by_cases ha : x.cps.all (· < 128) = true
  · rw [show strIterType x = "str_ascii_iterator" from if_pos ha]; exact Draws.strAscii hh it x t
  · rw [show strIterType x = "str_iterator" from if_neg ha]; exact Draws.strWide hh it x t
theorem enumWalk {es : List Expr} {k : Nat} {pos : Pos} {e it : Addr} {x : Str} :
    Walk C 0 (.Tuple es k pos) (.ref e) x.cps.toList.length (fun i Xi => Xi = [(e, enumO it i .none), (it, strItO x i)]) (fun _ => True) (fun i v N => ∃ tp c, v = .ref tp ∧ x.cps.toList[i]? = some c ∧ N = [(tp, .tup [.int i 0, .str ⟨#[c]⟩ 0])]) where
  next := by
    rintro i hi d H₁ _ _ rfl Φ A s b I
    have I' : Inv C ([(e, enumO it i .none), (it, strItO x i)] ++ (H₁ ++ Φ)) s := by simpa using I
    obtain ⟨o, ho, old, rfl⟩ := I.own _ (.head _)
    obtain ⟨o2, ho2, t, hc2, hd2⟩ := I.own (it, strItO x i) (.tail _ (.head _))
    have hne : e ≠ it := by
      have nk := I'.nodup
      simp at nk
      exact nk.1.1
    refine wpAny_pyNext_enum_itemD (draws (C := C) (x := x) (t := t) b.handled) ho ⟨o2, ho2, hc2, hd2⟩ (by simpa using hi) hne (by simpa using hne) fun v h' tk hP he hst hT hz hk => ?_
    obtain ⟨c, u, hc, rfl⟩ := hP
    obtain ⟨o3, ho3, hc3, hd3⟩ := hst
    have lt1 : e < s.heap.objs.size := Heap.lt_size ho
    have lt2 : it < s.heap.objs.size := Heap.lt_size ho2
    have I₂ : Inv C ([(s.heap.objs.size, .tup [.int i 0, .str ⟨#[c]⟩ 0]), (e, enumO it ((i : Int) + 1) (rawInt s.heap.objs.size)), (it, strItO x (i + 1))] ++ (H₁ ++ Φ)) { s with heap := h', toks := tk + 1 } := by
      refine Inv.redo (s' := { s with heap := h', toks := tk + 1 }) I' (fun b o hb q => hk b o (fun z => hb (by simp [z])) (fun z => hb (by simp [z])) q) (fun p hp => ?_) ?_ (fun p hp => ?_) rfl rfl
      · simp at hp; rcases hp with rfl | rfl | rfl
        · exact .inr (Nat.le_refl _)
        · exact .inl (by simp)
        · exact .inl (by simp)
      · simp [hne, Nat.ne_of_gt lt1, Nat.ne_of_gt lt2]
      · simp at hp; rcases hp with rfl | rfl | rfl
        · exact ⟨⟨_, _, hT, by simp [er]⟩, rfl⟩
        · exact ⟨⟨_, he, _, rfl⟩, rfl⟩
        · exact ⟨⟨o3, ho3, t, hc3, hd3⟩, rfl⟩
    refine ⟨[(s.heap.objs.size, .tup [.int i 0, .str ⟨#[c]⟩ 0]), (e, enumO it ((i : Int) + 1) (rawInt s.heap.objs.size)), (it, strItO x (i + 1))] ++ H₁, by simpa using I₂, _, rfl, ?_⟩
    intro Φ₂ A₂ s₂ b₂ J
    have J' : Inv C ([(e, enumO it ((i : Int) + 1) (rawInt s.heap.objs.size))] ++ ((s.heap.objs.size, .tup [.int i 0, .str ⟨#[c]⟩ 0]) :: (it, strItO x (i + 1)) :: (H₁ ++ Φ₂))) s₂ := J.perm (by simp only [List.cons_append, List.nil_append]; exact List.Perm.swap ..)
    obtain ⟨o4, ho4, old4, rfl⟩ := J'.own _ (.head _)
    refine wpAny_letOwnedTupleGo_enum ho4 fun h₃ he₃ hs₃ => ?_
    refine ⟨_, ?_, [(s.heap.objs.size, .tup [.int i 0, .str ⟨#[c]⟩ 0])], [(e, enumO it ((i + 1 : Nat) : Int) .none), (it, strItO x (i + 1))], ⟨_, c, rfl, by rw [Array.getElem?_toList]; exact hc, rfl⟩, rfl, rfl⟩
    have J₂ := Inv.redo (s' := { s₂ with heap := h₃ }) (K' := [(e, enumO it ((i + 1 : Nat) : Int) .none)]) J' (fun b o hb q => (hs₃.2 b (fun z => hb (by simp [z]))).trans q) (fun p hp => .inl (by simp at hp; subst hp; simp)) (by simp) (fun p hp => by
      simp at hp; subst hp; exact ⟨⟨_, he₃, old4, rfl⟩, rfl⟩) rfl rfl
    exact J₂.perm (by simp only [List.cons_append, List.nil_append]; exact List.Perm.swap ..)
  fin := by
    rintro d H₁ _ _ rfl Φ A s b I
    obtain ⟨o, ho, old, rfl⟩ := I.own _ (.head _)
    obtain ⟨o2, ho2, t, hc2, hd2⟩ := I.own (it, strItO x x.cps.toList.length) (.tail _ (.head _))
    have hx : x.cps.toList.length = x.cps.size := by simp
    refine wpAny_pyNext_enum_endD (draws (C := C) (x := x) (t := t) b.handled) ho ⟨o2, ho2, hc2, by rw [← hx]; exact hd2⟩ fun h' he => ⟨H₁, ?_, rfl, rfl⟩
    have I' : Inv C ((it, strItO x x.cps.toList.length) :: ((e, enumO it x.cps.toList.length .none) :: (H₁ ++ Φ))) s := I.perm (by simp only [List.cons_append, List.nil_append]; exact List.Perm.swap ..)
    exact (I'.pop (s' := { s with heap := h' }) (fun b o q g => he b o q g) rfl rfl).sub (List.sublist_cons_self _ _)
end
end Mine
end
section
open PySem PySem.Calls PyProof.Rows
set_option autoImplicit false
set_option linter.unusedVariables false
set_option linter.unusedSimpArgs false
namespace Mine
/-- a name of the top or of the language -/
noncomputable def Nm (C : Cx) (x : Str) (v : Value) : Prop := ∃ mg mb, Names C mg mb ∧ ((∃ u, mg x = some u ∧ er u = v) ∨ (mg x = none ∧ mb x = some v))
structure InMain (env : Env) : Prop where
  g : env.globals = mainGlobals
  b : env.builtins = builtinsNs
section
variable {C : Cx} {d : Nat} {env : Env} {H : SH} {Q : Value → SH → Prop} {QF : Flow → SH → Prop} {QB : Bool → SH → Prop} {QL : List Value → SH → Prop}
theorem TE.nm {x pos v} (N : Nm C x v) (hl : env.kindOf x = some .globalImplicit) (hk : env.scope.kind = .function) (hm : InMain env) (hf : er v = v) (h : Q v H) (hd : (x == ("__debug__" : Str)) = false := by decide) : TE C d (.Name x pos) env H Q := by
  obtain ⟨mg, mb, N, h1 | h1⟩ := N
  · obtain ⟨u, h1, e⟩ := h1
    exact TE.glob N h1 hl hk hm.g (by rw [e]; exact h) hd
  · refine TE.blt N h1.1 h1.2 hl hk hm.g hm.b ?_ hd
    rw [hf]; exact h
theorem TSeg.drop {c : Code} {t : Sem Fin} {fs : List Frame} {H' : SH} {P : End → SH → Prop} (p : H'.Sublist H) (h : TSeg C d c t fs H' P) : TSeg C d c t fs H P := fun Φ A s b I => h Φ A s b (I.sub (p.append_right Φ))
theorem ov_func {body : List Stmt} (o : C.Off) : Ov C 1 (.func body env) [] := fun d Φ A b => by
  refine ⟨?_, ?_, b.handled, o _ _⟩
  · have := b.depth
    show A.depth + 0 + 1 + d < _
    lia
  · have := b.units
    show A.units + 0 + 3 + 8 * d < _
    lia
theorem ov_for {body body' : List Stmt} {target : Expr} {it : Value} {k : Result → Sem Fin} {g : Bool} {l : List Value} {p : Pos} {env' : Env} (o : C.Off) : Ov C 1 (.forLoop target it body [] env') [.ret k none g l (.func body' env) p []] := fun d Φ A b => by
  refine ⟨?_, ?_, b.handled, o _ _⟩
  · have := b.depth
    show A.depth + 1 + 0 + d < _
    lia
  · have := b.units
    show A.units + 3 + 0 + 8 * d < _
    lia
theorem ov_block {body' : List Stmt} {k : Result → Sem Fin} {g : Bool} {l : List Value} {p : Pos} {env' : Env} (o : C.Off) : Ov C 1 (.block [] env') [.ret k none g l (.func body' env) p []] := fun d Φ A b => by
  refine ⟨?_, ?_, b.handled, o _ _⟩
  · have := b.depth
    show A.depth + 1 + 0 + d < _
    lia
  · have := b.units
    show A.units + 3 + 0 + 8 * d < _
    lia
end
end Mine
end
section
open PySem PySem.Calls PyProof.Rows
set_option autoImplicit false
set_option linter.unusedVariables false
set_option linter.unusedSimpArgs false
namespace Mine
/-- an instance of a class of the text, its attributes in the dict at dx -/
noncomputable def instO (Cl dx : Addr) : AObj := .objp fun o => o.cls = .ref Cl ∧ (∀ c, o.data ≠ .cls c) ∧ o.dict = some dx
/-- the attributes: those of the list (none: not there), and no others -/
noncomputable def attO (m : List (Str × Option Value)) : AObj := .objp fun o => (m.map (·.1)).Nodup ∧ ∃ es ep, o.data = .dict es ep ∧ StrKeys es ∧ UniqKeys es ∧ (∀ p ∈ m, (nsFind es p.1).map er = p.2) ∧ ∀ n, n ∉ m.map (·.1) → nsFind es n = none
structure Cls (C : Cx) (Cl N : Addr) (mN : Str → Option Value) : Prop where
  obj : ∃ nm q bs sn sub col dd k0 k1 k2 k3 k5, C.h0.get? Cl = some (excClassObj nm q Cl N bs [.type "object"] true sn sub false col dd k0 k1 k2 k3 k5 "object.__new__")
  ns : C.h0.Ns N mN
  out : Cl ∉ C.tabs
  outN : N ∉ C.tabs
noncomputable def TAt (C : Cx) (d : Nat) (v : Value) (name : Str) (H : SH) (Q : Value → SH → Prop) : Prop := ∀ x, er x = v → T C d (getAttr x name true) H fun v => Q (er v)
noncomputable def TSetA (C : Cx) (d : Nat) (v : Value) (name : Str) (u : Value) (H : SH) (Q : SH → Prop) : Prop := ∀ x y, er x = v → er y = u → T C d (setAttr x name y) H fun _ => Q
theorem SH.uniq : ∀ (l : SH), (l.map (·.1)).Nodup → ∀ p ∈ l, ∀ q ∈ l, p.1 = q.1 → p = q := by
  intro l
  induction l with
  | nil => intro _ p hp; cases hp
  | cons r l ih =>
    intro nd p hp q hq e
    rw [List.map_cons, List.nodup_cons] at nd
    rcases List.mem_cons.mp hp with rfl | hp'
    · rcases List.mem_cons.mp hq with rfl | hq'
      · rfl
      · exact absurd (List.mem_map.mpr ⟨q, hq', e.symm⟩) nd.1
    · rcases List.mem_cons.mp hq with rfl | hq'
      · exact absurd (List.mem_map.mpr ⟨p, hp', e⟩) nd.1
      · exact ih nd.2 p hp' q hq' e
theorem Swap.has {a : Addr} {x y : AObj} {H H' : SH} (h : Swap a x y H H') : Has a x H := by
  induction h with
  | head => exact .head
  | tail _ ih => exact .tail ih
section
variable {C : Cx} {d : Nat} {env : Env} {H : SH} {Q : Value → SH → Prop} {QF : Flow → SH → Prop} {QB : Bool → SH → Prop} {QL : List Value → SH → Prop} {Φ : SH} {s : Shared}
theorem Has.att {dx : Addr} {m : List (Str × Option Value)} (h : Has dx (attO m) H) (I : Inv C (H ++ Φ) s) : (m.map (·.1)).Nodup ∧ ∃ mA, s.heap.Ns1 dx mA ∧ (∀ p ∈ m, (mA p.1).map er = p.2) ∧ ∀ n, n ∉ m.map (·.1) → mA n = none := by
  obtain ⟨o, ho, nd, es, ep, hd, h1, h2, h3, h4⟩ := h.rep I
  exact ⟨nd, nsFind es, ⟨o, es, ep, ho, hd, h1, h2, fun _ => rfl⟩, h3, h4⟩
theorem Has.inst {x dx Cl : Addr} {m : List (Str × Option Value)} (hx : Has x (instO Cl dx) H) (hm : Has dx (attO m) H) (I : Inv C (H ++ Φ) s) :
    ∃ mA, s.heap.Inst x Cl mA ∧ x ≠ dx ∧ (m.map (·.1)).Nodup ∧ (∀ p ∈ m, (mA p.1).map er = p.2) ∧ ∀ n, n ∉ m.map (·.1) → mA n = none := by
  obtain ⟨nd, mA, hn, h1, h2⟩ := hm.att I
  obtain ⟨o, ho, hc, hnc, hd⟩ := hx.rep I
  have hne : dx ≠ x := by
    rintro rfl
    obtain ⟨o', es, ep, ho', hd', _⟩ := hn
    have e := Option.some.inj (ho.symm.trans ho')
    subst e
    -- the instance's data is no dict: by the apartness of the list
    have nk := I.nodup
    have h3 := hx.mem
    have h4 := hm.mem
    rw [List.map_append] at nk
    have nk' := (List.nodup_append.mp nk).1
    have : (dx, instO Cl dx) = (dx, attO m) := SH.uniq H nk' _ h3 _ h4 rfl
    have e2 : instO Cl dx = attO m := (Prod.mk.inj this).2
    unfold instO attO at e2
    have e3 := AObj.objp.inj e2
    -- an object that is an instance and no dict
    have e4 := congrFun e3 { cls := .ref Cl, dict := some dx, data := .plain }
    have : ((m.map (·.1)).Nodup ∧ ∃ es ep, (Data.plain : Data) = .dict es ep ∧ StrKeys es ∧ UniqKeys es ∧ (∀ p ∈ m, (nsFind es p.1).map er = p.2) ∧ ∀ n, n ∉ m.map (·.1) → nsFind es n = none) := by
      rw [← e4]; exact ⟨rfl, fun c => by simp, rfl⟩
    obtain ⟨_, _, _, q, _⟩ := this
    cases q
  exact ⟨mA, ⟨o, ho, hc, hnc, .inr ⟨dx, hd, hne, hn⟩⟩, hne.symm, nd, h1, h2⟩
theorem Cls.at {Cl N : Addr} {mN : Str → Option Value} {K : SH} (X : Cls C Cl N mN) (I : Inv C K s) : (∃ nm q bs sn sub col dd k0 k1 k2 k3 k5, s.heap.get? Cl = some (excClassObj nm q Cl N bs [.type "object"] true sn sub false col dd k0 k1 k2 k3 k5 "object.__new__")) ∧ s.heap.Ns N mN := by
  obtain ⟨nm, q, bs, sn, sub, col, dd, k0, k1, k2, k3, k5, e⟩ := X.obj
  exact ⟨⟨nm, q, bs, sn, sub, col, dd, k0, k1, k2, k3, k5, I.keep _ _ e X.out⟩, I.ns X.ns X.outN⟩
theorem handed {v : Value} (h : ∀ b, er v ≠ .builtin b) : handedOut v = pure v := by
  cases v <;> first | rfl | exact absurd rfl (h _)
theorem TE.attr {value attr pos} (h : TE C d value env H fun v H₁ => TAt C d v attr H₁ Q)
    (he : eval (.Attribute value attr pos) env = (do
      let o ← eval value env
      standAt pos.atName
      let r ← holding [o] (getAttr o attr true)
      letTemporaryGo value o r
      pure r) := by with_unfolding_all rfl) : TE C d (.Attribute value attr pos) env H Q := fun Φ A s b I =>
  Attribute_any_ (T.run h b I fun o s₁ _ I₁ h₁ => h₁ o rfl Φ A s₁ b I₁) he
theorem TAt.inst {x dx Cl N : Addr} {mN : Str → Option Value} {m : List (Str × Option Value)} {name : Str} {v : Value} (X : Cls C Cl N mN) (hx : Has x (instO Cl dx) H) (hm : Has dx (attO m) H) (hv : Loc name (some v) m) (hb : ∀ b, v ≠ .builtin b)
    (hng : mN "__getattribute__" = none) (hna : mN name = none) (hB : typeLookup (.type "object") name = pure none) (h : Q v H) : TAt C d (.ref x) name H Q := fun y ey Φ A s b I => by
  cases er_ref ey
  obtain ⟨mA, hI, _, nd, h1, h2⟩ := Has.inst hx hm I
  obtain ⟨⟨nm, q, bs, sn, sub, col, dd, k0, k1, k2, k3, k5, hC⟩, hn⟩ := X.at I
  obtain ⟨u, hu, hv'⟩ := opt_er (h1 _ hv.mem)
  obtain ⟨hh, g, dr, t, os⟩ := s
  exact load_attr hC hn hng hna hB hI hu (handed (by rw [hv']; exact hb)) ⟨H, I.tok rfl rfl rfl, by show Q (er u) H; rw [hv']; exact h⟩
theorem TM.inst {x dx Cl N f : Addr} {fd : FuncData} {mN : Str → Option Value} {m : List (Str × Option Value)} {name : Str} {y : Option Value} {QM : Value → List Value → SH → Prop} (X : Cls C Cl N mN) (F : Fn C f fd) (hfc : ∀ o, C.h0.get? f = some o → o.cls = .type "function")
    (hx : Has x (instO Cl dx) H) (hm : Has dx (attO m) H) (hf : mN name = some (.ref f)) (hng : mN "__getattribute__" = none) (hnh : mN "__getattr__" = none) (hsh : name ∉ m.map (·.1)) (hB : typeLookup (.type "object") name = pure y)
    (h : QM (.ref f) [.ref x] H) : TM C d (.ref x) name H QM := fun z pl ez Φ A s b I => by
  cases er_ref ez
  obtain ⟨mA, hI, _, nd, h1, h2⟩ := Has.inst hx hm I
  obtain ⟨⟨nm, q, bs, sn, sub, col, dd, k0, k1, k2, k3, k5, hC⟩, hn⟩ := X.at I
  obtain ⟨of, hfo, hdat⟩ := F.at'
  obtain ⟨hh, g, dr, t, os⟩ := s
  exact method_of hC hn hng hnh hf (I.keep _ _ hfo F.out) (hfc _ hfo) hB hI (h2 _ hsh) ⟨H, I, h⟩
theorem TSetA.inst {x dx Cl N : Addr} {mN : Str → Option Value} {m m' : List (Str × Option Value)} {name : Str} {u : Value} {H' : SH} {Q : SH → Prop} (X : Cls C Cl N mN) (hx : Has x (instO Cl dx) H) (hp : Put name (some u) m m') (hs : Swap dx (attO m) (attO m') H H')
    (hns : mN "__setattr__" = none) (hna : mN name = none) (hB : typeLookup (.type "object") name = pure none) (hsz : m.length ≤ 1000) (h : Q H') : TSetA C d (.ref x) name u H Q := fun y z ey ez Φ A s b I => by
  cases er_ref ey
  have hmem : Has dx (attO m) H := hs.has
  obtain ⟨mA, hI, hne, nd, h1, h2⟩ := Has.inst hx hmem I
  obtain ⟨⟨nm, q, bs, sn, sub, col, dd, k0, k1, k2, k3, k5, hC⟩, hn⟩ := X.at I
  have hxC : x ≠ Cl := by
    rintro rfl
    obtain ⟨o, ho, hc, hnc, hd⟩ := hx.rep I
    have e := Option.some.inj (ho.symm.trans hC)
    subst e
    exact hnc _ rfl
  obtain ⟨o₀, ho₀, hc₀, hnc₀, hd₀⟩ := hx.rep I
  obtain ⟨k1', k2', k3'⟩ := hp.keys
  obtain ⟨hh, g, dr, t, os⟩ := s
  refine store_attr (ns := m.map (·.1)) PySem.F.store_object hC hn hns hna hB hxC hI (fun h' tk' I' hk hsame => ?_) (fun y hy => ?_) (by rw [List.length_map]; exact Nat.le_trans hsz (by decide))
  · have hkeep : ∀ b o, b ≠ dx → hh.get? b = some o → ∃ o', h'.get? b = some o' ∧ (b ≠ x → o' = o) ∧ o'.cls = o.cls ∧ o'.data = o.data ∧ o'.slots = o.slots ∧ ∀ dx, o.dict = some dx → o'.dict = some dx := fun b o hb e => by
      by_cases hbx : b = x
      · subst hbx
        obtain ⟨o₁, e₁, c₁, d₁, s₁, k₁⟩ := hsame o e
        exact ⟨o₁, e₁, fun q => absurd rfl q, c₁, d₁, s₁, k₁⟩
      · exact ⟨o, hk b o hbx (fun o' d' e' ed => by
          obtain rfl := Option.some.inj (ho₀.symm.trans e')
          obtain rfl := Option.some.inj (hd₀.symm.trans ed)
          exact hb) e, fun _ => rfl, rfl, rfl, rfl, fun _ e => e⟩
    -- the list without the two
    obtain ⟨R, p₁, p₂⟩ := hs.front
    have I₁ : Inv C ((dx, attO m) :: (R ++ Φ)) ⟨hh, g, dr, t, os⟩ := I.perm (p₁.append_right Φ)
    refine ⟨H', Inv.perm (H := (dx, attO m') :: (R ++ Φ)) ?_ (p₂.append_right Φ), h⟩
    have nd₁ := I₁.nodup
    rw [List.map_cons, List.nodup_cons] at nd₁
    -- the instance's own note stays
    have hxr : Has x (instO Cl dx) (R ++ Φ) := by
      have : (x, instO Cl dx) ∈ (dx, attO m) :: R := p₁.mem_iff.mp hx.mem
      rcases List.mem_cons.mp this with e | hm
      · exact absurd (Prod.mk.inj e).1 hne
      · exact Has.of_mem (List.mem_append_left _ hm)
    obtain ⟨Ra, Rb, eR⟩ : ∃ Ra Rb, R ++ Φ = Ra ++ (x, instO Cl dx) :: Rb := List.append_of_mem hxr.mem
    refine ⟨fun b o e t => ?_, fun p hp' => ?_, fun p hp' => ?_, ?_, ?_, I₁.os, I₁.bare⟩
    · have hb1 : b ≠ dx := by
        rintro rfl
        rcases I₁.new (b, attO m) (.head _) with h | h
        · rw [h] at e; cases e
        · exact t h
      have hb2 : b ≠ x := by
        rintro rfl
        rcases I.new (b, instO Cl dx) (List.mem_append_left _ hx.mem) with h | h
        · rw [h] at e; cases e
        · exact t h
      obtain ⟨o', e', k, _⟩ := hkeep b o hb1 (I₁.keep b o e t)
      rw [← k hb2]; exact e'
    · rcases List.mem_cons.mp hp' with rfl | hp'
      · obtain ⟨o', ho', hc', hnc', hd'⟩ := I'
        obtain ⟨o₁, e₁, c₁, d₁, s₁, kd₁⟩ := hsame o₀ ho₀
        obtain rfl := Option.some.inj (e₁.symm.trans ho')
        rcases hd' with ⟨hd', _⟩ | ⟨d', hd', _, hn'⟩
        · rw [kd₁ dx hd₀] at hd'; cases hd'
        · obtain rfl := Option.some.inj ((kd₁ dx hd₀).symm.trans hd')
          obtain ⟨oD, esD, epD, hoD, hdD, sk, uk, hf⟩ := hn'
          refine ⟨oD, hoD, by rw [k1']; exact nd, esD, epD, hdD, sk, uk, fun p hp => ?_, fun n hn => ?_⟩
          · rw [hf]
            rcases k3' p hp with rfl | ⟨h4, h5⟩
            · show Option.map er (if name = name then some z else mA name) = some u
              rw [if_pos rfl]; simp [ez]
            · show Option.map er (if p.1 = name then some z else mA p.1) = p.2
              rw [if_neg (h5 nd)]; exact h1 p h4
          · rw [hf]
            rw [k1'] at hn
            show (if n = name then some z else mA n) = none
            rw [if_neg (fun e : n = name => hn (by rw [e]; exact k2'))]; exact h2 n hn
      · by_cases hpx : p.1 = x
        · -- it is the instance's note
          have hpe : p = (x, instO Cl dx) := SH.uniq (R ++ Φ) nd₁.2 p hp' _ hxr.mem hpx
          subst hpe
          obtain ⟨o₁, e₁, c₁, d₁, s₁, kd₁⟩ := hsame o₀ ho₀
          exact ⟨o₁, e₁, c₁.trans hc₀, fun c => by rw [d₁]; exact hnc₀ c, kd₁ _ hd₀⟩
        · refine (I₁.own p (.tail _ hp')).same (fun o e => ?_) (fun _ _ _ => rfl)
          obtain ⟨o', e', k, _⟩ := hkeep p.1 o (fun q => nd₁.1 (List.mem_map.mpr ⟨p, hp', q⟩)) e
          rw [← k hpx]; exact e'
    · rcases List.mem_cons.mp hp' with rfl | hp'
      · exact I₁.new (dx, attO m) (.head _)
      · exact I₁.new p (.tail _ hp')
    · exact I₁.nodup
    · exact I₁.gens
  · by_cases hy' : y ∈ m.map (·.1)
    · exact hy'
    · exact absurd (h2 y hy') hy
theorem TX.asgAttr {o attr p' value pos rest} (h : TE C d value env H fun v H₁ => TE C d o env H₁ fun ov H₂ => TSetA C d ov attr v H₂ fun H₃ => TX C d rest env H₃ QF)
    (hs : swapsWith value (some (.Attribute o attr p')) pos.line env = pure false := by with_unfolding_all rfl) : TX C d (.Assign [.Attribute o attr p'] value pos :: rest) env H QF :=
  TX.cons fun Φ A s b I => plainObj_wpAny_Assign_Attribute (T.run h b I fun v s₁ _ I₁ h₁ => T.run h₁ b I₁ fun ov s₂ _ I₂ h₂ => T.run (h₂ ov v rfl rfl) b I₂ fun _ s₃ H₃ I₃ h₃ => ⟨H₃, I₃, h₃⟩) hs
theorem TX.augAttr {o value attr tpos pos op rest} (h : TE C d o env H fun ov H₁ => TAt C d ov attr H₁ fun old H₂ => TE C d value env H₂ fun v H₃ => TInp C d op old v H₃ fun new H₄ => TSetA C d ov attr new H₄ fun H₅ => TX C d rest env H₅ QF) :
    TX C d (.AugAssign (.Attribute o attr tpos) op value pos :: rest) env H QF :=
  TX.cons fun Φ A s b I => wpAny_AugAssign_AttributeAny (T.run h b I fun ov s₁ _ I₁ h₁ => T.run (h₁ ov rfl) b I₁ fun old s₂ _ I₂ h₂ => wpAny_mono (h₂ Φ A s₂ b I₂) (fun v s₃ ⟨_, I₃, h₃⟩ =>
    T.run (h₃ old v rfl rfl) b I₃ fun new s₄ _ I₄ h₄ => T.run (h₄ ov new rfl rfl) b I₄ fun _ s₅ H₅ I₅ h₅ => ⟨H₅, I₅, h₅⟩) fun _ _ x => x)
end
end Mine
end
section
open PySem PySem.Calls PyProof.Rows
set_option autoImplicit false
set_option linter.unusedVariables false
set_option linter.unusedSimpArgs false
namespace Mine
/-- several objects more, where none stood -/
theorem Inv.addN {C : Cx} {H K : SH} {s s' : Shared} (I : Inv C H s) (hK : ∀ p ∈ K, s.heap.get? p.1 = none ∧ Rep s' p.1 p.2 ∧ genOf p = none) (hn : (K.map (·.1)).Nodup)
    (hk : ∀ b o, s.heap.get? b = some o → s'.heap.get? b = some o) (eg : s'.gens = s.gens) (eo : s'.os = s.os) : Inv C (K ++ H) s' := by
  have base : Inv C H s' := ⟨fun b o e t => hk b o (I.keep b o e t), fun p hp => (I.own p hp).same (fun o e => hk _ _ e) (by rw [eg]; exact fun _ _ _ => rfl), I.new, I.nodup, I.gens, eo.trans I.os, by rw [eg]; exact I.bare⟩
  refine ⟨base.keep, fun p hp => ?_, fun p hp => ?_, ?_, ?_, base.os, base.bare⟩
  · rcases List.mem_append.mp hp with hp | hp
    · exact (hK p hp).2.1
    · exact base.own p hp
  · rcases List.mem_append.mp hp with hp | hp
    · by_cases t : p.1 ∈ C.tabs
      · exact .inr t
      · left
        cases q : C.h0.get? p.1 with
        | none => rfl
        | some o => have := I.keep _ o q t; rw [(hK p hp).1] at this; cases this
    · exact base.new p hp
  · rw [List.map_append, List.nodup_append]
    refine ⟨hn, I.nodup, fun a ha b hb e => ?_⟩
    obtain ⟨p, hp, rfl⟩ := List.mem_map.mp ha
    obtain ⟨q, hq, rfl⟩ := List.mem_map.mp hb
    obtain ⟨o, ho⟩ := (I.own q hq).there
    rw [← e, (hK p hp).1] at ho
    cases ho
  · rw [List.filterMap_append]
    have : K.filterMap genOf = [] := List.filterMap_eq_nil_iff.mpr fun p hp => (hK p hp).2.2
    rw [this]; exact I.gens
section
variable {C : Cx} {d : Nat} {env : Env} {H : SH} {Q : Value → SH → Prop} {QF : Flow → SH → Prop} {QB : Bool → SH → Prop} {QL : List Value → SH → Prop} {Φ : SH} {s : Shared}
theorem bd_make {A : Around} {vals : List Value} {Cl : Addr} (b : Bd C (d + 1) Φ A) : Bd C d Φ (A.under (.builtin "type.__call__" ⟨.ref Cl :: vals, []⟩)) := by
  refine ⟨?_, ?_, b.handled, b.fr⟩
  · have := b.depth
    rw [depth_under_make]; lia
  · have := b.units
    show A.units + 1 + 8 * d < _
    lia
theorem KeepOk.cls {Cl N : Addr} {mN : Str → Option Value} (X : Cls C Cl N mN) : KeepOk C (.ref Cl) H := fun Φ A s I => by
  obtain ⟨⟨nm, q, bs, sn, sub, col, dd, k0, k1, k2, k3, k5, hC⟩, hn⟩ := X.at I
  obtain ⟨hh, g, dr, t, os⟩ := s
  have f1 := tc_lookup
  have hT : (⟨hh, g, dr, t, os⟩ : Shared).TypeIs (.ref Cl) "type" := ⟨_, hC, rfl⟩
  unfold keeperOf specialOf
  repeat (any_goals (first | assumption | with_reducible refine wpAny_loadPart_at hC ?_ | with_reducible refine wpAny_load' hC ?_ | wp_step))
  all_goals (try rfl)
theorem TCall.new {Cl N fI : Addr} {fd : FuncData} {mN : Str → Option Value} {as : List Value} (ks : List Str) (nd : ks.Nodup) (X : Cls C Cl N mN) (hi : mN "__init__" = some (.ref fI)) (F : Fn C fI fd) (hfc : ∀ o, C.h0.get? fI = some o → o.cls = .type "function")
    (h : ∀ x dx, TCall C d (.ref fI) (.ref x :: as) ((x, instO Cl dx) :: (dx, attO (ks.map fun k => (k, none))) :: H) fun v H' => v = .none ∧ Q (.ref x) H') : TCall C (d + 1) (.ref Cl) as H Q := fun xs ex Φ A s b I => by
  obtain ⟨⟨nm, q, bs, sn, sub, col, dd, k0, k1, k2, k3, k5, hC⟩, hn⟩ := X.at I
  obtain ⟨oI, hfI, hdat⟩ := F.at'
  obtain ⟨hh, g, dr, t, os⟩ := s
  refine wpAny_call_obj_init PySem.F.objNew hC hn hi (I.keep _ _ hfI F.out) (hfc _ hfI) fun h' x dx Mk => ?_
  obtain ⟨ox, hx, hcx, hncx, hdx⟩ := Mk.inst
  have hdd := Mk.dict ox hx
  have hnsd : h'.Ns1 dx fun _ => none := by
    rcases hdx with ⟨hn0, _⟩ | ⟨d', hd', _, hns'⟩
    · rw [hn0] at hdd; cases hdd
    · obtain rfl := Option.some.inj (hd'.symm.trans hdd); exact hns'
  have hne : dx ≠ x := by
    rcases hdx with ⟨hn0, _⟩ | ⟨d', hd', hne', _⟩
    · rw [hn0] at hdd; cases hdd
    · obtain rfl := Option.some.inj (hd'.symm.trans hdd); exact hne'
  obtain ⟨oD, es, ep, hoD, hdD, sk, uk, hf⟩ := hnsd
  have I₂ : Inv C (([(x, instO Cl dx), (dx, attO (ks.map fun k => (k, none)))] ++ H) ++ Φ) ⟨h', g, dr, t, os⟩ := by
    rw [List.append_assoc]
    refine Inv.addN I (fun p hp => ?_) (by simp [hne.symm]) Mk.keeps rfl rfl
    simp at hp
    rcases hp with rfl | rfl
    · exact ⟨Mk.newX, ⟨ox, hx, hcx, hncx, hdd⟩, rfl⟩
    · refine ⟨Mk.newD, ⟨oD, hoD, ?_, es, ep, hdD, sk, uk, fun p hp => ?_, fun n _ => hf n⟩, rfl⟩
      · rw [List.map_map]; exact (show (ks.map fun k => k).Nodup by rw [List.map_id']; exact nd)
      · obtain ⟨k, _, rfl⟩ := List.mem_map.mp hp
        show Option.map er (nsFind es k) = none
        rw [hf]; rfl
  refine T.run (h x dx (.ref x :: xs) (by simp [er, ex])) (bd_make b) I₂ fun r s' H' I' ⟨e, q⟩ => ⟨er_none e, H', I', q⟩
end
end Mine
end
section
open PySem PySem.Calls PyProof.Rows
open Builtin Builtin.ObjectAttr
set_option autoImplicit false
set_option linter.unusedVariables false
set_option linter.unusedSimpArgs false
set_option maxRecDepth 100000
namespace Mine
theorem lk_member_get : typeLookup (.type "member_descriptor") "__get__" = pure (some (.builtin "member_descriptor.__get__")) := by rw [typeLookup_type, builtinLookup_eq_fast]; kernel_rfl
theorem lk_member_set : typeLookup (.type "member_descriptor") "__set__" = pure (some (.builtin "member_descriptor.__set__")) := by rw [typeLookup_type, builtinLookup_eq_fast]; kernel_rfl
theorem slot_member_get : Slot "member_descriptor" "__get__" "member_descriptor.__get__" :=
  .of (owner := "member_descriptor") (n := "__get__") lk_member_get (by decide +kernel) (by decide +kernel) (by decide +kernel)
    (by first | exact .inl (by decide +kernel) | exact .inr (by decide +kernel)) (by rw [isSubtype_type]; kernel_rfl)
theorem slot_member_set : Slot "member_descriptor" "__set__" "member_descriptor.__set__" :=
  .of (owner := "member_descriptor") (n := "__set__") lk_member_set (by decide +kernel) (by decide +kernel) (by decide +kernel)
    (by first | exact .inl (by decide +kernel) | exact .inr (by decide +kernel)) (by rw [isSubtype_type]; kernel_rfl)
theorem entry_member_get : entryFor table "member_descriptor.__get__" = some Builtin.«member_descriptor.__get__» := entryFor_of_fast (by kernel_rfl)
theorem entry_member_set : entryFor table "member_descriptor.__set__" = some Builtin.«member_descriptor.__set__» := entryFor_of_fast (by kernel_rfl)
theorem entry_proto_slot : entryFor table "proto.slot" = some Builtin.«proto.slot» := entryFor_of_fast (by kernel_rfl)
theorem entry_proto_slot_set : entryFor table "proto.slot#set" = some Builtin.«proto.slot#set» := entryFor_of_fast (by kernel_rfl)
theorem args_member_get (a b c : Value) : argsOk "member_descriptor.__get__" ⟨[a, b, c], []⟩ := by unfold argsOk; kernel_rfl
theorem args_member_set (a b c : Value) : argsOk "member_descriptor.__set__" ⟨[a, b, c], []⟩ := by unfold argsOk; kernel_rfl
noncomputable def memO (name : Str) (tk : Tok) (Cl : Addr) (bh : Nat) : Obj := { cls := .type "member_descriptor", data := .fields #[.str name tk, .ref Cl, .builtin "proto.slot", .builtin "proto.slot#set", .int bh 0] }
section
variable {prog : Program} {w : World} {A : Around} {E : Value → Shared → Prop} {h : Heap} {g : Array GenState} {d : Drawn} {t : Nat} {os : OsState}
variable {nm q : Str} {C N x : Addr} {bs : List Value} {sn : List Str} {sub : List Value} {ab : Bool} {col : Option Bool} {dd : Option Addr} {k0 k1 k2 k3 k5 : Option Value} {newId : String}
  {mN : Str → Option Value} {name : Str} {v : Value} {md : Addr} {mt : Tok} {bh : Nat} {dx : Option Addr}
set_option maxHeartbeats 1000000 in
theorem slot_read {Q : Fin → Shared → Prop} {ws : Array (Option Value)}
    (hC : h.get? C = some (excClassObj nm q C N bs [.type "object"] false sn sub ab col dd k0 k1 k2 k3 k5 newId)) (hmd : h.get? md = some (memO name mt C bh))
    (hx : h.get? x = some { cls := .ref C, dict := dx, data := .plain, slots := ws }) (hbh : bh < sn.length) (hv : ws[sn.length - 1 - bh]? = some (some v)) (hq : Q (.done (.ret v)) ⟨h, g, d, t, os⟩) :
    wpAny (model prog w) A (Builtin.«proto.slot» ⟨[.ref x, .ref md], []⟩) Q E ⟨h, g, d, t, os⟩ := by
  have hsz : ¬ (sn.length ≤ bh) := by lia
  unfold Builtin.«proto.slot» Slots.target
  repeat (first | (with_reducible refine wpAny_loadPart_at hx ?_) | (with_reducible refine wpAny_loadPart_at hmd ?_) | (with_reducible refine wpAny_loadPart_at hC ?_) | wp_step)
  have e : (ws[sn.length - 1 - ((bh : Int)).toNat]?).join = some v := by rw [Int.toNat_natCast, hv]; rfl
  show wpAny _ _ (match (ws[sn.length - 1 - ((bh : Int)).toNat]?).join with | some v => ret v | none => _) _ _ _
  rw [e]
  exact wpAny_pure hq
set_option maxHeartbeats 1000000 in
theorem slot_entry {tk : Tok} {Q : Fin → Shared → Prop} {ws : Array (Option Value)}
    (hC : h.get? C = some (excClassObj nm q C N bs [.type "object"] false sn sub ab col dd k0 k1 k2 k3 k5 newId)) (hn : h.Ns N mN) (hna : mN name = some (.ref md)) (hmd : h.get? md = some (memO name mt C bh))
    (hgh : mN "__getattr__" = none) {y : Option Value}
    (hB : typeLookup (.type "object") name = pure y) (hx : h.get? x = some { cls := .ref C, dict := dx, data := .plain, slots := ws }) (hbh : bh < sn.length) (hv : ws[sn.length - 1 - bh]? = some (some v)) (hq : Q (.done (.ret v)) ⟨h, g, d, t, os⟩) :
    wpAny (model prog w) A (Builtin.«proto.getattr_hooked» ⟨[.ref x, .str name tk], []⟩) Q E ⟨h, g, d, t, os⟩ := by
  have l1 := lk_member_get
  have l2 := lk_member_set
  have hmT : (⟨h, g, d, t, os⟩ : Shared).TypeIs (.ref md) "member_descriptor" := ⟨_, hmd, rfl⟩
  have hnn : (match mN (Str.ofString "__getattr__") with | some v => some v | none => (none : Option Value)) = none := by rw [hgh]
  unfold Builtin.«proto.getattr_hooked»
  repeat (first | (with_reducible refine wpAny_loadPart_at hx ?_) | (with_reducible refine wpAny_typeLookup_exc hC hn F.mro_object F.lk_object_getattr ?_; rw [hgh]) | (with_reducible refine wpAny_typeLookup_exc hC hn F.mro_object hB ?_; rw [hna]) | wp_step | dsimp only)
  refine codeAny_call_builtin slot_member_get.plain entry_member_get (slot_member_get.check _ _ _ _ _ _ _ _ hmT (args_member_get _ _ _) ?_)
  unfold Builtin.«member_descriptor.__get__»
  repeat (first | (with_reducible refine wpAny_loadPart_at hx ?_) | (with_reducible refine wpAny_isSubtype_exc hC ?_) | wp_step | dsimp only)
  refine ⟨plainId_quiet (by decide +kernel) _, codeAny_builtin entry_proto_slot ?_⟩
  rw [Around.under_plainId (by decide +kernel)]
  exact slot_read hC hmd hx hbh hv (wpAny_pure hq)
set_option maxHeartbeats 1000000 in
theorem slot_load {expr : Bool} {Q : Value → Shared → Prop} {ws : Array (Option Value)} {y : Option Value}
    (hC : h.get? C = some (excClassObj nm q C N bs [.type "object"] false sn sub ab col dd k0 k1 k2 k3 k5 newId)) (hn : h.Ns N mN) (hng : mN "__getattribute__" = none) (hna : mN name = some (.ref md)) (hmd : h.get? md = some (memO name mt C bh))
    (hgh : mN "__getattr__" = none) (hB : typeLookup (.type "object") name = pure y) (hx : h.get? x = some { cls := .ref C, dict := dx, data := .plain, slots := ws }) (hbh : bh < sn.length) (hv : ws[sn.length - 1 - bh]? = some (some v)) (hh : handedOut v = pure v) (hq : Q v ⟨h, g, d, t + 1, os⟩) :
    wpAny (model prog w) A (getAttr (.ref x) name expr) Q E ⟨h, g, d, t, os⟩ := by
  unfold getAttr getAttrBy
  repeat (first | (with_reducible refine wpAny_loadPart_at hx ?_) | (with_reducible refine wpAny_typeLookup_exc hC hn F.mro_object F.lk_object_ga ?_; rw [hng]) | wp_step)
  show wpAny _ _ ((runValue (.builtin "proto.getattr_hooked" ⟨[.ref x, .str name t], []⟩)).onRaise (noteIf true (.ref x) (.str name t))) _ _ _
  refine wpAny_onRaise (wpAny_runValue (codeAny_builtin F.plainObj_entry_getattr_hooked (slot_entry hC hn hna hmd hgh hB hx hbh hv ?_)))
  show wpAny _ _ (handedOut v) _ _ _
  rw [hh]
  exact wpAny_pure hq
set_option maxHeartbeats 1000000 in
theorem slot_write {u : Value} {Q : Fin → Shared → Prop} {ws : Array (Option Value)}
    (hC : h.get? C = some (excClassObj nm q C N bs [.type "object"] false sn sub ab col dd k0 k1 k2 k3 k5 newId)) (hmd : h.get? md = some (memO name mt C bh))
    (hx : h.get? x = some { cls := .ref C, dict := dx, data := .plain, slots := ws }) (hbh : bh < sn.length) (hsn : sn.length < 1000) (hq : Q (.done (.ret .none)) ⟨h.update x (fun o => { o with slots := (o.slots ++ Array.replicate (sn.length - 1 - bh + 1 - o.slots.size) none).setIfInBounds (sn.length - 1 - bh) (some u) }), g, d, t, os⟩) :
    wpAny (model prog w) A (Builtin.«proto.slot#set» ⟨[.ref x, u, .ref md], []⟩) Q E ⟨h, g, d, t, os⟩ := by
  have hsz : ¬ (sn.length ≤ bh) := by lia
  have hz : ¬ (sn.length - 1 - bh ≥ sizeLine) := by have : sizeLine = 16777216 := rfl; lia
  unfold Builtin.«proto.slot#set» Slots.target
  repeat (first | (with_reducible refine wpAny_loadPart_at hx ?_) | (with_reducible refine wpAny_loadPart_at hmd ?_) | (with_reducible refine wpAny_loadPart_at hC ?_) | wp_step)
  exact hq
set_option maxHeartbeats 1000000 in
theorem slot_check_sa {M : Model} {o : Obj} {nameV : Value} {Q : Unit → Shared → Prop}
    (hC : h.get? C = some (excClassObj nm q C N bs [.type "object"] false sn sub ab col dd k0 k1 k2 k3 k5 newId)) (hx : h.get? x = some o) (hc : o.cls = .ref C) (hq : Q () ⟨h, g, d, t, os⟩) :
    wpAny M A (checkBuiltinCall "object.__setattr__" ⟨[.ref x, nameV, v], []⟩) Q E ⟨h, g, d, t, os⟩ := by
  have SF := PySem.F.store_object
  have hcB : (Value.ref C :: [.type "object"]).contains (.type "object") = true := by rw [List.contains_cons, SF.hasOwner, Bool.or_true]
  have ha := SF.args (.ref x) nameV v
  simp only [checkBuiltinCall, SF.kind, SF.split]
  refine wpAny_bind ?_
  · unfold isInstance
    repeat (first | (with_reducible refine wpAny_loadPart_at hx ?_; rw [hc]) | (with_reducible refine wpAny_isSubtype_exc hC ?_; rw [hcB]) | wp_step)
    exact hq
set_option maxHeartbeats 2000000 in
theorem slot_sentry {tk : Tok} {Q : Fin → Shared → Prop} {ws : Array (Option Value)} {y : Option Value}
    (hC : h.get? C = some (excClassObj nm q C N bs [.type "object"] false sn sub ab col dd k0 k1 k2 k3 k5 newId)) (hn : h.Ns N mN) (hna : mN name = some (.ref md)) (hmd : h.get? md = some (memO name mt C bh))
    (hB : typeLookup (.type "object") name = pure y) (hx : h.get? x = some { cls := .ref C, dict := dx, data := .plain, slots := ws }) (hbh : bh < sn.length) (hsn : sn.length < 1000)
    (hq : Q (.done (.ret .none)) ⟨h.update x (fun o => { o with slots := (o.slots ++ Array.replicate (sn.length - 1 - bh + 1 - o.slots.size) none).setIfInBounds (sn.length - 1 - bh) (some v) }), g, d, t, os⟩) :
    wpAny (model prog w) A (Builtin.«object.__setattr__» ⟨[.ref x, .str name tk, v], []⟩) Q E ⟨h, g, d, t, os⟩ := by
  have l1 := lk_member_get
  have l2 := lk_member_set
  have hmT : (⟨h, g, d, t, os⟩ : Shared).TypeIs (.ref md) "member_descriptor" := ⟨_, hmd, rfl⟩
  have hpass := PySem.F.store_object.passes (.ref x)
  have hb := slot_member_set.bind (.ref md)
  unfold Builtin.«object.__setattr__»
  repeat (first | rw [refuse_eq] | (rw [refuseLoop_ref, hpass]) | (with_reducible refine wpAny_loadPart_at hx ?_) | with_reducible refine wpAny_mroOf_exc hC ?_ | (with_reducible refine wpAny_typeLookup_exc hC hn F.mro_object hB ?_; rw [hna]) | wp_step | dsimp only)
  refine codeAny_call_builtin slot_member_set.plain entry_member_set (slot_member_set.check _ _ _ _ _ _ _ _ hmT (args_member_set _ _ _) ?_)
  unfold Builtin.«member_descriptor.__set__»
  repeat (first | (with_reducible refine wpAny_loadPart_at hx ?_) | (with_reducible refine wpAny_isSubtype_exc hC ?_) | wp_step | dsimp only)
  refine ⟨plainId_quiet (by decide +kernel) _, codeAny_builtin entry_proto_slot_set ?_⟩
  rw [Around.under_plainId (by decide +kernel)]
  exact slot_write hC hmd hx hbh hsn (wpAny_pure (wpAny_pure hq))
set_option maxHeartbeats 2000000 in
theorem slot_store {Q : Unit → Shared → Prop} {ws : Array (Option Value)} {y : Option Value}
    (hC : h.get? C = some (excClassObj nm q C N bs [.type "object"] false sn sub ab col dd k0 k1 k2 k3 k5 newId)) (hn : h.Ns N mN) (hns : mN "__setattr__" = none) (hna : mN name = some (.ref md)) (hmd : h.get? md = some (memO name mt C bh))
    (hB : typeLookup (.type "object") name = pure y) (hx : h.get? x = some { cls := .ref C, dict := dx, data := .plain, slots := ws }) (hbh : bh < sn.length) (hsn : sn.length < 1000)
    (hq : ∀ t', Q () ⟨h.update x (fun o => { o with slots := (o.slots ++ Array.replicate (sn.length - 1 - bh + 1 - o.slots.size) none).setIfInBounds (sn.length - 1 - bh) (some v) }), g, d, t', os⟩) :
    wpAny (model prog w) A (setAttr (.ref x) name v) Q E ⟨h, g, d, t, os⟩ := by
  have SF := PySem.F.store_object
  have f3 := SF.slot.bind (.ref x)
  unfold setAttr callSpecial? specialOf
  repeat (any_goals (first | assumption | (with_reducible refine wpAny_loadPart_at hx ?_) | (with_reducible refine wpAny_typeLookup_exc hC hn SF.mro SF.slot.lookup ?_; rw [hns]) | wp_step))
  exact codeAny_call_builtin SF.slot.plain SF.entry (slot_check_sa hC hx rfl (slot_sentry hC hn hna hmd hB hx hbh hsn (wpAny_pure (wpAny_pure (hq _)))))
theorem mro_obj : mroOf (.type "object") = pure [.type "object"] := by kernel_rfl
theorem lk_obj_init : typeLookup (.type "object") "__init__" = pure (some (.builtin "object.__init__")) := by rw [typeLookup_type, builtinLookup_eq_fast]; kernel_rfl
set_option maxHeartbeats 2000000 in
theorem slot_check_new {M : Model} {rest : List Value} {Q : Unit → Shared → Prop}
    (hC : h.get? C = some (excClassObj nm q C N bs [.type "object"] false sn sub false col dd k0 k1 k2 k3 k5 "object.__new__")) (hq : Q () ⟨h, g, d, t, os⟩) :
    wpAny M A (checkBuiltinCall "object.__new__" ⟨.ref C :: rest, []⟩) Q E ⟨h, g, d, t, os⟩ := by
  have FN := PySem.F.objNew
  have hcont : (Value.ref C :: [Value.type "object"]).contains (.type "object") = true := by rw [List.contains_cons, show [Value.type "object"].contains (.type "object") = true from by decide, Bool.or_true]
  simp only [checkBuiltinCall, FN.kind, FN.split, FN.row]
  repeat (first | refine wpAny_loadPart_at hC ?_ | (refine wpAny_isSubtype_exc hC ?_; rw [hcont]) | refine wpAny_staticBase_exc hC ?_ | refine wpAny_madeBy_exc hC ?_ | simp only [bne_self_eq_false, Bool.false_eq_true, if_false] | wp_step)
  exact hq
set_option maxHeartbeats 2000000 in
/-- the call of a class with slots -/
theorem slot_new {r0 : Value} {rr : List Value} {fI : Addr} {oI : Obj} {Q : Value → Shared → Prop}
    (hC : h.get? C = some (excClassObj nm q C N bs [.type "object"] false sn sub false col dd k0 k1 k2 k3 k5 "object.__new__")) (hn : h.Ns N mN) (hi : mN "__init__" = some (.ref fI)) (hfI : h.get? fI = some oI) (hfc : oI.cls = .type "function")
    (hq : wpAny (model prog w) (A.under (.builtin "type.__call__" ⟨.ref C :: r0 :: rr, []⟩)) (call (.ref fI) (.ref (h.objs.size + 1) :: r0 :: rr)) (fun r s' => r = .none ∧ Q (.ref (h.objs.size + 1)) s') E ⟨(h.push { cls := .type "dict", data := .dict #[] }).push { cls := .ref C, dict := some h.objs.size, data := .plain }, g, d, t, os⟩) :
    wpAny (model prog w) A (call (.ref C) (r0 :: rr)) Q E ⟨h, g, d, t, os⟩ := by
  have f1 := tc_lookup
  have f2 := tc_bind (.ref C)
  have FN := PySem.F.objNew
  have hT : (⟨h, g, d, t, os⟩ : Shared).TypeIs (.ref C) "type" := ⟨_, hC, rfl⟩
  have hne : (some (Value.ref fI) != some (Value.builtin "object.__init__")) = true := rfl
  refine wpAny_call (codeAny_of_tree ?_)
  show wpAny _ _ (callAny (.ref C) _) _ _ _
  repeat (any_goals (first | assumption | with_reducible refine wpAny_loadPart_at hC ?_ | wp_step))
  refine ⟨rfl, ?_⟩
  refine codeAny_call_builtin_at (Code.quiet_builtin _ (by decide +kernel)) entry_typeCall ?_
  refine wpAny_check_type_call_sub hC ?_
  show wpAny _ _ (Builtin.«type.__call__» ⟨.ref C :: r0 :: rr, []⟩) _ _ _
  repeat (first | with_reducible refine wpAny_loadPart_at hC ?_ | with_reducible refine wpAny_madeBy_exc hC ?_ | wp_step)
  have hsame : (some "object.__new__" != some "object.__new__") = false := bne_self_eq_false _
  refine codeAny_call_builtin_code (Code.quiet_builtin _ FN.quiet) (slot_check_new hC ?_)
  refine codeAny_builtin FN.entry ?_
  unfold Builtin.«object.__new__»
  let h₁ : Heap := (h.push { cls := .type "dict", data := .dict #[] }).push { cls := .ref C, dict := some h.objs.size, data := .plain }
  have kp : ∀ b o, h.get? b = some o → h₁.get? b = some o := fun b o e => Heap.get?_push_of_some _ (Heap.get?_push_of_some _ e)
  have hC₁ := kp _ _ hC
  have hfI₁ := kp _ _ hfI
  have hn₁ : h₁.Ns N mN := let ⟨o, es, ep, e, r⟩ := hn; ⟨o, es, ep, kp _ _ e, r⟩
  have hsz : (h.push { cls := .type "dict", data := .dict #[] }).objs.size = h.objs.size + 1 := Heap.size_push ..
  have hget : h₁.get? (h.objs.size + 1) = some { cls := .ref C, dict := some h.objs.size, data := .plain } := Heap.get?_push_at hsz.symm rfl
  have hcC : (Value.ref C :: [Value.type "object"]).contains (.ref C) = true := by simp
  have hsI : ∀ (M : Model) (A : Around) (E : Value → Shared → Prop) (Q : Option Value → Shared → Prop), Q (some (.ref fI)) ⟨h₁, g, d, t, os⟩ → wpAny M A (specialOf (.ref (h.objs.size + 1)) "__init__") Q E ⟨h₁, g, d, t, os⟩ := fun M A E Q hQ => by
    unfold specialOf
    repeat (first | with_reducible refine wpAny_loadPart_at hget ?_ | wp_step)
    show wpAny _ _ (typeLookup (.ref C) _) _ _ _
    refine wpAny_typeLookup_exc hC₁ hn₁ mro_obj lk_obj_init ?_
    rw [hi]; exact hQ
  · repeat (first | with_reducible refine wpAny_madeHere_exc FN.canon hC ?_ | (with_reducible refine wpAny_madeBy_exc hC ?_; simp only [hsame]) | with_reducible refine wpAny_loadPart_at hC ?_ | (with_reducible refine wpAny_typeLookup_exc hC hn mro_obj lk_obj_init ?_; rw [hi]; simp only [hne]) | wp_step)
    show wpAny _ _ (alloc { cls := .type "dict", data := .dict #[] } >>= fun x => pure (some x)) _ _ _
    refine wpAny_bind (wpAny_alloc' (wpAny_pure ?_))
    unfold newObj
    repeat wp_step
    simp only [hsz]
    refine wpAny_isSubtype_exc hC₁ ?_
    rw [hcC]
    repeat (first | with_reducible refine hsI _ _ _ _ ?_ | wp_step)
    unfold bindSpecial
    refine wpAny_bind (wpAny_typeOf (T := "function") ⟨_, hfI₁, hfc⟩ ?_)
    rw [if_pos (by decide)]
    refine wpAny_pure (wpAny_bind (wpAny_mono hq (fun r s' hr => ?_) fun _ _ x => x))
    obtain ⟨rfl, hQ⟩ := hr
    repeat wp_step
    exact hQ
end
/-- an instance of a class with slots -/
noncomputable def slotO (Cl : Addr) (vs : List (Option Value)) : AObj := .objp fun o => o.cls = .ref Cl ∧ o.data = .plain ∧ o.slots.toList.map (·.map er) = vs
structure SCls (C : Cx) (Cl N : Addr) (mN : Str → Option Value) (sn : List Str) : Prop where
  obj : ∃ nm q bs sub col dd k0 k1 k2 k3 k5, C.h0.get? Cl = some (excClassObj nm q Cl N bs [.type "object"] false sn sub false col dd k0 k1 k2 k3 k5 "object.__new__")
  ns : C.h0.Ns N mN
  out : Cl ∉ C.tabs
  outN : N ∉ C.tabs
  small : sn.length < 1000
  ga : mN "__getattribute__" = none
  gh : mN "__getattr__" = none
  sa : mN "__setattr__" = none
structure Mem (C : Cx) (Cl : Addr) (mN : Str → Option Value) (name : Str) (bh : Nat) : Prop where
  at' : ∃ md tk, mN name = some (.ref md) ∧ C.h0.get? md = some (memO name tk Cl bh) ∧ md ∉ C.tabs
  obj : ∃ y, typeLookup (.type "object") name = pure y
section
variable {C : Cx} {d : Nat} {env : Env} {H : SH} {Q : Value → SH → Prop} {QF : Flow → SH → Prop} {Φ : SH} {s : Shared} {Cl N : Addr} {mN : Str → Option Value} {sn : List Str}
theorem SCls.at {K : SH} (X : SCls C Cl N mN sn) (I : Inv C K s) : (∃ nm q bs sub col dd k0 k1 k2 k3 k5, s.heap.get? Cl = some (excClassObj nm q Cl N bs [.type "object"] false sn sub false col dd k0 k1 k2 k3 k5 "object.__new__")) ∧ s.heap.Ns N mN := by
  obtain ⟨nm, q, bs, sub, col, dd, k0, k1, k2, k3, k5, e⟩ := X.obj
  exact ⟨⟨nm, q, bs, sub, col, dd, k0, k1, k2, k3, k5, I.keep _ _ e X.out⟩, I.ns X.ns X.outN⟩
theorem Has.slot {x : Addr} {vs : List (Option Value)} (h : Has x (slotO Cl vs) H) (I : Inv C (H ++ Φ) s) : ∃ dx ws, s.heap.get? x = some { cls := .ref Cl, dict := dx, data := .plain, slots := ws } ∧ ws.toList.map (·.map er) = vs := by
  obtain ⟨o, ho, hc, hd, hs⟩ := h.rep I
  obtain ⟨cls, dict, data, slots⟩ := o
  cases hc
  cases hd
  exact ⟨dict, slots, ho, hs⟩
theorem TAt.slot {x : Addr} {name : Str} {bh : Nat} {v : Value} {vs : List (Option Value)} (X : SCls C Cl N mN sn) (hx : Has x (slotO Cl vs) H) (M : Mem C Cl mN name bh) (hbh : bh < sn.length) (hv : vs[sn.length - 1 - bh]? = some (some v)) (hb : ∀ b, v ≠ .builtin b) (h : Q v H) : TAt C d (.ref x) name H Q := fun y ey Φ A s b I => by
  cases er_ref ey
  obtain ⟨⟨nm, q, bs, sub, col, dd, k0, k1, k2, k3, k5, hC⟩, hn⟩ := X.at I
  obtain ⟨md, tk, hm, hmo, hmt⟩ := M.at'
  obtain ⟨yo, hyo⟩ := M.obj
  obtain ⟨dx, ws, hxo, ew⟩ := hx.slot I
  obtain ⟨u, hu, eu⟩ : ∃ u, ws[sn.length - 1 - bh]? = some (some u) ∧ er u = v := by
    rw [← ew, List.getElem?_map] at hv
    cases q : ws.toList[sn.length - 1 - bh]? with
    | none => rw [q] at hv; cases hv
    | some w =>
      rw [q] at hv
      cases w with
      | none => cases hv
      | some u => exact ⟨u, by rw [← Array.getElem?_toList]; exact q, by simpa using hv⟩
  obtain ⟨hh, g, dr, t, os⟩ := s
  exact slot_load hC hn X.ga hm (I.keep _ _ hmo hmt) X.gh hyo hxo hbh hu (handed (by rw [eu]; exact hb)) ⟨H, I.tok rfl rfl rfl, by show Q (er u) H; rw [eu]; exact h⟩
theorem TSetA.slot {x : Addr} {name : Str} {bh : Nat} {u : Value} {vs vs' : List (Option Value)} {H' : SH} {Q : SH → Prop} (X : SCls C Cl N mN sn) (hs : Swap x (slotO Cl vs) (slotO Cl vs') H H') (M : Mem C Cl mN name bh) (hbh : bh < sn.length)
    (hvs : (vs ++ List.replicate (sn.length - 1 - bh + 1 - vs.length) none).set (sn.length - 1 - bh) (some u) = vs') (h : Q H') : TSetA C d (.ref x) name u H Q := fun y z ey ez Φ A s b I => by
  cases er_ref ey
  obtain ⟨⟨nm, q, bs, sub, col, dd, k0, k1, k2, k3, k5, hC⟩, hn⟩ := X.at I
  obtain ⟨md, tk, hm, hmo, hmt⟩ := M.at'
  obtain ⟨yo, hyo⟩ := M.obj
  obtain ⟨dx, ws, hxo, ew⟩ := hs.has.slot I
  have hwl : ws.size = vs.length := by rw [← ew]; simp
  obtain ⟨hh, g, dr, t, os⟩ := s
  refine slot_store hC hn X.sa hm (I.keep _ _ hmo hmt) hyo hxo hbh X.small fun t' => ⟨H', hs.inv I (fun b o q e => (Heap.get?_update_other _ _ (Ne.symm q)).trans e) ?_ rfl rfl rfl, h⟩
  refine ⟨_, Heap.get?_update_self _ hxo (by cases dx <;> rfl), rfl, rfl, ?_⟩
  rw [← hvs, hwl]
  simp [← ew, ez, List.map_set]
theorem TCall.newSlot {fI : Addr} {fd : FuncData} {a0 : Value} {ar : List Value} (X : SCls C Cl N mN sn) (hi : mN "__init__" = some (.ref fI)) (F : Fn C fI fd) (hfc : ∀ o, C.h0.get? fI = some o → o.cls = .type "function")
    (h : ∀ x, TCall C d (.ref fI) (.ref x :: a0 :: ar) ((x, slotO Cl []) :: H) fun v H' => v = .none ∧ Q (.ref x) H') : TCall C (d + 1) (.ref Cl) (a0 :: ar) H Q := fun xs ex Φ A s b I => by
  obtain ⟨r0, rr, rfl, e0, er⟩ := args_cons ex
  obtain ⟨⟨nm, q, bs, sub, col, dd, k0, k1, k2, k3, k5, hC⟩, hn⟩ := X.at I
  obtain ⟨oI, hfI, hdat⟩ := F.at'
  obtain ⟨hh, g, dr, t, os⟩ := s
  have hsz : (hh.push { cls := .type "dict", data := .dict #[] }).objs.size = hh.objs.size + 1 := Heap.size_push ..
  have I₂ : Inv C ((hh.objs.size + 1, slotO Cl []) :: (H ++ Φ)) ⟨(hh.push { cls := .type "dict", data := .dict #[] }).push { cls := .ref Cl, dict := some hh.objs.size, data := .plain }, g, dr, t, os⟩ :=
    I.more (tk := t) (x := slotO Cl []) (fun b o e => Heap.get?_push_of_some _ (Heap.get?_push_of_some _ e)) (Nat.le_succ _) ⟨_, Heap.get?_push_at hsz.symm rfl, rfl, rfl, rfl⟩ rfl
  exact slot_new hC hn hi (I.keep _ _ hfI F.out) (hfc _ hfI) (T.run (h (hh.objs.size + 1) (.ref (hh.objs.size + 1) :: r0 :: rr) (by rw [List.map_cons, ex]; rfl)) (bd_make b) I₂ fun r s' H' I' z => ⟨er_none z.1, H', I', z.2⟩)
theorem KeepOk.scls (X : SCls C Cl N mN sn) : KeepOk C (.ref Cl) H := fun Φ A s I => by
  obtain ⟨⟨nm, q, bs, sub, col, dd, k0, k1, k2, k3, k5, hC⟩, hn⟩ := X.at I
  obtain ⟨hh, g, dr, t, os⟩ := s
  have f1 := tc_lookup
  have hT : (⟨hh, g, dr, t, os⟩ : Shared).TypeIs (.ref Cl) "type" := ⟨_, hC, rfl⟩
  unfold keeperOf specialOf
  repeat (any_goals (first | assumption | with_reducible refine wpAny_loadPart_at hC ?_ | with_reducible refine wpAny_load' hC ?_ | wp_step))
  all_goals (try rfl)
end
end Mine
end
section
open PySem PySem.Calls PyProof.Rows
set_option autoImplicit false
set_option linter.unusedVariables false
set_option linter.unusedSimpArgs false
namespace Mine
/-- a dict with ints for keys, at its epoch -/
noncomputable def dO (C : Cx) (kvs : List (Int × Value)) (ep : Nat) : AObj := .objp fun o => ∃ es ks, o.ExactDict ∧ o.data = .dict es ep ∧ KeysOf (intKind C.prog C.w) es ∧ Pairs (intKind C.prog C.w) es.toList ks ∧ (ks.map (·.1)).Nodup ∧ ks.map (fun p => (p.1, er p.2)) = kvs
structure SysOk (C : Cx) : Prop where
  sys : ∃ o, C.h0.get? sysModules = some o
  out : sysModules ∉ C.tabs
noncomputable def erK (ks : List (Int × Value)) : List (Int × Value) := ks.map fun p => (p.1, er p.2)
theorem erK_at (ks : List (Int × Value)) (k : Int) : valueAt (erK ks) k = (valueAt ks k).map er := by
  induction ks with
  | nil => rfl
  | cons p r ih =>
    unfold valueAt at *
    show ((List.find? _ ((p.1, er p.2) :: erK r)).map _) = _
    rw [List.find?_cons, List.find?_cons]
    by_cases h : p.1 = k
    · simp [h]
    · simp only [h, decide_false]
      exact ih
theorem erK_stored (ks : List (Int × Value)) (k : Int) (v : Value) : erK (stored ks k v) = stored (erK ks) k (er v) := by
  unfold stored
  have h1 : (ks.any fun kv => decide (kv.1 = k)) = ((erK ks).any fun kv => decide (kv.1 = k)) := by
    unfold erK; rw [List.any_map]; rfl
  rw [← h1]
  split
  · unfold erK
    rw [List.map_map, List.map_map]
    congr 1
    funext p
    by_cases h : p.1 = k
    · simp [h]
    · simp [h]
  · simp [erK]
theorem erK_without (ks : List (Int × Value)) (k : Int) : erK (without ks k) = without (erK ks) k := by
  unfold without erK
  rw [List.filter_map]
  rfl
theorem erK_get (ks : List (Int × Value)) (i : Nat) : (erK ks)[i]? = ks[i]?.map fun p => (p.1, er p.2) := by simp [erK]
theorem erK_len (ks : List (Int × Value)) : (erK ks).length = ks.length := by simp [erK]
noncomputable def TSetI (C : Cx) (d : Nat) (o i v : Value) (H : SH) (Q : SH → Prop) : Prop := ∀ x y z, er x = o → er y = i → er z = v → T C d (setItem x y z) H fun _ => Q
section
variable {C : Cx} {d : Nat} {env : Env} {H : SH} {Q : Value → SH → Prop} {QF : Flow → SH → Prop} {QB : Bool → SH → Prop} {QL : List Value → SH → Prop} {Φ : SH} {s : Shared}
theorem Has.dict {a : Addr} {kvs : List (Int × Value)} {ep : Nat} (h : Has a (dO C kvs ep) H) (I : Inv C (H ++ Φ) s) : ∃ ks, s.heap.DictAt (intKind C.prog C.w) a ks ep ∧ erK ks = kvs := by
  obtain ⟨o, ho, es, ks, h1, h2, h3, h4, h5, h6⟩ := h.rep I
  exact ⟨ks, ⟨o, es, ho, h1, h2, h3, h4, h5⟩, h6⟩
theorem rep_dict {a : Addr} {ks : List (Int × Value)} {ep : Nat} (h : s.heap.DictAt (intKind C.prog C.w) a ks ep) : Rep s a (dO C (erK ks) ep) := by
  obtain ⟨o, es, ho, h1, h2, h3, h4, h5⟩ := h
  exact ⟨o, ho, es, ks, h1, h2, h3, h4, h5, rfl⟩
theorem SysOk.ne {a : Addr} {x : AObj} (S : SysOk C) (h : Has a x H) (I : Inv C (H ++ Φ) s) : (a == sysModules) = false := by
  rw [beq_eq_false_iff_ne]
  rintro rfl
  obtain ⟨o, ho⟩ := S.sys
  rcases I.new _ (List.mem_append_left _ h.mem) with q | q
  · rw [q] at ho; cases ho
  · exact S.out q
theorem TE.dict0 {pos} (h : ∀ a ep, Q (.ref a) ((a, dO C [] ep) :: H)) : TE C d (.Dict [] [] pos) env H Q := fun Φ A s b I =>
  wpAny_Dict_empty ⟨_, I.alloc (x := dO C [] 0) ⟨_, Heap.get?_push_size _ rfl, #[], [], ⟨rfl, rfl, rfl⟩, rfl, fun e he => absurd he (by simp), .nil, by simp, rfl⟩ rfl, h _ _⟩
theorem TM.dict {a : Addr} {kvs : List (Int × Value)} {ep : Nat} {name : Str} {id : String} {QM : Value → List Value → SH → Prop} (hl : Has a (dO C kvs ep) H) (sl : Slot "dict" name id) (hty : typeOf (.builtin id) = pure (.type "method_descriptor"))
    (h : QM (.builtin id) [.ref a] H) : TM C d (.ref a) name H QM :=
  TM.of F.plainAttrs_dict sl hty (fun x ex Φ s I => by
    cases er_ref ex
    obtain ⟨ks, ⟨o, es, ho, h1, h2, _⟩, _⟩ := hl.dict I
    exact ⟨⟨_, ho, h1.1⟩, fun b q => by cases q; exact ⟨o, ho, h1.2.1⟩⟩) h
theorem TCall.dictGet {a : Addr} {kvs : List (Int × Value)} {ep : Nat} {k : Int} (S : SysOk C) (hl : Has a (dO C kvs ep) H) (h : Q ((valueAt kvs k).getD .none) H) : TCall C d (.builtin "dict.get") [.ref a, .int k 0] H Q := fun as ea Φ A s b I => by
  obtain ⟨x, y, rfl, ex, ey⟩ := args2 ea
  cases er_ref ex
  obtain ⟨t, rfl⟩ := er_int ey
  obtain ⟨ks, hd, e⟩ := hl.dict I
  have hm := hd.dictOf.mapOf
  refine call_meetsIn F.slot_dict_get hm.typeIs F.entry_dict_get (F.args_dict_get_2 _ _) (meets_dict_get (intKind C.prog C.w) a (intKind_is C.prog C.w k t) (S.ne hl I)) ⟨_, hm, H, I.tok rfl rfl rfl, ?_⟩
  subst e
  rw [erK_at] at h
  cases q : valueAt ks k with
  | none => rw [q] at h; exact h
  | some v => rw [q] at h; exact h
theorem TGet.dict {a : Addr} {kvs : List (Int × Value)} {ep : Nat} {k : Int} {v : Value} (hl : Has a (dO C kvs ep) H) (hv : valueAt kvs k = some v) (h : Q v H) : TGet C d (.ref a) (.int k 0) H Q := fun x y ex ey => by
  cases er_ref ex
  obtain ⟨t, rfl⟩ := er_int ey
  refine ⟨"dict", _, slot_dict_getitem.lookup, fun Φ s I => by obtain ⟨ks, hd, e⟩ := hl.dict I; exact hd.dictOf.typeIs, fun Φ A s b I => ?_⟩
  obtain ⟨ks, hd, e⟩ := hl.dict I
  subst e
  rw [erK_at] at hv
  obtain ⟨u, hu, eu⟩ := opt_er hv
  exact wpAny_getItem_of (intKind_is C.prog C.w k t) hd.dictOf.mapOf hu ⟨H, I.tok rfl rfl rfl, by show Q (er u) H; rw [eu]; exact h⟩
theorem TCmp.inDict {a : Addr} {kvs : List (Int × Value)} {ep : Nat} {k : Int} (S : SysOk C) (hl : Has a (dO C kvs ep) H) (h : Q (.bool (valueAt kvs k).isSome) H) : TCmp C d .In (.int k 0) (.ref a) H Q := fun x y ex ey Φ A s b I => by
  cases er_ref ey
  obtain ⟨t, rfl⟩ := er_int ex
  obtain ⟨ks, hd, e⟩ := hl.dict I
  subst e
  refine wpAny_in_of (intKind_is C.prog C.w k t) (S.ne hl I) hd.dictOf.mapOf ⟨H, I.tok rfl rfl rfl, ?_⟩
  rw [erK_at] at h
  cases q : valueAt ks k <;> rw [q] at h <;> exact h
theorem TCmp.notInDict {a : Addr} {kvs : List (Int × Value)} {ep : Nat} {k : Int} (S : SysOk C) (hl : Has a (dO C kvs ep) H) (h : Q (.bool (!(valueAt kvs k).isSome)) H) : TCmp C d .NotIn (.int k 0) (.ref a) H Q := fun x y ex ey Φ A s b I => by
  cases er_ref ey
  obtain ⟨t, rfl⟩ := er_int ex
  obtain ⟨ks, hd, e⟩ := hl.dict I
  subst e
  refine wpAny_notIn_of (intKind_is C.prog C.w k t) (S.ne hl I) hd.dictOf.mapOf ⟨H, I.tok rfl rfl rfl, ?_⟩
  rw [erK_at] at h
  cases q : valueAt ks k <;> rw [q] at h <;> exact h
theorem TSetI.dict {a : Addr} {kvs : List (Int × Value)} {ep : Nat} {k : Int} {v : Value} {H' : Nat → SH} {Q : SH → Prop} (hs : ∀ ep', Swap a (dO C kvs ep) (dO C (stored kvs k v) ep') H (H' ep')) (hz : kvs.length ≤ sizeLine) (h : ∀ ep', Q (H' ep')) : TSetI C d (.ref a) (.int k 0) v H Q := fun x y z ex ey ez Φ A s b I => by
  cases er_ref ex
  obtain ⟨t, rfl⟩ := er_int ey
  obtain ⟨ks, hd, e⟩ := (hs ep).has.dict I
  have hl : ks.length = kvs.length := by rw [← e, erK_len]
  refine wpAny_setItem_pairs (intKind_is C.prog C.w k t) hd.dictOf (fun h' hn hb => ?_) (by rw [hl]; exact hz)
  obtain ⟨ep', hn'⟩ := hn.dictAt
  refine ⟨H' ep', (hs ep').inv I (fun b o q g => (hb.2 b q).trans g) ?_ rfl rfl rfl, h ep'⟩
  have := rep_dict (s := { s with heap := h', toks := s.toks + 1 }) hn'
  rw [erK_stored, e, ez] at this
  exact this
theorem TCall.dictValues {a : Addr} {kvs : List (Int × Value)} {ep : Nat} (S : SysOk C) (hl : Has a (dO C kvs ep) H) (h : ∀ v, Q (.ref v) ((v, .objp fun o => o.cls = .type "dict_values" ∧ o.data = .fields #[.ref a]) :: H)) : TCall C d (.builtin "dict.values") [.ref a] H Q := fun as ea Φ A s b I => by
  obtain ⟨x, rfl, ex⟩ := args1 ea
  cases er_ref ex
  obtain ⟨ks, hd, e⟩ := hl.dict I
  exact call_meetsIn F.slot_dict_values hd.dictOf.typeIs F.entry_dict_values (F.args_dict_values_1 _) (meets_dict_values (intKind C.prog C.w) a (S.ne hl I)) ⟨⟨_, hd.dictOf⟩, _, I.alloc (x := .objp fun o => o.cls = .type "dict_values" ∧ o.data = .fields #[.ref a]) ⟨_, Heap.get?_push_size _ rfl, rfl, rfl⟩ rfl, h _⟩
theorem Iter.dictKeys {a : Addr} {kvs : List (Int × Value)} {ep : Nat} (S : SysOk C) : Iter C (.ref a) (intL (kvs.map (·.1))) (Has a (dO C kvs ep)) := fun x ex d H hl Φ A s b I => by
  cases er_ref ex
  obtain ⟨ks, hd, e⟩ := hl.dict I
  have hl0 : ks.length = kvs.length := by rw [← e, erK_len]
  refine wpAny_pyIter_dict (S.ne hl I) hd ⟨_, I.alloc (x := .objp fun o => o.cls = .type "dict_keyiterator" ∧ o.data = .fields #[.ref a, .int (0 : Nat) 0, .int kvs.length 0, .int ep 0]) ⟨_, Heap.get?_push_size _ rfl, rfl, by rw [hl0]; rfl⟩ rfl, _, fun i => .objp fun o => o.cls = .type "dict_keyiterator" ∧ o.data = .fields #[.ref a, .int i 0, .int kvs.length 0, .int ep 0], rfl, rfl, ?_, ?_, ?_⟩
  · intro i u hu d₁ H₁ hl₁ Φ₁ A₁ s₁ b₁ I₁
    obtain ⟨o, ho, hc, hdt⟩ := I₁.own _ (.head _)
    obtain ⟨ks₁, hd₁, e₁⟩ := Has.dict (Has.tail hl₁) I₁
    have hl1 : ks₁.length = kvs.length := by rw [← e₁, erK_len]
    obtain ⟨p, hp, eu⟩ : ∃ p, ks₁[i]? = some p ∧ Value.int p.1 0 = u := by
      rw [intL, List.map_map, List.getElem?_map, ← e₁, erK_get] at hu
      cases q : ks₁[i]? with
      | none => rw [q] at hu; cases hu
      | some p => rw [q] at hu; exact ⟨p, rfl, Option.some.inj hu⟩
    obtain ⟨k, v⟩ := p
    refine wpAny_pyNext_dict_item (i := i) (ep := ep) ⟨o, ho, hc, by rw [hl1]; exact hdt⟩ hd₁ hp fun key h' hk hi hb => ⟨_, I₁.turn (s' := { s₁ with heap := h' }) (y := .objp fun o => o.cls = .type "dict_keyiterator" ∧ o.data = .fields #[.ref a, .int (i + 1 : Nat) 0, .int kvs.length 0, .int ep 0]) (fun b o q g => (hb.2 b q).trans g) ?_ rfl rfl rfl, key, rfl, ?_, rfl⟩
    · obtain ⟨o', ho', hc', hd'⟩ := hi
      exact ⟨o', ho', hc', by rw [hl1] at hd'; exact hd'⟩
    · obtain ⟨t, rfl⟩ := Value.isInt_shape hk
      exact eu
  · intro d₁ H₁ hl₁ Φ₁ A₁ s₁ b₁ I₁
    obtain ⟨o, ho, hc, hdt⟩ := I₁.own _ (.head _)
    obtain ⟨ks₁, hd₁, e₁⟩ := Has.dict (Has.tail hl₁) I₁
    have hl1 : ks₁.length = kvs.length := by rw [← e₁, erK_len]
    have hn : (intL (kvs.map (·.1))).length = kvs.length := by simp [intL]
    refine wpAny_pyNext_dict_end (i := kvs.length) (ep := ep) b₁.handled ⟨o, ho, hc, by rw [hl1]; rw [hn] at hdt; exact hdt⟩ hd₁ (by rw [← hl1]; simp) fun h' he => ⟨H₁, I₁.pop (fun b o q g => he b o q g) rfl rfl, rfl, rfl⟩
  · intro i d₁ H₁ hl₁ Φ₁ A₁ s₁ b₁ I₁
    obtain ⟨o, ho, hc, hdt⟩ := I₁.own _ (.head _)
    exact wpAny_pyIter_keyiter (i := i) (n := kvs.length) (ep := ep) ⟨o, ho, hc, hdt⟩ ⟨_, I₁, rfl, rfl⟩
theorem Iter.dictVals {v a : Addr} {kvs : List (Int × Value)} {ep : Nat} : Iter C (.ref v) (kvs.map (·.2)) (fun H => Has v (.objp fun o => o.cls = .type "dict_values" ∧ o.data = .fields #[.ref a]) H ∧ Has a (dO C kvs ep) H) := fun x ex d H hl Φ A s b I => by
  cases er_ref ex
  obtain ⟨hv, hl⟩ := hl
  obtain ⟨ks, hd, e⟩ := hl.dict I
  have hl0 : ks.length = kvs.length := by rw [← e, erK_len]
  obtain ⟨ov, hov, hcv, hdv⟩ := hv.rep I
  refine wpAny_pyIter_values ⟨ov, hov, hcv, hdv⟩ hd ⟨_, I.alloc (x := .objp fun o => o.cls = .type "dict_valueiterator" ∧ o.data = .fields #[.ref a, .int (0 : Nat) 0, .int kvs.length 0, .int ep 0]) ⟨_, Heap.get?_push_size _ rfl, rfl, by rw [hl0]; rfl⟩ rfl, _, fun i => .objp fun o => o.cls = .type "dict_valueiterator" ∧ o.data = .fields #[.ref a, .int i 0, .int kvs.length 0, .int ep 0], rfl, rfl, ?_, ?_, ?_⟩
  · intro i u hu d₁ H₁ hl₁ Φ₁ A₁ s₁ b₁ I₁
    obtain ⟨o, ho, hc, hdt⟩ := I₁.own _ (.head _)
    obtain ⟨ks₁, hd₁, e₁⟩ := Has.dict (Has.tail hl₁.2) I₁
    have hl1 : ks₁.length = kvs.length := by rw [← e₁, erK_len]
    obtain ⟨p, hp, eu⟩ : ∃ p, ks₁[i]? = some p ∧ er p.2 = u := by
      rw [List.getElem?_map, ← e₁, erK_get] at hu
      cases q : ks₁[i]? with
      | none => rw [q] at hu; cases hu
      | some p => rw [q] at hu; exact ⟨p, rfl, Option.some.inj hu⟩
    obtain ⟨k, w⟩ := p
    refine wpAny_pyNext_values_item (i := i) (ep := ep) ⟨o, ho, hc, by rw [hl1]; exact hdt⟩ hd₁ hp fun h' hi hb => ⟨_, I₁.turn (s' := { s₁ with heap := h' }) (y := .objp fun o => o.cls = .type "dict_valueiterator" ∧ o.data = .fields #[.ref a, .int (i + 1 : Nat) 0, .int kvs.length 0, .int ep 0]) (fun b o q g => (hb.2 b q).trans g) ?_ rfl rfl rfl, w, rfl, eu, rfl⟩
    obtain ⟨o', ho', hc', hd'⟩ := hi
    exact ⟨o', ho', hc', by rw [hl1] at hd'; exact hd'⟩
  · intro d₁ H₁ hl₁ Φ₁ A₁ s₁ b₁ I₁
    obtain ⟨o, ho, hc, hdt⟩ := I₁.own _ (.head _)
    obtain ⟨ks₁, hd₁, e₁⟩ := Has.dict (Has.tail hl₁.2) I₁
    have hl1 : ks₁.length = kvs.length := by rw [← e₁, erK_len]
    have hn : (kvs.map (·.2)).length = kvs.length := by simp
    refine wpAny_pyNext_values_end (i := kvs.length) (ep := ep) b₁.handled ⟨o, ho, hc, by rw [hl1]; rw [hn] at hdt; exact hdt⟩ hd₁ (by rw [← hl1]; simp) fun h' he => ⟨H₁, I₁.pop (fun b o q g => he b o q g) rfl rfl, rfl, rfl⟩
  · intro i d₁ H₁ hl₁ Φ₁ A₁ s₁ b₁ I₁
    obtain ⟨o, ho, hc, hdt⟩ := I₁.own _ (.head _)
    exact wpAny_pyIter_valiter (i := i) (n := kvs.length) (ep := ep) ⟨o, ho, hc, hdt⟩ ⟨_, I₁, rfl, rfl⟩
theorem TX.asgSub {o i pos' value pos rest} (h : TE C d value env H fun v H₁ => TE C d o env H₁ fun ov H₂ => TE C d i env H₂ fun iv H₃ => TSetI C d ov iv v H₃ fun H₄ => TX C d rest env H₄ QF)
    (hs : swapsWith value (some (.Subscript o i pos')) pos.line env = pure false := by with_unfolding_all rfl) : TX C d (.Assign [.Subscript o i pos'] value pos :: rest) env H QF :=
  TX.cons fun Φ A s b I => wpAny_Assign_Subscript (T.run h b I fun v s₁ _ I₁ h₁ => T.run h₁ b I₁ fun ov s₂ _ I₂ h₂ => wpAny_mono (h₂ Φ A s₂ b I₂) (fun iv s₃ ⟨_, I₃, h₃⟩ =>
    T.run (h₃ ov iv v rfl rfl rfl) b I₃ fun _ s₄ H₄ I₄ h₄ => ⟨H₄, I₄, h₄⟩) fun _ _ x => x) hs
end
end Mine
end
section
open PySem PySem.Calls PyProof.Rows
set_option autoImplicit false
set_option linter.unusedVariables false
set_option linter.unusedSimpArgs false
namespace Mine
/-- a set of ints, by what is in it and how many -/
noncomputable def setO (C : Cx) (S : Int → Bool) (n : Nat) : AObj := .objp fun o => ∃ es ep t, o.ExactSet ∧ o.data = .set es ep t ∧ ElemsOf (intKind C.prog C.w) es.toList ∧ (∀ k, S k = true ↔ ∃ e ∈ es.toList, (intKind C.prog C.w).is k e.2 = true)
    ∧ es.size < scanBound ∧ t.fits es.size = true ∧ es.size = n
section
variable {C : Cx} {d : Nat} {env : Env} {H : SH} {Q : Value → SH → Prop} {QF : Flow → SH → Prop} {QB : Bool → SH → Prop} {QL : List Value → SH → Prop} {Φ : SH} {s : Shared}
theorem Has.set {a : Addr} {S : Int → Bool} {n : Nat} (h : Has a (setO C S n) H) (I : Inv C (H ++ Φ) s) : s.heap.SetOf (intKind C.prog C.w) a S n := by
  obtain ⟨o, ho, es, ep, t, h1, h2, h3, h4, h5, h6, h7⟩ := h.rep I
  exact ⟨o, es, ep, t, ho, h1, h2, h3, h4, h5, h6, h7⟩
theorem rep_set {a : Addr} {S : Int → Bool} {n : Nat} (h : s.heap.SetOf (intKind C.prog C.w) a S n) : Rep s a (setO C S n) := by
  obtain ⟨o, es, ep, t, ho, h1, h2, h3, h4, h5, h6, h7⟩ := h
  exact ⟨o, ho, es, ep, t, h1, h2, h3, h4, h5, h6, h7⟩
theorem TCall.set0 (h : ∀ a, Q (.ref a) ((a, setO C (fun _ => false) 0) :: H)) : TCall C d (.type "set") [] H Q := fun as ea Φ A s b I => by
  have : as = [] := by simpa using ea
  subst this
  refine call_set_0 fun led => ⟨_, I.alloc (x := setO C (fun _ => false) 0) (rep_set ⟨_, #[], 0, _, Heap.get?_push_size _ rfl, ⟨rfl, rfl, rfl⟩, rfl, fun e he => absurd he (by simp), fun k => by simp, by decide, by cases led <;> rfl, rfl⟩) rfl, h _⟩
theorem TCmp.inSet {a : Addr} {S : Int → Bool} {n : Nat} {k : Int} (hl : Has a (setO C S n) H) (h : Q (.bool (S k)) H) : TCmp C d .In (.int k 0) (.ref a) H Q := fun x y ex ey Φ A s b I => by
  cases er_ref ey
  obtain ⟨t, rfl⟩ := er_int ex
  exact wpAny_inSet_of (intKind_is C.prog C.w k t) rfl (hl.set I) ⟨H, I.tok rfl rfl rfl, h⟩
theorem TM.set {a : Addr} {S : Int → Bool} {n : Nat} {name : Str} {id : String} {QM : Value → List Value → SH → Prop} (hl : Has a (setO C S n) H) (sl : Slot "set" name id) (hty : typeOf (.builtin id) = pure (.type "method_descriptor"))
    (h : QM (.builtin id) [.ref a] H) : TM C d (.ref a) name H QM :=
  TM.of F.plainAttrs_set sl hty (fun x ex Φ s I => by cases er_ref ex; exact ⟨(hl.set I).typeIs, (hl.set I).noDict⟩) h
theorem TCall.setAdd {a : Addr} {S : Int → Bool} {n : Nat} {k : Int} {H' : SH} (hs : Swap a (setO C S n) (setO C (fun k' => S k' || decide (k' = k)) (if S k then n else n + 1)) H H') (hz : n + 1 < scanBound) (h : Q .none H') : TCall C d (.builtin "set.add") [.ref a, .int k 0] H Q := fun as ea Φ A s b I => by
  obtain ⟨x, y, rfl, ex, ey⟩ := args2 ea
  cases er_ref ex
  obtain ⟨t, rfl⟩ := er_int ey
  exact call_set_add (intKind_is C.prog C.w k t) rfl (hs.has.set I) hz fun h' hb hS => ⟨H', hs.inv I (fun b o q g => (hb.2 b q).trans g) (rep_set (s := { s with heap := h', toks := s.toks + 1 }) hS) rfl rfl rfl, h⟩
theorem del_dict {A : Around} {E : Value → Shared → Prop} {P : Unit → Shared → Prop} {a : Addr} {kvs : List (Int × Value)} {ep : Nat} {k : Int} {t : Tok} {H' : Nat → SH} (hs : ∀ ep', Swap a (dO C kvs ep) (dO C (without kvs k) ep') H (H' ep')) (hz : kvs.length ≤ sizeLine) (hk : (valueAt kvs k).isSome = true)
    (I : Inv C (H ++ Φ) s) (h : ∀ s' ep', Inv C (H' ep' ++ Φ) s' → P () s') : wpAny C.M A (delItem (.ref a) (.int k t)) P E s := by
  obtain ⟨ks, hd, e⟩ := (hs ep).has.dict I
  have hl : ks.length = kvs.length := by rw [← e, erK_len]
  unfold delItem
  refine wpAny_holding ?_
  refine wpAny_bind (wpAny_sequenceKey hd.dictOf.typeIs (by decide) ?_)
  refine wpAny_bind (wpAny_callSpecial?_slot (name := Str.ofString "__delitem__") hd.dictOf.typeIs PySem.F.slot_dict_delitem
    (call_meetsIn PySem.F.slot_dict_delitem hd.dictOf.typeIs PySem.F.entry_dict_delitem (PySem.F.args_dict_delitem_2 _ _) (meets_dict_delitem_pairs (intKind C.prog C.w) a (intKind_is C.prog C.w k t)) ⟨ks, hd.dictOf, (by rw [hl]; exact hz), ?_, fun h' hmm hb => ?_⟩))
  · rw [← e, erK_at] at hk
    cases q : valueAt ks k with
    | none => rw [q] at hk; cases hk
    | some v => rfl
  · obtain ⟨ep', hn'⟩ := hmm.dictAt
    refine wpAny_pure (h _ ep' ((hs ep').inv I (fun b o q g => (hb.2 b q).trans g) ?_ rfl rfl rfl))
    have := rep_dict (s := { s with heap := h', toks := s.toks + 1 }) hn'
    rw [erK_without, e] at this
    exact this
theorem erase_last {vs : Array Value} : (vs.eraseIdxIfInBounds (vs.size - 1)).toList = vs.toList.dropLast := by
  unfold Array.eraseIdxIfInBounds
  split
  · rename_i h
    rw [Array.toList_eraseIdx, ← List.eraseIdx_length_sub_one]; simp
  · rename_i h
    have : vs.size = 0 := by omega
    have : vs = #[] := Array.eq_empty_of_size_eq_zero this
    subst this; rfl
theorem map_dropLast {vs : List Value} {xs : List Value} (e : vs.map er = xs) : vs.dropLast.map er = xs.dropLast := by rw [← e, List.map_dropLast]
theorem TCall.remove {l : Addr} {xs ys : List Int} {n : Int} {H' : SH} (hm : n ∉ xs) (hs : Swap l (.list (intL (xs ++ n :: ys))) (.list (intL (xs ++ ys))) H H') (hz : (xs ++ n :: ys).length ≤ sizeLine) (h : Q .none H') : TCall C d (.builtin "list.remove") [.ref l, .int n 0] H Q := fun as ea Φ A s b I => by
  obtain ⟨x, y, rfl, ex, ey⟩ := args2 ea
  cases er_ref ex
  obtain ⟨vs, ep, ho, e⟩ := hs.rep I
  have hl := map_size e
  rw [intL_length] at hl
  have hj : xs.length < vs.size := by rw [hl]; simp
  have at' : ∀ m (hm : m < vs.size), numV vs[m] = ((xs ++ n :: ys)[m]?).getD 0 := fun m hm => by
    have h1 : (vs.toList.map er)[m]? = some (er vs[m]) := by rw [List.getElem?_map, Array.getElem?_toList, Array.getElem?_eq_getElem hm]; rfl
    rw [e, intL, List.getElem?_map] at h1
    cases q : (xs ++ n :: ys)[m]? with
    | none => rw [q] at h1; cases h1
    | some i =>
      rw [q] at h1
      have := Option.some.inj h1
      rw [← numV_er, ← this]; rfl
  refine call_meets F.slot_list_remove ⟨_, ho, rfl⟩ F.entry_list_remove (F.args_list_remove_2 _ _) (MeetsSeq.list_remove l vs ep y (fun z => numV z == n) (fun z hz' => eqG_int (mem_intL e hz') ey) xs.length hj ?_ ?_ (by rw [hl]; exact hz)) ⟨ho, H', hs.seq I ho ?_, h⟩
  · rw [beq_iff_eq, at' _ hj]; simp
  · intro m hm' hlt
    rw [beq_eq_false_iff_ne, at' _ hm', List.getElem?_append_left hlt, List.getElem?_eq_getElem hlt]
    intro q
    exact hm (q ▸ List.getElem_mem hlt)
  · have h3 : (vs.eraseIdxIfInBounds xs.length).toList = vs.toList.eraseIdx xs.length := by
      unfold Array.eraseIdxIfInBounds; rw [dif_pos hj, Array.toList_eraseIdx]
    have h4 : ∀ (l : List Value) (i : Nat), (l.eraseIdx i).map er = (l.map er).eraseIdx i := by
      intro l
      induction l with
      | nil => intro i; rfl
      | cons a r ih => intro i; cases i with
        | zero => rfl
        | succ i => simp [ih]
    rw [h3, h4, e]
    have h5 : intL (xs ++ n :: ys) = intL xs ++ .int n 0 :: intL ys := by simp [intL]
    rw [h5, List.eraseIdx_append_of_length_le (by simp [intL])]
    simp [intL]
end
end Mine
end
section
open PySem PySem.Calls PyProof.Rows
open Builtin Builtin.ObjectAttr
set_option autoImplicit false
set_option linter.unusedVariables false
set_option linter.unusedSimpArgs false
set_option maxRecDepth 100000
namespace Mine
theorem b_iter_entry : entryFor table "iter" = some Builtin.«iter» := entryFor_of_fast (by kernel_rfl)
theorem b_next_entry : entryFor table "next" = some Builtin.«next» := entryFor_of_fast (by kernel_rfl)
theorem b_iter_args (a : Value) : argsOk "iter" ⟨[a], []⟩ := by unfold argsOk; kernel_rfl
theorem b_next_args (a : Value) : argsOk "next" ⟨[a], []⟩ := by unfold argsOk; kernel_rfl
theorem lk_li_ga : typeLookup (.type "list_iterator") "__getattribute__" = pure (some (.builtin "object.__getattribute__")) := by rw [typeLookup_type, builtinLookup_eq_fast]; kernel_rfl
theorem lk_li_next : typeLookup (.type "list_iterator") "__next__" = pure (some (.builtin "list_iterator.__next__")) := by rw [typeLookup_type, builtinLookup_eq_fast]; kernel_rfl
theorem lk_wd_get : typeLookup (.type "wrapper_descriptor") "__get__" = pure (some (.builtin "wrapper_descriptor.__get__")) := by rw [typeLookup_type, builtinLookup_eq_fast]; kernel_rfl
theorem lk_wd_set : typeLookup (.type "wrapper_descriptor") "__set__" = pure none := by rw [typeLookup_type, builtinLookup_eq_fast]; kernel_rfl
theorem lk_wd_del : typeLookup (.type "wrapper_descriptor") "__delete__" = pure none := by rw [typeLookup_type, builtinLookup_eq_fast]; kernel_rfl
theorem ty_li_next : typeOf (.builtin "list_iterator.__next__") = pure (.type "wrapper_descriptor") := by show builtinType _ = _; rw [builtinType_eq_fast]; kernel_rfl
theorem slot_li_ga : Slot "list_iterator" "__getattribute__" "object.__getattribute__" :=
  .of (owner := "object") (n := "__getattribute__") lk_li_ga (by decide +kernel) (by decide +kernel) (by decide +kernel)
    (by first | exact .inl (by decide +kernel) | exact .inr (by decide +kernel)) (by rw [isSubtype_type]; kernel_rfl)
theorem slot_wd_get : Slot "wrapper_descriptor" "__get__" "wrapper_descriptor.__get__" :=
  .of (owner := "wrapper_descriptor") (n := "__get__") lk_wd_get (by decide +kernel) (by decide +kernel) (by decide +kernel)
    (by first | exact .inl (by decide +kernel) | exact .inr (by decide +kernel)) (by rw [isSubtype_type]; kernel_rfl)
theorem entry_li_ga : entryFor table "object.__getattribute__" = some Builtin.«object.__getattribute__» := entryFor_of_fast (by kernel_rfl)
theorem entry_wd_get : entryFor table "wrapper_descriptor.__get__" = some Builtin.«wrapper_descriptor.__get__» := entryFor_of_fast (by kernel_rfl)
theorem args_wd_get (a b c : Value) : argsOk "wrapper_descriptor.__get__" ⟨[a, b, c], []⟩ := by unfold argsOk; kernel_rfl
theorem args_li_ga (a b : Value) : argsOk "object.__getattribute__" ⟨[a, b], []⟩ := by unfold argsOk; kernel_rfl
theorem sub_li : isSubtype (.type "list_iterator") (.type "list_iterator") = pure true := by rw [isSubtype_type]; kernel_rfl
section
variable {prog : Program} {w : World} {A : Around} {E : Value → Shared → Prop} {h : Heap} {g : Array GenState} {d : Drawn} {t : Nat} {os : OsState}
set_option maxHeartbeats 1000000 in
theorem mw_get {it : Addr} {vs : Array Value} {Q : Value → Shared → Prop} (ho : h.get? it = some { cls := .type "list_iterator", data := .fields vs })
    (hq : ∀ t', Q (.ref h.objs.size) ⟨h.push { cls := .type "method-wrapper", data := .fields #[.builtin "list_iterator.__next__", .ref it] }, g, d, t', os⟩) :
    wpAny (model prog w) A (getAttr (.ref it) "__next__" true) Q E ⟨h, g, d, t, os⟩ := by
  have hT : ∀ t, (⟨h, g, d, t, os⟩ : Shared).TypeIs (.ref it) "list_iterator" := fun t => ⟨_, ho, rfl⟩
  have hT0 := hT t
  have hT1 := hT (t + 1)
  have l1 := lk_li_ga
  have l2 := lk_li_next
  have l3 := lk_wd_get
  have l4 := lk_wd_set
  have l5 := lk_wd_del
  have t1 := ty_li_next
  have b1 := slot_li_ga.bind (.ref it)
  unfold getAttr getAttrBy
  repeat (first | (with_reducible refine wpAny_loadPart_at ho ?_) | wp_step)
  refine codeAny_call_builtin slot_li_ga.plain entry_li_ga (slot_li_ga.check _ _ _ _ _ _ _ _ hT1 (args_li_ga _ _) ?_)
  unfold Builtin.«object.__getattribute__»
  repeat (first | (with_reducible refine wpAny_loadPart_at ho ?_) | wp_step | dsimp only)
  refine codeAny_call_builtin slot_wd_get.plain entry_wd_get (slot_wd_get.check _ _ _ _ _ _ _ _ (T := "wrapper_descriptor") ?_ (args_wd_get _ _ _) ?_)
  · exact t1
  unfold Builtin.«wrapper_descriptor.__get__»
  have l6 := sub_li
  repeat (first | (with_reducible refine wpAny_loadPart_at ho ?_) | wp_step | dsimp only)
  have l7 : ".".intercalate ("list_iterator.__next__".cutAt '.').dropLast = "list_iterator" := by decide +kernel
  rw [l7]
  repeat (first | (with_reducible refine wpAny_loadPart_at ho ?_) | wp_step | dsimp only)
  exact hq _
set_option maxHeartbeats 1000000 in
theorem mw_call {it mw : Addr} {vs : Array Value} {Q : Value → Shared → Prop} (ho : h.get? it = some { cls := .type "list_iterator", data := .fields vs }) (hm : h.get? mw = some { cls := .type "method-wrapper", data := .fields #[.builtin "list_iterator.__next__", .ref it] })
    (hq : wpAny (model prog w) A.in1 (Builtin.«list_iterator.__next__» ⟨[.ref it], []⟩) (fun fin s' => ∃ v, fin = .done (.ret v) ∧ Q v s') E ⟨h, g, d, t, os⟩) :
    wpAny (model prog w) A (call (.ref mw) []) Q E ⟨h, g, d, t, os⟩ := by
  refine wpAny_call (codeAny_of_tree ?_)
  show wpAny _ _ (callAny (.ref mw) _) _ _ _
  repeat (first | (with_reducible refine wpAny_loadPart_at hm ?_) | (with_reducible refine wpAny_load' hm ?_) | wp_step | dsimp only)
  refine ⟨plainId_quiet slot_listiter_next.plain _, codeAny_builtin entry_listiter_next ?_⟩
  rw [Around.under_plainId slot_listiter_next.plain]
  exact wpAny_mono hq (fun fin s' ⟨v, e, q⟩ => by subst e; exact q) fun _ _ x => x
theorem li_item {it l : Addr} {i : Nat} {o ol : Obj} {items : Array Value} {ep : Nat} {x : Value} {s : Shared} {Q : Fin → Shared → Prop} (ho : s.heap.get? it = some o) (hd : o.data = .fields #[.ref l, .int i 0])
    (hol : s.heap.get? l = some ol) (hdl : ol.data = .seq items ep) (hx : items[i]? = some x)
    (hQ : Q (.done (.ret x)) { s with heap := s.heap.update it (Obj.mapFields (·.setIfInBounds 1 (rawInt ((i : Int) + 1)))) }) :
    wpAny (model prog w) A (Builtin.«list_iterator.__next__» ⟨[.ref it], []⟩) Q E s := by
  show wpAny _ _ (field (.ref it) 0 >>= _) _ _ s
  refine wpAny_bind (wpAny_field ho hd (x := .ref l) rfl ?_)
  show wpAny _ _ (if (Value.ref l == Value.none) = true then _ else _) _ _ s
  rw [if_neg (show ¬ ((Value.ref l == Value.none) = true) from Bool.false_ne_true)]
  show wpAny _ _ (field (.ref it) 1 >>= _) _ _ s
  refine wpAny_bind (wpAny_field ho hd (x := .int i 0) rfl ?_)
  show wpAny _ _ (seqItems? (.ref l) >>= _) _ _ s
  refine wpAny_bind (wpAny_seqItems hol hdl ?_)
  simp only [Int.toNat_natCast, hx]
  exact wpAny_bind (wpAny_setField ho hd (by simp) (wpAny_pure hQ))
theorem li_end {it l : Addr} {i : Nat} {o ol : Obj} {items : Array Value} {ep : Nat} {s : Shared} {Q : Fin → Shared → Prop} (hh : A.handled = none) (ho : s.heap.get? it = some o) (hd : o.data = .fields #[.ref l, .int i 0])
    (hol : s.heap.get? l = some ol) (hdl : ol.data = .seq items ep) (hx : items[i]? = none)
    (hE : ∀ h' e vs, Heap.ExtBut it s.heap h' → h'.get? e = some { cls := .type "StopIteration", data := .fields vs } → vs[1]? = some .none → s.heap.get? e = none → E (.ref e) { s with heap := h' }) :
    wpAny (model prog w) A (Builtin.«list_iterator.__next__» ⟨[.ref it], []⟩) Q E s := by
  show wpAny _ _ (field (.ref it) 0 >>= _) _ _ s
  refine wpAny_bind (wpAny_field ho hd (x := .ref l) rfl ?_)
  show wpAny _ _ (if (Value.ref l == Value.none) = true then _ else _) _ _ s
  rw [if_neg (show ¬ ((Value.ref l == Value.none) = true) from Bool.false_ne_true)]
  show wpAny _ _ (field (.ref it) 1 >>= _) _ _ s
  refine wpAny_bind (wpAny_field ho hd (x := .int i 0) rfl ?_)
  show wpAny _ _ (seqItems? (.ref l) >>= _) _ _ s
  refine wpAny_bind (wpAny_seqItems hol hdl ?_)
  simp only [Int.toNat_natCast, hx]
  refine wpAny_bind (wpAny_rule (wpAny_bind (wpAny_setField ho hd (by simp) ?_)))
  show wpAny _ _ (newExc (.type "StopIteration") [] >>= _) _ _ _
  refine wpAny_bind ?_
  simp only [newExc, newTuple]
  refine wpAny_bind (wpAny_newObj_type ?_ (by size_fits))
  refine wpAny_bind (m := firstArgMember _ _) (wpAny_of_eq (a := Value.none) (by first | rfl | (simp only [firstArgMember]; rfl)) ?_)
  refine wpAny_newObj_type ?_ (by size_fits)
  simp only [raiseNew]
  refine wpAny_bind (wpAny_handled ?_)
  rw [hh]
  refine wpAny_bind (wpAny_pure (wpAny_throw ?_))
  refine hE _ _ _ (((Heap.SameBut.update ..).extBut.push _).push _) (Heap.get?_push_size _ rfl) rfl (Heap.get?_none_of_le ?_)
  simp
end
/-- an iterator of a list, at its i-th item -/
noncomputable def litO (l : Addr) (i : Nat) : AObj := .objp fun o => o = { cls := .type "list_iterator", data := .fields #[.ref l, .int i 0] }
/-- its next, bound -/
noncomputable def mwO (it : Addr) : AObj := .objp fun o => o = { cls := .type "method-wrapper", data := .fields #[.builtin "list_iterator.__next__", .ref it] }
/-- an exception raised that no frame has noted -/
noncomputable def stopO : AObj := .objp fun o => ∃ vs, o = { cls := .type "StopIteration", data := .fields vs } ∧ vs[1]? = some .none
/-- as T, but the tree may raise StopIteration: then X -/
noncomputable def TT {α : Type} (C : Cx) (d : Nat) (t : Sem α) (H : SH) (Q : α → SH → Prop) (X : SH → Prop) : Prop :=
  ∀ (Φ : SH) (A : Around) (s : Shared), Bd C d Φ A → Inv C (H ++ Φ) s → wpAny C.M A t (fun a s' => Post C Φ (Q a) s') (fun e s' => ∃ a H', e = .ref a ∧ Inv C ((a, stopO) :: (H' ++ Φ)) s' ∧ X H') s
section
variable {C : Cx} {d : Nat} {env : Env} {H : SH} {Q : Value → SH → Prop} {QF : Flow → SH → Prop} {QB : Bool → SH → Prop} {QL : List Value → SH → Prop} {Φ : SH} {s : Shared} {X : SH → Prop}
theorem TCall.iter {l : Addr} {xs : List Value} (hl : Has l (.list xs) H) (h : ∀ it, Q (.ref it) ((it, litO l 0) :: H)) : TCall C d (.builtin "iter") [.ref l] H Q := fun as ea Φ A s b I => by
  obtain ⟨x, rfl, ex⟩ := args1 ea
  cases er_ref ex
  obtain ⟨vs, il, e⟩ := hl.isList I
  refine call_function_entry (by decide +kernel) (by decide +kernel) b_iter_entry (b_iter_args _) ?_
  unfold Builtin.«iter»
  refine wpAny_bind (m := someArgs "iter" 1 2 _) (wpAny_of_eq (a := [Value.ref l]) (by first | rfl | kernel_rfl) ?_)
  show wpAny _ _ (pyIter (.ref l) >>= _) _ _ _
  exact wpAny_bind (wpAny_pyIter_list il (wpAny_pure ⟨_, rfl, _, I.alloc (x := litO l 0) ⟨_, Heap.get?_push_size _ rfl, rfl⟩ rfl, h _⟩))
theorem TAt.next {it l : Addr} {i : Nat} (hi : Has it (litO l i) H) (h : ∀ mw, Q (.ref mw) ((mw, mwO it) :: H)) : TAt C d (.ref it) "__next__" H Q := fun y ey Φ A s b I => by
  cases er_ref ey
  obtain ⟨o, ho, rfl⟩ := hi.rep I
  obtain ⟨hh, g, dr, t, os⟩ := s
  exact mw_get ho fun t' => ⟨_, I.more (tk := t') (x := mwO it) (fun b o e => Heap.get?_push_of_some _ e) (Nat.le_refl _) ⟨_, Heap.get?_push_size _ rfl, rfl⟩ rfl, h _⟩
theorem T.mwItem {it mw l : Addr} {i : Nat} {xs : List Value} {u : Value} {H' : SH} (hm : Has mw (mwO it) H) (hl : Has l (.list xs) H) (hs : Swap it (litO l i) (litO l (i + 1)) H H') (hu : xs[i]? = some u) (h : Q u H') : TCall C d (.ref mw) [] H Q := fun as ea Φ A s b I => by
  have : as = [] := by simpa using ea
  subst this
  obtain ⟨vs, ep, hlo, e⟩ := hl.listAt I
  obtain ⟨o, ho, rfl⟩ := hs.has.rep I
  obtain ⟨om, hmo, rfl⟩ := hm.rep I
  obtain ⟨v, hv, ev⟩ := map_at e hu
  obtain ⟨hh, g, dr, t, os⟩ := s
  refine mw_call ho hmo (li_item ho rfl hlo rfl hv ⟨v, rfl, H', hs.inv I (fun b o q g => (Heap.get?_update_other _ _ (Ne.symm q)).trans g) ⟨_, Heap.get?_update_self _ ho rfl, ?_⟩ rfl rfl rfl, by show Q (er v) H'; rw [ev]; exact h⟩)
  simp [Obj.mapFields, rawInt]
theorem TT.mwEnd {it mw l : Addr} {xs : List Value} {Q : Value → SH → Prop} (hm : Has mw (mwO it) H) (hl : Has l (.list xs) H) (h : X H) : TT C d (call (.ref mw) []) ((it, litO l xs.length) :: H) Q X := fun Φ A s b I => by
  obtain ⟨vs, ep, hlo, e⟩ := Has.listAt (Has.tail hl) I
  obtain ⟨o, ho, rfl⟩ := I.own _ (.head _)
  obtain ⟨om, hmo, rfl⟩ := Has.rep (Has.tail hm) I
  have hz := map_size e
  obtain ⟨hh, g, dr, t, os⟩ := s
  refine mw_call ho hmo (li_end (by exact b.handled) ho rfl hlo rfl (by rw [← hz]; simp) fun h' ex vs he hex h1 hnew => ⟨ex, H, rfl, ?_, h⟩)
  have I₁ : Inv C (H ++ Φ) ⟨h', g, dr, t, os⟩ := I.pop (fun b o q g => he b o q g) rfl rfl
  have I₀ : Inv C (H ++ Φ) ⟨hh, g, dr, t, os⟩ := I.sub (List.sublist_cons_self _ _)
  refine ⟨I₁.keep, fun p hp => ?_, fun p hp => ?_, ?_, ?_, I₁.os, I₁.bare⟩
  · rcases List.mem_cons.mp hp with rfl | hp
    · exact ⟨_, hex, vs, rfl, h1⟩
    · exact I₁.own p hp
  · rcases List.mem_cons.mp hp with rfl | hp
    · by_cases t : ex ∈ C.tabs
      · exact .inr t
      · left
        cases q : C.h0.get? ex with
        | none => rfl
        | some o => have := I₀.keep _ o q t; rw [hnew] at this; cases this
    · exact I₁.new p hp
  · rw [List.map_cons, List.nodup_cons]
    refine ⟨fun hm => ?_, I₁.nodup⟩
    obtain ⟨p, hp, e⟩ := List.mem_map.mp hm
    obtain ⟨o, ho⟩ := (I₀.own p hp).there
    rw [e, hnew] at ho; cases ho
  · rw [List.filterMap_cons]; exact I₁.gens
end
end Mine
end
section
open PySem PySem.Calls PyProof.Rows
set_option autoImplicit false
set_option linter.unusedVariables false
set_option linter.unusedSimpArgs false
namespace Mine
/-- the frames below: the block's own, then those of the callers, that stand beside -/
noncomputable def Rfr (env : Env) (Φ : SH) (x : Option (List Env)) : Prop := ∃ es, x = some (env :: es) ∧ ∀ e ∈ es, e.scope.kind = .function ∧ ∃ L m, e.frame = some L ∧ (L, AObj.ns m) ∈ Φ
noncomputable def Cx.on (C : Cx) (env : Env) : Cx := { C with R := Rfr env, Rm := fun F Φ x ⟨es, e, h⟩ => ⟨es, e, fun e he => let ⟨k, L, m, h1, h2⟩ := h e he; ⟨k, L, m, h1, List.mem_append_right _ h2⟩⟩ }
/-- the call at the outset: no frame below -/
noncomputable def Cx.on0 (C : Cx) : Cx := { C with R := fun _ x => x = some [], Rm := fun _ _ _ e => e }
theorem Bd.off {C : Cx} {env : Env} {d : Nat} {Φ : SH} {A : Around} (o : C.Off) (b : Bd (C.on env) d Φ A) : Bd C d Φ A := ⟨b.depth, b.units, b.handled, o _ _⟩
theorem Inv.on {C : Cx} {env : Env} {K : SH} {s : Shared} : Inv (C.on env) K s ↔ Inv C K s := ⟨fun I => ⟨I.keep, I.own, I.new, I.nodup, I.gens, I.os, I.bare⟩, fun I => ⟨I.keep, I.own, I.new, I.nodup, I.gens, I.os, I.bare⟩⟩
theorem T.weak {C : Cx} {env : Env} {d : Nat} {α : Type} {t : Sem α} {H : SH} {Q : α → SH → Prop} (o : C.Off) (h : T C d t H Q) : T (C.on env) d t H Q := fun Φ A s b I =>
  T.run (C := C) h (b.off o) (Inv.on.mp I) fun _ _ H' I' q => ⟨H', Inv.on.mpr I', q⟩
theorem TCall.weak {C : Cx} {env : Env} {d : Nat} {f : Value} {as : List Value} {H : SH} {Q : Value → SH → Prop} (o : C.Off) (h : TCall C d f as H Q) : TCall (C.on env) d f as H Q := fun xs e => T.weak o (h xs e)
theorem Names.on {C : Cx} {env : Env} {mg mb : Str → Option Value} (N : Names C mg mb) : Names (C.on env) mg mb := ⟨N.g, N.b, N.tg, N.tb⟩
theorem Nm.on {C : Cx} {env : Env} {x : Str} {v : Value} (N : Nm C x v) : Nm (C.on env) x v := let ⟨mg, mb, n, h⟩ := N; ⟨mg, mb, n.on, h⟩
theorem Fn.on {C : Cx} {env : Env} {f : Addr} {fd : FuncData} (F : Fn C f fd) : Fn (C.on env) f fd := ⟨F.at', F.out, F.code, F.codeOut⟩
theorem Has.swap_mem {a : Addr} {x : AObj} {K : SH} (h : (a, x) ∈ K) : Swap a x x K K := (Has.of_mem h).swap
section
variable {C : Cx} {d : Nat} {env : Env} {H : SH} {Q : Value → SH → Prop} {QF : Flow → SH → Prop} {QB : Bool → SH → Prop} {QL : List Value → SH → Prop} {Φ : SH} {s : Shared} {X : SH → Prop}
/-- the notes of the frames below do not touch what stands -/
theorem ready_inv {M : Model} {A : Around} {E : Value → Shared → Prop} : ∀ (es : List Env) {K : SH} {s : Shared} {Q : Unit → Shared → Prop}, (∀ e ∈ es, e.scope.kind = .function ∧ ∃ L m, e.frame = some L ∧ (L, AObj.ns m) ∈ K) → Inv C K s →
    (∀ h', Inv C K { s with heap := h' } → h'.objs.size = s.heap.objs.size → (∀ b o, s.heap.get? b = some o → (∀ m, (b, AObj.ns m) ∉ K) → h'.get? b = some o) → Q () { s with heap := h' }) → wpAny M A (readyFrames es) Q E s
  | [], K, s, Q, _, I, h => by simp only [readyFrames]; exact wpAny_pure (h s.heap I rfl fun b o e _ => e)
  | e :: es, K, s, Q, hes, I, h => by
    obtain ⟨hk, L, m, hf, hm⟩ := hes e (.head _)
    obtain ⟨nd, f, ⟨o, ds, ep, ho, hdt, hkeys, hfind⟩, hvals⟩ := I.own _ hm
    have hnf : o.isFreed = false := (Heap.get?_some_iff.mp ho).2
    simp only [readyFrames, hf]
    refine wpAny_bind (wpAny_load ho ?_)
    by_cases hr : ((o.slots.getD 3 none).isSome) = true
    · rw [if_pos hr]
      exact wpAny_pure (h s.heap I rfl fun b o e _ => e)
    · rw [if_neg hr]
      refine wpAny_bind (wpAny_of_eq (a := false) (by simp [behindIsImport, hk]) ?_)
      have go : ∀ back : Value, wpAny M A (do
          update L fun o => { o with slots := #[some e.code, some (.ref e.globals), o.slots.getD 2 none, some back, o.slots.getD 4 none, e.func.map Value.ref, some (.ref e.builtins)] ++ (e.cells.map fun c => some (.ref c.2)).toArray }
          readyFrames es) Q E s := fun back => by
        refine wpAny_bind (wpAny_update ho ?_)
        have hup := Heap.get?_update_self (h := s.heap) (a := L) (f := fun o => { o with slots := #[some e.code, some (.ref e.globals), o.slots.getD 2 none, some back, o.slots.getD 4 none, e.func.map Value.ref, some (.ref e.builtins)] ++ (e.cells.map fun c => some (.ref c.2)).toArray } ) ho (by obtain ⟨c, dd, dt, sl⟩ := o; cases dt <;> first | rfl | exact hnf)
        have I₁ := Swap.inv (C := C) (Φ := []) (s := s) (s' := { s with heap := s.heap.update L fun o => { o with slots := #[some e.code, some (.ref e.globals), o.slots.getD 2 none, some back, o.slots.getD 4 none, e.func.map Value.ref, some (.ref e.builtins)] ++ (e.cells.map fun c => some (.ref c.2)).toArray } }) (Has.swap_mem hm) (by rw [List.append_nil]; exact I)
          (fun b o q g => (Heap.get?_update_other _ _ (Ne.symm q)).trans g) ⟨nd, f, ⟨_, ds, ep, hup, hdt, hkeys, hfind⟩, hvals⟩ rfl rfl rfl
        rw [List.append_nil] at I₁
        refine ready_inv es (fun e' he' => hes e' (.tail _ he')) I₁ fun h' I' hz hk' => h h' I' (hz.trans (Heap.size_update ..)) fun b o hb hn => hk' b o ?_ hn
        rw [Heap.get?_update_other _ _ (fun q : L = b => hn m (q ▸ hm))]; exact hb
      cases es with
      | nil => exact wpAny_bind (wpAny_keptBack_nil fun _ => go _)
      | cons e' es' => exact wpAny_bind (wpAny_pure (go _))
/-- an exception that this frame has noted -/
noncomputable def notedO (tb : Addr) : AObj := .objp fun o => ∃ vs, o = { cls := .type "StopIteration", data := .fields vs } ∧ vs[1]? = some (.ref tb)
noncomputable def tbO : AObj := .objp fun o => ∃ vs, o.data = .fields vs ∧ 3 < vs.size ∧ o.cls = .type "traceback"
theorem note_inv {A : Around} {E : Value → Shared → Prop} {a : Addr} {m : List (Str × Option Value)} {P : Unit → Shared → Prop} (hR : Rfr env Φ A.frames) (hk : env.scope.kind = .function) (hf : env.frame = some env.locals) (hm : Has env.locals (.ns m) H)
    (I : Inv C ((a, stopO) :: (H ++ Φ)) s) (h : ∀ s' tb, Inv C ((tb, tbO) :: (a, notedO tb) :: (H ++ Φ)) s' → P () s') : wpAny C.M A (noteFrame (.ref a) env) P E s := by
  obtain ⟨es, hfr, hes⟩ := hR
  obtain ⟨oe, he, vs, rfl, h1⟩ := I.own _ (.head _)
  have hsz : 1 < vs.size := (Array.getElem?_eq_some_iff.mp h1).1
  unfold noteFrame
  simp only [hf]
  refine wpAny_bind (wpAny_field he rfl h1 ?_)
  rw [if_neg (by decide)]
  unfold PySem.frameOf
  refine wpAny_bind (wpAny_bind (wpAny_frameEnvs hfr ?_))
  have hdw : ((env :: es).dropWhile fun x => x.frame != env.frame) = env :: es := by simp [List.dropWhile]
  rw [hdw]
  unfold frameObject
  refine wpAny_bind (wpAny_bind (ready_inv (C := C) (env :: es) (K := (a, stopO) :: (H ++ Φ)) (fun e he => ?_) I fun h₁ I₁ hz₁ hk₁ => ?_))
  · rcases List.mem_cons.mp he with rfl | he
    · exact ⟨hk, _, m, hf, .tail _ (List.mem_append_left _ hm.mem)⟩
    · obtain ⟨k, L, m', hL, hm'⟩ := hes e he
      exact ⟨k, L, m', hL, .tail _ (List.mem_append_right _ hm')⟩
  refine wpAny_pure ?_
  rw [hf]
  refine wpAny_pure ?_
  refine wpAny_bind (wpAny_entryPlaceOf fun pl hpl => ?_)
  unfold EntryCells.newEntry newFields
  refine wpAny_bind (wpAny_newObj_type ?_ (hpl.sizeOk5 _ _ _ _ _))
  obtain ⟨oe₁, he₁, vs₁, rfl, h1₁⟩ := I₁.own _ (.head _)
  have hsz₁ : 1 < vs₁.size := (Array.getElem?_eq_some_iff.mp h1₁).1
  have he₂ := Heap.get?_push_of_some (h := h₁) { cls := .type "traceback", dict := none, data := .fields ([Value.none, .ref env.locals, .none, rawInt env.locals, .none] ++ (if pl.isEmpty then List.replicate 6 Value.none else pl)).toArray } he₁
  refine wpAny_setField he₂ rfl hsz₁ ?_
  have hTe : h₁.objs.size ≠ a := Nat.ne_of_gt (Heap.lt_size he₁)
  have I₂ : Inv C ((h₁.objs.size, tbO) :: (a, stopO) :: (H ++ Φ)) { s with heap := h₁.push { cls := .type "traceback", dict := none, data := .fields ([Value.none, .ref env.locals, .none, rawInt env.locals, .none] ++ (if pl.isEmpty then List.replicate 6 Value.none else pl)).toArray } } :=
    I₁.alloc (x := tbO) ⟨_, Heap.get?_push_size _ rfl, _, rfl, by simp, rfl⟩ rfl
  refine h _ h₁.objs.size ?_
  have I₃ : Inv C ((a, stopO) :: (h₁.objs.size, tbO) :: (H ++ Φ)) { s with heap := h₁.push { cls := .type "traceback", dict := none, data := .fields ([Value.none, .ref env.locals, .none, rawInt env.locals, .none] ++ (if pl.isEmpty then List.replicate 6 Value.none else pl)).toArray } } := I₂.perm (.swap ..)
  refine Inv.perm (H := (a, notedO h₁.objs.size) :: (h₁.objs.size, tbO) :: (H ++ Φ)) ?_ (.swap ..)
  refine I₃.turn (y := notedO h₁.objs.size) (fun b o q g => (Heap.get?_update_other _ _ (Ne.symm q)).trans g) ⟨_, Heap.get?_update_self _ he₂ rfl, _, rfl, ?_⟩ rfl rfl rfl
  simp [hsz₁]
theorem flight_inv {A : Around} {E : Value → Shared → Prop} {a tb : Addr} {K : SH} {P : Unit → Shared → Prop} (I : Inv C ((tb, tbO) :: (a, notedO tb) :: K) s) (h : ∀ s', Inv C ((tb, tbO) :: (a, notedO tb) :: K) s' → P () s') :
    wpAny C.M A (setFlight (.ref a) none) P E s := by
  obtain ⟨oe, he, vs, rfl, h1⟩ := I.own (a, notedO tb) (.tail _ (.head _))
  obtain ⟨ot, ht, tvs, hdt, h3, hct⟩ := I.own (tb, tbO) (.head _)
  refine wpAny_setFlight_none he rfl h1 ht hdt h3 (h _ (I.turn (y := tbO) (fun b o q g => (Heap.get?_update_other _ _ (Ne.symm q)).trans g) ⟨_, Heap.get?_update_self _ ht (Obj.isFreed_of_fields (Obj.data_mapFields hdt _)), _, Obj.data_mapFields hdt _, by simpa using h3, (Obj.cls_mapFields ..).trans hct⟩ rfl rfl rfl))
/-- a block of a handler: what is handled is some exception -/
noncomputable def TH (C : Cx) (d : Nat) (ss : List Stmt) (env : Env) (H : SH) (Q : Flow → SH → Prop) : Prop :=
  ∀ (Φ : SH) (A : Around) (s : Shared), Inv C (H ++ Φ) s → wpAny C.M A (execs ss env) (fun f s' => Post C Φ (Q (erF f)) s') (fun _ _ => False) s
theorem stop_is : isSubtype (.type "StopIteration") (.type "BaseException") = pure true := by rw [isSubtype_type]; kernel_rfl
theorem stop_nt : isSubtype (.type ((Manifest.find? "StopIteration").elim "type" fun x => x.metatype)) (.type "tuple") = pure false := by rw [isSubtype_type]; kernel_rfl
theorem stop_self : isSubtype (.type "StopIteration") (.type "StopIteration") = pure true := by rw [isSubtype_type]; kernel_rfl
theorem TX.tryStop {body : List Stmt} {b₀ : Stmt} {suite : List Stmt} {tp hpos pos : Pos} {rest : List Stmt} (N : Nm C "StopIteration" (.type "StopIteration")) (hl : env.kindOf "StopIteration" = some .globalImplicit) (hm : InMain env)
    (hR : ∀ Φ x, C.R Φ x → Rfr env Φ x) (hk : env.scope.kind = .function) (hf : env.frame = some env.locals)
    (h : TT C d (execs body env) H (fun f H' => thenX C d rest env QF (erF f) H')
      (fun H' => (∃ m, Has env.locals (.ns m) H') ∧ TH C d (b₀ :: suite) env H' (thenX C d rest env QF))) :
    TX C d (.Try body [.ExceptHandler (some (.Name "StopIteration" tp)) none (b₀ :: suite) hpos] [] [] pos :: rest) env H QF := by
  refine TX.cons fun Φ A s b I => ?_
  have fin : ∀ (f : Flow) (s' : Shared) (H' : SH), Inv C (H' ++ Φ) s' → (thenX C d rest env QF (erF f) H') → Post C Φ (fun H' => thenX C d rest env QF (erF f) H') s' := fun f s' H' I' q => ⟨H', I', q⟩
  refine wpAny_Try_except (wpAny_mono (h Φ A s b I) (fun f s₁ ⟨H₁, I₁, q⟩ => ?_) fun e s₁ ⟨a, H₁, ea, I₁, ⟨m, hmm⟩, q⟩ => ?_)
  · cases f with
    | next => exact wpAny_execs_nil (fin .next _ _ I₁ q)
    | brk => exact fin .brk _ _ I₁ q
    | cont => exact fin .cont _ _ I₁ q
    | ret v => exact fin (.ret v) _ _ I₁ q
  · subst ea
    refine note_inv (hR _ _ b.fr) hk hf hmm I₁ fun s₂ tb I₂ => ?_
    refine flight_inv I₂ fun s₃ I₃ => ?_
    refine wpAny_handleBy_builtin (X := "StopIteration") (T := "StopIteration") (b := true) stop_is stop_nt stop_self ?_
    obtain ⟨mg, mb, NN, h1⟩ := N
    have hT : s₃.TypeIs (.ref a) "StopIteration" := by
      obtain ⟨oe, he, vs, rfl, _⟩ := I₃.own (a, notedO tb) (.tail _ (.head _))
      exact ⟨_, he, rfl⟩
    have tail : ∀ A', wpAny C.M A' (setFlight (.ref a) none) (fun _ s₂ => wpAny C.M A' (execs (b₀ :: suite) env) (fun f s' => Post C Φ (fun H' => thenX C d rest env QF (erF f) H') s') (notedBy C.M A' env (cameBackBy C.M A env fun _ _ => False)) s₂) (notedBy C.M A' env (cameBackBy C.M A env fun _ _ => False)) s₃ := fun A' =>
      flight_inv I₃ fun s₄ I₄ => wpAny_mono (q Φ A' s₄ (I₄.sub ((List.sublist_cons_self _ _).trans (List.sublist_cons_self _ _)))) (fun f s₅ ⟨H₅, I₅, q⟩ => ⟨H₅, I₅, q⟩) fun _ _ x => x.elim
    rcases h1 with ⟨u, hu, eu⟩ | ⟨hn, hv⟩
    · cases er_type eu
      exact Name_function_global hk hl (loadGlobal_global (hm.g ▸ I₃.ns NN.g NN.tg) hu ⟨rfl, hT, tail _⟩)
    · exact Name_function_global hk hl (loadGlobal_builtin (hm.g ▸ I₃.ns NN.g NN.tg) hn (hm.b ▸ I₃.ns NN.b NN.tb) hv ⟨rfl, hT, tail _⟩)
end
end Mine
end
section
open PySem PySem.Calls PyProof.Rows
set_option autoImplicit false
set_option linter.unusedVariables false
set_option linter.unusedSimpArgs false
namespace Mine
section
variable {C : Cx} {d : Nat} {env : Env} {H : SH} {Q : Value → SH → Prop} {QF : Flow → SH → Prop} {QB : Bool → SH → Prop} {QL : List Value → SH → Prop} {Φ : SH} {s : Shared} {X : SH → Prop}
theorem TC.whileStep {test : Expr} {body orelse : List Stmt} (h : TB C d test env H fun c H₁ => if c then TX C d body env H₁ (turnX (fun H₃ => TC C d (.whileLoop test body orelse env) H₃ QF) (QF .next) QF)
    else TX C d orelse env H₁ QF) : TC C d (.whileLoop test body orelse env) H QF := fun Φ A s b I => by
  refine codeAny_of_tree ?_
  rw [show A.under (.whileLoop test body orelse env) = A from Around.under_of_weight rfl]
  show wpAny _ A ((whileTurn test body orelse env).onRaise (fun x => do noteFrame x env; theTreesLotGoes x)) _ _ s
  refine wpAny_noted ?_
  simp only [whileTurn]
  refine wpAny_bind (T.run h b I fun c s₁ H₁ I₁ h₁ => ?_)
  cases c with
  | true =>
    refine wpAny_bind (T.run h₁ b I₁ fun f s₂ H₂ I₂ h₂ => ?_)
    cases f with
    | next => exact wpAny_pure ⟨rfl, h₂ Φ A s₂ b I₂⟩
    | cont => exact wpAny_pure ⟨rfl, h₂ Φ A s₂ b I₂⟩
    | brk => exact wpAny_pure ⟨.next, rfl, H₂, I₂, h₂⟩
    | ret v => exact wpAny_pure ⟨.ret v, rfl, H₂, I₂, h₂⟩
  | false =>
    refine wpAny_bind (T.run h₁ b I₁ fun f s₂ H₂ I₂ h₂ => wpAny_pure ⟨f, rfl, H₂, I₂, h₂⟩)
theorem TX.while {test : Expr} {body orelse : List Stmt} {pos : Pos} {rest : List Stmt} (h : TC C d (.whileLoop test body orelse env) H (thenX C d rest env QF)) : TX C d (.While test body orelse pos :: rest) env H QF := by
  refine TX.cons fun Φ A s b I => wpAny_While (codeAny_mono (h Φ A s b I) fun r s₁ zz => ?_)
  obtain ⟨f, e, H₁, I₁, h₁⟩ := zz
  subst e
  refine ⟨H₁, I₁, ?_⟩
  cases f <;> exact h₁
/-- a try whose body raises nothing -/
theorem TX.try0 {body orelse : List Stmt} {h₀ : ExceptHandler} {hs : List ExceptHandler} {pos : Pos} {rest : List Stmt}
    (h : TX C d body env H (thenX C d orelse env (thenX C d rest env QF))) : TX C d (.Try body (h₀ :: hs) orelse [] pos :: rest) env H QF := by
  refine TX.cons fun Φ A s b I => wpAny_Try_except (T.run h b I fun f s₁ H₁ I₁ h₁ => ?_)
  cases f with
  | next => exact T.run h₁ b I₁ fun g s₂ H₂ I₂ h₂ => ⟨H₂, I₂, by cases g <;> exact h₂⟩
  | brk => exact ⟨H₁, I₁, h₁⟩
  | cont => exact ⟨H₁, I₁, h₁⟩
  | ret v => exact ⟨H₁, I₁, h₁⟩
/-- two targets: a place of a dict, then a name -/
theorem TX.asgSubName {o i value : Expr} {sp pos : Pos} {x : Str} {p : Pos} {rest : List Stmt} (hk : env.scope.kind = .function)
    (h : TE C d value env H fun v H₁ => TE C d o env H₁ fun ov H₂ => TE C d i env H₂ fun iv H₃ => TSetI C d ov iv v H₃ fun H₄ => StoP env x v H₄ fun H₅ => TX C d rest env H₅ QF)
    (hw : swappedStores [.Subscript o i sp, .Name x p] value env = pure none := by rfl) (hr : ∀ a b c : Value, release (match i with | .Slice _ _ none _ => [a, b, c] | _ => [b, c, a]) [] = release [b, c, a] [] := by intros; rfl) : TX C d (.Assign [.Subscript o i sp, .Name x p] value pos :: rest) env H QF := by
  refine TX.cons fun Φ A s b I => wpAny_Assign_two (T.run h b I fun v s₁ H₁ I₁ h₁ => ?_) rfl hw
  rw [assign_Subscript]
  refine wpAny_bind (wpAny_holding (T.run h₁ b I₁ fun ov s₂ H₂ I₂ h₂ => ?_))
  refine wpAny_bind (wpAny_holding (T.run h₂ b I₂ fun iv s₃ H₃ I₃ h₃ => ?_))
  refine wpAny_bind (wpAny_standAt (wpAny_bind (wpAny_holding (T.run (h₃ ov iv v rfl rfl rfl) b I₃ fun _ s₄ H₄ I₄ ⟨H₅, hs, h₅⟩ => wpAny_release ?_))))
  exact wpAny_assign_Name (T.run (T.sto (Q := fun _ H' => H' = H₅) hk hs rfl) b I₄ fun _ s' H' I' e => ⟨H', I', by subst e; exact h₅⟩)
theorem TE.walrus {x : Str} {p : Pos} {value : Expr} {pos : Pos} (hk : env.scope.kind = .function) (h : TE C d value env H fun v H₁ => StoP env x v H₁ fun H₂ => Q v H₂) : TE C d (.NamedExpr (.Name x p) value pos) env H Q := fun Φ A s b I =>
  wpAny_NamedExpr (T.run h b I fun v s₁ H₁ I₁ ⟨H₂, hs, hq⟩ => wpAny_assign_Name (T.run (T.sto (Q := fun _ H' => H' = H₂) hk hs rfl) b I₁ fun _ s' H' I' e => ⟨H', I', by subst e; exact hq⟩))
theorem TInp.sub {i j : Int} (h : Q (.int (i - j) 0) H) : TInp C d .Sub (.int i 0) (.int j 0) H Q := fun x y ex ey Φ A s b I => by
  obtain ⟨t, rfl⟩ := er_int ex; obtain ⟨u, rfl⟩ := er_int ey; exact PyProof.Rows.isub_int ⟨H, I.tok rfl rfl rfl, h⟩
theorem TCall.lenTup {l : Addr} {xs : List Value} (hl : Has l (.tup xs) H) (hz : xs.length ≤ sizeLine) (h : Q (.int xs.length 0) H) : TCall C d (.builtin "len") [.ref l] H Q := fun as ea Φ A s b I => by
  obtain ⟨x, rfl, ex⟩ := args1 ea
  cases er_ref ex
  obtain ⟨vs, il, e⟩ := hl.isTup I
  have hs := map_size e
  obtain ⟨o, ho, hc, n, hd⟩ := il
  refine len_tuple (items := vs) ⟨o, ho, hc, n, hd⟩ (by rw [hs]; have : sizeLine = 16777216 := rfl; lia) ⟨H, I.tok rfl rfl rfl, ?_⟩
  rw [hs]; exact h
theorem TCall.boolList {l : Addr} {xs : List Value} (hl : Has l (.list xs) H) (hz : xs.length ≤ sizeLine) (h : Q (.bool (!xs.isEmpty)) H) : TCall C d (.type "bool") [.ref l] H Q := fun as ea Φ A s b I => by
  obtain ⟨x, rfl, ex⟩ := args1 ea
  cases er_ref ex
  obtain ⟨vs, il, e⟩ := hl.isList I
  have hs := map_size e
  have hee : vs.isEmpty = xs.isEmpty := by
    rw [Array.isEmpty, hs]
    cases xs <;> simp
  have meets : Meets (Builtin.«bool.__new__» ⟨[.type "bool", .ref l], []⟩) (fun _ R s => s.heap.IsList l vs ∧ R (.ok (.ret (.bool (!vs.isEmpty)))) { s with toks := s.toks + 1 + 1 }) :=
    Meets.of_wp fun prog w A R s hh => by
      obtain ⟨hl', hs'⟩ := hh
      obtain ⟨hp, g, d, tk, os⟩ := s
      have f1 := F.conv_sub_bool
      repeat (any_goals (first | assumption | (with_reducible refine wpAny_truthy_list hl' (by rw [hs]; have : sizeLine = 16777216 := rfl; lia) ?_) | wp_step))
      all_goals first | exact ⟨_, rfl, hs'⟩ | exact hs' | skip
  exact call_bool_1 meets (show s.heap.IsList l vs ∧ wants (fun obj s₁ => s₁.TypeIs obj "bool" ∧ _) _ _ _ from ⟨il, rfl, H, I.tok rfl rfl rfl, by rw [hee]; exact h⟩)
theorem TArgs.star {pos : Pos} {e : Expr} {p : Pos} {rest : List Expr} (h : TE C d e env H fun v H₁ => ∃ l xs, v = .ref l ∧ Has l (.list xs) H₁ ∧ xs.length ≤ sizeLine ∧ TArgs C d pos rest env H₁ fun vs H₂ => QL (xs ++ vs) H₂) : TArgs C d pos (.Starred e p :: rest) env H QL := fun Φ A s b I => by
  have e1 : backTo pos (starEach (.Starred e p :: rest) env) = (true, do let v ← eval e env; standAt pos; pure v) :: backTo pos (starEach rest env) := rfl
  rw [e1]
  simp only [spliced]
  refine wpAny_bind (wpAny_bind (T.run h b I fun v s₁ H₁ I₁ ⟨l, xs, ev, hl, hz, hr⟩ => wpAny_bind (wpAny_standAt (wpAny_pure ?_))))
  cases er_ref ev
  obtain ⟨vs, ep, ho, e2⟩ := hl.listAt I₁
  have hT : s₁.TypeIs (.ref l) "list" := ⟨_, ho, rfl⟩
  simp only [if_true]
  unfold notIterableAtAll
  refine wpAny_bind (wpAny_bind (wpAny_specialOf (name := Str.ofString "__iter__") hT F.slot_list_iter.lookup ?_))
  simp only [Option.isSome_some, if_true]
  refine wpAny_pure ?_
  rw [if_neg (by decide)]
  refine wpAny_bind (wpAny_collect_seq l (.inl rfl) ho rfl rfl (fun h' hk => ?_) (by rw [map_size e2]; exact hz))
  have I₂ : Inv C (H₁ ++ Φ) { s₁ with heap := h' } := I₁.ext (tk := s₁.toks) hk
  refine wpAny_bind (wpAny_holding (T.run hr b I₂ fun ws s₂ H₂ I₃ q => wpAny_pure ⟨H₂, I₃, ?_⟩))
  show QL ((vs.toList ++ ws).map er) H₂
  rw [List.map_append, e2]; exact q
end
end Mine
end
section
open PySem PySem.Calls PyProof.Rows
set_option autoImplicit false
set_option linter.unusedVariables false
set_option linter.unusedSimpArgs false
namespace Mine
section
variable {C : Cx} {d : Nat} {H : SH} {Q : Value → SH → Prop}
noncomputable def Cx.wr (C : Cx) (R : SH → Option (List Env) → Prop) (Rm : ∀ F Φ x, R Φ x → R (F ++ Φ) x) : Cx := { C with R := R, Rm := Rm }
theorem Inv.wr {R : SH → Option (List Env) → Prop} {Rm} {K : SH} {s : Shared} : Inv (C.wr R Rm) K s ↔ Inv C K s := ⟨fun I => ⟨I.keep, I.own, I.new, I.nodup, I.gens, I.os, I.bare⟩, fun I => ⟨I.keep, I.own, I.new, I.nodup, I.gens, I.os, I.bare⟩⟩
/-- a call whose block knows the frames below -/
theorem TCall.defR {R : SH → Option (List Env) → Prop} {Rm} {K : SH} {f : Addr} {fd : FuncData} {body : List Stmt} {as : List Value} {eb : List (Str × Value)} (o : C.Off) (F : Fn C f fd) (Lm : Lim C) (hbody : fd.body = .stmts body) (hclo : fd.closure = [])
    (nd : (fd.scope.names.map (·.1)).Nodup) (hcall : ∀ Φ x env, R Φ x → Rfr env (K ++ Φ) (x.map (env :: ·)))
    (hb : ∀ xs, xs.map er = as → ∃ bs, bindArgs fd ⟨xs, []⟩ = pure bs ∧ erB bs = eb ∧ ∀ x ∈ bs, fd.scope.names.lookup x.1 = some .local ∨ fd.scope.names.lookup x.1 = some .cell)
    (h : ∀ env, IsEnv fd f env → TX (C.on env) d body env (entryH fd env eb H) fun fl H' => ∃ H₂, H₂.Sublist H' ∧ Q (retOf fl) (K ++ H₂))
    (hco : fd.scope.isCoroutine = false := by kernel_rfl) (hgen : fd.scope.isGenerator = false := by kernel_rfl) (hk : fd.scope.kind = .function := by kernel_rfl) : TCall (C.wr R Rm) (d + 1) (.ref f) as (K ++ H) Q := by
  intro xs hxs Φ A s b I
  obtain ⟨bs, hbs, ebs, hkind⟩ := hb xs hxs
  have I₀ : Inv C (K ++ H ++ Φ) s := Inv.wr.mp I
  obtain ⟨oo, ho, hdat⟩ := F.at'
  have keepC : ∀ {s' : Shared} {H' : SH}, Inv C H' s' → s'.heap.CodeRec fd.code fd.qualname := fun {s' H'} I' => by
    obtain ⟨c, o, vs, t, e, g, r⟩ := F.code
    exact ⟨c, o, vs, t, e, I'.keep _ _ g (F.codeOut c e), r⟩
  refine wpAny_call (codeAny_call_function (by have := b.depth; lia) (I₀.keep _ _ ho F.out) hdat hco hgen hbody (keepC I₀) ?_)
  rw [hbs]
  refine wpAny_pure ?_
  have I₁ : Inv C (H ++ (K ++ Φ)) s := I₀.perm (by rw [← List.append_assoc]; exact (List.perm_append_comm).append_right Φ)
  have bO : Bd C (d + 1) (K ++ Φ) A := ⟨b.depth, b.units, b.handled, o _ _⟩
  refine T.run (C := C) (T.newFn (C := C) (d := d) (H := H) (f := f) hclo nd hk hkind) bO.in1 I₁ fun env s₂ H₂ I₂ zz => ?_
  obtain ⟨hE, e⟩ := zz
  subst e
  rw [ebs] at I₂
  refine ⟨?_, codeAny_func ?_⟩
  · obtain ⟨mc, hns, hv⟩ := Lm.lim
    exact ⟨mc, I₂.ns hns Lm.out, hv⟩
  have hl := b.fr
  have b' : Bd (C.on env) d (K ++ Φ) (A.deeper env) := ⟨by have := b.depth; show A.depth + 1 + d < _; lia, by have := b.units; simp; lia, b.handled, hcall Φ A.frames env b.fr⟩
  refine T.run (C := C.on env) (h env hE) b' (Inv.on.mpr I₂) fun fl s₃ H' I' zz => ?_
  obtain ⟨H₂, sub, q⟩ := zz
  have I₃ : Inv C (K ++ H₂ ++ Φ) s₃ := ((Inv.on.mp I').sub (sub.append_right (K ++ Φ))).perm (by rw [← List.append_assoc]; exact (List.perm_append_comm).append_right Φ)
  refine ⟨K ++ H₂, Inv.wr.mpr I₃, ?_⟩
  cases fl <;> exact q
theorem call_on {env0 : Env} {m : List (Str × Option Value)} (hf : env0.frame = some env0.locals) (hk : env0.scope.kind = .function) : ∀ Φ x env, Rfr env0 Φ x → Rfr env ([(env0.locals, AObj.ns m)] ++ Φ) (x.map (env :: ·)) := by
  rintro Φ x env ⟨es, rfl, h⟩
  refine ⟨env0 :: es, rfl, fun e he => ?_⟩
  rcases List.mem_cons.mp he with rfl | he
  · exact ⟨hk, _, m, hf, .head _⟩
  · obtain ⟨k, L, m', h1, h2⟩ := h e he
    exact ⟨k, L, m', h1, .tail _ h2⟩
theorem call_on0 : ∀ (Φ : SH) (x : Option (List Env)) (env : Env), x = some [] → Rfr env ([] ++ Φ) (x.map (env :: ·)) := by
  rintro Φ x env rfl
  exact ⟨[], rfl, fun e he => by cases he⟩
theorem TCall.defOn {env0 : Env} {m : List (Str × Option Value)} {f : Addr} {fd : FuncData} {body : List Stmt} {as : List Value} {eb : List (Str × Value)} (o : C.Off) (hf : env0.frame = some env0.locals) (hk0 : env0.scope.kind = .function) (F : Fn C f fd) (Lm : Lim C) (hbody : fd.body = .stmts body) (hclo : fd.closure = [])
    (nd : (fd.scope.names.map (·.1)).Nodup)
    (hb : ∀ xs, xs.map er = as → ∃ bs, bindArgs fd ⟨xs, []⟩ = pure bs ∧ erB bs = eb ∧ ∀ x ∈ bs, fd.scope.names.lookup x.1 = some .local ∨ fd.scope.names.lookup x.1 = some .cell)
    (h : ∀ env, IsEnv fd f env → TX (C.on env) d body env (entryH fd env eb H) fun fl H' => ∃ H₂, H₂.Sublist H' ∧ Q (retOf fl) ((env0.locals, .ns m) :: H₂))
    (hco : fd.scope.isCoroutine = false := by kernel_rfl) (hgen : fd.scope.isGenerator = false := by kernel_rfl) (hk : fd.scope.kind = .function := by kernel_rfl) : TCall (C.on env0) (d + 1) (.ref f) as ((env0.locals, .ns m) :: H) Q :=
  TCall.defR (K := [(env0.locals, .ns m)]) o F Lm hbody hclo nd (call_on hf hk0) hb h hco hgen hk
theorem TCall.defOn0 {f : Addr} {fd : FuncData} {body : List Stmt} {as : List Value} {eb : List (Str × Value)} (o : C.Off) (F : Fn C f fd) (Lm : Lim C) (hbody : fd.body = .stmts body) (hclo : fd.closure = [])
    (nd : (fd.scope.names.map (·.1)).Nodup)
    (hb : ∀ xs, xs.map er = as → ∃ bs, bindArgs fd ⟨xs, []⟩ = pure bs ∧ erB bs = eb ∧ ∀ x ∈ bs, fd.scope.names.lookup x.1 = some .local ∨ fd.scope.names.lookup x.1 = some .cell)
    (h : ∀ env, IsEnv fd f env → TX (C.on env) d body env (entryH fd env eb H) fun fl H' => ∃ H₂, H₂.Sublist H' ∧ Q (retOf fl) H₂)
    (hco : fd.scope.isCoroutine = false := by kernel_rfl) (hgen : fd.scope.isGenerator = false := by kernel_rfl) (hk : fd.scope.kind = .function := by kernel_rfl) : TCall C.on0 (d + 1) (.ref f) as H Q :=
  TCall.defR (K := []) (R := fun _ x => x = some []) o F Lm hbody hclo nd call_on0 hb h hco hgen hk
theorem TCall.perm {f : Value} {as : List Value} {H' : SH} (p : H.Perm H') (h : TCall C d f as H' Q) : TCall C d f as H Q := fun xs e => T.perm p (h xs e)
end
end Mine
end
section
open PySem PySem.Calls PyProof.Rows
set_option autoImplicit false
set_option linter.unusedVariables false
set_option linter.unusedSimpArgs false
namespace Mine
section
variable {C : Cx} {d : Nat} {env : Env} {H : SH} {Q : Value → SH → Prop}
theorem litO_step {it l : Addr} {i : Nat} {H H' Φ : SH} {s : Shared} {o : Obj} (hs : Swap it (litO l i) (litO l (i + 1)) H H') (I : Inv C (H ++ Φ) s) (ho : s.heap.get? it = some { cls := .type "list_iterator", data := .fields #[.ref l, .int i 0] }) :
    Inv C (H' ++ Φ) { s with heap := s.heap.update it (Obj.mapFields (·.setIfInBounds 1 (rawInt ((i : Int) + 1)))) } :=
  hs.inv I (fun b o q g => (Heap.get?_update_other _ _ (Ne.symm q)).trans g) ⟨_, Heap.get?_update_self _ ho rfl, by simp [Obj.mapFields, rawInt]⟩ rfl rfl rfl
theorem TCall.next1 {it l : Addr} {i : Nat} {xs : List Value} {u : Value} {H' : SH} (hl : Has l (.list xs) H) (hs : Swap it (litO l i) (litO l (i + 1)) H H') (hu : xs[i]? = some u) (h : Q u H') : TCall C d (.builtin "next") [.ref it] H Q := fun as ea Φ A s b I => by
  obtain ⟨x, rfl, ex⟩ := args1 ea
  cases er_ref ex
  obtain ⟨vs, ep, hlo, e⟩ := hl.listAt I
  obtain ⟨o, ho, rfl⟩ := hs.has.rep I
  obtain ⟨v, hv, ev⟩ := map_at e hu
  have hT : s.TypeIs (.ref it) "list_iterator" := ⟨_, ho, rfl⟩
  refine call_function_entry (by decide +kernel) (by decide +kernel) b_next_entry (b_next_args _) ?_
  unfold Builtin.«next»
  refine wpAny_bind (m := someArgs "next" 1 2 _) (wpAny_of_eq (a := [Value.ref it]) (by first | rfl | kernel_rfl) ?_)
  dsimp only
  refine wpAny_bind (wpAny_specialOf (name := Str.ofString "__next__") hT slot_listiter_next.lookup ?_)
  refine wpAny_ite_split (fun hab => absurd hab (by decide)) (fun _ => ?_)
  refine wpAny_bind (wpAny_callSpecial?_slot (name := Str.ofString "__next__") hT slot_listiter_next
    (wpAny_call_entry slot_listiter_next hT entry_listiter_next (li_item ho rfl hlo rfl hv ⟨v, rfl, wpAny_pure ⟨v, rfl, H', litO_step (o := default) hs I ho, by show Q (er v) H'; rw [ev]; exact h⟩⟩) (args_listiter_next _)))
/-- a for over what an iterator of a list still has -/
theorem litWalk {x : Str} {p : Pos} {it l : Addr} {k : Nat} {xs : List Value} (hk : k ≤ xs.length) :
    Walk C 0 (.Name x p) (.ref it) (xs.length - k) (fun i Xi => Xi = [(it, litO l (k + i))]) (Has l (.list xs)) (fun i v N => xs[k + i]? = some v ∧ N = []) where
  next := by
    rintro i hi d H₁ _ hl rfl Φ A s b I
    obtain ⟨o, ho, rfl⟩ := I.own _ (.head _)
    obtain ⟨vs, il, e⟩ := Has.isList (Has.tail hl) I
    have hu : xs[k + i]? = some xs[k + i] := List.getElem?_eq_getElem (by omega)
    obtain ⟨v, hv, ev⟩ := map_at e hu
    have hT : s.TypeIs (.ref it) "list_iterator" := ⟨_, ho, rfl⟩
    obtain ⟨ol, hol, _, nl, hdl⟩ := il
    unfold pyNext
    refine wpAny_bind (wpAny_attempt (wpAny_callSpecial?_slot (name := Str.ofString "__next__") hT slot_listiter_next
      (wpAny_call_entry slot_listiter_next hT entry_listiter_next (li_item ho rfl hol hdl hv ⟨v, rfl, wpAny_pure ⟨[(it, litO l (k + (i + 1)))] ++ H₁, ?_, v, rfl, ?_⟩⟩) (args_listiter_next _))))
    · exact litO_step (H := (it, litO l (k + i)) :: H₁) (H' := (it, litO l (k + (i + 1))) :: H₁) (o := default) (by rw [← Nat.add_assoc]; exact Swap.head) I ho
    · exact T.pure ⟨[], _, ⟨by rw [ev]; exact hu, rfl⟩, rfl, rfl⟩
  fin := by
    rintro d H₁ _ hl rfl Φ A s b I
    obtain ⟨o, ho, rfl⟩ := I.own _ (.head _)
    obtain ⟨vs, il, e⟩ := Has.isList (Has.tail hl) I
    refine wpAny_pyNext_list_end b.handled ⟨_, ho, rfl, rfl⟩ il ?_ fun h' he => ⟨H₁, I.pop (fun b o q g => he b o q g) rfl rfl, rfl, rfl⟩
    rw [← Array.getElem?_toList]
    have := map_size e
    exact List.getElem?_eq_none (by simp [this]; omega)
theorem T.iterLit {it l : Addr} {i : Nat} {Q : Value → SH → Prop} (hi : Has it (litO l i) H) (h : Q (.ref it) H) : ∀ x, er x = .ref it → T C d (pyIter x) H Q := fun x ex Φ A s b I => by
  cases er_ref ex
  obtain ⟨o, ho, rfl⟩ := hi.rep I
  exact wpAny_pyIter_listiter ⟨_, ho, rfl, rfl⟩ ⟨_, I, h⟩
theorem KeepOk.more {f : Value} {H K : SH} (h : KeepOk C f H) (p : (H ++ K).Perm (K ++ H)) : KeepOk C f (K ++ H) := fun Φ A s I => h (K ++ Φ) A s (I.perm (by rw [← List.append_assoc]; exact p.symm.append_right Φ))
theorem KeepOk.add {f : Value} {H K : SH} (h : KeepOk C f H) : KeepOk C f (K ++ H) := h.more List.perm_append_comm
end
end Mine
end
section
open PySem PySem.Calls PyProof.Rows
set_option autoImplicit false
set_option linter.unusedVariables false
set_option linter.unusedSimpArgs false
namespace Mine
section
variable {C : Cx} {d : Nat} {env : Env} {H : SH} {Q : Value → SH → Prop} {QF : Flow → SH → Prop} {QB : Bool → SH → Prop} {Φ : SH} {s : Shared} {X : SH → Prop}
theorem TT.perm {α : Type} {t : Sem α} {H' : SH} {Q : α → SH → Prop} (p : H.Perm H') (h : TT C d t H' Q X) : TT C d t H Q X := fun Φ A s b I => h Φ A s b (I.perm (p.append_right Φ))
theorem TT.bindT {α β : Type} {t : Sem α} {f : α → Sem β} {Q : β → SH → Prop} (h : T C d t H fun a H' => TT C d (f a) H' Q X) : TT C d (t >>= f) H Q X := fun Φ A s b I =>
  wpAny_bind (T.run h b I fun a s₁ H₁ I₁ q => q Φ A s₁ b I₁)
/-- the first statement raises -/
theorem TT.asgRaise {x : Str} {p : Pos} {e : Expr} {pos : Pos} {rest : List Stmt} {Q : Flow → SH → Prop} (h : TT C d (eval e env) H (fun _ _ => False) X)
    (hs : swapsWith e (some (.Name x p)) pos.line env = pure false := by rfl) : TT C d (execs (.Assign [.Name x p] e pos :: rest) env) H Q X := fun Φ A s b I =>
  wpAny_execs_cons (wpAny_Assign_Name (wpAny_mono (h Φ A s b I) (fun _ _ ⟨_, _, q⟩ => q.elim) fun _ _ x => x) hs)
theorem evalArgs0 {M : Model} {A : Around} {E : Value → Shared → Prop} {s : Shared} {f : Value} {b : Bool} {P : Args → Shared → Prop} (h : ∀ a, a = ⟨[], []⟩ → P a s) : wpAny M A (PySem.evalArgs f b [] []) P E s := by
  have e : PySem.evalArgs f b [] [] = (do
      let vs ← spliced []
      holding (vs ++ []) (do
        let kw ← evalAll []
        let pos ← (Pure.pure vs : Sem (List Value))
        Pure.pure (⟨pos, ([] : List Str).zip kw⟩ : Args))) := by cases b <;> rfl
  rw [e]
  refine wpAny_bind ?_
  refine wpAny_pure ?_
  refine wpAny_holding ?_
  refine wpAny_bind (wpAny_pure ?_)
  refine wpAny_bind (wpAny_pure ?_)
  exact wpAny_pure (h _ rfl)
/-- a call without arguments -/
theorem callWith0 {M : Model} {A : Around} {E : Value → Shared → Prop} {s : Shared} {pos : Pos} {f : Value} {P : Value → Shared → Prop} (hk : wpAny M A (keeperOf f) (fun _ s' => s' = s) (fun _ _ => False) s) (h : wpAny M A (call f []) P E s) : wpAny M A (callWith pos f [] [] []) P E s := by
  unfold PySem.callWith
  have e : PySem.evalArgs f true [] [] = (do
      let vs ← spliced []
      holding (vs ++ []) (do
        let kw ← evalAll []
        let pos ← (Pure.pure vs : Sem (List Value))
        Pure.pure (⟨pos, ([] : List Str).zip kw⟩ : Args))) := rfl
  rw [e]
  refine wpAny_bind ?_
  refine wpAny_holding ?_
  refine wpAny_bind (wpAny_pure ?_)
  refine wpAny_holding ?_
  refine wpAny_bind (wpAny_pure ?_)
  refine wpAny_bind (wpAny_pure ?_)
  refine wpAny_pure ?_
  dsimp only
  refine wpAny_bind (wpAny_standAt ?_)
  have tail : ∀ {t : Sem Value}, wpAny M A t P E s → wpAny M A (t >>= fun r => holding [r] point >>= fun _ => Pure.pure r) P E s := by
    intro t ht
    refine wpAny_bind (wpAny_mono ht (fun r s₂ hr => ?_) fun _ _ x => x)
    exact wpAny_bind (wpAny_holding (wpAny_point (wpAny_pure hr)))
  refine wpAny_bind (wpAny_mono hk (fun k s₂ e => ?_) fun _ _ x => x.elim)
  subst e
  cases k <;> simp only [List.any_nil, Bool.or_false, List.length_nil, List.append_nil, List.zip_nil_left, List.map_nil, gt_iff_lt, Nat.not_lt_zero, Nat.reduceMul, Nat.reduceAdd, Nat.reduceLT, if_false, Bool.false_eq_true, ite_self]
  all_goals
    first
      | exact tail h
      | exact tail (by unfold callMarked; exact wpAny_keep h)
      | exact tail (wpAny_operate h)
theorem TT.call0 {func : Expr} {pos : Pos} {Q : Value → SH → Prop} (h : TE C d func env H fun f H₁ => Fix f ∧ KeepOk C f H₁ ∧ TT C d (call f []) H₁ Q X)
    (he : eval (.Call func [] [] pos) env = (do PySem.callWith pos (← eval func env) [] (backTo pos (starEach [] env)) (backToKw pos (keywordEach [] env))) := by rfl) : TT C d (eval (.Call func [] [] pos) env) H Q X := by
  rw [he]
  refine TT.bindT (T.mono h fun f H₁ zz => ?_)
  obtain ⟨hf, hk, hc⟩ := zz
  have e := hf f rfl
  rw [← e] at hk hc
  exact fun Φ A s b I => callWith0 (hk Φ A s I) (hc Φ A s b I)
theorem KeepOk.mw {mw it : Addr} (hm : Has mw (mwO it) H) : KeepOk C (.ref mw) H := fun Φ A s I => by
  obtain ⟨o, ho, rfl⟩ := hm.rep I
  unfold keeperOf
  refine wpAny_bind (wpAny_load ho ?_)
  exact wpAny_pure rfl
/-- x.pop() of a list, in whatever block -/
theorem pop_wp {pl : Sem Bool} {A : Around} {E : Value → Shared → Prop} {x : Str} {p ap pos : Pos} {l : Addr} {m : List (Str × Option Value)} {xs : List Value} {v : Value} {H' : SH} {P : Value → Shared → Prop} (hk : env.scope.kind = .function) (hl : env.kindOf x = some .local)
    (hL : Has env.locals (.ns m) H) (hx : Loc x (some (.ref l)) m) (hs : Swap l (.list (xs ++ [v])) (.list xs) H H') (hz : xs.length < sizeLine) (I : Inv C (H ++ Φ) s)
    (h : ∀ s' u, Inv C (H' ++ Φ) s' → er u = v → P u s') (hd : (x == ("__debug__" : Str)) = false := by decide)
    (he : eval (.Call (.Attribute (.Name x p) (Str.ofString "pop") ap) [] [] pos) env = (do
      let ov ← eval (.Name x p) env
      standAt ap.atName
      let (f, first) ← holding [ov] (getMethod ov (Str.ofString "pop") pl)
      PySem.callWith pos f first (backTo pos (starEach [] env)) []) := by rfl) :
    wpAny C.M A (eval (.Call (.Attribute (.Name x p) (Str.ofString "pop") ap) [] [] pos) env) P E s := by
  obtain ⟨nd, f, hf, hm⟩ := hL.rep I
  obtain ⟨u, hu, hv⟩ := opt_er (hm _ hx.mem)
  cases er_ref hv
  obtain ⟨vs, ep, ho, e⟩ := hs.rep I
  have hlen := map_size e
  obtain ⟨w, hw, ew⟩ := map_at e (i := xs.length) (u := v) (by simp)
  have hlen' : vs.size - 1 = xs.length := by rw [hlen]; simp
  refine MethodCall_ (wpAny_Name (wpAny_loadName_local hk hl hf hu ?_) hd) he
  refine getMethod_builtin (T := "list") ⟨_, ho, rfl⟩ F.plainAttrs_list F.slot_list_pop F.type_list_pop (fun a q => by cases q; exact ⟨_, ho, rfl⟩) ?_
  refine method_meets F.slot_list_pop F.entry_list_pop rfl (evalArgs0 (fun a ea => ?_))
  subst ea
  refine ⟨rfl, ⟨_, ho, rfl⟩, F.args_list_pop_1 _, _, MeetsSeq.list_pop_last l vs ep w (by rw [hlen']; exact hw) (by rw [hlen]; simp; exact hz), ho, ?_⟩
  refine h _ _ (hs.seq I ho ?_) ew
  rw [erase_last, map_dropLast e]; simp
end
end Mine
end
section
open PySem PySem.Calls PyProof.Rows
set_option autoImplicit false
set_option linter.unusedVariables false
set_option linter.unusedSimpArgs false
namespace Mine
section
variable {C : Cx} {d : Nat} {env : Env} {H : SH} {Q : Value → SH → Prop} {QF : Flow → SH → Prop} {QB : Bool → SH → Prop} {Φ : SH} {s : Shared} {X : SH → Prop}
/-- a while by what gets less -/
theorem TC.whileInd {σ : Type} {t : Expr} {b o : List Stmt} (V : σ → Nat) (Hs : σ → SH → Prop)
    (step : ∀ x, (∀ y H, V y < V x → Hs y H → TC C d (.whileLoop t b o env) H QF) → ∀ H, Hs x H → TC C d (.whileLoop t b o env) H QF) : ∀ x H, Hs x H → TC C d (.whileLoop t b o env) H QF := by
  have go : ∀ n x, V x = n → ∀ H, Hs x H → TC C d (.whileLoop t b o env) H QF := by
    intro n
    induction n using Nat.strongRecOn with
    | _ n ih => intro x e; exact step x fun y H hy => ih _ (by lia) y rfl H
  exact fun x => go _ x rfl
theorem TT.ofTX {ss : List Stmt} {Q : Flow → SH → Prop} (QF : Flow → SH → Prop) (h : TX C d ss env H QF) (hq : ∀ f H', QF (erF f) H' → Q f H') : TT C d (execs ss env) H Q X := fun Φ A s b I =>
  T.run h b I fun f s' H' I' q => ⟨H', I', hq f H' q⟩
/-- the rest of a block, shown once -/
theorem TX.share {st : Stmt} {rest : List Stmt} (J : SH → Prop) (h2 : ∀ H', J H' → TX C d rest env H' QF) (h1 : (∀ H', J H' → TX C d rest env H' QF) → TX C d (st :: rest) env H QF) : TX C d (st :: rest) env H QF := h1 h2
/-- del d[s.pop()]; t.pop() -/
theorem TH.delPop {pl pl' : Sem Bool} {dn sn tn : Str} {dd st tt : Addr} {m : List (Str × Option Value)} {xs ys : List Value} {v : Value} {k : Int} {kvs : List (Int × Value)} {ep : Nat} {H1 : SH} {H2 H3 : Nat → SH} {p1 p2 p3 p4 p5 p6 p7 p8 p9 p10 : Pos} {QF : Flow → SH → Prop}
    (hk : env.scope.kind = .function) (hi : interactive env = false) (kd : env.kindOf dn = some .local) (ks : env.kindOf sn = some .local) (kt : env.kindOf tn = some .local)
    (hL : Has env.locals (.ns m) H) (hL2 : ∀ ep', Has env.locals (.ns m) (H2 ep')) (ld : Loc dn (some (.ref dd)) m) (ls : Loc sn (some (.ref st)) m) (lt : Loc tn (some (.ref tt)) m)
    (s1 : Swap st (.list (xs ++ [.int k 0])) (.list xs) H H1) (s2 : ∀ ep', Swap dd (dO C kvs ep) (dO C (without kvs k) ep') H1 (H2 ep')) (s3 : ∀ ep', Swap tt (.list (ys ++ [v])) (.list ys) (H2 ep') (H3 ep'))
    (z1 : xs.length < sizeLine) (z2 : kvs.length ≤ sizeLine) (z3 : ys.length < sizeLine) (hkk : (valueAt kvs k).isSome = true) (h : ∀ ep', QF .next (H3 ep'))
    (n1 : (dn == ("__debug__" : Str)) = false := by decide) (n2 : (sn == ("__debug__" : Str)) = false := by decide) (n3 : (tn == ("__debug__" : Str)) = false := by decide)
    (he : eval (.Call (.Attribute (.Name sn p2) (Str.ofString "pop") p3) [] [] p4) env = (do
      let ov ← eval (.Name sn p2) env
      standAt p3.atName
      let (f, first) ← holding [ov] (getMethod ov (Str.ofString "pop") pl)
      PySem.callWith p4 f first (backTo p4 (starEach [] env)) []) := by rfl)
    (he' : eval (.Call (.Attribute (.Name tn p7) (Str.ofString "pop") p8) [] [] p9) env = (do
      let ov ← eval (.Name tn p7) env
      standAt p8.atName
      let (f, first) ← holding [ov] (getMethod ov (Str.ofString "pop") pl')
      PySem.callWith p9 f first (backTo p9 (starEach [] env)) []) := by rfl)
    (hsw : swapsWith (.Call (.Attribute (.Name tn p7) (Str.ofString "pop") p8) [] [] p9) none p10.line env = pure false := by rfl) :
    TH C d [.Delete [.Subscript (.Name dn p1) (.Call (.Attribute (.Name sn p2) (Str.ofString "pop") p3) [] [] p4) p5] p6, .Expr (.Call (.Attribute (.Name tn p7) (Str.ofString "pop") p8) [] [] p9) p10] env H QF := fun Φ A s I => by
  refine wpAny_execs_cons (wpAny_Delete (wpAny_deleteEach_cons (wpAny_delete_Subscript ?_)))
  obtain ⟨nd, f, hf, hm⟩ := hL.rep I
  obtain ⟨u, hu, hv⟩ := opt_er (hm _ ld.mem)
  cases er_ref hv
  refine wpAny_Name (wpAny_loadName_local hk kd hf hu ?_) n1
  refine pop_wp hk ks hL ls s1 z1 I (fun s₁ w I₁ ew => ?_) n2 he
  obtain ⟨t, rfl⟩ := er_int ew
  refine del_dict s2 z2 hkk I₁ fun s₂ ep' I₂ => ?_
  refine wpAny_deleteEach_nil ?_
  refine wpAny_execs_cons ?_
  rw [exec_Expr env _ p10 hi hsw]
  refine wpAny_bind (wpAny_standAt (wpAny_bind ?_))
  refine pop_wp hk kt (hL2 ep') lt (s3 ep') z3 I₂ (fun s₃ w I₃ ew => ?_) n3 he'
  exact wpAny_dropValue (wpAny_execs_nil ⟨_, I₃, h ep'⟩)
theorem TCall.on1 {env0 : Env} {m m1 : List (Str × Option Value)} {f : Addr} {fd : FuncData} {body : List Stmt} {a : Value} {p : Str} (o : C.Off) (hf : env0.frame = some env0.locals) (hk0 : env0.scope.kind = .function) (F : Fn C f fd) (Lm : Lim C) (hbody : fd.body = .stmts body) (hclo : fd.closure = [])
    (nd : (fd.scope.names.map (·.1)).Nodup) (hb : ∀ x, bindArgs fd ⟨[x], []⟩ = pure [(p, x)]) (hp : isPar fd p) (hc : cellNames fd = []) (hm : (locNames fd).map (fun n => (n, [(p, a)].reverse.lookup n)) = m1)
    (h : ∀ env, IsEnv fd f env → env.scope.kind = .function → TX (C.on env) d body env ((env.locals, .ns m1) :: H) fun fl H' => ∃ H₂, H₂.Sublist H' ∧ Q (retOf fl) ((env0.locals, .ns m) :: H₂))
    (hco : fd.scope.isCoroutine = false := by kernel_rfl) (hgen : fd.scope.isGenerator = false := by kernel_rfl) (hk : fd.scope.kind = .function := by kernel_rfl) : TCall (C.on env0) (d + 1) (.ref f) [a] ((env0.locals, .ns m) :: H) Q :=
  TCall.defOn (eb := [(p, a)]) o hf hk0 F Lm hbody hclo nd (fun xs ex => by
    obtain ⟨x, rfl, e⟩ := args1 ex
    refine ⟨_, hb x, by subst e; rfl, fun y hy => ?_⟩
    simp at hy; subst hy; exact hp) (fun env E => by
      have ec : env.cells = [] := by have := E.cells; rw [hc] at this; simpa using this
      unfold entryH
      rw [ec, hm]
      exact h env E (by rw [E.scope]; exact hk)) hco hgen hk
end
end Mine
end
section
open PySem PySem.Calls PyProof.Rows
set_option autoImplicit false
set_option linter.unusedVariables false
set_option maxRecDepth 100000
namespace Mine
noncomputable def cellE (xs : List (Str × Option Value)) (as : List Addr) : List (Str × Addr) := List.zipWith (fun p a => (p.1, a)) xs as
noncomputable def cellH (xs : List (Str × Option Value)) (as : List Addr) : SH := List.zipWith (fun p a => (a, AObj.cell p.2)) xs as
theorem cells_of {eb : List (Str × Value)} : ∀ {cs : List (Str × Addr)} {xs : List (Str × Option Value)}, cs.map (·.1) = xs.map (·.1) → (∀ p ∈ xs, eb.reverse.lookup p.1 = p.2) →
    ∃ as : List Addr, as.length = xs.length ∧ cs = cellE xs as ∧ (cs.map fun p => (p.2, AObj.cell (eb.reverse.lookup p.1))) = cellH xs as
  | [], [], _, _ => ⟨[], rfl, rfl, rfl⟩
  | [], _ :: _, h, _ => by cases h
  | _ :: _, [], h, _ => by cases h
  | (n, c) :: cs, (x, v) :: xs, h, hv => by
    rw [List.map_cons, List.map_cons] at h
    injection h with h1 h2
    obtain ⟨as, e1, e2, e3⟩ := cells_of h2 fun p hp => hv p (.tail _ hp)
    refine ⟨c :: as, by simp [e1], ?_, ?_⟩
    · have h1 : n = x := h1
      rw [h1, e2]; rfl
    · rw [List.map_cons, e3, show n = x from h1, hv (x, v) (.head _)]; rfl
/-- a def with cells: the frame and the cells written out; xs: the cells' names, the last first -/
theorem FnBody.cellsL {C : Cx} {d : Nat} {H : SH} {Q : Value → SH → Prop} {f : Addr} {fd : FuncData} {body : List Stmt} {eb : List (Str × Value)} {m : List (Str × Option Value)} (xs : List (Str × Option Value)) (hc : (cellNames fd).reverse = xs.map (·.1)) (hx : xs.map (fun p => eb.reverse.lookup p.1) = xs.map (·.2))
    (hm : (locNames fd).map (fun n => (n, eb.reverse.lookup n)) = m) (hk : fd.scope.kind = .function)
    (h : ∀ env (as : List Addr), as.length = xs.length → IsEnv fd f env → env.scope.kind = .function → env.cells = cellE xs as → TX C d body env ((env.locals, .ns m) :: (cellH xs as ++ H)) fun fl H' => ∃ H₂, H₂.Sublist H' ∧ Q (retOf fl) H₂) : FnBody C d fd f body eb H Q := fun env E => by
  have ec := E.cells
  rw [hc] at ec
  have hx' : ∀ p ∈ xs, eb.reverse.lookup p.1 = p.2 := fun p hp => by
    have := List.map_inj_left.mp hx p hp
    exact this
  obtain ⟨as, e1, e2, e3⟩ := cells_of (eb := eb) ec hx'
  unfold entryH
  rw [hm, e3]
  exact h env as e1 E (by rw [E.scope]; exact hk) e2
theorem IsEnv.entry {fd : FuncData} {f : Addr} {env : Env} (E : IsEnv fd f env) {eb : List (Str × Value)} {m : List (Str × Option Value)} (xs : List (Str × Option Value)) (hc : (cellNames fd).reverse = xs.map (·.1)) (hx : xs.map (fun p => eb.reverse.lookup p.1) = xs.map (·.2))
    (hm : (locNames fd).map (fun n => (n, eb.reverse.lookup n)) = m) (H : SH) : ∃ as : List Addr, as.length = xs.length ∧ env.cells = cellE xs as ∧ entryH fd env eb H = (env.locals, .ns m) :: (cellH xs as ++ H) := by
  have ec := E.cells
  rw [hc] at ec
  have hx' : ∀ p ∈ xs, eb.reverse.lookup p.1 = p.2 := fun p hp => by
    have := List.map_inj_left.mp hx p hp
    exact this
  obtain ⟨as, e1, e2, e3⟩ := cells_of (eb := eb) ec hx'
  refine ⟨as, e1, e2, ?_⟩
  unfold entryH
  rw [hm, e3]
theorem len1 {α : Type} {l : List α} (h : l.length = 1) : ∃ a, l = [a] := by
  match l, h with
  | [a], _ => exact ⟨a, rfl⟩
theorem len2 {α : Type} {l : List α} (h : l.length = 2) : ∃ a b, l = [a, b] := by
  match l, h with
  | [a, b], _ => exact ⟨a, b, rfl⟩
theorem len3 {α : Type} {l : List α} (h : l.length = 3) : ∃ a b c, l = [a, b, c] := by
  match l, h with
  | [a, b, c], _ => exact ⟨a, b, c, rfl⟩
theorem len5 {α : Type} {l : List α} (h : l.length = 5) : ∃ a b c d e, l = [a, b, c, d, e] := by
  match l, h with
  | [a, b, c, d, e], _ => exact ⟨a, b, c, d, e, rfl⟩
theorem sub_refl {α : Type} (l : List α) : l.Sublist l := List.Sublist.refl l
/-- the items of range(a, a + n) -/
theorem rng_item {a : Int} {n i : Nat} {u : Value} (h : (rngL a 1 n)[i]? = some u) : i < n ∧ u = .int (a + i) 0 := by
  have h1 := (List.getElem?_eq_some_iff.mp h).1
  have h1 : i < n := by simpa [rngL] using h1
  refine ⟨h1, ?_⟩
  simp [rngL, List.getElem?_range h1] at h
  exact h.symm
theorem intL_item {ns : List Int} {i : Nat} {u : Value} (h : (intL ns)[i]? = some u) : ∃ n, ns[i]? = some n ∧ u = .int n 0 ∧ i < ns.length ∧ ns.take (i + 1) = ns.take i ++ [n] ∧ n ∈ ns := by
  unfold intL at h
  rw [List.getElem?_map] at h
  cases q : ns[i]? with
  | none => rw [q] at h; cases h
  | some n =>
    rw [q] at h
    refine ⟨n, rfl, (Option.some.inj h).symm, (List.getElem?_eq_some_iff.mp q).1, ?_, List.mem_of_getElem? q⟩
    rw [List.take_add_one, q]; rfl
end Mine
end
section
open PySem PySem.Calls PyProof.Rows
set_option autoImplicit false
set_option linter.unusedVariables false
set_option linter.unusedSimpArgs false
namespace Mine
section
variable {C : Cx} {d : Nat} {env : Env} {H : SH} {QF : Flow → SH → Prop}
/-- what the inner for of a comprehension of two asks -/
inductive CompIn (C : Cx) (d : Nat) (elt : Expr) (y1 y2 : Str) (cenv : Env) (u : Value) (o2 : Option Value) (acc : List Value) (J' : List Value → SH → Prop) (v2 : Value) (H₂ : SH) : Prop
  | mk (Hi2 : SH) (hp : H₂.Perm ((cenv.locals, .ns [(y1, some u), (y2, o2)]) :: Hi2)) (items2 : List Value) (K2 : SH → Prop) (it2 : Iter C v2 items2 K2)
      (J2 : Nat → List Value → SH → Prop) (j0 : J2 0 acc Hi2) (jk : ∀ k acc Hk, J2 k acc Hk → K2 Hk ∧ acc.length ≤ sizeLine)
      (turn : ∀ k w acc' Hk, items2[k]? = some w → J2 k acc' Hk → TE C d elt cenv ((cenv.locals, .ns [(y1, some u), (y2, some w)]) :: Hk) fun x H₄ => ∃ Hk', H₄ = (cenv.locals, .ns [(y1, some u), (y2, some w)]) :: Hk' ∧ J2 (k + 1) (acc' ++ [x]) Hk')
      (fin : ∀ acc' Hk, J2 items2.length acc' Hk → ∃ Hk', Hk'.Sublist Hk ∧ J' acc' Hk') : CompIn C d elt y1 y2 cenv u o2 acc J' v2 H₂
inductive Comp2Ok (C : Cx) (d : Nat) (env : Env) (elt : Expr) (y1 y2 : Str) (iter2 : Expr) (scope : Scope) (cl : List (Str × Addr)) (F : Addr → SH → Prop) (v : Value) (H : SH) : Prop
  | mk (items : List Value) (K : SH → Prop) (it : Iter C v items K) (J : Nat → List Value → SH → Prop) (j0 : J 0 [] H) (jk : ∀ i acc Hi, J i acc Hi → K Hi)
      (turn : ∀ cenv, IsComp scope env cl cenv → ∀ i u o2 acc Hi, items[i]? = some u → J i acc Hi →
        TE C d iter2 cenv ((cenv.locals, .ns [(y1, some u), (y2, o2)]) :: Hi) fun v2 H₂ => CompIn C d elt y1 y2 cenv u o2 acc (J (i + 1)) v2 H₂)
      (fin : ∀ acc Hn, J items.length acc Hn → ∀ l, F l ((l, .list acc) :: Hn)) : Comp2Ok C d env elt y1 y2 iter2 scope cl F v H
section
variable {elt iter iter2 : Expr} {y1 y2 : Str} {p1 p2 : Pos} {scope : Scope} {pos : Pos} {cenv : Env} {l : Addr} {u : Value} {o2 : Option Value} {acc : List Value}
end
theorem TX.drop1 {ss : List Stmt} {x : Addr × AObj} {Q : Flow → SH → Prop} (h : TX C d ss env H Q) : TX C d ss env (x :: H) Q := T.drop (List.sublist_cons_self _ _) h
theorem TB.val {e : Expr} {Q : Bool → SH → Prop} (v0 : Bool) (h1 : TB C d e env H fun v H' => v = v0 ∧ H.Sublist H') (h2 : Q v0 H) : TB C d e env H Q :=
  T.post (T.mono h1 fun v H' ⟨a, b⟩ => ⟨H, b, by rw [a]; exact h2⟩)
end
end Mine
end
section
open PySem PySem.Calls PyProof.Rows PySem.W
open Builtin Builtin.ObjectAttr
set_option autoImplicit false
set_option linter.unusedVariables false
set_option maxRecDepth 100000
namespace Mine
theorem lk_fn_get : typeLookup (.type "function") "__get__" = pure (some (.builtin "function.__get__")) := by rw [typeLookup_type, builtinLookup_eq_fast]; kernel_rfl
theorem lk_fn_set : typeLookup (.type "function") "__set__" = pure none := by rw [typeLookup_type, builtinLookup_eq_fast]; kernel_rfl
theorem lk_fn_del : typeLookup (.type "function") "__delete__" = pure none := by rw [typeLookup_type, builtinLookup_eq_fast]; kernel_rfl
section
variable {prog : Program} {w : World} {A : Around} {E : Value → Shared → Prop} {h : Heap} {g : Array GenState} {d : Drawn} {t : Nat} {os : OsState}
variable {nm q : Str} {C N x f : Addr} {bs : List Value} {sn : List Str} {sub : List Value} {ab : Bool} {col : Option Bool} {dd : Option Addr} {k0 k1 k2 k3 k5 : Option Value} {newId : String}
  {mN mA : Str → Option Value} {name : Str} {of : Obj}
theorem fn_bind {v : Value} {R : Result → Shared → Prop} (hfo : h.get? f = some of) (hfc : of.cls = .type "function")
    (hq : R (.ok (.ret (.ref h.objs.size))) ⟨h.push (methodObj (.ref f) (.ref x)), g, d, t, os⟩) : codeAny (model prog w) A (.call (.builtin "function.__get__") ⟨[.ref f, .ref x, v], []⟩) R ⟨h, g, d, t, os⟩ := by
  refine codeAny_call_builtin KF.slot_fn.plain KF.entry_fn (KF.slot_fn.check _ _ _ _ _ _ _ _ ⟨_, hfo, hfc⟩ (KF.args_fn _ _ _) ?_)
  repeat k_node
  exact hq
set_option maxHeartbeats 1000000 in
theorem bound_entry {tk : Tok} {Q : Fin → Shared → Prop} {y : Option Value}
    (hC : h.get? C = some (excClassObj nm q C N bs [.type "object"] true sn sub ab col dd k0 k1 k2 k3 k5 newId)) (hn : h.Ns N mN) (hf : mN name = some (.ref f)) (hfo : h.get? f = some of) (hfc : of.cls = .type "function") (hgh : mN "__getattr__" = none)
    (hB : typeLookup (.type "object") name = pure y) (I : h.Inst x C mA) (hv : mA name = none) (hcp : ([Str.ofString "__module__", Str.ofString "__name__", Str.ofString "__qualname__", Str.ofString "__doc__", Str.ofString "__annotations__"] : List Str).contains name = false) (hq : Q (.done (.ret (.ref h.objs.size))) ⟨h.push (methodObj (.ref f) (.ref x)), g, d, t, os⟩) :
    wpAny (model prog w) A (Builtin.«proto.getattr_hooked» ⟨[.ref x, .str name tk], []⟩) Q E ⟨h, g, d, t, os⟩ := by
  obtain ⟨o, hx, hc, hnc, hd⟩ := I
  have l1 := lk_fn_get
  have l2 := lk_fn_set
  have l3 := lk_fn_del
  have hfT : (⟨h, g, d, t, os⟩ : Shared).TypeIs (.ref f) "function" := ⟨_, hfo, hfc⟩
  unfold Builtin.«proto.getattr_hooked»
  repeat (first | (with_reducible refine wpAny_loadPart_at hx ?_; rw [hc]) | (with_reducible refine wpAny_loadPart_at hfo ?_; rw [hfc]) | (with_reducible refine wpAny_typeLookup_exc hC hn F.mro_object F.lk_object_getattr ?_; rw [hgh]) | (with_reducible refine wpAny_typeLookup_exc hC hn F.mro_object hB ?_; rw [hf]) | wp_step | dsimp only)
  split
  · rename_i c hcd
    exact absurd hcd (hnc c)
  unfold instanceDict
  repeat (first | (with_reducible refine wpAny_loadPart_at hx ?_; rw [hc]) | with_reducible refine wpAny_loadPart_at hC ?_ | wp_step)
  rcases hd with ⟨hdn, _⟩ | ⟨dx, hdx, _, hns⟩
  · rw [hdn]
    repeat wp_step
    rw [if_neg (by rw [hcp]; decide)]
    repeat (first | (with_reducible refine wpAny_loadPart_at hx ?_; rw [hc]) | (with_reducible refine wpAny_typeLookup_exc hC hn F.mro_object F.lk_object_getattr ?_; rw [hgh]) | wp_step | dsimp only)
    exact fn_bind hfo hfc (wpAny_pure hq)
  · rw [hdx]
    repeat (first | (with_reducible refine wpAny_nsGet hns.ns ?_; rw [hv]) | wp_step)
    rw [if_neg (by rw [hcp]; decide)]
    repeat (first | (with_reducible refine wpAny_loadPart_at hx ?_; rw [hc]) | (with_reducible refine wpAny_typeLookup_exc hC hn F.mro_object F.lk_object_getattr ?_; rw [hgh]) | wp_step | dsimp only)
    exact fn_bind hfo hfc (wpAny_pure hq)
set_option maxHeartbeats 1000000 in
theorem bound_load {expr : Bool} {Q : Value → Shared → Prop} {y : Option Value}
    (hC : h.get? C = some (excClassObj nm q C N bs [.type "object"] true sn sub ab col dd k0 k1 k2 k3 k5 newId)) (hn : h.Ns N mN) (hng : mN "__getattribute__" = none) (hf : mN name = some (.ref f)) (hfo : h.get? f = some of) (hfc : of.cls = .type "function") (hgh : mN "__getattr__" = none)
    (hB : typeLookup (.type "object") name = pure y) (I : h.Inst x C mA) (hv : mA name = none) (hcp : ([Str.ofString "__module__", Str.ofString "__name__", Str.ofString "__qualname__", Str.ofString "__doc__", Str.ofString "__annotations__"] : List Str).contains name = false)
    (hq : Q (.ref h.objs.size) ⟨h.push (methodObj (.ref f) (.ref x)), g, d, t + 1, os⟩) : wpAny (model prog w) A (getAttr (.ref x) name expr) Q E ⟨h, g, d, t, os⟩ := by
  obtain ⟨o, hx, hc, _⟩ := id I
  unfold getAttr getAttrBy
  repeat (first | (with_reducible refine wpAny_loadPart_at hx ?_; rw [hc]) | (with_reducible refine wpAny_typeLookup_exc hC hn F.mro_object F.lk_object_ga ?_; rw [hng]) | wp_step)
  show wpAny _ _ ((runValue (.builtin "proto.getattr_hooked" ⟨[.ref x, .str name t], []⟩)).onRaise (noteIf true (.ref x) (.str name t))) _ _ _
  refine wpAny_onRaise (wpAny_runValue (codeAny_builtin F.plainObj_entry_getattr_hooked (bound_entry hC hn hf hfo hfc hgh hB I hv hcp ?_)))
  show wpAny _ _ (handedOut _) _ _ _
  rw [handed (v := .ref h.objs.size) (by intro b q; cases q)]
  exact wpAny_pure hq
end
/-- a method bound to its object -/
noncomputable def bmO (f x : Addr) : AObj := .objp fun o => o = methodObj (.ref f) (.ref x)
section
variable {C : Cx} {d : Nat} {env : Env} {H : SH} {Q : Value → SH → Prop}
theorem TAt.bound {x dx Cl N f : Addr} {fd : FuncData} {mN : Str → Option Value} {m : List (Str × Option Value)} {name : Str} {y : Option Value} (X : Cls C Cl N mN) (F : Fn C f fd) (hfc : ∀ o, C.h0.get? f = some o → o.cls = .type "function")
    (hx : Has x (instO Cl dx) H) (hm : Has dx (attO m) H) (hf : mN name = some (.ref f)) (hng : mN "__getattribute__" = none) (hnh : mN "__getattr__" = none) (hsh : name ∉ m.map (·.1)) (hB : typeLookup (.type "object") name = pure y)
    (hcp : ([Str.ofString "__module__", Str.ofString "__name__", Str.ofString "__qualname__", Str.ofString "__doc__", Str.ofString "__annotations__"] : List Str).contains name = false)
    (h : ∀ b, Q (.ref b) ((b, bmO f x) :: H)) : TAt C d (.ref x) name H Q := fun z ez Φ A s b I => by
  cases er_ref ez
  obtain ⟨mA, hI, _, nd, h1, h2⟩ := Has.inst hx hm I
  obtain ⟨⟨nm, q, bs, sn, sub, col, dd, k0, k1, k2, k3, k5, hC⟩, hn⟩ := X.at I
  obtain ⟨of, hfo, hdat⟩ := F.at'
  obtain ⟨hh, g, dr, t, os⟩ := s
  refine bound_load hC hn hng hf (I.keep _ _ hfo F.out) (hfc _ hfo) hnh hB hI (h2 _ hsh) hcp ⟨_, ?_, h _⟩
  have I1 : Inv C (((hh.objs.size, bmO f x) :: H) ++ Φ) ⟨hh.push (methodObj (.ref f) (.ref x)), g, dr, t, os⟩ :=
    Inv.alloc (x := bmO f x) (o := methodObj (.ref f) (.ref x)) I ⟨_, Heap.get?_push_at rfl rfl, rfl⟩ rfl
  exact I1.tok rfl rfl rfl
theorem KeepOk.bm {b f x : Addr} {fd : FuncData} (F : Fn C f fd) (hb : Has b (bmO f x) H) : KeepOk C (.ref b) H := fun Φ A s I => by
  obtain ⟨o, ho, rfl⟩ := hb.rep I
  obtain ⟨of, hfo, hdat⟩ := F.at'
  unfold keeperOf
  refine wpAny_bind (wpAny_load ho ?_)
  show wpAny _ _ (load f >>= _) _ _ _
  refine wpAny_bind (wpAny_load (I.keep _ _ hfo F.out) ?_)
  rw [hdat]
  exact wpAny_pure rfl
theorem TCall.bm {b f x : Addr} {as : List Value} (hb : Has b (bmO f x) H) (h : TCallC C d (.ref f) (.ref x :: as) H Q) : TCall C d (.ref b) as H Q := fun xs ex Φ A s bd I => by
  obtain ⟨o, ho, rfl⟩ := hb.rep I
  exact wpAny_call (method_call ho (h (.ref x :: xs) (by rw [List.map_cons, ex]; rfl) Φ A s bd I))
/-- a method called with a star among its arguments -/
theorem TE.methStar {o : Expr} {name : Str} {apos : Pos} {args : List Expr} {pos : Pos} (h : TE C d o env H fun v H₁ => TAt C d v name H₁ fun f H₂ => TArgs C d pos args env H₂ fun as H₃ => CallOk C d f as H₃ Q)
    (hl : oneStar (starEach args env) = false := by rfl)
    (he : eval (.Call (.Attribute o name apos) args [] pos) env = (do
      let ov ← eval o env
      standAt apos.atName
      let (f, first) ← holding [ov] (do pure (← getAttr ov name true, ([] : List Value)))
      let p ← (pure pos : Sem Pos)
      PySem.callWith p f first (backTo pos (starEach args env)) []) := by rfl) : TE C d (.Call (.Attribute o name apos) args [] pos) env H Q := fun Φ A s b I => by
  rw [he]
  refine wpAny_bind (T.run h b I fun v s₁ H₁ I₁ h₁ => ?_)
  refine wpAny_bind (wpAny_standAt (wpAny_bind (wpAny_holding (wpAny_bind (T.run (h₁ v rfl) b I₁ fun f s₂ H₂ I₂ h₂ => wpAny_pure ?_)))))
  refine wpAny_bind (wpAny_pure ?_)
  exact T.callWith (Q := fun v => Q (er v)) (T.evalArgs (oneStar_back hl) (T.mono h₂ fun vs H₃ ⟨hf, hk, hc⟩ => by
    have e := hf f rfl
    rw [← e] at hk hc
    exact ⟨rfl, hk, hc vs rfl⟩)) Φ A s₂ b I₂
end
/-- a list that stood when the law was called -/
noncomputable def OldL (C : Cx) (l : Addr) (xs : List Value) : Prop := l ∉ C.tabs ∧ ∃ vs : Array Value, C.h0.IsList l vs ∧ vs.toList.map er = xs
theorem OldL.on {C : Cx} {l : Addr} {xs : List Value} {env : Env} (O : OldL C l xs) : OldL (C.on env) l xs := O
section
variable {C : Cx} {d : Nat} {env : Env} {H : SH} {Q : Value → SH → Prop}
theorem OldL.isList {l : Addr} {xs : List Value} {K : SH} {s : Shared} (O : OldL C l xs) (I : Inv C K s) : ∃ vs : Array Value, s.heap.IsList l vs ∧ vs.toList.map er = xs := by
  obtain ⟨ht, vs, ⟨o, ho, hc, n, hd⟩, e⟩ := O
  exact ⟨vs, ⟨o, I.keep _ _ ho ht, hc, n, hd⟩, e⟩
theorem TGet.oldCut {l sl : Addr} {xs : List Value} {lo hi : Option Nat} (O : OldL C l xs) (hs : Has sl (slc (natPart lo) (natPart hi)) H) (hz : xs.length ≤ sizeLine) (h : ∀ r, Q (.ref r) ((r, .list (cut lo hi xs)) :: H)) : TGet C d (.ref l) (.ref sl) H Q := fun x y ex ey => by
  cases er_ref ex; cases er_ref ey
  refine ⟨"list", _, slot_list_getitem.lookup, fun Φ s I => (let ⟨vs, il, _⟩ := O.isList I; il.typeIs), fun Φ A s b I => ?_⟩
  obtain ⟨vs, il, e⟩ := O.isList I
  obtain ⟨o, ho, hc, vl, vu, hd, e1, e2⟩ := hs.rep I
  refine wpAny_getItem_list_slice il ⟨o, ho, hc, hd⟩ (natPart_val e1).1 (natPart_val e2).1 .none (by simp) ⟨_, I.alloc (x := .list (cut lo hi xs)) ⟨_, _, Heap.get?_push_size _ rfl, ?_⟩ rfl, h _⟩ (by rw [map_size e]; exact hz)
  rw [pick_nat, ← e]
  simp
  cases lo <;> cases hi <;> simp [cut]
end
end Mine
end
section
open PySem PySem.W PySem.Calls PyProof.Rows
set_option autoImplicit false
set_option linter.unusedVariables false
set_option maxRecDepth 100000
namespace Mine
-- what is looked at behind the top, and what it is
noncomputable def funOf (dt : Data) : Option FuncData := match dt with | .func fd => some fd | _ => none
noncomputable def fldOf (dt : Data) : Option (Array Value) := match dt with | .fields vs => some vs | _ => none
noncomputable def dicOf (dt : Data) : Option (Array DictEntry × Nat) := match dt with | .dict es ep => some (es, ep) | _ => none
theorem funOf_eq {dt : Data} {x : FuncData} (q : funOf dt = some x) : dt = .func x := by cases dt <;> first | (cases q; done) | (cases q; rfl)
theorem fldOf_eq {dt : Data} {x : Array Value} (q : fldOf dt = some x) : dt = .fields x := by cases dt <;> first | (cases q; done) | (cases q; rfl)
theorem dicOf_eq {dt : Data} {x : Array DictEntry × Nat} (q : dicOf dt = some x) : dt = .dict x.1 x.2 := by cases dt <;> first | (cases q; done) | (cases q; rfl)
noncomputable def funAtH (h : Heap) (a : Addr) : Option FuncData := (h.get? a).bind fun o => funOf o.data
noncomputable def strOf (v : Value) : Option Str := match v with | .str q _ => some q | _ => none
theorem strOf_eq {v : Value} {x : Str} (q : strOf v = some x) : ∃ t, v = .str x t := by cases v <;> first | (cases q; done) | (cases q; exact ⟨_, rfl⟩)
noncomputable def strPart (v : Option Value) : Option Str := v.bind strOf
noncomputable def qualAtH (h : Heap) (a : Addr) : Option Str := (h.get? a).bind fun o => (fldOf o.data).bind fun vs => strPart vs[1]?
noncomputable def clsAtH (h : Heap) (a : Addr) : Option Value := (h.get? a).map (·.cls)
noncomputable def strKeysB (es : Array DictEntry) : Bool := es.toList.all fun e => match e.key with | .str _ _ => true | _ => false
noncomputable def nsAtH (h : Heap) (a : Addr) (xs : List Str) : Option (Bool × List (Option Value)) := (h.get? a).bind fun o => (dicOf o.data).bind fun p => some (strKeysB p.1, xs.map (nsFind p.1))
structure Look where
  fns : List (Addr × FuncData)
  quals : List (Addr × Str)
  clss : List (Addr × Value)
  nss : List (Addr × List (Str × Option Value))
  objs : List (Addr × Obj)
  flds : List (Addr × Nat × Value)
noncomputable def fldAtH (h : Heap) (a : Addr) (i : Nat) : Option Value := (h.get? a).bind fun o => (fldOf o.data).bind fun vs => vs[i]?
noncomputable def Look.obs (L : Look) (h : Heap) : List (Option FuncData) × List (Option Str) × List (Option Value) × List (Option (Bool × List (Option Value))) × List (Option Obj) × List (Option Value) :=
  (L.fns.map fun p => funAtH h p.1, L.quals.map fun p => qualAtH h p.1, L.clss.map fun p => clsAtH h p.1, L.nss.map fun p => nsAtH h p.1 (p.2.map (·.1)), L.objs.map fun p => h.get? p.1, L.flds.map fun p => fldAtH h p.1 p.2.1)
noncomputable def Look.val (L : Look) : List (Option FuncData) × List (Option Str) × List (Option Value) × List (Option (Bool × List (Option Value))) × List (Option Obj) × List (Option Value) :=
  (L.fns.map fun p => some p.2, L.quals.map fun p => some p.2, L.clss.map fun p => some p.2, L.nss.map fun p => some (true, p.2.map (·.2)), L.objs.map fun p => some p.2, L.flds.map fun p => some p.2.2)
structure Look.Says (L : Look) (h : Heap) : Prop where
  fns : ∀ p ∈ L.fns, ∃ o, h.get? p.1 = some o ∧ o.data = .func p.2
  quals : ∀ p ∈ L.quals, ∃ o vs t, h.get? p.1 = some o ∧ o.data = .fields vs ∧ vs[1]? = some (.str p.2 t)
  clss : ∀ p ∈ L.clss, ∃ o, h.get? p.1 = some o ∧ o.cls = p.2
  nss : ∀ p ∈ L.nss, ∃ m, h.Ns p.1 m ∧ ∀ q ∈ p.2, m q.1 = q.2
  objs : ∀ p ∈ L.objs, h.get? p.1 = some p.2
  flds : ∀ p ∈ L.flds, ∃ o vs, h.get? p.1 = some o ∧ o.data = .fields vs ∧ vs[p.2.1]? = some p.2.2
theorem strKeys_of {es : Array DictEntry} (h : strKeysB es = true) : StrKeys es := fun e he => by
  have := List.all_eq_true.mp h e (by simpa using he)
  cases k : e.key <;> rw [k] at this <;> first | (cases this; done) | exact ⟨_, _, rfl⟩
theorem Look.says_of (L : Look) (h : Heap) (e : L.obs h = L.val) : L.Says h := by
  obtain ⟨e1, e⟩ := Prod.mk.inj e
  obtain ⟨e2, e⟩ := Prod.mk.inj e
  obtain ⟨e3, e⟩ := Prod.mk.inj e
  obtain ⟨e4, e⟩ := Prod.mk.inj e
  obtain ⟨e5, e6⟩ := Prod.mk.inj e
  refine ⟨fun p hp => ?_, fun p hp => ?_, fun p hp => ?_, fun p hp => ?_, fun p hp => List.map_inj_left.mp e5 p hp, fun p hp => ?_⟩
  · obtain ⟨o, ho, q⟩ := Option.bind_eq_some_iff.mp (show funAtH h p.1 = some p.2 from List.map_inj_left.mp e1 p hp)
    exact ⟨o, ho, funOf_eq q⟩
  · obtain ⟨o, ho, q⟩ := Option.bind_eq_some_iff.mp (show qualAtH h p.1 = some p.2 from List.map_inj_left.mp e2 p hp)
    obtain ⟨vs, d, q⟩ := Option.bind_eq_some_iff.mp q
    obtain ⟨v, hv, q⟩ := Option.bind_eq_some_iff.mp q
    obtain ⟨t, rfl⟩ := strOf_eq q
    exact ⟨o, vs, t, ho, fldOf_eq d, hv⟩
  · obtain ⟨o, ho, q⟩ := Option.map_eq_some_iff.mp (show clsAtH h p.1 = some p.2 from List.map_inj_left.mp e3 p hp)
    exact ⟨o, ho, q⟩
  · obtain ⟨o, ho, q⟩ := Option.bind_eq_some_iff.mp (show nsAtH h p.1 (p.2.map (·.1)) = some (true, p.2.map (·.2)) from List.map_inj_left.mp e4 p hp)
    obtain ⟨d, hd, q⟩ := Option.bind_eq_some_iff.mp q
    obtain ⟨q1, q2⟩ := Prod.mk.inj (Option.some.inj q)
    refine ⟨nsFind d.1, ⟨o, d.1, d.2, ho, dicOf_eq hd, strKeys_of q1, fun _ => rfl⟩, fun x hx => ?_⟩
    rw [List.map_map] at q2
    exact List.map_inj_left.mp q2 x hx
  · obtain ⟨o, ho, q⟩ := Option.bind_eq_some_iff.mp (show fldAtH h p.1 p.2.1 = some p.2.2 from List.map_inj_left.mp e6 p hp)
    obtain ⟨vs, d, q⟩ := Option.bind_eq_some_iff.mp q
    exact ⟨o, vs, ho, fldOf_eq d, q⟩
theorem Look.keeps (L : Look) (h h' : Heap) (S : L.Says h) (k : ∀ b o, h.get? b = some o → h'.get? b = some o) : L.Says h' where
  fns p hp := (S.fns p hp).elim fun o z => ⟨o, k _ _ z.1, z.2⟩
  quals p hp := by
    obtain ⟨o, vs, t, a, b⟩ := S.quals p hp
    exact ⟨o, vs, t, k _ _ a, b⟩
  clss p hp := (S.clss p hp).elim fun o z => ⟨o, k _ _ z.1, z.2⟩
  nss p hp := (S.nss p hp).elim fun m z => ⟨m, z.1.keeps k, z.2⟩
  objs p hp := k _ _ (S.objs p hp)
  flds p hp := by
    obtain ⟨o, vs, a, b⟩ := S.flds p hp
    exact ⟨o, vs, k _ _ a, b⟩
noncomputable def Look.hook (L : Look) : Hook where
  α := _
  obs s := L.obs s.heap
  val _ := L.val
  says _ h := L.Says h
  of _ s e := L.says_of s.heap e
  keeps _ h h' S k := L.keeps h h' S k
theorem Look.hook_says {L : Look} {w : World} {h : Heap} (S : L.hook.says w h) : L.Says h := S
theorem Heap.Ns.same {h : Heap} {a : Addr} {m m' : Str → Option Value} (N : h.Ns a m) (N' : h.Ns a m') (x : Str) : m x = m' x := by
  obtain ⟨o, es, ep, h1, h2, _, h3⟩ := N
  obtain ⟨o', es', ep', g1, g2, _, g3⟩ := N'
  rw [h1] at g1
  cases g1
  rw [h2] at g2
  cases g2
  rw [← h3, ← g3]
/-- the context where the law is called -/
structure AtTop (L : Look) (C : Cx) (tb : List Addr) : Prop where
  X : L.Says C.h0
  tabs : C.tabs = tb
  ex : ∃ mg mb, Names C mg mb ∧ ∀ x : Str, x ≠ "__name__" → mb x = bootBuiltins x
section
variable {L : Look} {C : Cx} {tb : List Addr} (A : AtTop L C tb)
include A
theorem AtTop.notab {a : Addr} (h : tb.contains a = false := by decide) : a ∉ C.tabs := by rw [A.tabs]; intro q; have := List.contains_iff_mem.mpr q; rw [h] at this; cases this
theorem AtTop.low (h : tb.all (fun t => decide (200 ≤ t)) = true) {a : Addr} (ha : a < 200) : a ∉ C.tabs := by rw [A.tabs]; intro q; have := of_decide_eq_true (List.all_eq_true.mp h a q); lia
theorem AtTop.glob {x : Str} {v : Option Value} (i j : Nat) {q : List (Str × Option Value)} (hi : L.nss[i]? = some (mainGlobals, q)) (hj : q[j]? = some (x, v)) {mg : Str → Option Value} (N : C.h0.Ns mainGlobals mg) : mg x = v := by
  obtain ⟨m, M, e⟩ := A.X.nss _ (List.mem_of_getElem? hi)
  rw [Heap.Ns.same N M]
  exact e _ (List.mem_of_getElem? hj)
theorem AtTop.top {x : Str} {u v : Value} (i j : Nat) {q : List (Str × Option Value)} (hi : L.nss[i]? = some (mainGlobals, q)) (hj : q[j]? = some (x, some u)) (hu : er u = v) : Nm C x v := by
  obtain ⟨mg, mb, N, _⟩ := A.ex
  exact ⟨mg, mb, N, .inl ⟨u, A.glob i j hi hj N.g, hu⟩⟩
theorem AtTop.blt {x : Str} {v : Value} (i j : Nat) {q : List (Str × Option Value)} (hi : L.nss[i]? = some (mainGlobals, q)) (hj : q[j]? = some (x, none)) (hx : x ≠ "__name__") (hb : bootBuiltins x = some v) : Nm C x v := by
  obtain ⟨mg, mb, N, h2⟩ := A.ex
  exact ⟨mg, mb, N, .inr ⟨A.glob i j hi hj N.g, by rw [h2 x hx, hb]⟩⟩
theorem AtTop.fn {f c : Addr} {fd : FuncData} {q : Str} (i j : Nat) (h1 : L.fns[i]? = some (f, fd)) (h2 : fd.code = .ref c) (h3 : L.quals[j]? = some (c, q)) (h4 : fd.qualname = q) (hf : tb.contains f = false := by decide) (hc : tb.contains c = false := by decide) : Fn C f fd := by
  refine ⟨A.X.fns _ (List.mem_of_getElem? h1), A.notab hf, ?_, fun c' e => by rw [h2] at e; cases e; exact A.notab hc⟩
  obtain ⟨o, vs, t, g1, g2, g3⟩ := A.X.quals _ (List.mem_of_getElem? h3)
  exact ⟨c, o, vs, t, h2, g1, g2, by rw [h4]; exact g3⟩
theorem AtTop.get {a : Addr} {o : Obj} (i : Nat) (h : L.objs[i]? = some (a, o)) : C.h0.get? a = some o := A.X.objs _ (List.mem_of_getElem? h)
theorem AtTop.ns {a : Addr} (i : Nat) {q : List (Str × Option Value)} (h : L.nss[i]? = some (a, q)) : ∃ m, C.h0.Ns a m ∧ ∀ (j : Nat) (x : Str) (v : Option Value), q[j]? = some (x, v) → m x = v := by
  obtain ⟨m, M, e⟩ := A.X.nss _ (List.mem_of_getElem? h)
  exact ⟨m, M, fun j x v hj => e _ (List.mem_of_getElem? hj)⟩
theorem AtTop.fcls {a : Addr} {v : Value} (i : Nat) (h : L.clss[i]? = some (a, v)) : ∀ o, C.h0.get? a = some o → o.cls = v := fun o ho => by
  obtain ⟨o', h1, h2⟩ := A.X.clss _ (List.mem_of_getElem? h)
  rw [ho] at h1
  cases h1
  exact h2
end
end Mine
end
section
open PySem PySem.Calls PyProof.Rows
set_option autoImplicit false
set_option linter.unusedVariables false
set_option linter.unusedSimpArgs false
set_option maxRecDepth 100000
namespace Mine
open PySem.Challenge
theorem s_back : Str.ofString "\\" = S [92] := by decide +kernel
theorem s_open : Str.ofString "(" = S [40] := by decide +kernel
theorem s_close : Str.ofString ")" = S [41] := by decide +kernel
theorem s_mark : Str.ofString "\"" = S [34] := by decide +kernel
theorem s_nil : Str.ofString "" = S [] := by decide +kernel
noncomputable def subAt (ss : List Stmt) (i : Nat) : Stmt := ss.getD i (.Pass ⟨0, 0, 0, 0⟩)
noncomputable def clsBody : Stmt → List Stmt
  | .ClassDef _ _ _ b .. => b
  | _ => []
noncomputable def tgtOf : Stmt → Expr
  | .For t _ _ _ _ => t
  | _ => default
noncomputable def loopOf : Stmt → List Stmt
  | .For _ _ b _ _ => b
  | .While _ b _ _ => b
  | _ => []
theorem TSeq.cons {C : Cx} {d : Nat} {env : Env} {x : Str} {p : Pos} {es : List Expr} {v : Value} {vs : List Value} {H : SH} {Q : SH → Prop} (h : StoP env x v H fun H' => TSeq C d env es vs H' Q) : TSeq C d env (.Name x p :: es) (v :: vs) H Q := match h with | ⟨_, a, b⟩ => .more a b
theorem TSeq.nil {C : Cx} {d : Nat} {env : Env} {H : SH} {Q : SH → Prop} (h : Q H) : TSeq C d env [] [] H Q := .done h
theorem GenOut.step {C : Cx} {dd : Nat} {us : List Value} {r' : List (List Value)} {tp : Addr} {l : List Value} {kk : Resume → Sem Fin} {c' : Code} {p : Pos} {fs' : List Frame} {X' : SH}
    (h : GenAt C dd r' c' (kk (.send .none)) fs' X') : GenOut C dd (us :: r') (.susp (.ref tp) false l kk c' p fs') ((tp, .tup us) :: X') := ⟨tp, l, kk, c', p, fs', X', rfl, rfl, h⟩
section
variable {C : Cx} {d : Nat} {rest : List Stmt} {env : Env} {QF : Flow → SH → Prop} {H : SH}
theorem TX.drop {ss : List Stmt} {H' : SH} (p : H'.Sublist H) (h : TX C d ss env H' QF) : TX C d ss env H QF := T.drop p h
theorem TX.perm {ss : List Stmt} {H' : SH} (p : H.Perm H') (h : TX C d ss env H' QF) : TX C d ss env H QF := T.perm p h
theorem thenX.next (h : TX C d rest env H QF) : thenX C d rest env QF .next H := h
theorem thenX.ret {v : Value} (h : QF (.ret v) H) : thenX C d rest env QF (.ret v) H := h
theorem thenX.brk (h : QF .brk H) : thenX C d rest env QF .brk H := h
theorem thenX.cont (h : QF .cont H) : thenX C d rest env QF .cont H := h
end
theorem sz {n : Nat} (h : Nat.ble n sizeLine = true) : n ≤ sizeLine := Nat.le_of_ble_eq_true h
theorem Fn.ok {C : Cx} {H : SH} {f : Addr} {fd : FuncData} (F : Fn C f fd) : KeepOk C (.ref f) H := let ⟨_, h1, h2⟩ := F.at'; KeepOk.func h1 h2 F.out
theorem Fn.go {C : Cx} {H : SH} {f : Addr} {fd : FuncData} {d : Nat} {as : List Value} {Q : Value → SH → Prop} (F : Fn C f fd) (h : TCall C d (.ref f) as H Q) : CallOk C d (.ref f) as H Q := ⟨Fix.ref, F.ok, h⟩
theorem TPart.some {C : Cx} {d : Nat} {e : Expr} {env : Env} {H : SH} {Q : Value → SH → Prop} (h : TE C d e env H Q) : TPart C d (some e) env H Q := h
theorem TPart.none {C : Cx} {d : Nat} {env : Env} {H : SH} {Q : Value → SH → Prop} (h : Q .none H) : TPart C d none env H Q := h
theorem TCall.mono {C : Cx} {d : Nat} {f : Value} {as : List Value} {H : SH} {Q Q' : Value → SH → Prop} (h : TCall C d f as H Q) (hq : ∀ v H', Q v H' → Q' v H') : TCall C d f as H Q' := fun xs e => T.mono (h xs e) fun v H' q => hq _ _ q
theorem TCall.postPerm {C : Cx} {d : Nat} {f : Value} {as : List Value} {H : SH} {Q : Value → SH → Prop} (h : TCall C d f as H fun v H' => ∃ H₁, H'.Perm H₁ ∧ Q v H₁) : TCall C d f as H Q := fun xs e => T.postPerm (T.mono (h xs e) fun v H' q => q)
theorem o_1 : ∃ y, typeLookup (.type "object") "node" = pure y := ⟨none, by rw [typeLookup_type, builtinLookup_eq_fast]; kernel_rfl⟩
theorem lk_a1 : typeLookup (.type "object") "_node2info" = pure none := by rw [typeLookup_type, builtinLookup_eq_fast]; kernel_rfl
theorem lk_a2 : typeLookup (.type "object") "_ready_nodes" = pure none := by rw [typeLookup_type, builtinLookup_eq_fast]; kernel_rfl
theorem lk_a3 : typeLookup (.type "object") "_npassedout" = pure none := by rw [typeLookup_type, builtinLookup_eq_fast]; kernel_rfl
theorem lk_a4 : typeLookup (.type "object") "_nfinished" = pure none := by rw [typeLookup_type, builtinLookup_eq_fast]; kernel_rfl
theorem lk_m1 : typeLookup (.type "object") "_get_nodeinfo" = pure none := by rw [typeLookup_type, builtinLookup_eq_fast]; kernel_rfl
theorem lk_m2 : typeLookup (.type "object") "_find_cycle" = pure none := by rw [typeLookup_type, builtinLookup_eq_fast]; kernel_rfl
theorem lk_m3 : typeLookup (.type "object") "add" = pure none := by rw [typeLookup_type, builtinLookup_eq_fast]; kernel_rfl
theorem lk_m4 : typeLookup (.type "object") "prepare" = pure none := by rw [typeLookup_type, builtinLookup_eq_fast]; kernel_rfl
theorem lk_m5 : typeLookup (.type "object") "get_ready" = pure none := by rw [typeLookup_type, builtinLookup_eq_fast]; kernel_rfl
theorem lk_m6 : typeLookup (.type "object") "is_active" = pure none := by rw [typeLookup_type, builtinLookup_eq_fast]; kernel_rfl
theorem lk_m7 : typeLookup (.type "object") "done" = pure none := by rw [typeLookup_type, builtinLookup_eq_fast]; kernel_rfl
theorem sz3 {n : Nat} (h : Nat.ble n 1000 = true) : n ≤ 1000 := Nat.le_of_ble_eq_true h
noncomputable def attKeys : List Str := [Str.ofString "_node2info", Str.ofString "_ready_nodes", Str.ofString "_npassedout", Str.ofString "_nfinished"]
theorem not_att {n : Str} {a b c e : Option Value} (h : n ∉ attKeys) : n ∉ [(Str.ofString "_node2info", a), (Str.ofString "_ready_nodes", b), (Str.ofString "_npassedout", c), (Str.ofString "_nfinished", e)].map (·.1) := h
theorem TCall.frameL {C : Cx} {d : Nat} {f : Value} {as : List Value} {K H : SH} {Q : Value → SH → Prop} (h : TCall C d f as H fun v H' => Q v (K ++ H')) : TCall C d f as (K ++ H) Q :=
  TCall.perm List.perm_append_comm (TCall.postPerm (TCall.frame (TCall.mono h fun v H' q => ⟨_, List.perm_append_comm, q⟩)))
-- the defs of the top
noncomputable def meth (i j : Nat) : Stmt := subAt (clsBody (stmtAt pw_op0195_01 i)) j
noncomputable def mE : Value := .str "cpy313.email.utils" 194
noncomputable def mF : Value := .str "cpy313.functools" 228
noncomputable def mG : Value := .str "cpy313.graphlib" 243
noncomputable def fdIter : FuncData := fdOf (stmtAt pw_op0195_01 2) "_iter_escaped_chars" 27 .none mE
noncomputable def fdStrip : FuncData := fdOf (stmtAt pw_op0195_01 3) "_strip_quoted_realnames" 34 .none mE
noncomputable def fdCheck : FuncData := fdOf (stmtAt pw_op0195_01 4) "_check_parenthesis" 41 .none mE
noncomputable def fdReduce : FuncData := fdOf (stmtAt pw_op0195_01 7) "reduce" 50 (.ref 44) mF
noncomputable def fdNodeInit : FuncData := fdOf (meth 11 1) "_NodeInfo.__init__" 65 .none mG
noncomputable def fdTSInit : FuncData := fdOf (meth 13 0) "TopologicalSorter.__init__" 102 (.ref 96) mG
noncomputable def fdInfo : FuncData := fdOf (meth 13 1) "TopologicalSorter._get_nodeinfo" 109 .none mG
noncomputable def fdAdd : FuncData := fdOf (meth 13 2) "TopologicalSorter.add" 116 .none mG
noncomputable def fdPrep : FuncData := fdOf (meth 13 3) "TopologicalSorter.prepare" 121 .none mG
noncomputable def fdReady : FuncData := fdOf (meth 13 4) "TopologicalSorter.get_ready" 128 .none mG
noncomputable def fdActive : FuncData := fdOf (meth 13 5) "TopologicalSorter.is_active" 135 .none mG
noncomputable def fdDone : FuncData := fdOf (meth 13 7) "TopologicalSorter.done" 149 .none mG
noncomputable def fdCycle : FuncData := fdOf (meth 13 8) "TopologicalSorter._find_cycle" 156 .none mG
/-- what stands when the law is called -/
structure Top (C : Cx) : Prop where
  lm : Lim C
  sys : SysOk C
  n_enumerate : Nm C "enumerate" (.type "enumerate")
  n_len : Nm C "len" (.builtin "len")
  n_iter : Nm C "iter" (.builtin "iter")
  n_next : Nm C "next" (.builtin "next")
  n_set : Nm C "set" (.type "set")
  n_bool : Nm C "bool" (.type "bool")
  n_tuple : Nm C "tuple" (.type "tuple")
  n_stop : Nm C "StopIteration" (.type "StopIteration")
  n_iterE : Nm C "_iter_escaped_chars" (.ref 28)
  n_strip : Nm C "_strip_quoted_realnames" (.ref 35)
  n_check : Nm C "_check_parenthesis" (.ref 42)
  n_missing : Nm C "_initial_missing" (.ref 43)
  n_reduce : Nm C "reduce" (.ref 51)
  n_out : Nm C "_NODE_OUT" (.int (-1) 0)
  n_done : Nm C "_NODE_DONE" (.int (-2) 0)
  n_node : Nm C "_NodeInfo" (.ref 70)
  n_sorter : Nm C "TopologicalSorter" (.ref 167)
  fIter : Fn C 28 fdIter
  fStrip : Fn C 35 fdStrip
  fCheck : Fn C 42 fdCheck
  fReduce : Fn C 51 fdReduce
  fNodeInit : Fn C 66 fdNodeInit
  fTSInit : Fn C 103 fdTSInit
  fInfo : Fn C 110 fdInfo
  fAdd : Fn C 117 fdAdd
  fPrep : Fn C 122 fdPrep
  fReady : Fn C 129 fdReady
  fActive : Fn C 136 fdActive
  fDone : Fn C 150 fdDone
  fCycle : Fn C 157 fdCycle
  fun_cls : ∀ f ∈ ([66, 103, 110, 117, 122, 129, 136, 150, 157] : List Addr), ∀ o, C.h0.get? f = some o → o.cls = .type "function"
  o43 : C.h0.get? 43 = some { cls := .type "object", data := .plain }
  o44 : C.h0.get? 44 = some { cls := .type "tuple", data := .seq #[.ref 43] }
  o96 : C.h0.get? 96 = some { cls := .type "tuple", data := .seq #[.none] }
  tabs : ∀ a : Addr, a < 200 → a ∉ C.tabs
/-- the two classes -/
structure Nod (C : Cx) (mN : Str → Option Value) : Prop where
  cls : SCls C 70 69 mN ["node", "npredecessors", "successors"]
  init : mN "__init__" = some (.ref 66)
  node : Mem C 70 mN "node" 2
  np : Mem C 70 mN "npredecessors" 1
  su : Mem C 70 mN "successors" 0
structure Sor (C : Cx) (mN : Str → Option Value) : Prop where
  cls : Cls C 167 166 mN
  ga : mN "__getattribute__" = none
  gh : mN "__getattr__" = none
  sa : mN "__setattr__" = none
  init : mN "__init__" = some (.ref 103)
  info : mN "_get_nodeinfo" = some (.ref 110)
  add : mN "add" = some (.ref 117)
  prep : mN "prepare" = some (.ref 122)
  ready : mN "get_ready" = some (.ref 129)
  active : mN "is_active" = some (.ref 136)
  done : mN "done" = some (.ref 150)
  cycle : mN "_find_cycle" = some (.ref 157)
  a1 : mN "_node2info" = none
  a2 : mN "_ready_nodes" = none
  a3 : mN "_npassedout" = none
  a4 : mN "_nfinished" = none
structure Gr (C : Cx) : Prop extends Top C where
  nod : ∃ mN, Nod C mN
  sor : ∃ mN, Sor C mN
-- the sorter's heap
structure Info where
  node : Int
  ia : Addr
  sa : Addr
  np : Int
  succ : List Int
noncomputable abbrev slotI (x : Info) : AObj := slotO 70 [some (.int x.node 0), some (.int x.np 0), some (.ref x.sa)]
noncomputable def infoH (x : Info) : SH := [(x.ia, slotI x), (x.sa, .list (intL x.succ))]
noncomputable def infosH (xs : List Info) : SH := xs.flatMap infoH
noncomputable def n2iD (xs : List Info) : List (Int × Value) := xs.map fun x => (x.node, .ref x.ia)
noncomputable def atNode (xs : List Info) (n : Int) (f : Info → Info) : List Info := xs.map fun x => if x.node = n then f x else x
noncomputable abbrev nodesOf (xs : List Info) : List Int := xs.map (·.node)
theorem n2iD_at (xs : List Info) (n : Int) : valueAt (n2iD xs) n = (xs.find? (·.node = n)).map fun x => .ref x.ia := by
  unfold valueAt n2iD
  rw [List.find?_map, Option.map_map]
  rfl
theorem n2iD_keys (xs : List Info) : (n2iD xs).map (·.1) = nodesOf xs := by simp [n2iD, nodesOf]
theorem find_node {xs : List Info} {n : Int} {x : Info} (h : xs.find? (·.node = n) = some x) : x ∈ xs ∧ x.node = n := ⟨List.mem_of_find?_eq_some h, by simpa using List.find?_some h⟩
theorem find_of_mem {xs : List Info} {x : Info} (nd : (nodesOf xs).Nodup) (h : x ∈ xs) : xs.find? (·.node = x.node) = some x := by
  induction xs with
  | nil => cases h
  | cons y r ih =>
    rw [nodesOf, List.map_cons, List.nodup_cons] at nd
    rw [List.find?_cons]
    rcases List.mem_cons.mp h with rfl | h
    · simp
    · have : y.node ≠ x.node := fun e => nd.1 (e ▸ List.mem_map_of_mem h)
      simp [this, ih nd.2 h]
theorem find_some {xs : List Info} {n : Int} (h : n ∈ nodesOf xs) : ∃ x, xs.find? (·.node = n) = some x := by
  obtain ⟨x, hx, e⟩ := List.mem_map.mp h
  cases q : xs.find? (·.node = n) with
  | some y => exact ⟨y, rfl⟩
  | none =>
    rw [List.find?_eq_none] at q
    exact absurd (by simpa using e) (q x hx)
theorem has_info {xs : List Info} {x : Info} (h : x ∈ xs) : Has x.ia (slotI x) (infosH xs) ∧ Has x.sa (.list (intL x.succ)) (infosH xs) := by
  refine ⟨Has.of_mem (List.mem_flatMap.mpr ⟨x, h, .head _⟩), Has.of_mem (List.mem_flatMap.mpr ⟨x, h, .tail _ (.head _)⟩)⟩
theorem atNode_nodes {xs : List Info} {n : Int} {f : Info → Info} (hf : ∀ x, (f x).node = x.node) : nodesOf (atNode xs n f) = nodesOf xs := by
  unfold atNode nodesOf
  rw [List.map_map]
  congr 1
  funext x
  by_cases h : x.node = n <;> simp [h, hf]
theorem atNode_n2i {xs : List Info} {n : Int} {f : Info → Info} (hf : ∀ x, (f x).node = x.node ∧ (f x).ia = x.ia) : n2iD (atNode xs n f) = n2iD xs := by
  unfold atNode n2iD
  rw [List.map_map]
  congr 1
  funext x
  by_cases h : x.node = n
  · simp [h, (hf x).2]; rw [(hf x).1]; exact h
  · simp [h]
theorem atNode_other {xs : List Info} {n : Int} {f : Info → Info} (h : n ∉ nodesOf xs) : atNode xs n f = xs := by
  unfold atNode
  conv => rhs; rw [← List.map_id xs]
  refine List.map_congr_left fun x hx => ?_
  rw [if_neg]; rfl
  intro e
  exact h (List.mem_map.mpr ⟨x, hx, e⟩)
theorem swap_info {xs : List Info} {x : Info} {f : Info → Info} (nd : (nodesOf xs).Nodup) (h : x ∈ xs) (hf : (f x).ia = x.ia ∧ (f x).sa = x.sa ∧ (f x).succ = x.succ) : Swap x.ia (slotI x) (slotI (f x)) (infosH xs) (infosH (atNode xs x.node f)) := by
  induction xs with
  | nil => cases h
  | cons y r ih =>
    rw [nodesOf, List.map_cons, List.nodup_cons] at nd
    show Swap _ _ _ (infoH y ++ infosH r) (infosH ((if y.node = x.node then f y else y) :: atNode r x.node f))
    rcases List.mem_cons.mp h with rfl | h
    · rw [if_pos rfl, atNode_other nd.1]
      show Swap _ _ _ (_ :: _) (((f x).ia, slotI (f x)) :: ((f x).sa, _) :: infosH r)
      rw [hf.1, hf.2.1, hf.2.2]
      exact .head
    · have : y.node ≠ x.node := fun e => nd.1 (e ▸ List.mem_map_of_mem h)
      rw [if_neg this]
      exact Swap.append_right (ih nd.2 h)
theorem swap_succ {xs : List Info} {x : Info} {f : Info → Info} (nd : (nodesOf xs).Nodup) (h : x ∈ xs) (hf : (f x).ia = x.ia ∧ (f x).sa = x.sa ∧ (f x).np = x.np ∧ (f x).node = x.node) : Swap x.sa (.list (intL x.succ)) (.list (intL (f x).succ)) (infosH xs) (infosH (atNode xs x.node f)) := by
  induction xs with
  | nil => cases h
  | cons y r ih =>
    rw [nodesOf, List.map_cons, List.nodup_cons] at nd
    show Swap _ _ _ (infoH y ++ infosH r) (infosH ((if y.node = x.node then f y else y) :: atNode r x.node f))
    rcases List.mem_cons.mp h with rfl | h
    · rw [if_pos rfl, atNode_other nd.1]
      have e : slotI (f x) = slotI x := by unfold slotI; rw [hf.2.2.1, hf.2.2.2, hf.2.1]
      show Swap _ _ _ (_ :: (x.sa, _) :: _) (((f x).ia, slotI (f x)) :: ((f x).sa, _) :: infosH r)
      rw [hf.1, hf.2.1, e]
      exact .tail .head
    · have : y.node ≠ x.node := fun e => nd.1 (e ▸ List.mem_map_of_mem h)
      rw [if_neg this]
      exact Swap.append_right (ih nd.2 h)
structure Srt where
  self : Addr
  dx : Addr
  n2i : Addr
  ep : Nat
  infos : List Info
  ready : Option (Addr × List Int)
  passed : Int
  fin : Int
noncomputable def readyV (S : Srt) : Value := match S.ready with | none => .none | some (r, _) => .ref r
noncomputable def readyH (S : Srt) : SH := match S.ready with | none => [] | some (r, l) => [(r, .list (intL l))]
noncomputable def attS (S : Srt) : List (Str × Option Value) := rR (Str.ofString "_node2info") S.n2i (rV (Str.ofString "_ready_nodes") (some (readyV S)) (rI (Str.ofString "_npassedout") S.passed (rI (Str.ofString "_nfinished") S.fin [])))
noncomputable def sortH (C : Cx) (S : Srt) : SH := (S.self, instO 167 S.dx) :: (S.dx, attO (attS S)) :: (S.n2i, dO C (n2iD S.infos) S.ep) :: (readyH S ++ infosH S.infos)
theorem readyV_nb {S : Srt} : ∀ b, readyV S ≠ .builtin b := by
  intro b
  unfold readyV
  split <;> simp
theorem sortH_some {C : Cx} {S : Srt} {r : Addr} {l : List Int} (hr : S.ready = some (r, l)) : sortH C S = ((S.self, instO 167 S.dx) :: (S.dx, attO (rR (Str.ofString "_node2info") S.n2i (rR (Str.ofString "_ready_nodes") r (rI (Str.ofString "_npassedout") S.passed (rI (Str.ofString "_nfinished") S.fin []))))) :: (S.n2i, dO C (n2iD S.infos) S.ep) :: (r, .list (intL l)) :: infosH S.infos) := by
  unfold sortH attS readyV readyH
  rw [hr]
  rfl
set_option compiler.extract_closed false
local macro_rules | `(tactic| walk_at "a") => `(tactic| with_reducible assumption)
local macro_rules | `(tactic| walk_at "has") => `(tactic| with_reducible first | exact Has.head | (apply Has.tail; walk_at "has") | (apply Has.append_right; walk_at "has") | (apply Has.append_left; walk_at "has") | assumption)
local macro_rules | `(tactic| walk_at "loc") => `(tactic| repeat' with_reducible constructor)
local macro_rules | `(tactic| walk_at "put") => `(tactic| repeat' with_reducible constructor)
local macro_rules | `(tactic| walk_at "swap") => `(tactic| with_reducible first | exact Swap.head | (apply Swap.tail; walk_at "swap") | (apply Swap.append_right; walk_at "swap") | (apply Swap.append_left; walk_at "swap") | assumption)
local macro_rules | `(tactic| walk_at "sto") => `(tactic| (with_reducible refine' ⟨_, Sto.loc ‹_› ?hp ?hs, ?_⟩; (case hs => walk_at "swap"); (case hp => walk_at "put")))
local macro_rules | `(tactic| walk_at "name") => `(tactic| with_reducible first
  | refine TE.loc (by walk_at "has") (by walk_at "loc") ‹_› ‹_› ?_
  | refine TE.nm ‹_› ‹_› ‹_› ‹_› (by with_unfolding_all rfl) ?_
  | (refine' TE.cell ?hL ‹_› ‹_› ‹_› ?_; (case hL => walk_at "has"))
  | (refine' TE.free ?hL ‹_› ‹_› ‹_› ?_; (case hL => walk_at "has")))
local macro_rules | `(tactic| walk_at "e") => `(tactic| first
  | ((with_reducible show TE _ _ (.Name _ _) _ _ _); walk_at "name")
  | (with_reducible first
    | refine TE.cint ?_
    | refine TE.cbool ?_
    | refine TE.cnone ?_
    | refine TE.cS ‹_› ?_
    | refine TE.binop ?_
    | refine TE.unop ?_
    | (show TE _ _ (.Compare _ _ _ _) _ _ _; refine TE.cmp ?_)
    | refine TE.ifexp ?_
    | refine TE.sub ?_
    | refine TE.slice ?_
    | refine TE.walrus ‹_› ?_
    | refine TE.or2 ?_
    | refine TE.and2 ?_
    | refine TPart.some ?_
    | refine TPart.none ?_
    | refine TE.list ?_
    | refine TE.tuple ?_
    | (show TArgs _ _ _ (_ :: _) _ _ _; refine TArgs.cons ?_)
    | (show TE _ _ (.Attribute _ _ _) _ _ _; refine TE.attr ?_)
    | (show TE _ _ (.Call (.Attribute _ _ _) _ _ _) _ _ _; refine TE.meth (pl := _) ?_)
    | (show TE _ _ (.Call _ _ _ _) _ _ _; refine TE.call ?_)
    | refine TArgs.nil ?_
    | (show TB _ _ (.Compare _ _ _ _) _ _ _; refine TB.cmp ?_)
    | refine TB.not ?_
    | refine TB.and2 ?_
    | refine TB.or2 ?_
    | (show TB _ _ (.Name _ _) _ _ _; refine TB.plain ?_)
    | (show TB _ _ (.Call _ _ _ _) _ _ _; refine TB.plain ?_)
    | refine TBin.add ?_
    | refine TBin.sub ?_
    | refine TInp.add ?_
    | refine TUn.neg ?_
    | refine TCmp.eqS ?_
    | refine TCmp.eq ?_
    | refine TCmp.ne ?_
    | refine TCmp.lt ?_
    | refine TCmp.gt ?_
    | refine TCmp.le ?_
    | refine TCmp.ge ?_
    | refine TInp.sub ?_
    | refine TCmp.isBool ?_
    | refine TCmp.isNone ?_
    | refine TCmp.isNotNone ?_
    | refine TCmp.notInS ?_
    | refine TTr.bool ?_
    | refine ⟨Fix.builtin, KeepOk.builtin, ?_⟩
    | refine ⟨Fix.type, KeepOk.type, ?_⟩
    | refine ⟨KeepOk.builtin, ?_⟩)
  | ((with_reducible show TM _ _ (.ref _) (Str.ofString "append") _ _); refine TM.list (by walk_at "has") slot_list_append type_list_append ?_)
  | ((with_reducible show TM _ _ (.str _ _) (Str.ofString "join") _ _); refine TM.str F.slot_str_join F.type_str_join ?_)
  | ((with_reducible show TM _ _ (.str _ _) (Str.ofString "count") _ _); refine TM.str F.slot_str_count F.type_str_count ?_))
local macro_rules | `(tactic| walk_at "es") => `(tactic| (walk_at "e"; (try walk_at "es")))
local macro_rules | `(tactic| walk_at "x") => `(tactic| first
  | (with_reducible first
    | refine thenX.next ?_
    | refine thenX.ret ?_
    | refine thenX.brk ?_
    | refine thenX.cont ?_
    | (show TX _ _ (.Assign [.Name _ _] _ _ :: _) _ _ _; refine TX.asg ‹_› ?_)
    | (show TX _ _ (.Expr _ _ :: _) _ _ _; refine TX.expr ?_ (interactive_of ‹_›))
    | (show TX _ _ (.Assign [.Attribute _ _ _] _ _ :: _) _ _ _; refine TX.asgAttr ?_)
    | (show TX _ _ (.Assign [.Subscript _ _ _] _ _ :: _) _ _ _; refine TX.asgSub ?_)
    | refine TX.augAttr ?_
    | refine TX.ite ?_
    | refine TX.ret ?_
    | refine TX.retNone ?_
    | refine TX.pass ?_
    | refine TX.brk ?_
    | refine TX.cont ?_
    | refine TX.nil ?_
    | (show TX _ _ (.AugAssign (.Name _ _) _ _ _ :: _) _ _ _; refine TX.augS ‹_› ‹_› (by walk_at "has") (by walk_at "loc") ?_)
    | ((show StoP _ _ _ _ _); walk_at "sto"))
  | walk_at "e")
local macro_rules | `(tactic| walk_at "xs") => `(tactic| (walk_at "x"; (try walk_at "xs")))
local macro_rules | `(tactic| walk_at "sub") => `(tactic| with_reducible first | exact List.Sublist.refl _ | (apply List.Sublist.cons; walk_at "sub") | (apply List.Sublist.cons_cons; walk_at "sub") | exact List.nil_sublist _)
/-- the signs of a text, a backslash with what follows it -/
noncomputable def escs : Nat → Bool → List Nat → List (Nat × List Nat)
  | _, false, [] => []
  | i, true, [] => [(i - 1, [92])]
  | i, true, c :: r => (i, [92, c]) :: escs (i + 1) false r
  | i, false, c :: r => if c = 92 then escs (i + 1) true r else (i, [c]) :: escs (i + 1) false r
noncomputable def escV (l : List (Nat × List Nat)) : List (List Value) := l.map fun p => [.int p.1 0, .str (S p.2) 0]
noncomputable abbrev iterNs (cs : List Nat) (pos ch : Option Value) (b : Bool) : AObj := .ns (rS (Str.ofString "addr") (S cs) (rV (Str.ofString "pos") pos (rV (Str.ofString "escape") (some (.bool b)) (rV (Str.ofString "ch") ch []))))
set_option maxHeartbeats 4000000 in
theorem cIter {C : Cx} {d : Nat} {H : SH} {Q : Value → SH → Prop} (Fi : Fn C 28 fdIter) (Lm : Lim C) (Ne : Nm C (Str.ofString "enumerate") (.type "enumerate")) (cs : List Nat)
    (h : ∀ a g gs X, GenSt C 1 (escV (escs 0 false cs)) gs X → Q (.ref a) ((a, .gen g gs) :: (X ++ H))) : TCall C (d + 1) (.ref 28) [.str (S cs) 0] H Q := by
  refine TCall.gen Fi Lm (body := bodyOf (stmtAt pw_op0195_01 2)) (by kernel_rfl) (by kernel_rfl) (by decide +kernel) (fun xs ex => ?_)
  obtain ⟨x, rfl, e⟩ := args1 ex
  refine T.eq (show bindArgs fdIter ⟨[x], []⟩ = pure [(Str.ofString "addr", x)] by kernel_rfl) (T.pure ⟨fun y hy => ?_, fun env E a g => ?_⟩)
  · simp at hy; subst hy; exact .inl (by kernel_rfl)
  have ec : env.cells = [] := by have := E.cells; rw [show cellNames fdIter = [] by kernel_rfl] at this; simpa using this
  have eH : entryH fdIter env (erB [(Str.ofString "addr", x)]) H = (env.locals, .ns (rS (Str.ofString "addr") (S cs) (rV (Str.ofString "pos") none (rV (Str.ofString "escape") none (rV (Str.ofString "ch") none []))))) :: H := by
    unfold entryH
    rw [ec]
    show (env.locals, AObj.ns ((locNames fdIter).map fun n => (n, (erB [(Str.ofString "addr", x)]).reverse.lookup n))) :: ([] ++ H) = _
    rw [show erB [(Str.ofString "addr", x)] = [(Str.ofString "addr", .str (S cs) 0)] by simp [erB, e]]
    rw [show (locNames fdIter).map (fun n => (n, [(Str.ofString "addr", Value.str (S cs) 0)].reverse.lookup n)) = [(Str.ofString "addr", some (.str (S cs) 0)), (Str.ofString "pos", none), (Str.ofString "escape", none), (Str.ofString "ch", none)] by kernel_rfl]
    rfl
  rw [eH]
  refine h a g _ [_] (.inl ⟨_, rfl, GenAt.mk fun d => ?_⟩)
  have hk : env.scope.kind = .function := by rw [E.scope]; kernel_rfl
  have hco : env.scope.isCoroutine = false := by rw [E.scope]; kernel_rfl
  have hi' : interactive env = false := interactive_of hk
  have hm : InMain env := ⟨E.globals, E.builtins⟩
  have ka : env.kindOf (Str.ofString "addr") = some NameKind.local := E.kind (by kernel_rfl)
  have kp : env.kindOf (Str.ofString "pos") = some NameKind.local := E.kind (by kernel_rfl)
  have ke : env.kindOf (Str.ofString "escape") = some NameKind.local := E.kind (by kernel_rfl)
  have kc : env.kindOf (Str.ofString "ch") = some NameKind.local := E.kind (by kernel_rfl)
  have kn : env.kindOf (Str.ofString "enumerate") = some NameKind.globalImplicit := E.kind (by kernel_rfl)
  have sb := s_back
  refine TSeg.func fun K' Hh' hK => ?_
  show TSeg C (d + 1) _ ((execs ([_, _] ++ [_, _]) env).wrap K' Hh' id id) [] _ _
  refine TSeg.pre (ov_func Lm.off) ?_
  show TX C d (_ :: _ :: []) env _ _
  refine TX.asg hk ?_
  walk_at "es"
  walk_at "sto"
  refine TX.asg hk ?_
  walk_at "es"
  walk_at "sto"
  refine TX.nil ⟨rfl, ?_⟩
  show TSeg C (d + 1) _ ((execs (_ :: _ :: []) env).wrap K' Hh' id id) [] _ _
  refine TSeg.for (ov_func Lm.off) ?_
  walk_at "es"
  refine TCall.enumStr fun e it => ?_
  refine T.iterEnum ?_
  intro kk p hkk
  have loop : ∀ (r : List Nat) (d i : Nat) (b : Bool) (pos ch : Option Value), i + r.length = cs.length → cs.drop i = r → (0 < i → pos = some (.int ((i - 1 : Nat) : Int) 0)) → (b = true → 0 < i) →
      TSeg C (d + 1) (.forLoop (tgtOf (subAt (bodyOf (stmtAt pw_op0195_01 2)) 2)) (.ref e) (loopOf (subAt (bodyOf (stmtAt pw_op0195_01 2)) 2)) [] env) (denote table (.forLoop (tgtOf (subAt (bodyOf (stmtAt pw_op0195_01 2)) 2)) (.ref e) (loopOf (subAt (bodyOf (stmtAt pw_op0195_01 2)) 2)) [] env)) (.ret kk none (id false) (id []) (.func (bodyOf (stmtAt pw_op0195_01 2)) env) p [] :: [])
        ([(e, enumO it i .none), (it, strItO (S cs) i)] ++ [(env.locals, iterNs cs pos ch b)]) (GenOut C 1 (escV (escs i b r))) := by
    intro r
    induction r with
    | nil =>
      intro d i b pos ch hl hr hp hb
      refine TSeg.forStep (ov_for Lm.off) (ov_block Lm.off) ?_
      have hi : i = (S cs).cps.toList.length := by rw [S_cps]; simpa using hl
      refine T.mono ((enumWalk (es := []) (k := 0) (pos := p)).fin d _ _ trivial (by rw [hi])) fun r' H₂ er' => ?_
      obtain ⟨er', eh⟩ := er'
      subst er' eh
      try dsimp only
      refine TSeg.pop ?_
      rw [hkk]
      refine TSeg.ite (ov_func Lm.off) ?_
      walk_at "es"
      cases b with
      | false =>
        refine TSeg.nil ?_
        refine TSeg.nil ?_
        rw [hK]; exact TSeg.fin rfl
      | true =>
        obtain rfl := hp (hb rfl)
        refine TSeg.yieldX (ov_func Lm.off) rfl rfl rfl ?_ hco hi'
        walk_at "es"
        refine ⟨(show 2 ≤ sizeLine by decide), fun tp => ?_⟩
        intro x hx l kk' p' hkk'
        cases er_ref hx
        refine GenOut.step (GenAt.mk fun d => ?_)
        rw [hkk']
        refine TSeg.nil ?_
        refine TSeg.nil ?_
        rw [hK]; exact TSeg.fin rfl
    | cons c r ih =>
      intro d i b pos ch hl hr hp hb
      have hc : cs[i]? = some c := by
        have := congrArg List.head? hr
        simpa using this
      have hr' : cs.drop (i + 1) = r := by rw [← List.drop_drop, hr]; rfl
      have hlt : i < (S cs).cps.toList.length := by rw [S_cps]; simp at hl; lia
      have hl' : i + 1 + r.length = cs.length := by simp at hl; lia
      have again : ∀ d b v, TSeg C (d + 1) (.forLoop (tgtOf (subAt (bodyOf (stmtAt pw_op0195_01 2)) 2)) (.ref e) (loopOf (subAt (bodyOf (stmtAt pw_op0195_01 2)) 2)) [] env) (.pure (.again (.forLoop (tgtOf (subAt (bodyOf (stmtAt pw_op0195_01 2)) 2)) (.ref e) (loopOf (subAt (bodyOf (stmtAt pw_op0195_01 2)) 2)) [] env))) (.ret kk none (id false) (id []) (.func (bodyOf (stmtAt pw_op0195_01 2)) env) p [] :: [])
        ([(e, enumO it (i + 1 : Nat) .none), (it, strItO (S cs) (i + 1))] ++ [(env.locals, iterNs cs (some (.int i 0)) v b)]) (GenOut C 1 (escV (escs (i + 1) b r))) := fun d b v =>
        TSeg.again rfl (ih d (i + 1) b _ v hl' hr' (fun _ => by simp) (fun _ => Nat.succ_pos _))
      refine TSeg.forStep (ov_for Lm.off) (ov_block Lm.off) ?_
      refine T.mono (Walk.next (target := tgtOf (subAt (bodyOf (stmtAt pw_op0195_01 2)) 2)) enumWalk i hlt d _ _ trivial rfl) ?_
      intro r' H₂ hy
      obtain ⟨y, er', h'⟩ := hy
      subst er'
      try dsimp only
      refine T.mono h' fun _ H₃ hy => ?_
      obtain ⟨N, X', ⟨tp, c', ey, hc', eN⟩, eX, eH⟩ := hy
      rw [S_cps, hc] at hc'
      cases hc'
      have eN' : N = [(tp, .tup [.int (i : Int) 0, .str (S [c]) 0])] := eN
      cases er_ref ey
      subst eN' eX eH
      show T C d _ (_ :: _ :: _ :: _ :: []) _
      refine T.asgTup hk (t := tp) (by walk_at "has") ?_
      refine TSeq.cons ?_
      walk_at "sto"
      refine TSeq.cons ?_
      walk_at "sto"
      refine TSeq.nil ?_
      intro K2 Hh2 hK2
      refine TSeg.drop (List.sublist_cons_self _ _) ?_
      refine TSeg.ite (ov_for Lm.off) ?_
      walk_at "es"
      cases b with
      | true =>
        refine TSeg.yieldX (ov_for Lm.off) rfl rfl rfl ?_ hco hi'
        walk_at "es"
        refine TBin.adds (show 1 + 1 ≤ sizeLine by decide) ?_
        walk_at "es"
        refine ⟨(show 2 ≤ sizeLine by decide), fun tp => ?_⟩
        intro x hx l kk' p' hkk'
        cases er_ref hx
        refine GenOut.step (GenAt.mk fun d => ?_)
        rw [hkk']
        show TSeg C (d + 1) _ ((execs ([_] ++ []) env).wrap _ _ _ _) _ _ _
        refine TSeg.pre (ov_for Lm.off) ?_
        refine TX.asg hk ?_
        walk_at "es"
        walk_at "sto"
        refine TX.nil ⟨rfl, ?_⟩
        refine TSeg.nil ?_
        refine TSeg.nil ?_
        rw [hK2]
        exact again d false _
      | false =>
        refine TSeg.ite (ov_for Lm.off) ?_
        walk_at "es"
        by_cases h92 : c = 92
        · subst h92
          show TSeg C (d + 1) _ ((execs ([_] ++ []) env).wrap _ _ _ _) _ _ _
          refine TSeg.pre (ov_for Lm.off) ?_
          refine TX.asg hk ?_
          walk_at "es"
          walk_at "sto"
          refine TX.nil ⟨rfl, ?_⟩
          refine TSeg.nil ?_
          refine TSeg.nil ?_
          refine TSeg.nil ?_
          rw [hK2]
          exact again d true _
        · have e1 : decide ([c] = [92]) = false := by simp [h92]
          have e2 : escs i false (c :: r) = (i, [c]) :: escs (i + 1) false r := by simp [escs, h92]
          rw [e1, e2]
          refine TSeg.yieldX (ov_for Lm.off) rfl rfl rfl ?_ hco hi'
          walk_at "es"
          refine ⟨(show 2 ≤ sizeLine by decide), fun tp => ?_⟩
          intro x hx l kk' p' hkk'
          cases er_ref hx
          refine GenOut.step (GenAt.mk fun d => ?_)
          rw [hkk']
          refine TSeg.nil ?_
          refine TSeg.nil ?_
          refine TSeg.nil ?_
          rw [hK2]
          exact again d false _
  exact loop cs d 0 false (some (.int 0 0)) none (by simp) rfl (fun h => absurd h (by decide)) (fun h => by cases h)
theorem escs_len : ∀ (cs : List Nat) (i : Nat) (b : Bool), (escs i b cs).length ≤ cs.length + (if b then 1 else 0)
  | [], _, false => by simp [escs]
  | [], _, true => by simp [escs]
  | c :: r, i, true => by
    have := escs_len r (i + 1) false
    simp [escs] at this ⊢; lia
  | c :: r, i, false => by
    unfold escs
    split
    · have := escs_len r (i + 1) true
      simp at this ⊢; lia
    · have := escs_len r (i + 1) false
      simp at this ⊢; lia
noncomputable def stripGo (cs : List Nat) : List (Nat × List Nat) → Nat → Option Nat → List (List Nat) → List Nat
  | [], st, _, acc => (acc ++ (if st < cs.length then [cs.drop st] else [])).flatten
  | (pos, t) :: r, st, op, acc => if t = [34] then (match op with
      | none => stripGo cs r st (some pos) acc
      | some o => stripGo cs r (pos + 1) none (if st ≠ o then acc ++ [cut (some st) (some o) cs] else acc)) else stripGo cs r st op acc
noncomputable def strip (cs : List Nat) : List Nat := if 34 ∈ cs then stripGo cs (escs 0 false cs) 0 none [] else cs
noncomputable def strV (ts : List (List Nat)) : List Value := ts.map fun c => .str (S c) 0
theorem strV_snoc (ts : List (List Nat)) (t : List Nat) : strV ts ++ [.str (S t) 0] = strV (ts ++ [t]) := by simp [strV]
theorem flat_len (ts : List (List Nat)) (n m : Nat) (h1 : ts.length ≤ n) (h2 : ∀ t ∈ ts, t.length ≤ m) : ts.flatten.length ≤ n * m := by
  induction ts generalizing n with
  | nil => simp
  | cons t r ih =>
    cases n with
    | zero => simp at h1
    | succ n =>
      have := ih n (by simp at h1; lia) (fun t ht => h2 t (.tail _ ht))
      have h3 := h2 t (.head _)
      rw [List.flatten_cons, List.length_append, Nat.succ_mul]; lia
theorem cut_len {α : Type} (lo hi : Option Nat) (xs : List α) : (cut lo hi xs).length ≤ xs.length := by
  cases lo <;> cases hi <;> simp [cut] <;> lia
set_option maxHeartbeats 4000000 in
theorem cStrip {C : Cx} {d : Nat} {H : SH} {Q : Value → SH → Prop} (G : Top C) (cs : List Nat) (hz : cs.length ≤ 900) (h : Q (.str (S (strip cs)) 0) H) : TCall C (d + 3) (.ref 35) [.str (S cs) 0] H Q := by
  refine TCall.frame (H := []) ?_
  have Lm := G.lm
  refine TCall.def1 G.fStrip Lm (body := bodyOf (stmtAt pw_op0195_01 3)) (by kernel_rfl) (by kernel_rfl) (by decide +kernel) (p := Str.ofString "addr") (by intro x; kernel_rfl) (.inl (by kernel_rfl)) ?_
  refine FnBody.flat (m := (rS (Str.ofString "addr") (S cs) (rV (Str.ofString "start") none (rV (Str.ofString "open_pos") none (rV (Str.ofString "result") none (rV (Str.ofString "pos") none (rV (Str.ofString "ch") none []))))))) (by kernel_rfl) (by kernel_rfl) (by kernel_rfl) fun env E hk => ?_
  have hm : InMain env := ⟨E.globals, E.builtins⟩
  have k_addr : env.kindOf (Str.ofString "addr") = some NameKind.local := E.kind (by kernel_rfl)
  have k_start : env.kindOf (Str.ofString "start") = some NameKind.local := E.kind (by kernel_rfl)
  have k_open_pos : env.kindOf (Str.ofString "open_pos") = some NameKind.local := E.kind (by kernel_rfl)
  have k_result : env.kindOf (Str.ofString "result") = some NameKind.local := E.kind (by kernel_rfl)
  have k_pos : env.kindOf (Str.ofString "pos") = some NameKind.local := E.kind (by kernel_rfl)
  have k_ch : env.kindOf (Str.ofString "ch") = some NameKind.local := E.kind (by kernel_rfl)
  have k_UiterUescapedUchars : env.kindOf (Str.ofString "_iter_escaped_chars") = some NameKind.globalImplicit := E.kind (by kernel_rfl)
  have k_len : env.kindOf (Str.ofString "len") = some NameKind.globalImplicit := E.kind (by kernel_rfl)
  have n1 := G.n_iterE
  have n2 := G.n_len
  have sm := s_mark
  have sn := s_nil
  show TX C (d + 2) (_ :: _ :: _ :: _ :: _ :: _ :: _ :: []) env _ _
  walk_at "xs"
  refine split_bool (fun hb => ?_) (fun hb => ?_)
  · walk_at "xs"
    refine ⟨[], List.nil_sublist _, ?_⟩
    have : strip cs = cs := by unfold strip; rw [if_neg (by simpa using hb)]
    rw [this] at h
    exact h
  walk_at "xs"
  refine ⟨sz rfl, fun l => ?_⟩
  walk_at "xs"
  refine TX.forW ?_
  walk_at "es"
  refine G.fIter.go ?_
  refine cIter G.fIter Lm G.n_enumerate cs fun a g gs X0 hgen => ?_
  refine T.iterGen ?_
  have hL : (escV (escs 0 false cs)).length ≤ cs.length := by
    have := escs_len cs 0 false
    simpa [escV] using this
  show TC C (d + 2) _ (((a, .gen g gs) :: X0) ++ _) _
  refine TC.forWalk (dd := 2) (d := d) (genWalk (outs := escV (escs 0 false cs)) Lm) (fun i Hi => ∃ st op acc pv cv, Hi = [(l, .list (strV acc)), (env.locals, .ns (rS (Str.ofString "addr") (S cs) (rI (Str.ofString "start") (st : Nat) (rV (Str.ofString "open_pos") (some (natPart op)) (rR (Str.ofString "result") l (rV (Str.ofString "pos") pv (rV (Str.ofString "ch") cv [])))))))] ∧ stripGo cs ((escs 0 false cs).drop i) st op acc = strip cs ∧ acc.length ≤ i ∧ ∀ t ∈ acc, t.length ≤ cs.length) (fun _ _ _ => trivial) ?_ ?_ ⟨gs, X0, rfl, hgen⟩ ?_
  · rintro i hi Hi y N ⟨st, op, acc, pv, cv, rfl, hgo, hac, hpc⟩ ⟨tp, us, ey, hus, rfl⟩
    have hi' : i < (escs 0 false cs).length := by simpa [escV] using hi
    obtain ⟨pos, t, hpt⟩ : ∃ pos t, (escs 0 false cs)[i]? = some (pos, t) := ⟨_, _, List.getElem?_eq_getElem hi'⟩
    have eus : us = [.int pos 0, .str (S t) 0] := by
      rw [escV, List.getElem?_map, hpt] at hus
      exact (Option.some.inj hus).symm
    have hdrop : (escs 0 false cs).drop i = (pos, t) :: (escs 0 false cs).drop (i + 1) := by
      rw [List.drop_eq_getElem_cons hi']
      congr 1
      rw [List.getElem?_eq_getElem hi'] at hpt
      exact Option.some.inj hpt
    rw [hdrop] at hgo
    subst eus
    cases er_ref ey
    show T _ _ _ (_ :: _ :: _ :: []) _
    refine T.asgTup hk (t := tp) (by walk_at "has") ?_
    refine TSeq.cons ?_
    walk_at "sto"
    refine TSeq.cons ?_
    walk_at "sto"
    refine TSeq.nil ?_
    refine TX.drop (List.sublist_cons_self _ _) ?_
    walk_at "xs"
    refine split_bool (fun hb => ?_) (fun hb => ?_)
    · have hb : t = [34] := of_decide_eq_true hb
      subst hb
      walk_at "xs"
      cases op with
      | none =>
        simp [stripGo] at hgo
        refine split_bool (b := true) (fun _ => ?_) (fun h => by cases h)
        walk_at "xs"
        exact ⟨st, some pos, acc, _, _, rfl, hgo, by lia, hpc⟩
      | some o =>
        simp only [stripGo, if_true] at hgo
        refine split_bool (b := false) (fun h => by cases h) (fun _ => ?_)
        walk_at "xs"
        refine split_bool (fun hb => ?_) (fun hb => ?_)
        · have hne : st ≠ o := by
            intro q; subst q; simp at hb
          rw [if_pos hne] at hgo
          walk_at "xs"
          intro sl
          refine TGet.strCut (lo := some st) (hi := some o) (by walk_at "has") (Nat.le_trans hz (sz rfl)) ?_
          walk_at "xs"
          refine TCall.append (by walk_at "swap") (by have := sz (n := 900) rfl; have h3 : (strV acc).length = acc.length := by simp [strV]
                                                      rw [h3]; lia) ⟨by simp, ?_⟩
          refine TX.drop (List.sublist_cons_self _ _) ?_
          walk_at "xs"
          refine ⟨pos + 1, none, acc ++ [cut (some st) (some o) cs], _, _, by rw [strV_snoc]; rfl, hgo, by simp; lia, fun t ht => ?_⟩
          rcases List.mem_append.mp ht with ht | ht
          · exact hpc t ht
          · simp at ht; subst ht; exact cut_len _ _ _
        · have hne : st = o := by
            have := hb
            simp at this
            lia
          rw [if_neg (not_not_intro hne)] at hgo
          walk_at "xs"
          exact ⟨pos + 1, none, acc, _, _, rfl, hgo, by lia, hpc⟩
    · have hb : t ≠ [34] := of_decide_eq_false hb
      simp only [stripGo, if_neg hb] at hgo
      walk_at "xs"
      exact ⟨st, op, acc, _, _, rfl, hgo, by lia, hpc⟩
  · rintro Hn ⟨st, op, acc, pv, cv, rfl, hgo, hac, hpc⟩
    rw [show (escV (escs 0 false cs)).length = (escs 0 false cs).length by simp [escV], List.drop_length] at hgo
    have hac' : acc.length ≤ cs.length := Nat.le_trans hac hL
    have fin : ∀ ts, (acc ++ ts).flatten = strip cs → (∀ t ∈ acc ++ ts, t.length ≤ cs.length) → ts.length ≤ 1 → (acc ++ ts).flatten.length ≤ 1000000 := fun ts _ h2 h3 => by
      refine Nat.le_trans (flat_len _ 901 900 (by simp; lia) fun t ht => Nat.le_trans (h2 t ht) hz) (by decide)
    try dsimp only
    walk_at "xs"
    refine TCall.lenStr (by rw [S_len]; exact Nat.le_trans hz (sz rfl)) ?_
    walk_at "xs"
    refine split_bool (fun hb => ?_) (fun hb => ?_)
    · have hlt : st < cs.length := by
        have := of_decide_eq_true hb
        rw [S_len] at this
        lia
      walk_at "xs"
      intro sl
      refine TGet.strCut (lo := some st) (hi := none) (by walk_at "has") (Nat.le_trans hz (sz rfl)) ?_
      walk_at "xs"
      refine TCall.append (by walk_at "swap") (by have := sz (n := 900) rfl; have h3 : (strV acc).length = acc.length := by simp [strV]
                                                  rw [h3]; lia) ⟨by simp, ?_⟩
      refine TX.drop (List.sublist_cons_self _ _) ?_
      have hgo' : (acc ++ [cs.drop st]).flatten = strip cs := by
        rw [← hgo]; simp [stripGo, hlt]
      walk_at "xs"
      refine TCall.join (ts := acc ++ [cs.drop st]) (by show Has l (.list (strV (acc ++ [cs.drop st]))) _; rw [← strV_snoc]; exact Has.head) (fin _ hgo' (fun t ht => ?_) (by simp)) ?_
      · rcases List.mem_append.mp ht with ht | ht
        · exact hpc t ht
        · simp at ht; subst ht; simp
      refine ⟨[], List.nil_sublist _, ?_⟩
      rw [hgo']
      exact h
    · have hge : ¬ st < cs.length := by
        have := of_decide_eq_false hb
        rw [S_len] at this
        lia
      have hgo' : (acc ++ []).flatten = strip cs := by
        rw [← hgo]; simp [stripGo, hge]
      rw [List.append_nil] at hgo'
      walk_at "xs"
      refine TCall.join (ts := acc) (by show Has l (.list (strV acc)) _; exact Has.head) (by have := fin [] (by simpa using hgo') (by simpa using hpc) (by simp); simpa using this) ?_
      refine ⟨[], List.nil_sublist _, ?_⟩
      rw [hgo']
      exact h
  · exact ⟨0, none, [], _, _, rfl, by unfold strip; rw [if_pos (by simpa using hb)]; rfl, by simp, by simp⟩
noncomputable def chk : List (Nat × List Nat) → Int → Bool
  | [], o => o == 0
  | (_, t) :: r, o => if t = [40] then chk r (o + 1) else if t = [41] then (if o - 1 < 0 then false else chk r (o - 1)) else chk r o
noncomputable def chkS (cs : List Nat) : Bool := chk (escs 0 false (strip cs)) 0
set_option maxHeartbeats 4000000 in
theorem cCheck {C : Cx} {d : Nat} {H : SH} {Q : Value → SH → Prop} (G : Top C) (cs : List Nat) (hz : cs.length ≤ 900) (h : Q (.bool (chkS cs)) H) : TCall C (d + 4) (.ref 42) [.str (S cs) 0] H Q := by
  refine TCall.frame (H := []) ?_
  have Lm := G.lm
  refine TCall.def1 G.fCheck Lm (body := bodyOf (stmtAt pw_op0195_01 4)) (by kernel_rfl) (by kernel_rfl) (by decide +kernel) (p := Str.ofString "addr") (by intro x; kernel_rfl) (.inl (by kernel_rfl)) ?_
  refine FnBody.flat (m := (rS (Str.ofString "addr") (S cs) (rV (Str.ofString "opens") none (rV (Str.ofString "pos") none (rV (Str.ofString "ch") none []))))) (by kernel_rfl) (by kernel_rfl) (by kernel_rfl) fun env E hk => ?_
  have hm : InMain env := ⟨E.globals, E.builtins⟩
  have k_addr : env.kindOf (Str.ofString "addr") = some NameKind.local := E.kind (by kernel_rfl)
  have k_opens : env.kindOf (Str.ofString "opens") = some NameKind.local := E.kind (by kernel_rfl)
  have k_pos : env.kindOf (Str.ofString "pos") = some NameKind.local := E.kind (by kernel_rfl)
  have k_ch : env.kindOf (Str.ofString "ch") = some NameKind.local := E.kind (by kernel_rfl)
  have k_UstripUquotedUrealnames : env.kindOf (Str.ofString "_strip_quoted_realnames") = some NameKind.globalImplicit := E.kind (by kernel_rfl)
  have k_UiterUescapedUchars : env.kindOf (Str.ofString "_iter_escaped_chars") = some NameKind.globalImplicit := E.kind (by kernel_rfl)
  have n1 := G.n_iterE
  have n2 := G.n_strip
  have so := s_open
  have sc := s_close
  show TX C (d + 3) (_ :: _ :: _ :: _ :: []) env _ _
  walk_at "xs"
  refine G.fStrip.go ?_
  refine cStrip G cs hz ?_
  walk_at "xs"
  refine TX.forW ?_
  walk_at "es"
  refine G.fIter.go ?_
  refine cIter G.fIter Lm G.n_enumerate (strip cs) fun a g gs X0 hgen => ?_
  refine T.iterGen ?_
  show TC C (d + 1 + 2) _ (((a, .gen g gs) :: X0) ++ _) _
  refine TC.forWalk (dd := 2) (d := d + 1) (genWalk (outs := escV (escs 0 false (strip cs))) Lm) (fun i Hi => ∃ o pv cv, Hi = [(env.locals, .ns (rS (Str.ofString "addr") (S (strip cs)) (rI (Str.ofString "opens") o (rV (Str.ofString "pos") pv (rV (Str.ofString "ch") cv [])))))] ∧ chk ((escs 0 false (strip cs)).drop i) o = chkS cs) (fun _ _ _ => trivial) ?_ ?_ ⟨gs, X0, rfl, hgen⟩ ?_
  · rintro i hi Hi y N ⟨o, pv, cv, rfl, hgo⟩ ⟨tp, us, ey, hus, rfl⟩
    have hi' : i < (escs 0 false (strip cs)).length := by simpa [escV] using hi
    obtain ⟨pos, t, hpt⟩ : ∃ pos t, (escs 0 false (strip cs))[i]? = some (pos, t) := ⟨_, _, List.getElem?_eq_getElem hi'⟩
    have eus : us = [.int pos 0, .str (S t) 0] := by
      rw [escV, List.getElem?_map, hpt] at hus
      exact (Option.some.inj hus).symm
    have hdrop : (escs 0 false (strip cs)).drop i = (pos, t) :: (escs 0 false (strip cs)).drop (i + 1) := by
      rw [List.drop_eq_getElem_cons hi']
      congr 1
      rw [List.getElem?_eq_getElem hi'] at hpt
      exact Option.some.inj hpt
    rw [hdrop] at hgo
    subst eus
    cases er_ref ey
    show T _ _ _ (_ :: _ :: []) _
    refine T.asgTup hk (t := tp) (by walk_at "has") ?_
    refine TSeq.cons ?_
    walk_at "sto"
    refine TSeq.cons ?_
    walk_at "sto"
    refine TSeq.nil ?_
    refine TX.drop (List.sublist_cons_self _ _) ?_
    walk_at "xs"
    refine split_bool (fun hb => ?_) (fun hb => ?_)
    · have hb : t = [40] := of_decide_eq_true hb
      simp only [chk, if_pos hb] at hgo
      walk_at "xs"
      exact ⟨o + 1, _, _, rfl, hgo⟩
    · have hb : t ≠ [40] := of_decide_eq_false hb
      simp only [chk, if_neg hb] at hgo
      walk_at "xs"
      refine split_bool (fun hc => ?_) (fun hc => ?_)
      · have hc : t = [41] := of_decide_eq_true hc
        simp only [if_pos hc] at hgo
        walk_at "xs"
        refine split_bool (fun hd => ?_) (fun hd => ?_)
        · have hd : o - 1 < 0 := of_decide_eq_true hd
          rw [if_pos hd] at hgo
          walk_at "xs"
          refine ⟨[], List.nil_sublist _, ?_⟩
          rw [← hgo] at h
          exact h
        · have hd : ¬ o - 1 < 0 := of_decide_eq_false hd
          rw [if_neg hd] at hgo
          walk_at "xs"
          exact ⟨o - 1, _, _, rfl, hgo⟩
      · have hc : t ≠ [41] := of_decide_eq_false hc
        simp only [if_neg hc] at hgo
        walk_at "xs"
        exact ⟨o, _, _, rfl, hgo⟩
  · rintro Hn ⟨o, pv, cv, rfl, hgo⟩
    rw [show (escV (escs 0 false (strip cs))).length = (escs 0 false (strip cs)).length by simp [escV], List.drop_length] at hgo
    try dsimp only
    walk_at "xs"
    refine ⟨[], List.nil_sublist _, ?_⟩
    rw [← hgo] at h
    exact h
  · exact ⟨0, _, _, rfl, rfl⟩
set_option maxHeartbeats 4000000 in
theorem bindReduce {C : Cx} {d : Nat} {H : SH} (G : Top C) (x y : Value) {Q : List (Str × Value) → SH → Prop} (h : Q [(Str.ofString "function", x), (Str.ofString "sequence", y), (Str.ofString "initial", .ref 43)] H) : T C d (bindArgs fdReduce ⟨[x, y], []⟩) H Q := fun Φ A s b I => by
  have ho := I.keep _ _ G.o44 (G.tabs _ (by decide))
  obtain ⟨hh, g, dr, t, os⟩ := s
  unfold bindArgs
  repeat (first | (with_reducible refine wpAny_loadPart_at ho ?_) | wp_step | dsimp only)
  refine ⟨H, I, ?_⟩
  have e : ∀ L, L = [(Str.ofString "function", x), (Str.ofString "sequence", y), (Str.ofString "initial", .ref 43)] → Q L H := fun L e => by rw [e]; exact h
  exact e _ (by kernel_rfl)
theorem TCmp.isSelf {C : Cx} {d : Nat} {H : SH} {Q : Value → SH → Prop} {a : Addr} (h : Q (.bool true) H) : TCmp C d .Is (.ref a) (.ref a) H Q := fun x y ex ey Φ A s b I => by
  cases er_ref ex; cases er_ref ey
  exact wpAny_is_ref_self ⟨H, I, h⟩
set_option maxHeartbeats 4000000 in
/-- reduce over a list that is not empty -/
theorem cReduce {C : Cx} {d : Nat} {H : SH} {Q : Value → SH → Prop} (G : Top C) {f l : Addr} {x0 : Value} {xs : List Value} (J : Nat → Value → SH → Prop) (JK : ∀ i v Hi, J i v Hi → Has l (.list (x0 :: xs)) Hi) (h0 : J 1 x0 H)
    (hf : ∀ i v Hi, J i v Hi → KeepOk C (.ref f) Hi) (step : ∀ i u v Hi, 1 ≤ i → (x0 :: xs)[i]? = some u → J i v Hi → TCall C d (.ref f) [v, u] Hi fun w Hi' => J (i + 1) w Hi')
    (fin : ∀ v Hn, J (x0 :: xs).length v Hn → Q v Hn) : TCall C (d + 1) (.ref 51) [.ref f, .ref l] H Q := by
  have Lm := G.lm
  refine TCall.def G.fReduce Lm (body := bodyOf (stmtAt pw_op0195_01 7)) (by kernel_rfl) (by kernel_rfl) (by decide +kernel) fun ws ew => ?_
  obtain ⟨x, y, rfl, ex, ey⟩ := args2 ew
  refine bindReduce G x y ⟨fun z hz => ?_, ?_⟩
  · simp at hz; rcases hz with rfl | rfl | rfl <;> exact .inl (by kernel_rfl)
  rw [show erB [(Str.ofString "function", x), (Str.ofString "sequence", y), (Str.ofString "initial", .ref 43)] = [(Str.ofString "function", .ref f), (Str.ofString "sequence", .ref l), (Str.ofString "initial", .ref 43)] by simp only [erB, List.map, ex, ey]; rfl]
  refine FnBody.flat (m := (rR (Str.ofString "function") f (rR (Str.ofString "sequence") l (rR (Str.ofString "initial") 43 (rV (Str.ofString "it") none (rV (Str.ofString "value") none (rV (Str.ofString "element") none []))))))) (by kernel_rfl) (by kernel_rfl) (by kernel_rfl) fun env E hk => ?_
  have hm : InMain env := ⟨E.globals, E.builtins⟩
  have k_function : env.kindOf (Str.ofString "function") = some NameKind.local := E.kind (by kernel_rfl)
  have k_sequence : env.kindOf (Str.ofString "sequence") = some NameKind.local := E.kind (by kernel_rfl)
  have k_initial : env.kindOf (Str.ofString "initial") = some NameKind.local := E.kind (by kernel_rfl)
  have k_it : env.kindOf (Str.ofString "it") = some NameKind.local := E.kind (by kernel_rfl)
  have k_value : env.kindOf (Str.ofString "value") = some NameKind.local := E.kind (by kernel_rfl)
  have k_element : env.kindOf (Str.ofString "element") = some NameKind.local := E.kind (by kernel_rfl)
  have k_iter : env.kindOf (Str.ofString "iter") = some NameKind.globalImplicit := E.kind (by kernel_rfl)
  have k_UinitialUmissing : env.kindOf (Str.ofString "_initial_missing") = some NameKind.globalImplicit := E.kind (by kernel_rfl)
  have k_next : env.kindOf (Str.ofString "next") = some NameKind.globalImplicit := E.kind (by kernel_rfl)
  have k_StopIteration : env.kindOf (Str.ofString "StopIteration") = some NameKind.globalImplicit := E.kind (by kernel_rfl)
  have k_TypeError : env.kindOf (Str.ofString "TypeError") = some NameKind.globalImplicit := E.kind (by kernel_rfl)
  have n1 := G.n_iter
  have n2 := G.n_missing
  have n3 := G.n_next
  have hl := JK _ _ _ h0
  show TX C d (_ :: _ :: _ :: _ :: []) env _ _
  walk_at "xs"
  refine TCall.iter (Has.tail hl) fun it => ?_
  walk_at "xs"
  refine TCmp.isSelf ?_
  walk_at "xs"
  refine split_bool (fun _ => ?_) (fun h => by cases h)
  show TX C d (.Try _ (_ :: []) [] [] _ :: []) env _ _
  refine TX.try0 ?_
  show TX C d (_ :: []) env _ _
  walk_at "xs"
  refine TCall.next1 (i := 0) (u := x0) (Has.tail (Has.tail hl)) (by walk_at "swap") rfl ?_
  walk_at "xs"
  refine TX.forW ?_
  walk_at "xs"
  refine T.iterLit (i := 1) (by walk_at "has") ?_
  show TC C d _ ([(it, litO l (1 + 0))] ++ ((env.locals, _) :: H)) _
  refine TC.forWalk (dd := 0) (d := d) (litWalk (xs := x0 :: xs) (by simp)) (fun i Hi => ∃ v ev Hj, Hi = (env.locals, .ns (rR (Str.ofString "function") f (rR (Str.ofString "sequence") l (rR (Str.ofString "initial") 43 (rR (Str.ofString "it") it (rV (Str.ofString "value") (some v) (rV (Str.ofString "element") ev []))))))) :: Hj ∧ J (1 + i) v Hj) (fun i Hi ⟨v, ev, Hj, e, hj⟩ => by subst e; exact Has.tail (JK _ _ _ hj)) ?_ ?_ rfl ?_
  · rintro i hi Hi y N ⟨v, ev, Hj, rfl, hj⟩ ⟨hu, rfl⟩
    show T _ _ _ ((env.locals, _) :: Hj) _
    refine T.asgName hk ?_
    walk_at "sto"
    walk_at "xs"
    refine ⟨Fix.ref, (hf _ _ _ hj).add (K := [_]), ?_⟩
    refine TCall.perm (List.perm_append_comm (l₁ := [_]) (l₂ := Hj)) (TCall.frame ?_)
    refine TCall.mono (step (1 + i) _ _ _ (by lia) hu hj) fun w Hi' hj' => ?_
    walk_at "sto"
    refine TX.perm (List.perm_append_comm (l₂ := [_])) ?_
    walk_at "xs"
    exact ⟨w, _, Hi', rfl, by rw [show 1 + (i + 1) = 1 + i + 1 by lia]; exact hj'⟩
  · rintro Hn ⟨v, ev, Hj, rfl, hj⟩
    try dsimp only
    walk_at "xs"
    rw [show 1 + ((x0 :: xs).length - 1) = (x0 :: xs).length by simp; lia] at hj
    exact ⟨Hj, List.sublist_cons_self _ _, fin _ _ hj⟩
  · exact ⟨x0, none, H, rfl, h0⟩
-- the makers
set_option maxHeartbeats 4000000 in
theorem cNodeInit {C : Cx} {d : Nat} {H : SH} {Q : Value → SH → Prop} (G : Gr C) {x : Addr} {n : Int} (h : ∀ sa, Q .none (infoH ⟨n, x, sa, 0, []⟩ ++ H)) : TCall C (d + 1) (.ref 66) [.ref x, .int n 0] ((x, slotO 70 []) :: H) Q := by
  obtain ⟨mN, N⟩ := G.nod
  have Lm := G.lm
  refine TCall.postPerm ?_
  refine TCall.def2 G.fNodeInit Lm (body := bodyOf (meth 11 1)) (by kernel_rfl) (by kernel_rfl) (by decide +kernel) (p := Str.ofString "self") (q := Str.ofString "node") (by intro x y; kernel_rfl) ⟨.inl (by kernel_rfl), .inl (by kernel_rfl)⟩ ?_
  refine FnBody.flat (m := (rR (Str.ofString "self") x (rI (Str.ofString "node") n []))) (by kernel_rfl) (by kernel_rfl) (by kernel_rfl) fun env E hk => ?_
  have hm : InMain env := ⟨E.globals, E.builtins⟩
  have k_self : env.kindOf (Str.ofString "self") = some NameKind.local := E.kind (by kernel_rfl)
  have k_node : env.kindOf (Str.ofString "node") = some NameKind.local := E.kind (by kernel_rfl)
  show TX C d (_ :: _ :: _ :: []) env _ _
  walk_at "xs"
  refine TSetA.slot (vs' := [some (.int n 0)]) N.cls (by walk_at "swap") N.node (by decide) rfl ?_
  walk_at "xs"
  refine TSetA.slot (vs' := [some (.int n 0), some (.int 0 0)]) N.cls (by walk_at "swap") N.np (by decide) rfl ?_
  walk_at "xs"
  refine ⟨sz rfl, fun l => ?_⟩
  walk_at "xs"
  refine TSetA.slot (vs' := [some (.int n 0), some (.int 0 0), some (.ref l)]) N.cls (by walk_at "swap") N.su (by decide) rfl ?_
  walk_at "xs"
  refine ⟨(l, .list []) :: (x, slotO 70 [some (.int n 0), some (.int 0 0), some (.ref l)]) :: H, (List.sublist_cons_self _ _).cons_cons _, _, .swap .., h l⟩
theorem cNode {C : Cx} {d : Nat} {H : SH} {Q : Value → SH → Prop} (G : Gr C) {n : Int} (h : ∀ x sa, Q (.ref x) (infoH ⟨n, x, sa, 0, []⟩ ++ H)) : TCall C (d + 2) (.ref 70) [.int n 0] H Q := by
  obtain ⟨mN, N⟩ := G.nod
  exact TCall.newSlot N.cls N.init G.fNodeInit (G.fun_cls 66 (by decide)) fun x => cNodeInit G fun sa => ⟨rfl, h x sa⟩
theorem cNodeOk {C : Cx} {H : SH} (G : Gr C) : KeepOk C (.ref 70) H := by
  obtain ⟨mN, N⟩ := G.nod
  exact KeepOk.scls N.cls
set_option maxHeartbeats 4000000 in
theorem bindInit (x : Value) {C : Cx} {d : Nat} {H : SH} (G : Top C) {Q : List (Str × Value) → SH → Prop} (h : Q [(Str.ofString "self", x), (Str.ofString "graph", .none)] H) : T C d (bindArgs fdTSInit ⟨[x], []⟩) H Q := fun Φ A s b I => by
  have ho := I.keep _ _ G.o96 (G.tabs _ (by decide))
  obtain ⟨hh, g, dr, t, os⟩ := s
  unfold bindArgs
  repeat (first | (with_reducible refine wpAny_loadPart_at ho ?_) | wp_step | dsimp only)
  refine ⟨H, I, ?_⟩
  have e : ∀ L, L = [(Str.ofString "self", x), (Str.ofString "graph", .none)] → Q L H := fun L e => by rw [e]; exact h
  exact e _ (by kernel_rfl)
set_option maxHeartbeats 4000000 in
theorem cTSNew {C : Cx} {d : Nat} {H : SH} {Q : Value → SH → Prop} (G : Gr C) (h : ∀ S : Srt, S.infos = [] → S.ready = none → S.passed = 0 → S.fin = 0 → Q (.ref S.self) (sortH C S ++ H)) : TCall C (d + 2) (.ref 167) [] H Q := by
  obtain ⟨mN, N⟩ := G.sor
  have Lm := G.lm
  refine TCall.postPerm ?_
  refine TCall.new [Str.ofString "_node2info", Str.ofString "_ready_nodes", Str.ofString "_npassedout", Str.ofString "_nfinished"] (by decide +kernel) N.cls N.init G.fTSInit (G.fun_cls 103 (by decide)) fun x dx => ?_
  refine TCall.def G.fTSInit Lm (body := bodyOf (meth 13 0)) (by kernel_rfl) (by kernel_rfl) (by decide +kernel) fun ws ew => ?_
  obtain ⟨y, rfl, ey⟩ := args1 ew
  refine bindInit y G.toTop ⟨fun z hz => ?_, ?_⟩
  · simp at hz; rcases hz with rfl | rfl <;> exact .inl (by kernel_rfl)
  rw [show erB [(Str.ofString "self", y), (Str.ofString "graph", .none)] = [(Str.ofString "self", .ref x), (Str.ofString "graph", .none)] by simp only [erB, List.map, ey]; rfl]
  refine FnBody.flat (m := (rR (Str.ofString "self") x (rV (Str.ofString "graph") (some .none) (rV (Str.ofString "node") none (rV (Str.ofString "predecessors") none []))))) (by kernel_rfl) (by kernel_rfl) (by kernel_rfl) fun env E hk => ?_
  have hm : InMain env := ⟨E.globals, E.builtins⟩
  have k_self : env.kindOf (Str.ofString "self") = some NameKind.local := E.kind (by kernel_rfl)
  have k_graph : env.kindOf (Str.ofString "graph") = some NameKind.local := E.kind (by kernel_rfl)
  have k_node : env.kindOf (Str.ofString "node") = some NameKind.local := E.kind (by kernel_rfl)
  have k_predecessors : env.kindOf (Str.ofString "predecessors") = some NameKind.local := E.kind (by kernel_rfl)
  have c1 := N.cls
  have c2 := N.sa
  have c3 := N.ga
  have c4 := N.a1
  have c5 := N.a2
  have c6 := N.a3
  have c7 := N.a4
  show TX C d (_ :: _ :: _ :: _ :: _ :: []) env ((env.locals, _) :: (x, _) :: (dx, attO (rV (Str.ofString "_node2info") none (rV (Str.ofString "_ready_nodes") none (rV (Str.ofString "_npassedout") none (rV (Str.ofString "_nfinished") none []))))) :: H) _
  walk_at "xs"
  refine TE.dict0 fun n2i ep => ?_
  walk_at "xs"
  (refine' TSetA.inst (by walk_at "a") ?hx ?hp ?hs (by walk_at "a") (by walk_at "a") ?h3 ?hz ?_; (case hx => walk_at "has"); (case hs => walk_at "swap"); (case hp => walk_at "put"); (case h3 => (with_reducible first | exact lk_a1 | exact lk_a2 | exact lk_a3 | exact lk_a4 | exact lk_m1 | exact lk_m2 | exact lk_m3 | exact lk_m4 | exact lk_m5 | exact lk_m6 | exact lk_m7)); (case hz => first | decide | exact sz3 rfl))
  walk_at "xs"
  (refine' TSetA.inst (by walk_at "a") ?hx ?hp ?hs (by walk_at "a") (by walk_at "a") ?h3 ?hz ?_; (case hx => walk_at "has"); (case hs => walk_at "swap"); (case hp => walk_at "put"); (case h3 => (with_reducible first | exact lk_a1 | exact lk_a2 | exact lk_a3 | exact lk_a4 | exact lk_m1 | exact lk_m2 | exact lk_m3 | exact lk_m4 | exact lk_m5 | exact lk_m6 | exact lk_m7)); (case hz => first | decide | exact sz3 rfl))
  walk_at "xs"
  (refine' TSetA.inst (by walk_at "a") ?hx ?hp ?hs (by walk_at "a") (by walk_at "a") ?h3 ?hz ?_; (case hx => walk_at "has"); (case hs => walk_at "swap"); (case hp => walk_at "put"); (case h3 => (with_reducible first | exact lk_a1 | exact lk_a2 | exact lk_a3 | exact lk_a4 | exact lk_m1 | exact lk_m2 | exact lk_m3 | exact lk_m4 | exact lk_m5 | exact lk_m6 | exact lk_m7)); (case hz => first | decide | exact sz3 rfl))
  walk_at "xs"
  (refine' TSetA.inst (by walk_at "a") ?hx ?hp ?hs (by walk_at "a") (by walk_at "a") ?h3 ?hz ?_; (case hx => walk_at "has"); (case hs => walk_at "swap"); (case hp => walk_at "put"); (case h3 => (with_reducible first | exact lk_a1 | exact lk_a2 | exact lk_a3 | exact lk_a4 | exact lk_m1 | exact lk_m2 | exact lk_m3 | exact lk_m4 | exact lk_m5 | exact lk_m6 | exact lk_m7)); (case hz => first | decide | exact sz3 rfl))
  walk_at "xs"
  refine split_bool (b := false) (fun h => by cases h) (fun _ => ?_)
  walk_at "xs"
  refine ⟨_, (List.sublist_cons_self _ _).cons_cons _, rfl, _, ?_, h ⟨x, dx, n2i, ep, [], none, 0, 0⟩ rfl rfl rfl rfl⟩
  exact (List.Perm.swap ..).trans ((List.Perm.swap ..).cons _)
/-- the sorter with a node for n, at x -/
structure Ens (S : Srt) (n : Int) (S' : Srt) (x : Info) : Prop where
  self : S'.self = S.self
  dx : S'.dx = S.dx
  n2i : S'.n2i = S.n2i
  ready : S'.ready = S.ready
  passed : S'.passed = S.passed
  fin : S'.fin = S.fin
  node : x.node = n
  how : (x ∈ S.infos ∧ S'.infos = S.infos) ∨ (n ∉ nodesOf S.infos ∧ x.np = 0 ∧ x.succ = [] ∧ S'.infos = S.infos ++ [x])
theorem stored_new {xs : List Info} {x : Info} (hn : x.node ∉ nodesOf xs) : stored (n2iD xs) x.node (.ref x.ia) = n2iD (xs ++ [x]) := by
  unfold stored
  rw [if_neg]
  · simp [n2iD]
  · intro q
    obtain ⟨p, hp, e⟩ := List.any_eq_true.mp q
    obtain ⟨y, hy, rfl⟩ := List.mem_map.mp hp
    exact hn (List.mem_map.mpr ⟨y, hy, by simpa using e⟩)
theorem sortH_snoc {C : Cx} {S : Srt} {X : Info} {ep : Nat} : sortH C { S with infos := S.infos ++ [X], ep := ep } = ((S.self, instO 167 S.dx) :: (S.dx, attO (attS S)) :: (S.n2i, dO C (n2iD (S.infos ++ [X])) ep) :: (readyH S ++ infosH S.infos)) ++ infoH X := by
  unfold sortH
  rw [show infosH (S.infos ++ [X]) = infosH S.infos ++ infoH X by simp [infosH]]
  simp only [List.cons_append, List.append_assoc]
  rfl
set_option maxHeartbeats 4000000 in
theorem cInfo {C : Cx} {d : Nat} {H : SH} {Q : Value → SH → Prop} (G : Gr C) {S : Srt} {n : Int} (hz : S.infos.length ≤ 1000) (h : ∀ S' x, Ens S n S' x → Q (.ref x.ia) (sortH C S' ++ H)) :
    TCall C (d + 3) (.ref 110) [.ref S.self, .int n 0] (sortH C S ++ H) Q := by
  obtain ⟨mN, N⟩ := G.sor
  have Lm := G.lm
  refine TCall.frame ?_
  refine TCall.postPerm ?_
  refine TCall.def2 G.fInfo Lm (body := bodyOf (meth 13 1)) (by kernel_rfl) (by kernel_rfl) (by decide +kernel) (p := Str.ofString "self") (q := Str.ofString "node") (by intro x y; kernel_rfl) ⟨.inl (by kernel_rfl), .inl (by kernel_rfl)⟩ ?_
  refine FnBody.flat (m := (rR (Str.ofString "self") S.self (rI (Str.ofString "node") n (rV (Str.ofString "result") none [])))) (by kernel_rfl) (by kernel_rfl) (by kernel_rfl) fun env E hk => ?_
  have hm : InMain env := ⟨E.globals, E.builtins⟩
  have k_self : env.kindOf (Str.ofString "self") = some NameKind.local := E.kind (by kernel_rfl)
  have k_node : env.kindOf (Str.ofString "node") = some NameKind.local := E.kind (by kernel_rfl)
  have k_result : env.kindOf (Str.ofString "result") = some NameKind.local := E.kind (by kernel_rfl)
  have k_UNodeInfo : env.kindOf (Str.ofString "_NodeInfo") = some NameKind.globalImplicit := E.kind (by kernel_rfl)
  have c1 := N.cls
  have c2 := N.sa
  have c3 := N.ga
  have c4 := N.a1
  have n1 := G.n_node
  show TX C (d + 2) (_ :: _ :: []) env ((env.locals, _) :: (S.self, instO 167 S.dx) :: (S.dx, attO (rR (Str.ofString "_node2info") S.n2i (rV (Str.ofString "_ready_nodes") (some (readyV S)) (rI (Str.ofString "_npassedout") S.passed (rI (Str.ofString "_nfinished") S.fin []))))) :: (S.n2i, dO C (n2iD S.infos) S.ep) :: (readyH S ++ infosH S.infos)) _
  walk_at "xs"
  (refine' TAt.inst (by walk_at "a") ?hx ?hm ?hv ?hb (by walk_at "a") (by walk_at "a") ?h3 ?_; (case hx => walk_at "has"); (case hm => walk_at "has"); (case hv => walk_at "loc"); (case hb => first | exact readyV_nb | (intro b q; cases q)); (case h3 => (with_reducible first | exact lk_a1 | exact lk_a2 | exact lk_a3 | exact lk_a4 | exact lk_m1 | exact lk_m2 | exact lk_m3 | exact lk_m4 | exact lk_m5 | exact lk_m6 | exact lk_m7)))
  refine TM.dict (by walk_at "has") F.slot_dict_get F.type_dict_get ?_
  walk_at "xs"
  refine TCall.dictGet G.sys (by walk_at "has") ?_
  rw [n2iD_at]
  cases hf : S.infos.find? (·.node = n) with
  | some x =>
    obtain ⟨hx, hn⟩ := find_node hf
    walk_at "xs"
    refine split_bool (fun h => by cases h) (fun _ => ?_)
    walk_at "xs"
    refine ⟨_, List.sublist_cons_self _ _, _, .refl _, h S x ⟨rfl, rfl, rfl, rfl, rfl, rfl, hn, .inl ⟨hx, rfl⟩⟩⟩
  | none =>
    walk_at "xs"
    refine split_bool (fun _ => ?_) (fun h => by cases h)
    refine TX.asgSubName hk ?_
    walk_at "xs"
    refine ⟨Fix.ref, cNodeOk G, ?_⟩
    refine cNode G fun x sa => ?_
    show TE _ _ _ _ ((x, _) :: (sa, _) :: _ :: _) _
    walk_at "xs"
    (refine' TAt.inst (by walk_at "a") ?hx ?hm ?hv ?hb (by walk_at "a") (by walk_at "a") ?h3 ?_; (case hx => walk_at "has"); (case hm => walk_at "has"); (case hv => walk_at "loc"); (case hb => first | exact readyV_nb | (intro b q; cases q)); (case h3 => (with_reducible first | exact lk_a1 | exact lk_a2 | exact lk_a3 | exact lk_a4 | exact lk_m1 | exact lk_m2 | exact lk_m3 | exact lk_m4 | exact lk_m5 | exact lk_m6 | exact lk_m7)))
    walk_at "xs"
    refine TSetI.dict (kvs := n2iD S.infos) (ep := S.ep) (fun ep' => by walk_at "swap") (Nat.le_trans (by simpa [n2iD] using hz) (sz rfl)) fun ep' => ?_
    walk_at "xs"
    have hn : n ∉ nodesOf S.infos := fun hm' => by
      obtain ⟨y, hy⟩ := find_some hm'
      rw [hf] at hy; cases hy
    refine ⟨_, ((List.sublist_cons_self _ _).cons_cons _).cons_cons _, sortH C { S with infos := S.infos ++ [⟨n, x, sa, 0, []⟩], ep := ep' }, ?_, h { S with infos := S.infos ++ [⟨n, x, sa, 0, []⟩], ep := ep' } ⟨n, x, sa, 0, []⟩ ⟨rfl, rfl, rfl, rfl, rfl, rfl, rfl, .inr ⟨hn, rfl, rfl, rfl⟩⟩⟩
    rw [stored_new (x := ⟨n, x, sa, 0, []⟩) hn]
    rw [sortH_snoc]
    exact List.perm_append_comm (l₁ := infoH ⟨n, x, sa, 0, []⟩)
theorem cInfoK {C : Cx} {d : Nat} {K : SH} {Q : Value → SH → Prop} (G : Gr C) {S : Srt} {n : Int} (hz : S.infos.length ≤ 1000) (h : ∀ S' x, Ens S n S' x → Q (.ref x.ia) (K ++ sortH C S')) :
    TCall C (d + 3) (.ref 110) [.ref S.self, .int n 0] (K ++ sortH C S) Q :=
  TCall.perm List.perm_append_comm (TCall.postPerm (cInfo G hz fun S' x e => ⟨_, List.perm_append_comm, h S' x e⟩))
theorem bindAdd (x y : Value) (ps : List Value) : bindArgs fdAdd ⟨x :: y :: ps, []⟩ = PySem.newTuple ps >>= fun t => Pure.pure [(Str.ofString "self", x), (Str.ofString "node", y), (Str.ofString "predecessors", t)] := by
  cases ps <;> kernel_rfl
noncomputable def pushS (xs : List Info) (n m : Int) : List Info := atNode xs n fun x => { x with succ := x.succ ++ [m] }
noncomputable def bumpS (xs : List Info) (n k : Int) : List Info := atNode xs n fun x => { x with np := x.np + k }
noncomputable def AddL (n : Int) : Srt → List Int → Srt → Prop
  | S, [], S' => S' = S
  | S, p :: ps, S' => ∃ S1 x, Ens S p S1 x ∧ AddL n { S1 with infos := pushS S1.infos p n } ps S'
noncomputable def AddR (n : Int) (S : Srt) (ps : List Int) (S' : Srt) : Prop := ∃ S1 x, Ens S n S1 x ∧ AddL n { S1 with infos := bumpS S1.infos n ps.length } ps S'
theorem AddL.snoc {n p : Int} {x : Info} : ∀ {S S1 S2 : Srt} {ps : List Int}, AddL n S ps S1 → Ens S1 p S2 x → AddL n S (ps ++ [p]) { S2 with infos := pushS S2.infos p n }
  | S, S1, S2, [], h, e => by
    cases (show S1 = S from h)
    exact ⟨S2, x, e, rfl⟩
  | S, S1, S2, q :: ps, ⟨S3, y, e3, h⟩, e => ⟨S3, y, e3, AddL.snoc h e⟩
theorem pushS_nodes {xs : List Info} {n m : Int} : nodesOf (pushS xs n m) = nodesOf xs := atNode_nodes fun _ => rfl
theorem bumpS_nodes {xs : List Info} {n m : Int} : nodesOf (bumpS xs n m) = nodesOf xs := atNode_nodes fun _ => rfl
theorem pushS_len {xs : List Info} {n m : Int} : (pushS xs n m).length = xs.length := by simp [pushS, atNode]
theorem bumpS_len {xs : List Info} {n m : Int} : (bumpS xs n m).length = xs.length := by simp [bumpS, atNode]
theorem Ens.nodup {S S' : Srt} {n : Int} {x : Info} (e : Ens S n S' x) (h : (nodesOf S.infos).Nodup) : (nodesOf S'.infos).Nodup ∧ x ∈ S'.infos ∧ S'.infos.length ≤ S.infos.length + 1 := by
  rcases e.how with ⟨h1, h2⟩ | ⟨h1, _, _, h2⟩
  · rw [h2]; exact ⟨h, h1, Nat.le_succ _⟩
  · rw [h2]
    refine ⟨?_, by simp, by simp⟩
    rw [nodesOf, List.map_append, List.nodup_append]
    refine ⟨h, by simp, fun a ha b hb q => ?_⟩
    simp at hb
    rw [hb, e.node] at q
    exact h1 (q ▸ ha)
theorem AddL.keep {n : Int} : ∀ {S S' : Srt} {ps : List Int}, AddL n S ps S' → (nodesOf S.infos).Nodup → S'.self = S.self ∧ S'.ready = S.ready ∧ S'.passed = S.passed ∧ S'.fin = S.fin ∧ (nodesOf S'.infos).Nodup ∧ S'.infos.length ≤ S.infos.length + ps.length
  | S, S', [], h, nd => by cases (show S' = S from h); exact ⟨rfl, rfl, rfl, rfl, nd, Nat.le_refl _⟩
  | S, S', q :: ps, ⟨S3, y, e3, h⟩, nd => by
    obtain ⟨n1, n2, n3⟩ := e3.nodup nd
    obtain ⟨h1, h2, h3, h4, h5, h6⟩ := AddL.keep h (by rw [pushS_nodes]; exact n1)
    rw [pushS_len] at h6
    refine ⟨h1.trans e3.self, h2.trans e3.ready, h3.trans e3.passed, h4.trans e3.fin, h5, ?_⟩
    simp; lia
theorem mem_atNode {xs : List Info} {n : Int} {f : Info → Info} {y : Info} (h : y ∈ atNode xs n f) : y ∈ xs ∨ ∃ z ∈ xs, z.node = n ∧ y = f z := by
  obtain ⟨z, hz, rfl⟩ := List.mem_map.mp h
  by_cases e : z.node = n
  · rw [if_pos e]; exact .inr ⟨z, hz, e, rfl⟩
  · rw [if_neg e]; exact .inl hz
theorem Ens.succLen {S S' : Srt} {n : Int} {x : Info} {k : Nat} (e : Ens S n S' x) (h : ∀ y ∈ S.infos, y.succ.length ≤ k) : ∀ y ∈ S'.infos, y.succ.length ≤ k := by
  rcases e.how with ⟨h1, h2⟩ | ⟨h1, _, h3, h2⟩
  · rw [h2]; exact h
  · rw [h2]
    intro y hy
    rcases List.mem_append.mp hy with hy | hy
    · exact h y hy
    · simp at hy; subst hy; rw [h3]; exact Nat.zero_le _
theorem AddL.succLen {n : Int} : ∀ {S S' : Srt} {ps : List Int} {k : Nat}, AddL n S ps S' → (∀ y ∈ S.infos, y.succ.length ≤ k) → ∀ y ∈ S'.infos, y.succ.length ≤ k + ps.length
  | S, S', [], k, h, hk => by cases (show S' = S from h); exact hk
  | S, S', q :: ps, k, ⟨S3, y, e3, h⟩, hk => by
    have := AddL.succLen (k := k + 1) h (fun z hz => by
      rcases mem_atNode hz with hz | ⟨w, hw, _, rfl⟩
      · exact Nat.le_succ_of_le (e3.succLen hk z hz)
      · have := e3.succLen hk w hw
        simp; exact this)
    intro z hz
    have := this z hz
    simp; lia
set_option maxHeartbeats 4000000 in
theorem cAddC {C : Cx} {d : Nat} {H : SH} {Q : Value → SH → Prop} (G : Gr C) {S : Srt} {n : Int} {ps : List Int} (nd : (nodesOf S.infos).Nodup) (hr : S.ready = none) (hz : S.infos.length + ps.length + 1 ≤ 900) (hsu : ∀ y ∈ S.infos, y.succ.length ≤ 900) (h : ∀ S', AddR n S ps S' → Q .none (sortH C S' ++ H)) :
    TCallC C (d + 4) (.ref 117) (.ref S.self :: .int n 0 :: intL ps) (sortH C S ++ H) Q := by
  obtain ⟨mN, N⟩ := G.sor
  obtain ⟨mO, O⟩ := G.nod
  have Lm := G.lm
  refine TCallC.frame ?_
  refine TCallC.def G.fAdd Lm (body := bodyOf (meth 13 2)) (by kernel_rfl) (by kernel_rfl) (by decide +kernel) fun ws ew => ?_
  obtain ⟨x, y, zs, rfl, ex, ey, ez⟩ : ∃ x y zs, ws = x :: y :: zs ∧ er x = .ref S.self ∧ er y = .int n 0 ∧ zs.map er = intL ps := by
    match ws, ew with
    | x :: y :: zs, ew => simp at ew; exact ⟨x, y, zs, rfl, ew.1, ew.2.1, ew.2.2⟩
    | [_], ew => simp at ew
    | [], ew => simp at ew
  rw [bindAdd]
  have hzl : zs.length = ps.length := by have := congrArg List.length ez; simpa [intL] using this
  refine T.bind (T.newTuple (by rw [hzl]; exact Nat.le_trans (by lia) (sz (n := 900) rfl)) fun tp => T.pure ⟨fun z hz => ?_, ?_⟩)
  · simp at hz; rcases hz with rfl | rfl | rfl <;> exact .inl (by kernel_rfl)
  rw [show erB [(Str.ofString "self", x), (Str.ofString "node", y), (Str.ofString "predecessors", .ref tp)] = [(Str.ofString "self", .ref S.self), (Str.ofString "node", .int n 0), (Str.ofString "predecessors", .ref tp)] by simp only [erB, List.map, ex, ey]; rfl, ez]
  refine FnBody.flat (m := (rR (Str.ofString "self") S.self (rI (Str.ofString "node") n (rR (Str.ofString "predecessors") tp (rV (Str.ofString "nodeinfo") none (rV (Str.ofString "pred") none (rV (Str.ofString "pred_info") none []))))))) (by kernel_rfl) (by kernel_rfl) (by kernel_rfl) fun env E hk => ?_
  have hm : InMain env := ⟨E.globals, E.builtins⟩
  have k_self : env.kindOf (Str.ofString "self") = some NameKind.local := E.kind (by kernel_rfl)
  have k_node : env.kindOf (Str.ofString "node") = some NameKind.local := E.kind (by kernel_rfl)
  have k_predecessors : env.kindOf (Str.ofString "predecessors") = some NameKind.local := E.kind (by kernel_rfl)
  have k_nodeinfo : env.kindOf (Str.ofString "nodeinfo") = some NameKind.local := E.kind (by kernel_rfl)
  have k_pred : env.kindOf (Str.ofString "pred") = some NameKind.local := E.kind (by kernel_rfl)
  have k_pred_info : env.kindOf (Str.ofString "pred_info") = some NameKind.local := E.kind (by kernel_rfl)
  have k_ValueError : env.kindOf (Str.ofString "ValueError") = some NameKind.globalImplicit := E.kind (by kernel_rfl)
  have k_len : env.kindOf (Str.ofString "len") = some NameKind.globalImplicit := E.kind (by kernel_rfl)
  have c1 := N.cls
  have c2 := N.sa
  have c3 := N.ga
  have c4 := N.a1
  have c5 := N.a2
  have c6 := N.gh
  have c7 := N.info
  have f1 := G.fInfo
  have f2 := G.fun_cls 110 (by decide)
  have n1 := G.n_len
  have o1 := O.cls
  have o2 := O.np
  have o3 := O.su
  show TX C (d + 3) (_ :: _ :: _ :: _ :: []) env ((env.locals, _) :: (tp, _) :: ((S.self, instO 167 S.dx) :: (S.dx, attO (rR (Str.ofString "_node2info") S.n2i (rV (Str.ofString "_ready_nodes") (some (readyV S)) (rI (Str.ofString "_npassedout") S.passed (rI (Str.ofString "_nfinished") S.fin []))))) :: (S.n2i, dO C (n2iD S.infos) S.ep) :: (readyH S ++ infosH S.infos))) _
  have rv : (!(readyV S == .none)) = false := by unfold readyV; rw [hr]; rfl
  walk_at "xs"
  (refine' TAt.inst (by walk_at "a") ?hx ?hm ?hv ?hb (by walk_at "a") (by walk_at "a") ?h3 ?_; (case hx => walk_at "has"); (case hm => walk_at "has"); (case hv => walk_at "loc"); (case hb => first | exact readyV_nb | (intro b q; cases q)); (case h3 => (with_reducible first | exact lk_a1 | exact lk_a2 | exact lk_a3 | exact lk_a4 | exact lk_m1 | exact lk_m2 | exact lk_m3 | exact lk_m4 | exact lk_m5 | exact lk_m6 | exact lk_m7)))
  walk_at "xs"
  refine split_bool (fun h => by rw [rv] at h; cases h) (fun _ => ?_)
  walk_at "xs"
  (refine' TM.inst (by walk_at "a") ?hF ?hfc ?hx ?hm (by walk_at "a") (by walk_at "a") (by walk_at "a") ?h3 ?h4 ?_; (case hx => walk_at "has"); (case hm => walk_at "has"); (case h3 => exact not_att (by decide +kernel)); (case h4 => (with_reducible first | exact lk_a1 | exact lk_a2 | exact lk_a3 | exact lk_a4 | exact lk_m1 | exact lk_m2 | exact lk_m3 | exact lk_m4 | exact lk_m5 | exact lk_m6 | exact lk_m7)); (case hF => walk_at "a"); (case hfc => walk_at "a"))
  walk_at "xs"
  refine ⟨f1.ok, ?_⟩
  refine cInfoK (K := [_, _]) G (by lia) fun S1 x e1 => ?_
  obtain ⟨nd1, hx1, hl1⟩ := e1.nodup nd
  show StoP _ _ _ (_ :: _ :: ((S1.self, instO 167 S1.dx) :: (S1.dx, attO (rR (Str.ofString "_node2info") S1.n2i (rV (Str.ofString "_ready_nodes") (some (readyV S1)) (rI (Str.ofString "_npassedout") S1.passed (rI (Str.ofString "_nfinished") S1.fin []))))) :: (S1.n2i, dO C (n2iD S1.infos) S1.ep) :: (readyH S1 ++ infosH S1.infos))) _
  walk_at "xs"
  obtain ⟨hx2, hx3⟩ := has_info hx1
  (refine' TAt.slot (by walk_at "a") ?hx (by walk_at "a") ?hz ?hv ?hb ?_; (case hx => walk_at "has"); (case hz => decide); (case hv => rfl); (case hb => (intro b q; cases q)))
  walk_at "xs"
  refine TCall.lenTup (by walk_at "has") (by simp [intL]; exact Nat.le_trans (by lia) (sz (n := 900) rfl)) ?_
  walk_at "xs"
  have hs1 := swap_info (f := fun y => { y with np := y.np + ps.length }) nd1 hx1 ⟨rfl, rfl, rfl⟩
  rw [show (intL ps).length = ps.length by simp [intL]]
  (refine' TSetA.slot (by walk_at "a") ?hs (by walk_at "a") ?hz ?hv ?_; (case hs => walk_at "swap"); (case hz => decide); (case hv => rfl))
  refine TX.for hk ?_
  walk_at "es"
  have hup : ∀ i : Nat, i < ps.length → ((intL ps)[i]? = some (.int (ps.getD i 0) 0)) ∧ ps.take (i + 1) = ps.take i ++ [ps.getD i 0] := fun i hi => by
    refine ⟨by simp [intL, List.getElem?_eq_getElem hi, List.getD_eq_getElem?_getD], ?_⟩
    rw [List.take_add_one, List.getElem?_eq_getElem hi]
    simp [List.getD_eq_getElem?_getD, List.getElem?_eq_getElem hi]
  refine ⟨_, _, Iter.tup (xs := intL ps), fun i Hi => ∃ S2 pv piv, AddL n { S1 with infos := bumpS S1.infos n ps.length } (ps.take i) S2 ∧ Hi = (env.locals, .ns (rR (Str.ofString "self") S.self (rI (Str.ofString "node") n (rR (Str.ofString "predecessors") tp (rR (Str.ofString "nodeinfo") x.ia (rV (Str.ofString "pred") pv (rV (Str.ofString "pred_info") piv []))))))) :: (tp, .tup (intL ps)) :: sortH C S2, ?_, ?_, ?_, ?_⟩
  · refine ⟨_, none, none, rfl, ?_⟩
    have hb : bumpS S1.infos n ps.length = atNode S1.infos x.node fun y => { y with np := y.np + ps.length } := by rw [e1.node]; rfl
    have hn : n2iD (bumpS S1.infos n ps.length) = n2iD S1.infos := atNode_n2i fun _ => ⟨rfl, rfl⟩
    unfold sortH
    rw [hn, hb]
    rfl
  · rintro i Hi ⟨S2, pv, piv, _, rfl⟩
    exact .tail .head
  · rintro i u Hi hu ⟨S2, pv, piv, ha, rfl⟩
    have hi : i < ps.length := by
      have := (List.getElem?_eq_some_iff.mp hu).1
      simpa [intL] using this
    obtain ⟨h1, h2⟩ := hup i hi
    rw [h1] at hu
    cases hu
    obtain ⟨a1, a2, a3, a4, a5, a6⟩ := ha.keep (by rw [bumpS_nodes]; exact nd1)
    rw [bumpS_len] at a6
    have hself : S.self = S2.self := by rw [a1]; exact e1.self.symm
    have htk : (ps.take i).length ≤ ps.length := by simp; lia
    show StoP _ _ _ (_ :: _ :: ((S2.self, instO 167 S2.dx) :: (S2.dx, attO (rR (Str.ofString "_node2info") S2.n2i (rV (Str.ofString "_ready_nodes") (some (readyV S2)) (rI (Str.ofString "_npassedout") S2.passed (rI (Str.ofString "_nfinished") S2.fin []))))) :: (S2.n2i, dO C (n2iD S2.infos) S2.ep) :: (readyH S2 ++ infosH S2.infos))) _
    rw [hself]
    walk_at "xs"
    (refine' TM.inst (by walk_at "a") ?hF ?hfc ?hx ?hm (by walk_at "a") (by walk_at "a") (by walk_at "a") ?h3 ?h4 ?_; (case hx => walk_at "has"); (case hm => walk_at "has"); (case h3 => exact not_att (by decide +kernel)); (case h4 => (with_reducible first | exact lk_a1 | exact lk_a2 | exact lk_a3 | exact lk_a4 | exact lk_m1 | exact lk_m2 | exact lk_m3 | exact lk_m4 | exact lk_m5 | exact lk_m6 | exact lk_m7)); (case hF => walk_at "a"); (case hfc => walk_at "a"))
    walk_at "xs"
    refine ⟨f1.ok, ?_⟩
    refine cInfoK (K := [_, _]) G (by lia) fun S3 z e3 => ?_
    obtain ⟨nd3, hx3, hl3⟩ := e3.nodup a5
    show StoP _ _ _ (_ :: _ :: ((S3.self, instO 167 S3.dx) :: (S3.dx, attO (rR (Str.ofString "_node2info") S3.n2i (rV (Str.ofString "_ready_nodes") (some (readyV S3)) (rI (Str.ofString "_npassedout") S3.passed (rI (Str.ofString "_nfinished") S3.fin []))))) :: (S3.n2i, dO C (n2iD S3.infos) S3.ep) :: (readyH S3 ++ infosH S3.infos))) _
    walk_at "xs"
    obtain ⟨hy2, hy3⟩ := has_info hx3
    (refine' TAt.slot (by walk_at "a") ?hx (by walk_at "a") ?hz ?hv ?hb ?_; (case hx => walk_at "has"); (case hz => decide); (case hv => rfl); (case hb => (intro b q; cases q)))
    walk_at "xs"
    have hs3 : Swap z.sa (.list (intL z.succ)) (.list (intL z.succ ++ [.int n 0])) (infosH S3.infos) (infosH (pushS S3.infos (ps.getD i 0) n)) := by
      have := swap_succ (f := fun y => { y with succ := y.succ ++ [n] }) nd3 hx3 ⟨rfl, rfl, rfl, rfl⟩
      rw [e3.node] at this
      simpa [intL, pushS] using this
    have hsl : z.succ.length ≤ 1800 := by
      have := e3.succLen (ha.succLen (k := 900) (fun y hy => by
        rcases mem_atNode hy with hy | ⟨w, hw, _, rfl⟩
        · exact e1.succLen hsu y hy
        · exact e1.succLen hsu w hw)) z hx3
      lia
    refine TCall.append (by walk_at "swap") (by rw [intL_length]; exact Nat.le_trans hsl (sz rfl)) ⟨by simp, ?_⟩
    walk_at "xs"
    refine ⟨{ S3 with infos := pushS S3.infos (ps.getD i 0) n }, some (.int (ps.getD i 0) 0), some (.ref z.ia), by rw [h2]; exact ha.snoc e3, ?_⟩
    have hn : n2iD (pushS S3.infos (ps.getD i 0) n) = n2iD S3.infos := atNode_n2i fun _ => ⟨rfl, rfl⟩
    unfold sortH
    rw [hn]
    rfl
  · rintro Hn ⟨S2, pv, piv, ha, rfl⟩
    rw [intL_length, List.take_length] at ha
    walk_at "xs"
    exact ⟨sortH C S2, (List.sublist_cons_self _ _).trans (List.sublist_cons_self _ _), h S2 ⟨S1, x, e1, ha⟩⟩
set_option maxHeartbeats 4000000 in
theorem cActive {C : Cx} {d : Nat} {K : SH} {Q : Value → SH → Prop} (G : Gr C) {S : Srt} {r : Addr} {l : List Int} (hr : S.ready = some (r, l)) (hz : l.length ≤ 900) (h : Q (.bool (decide (S.fin < S.passed) || !l.isEmpty)) (K ++ sortH C S)) :
    TCall C (d + 1) (.ref 136) [.ref S.self] (K ++ sortH C S) Q := by
  refine TCall.frameL ?_
  obtain ⟨mN, N⟩ := G.sor
  have Lm := G.lm
  rw [sortH_some hr] at h ⊢
  refine TCall.def1 G.fActive Lm (body := bodyOf (meth 13 5)) (by kernel_rfl) (by kernel_rfl) (by decide +kernel) (p := Str.ofString "self") (by intro x; kernel_rfl) (.inl (by kernel_rfl)) ?_
  refine FnBody.flat (m := (rR (Str.ofString "self") S.self [])) (by kernel_rfl) (by kernel_rfl) (by kernel_rfl) fun env E hk => ?_
  have hm : InMain env := ⟨E.globals, E.builtins⟩
  have k_self : env.kindOf (Str.ofString "self") = some NameKind.local := E.kind (by kernel_rfl)
  have k_ValueError : env.kindOf (Str.ofString "ValueError") = some NameKind.globalImplicit := E.kind (by kernel_rfl)
  have k_bool : env.kindOf (Str.ofString "bool") = some NameKind.globalImplicit := E.kind (by kernel_rfl)
  have c1 := N.cls
  have c3 := N.ga
  have c5 := N.a2
  have c6 := N.a3
  have c7 := N.a4
  have n1 := G.n_bool
  show TX C d (_ :: _ :: []) env _ _
  walk_at "xs"
  (refine' TAt.inst (by walk_at "a") ?hx ?hm ?hv ?hb (by walk_at "a") (by walk_at "a") ?h3 ?_; (case hx => walk_at "has"); (case hm => walk_at "has"); (case hv => walk_at "loc"); (case hb => first | exact readyV_nb | (intro b q; cases q)); (case h3 => (with_reducible first | exact lk_a1 | exact lk_a2 | exact lk_a3 | exact lk_a4 | exact lk_m1 | exact lk_m2 | exact lk_m3 | exact lk_m4 | exact lk_m5 | exact lk_m6 | exact lk_m7)))
  walk_at "xs"
  refine split_bool (b := false) (fun h => by cases h) (fun _ => ?_)
  walk_at "xs"
  (refine' TAt.inst (by walk_at "a") ?hx ?hm ?hv ?hb (by walk_at "a") (by walk_at "a") ?h3 ?_; (case hx => walk_at "has"); (case hm => walk_at "has"); (case hv => walk_at "loc"); (case hb => first | exact readyV_nb | (intro b q; cases q)); (case h3 => (with_reducible first | exact lk_a1 | exact lk_a2 | exact lk_a3 | exact lk_a4 | exact lk_m1 | exact lk_m2 | exact lk_m3 | exact lk_m4 | exact lk_m5 | exact lk_m6 | exact lk_m7)))
  walk_at "xs"
  (refine' TAt.inst (by walk_at "a") ?hx ?hm ?hv ?hb (by walk_at "a") (by walk_at "a") ?h3 ?_; (case hx => walk_at "has"); (case hm => walk_at "has"); (case hv => walk_at "loc"); (case hb => first | exact readyV_nb | (intro b q; cases q)); (case h3 => (with_reducible first | exact lk_a1 | exact lk_a2 | exact lk_a3 | exact lk_a4 | exact lk_m1 | exact lk_m2 | exact lk_m3 | exact lk_m4 | exact lk_m5 | exact lk_m6 | exact lk_m7)))
  walk_at "xs"
  refine split_bool (fun hb => ?_) (fun hb => ?_)
  · rw [hb] at h ⊢
    exact ⟨_, List.sublist_cons_self _ _, h⟩
  · walk_at "xs"
    (refine' TAt.inst (by walk_at "a") ?hx ?hm ?hv ?hb (by walk_at "a") (by walk_at "a") ?h3 ?_; (case hx => walk_at "has"); (case hm => walk_at "has"); (case hv => walk_at "loc"); (case hb => first | exact readyV_nb | (intro b q; cases q)); (case h3 => (with_reducible first | exact lk_a1 | exact lk_a2 | exact lk_a3 | exact lk_a4 | exact lk_m1 | exact lk_m2 | exact lk_m3 | exact lk_m4 | exact lk_m5 | exact lk_m6 | exact lk_m7)))
    walk_at "xs"
    refine TCall.boolList (by walk_at "has") (by rw [intL_length]; exact Nat.le_trans hz (sz rfl)) ?_
    rw [show (intL l).isEmpty = l.isEmpty by cases l <;> rfl]
    rw [hb] at h
    exact ⟨_, List.sublist_cons_self _ _, h⟩
noncomputable def setNp (xs : List Info) (n k : Int) : List Info := atNode xs n fun x => { x with np := k }
noncomputable def outAll (xs : List Info) (l : List Int) : List Info := l.foldl (fun xs n => setNp xs n (-1)) xs
theorem setNp_nodes {xs : List Info} {n m : Int} : nodesOf (setNp xs n m) = nodesOf xs := atNode_nodes fun _ => rfl
theorem setNp_n2i {xs : List Info} {n m : Int} : n2iD (setNp xs n m) = n2iD xs := atNode_n2i fun _ => ⟨rfl, rfl⟩
theorem outAll_snoc {xs : List Info} {l : List Int} {n : Int} : outAll xs (l ++ [n]) = setNp (outAll xs l) n (-1) := by simp [outAll]
theorem outAll_nodes : ∀ {l : List Int} {xs : List Info}, nodesOf (outAll xs l) = nodesOf xs
  | [], _ => rfl
  | n :: l, xs => by
    show nodesOf (outAll (setNp xs n (-1)) l) = _
    rw [outAll_nodes, setNp_nodes]
theorem intL_at {ps : List Int} {i : Nat} (hi : i < ps.length) : (intL ps)[i]? = some (.int (ps.getD i 0) 0) ∧ ps.take (i + 1) = ps.take i ++ [ps.getD i 0] ∧ ps.getD i 0 ∈ ps := by
  refine ⟨by simp [intL, List.getElem?_eq_getElem hi, List.getD_eq_getElem?_getD], ?_, ?_⟩
  · rw [List.take_add_one, List.getElem?_eq_getElem hi]
    simp [List.getD_eq_getElem?_getD, List.getElem?_eq_getElem hi]
  · simp [List.getD_eq_getElem?_getD, List.getElem?_eq_getElem hi]
theorem n2i_get {xs : List Info} {n : Int} {x : Info} (h : xs.find? (·.node = n) = some x) : valueAt (n2iD xs) n = some (.ref x.ia) := by rw [n2iD_at, h]; rfl
set_option maxHeartbeats 4000000 in
theorem cReady {C : Cx} {d : Nat} {K : SH} {Q : Value → SH → Prop} (G : Gr C) {S : Srt} {r : Addr} {l : List Int} (nd : (nodesOf S.infos).Nodup) (hr : S.ready = some (r, l)) (hz : l.length ≤ 900) (hs : ∀ n ∈ l, n ∈ nodesOf S.infos)
    (h : ∀ tp, Q (.ref tp) ((tp, .tup (intL l)) :: (K ++ sortH C { S with infos := outAll S.infos l, ready := some (r, []), passed := S.passed + l.length }))) :
    TCall C (d + 1) (.ref 129) [.ref S.self] (K ++ sortH C S) Q := by
  refine TCall.postPerm ?_
  refine TCall.frameL ?_
  obtain ⟨mN, N⟩ := G.sor
  obtain ⟨mO, O⟩ := G.nod
  have Lm := G.lm
  have hS : ∀ X, sortH C { S with infos := X } = _ := fun X => sortH_some (S := { S with infos := X }) (r := r) (l := l) hr
  rw [sortH_some hr]
  refine TCall.def1 G.fReady Lm (body := bodyOf (meth 13 4)) (by kernel_rfl) (by kernel_rfl) (by decide +kernel) (p := Str.ofString "self") (by intro x; kernel_rfl) (.inl (by kernel_rfl)) ?_
  refine FnBody.flat (m := (rR (Str.ofString "self") S.self (rV (Str.ofString "result") none (rV (Str.ofString "n2i") none (rV (Str.ofString "node") none []))))) (by kernel_rfl) (by kernel_rfl) (by kernel_rfl) fun env E hk => ?_
  have hm : InMain env := ⟨E.globals, E.builtins⟩
  have k_self : env.kindOf (Str.ofString "self") = some NameKind.local := E.kind (by kernel_rfl)
  have k_result : env.kindOf (Str.ofString "result") = some NameKind.local := E.kind (by kernel_rfl)
  have k_n2i : env.kindOf (Str.ofString "n2i") = some NameKind.local := E.kind (by kernel_rfl)
  have k_node : env.kindOf (Str.ofString "node") = some NameKind.local := E.kind (by kernel_rfl)
  have k_ValueError : env.kindOf (Str.ofString "ValueError") = some NameKind.globalImplicit := E.kind (by kernel_rfl)
  have k_tuple : env.kindOf (Str.ofString "tuple") = some NameKind.globalImplicit := E.kind (by kernel_rfl)
  have k_UNODEUOUT : env.kindOf (Str.ofString "_NODE_OUT") = some NameKind.globalImplicit := E.kind (by kernel_rfl)
  have k_len : env.kindOf (Str.ofString "len") = some NameKind.globalImplicit := E.kind (by kernel_rfl)
  have c1 := N.cls
  have c2 := N.sa
  have c3 := N.ga
  have c4 := N.a1
  have c5 := N.a2
  have c6 := N.a3
  have n1 := G.n_tuple
  have n2 := G.n_out
  have n3 := G.n_len
  have o1 := O.cls
  have o2 := O.np
  show TX C d (_ :: _ :: _ :: _ :: _ :: _ :: _ :: []) env _ _
  walk_at "xs"
  (refine' TAt.inst (by walk_at "a") ?hx ?hm ?hv ?hb (by walk_at "a") (by walk_at "a") ?h3 ?_; (case hx => walk_at "has"); (case hm => walk_at "has"); (case hv => walk_at "loc"); (case hb => first | exact readyV_nb | (intro b q; cases q)); (case h3 => (with_reducible first | exact lk_a1 | exact lk_a2 | exact lk_a3 | exact lk_a4 | exact lk_m1 | exact lk_m2 | exact lk_m3 | exact lk_m4 | exact lk_m5 | exact lk_m6 | exact lk_m7)))
  walk_at "xs"
  refine split_bool (b := false) (fun h => by cases h) (fun _ => ?_)
  walk_at "xs"
  (refine' TAt.inst (by walk_at "a") ?hx ?hm ?hv ?hb (by walk_at "a") (by walk_at "a") ?h3 ?_; (case hx => walk_at "has"); (case hm => walk_at "has"); (case hv => walk_at "loc"); (case hb => first | exact readyV_nb | (intro b q; cases q)); (case h3 => (with_reducible first | exact lk_a1 | exact lk_a2 | exact lk_a3 | exact lk_a4 | exact lk_m1 | exact lk_m2 | exact lk_m3 | exact lk_m4 | exact lk_m5 | exact lk_m6 | exact lk_m7)))
  walk_at "xs"
  refine TCall.tupleOf (by walk_at "has") (by rw [intL_length]; exact Nat.le_trans hz (sz rfl)) fun tp => ?_
  walk_at "xs"
  (refine' TAt.inst (by walk_at "a") ?hx ?hm ?hv ?hb (by walk_at "a") (by walk_at "a") ?h3 ?_; (case hx => walk_at "has"); (case hm => walk_at "has"); (case hv => walk_at "loc"); (case hb => first | exact readyV_nb | (intro b q; cases q)); (case h3 => (with_reducible first | exact lk_a1 | exact lk_a2 | exact lk_a3 | exact lk_a4 | exact lk_m1 | exact lk_m2 | exact lk_m3 | exact lk_m4 | exact lk_m5 | exact lk_m6 | exact lk_m7)))
  walk_at "xs"
  refine TX.for hk ?_
  walk_at "es"
  refine ⟨_, _, Iter.tup (xs := intL l), fun i Hi => ∃ nv, Hi = (tp, .tup (intL l)) :: (env.locals, .ns (rR (Str.ofString "self") S.self (rR (Str.ofString "result") tp (rR (Str.ofString "n2i") S.n2i (rV (Str.ofString "node") nv []))))) :: sortH C { S with infos := outAll S.infos (l.take i) }, ?_, ?_, ?_, ?_⟩
  · exact ⟨none, by rw [hS]; rfl⟩
  · rintro i Hi ⟨nv, rfl⟩
    exact .head
  · rintro i u Hi hu ⟨nv, rfl⟩
    have hi : i < l.length := by
      have := (List.getElem?_eq_some_iff.mp hu).1
      simpa [intL] using this
    obtain ⟨h1, h2, h3⟩ := intL_at hi
    rw [h1] at hu
    cases hu
    obtain ⟨x, hx⟩ := find_some (xs := outAll S.infos (l.take i)) (n := l.getD i 0) (by rw [outAll_nodes]; exact hs _ h3)
    obtain ⟨hxm, hxn⟩ := find_node hx
    have nd1 : (nodesOf (outAll S.infos (l.take i))).Nodup := by rw [outAll_nodes]; exact nd
    have hsw := swap_info (f := fun y => { y with np := -1 }) nd1 hxm ⟨rfl, rfl, rfl⟩
    rw [hS]
    walk_at "xs"
    refine TGet.dict (by walk_at "has") (n2i_get hx) ?_
    (refine' TSetA.slot (by walk_at "a") ?hs (by walk_at "a") ?hz ?hv ?_; (case hs => walk_at "swap"); (case hz => decide); (case hv => rfl))
    walk_at "xs"
    refine ⟨some (.int (l.getD i 0) 0), ?_⟩
    rw [hS, h2, outAll_snoc]
    show _ = _ :: _ :: _ :: _ :: (S.n2i, dO C (n2iD (setNp (outAll S.infos (l.take i)) (l.getD i 0) (-1))) S.ep) :: _
    rw [setNp_n2i]
    rw [hxn]
    rfl
  · rintro Hn ⟨nv, rfl⟩
    rw [hS, intL_length, List.take_length]
    walk_at "xs"
    (refine' TAt.inst (by walk_at "a") ?hx ?hm ?hv ?hb (by walk_at "a") (by walk_at "a") ?h3 ?_; (case hx => walk_at "has"); (case hm => walk_at "has"); (case hv => walk_at "loc"); (case hb => first | exact readyV_nb | (intro b q; cases q)); (case h3 => (with_reducible first | exact lk_a1 | exact lk_a2 | exact lk_a3 | exact lk_a4 | exact lk_m1 | exact lk_m2 | exact lk_m3 | exact lk_m4 | exact lk_m5 | exact lk_m6 | exact lk_m7)))
    refine TM.list (by walk_at "has") F.slot_list_clear F.type_list_clear ?_
    walk_at "xs"
    refine TCall.clear (by walk_at "swap") (by rw [intL_length]; exact Nat.le_trans hz (sz rfl)) ⟨by simp, ?_⟩
    walk_at "xs"
    (refine' TAt.inst (by walk_at "a") ?hx ?hm ?hv ?hb (by walk_at "a") (by walk_at "a") ?h3 ?_; (case hx => walk_at "has"); (case hm => walk_at "has"); (case hv => walk_at "loc"); (case hb => first | exact readyV_nb | (intro b q; cases q)); (case h3 => (with_reducible first | exact lk_a1 | exact lk_a2 | exact lk_a3 | exact lk_a4 | exact lk_m1 | exact lk_m2 | exact lk_m3 | exact lk_m4 | exact lk_m5 | exact lk_m6 | exact lk_m7)))
    walk_at "xs"
    refine TCall.lenTup (by walk_at "has") (by rw [intL_length]; exact Nat.le_trans hz (sz rfl)) ?_
    walk_at "xs"
    (refine' TSetA.inst (by walk_at "a") ?hx ?hp ?hs (by walk_at "a") (by walk_at "a") ?h3 ?hz ?_; (case hx => walk_at "has"); (case hs => walk_at "swap"); (case hp => walk_at "put"); (case h3 => (with_reducible first | exact lk_a1 | exact lk_a2 | exact lk_a3 | exact lk_a4 | exact lk_m1 | exact lk_m2 | exact lk_m3 | exact lk_m4 | exact lk_m5 | exact lk_m6 | exact lk_m7)); (case hz => first | decide | exact sz3 rfl))
    walk_at "xs"
    rw [intL_length]
    refine ⟨_, (List.sublist_cons_self _ _).cons_cons _, (tp, .tup (intL l)) :: (K ++ sortH C { S with infos := outAll S.infos l, ready := some (r, []), passed := S.passed + l.length }), ?_, h tp⟩
    rw [sortH_some (S := { S with infos := outAll S.infos l, ready := some (r, []), passed := S.passed + l.length }) (r := r) (l := []) rfl]
    exact List.perm_middle
theorem bindDone (x y : Value) : bindArgs fdDone ⟨[x, y], []⟩ = PySem.newTuple [y] >>= fun t => Pure.pure [(Str.ofString "self", x), (Str.ofString "nodes", t)] := by kernel_rfl
/-- all but the counts -/
noncomputable def shape (xs : List Info) : List (Int × Addr × Addr × List Int) := xs.map fun x => (x.node, x.ia, x.sa, x.succ)
theorem shape_at {xs : List Info} {n : Int} {f : Info → Info} (hf : ∀ x, (f x).node = x.node ∧ (f x).ia = x.ia ∧ (f x).sa = x.sa ∧ (f x).succ = x.succ) : shape (atNode xs n f) = shape xs := by
  unfold shape atNode
  rw [List.map_map]
  congr 1
  funext x
  show (_, _, _, _) = _
  by_cases h : x.node = n
  · simp only [Function.comp, if_pos h, (hf x).1, (hf x).2.1, (hf x).2.2.1, (hf x).2.2.2]
  · simp only [Function.comp, if_neg h]
theorem shape_nodes {xs ys : List Info} (h : shape xs = shape ys) : nodesOf xs = nodesOf ys := by
  have := congrArg (List.map (·.1)) h
  simpa [shape, nodesOf, Function.comp_def] using this
theorem shape_mem {xs ys : List Info} (h : shape xs = shape ys) {x : Info} (hx : x ∈ ys) : ∃ y ∈ xs, y.node = x.node ∧ y.ia = x.ia ∧ y.sa = x.sa ∧ y.succ = x.succ := by
  have : (x.node, x.ia, x.sa, x.succ) ∈ shape xs := by rw [h]; exact List.mem_map.mpr ⟨x, hx, rfl⟩
  obtain ⟨y, hy, e⟩ := List.mem_map.mp this
  simp at e
  exact ⟨y, hy, e.1, e.2.1, e.2.2.1, e.2.2.2⟩
noncomputable def npOf (xs : List Info) (n : Int) : Int := ((xs.find? (·.node = n)).map (·.np)).getD 0
noncomputable def decS (xs : List Info) (n : Int) : List Info := atNode xs n fun x => { x with np := x.np - 1 }
noncomputable def decStep (p : List Info × List Int) (s : Int) : List Info × List Int := (decS p.1 s, if npOf (decS p.1 s) s = 0 then p.2 ++ [s] else p.2)
noncomputable def decAll (p : List Info × List Int) (ss : List Int) : List Info × List Int := ss.foldl decStep p
theorem decAll_snoc {p : List Info × List Int} {ss : List Int} {s : Int} : decAll p (ss ++ [s]) = decStep (decAll p ss) s := by simp [decAll]
theorem decAll_shape : ∀ {ss : List Int} {p : List Info × List Int}, shape (decAll p ss).1 = shape p.1
  | [], _ => rfl
  | s :: ss, p => by
    show shape (decAll (decStep p s) ss).1 = _
    rw [decAll_shape]
    exact shape_at fun _ => ⟨rfl, rfl, rfl, rfl⟩
theorem decAll_len : ∀ {ss : List Int} {p : List Info × List Int}, (decAll p ss).2.length ≤ p.2.length + ss.length
  | [], _ => Nat.le_refl _
  | s :: ss, p => by
    show (decAll (decStep p s) ss).2.length ≤ _
    have h1 := decAll_len (ss := ss) (p := decStep p s)
    have h2 : (decStep p s).2.length ≤ p.2.length + 1 := by
      unfold decStep
      try dsimp only
      split <;> simp
    simp; lia
theorem npOf_dec {xs : List Info} {n : Int} {x : Info} (nd : (nodesOf xs).Nodup) (hx : x ∈ xs) (hn : x.node = n) : npOf (decS xs n) n = x.np - 1 := by
  have hm : { x with np := x.np - 1 } ∈ decS xs n := List.mem_map.mpr ⟨x, hx, by rw [if_pos hn]⟩
  have := find_of_mem (xs := decS xs n) (by rw [show nodesOf (decS xs n) = nodesOf xs from atNode_nodes fun _ => rfl]; exact nd) hm
  rw [show ({ x with np := x.np - 1 } : Info).node = n from hn] at this
  unfold npOf
  rw [this]; rfl
noncomputable def doneS (S : Srt) (r : Addr) (n : Int) (l ss : List Int) : Srt := { S with infos := (decAll (setNp S.infos n (-2), l) ss).1, ready := some (r, (decAll (setNp S.infos n (-2), l) ss).2), fin := S.fin + 1 }
set_option maxHeartbeats 4000000 in
theorem cDone {C : Cx} {d : Nat} {K : SH} {Q : Value → SH → Prop} (G : Gr C) {S : Srt} {r : Addr} {l : List Int} {n : Int} {x : Info} (nd : (nodesOf S.infos).Nodup) (hr : S.ready = some (r, l)) (hx : x ∈ S.infos) (hn : x.node = n) (hp : x.np = -1)
    (hz : l.length + x.succ.length ≤ 900) (hs : ∀ m ∈ x.succ, m ∈ nodesOf S.infos)
    (h : Q .none (K ++ sortH C (doneS S r n l x.succ))) : TCall C (d + 1) (.ref 150) [.ref S.self, .int n 0] (K ++ sortH C S) Q := by
  subst hn
  refine TCall.frameL ?_
  obtain ⟨mN, N⟩ := G.sor
  obtain ⟨mO, O⟩ := G.nod
  have Lm := G.lm
  have hS : ∀ X L f, sortH C { S with infos := X, ready := some (r, L), fin := f } = _ := fun X L f => sortH_some (S := { S with infos := X, ready := some (r, L), fin := f }) (r := r) (l := L) rfl
  rw [sortH_some hr]
  refine TCall.def G.fDone Lm (body := bodyOf (meth 13 7)) (by kernel_rfl) (by kernel_rfl) (by decide +kernel) fun ws ew => ?_
  obtain ⟨u, v, rfl, eu, ev⟩ := args2 ew
  rw [bindDone]
  refine T.bind (T.newTuple (sz rfl) fun tp => T.pure ⟨fun z hz => ?_, ?_⟩)
  · simp at hz; rcases hz with rfl | rfl <;> exact .inl (by kernel_rfl)
  rw [show erB [(Str.ofString "self", u), (Str.ofString "nodes", .ref tp)] = [(Str.ofString "self", .ref S.self), (Str.ofString "nodes", .ref tp)] by simp only [erB, List.map, eu]; rfl, show [v].map er = [.int x.node 0] by simp [ev]]
  refine FnBody.flat (m := (rR (Str.ofString "self") S.self (rR (Str.ofString "nodes") tp (rV (Str.ofString "n2i") none (rV (Str.ofString "node") none (rV (Str.ofString "nodeinfo") none (rV (Str.ofString "stat") none (rV (Str.ofString "successor") none (rV (Str.ofString "successor_info") none []))))))))) (by kernel_rfl) (by kernel_rfl) (by kernel_rfl) fun env E hk => ?_
  have hm : InMain env := ⟨E.globals, E.builtins⟩
  have k_self : env.kindOf (Str.ofString "self") = some NameKind.local := E.kind (by kernel_rfl)
  have k_nodes : env.kindOf (Str.ofString "nodes") = some NameKind.local := E.kind (by kernel_rfl)
  have k_n2i : env.kindOf (Str.ofString "n2i") = some NameKind.local := E.kind (by kernel_rfl)
  have k_node : env.kindOf (Str.ofString "node") = some NameKind.local := E.kind (by kernel_rfl)
  have k_nodeinfo : env.kindOf (Str.ofString "nodeinfo") = some NameKind.local := E.kind (by kernel_rfl)
  have k_stat : env.kindOf (Str.ofString "stat") = some NameKind.local := E.kind (by kernel_rfl)
  have k_successor : env.kindOf (Str.ofString "successor") = some NameKind.local := E.kind (by kernel_rfl)
  have k_successor_info : env.kindOf (Str.ofString "successor_info") = some NameKind.local := E.kind (by kernel_rfl)
  have k_ValueError : env.kindOf (Str.ofString "ValueError") = some NameKind.globalImplicit := E.kind (by kernel_rfl)
  have k_UNODEUOUT : env.kindOf (Str.ofString "_NODE_OUT") = some NameKind.globalImplicit := E.kind (by kernel_rfl)
  have k_UNODEUDONE : env.kindOf (Str.ofString "_NODE_DONE") = some NameKind.globalImplicit := E.kind (by kernel_rfl)
  have c1 := N.cls
  have c2 := N.sa
  have c3 := N.ga
  have c4 := N.a1
  have c5 := N.a2
  have c7 := N.a4
  have n1 := G.n_out
  have n2 := G.n_done
  have o1 := O.cls
  have o2 := O.np
  have o3 := O.su
  show TX C d (_ :: _ :: _ :: []) env _ _
  walk_at "xs"
  (refine' TAt.inst (by walk_at "a") ?hx ?hm ?hv ?hb (by walk_at "a") (by walk_at "a") ?h3 ?_; (case hx => walk_at "has"); (case hm => walk_at "has"); (case hv => walk_at "loc"); (case hb => first | exact readyV_nb | (intro b q; cases q)); (case h3 => (with_reducible first | exact lk_a1 | exact lk_a2 | exact lk_a3 | exact lk_a4 | exact lk_m1 | exact lk_m2 | exact lk_m3 | exact lk_m4 | exact lk_m5 | exact lk_m6 | exact lk_m7)))
  walk_at "xs"
  refine split_bool (b := false) (fun h => by cases h) (fun _ => ?_)
  walk_at "xs"
  (refine' TAt.inst (by walk_at "a") ?hx ?hm ?hv ?hb (by walk_at "a") (by walk_at "a") ?h3 ?_; (case hx => walk_at "has"); (case hm => walk_at "has"); (case hv => walk_at "loc"); (case hb => first | exact readyV_nb | (intro b q; cases q)); (case h3 => (with_reducible first | exact lk_a1 | exact lk_a2 | exact lk_a3 | exact lk_a4 | exact lk_m1 | exact lk_m2 | exact lk_m3 | exact lk_m4 | exact lk_m5 | exact lk_m6 | exact lk_m7)))
  walk_at "xs"
  refine TX.for hk ?_
  walk_at "es"
  refine ⟨_, _, Iter.tup (xs := [.int x.node 0]), fun i Hi => ∃ v1 v2 v3 v4 v5, Hi = (env.locals, .ns (rR (Str.ofString "self") S.self (rR (Str.ofString "nodes") tp (rR (Str.ofString "n2i") S.n2i (rV (Str.ofString "node") v1 (rV (Str.ofString "nodeinfo") v2 (rV (Str.ofString "stat") v3 (rV (Str.ofString "successor") v4 (rV (Str.ofString "successor_info") v5 []))))))))) :: (tp, .tup [.int x.node 0]) :: (if i = 0 then sortH C S else sortH C (doneS S r x.node l x.succ)), ?_, ?_, ?_, ?_⟩
  · exact ⟨none, none, none, none, none, by rw [if_pos rfl, sortH_some hr]⟩
  · rintro i Hi ⟨v1, v2, v3, v4, v5, rfl⟩
    exact .tail .head
  · rintro i u Hi hu ⟨v1, v2, v3, v4, v5, rfl⟩
    have hi : i = 0 := by
      have := (List.getElem?_eq_some_iff.mp hu).1
      simp at this; exact this
    subst hi
    cases (show some (Value.int x.node 0) = some u from hu)
    rw [if_pos rfl, sortH_some hr]
    have hfx : S.infos.find? (·.node = x.node) = some x := find_of_mem nd hx
    obtain ⟨hx1, hx2⟩ := has_info hx
    walk_at "xs"
    refine TM.dict (by walk_at "has") F.slot_dict_get F.type_dict_get ?_
    walk_at "xs"
    refine TCall.dictGet G.sys (by walk_at "has") ?_
    rw [n2i_get hfx]
    walk_at "xs"
    refine split_bool (b := false) (fun h => by cases h) (fun _ => ?_)
    walk_at "xs"
    (refine' TAt.slot (by walk_at "a") ?hx (by walk_at "a") ?hz ?hv ?hb ?_; (case hx => walk_at "has"); (case hz => decide); (case hv => rfl); (case hb => (intro b q; cases q)))
    rw [hp]
    walk_at "xs"
    refine split_bool (b := false) (fun h => by cases h) (fun _ => ?_)
    walk_at "xs"
    have hsw := swap_info (f := fun y => { y with np := -2 }) nd hx ⟨rfl, rfl, rfl⟩
    (refine' TSetA.slot (by walk_at "a") ?hs (by walk_at "a") ?hz ?hv ?_; (case hs => walk_at "swap"); (case hz => decide); (case hv => rfl))
    have hx' : { x with np := -2 } ∈ setNp S.infos x.node (-2) := List.mem_map.mpr ⟨x, hx, by rw [if_pos rfl]⟩
    obtain ⟨hy1, hy2⟩ := has_info hx'
    refine TX.for hk ?_
    walk_at "xs"
    refine' TAt.slot o1 ?hx o3 (by decide) ?hv ?hb ?_
    case hx => exact .tail (.tail (.tail (.tail (.tail (.tail hy1)))))
    case hv => rfl
    case hb => (intro b q; cases q)
    have shp : ∀ j, shape (decAll (setNp S.infos x.node (-2), l) (x.succ.take j)).1 = shape S.infos := fun j => decAll_shape.trans (shape_at fun _ => ⟨rfl, rfl, rfl, rfl⟩)
    refine ⟨_, _, Iter.list (xs := intL x.succ), fun j Hi => ∃ v4 v5, Hi = (env.locals, .ns (rR (Str.ofString "self") S.self (rR (Str.ofString "nodes") tp (rR (Str.ofString "n2i") S.n2i (rI (Str.ofString "node") x.node (rR (Str.ofString "nodeinfo") x.ia (rI (Str.ofString "stat") (-1) (rV (Str.ofString "successor") v4 (rV (Str.ofString "successor_info") v5 []))))))))) :: (tp, .tup [.int x.node 0]) :: sortH C { S with infos := (decAll (setNp S.infos x.node (-2), l) (x.succ.take j)).1, ready := some (r, (decAll (setNp S.infos x.node (-2), l) (x.succ.take j)).2) }, ?_, ?_, ?_, ?_⟩
    · refine ⟨v4, v5, ?_⟩
      rw [sortH_some (S := { S with infos := _, ready := some (r, _) }) rfl]
      show _ = _ :: _ :: _ :: _ :: (S.n2i, dO C (n2iD (setNp S.infos x.node (-2))) S.ep) :: _
      rw [setNp_n2i]
      rfl
    · rintro j Hi ⟨v4, v5, rfl⟩
      rw [sortH_some (S := { S with infos := _, ready := some (r, _) }) rfl]
      obtain ⟨y, hy, y1, y2, y3, y4⟩ := shape_mem (shp j) hx
      have := (has_info hy).2
      rw [y3, y4] at this
      exact .tail (.tail (.tail (.tail (.tail (.tail this)))))
    · rintro j w Hi hw ⟨v4, v5, rfl⟩
      have hj : j < x.succ.length := by
        have := (List.getElem?_eq_some_iff.mp hw).1
        simpa [intL] using this
      obtain ⟨h1, h2, h3⟩ := intL_at hj
      rw [h1] at hw
      cases hw
      rw [sortH_some (S := { S with infos := _, ready := some (r, _) }) rfl]
      obtain ⟨p, hp'⟩ : ∃ p, decAll (setNp S.infos x.node (-2), l) (x.succ.take j) = p := ⟨_, rfl⟩
      have sh := shp j
      obtain ⟨m, hm'⟩ : ∃ m, x.succ.getD j 0 = m := ⟨_, rfl⟩
      rw [hp'] at sh ⊢
      rw [hm'] at h1 h2 h3 ⊢
      obtain ⟨z, hz1⟩ := find_some (xs := p.1) (n := m) (by rw [shape_nodes sh]; exact hs _ h3)
      obtain ⟨hzm, hzn⟩ := find_node hz1
      subst hzn
      have ndp : (nodesOf p.1).Nodup := by rw [shape_nodes sh]; exact nd
      obtain ⟨hz2, hz3⟩ := has_info hzm
      have hsz := swap_info (f := fun y => { y with np := y.np - 1 }) ndp hzm ⟨rfl, rfl, rfl⟩
      walk_at "xs"
      refine TGet.dict (by walk_at "has") (n2i_get hz1) ?_
      walk_at "xs"
      (refine' TAt.slot (by walk_at "a") ?hx (by walk_at "a") ?hz ?hv ?hb ?_; (case hx => walk_at "has"); (case hz => decide); (case hv => rfl); (case hb => (intro b q; cases q)))
      walk_at "xs"
      (refine' TSetA.slot (by walk_at "a") ?hs (by walk_at "a") ?hz ?hv ?_; (case hs => walk_at "swap"); (case hz => decide); (case hv => rfl))
      walk_at "xs"
      have hz' : { z with np := z.np - 1 } ∈ decS p.1 z.node := List.mem_map.mpr ⟨z, hzm, by rw [if_pos rfl]⟩
      obtain ⟨hq1, hq2⟩ := has_info hz'
      refine' TAt.slot o1 ?hx o2 (by decide) ?hv ?hb ?_
      case hx => exact .tail (.tail (.tail (.tail (.tail (.tail hq1)))))
      case hv => rfl
      case hb => (intro b q; cases q)
      walk_at "xs"
      have hnp := npOf_dec ndp hzm rfl
      have hfin : ∀ R, (z.np - 1 = 0 → R = p.2 ++ [z.node]) → (z.np - 1 ≠ 0 → R = p.2) → R = (decAll (setNp S.infos x.node (-2), l) (x.succ.take (j + 1))).2 := fun R hR1 hR2 => by
        rw [h2, decAll_snoc, hp']
        show R = if npOf (decS p.1 z.node) z.node = 0 then p.2 ++ [z.node] else p.2
        rw [hnp]
        split
        · rename_i q; exact hR1 q
        · rename_i q; exact hR2 q
      have hinf : (decAll (setNp S.infos x.node (-2), l) (x.succ.take (j + 1))).1 = decS p.1 z.node := by rw [h2, decAll_snoc, hp']; rfl
      have hn2 : n2iD (decS p.1 z.node) = n2iD p.1 := atNode_n2i fun _ => ⟨rfl, rfl⟩
      have hpl : p.2.length ≤ 900 := by
        have := decAll_len (ss := x.succ.take j) (p := (setNp S.infos x.node (-2), l))
        rw [hp'] at this
        simp at this
        lia
      refine split_bool (fun hb => ?_) (fun hb => ?_)
      · have hb : z.np - 1 = 0 := by simpa using hb
        walk_at "xs"
        (refine' TAt.inst (by walk_at "a") ?hx ?hm ?hv ?hb (by walk_at "a") (by walk_at "a") ?h3 ?_; (case hx => walk_at "has"); (case hm => walk_at "has"); (case hv => walk_at "loc"); (case hb => first | exact readyV_nb | (intro b q; cases q)); (case h3 => (with_reducible first | exact lk_a1 | exact lk_a2 | exact lk_a3 | exact lk_a4 | exact lk_m1 | exact lk_m2 | exact lk_m3 | exact lk_m4 | exact lk_m5 | exact lk_m6 | exact lk_m7)))
        walk_at "xs"
        refine TCall.append (by walk_at "swap") (by rw [intL_length]; exact Nat.le_trans hpl (sz rfl)) ⟨by simp, ?_⟩
        walk_at "xs"
        refine ⟨some (.int z.node 0), some (.ref z.ia), ?_⟩
        rw [hinf, ← hfin (p.2 ++ [z.node]) (fun _ => rfl) (fun q => absurd hb q), sortH_some (S := { S with infos := _, ready := some (r, _) }) rfl]
        try dsimp only
        rw [hn2, show intL (p.2 ++ [z.node]) = intL p.2 ++ [.int z.node 0] by simp [intL]]
        rfl
      · have hb : z.np - 1 ≠ 0 := by simpa using hb
        walk_at "xs"
        refine ⟨some (.int z.node 0), some (.ref z.ia), ?_⟩
        rw [hinf, ← hfin p.2 (fun q => absurd q hb) (fun _ => rfl), sortH_some (S := { S with infos := _, ready := some (r, _) }) rfl]
        try dsimp only
        rw [hn2]
        rfl
    · rintro Hj ⟨v4, v5, rfl⟩
      rw [intL_length, List.take_length, sortH_some (S := { S with infos := _, ready := some (r, _) }) rfl]
      walk_at "xs"
      (refine' TAt.inst (by walk_at "a") ?hx ?hm ?hv ?hb (by walk_at "a") (by walk_at "a") ?h3 ?_; (case hx => walk_at "has"); (case hm => walk_at "has"); (case hv => walk_at "loc"); (case hb => first | exact readyV_nb | (intro b q; cases q)); (case h3 => (with_reducible first | exact lk_a1 | exact lk_a2 | exact lk_a3 | exact lk_a4 | exact lk_m1 | exact lk_m2 | exact lk_m3 | exact lk_m4 | exact lk_m5 | exact lk_m6 | exact lk_m7)))
      walk_at "xs"
      (refine' TSetA.inst (by walk_at "a") ?hx ?hp ?hs (by walk_at "a") (by walk_at "a") ?h3 ?hz ?_; (case hx => walk_at "has"); (case hs => walk_at "swap"); (case hp => walk_at "put"); (case h3 => (with_reducible first | exact lk_a1 | exact lk_a2 | exact lk_a3 | exact lk_a4 | exact lk_m1 | exact lk_m2 | exact lk_m3 | exact lk_m4 | exact lk_m5 | exact lk_m6 | exact lk_m7)); (case hz => first | decide | exact sz3 rfl))
      walk_at "xs"
      refine ⟨some (.int x.node 0), some (.ref x.ia), some (.int (-1) 0), v4, v5, ?_⟩
      rw [if_neg (by decide), sortH_some (S := doneS S r x.node l x.succ) rfl]
      rfl
  · rintro Hn ⟨v1, v2, v3, v4, v5, rfl⟩
    rw [if_neg (show ¬ (([Value.int x.node 0] : List Value).length = 0) by simp)]
    walk_at "xs"
    exact ⟨_, (List.sublist_cons_self _ _).trans (List.sublist_cons_self _ _), h⟩
/-- one entry of the search's stack; the top stands first -/
structure Ent where
  x : Info
  it : Addr
  mw : Addr
  i : Nat
noncomputable abbrev stkL (es : List Ent) : List Value := intL (es.reverse.map (·.x.node))
noncomputable abbrev itsL (es : List Ent) : List Value := es.reverse.map fun e => Value.ref e.mw
noncomputable def posD : List Ent → List (Int × Value)
  | [] => []
  | e :: r => posD r ++ [(e.x.node, .int r.length 0)]
noncomputable def stkH : List Ent → SH
  | [] => []
  | e :: r => (e.mw, mwO e.it) :: (e.it, litO e.x.sa e.i) :: stkH r
theorem posD_len : ∀ es : List Ent, (posD es).length = es.length
  | [] => rfl
  | e :: r => by simp [posD, posD_len r]
theorem posD_mem {k : Int} : ∀ {es : List Ent}, (∀ e ∈ es, e.x.node ≠ k) → k ∉ (posD es).map (·.1)
  | [], _ => by simp [posD]
  | e :: r, h => by
    have h1 := posD_mem (es := r) fun e he => h e (.tail _ he)
    have h2 := h e (.head _)
    simp only [posD, List.map_append, List.mem_append, not_or]
    exact ⟨h1, by simpa using Ne.symm h2⟩
theorem posD_none {k : Int} {es : List Ent} (h : ∀ e ∈ es, e.x.node ≠ k) : valueAt (posD es) k = none := valueAt_none_of_not_mem (posD_mem h)
theorem posD_push {x : Info} {it mw : Addr} {r : List Ent} (h : ∀ e ∈ r, e.x.node ≠ x.node) : stored (posD r) x.node (.int r.length 0) = posD (⟨x, it, mw, 0⟩ :: r) := stored_absent (posD_none h) _
theorem posD_pop {e : Ent} {r : List Ent} (h : ∀ e' ∈ r, e'.x.node ≠ e.x.node) : without (posD (e :: r)) e.x.node = posD r := by
  show List.filter _ (posD r ++ [_]) = _
  rw [List.filter_append]
  have := without_of_not_mem (posD r) e.x.node (posD_mem h)
  unfold without at this
  rw [this]; simp
theorem posD_some {e : Ent} {r : List Ent} : (valueAt (posD (e :: r)) e.x.node).isSome = true := by
  rw [valueAt_isSome_eq_any]; simp [posD]
noncomputable def unS (infos : List Info) (sn : List Int) : List Info := infos.filter fun x => decide (x.node ∉ sn)
noncomputable def wS (l : List Info) : Nat := (l.map fun x => x.succ.length + 1).sum
noncomputable def wE (es : List Ent) : Nat := (es.map fun e => e.x.succ.length - e.i + 1).sum
theorem un_le (n : Int) (sn : List Int) : ∀ xs : List Info, wS (unS xs (n :: sn)) ≤ wS (unS xs sn) ∧ (unS xs (n :: sn)).length ≤ (unS xs sn).length
  | [] => ⟨Nat.le_refl _, Nat.le_refl _⟩
  | x :: r => by
    obtain ⟨h1, h2⟩ := un_le n sn r
    unfold unS wS at *
    simp only [List.filter_cons]
    by_cases a : x.node ∈ sn
    · have c1 : decide (x.node ∉ n :: sn) = false := by simp [a]
      have c2 : decide (x.node ∉ sn) = false := by simp [a]
      rw [c1, c2]
      simp only [Bool.false_eq_true, if_false]
      exact ⟨h1, h2⟩
    · have c2 : decide (x.node ∉ sn) = true := by simp [a]
      by_cases b : x.node = n
      · have c1 : decide (x.node ∉ n :: sn) = false := by simp [b]
        rw [c1, c2]
        simp only [if_true, Bool.false_eq_true, if_false, List.map_cons, List.sum_cons, List.length_cons]
        lia
      · have c1 : decide (x.node ∉ n :: sn) = true := by simp [a, b]
        rw [c1, c2]
        simp only [if_true, List.map_cons, List.sum_cons, List.length_cons]
        lia
theorem un_push {sn : List Int} {x : Info} : ∀ {xs : List Info}, x ∈ xs → x.node ∉ sn → wS (unS xs (x.node :: sn)) + (x.succ.length + 1) ≤ wS (unS xs sn) ∧ (unS xs (x.node :: sn)).length + 1 ≤ (unS xs sn).length
  | [], h, _ => by cases h
  | y :: r, h, hn => by
    obtain ⟨g1, g2⟩ := un_le x.node sn r
    rcases List.mem_cons.mp h with rfl | h
    · unfold unS wS at *
      simp only [List.filter_cons]
      have c1 : decide (x.node ∉ x.node :: sn) = false := by simp
      have c2 : decide (x.node ∉ sn) = true := by simp [hn]
      rw [c1, c2]
      simp only [if_true, Bool.false_eq_true, if_false, List.map_cons, List.sum_cons, List.length_cons]
      lia
    · obtain ⟨h1, h2⟩ := un_push h hn
      unfold unS wS at *
      simp only [List.filter_cons]
      by_cases a : y.node ∈ sn
      · have c1 : decide (y.node ∉ x.node :: sn) = false := by simp [a]
        have c2 : decide (y.node ∉ sn) = false := by simp [a]
        rw [c1, c2]
        simp only [Bool.false_eq_true, if_false]
        lia
      · by_cases b : y.node = x.node
        · have c1 : decide (y.node ∉ x.node :: sn) = false := by simp [b]
          have c2 : decide (y.node ∉ sn) = true := by simp [a]
          rw [c1, c2]
          simp only [if_true, Bool.false_eq_true, if_false, List.map_cons, List.sum_cons, List.length_cons]
          lia
        · have c1 : decide (y.node ∉ x.node :: sn) = true := by simp [a, b]
          have c2 : decide (y.node ∉ sn) = true := by simp [a]
          rw [c1, c2]
          simp only [if_true, List.map_cons, List.sum_cons, List.length_cons]
          lia
structure StkOk (infos : List Info) (rk : Int → Nat) (es : List Ent) (sn : List Int) : Prop where
  mem : ∀ e ∈ es, e.x ∈ infos ∧ e.i ≤ e.x.succ.length
  ord : es.Pairwise fun a b => rk a.x.node < rk b.x.node
  cnt : sn.length + (unS infos sn).length ≤ infos.length
  len : es.length ≤ sn.length
noncomputable abbrev cycV (infos : List Info) (es : List Ent) (sn : List Int) : Nat := wE es + wS (unS infos sn)
noncomputable abbrev cycH (D : Cx) (m : List (Str × Option Value)) (L st its se dd : Addr) (es : List Ent) (sn : List Int) (ep : Nat) (K : SH) : SH :=
  (L, .ns m) :: (st, .list (stkL es)) :: (its, .list (itsL es)) :: (se, setO D (fun k => sn.contains k) sn.length) :: (dd, dO D (posD es) ep) :: (stkH es ++ K)
set_option maxHeartbeats 4000000 in
theorem cCycle {C : Cx} {d : Nat} {env0 : Env} {m0 : List (Str × Option Value)} {K : SH} {Q : Value → SH → Prop} (G : Gr C) (hf0 : env0.frame = some env0.locals) (hk0 : env0.scope.kind = .function) {S : Srt} (nd : (nodesOf S.infos).Nodup)
    (rk : Int → Nat) (hrk : ∀ x ∈ S.infos, ∀ m ∈ x.succ, m ∈ nodesOf S.infos ∧ rk m < rk x.node) (hz : S.infos.length ≤ 900)
    (hself : Has S.self (instO 167 S.dx) K) (hatt : Has S.dx (attO (attS S)) K) (hn2i : Has S.n2i (dO C (n2iD S.infos) S.ep) K) (hinfo : ∀ x ∈ S.infos, Has x.ia (slotI x) K ∧ Has x.sa (.list (intL x.succ)) K)
    (h : Q .none ((env0.locals, .ns m0) :: K)) : TCall (C.on env0) (d + 1) (.ref 157) [.ref S.self] ((env0.locals, .ns m0) :: K) Q := by
  obtain ⟨mN, N⟩ := G.sor
  obtain ⟨mO, O⟩ := G.nod
  have Lm := G.lm
  refine TCall.on1 Lm.off hf0 hk0 G.fCycle Lm (body := bodyOf (meth 13 8)) (by kernel_rfl) (by kernel_rfl) (by decide +kernel) (p := Str.ofString "self") (by intro x; kernel_rfl) (.inl (by kernel_rfl)) (m1 := (rR (Str.ofString "self") S.self (rV (Str.ofString "n2i") none (rV (Str.ofString "stack") none (rV (Str.ofString "itstack") none (rV (Str.ofString "seen") none (rV (Str.ofString "node2stacki") none (rV (Str.ofString "node") none [])))))))) (by kernel_rfl) (by kernel_rfl) fun env E hk => ?_
  have hm : InMain env := ⟨E.globals, E.builtins⟩
  have hR : ∀ Φ x, (C.on env).R Φ x → Rfr env Φ x := fun _ _ x => x
  have hf : env.frame = some env.locals := E.frame
  have k_self : env.kindOf (Str.ofString "self") = some NameKind.local := E.kind (by kernel_rfl)
  have k_n2i : env.kindOf (Str.ofString "n2i") = some NameKind.local := E.kind (by kernel_rfl)
  have k_stack : env.kindOf (Str.ofString "stack") = some NameKind.local := E.kind (by kernel_rfl)
  have k_itstack : env.kindOf (Str.ofString "itstack") = some NameKind.local := E.kind (by kernel_rfl)
  have k_seen : env.kindOf (Str.ofString "seen") = some NameKind.local := E.kind (by kernel_rfl)
  have k_node2stacki : env.kindOf (Str.ofString "node2stacki") = some NameKind.local := E.kind (by kernel_rfl)
  have k_node : env.kindOf (Str.ofString "node") = some NameKind.local := E.kind (by kernel_rfl)
  have k_set : env.kindOf (Str.ofString "set") = some NameKind.globalImplicit := E.kind (by kernel_rfl)
  have k_iter : env.kindOf (Str.ofString "iter") = some NameKind.globalImplicit := E.kind (by kernel_rfl)
  have k_len : env.kindOf (Str.ofString "len") = some NameKind.globalImplicit := E.kind (by kernel_rfl)
  have k_StopIteration : env.kindOf (Str.ofString "StopIteration") = some NameKind.globalImplicit := E.kind (by kernel_rfl)
  have c1 : Cls (C.on env) 167 166 mN := ⟨N.cls.obj, N.cls.ns, N.cls.out, N.cls.outN⟩
  have c3 := N.ga
  have c4 := N.a1
  have sys : SysOk (C.on env) := ⟨G.sys.sys, G.sys.out⟩
  have n1 : Nm (C.on env) "set" _ := G.n_set.on
  have n2 : Nm (C.on env) "iter" _ := G.n_iter.on
  have n4 : Nm (C.on env) "len" _ := G.n_len.on
  have n3 : Nm (C.on env) "StopIteration" _ := G.n_stop.on
  have o1 : SCls (C.on env) 70 69 mO ["node", "npredecessors", "successors"] := ⟨O.cls.obj, O.cls.ns, O.cls.out, O.cls.outN, O.cls.small, O.cls.ga, O.cls.gh, O.cls.sa⟩
  have o2 : Mem (C.on env) 70 mO "successors" 0 := ⟨O.su.at', O.su.obj⟩
  have hn2i' : Has S.n2i (dO (C.on env) (n2iD S.infos) S.ep) K := hn2i
  have hsz : ∀ n : Nat, n ≤ 1000 → n ≤ sizeLine := fun n hn => Nat.le_trans hn (sz rfl)
  generalize C.on env = D at *
  show TX D d (_ :: _ :: _ :: _ :: _ :: _ :: _ :: []) env _ _
  walk_at "xs"
  unfold attS at hatt
  (refine' TAt.inst (by walk_at "a") ?hx ?hm ?hv ?hb (by walk_at "a") (by walk_at "a") ?h3 ?_; (case hx => walk_at "has"); (case hm => walk_at "has"); (case hv => walk_at "loc"); (case hb => first | exact readyV_nb | (intro b q; cases q)); (case h3 => (with_reducible first | exact lk_a1 | exact lk_a2 | exact lk_a3 | exact lk_a4 | exact lk_m1 | exact lk_m2 | exact lk_m3 | exact lk_m4 | exact lk_m5 | exact lk_m6 | exact lk_m7)))
  walk_at "xs"
  refine ⟨sz rfl, fun st => ?_⟩
  walk_at "xs"
  refine ⟨sz rfl, fun its => ?_⟩
  walk_at "xs"
  refine TCall.set0 fun se => ?_
  walk_at "xs"
  refine TE.dict0 fun dd ep0 => ?_
  walk_at "xs"
  refine TX.perm (H' := (env.locals, _) :: (st, _) :: (its, _) :: (se, _) :: (dd, _) :: K) ((List.reverse_perm [_, _, _, _, _]).symm.append_right K) ?_
  refine TX.for hk ?_
  walk_at "xs"
  refine ⟨_, _, Iter.dictKeys (kvs := n2iD S.infos) (ep := S.ep) sys, fun i Hi => ∃ v sn ep, StkOk S.infos rk [] sn ∧ Hi = cycH D (rR (Str.ofString "self") S.self (rR (Str.ofString "n2i") S.n2i (rR (Str.ofString "stack") st (rR (Str.ofString "itstack") its (rR (Str.ofString "seen") se (rR (Str.ofString "node2stacki") dd (rV (Str.ofString "node") v []))))))) env.locals st its se dd [] sn ep K, ?_, ?_, ?_, ?_⟩
  · refine ⟨none, [], ep0, ⟨(fun e he => absurd he (by simp)), List.Pairwise.nil, ?_, Nat.le_refl _⟩, rfl⟩
    show 0 + (S.infos.filter _).length ≤ _
    rw [Nat.zero_add]; exact List.length_filter_le ..
  · rintro i Hi ⟨v, sn, ep, ok, rfl⟩
    exact .tail (.tail (.tail (.tail (.tail hn2i'))))
  · rintro i u Hi hu ⟨v, sn, ep, ok, rfl⟩
    have hu' : ∃ n, u = .int n 0 ∧ n ∈ nodesOf S.infos := by
      rw [n2iD_keys] at hu
      have := List.mem_of_getElem? hu
      obtain ⟨n, hn, e⟩ := List.mem_map.mp this
      exact ⟨n, e.symm, hn⟩
    obtain ⟨n, rfl, hn⟩ := hu'
    walk_at "xs"
    refine TCmp.inSet (by walk_at "has") ?_
    walk_at "xs"
    refine split_bool (fun hb => ?_) (fun hb => ?_)
    · walk_at "xs"
      exact ⟨_, sn, ep, ok, rfl⟩
    walk_at "xs"
    refine TX.while ?_
    refine TC.whileInd (σ := Int × List Ent × List Int × Nat) (fun x => cycV S.infos x.2.1 x.2.2.1) (fun x H => StkOk S.infos rk x.2.1 x.2.2.1 ∧ x.1 ∈ nodesOf S.infos ∧ (∀ e ∈ x.2.1, rk x.1 < rk e.x.node) ∧
      H = cycH D (rR (Str.ofString "self") S.self (rR (Str.ofString "n2i") S.n2i (rR (Str.ofString "stack") st (rR (Str.ofString "itstack") its (rR (Str.ofString "seen") se (rR (Str.ofString "node2stacki") dd (rI (Str.ofString "node") x.1 []))))))) env.locals st its se dd x.2.1 x.2.2.1 x.2.2.2 K) ?step (n, [], sn, ep) _ ⟨ok, hn, (fun e he => absurd he (by simp)), rfl⟩
    clear hb ok hn hu ep sn n
    rintro ⟨n, es, sn, ep⟩ ih H ⟨ok, hn, hlt, rfl⟩
    dsimp only at ok hn hlt ih ⊢
    refine TC.whileStep ?_
    refine TB.plain (TE.cbool (TTr.bool ?_))
    rw [if_pos rfl]
    have hne : ∀ e ∈ es, e.x.node ≠ n := fun e he q => by have := hlt e he; rw [q] at this; exact Nat.lt_irrefl _ this
    have hl1 : sn.length ≤ 900 := by have := ok.cnt; lia
    have hl2 : es.length ≤ 900 := by have := ok.len; lia
    refine TX.share (fun H' => ∃ v es' sn' ep', StkOk S.infos rk es' sn' ∧ cycV S.infos es' sn' ≤ cycV S.infos es sn ∧ H' = cycH D (rR (Str.ofString "self") S.self (rR (Str.ofString "n2i") S.n2i (rR (Str.ofString "stack") st (rR (Str.ofString "itstack") its (rR (Str.ofString "seen") se (rR (Str.ofString "node2stacki") dd (rV (Str.ofString "node") v []))))))) env.locals st its se dd es' sn' ep' K) ?rest ?main
    case main =>
      intro hrest
      walk_at "xs"
      refine TCmp.inSet (by walk_at "has") ?_
      walk_at "xs"
      refine split_bool (fun hb => ?_) (fun hb => ?_)
      · walk_at "xs"
        refine TCmp.inDict sys (by walk_at "has") ?_
        rw [posD_none hne]
        walk_at "xs"
        refine split_bool (b := false) (fun h => by cases h) (fun _ => ?_)
        walk_at "xs"
        exact hrest _ ⟨_, es, sn, ep, ok, Nat.le_refl _, rfl⟩
      · obtain ⟨x, hx, rfl⟩ := List.mem_map.mp hn
        have hnm : x.node ∉ sn := by simpa using hb
        walk_at "xs"
        refine TM.set (by walk_at "has") F.slot_set_add F.type_set_add ?_
        walk_at "xs"
        refine TCall.setAdd (by walk_at "swap") (by show sn.length + 1 < scanBound; have : (902 : Nat) < scanBound := by decide
                                                    lia) ⟨by simp, ?_⟩
        rw [hb]
        walk_at "xs"
        refine TGet.dict (by walk_at "has") (n2i_get (find_of_mem nd hx)) ?_
        have hxa := (hinfo x hx).1
        have hxs := (hinfo x hx).2
        (refine' TAt.slot (by walk_at "a") ?hx (by walk_at "a") ?hz ?hv ?hb ?_; (case hx => walk_at "has"); (case hz => decide); (case hv => rfl); (case hb => (intro b q; cases q)))
        walk_at "xs"
        refine TCall.iter (by walk_at "has") fun it => ?_
        refine TAt.next (l := x.sa) (i := 0) (by walk_at "has") fun mw => ?_
        walk_at "xs"
        refine TCall.append (by walk_at "swap") (hsz _ (by simp; lia)) ⟨by simp, ?_⟩
        walk_at "xs"
        refine TCall.lenList (by walk_at "has") (hsz _ (by simp [intL]; lia)) ?_
        walk_at "xs"
        refine TSetI.dict (kvs := posD es) (ep := ep) (fun ep' => by walk_at "swap") (hsz _ (by rw [posD_len]; lia)) fun ep' => ?_
        walk_at "xs"
        refine TCall.append (by walk_at "swap") (hsz _ (by simp [intL]; lia)) ⟨by simp, ?_⟩
        walk_at "xs"
        obtain ⟨hu1, hu2⟩ := un_push hx hnm
        refine TX.perm (List.perm_append_comm_assoc [_, _] [_, _, _, _, _] _) (hrest _ ⟨some (.int x.node 0), ⟨x, it, mw, 0⟩ :: es, x.node :: sn, ep', ⟨?_, ?_, ?_, ?_⟩, ?_, ?_⟩)
        · intro e he
          rcases List.mem_cons.mp he with rfl | he
          · exact ⟨hx, Nat.zero_le _⟩
          · exact ok.mem e he
        · exact List.pairwise_cons.mpr ⟨fun e he => hlt e he, ok.ord⟩
        · have := ok.cnt; simp only [List.length_cons]; lia
        · have := ok.len; simp only [List.length_cons]; lia
        · show wE (_ :: es) + _ ≤ _
          have : wE (⟨x, it, mw, 0⟩ :: es) = (x.succ.length + 1) + wE es := by simp [wE]
          rw [this]
          show _ ≤ wE es + _
          lia
        · have e1 : (intL (es.reverse.map (·.x.node))).length = es.length := by simp [intL]
          have e2 : (fun k => (x.node :: sn).contains k) = fun k => sn.contains k || decide (k = x.node) := by
            funext k
            rw [List.contains_cons, Bool.or_comm]
            congr 1
          rw [e1, if_neg (by decide), posD_push (it := it) (mw := mw) hne]
          unfold cycH
          rw [e2]
          simp [stkH, intL]
          rfl
    case rest =>
      rintro H ⟨v, es', sn', ep', ok', hV, rfl⟩
      refine TX.while ?_
      refine TC.whileInd (σ := Option Value × List Ent × List Int × Nat) (fun x => cycV S.infos x.2.1 x.2.2.1) (fun x H => StkOk S.infos rk x.2.1 x.2.2.1 ∧ cycV S.infos x.2.1 x.2.2.1 ≤ cycV S.infos es sn ∧
        H = cycH D (rR (Str.ofString "self") S.self (rR (Str.ofString "n2i") S.n2i (rR (Str.ofString "stack") st (rR (Str.ofString "itstack") its (rR (Str.ofString "seen") se (rR (Str.ofString "node2stacki") dd (rV (Str.ofString "node") x.1 []))))))) env.locals st its se dd x.2.1 x.2.2.1 x.2.2.2 K) ?step2 (v, es', sn', ep') _ ⟨ok', hV, rfl⟩
      clear hV ok' v es' sn' ep'
      rintro ⟨v, es', sn', ep'⟩ ih2 H ⟨ok', hV, rfl⟩
      dsimp only at ok' hV ih2 ⊢
      have hl1 : sn'.length ≤ 900 := by have := ok'.cnt; lia
      have hl2 : es'.length ≤ 900 := by have := ok'.len; lia
      refine TC.whileStep ?_
      walk_at "xs"
      refine TTr.list (by walk_at "has") (hsz _ (by simp [intL]; lia)) ?_
      cases es' with
      | nil =>
        rw [if_neg (by simp [intL])]
        walk_at "xs"
        exact ⟨v, sn', ep', ok', rfl⟩
      | cons e r =>
        rw [if_pos (by simp [intL])]
        obtain ⟨x, it, mw, i⟩ := e
        obtain ⟨hx, hix⟩ := ok'.mem _ (.head _)
        dsimp only at hx hix
        have hord := List.pairwise_cons.mp ok'.ord
        have hner : ∀ e' ∈ r, e'.x.node ≠ x.node := fun e' he' q => by have := hord.1 e' he'; rw [q] at this; exact Nat.lt_irrefl _ this
        have e1 : stkL (⟨x, it, mw, i⟩ :: r) = stkL r ++ [.int x.node 0] := by simp [intL]
        have e2 : itsL (⟨x, it, mw, i⟩ :: r) = itsL r ++ [.ref mw] := by simp
        have e3 : ∀ v, cycH D (rR (Str.ofString "self") S.self (rR (Str.ofString "n2i") S.n2i (rR (Str.ofString "stack") st (rR (Str.ofString "itstack") its (rR (Str.ofString "seen") se (rR (Str.ofString "node2stacki") dd (rV (Str.ofString "node") v []))))))) env.locals st its se dd (⟨x, it, mw, i⟩ :: r) sn' ep' K = (env.locals, .ns (rR (Str.ofString "self") S.self (rR (Str.ofString "n2i") S.n2i (rR (Str.ofString "stack") st (rR (Str.ofString "itstack") its (rR (Str.ofString "seen") se (rR (Str.ofString "node2stacki") dd (rV (Str.ofString "node") v [])))))))) :: (st, .list (stkL r ++ [.int x.node 0])) :: (its, .list (itsL r ++ [.ref mw])) :: (se, setO D (fun k => sn'.contains k) sn'.length) :: (dd, dO D (posD (⟨x, it, mw, i⟩ :: r)) ep') :: (mw, mwO it) :: (it, litO x.sa i) :: (stkH r ++ K) := fun v => by
          unfold cycH; rw [e1, e2]; rfl
        have hxs := (hinfo x hx).2
        have hil : (itsL r ++ [Value.ref mw])[(-1 + ((itsL r ++ [Value.ref mw]).length : Int)).toNat]? = some (.ref mw) := by
          have : (-1 + ((itsL r ++ [Value.ref mw]).length : Int)).toNat = (itsL r).length := by simp only [List.length_append, List.length_cons, List.length_nil]; lia
          rw [this, List.getElem?_append_right (Nat.le_refl _)]; simp
        rw [e3]
        refine TX.tryStop n3 k_StopIteration hm hR hk hf ?_
        by_cases hi : i < x.succ.length
        · obtain ⟨g1, g2, g3⟩ := intL_at hi
          obtain ⟨r1, r2⟩ := hrk x hx _ g3
          refine TT.ofTX (fun f H' => f = .brk ∧ H' = cycH D (rR (Str.ofString "self") S.self (rR (Str.ofString "n2i") S.n2i (rR (Str.ofString "stack") st (rR (Str.ofString "itstack") its (rR (Str.ofString "seen") se (rR (Str.ofString "node2stacki") dd (rI (Str.ofString "node") (x.succ.getD i 0) []))))))) env.locals st its se dd (⟨x, it, mw, i + 1⟩ :: r) sn' ep' K) ?_ ?_
          · walk_at "xs"
            refine TGet.listNeg (by walk_at "has") (by decide) (by simp only [List.length_append, List.length_cons, List.length_nil]; lia) (by decide) hil ?_
            walk_at "xs"
            refine ⟨Fix.ref, KeepOk.mw (by walk_at "has"), ?_⟩
            refine T.mwItem (by walk_at "has") (by walk_at "has") (by walk_at "swap") g1 ?_
            walk_at "xs"
            refine ⟨rfl, ?_⟩
            unfold cycH
            rw [show stkL (⟨x, it, mw, i + 1⟩ :: r) = stkL r ++ [.int x.node 0] by simp [intL], show itsL (⟨x, it, mw, i + 1⟩ :: r) = itsL r ++ [.ref mw] by simp]
            rfl
          · rintro f H' ⟨q, rfl⟩
            rw [q]
            show TX D d [] env _ _
            walk_at "xs"
            refine ih (x.succ.getD i 0, ⟨x, it, mw, i + 1⟩ :: r, sn', ep') _ ?_ ⟨⟨?_, ?_, ok'.cnt, ok'.len⟩, r1, ?_, rfl⟩
            · refine Nat.lt_of_lt_of_le ?_ hV
              show wE (_ :: _) + _ < wE (_ :: _) + _
              simp only [wE, List.map_cons, List.sum_cons]
              lia
            · intro e he
              rcases List.mem_cons.mp he with rfl | he
              · exact ⟨hx, hi⟩
              · exact ok'.mem e (.tail _ he)
            · exact List.pairwise_cons.mpr ⟨hord.1, hord.2⟩
            · intro e he
              rcases List.mem_cons.mp he with rfl | he
              · exact r2
              · exact Nat.lt_trans r2 (hord.1 e he)
        · have hi' : i = (intL x.succ).length := by simp [intL]; lia
          subst hi'
          refine TT.asgRaise ?_
          refine TT.call0 ?_
          walk_at "xs"
          refine TGet.listNeg (by walk_at "has") (by decide) (by simp only [List.length_append, List.length_cons, List.length_nil]; lia) (by decide) hil ?_
          refine ⟨Fix.ref, KeepOk.mw (by walk_at "has"), ?_⟩
          refine TT.perm (List.perm_middle (l₁ := [_, _, _, _, _, _])) ?_
          refine TT.mwEnd (by walk_at "has") (by walk_at "has") ?_
          refine ⟨⟨_, .head⟩, ?_⟩
          refine' TH.delPop (m := (rR (Str.ofString "self") S.self (rR (Str.ofString "n2i") S.n2i (rR (Str.ofString "stack") st (rR (Str.ofString "itstack") its (rR (Str.ofString "seen") se (rR (Str.ofString "node2stacki") dd (rV (Str.ofString "node") v [])))))))) (dd := dd) (st := st) (tt := its) (xs := stkL r) (ys := itsL r) (v := .ref mw) (k := x.node) (kvs := posD (⟨x, it, mw, (intL x.succ).length⟩ :: r)) (ep := ep')
            (H1 := (env.locals, .ns (rR (Str.ofString "self") S.self (rR (Str.ofString "n2i") S.n2i (rR (Str.ofString "stack") st (rR (Str.ofString "itstack") its (rR (Str.ofString "seen") se (rR (Str.ofString "node2stacki") dd (rV (Str.ofString "node") v [])))))))) :: (st, .list (stkL r)) :: (its, .list (itsL r ++ [.ref mw])) :: (se, setO D (fun k => sn'.contains k) sn'.length) :: (dd, dO D (posD (⟨x, it, mw, (intL x.succ).length⟩ :: r)) ep') :: (mw, mwO it) :: (stkH r ++ K))
            (H2 := fun ep' => (env.locals, .ns (rR (Str.ofString "self") S.self (rR (Str.ofString "n2i") S.n2i (rR (Str.ofString "stack") st (rR (Str.ofString "itstack") its (rR (Str.ofString "seen") se (rR (Str.ofString "node2stacki") dd (rV (Str.ofString "node") v [])))))))) :: (st, .list (stkL r)) :: (its, .list (itsL r ++ [.ref mw])) :: (se, setO D (fun k => sn'.contains k) sn'.length) :: (dd, dO D (without (posD (⟨x, it, mw, (intL x.succ).length⟩ :: r)) x.node) ep') :: (mw, mwO it) :: (stkH r ++ K))
            (H3 := fun ep' => (env.locals, .ns (rR (Str.ofString "self") S.self (rR (Str.ofString "n2i") S.n2i (rR (Str.ofString "stack") st (rR (Str.ofString "itstack") its (rR (Str.ofString "seen") se (rR (Str.ofString "node2stacki") dd (rV (Str.ofString "node") v [])))))))) :: (st, .list (stkL r)) :: (its, .list (itsL r)) :: (se, setO D (fun k => sn'.contains k) sn'.length) :: (dd, dO D (without (posD (⟨x, it, mw, (intL x.succ).length⟩ :: r)) x.node) ep') :: (mw, mwO it) :: (stkH r ++ K))
            hk (interactive_of hk) k_node2stacki k_stack k_itstack .head (fun _ => .head) ?l1 ?l2 ?l3 ?s1 ?s2 ?s3 ?_ ?_ ?_ posD_some ?_
          case l1 => walk_at "loc"
          case l2 => walk_at "loc"
          case l3 => walk_at "loc"
          case s1 => exact .tail .head
          case s2 => exact fun _ => .tail (.tail (.tail (.tail .head)))
          case s3 => exact fun _ => .tail (.tail .head)
          · have : r.length + 1 ≤ 900 := hl2
            exact Nat.lt_of_lt_of_le (show (stkL r).length < 1000 by simp [intL]; lia) (sz rfl)
          · exact hsz _ (by rw [posD_len]; lia)
          · have : r.length + 1 ≤ 900 := hl2
            exact Nat.lt_of_lt_of_le (show (itsL r).length < 1000 by simp; lia) (sz rfl)
          · intro ep''
            rw [posD_pop hner]
            show TX D d [] env _ _
            refine TX.drop (H' := (env.locals, _) :: (st, _) :: (its, _) :: (se, _) :: (dd, _) :: (stkH r ++ K)) (.cons_cons _ (.cons_cons _ (.cons_cons _ (.cons_cons _ (.cons_cons _ (.cons _ (List.Sublist.refl _))))))) ?_
            walk_at "xs"
            refine ih2 (v, r, sn', ep'') _ ?_ ⟨⟨fun e he => ok'.mem e (.tail _ he), hord.2, ok'.cnt, ?_⟩, ?_, rfl⟩
            · show wE r + _ < wE (_ :: r) + _
              simp only [wE, List.map_cons, List.sum_cons]
              lia
            · exact Nat.le_trans (Nat.le_succ _) ok'.len
            · refine Nat.le_trans ?_ hV
              show wE r + _ ≤ wE (_ :: r) + _
              simp only [wE, List.map_cons, List.sum_cons]
              lia
  · rintro Hn ⟨v, sn, ep, ok, rfl⟩
    walk_at "xs"
    exact ⟨K, .cons _ (.cons _ (.cons _ (.cons _ (.cons _ (List.Sublist.refl _))))), h⟩
noncomputable def readyL (xs : List Info) : List Int := (xs.filter fun x => decide (x.np = 0)).map (·.node)
set_option maxHeartbeats 4000000 in
theorem cPrep {C : Cx} {d : Nat} {env0 : Env} {m0 : List (Str × Option Value)} {K : SH} {Q : Value → SH → Prop} (G : Gr C) (hf0 : env0.frame = some env0.locals) (hk0 : env0.scope.kind = .function) {S : Srt} (nd : (nodesOf S.infos).Nodup) (hr : S.ready = none)
    (rk : Int → Nat) (hrk : ∀ x ∈ S.infos, ∀ m ∈ x.succ, m ∈ nodesOf S.infos ∧ rk m < rk x.node) (hz : S.infos.length ≤ 900)
    (h : ∀ r, Q .none ((env0.locals, .ns m0) :: (K ++ sortH C { S with ready := some (r, readyL S.infos) }))) : TCall (C.on env0) (d + 2) (.ref 122) [.ref S.self] ((env0.locals, .ns m0) :: (K ++ sortH C S)) Q := by
  obtain ⟨mN, N⟩ := G.sor
  obtain ⟨mO, O⟩ := G.nod
  have Lm := G.lm
  have hS : sortH C S = (S.self, instO 167 S.dx) :: (S.dx, attO (rR (Str.ofString "_node2info") S.n2i (rV (Str.ofString "_ready_nodes") (some .none) (rI (Str.ofString "_npassedout") S.passed (rI (Str.ofString "_nfinished") S.fin []))))) :: (S.n2i, dO C (n2iD S.infos) S.ep) :: infosH S.infos := by
    unfold sortH attS readyV readyH; rw [hr]; rfl
  rw [hS]
  refine TCall.postPerm ?_
  refine TCall.on1 Lm.off hf0 hk0 G.fPrep Lm (body := bodyOf (meth 13 3)) (by kernel_rfl) (by kernel_rfl) (by decide +kernel) (p := Str.ofString "self") (by intro x; kernel_rfl) (.inl (by kernel_rfl)) (m1 := (rR (Str.ofString "self") S.self (rV (Str.ofString "cycle") none []))) (by kernel_rfl) (by kernel_rfl) fun env E hk => ?_
  have hm : InMain env := ⟨E.globals, E.builtins⟩
  have k_self : env.kindOf (Str.ofString "self") = some NameKind.local := E.kind (by kernel_rfl)
  have k_cycle : env.kindOf (Str.ofString "cycle") = some NameKind.local := E.kind (by kernel_rfl)
  have k_ValueError : env.kindOf (Str.ofString "ValueError") = some NameKind.globalImplicit := E.kind (by kernel_rfl)
  have k_CycleError : env.kindOf (Str.ofString "CycleError") = some NameKind.globalImplicit := E.kind (by kernel_rfl)
  have c1 : Cls (C.on env) 167 166 mN := ⟨N.cls.obj, N.cls.ns, N.cls.out, N.cls.outN⟩
  have c2 := N.sa
  have c3 := N.ga
  have c4 := N.a1
  have c5 := N.a2
  have c6 := N.gh
  have c7 := N.cycle
  have f1 : Fn (C.on env) 157 fdCycle := G.fCycle.on
  have f2 : ∀ o, (C.on env).h0.get? 157 = some o → o.cls = .type "function" := G.fun_cls 157 (by decide)
  have sys : SysOk (C.on env) := ⟨G.sys.sys, G.sys.out⟩
  have o1 : SCls (C.on env) 70 69 mO ["node", "npredecessors", "successors"] := ⟨O.cls.obj, O.cls.ns, O.cls.out, O.cls.outN, O.cls.small, O.cls.ga, O.cls.gh, O.cls.sa⟩
  have o2 : Mem (C.on env) 70 mO "npredecessors" 1 := ⟨O.np.at', O.np.obj⟩
  have o3 : Mem (C.on env) 70 mO "node" 2 := ⟨O.node.at', O.node.obj⟩
  have hsz : ∀ n : Nat, n ≤ 1000 → n ≤ sizeLine := fun n hn => Nat.le_trans hn (sz rfl)
  have cyc := fun (r : Addr) (m : List (Str × Option Value)) (d : Nat) (K' : SH) (Q' : Value → SH → Prop) => cCycle (C := C) (d := d) (env0 := env) (m0 := m) (K := K') (Q := Q') G E.frame hk (S := { S with ready := some (r, readyL S.infos) }) nd rk hrk hz
  obtain ⟨D, hD⟩ : ∃ D, D = C.on env := ⟨_, rfl⟩
  have hdO : dO C (n2iD S.infos) S.ep = dO D (n2iD S.infos) S.ep := by rw [hD]; rfl
  rw [hdO]
  rw [← hD] at c1 f1 f2 sys o1 o2 o3 cyc ⊢
  show TX D (d + 1) (_ :: _ :: _ :: _ :: []) env _ _
  walk_at "xs"
  (refine' TAt.inst (by walk_at "a") ?hx ?hm ?hv ?hb (by walk_at "a") (by walk_at "a") ?h3 ?_; (case hx => walk_at "has"); (case hm => walk_at "has"); (case hv => walk_at "loc"); (case hb => first | exact readyV_nb | (intro b q; cases q)); (case h3 => (with_reducible first | exact lk_a1 | exact lk_a2 | exact lk_a3 | exact lk_a4 | exact lk_m1 | exact lk_m2 | exact lk_m3 | exact lk_m4 | exact lk_m5 | exact lk_m6 | exact lk_m7)))
  walk_at "xs"
  refine split_bool (b := false) (fun h => by cases h) (fun _ => ?_)
  walk_at "xs"
  refine TE.comp (own := false) (cl := []) (by rfl) (by rfl) (fun x hx hl => ?_) (by rfl) (by rfl) ?_
  · simp only [List.mem_cons, List.not_mem_nil, or_false] at hx
    rcases hx with rfl | rfl <;> rfl
  walk_at "xs"
  (refine' TAt.inst (by walk_at "a") ?hx ?hm ?hv ?hb (by walk_at "a") (by walk_at "a") ?h3 ?_; (case hx => walk_at "has"); (case hm => walk_at "has"); (case hv => walk_at "loc"); (case hb => first | exact readyV_nb | (intro b q; cases q)); (case h3 => (with_reducible first | exact lk_a1 | exact lk_a2 | exact lk_a3 | exact lk_a4 | exact lk_m1 | exact lk_m2 | exact lk_m3 | exact lk_m4 | exact lk_m5 | exact lk_m6 | exact lk_m7)))
  refine TM.dict (by walk_at "has") F.slot_dict_values F.type_dict_values ?_
  walk_at "xs"
  refine TCall.dictValues sys (by walk_at "has") fun v => ?_
  refine ⟨_, _, Iter.dictVals (a := S.n2i) (kvs := n2iD S.infos) (ep := S.ep), hsz _ (by simp [n2iD]; lia), fun i acc Hi => acc = intL (readyL (S.infos.take i)) ∧ Hi = (v, .objp fun o => o.cls = .type "dict_values" ∧ o.data = .fields #[.ref S.n2i]) :: (env.locals, .ns (rR (Str.ofString "self") S.self (rV (Str.ofString "cycle") none []))) :: (K ++ (S.self, instO 167 S.dx) :: (S.dx, attO (rR (Str.ofString "_node2info") S.n2i (rV (Str.ofString "_ready_nodes") (some .none) (rI (Str.ofString "_npassedout") S.passed (rI (Str.ofString "_nfinished") S.fin []))))) :: (S.n2i, dO D (n2iD S.infos) S.ep) :: infosH S.infos), ?_, ?_, ?_, ?_⟩
  · exact ⟨rfl, rfl⟩
  · rintro i acc Hi ⟨rfl, rfl⟩
    exact ⟨.head, by walk_at "has"⟩
  · rintro cenv Ec i u acc Hi hu ⟨rfl, rfl⟩
    have ki : cenv.kindOf (Str.ofString "i") = some .local := Ec.local (by rfl)
    have kc : cenv.scope.kind = .function := Ec.kind (by rfl)
    refine TIfs.one ?_
    unfold compPV
    have hu' : ∃ x, S.infos[i]? = some x ∧ u = .ref x.ia := by
      rw [n2iD, List.map_map, List.getElem?_map] at hu
      cases q : S.infos[i]? with
      | none => rw [q] at hu; cases hu
      | some x => rw [q] at hu; exact ⟨x, rfl, (Option.some.inj hu).symm⟩
    obtain ⟨x, hx, rfl⟩ := hu'
    have hxm : x ∈ S.infos := List.mem_of_getElem? hx
    obtain ⟨hx1, hx2⟩ := has_info hxm
    have ht : S.infos.take (i + 1) = S.infos.take i ++ [x] := by rw [List.take_add_one, hx]; rfl
    show TB D (d + 1) _ cenv (_ :: _ :: _ :: _) _
    walk_at "xs"
    (refine' TAt.slot (by walk_at "a") ?hx (by walk_at "a") ?hz ?hv ?hb ?_; (case hx => walk_at "has"); (case hz => decide); (case hv => rfl); (case hb => (intro b q; cases q)))
    walk_at "xs"
    refine split_bool (fun hb => ?_) (fun hb => ?_)
    · have hb : x.np = 0 := by simpa using hb
      walk_at "xs"
      (refine' TAt.slot (by walk_at "a") ?hx (by walk_at "a") ?hz ?hv ?hb ?_; (case hx => walk_at "has"); (case hz => decide); (case hv => rfl); (case hb => (intro b q; cases q)))
      refine ⟨_, _, rfl, ?_, rfl⟩
      rw [ht]
      simp [readyL, hb, intL]
    · have hb : x.np ≠ 0 := by simpa using hb
      refine ⟨_, _, rfl, ?_, rfl⟩
      rw [ht]
      simp [readyL, hb, intL]
  · rintro acc Hn ⟨rfl, rfl⟩ r
    rw [show ((n2iD S.infos).map (·.2)).length = S.infos.length by simp [n2iD], List.take_length]
    walk_at "xs"
    (refine' TSetA.inst (by walk_at "a") ?hx ?hp ?hs (by walk_at "a") (by walk_at "a") ?h3 ?hz ?_; (case hx => walk_at "has"); (case hs => walk_at "swap"); (case hp => walk_at "put"); (case h3 => (with_reducible first | exact lk_a1 | exact lk_a2 | exact lk_a3 | exact lk_a4 | exact lk_m1 | exact lk_m2 | exact lk_m3 | exact lk_m4 | exact lk_m5 | exact lk_m6 | exact lk_m7)); (case hz => first | decide | exact sz3 rfl))
    walk_at "xs"
    (refine' TM.inst (by walk_at "a") ?hF ?hfc ?hx ?hm (by walk_at "a") (by walk_at "a") (by walk_at "a") ?h3 ?h4 ?_; (case hx => walk_at "has"); (case hm => walk_at "has"); (case h3 => exact not_att (by decide +kernel)); (case h4 => (with_reducible first | exact lk_a1 | exact lk_a2 | exact lk_a3 | exact lk_a4 | exact lk_m1 | exact lk_m2 | exact lk_m3 | exact lk_m4 | exact lk_m5 | exact lk_m6 | exact lk_m7)); (case hF => walk_at "a"); (case hfc => walk_at "a"))
    walk_at "xs"
    refine ⟨f1.ok, ?_⟩
    refine TCall.perm (List.perm_middle (l₁ := [_, _])) ?_
    refine cyc r _ _ _ _ ?_ ?_ ?_ (fun x hx => ?_) ?_
    · exact .append_right (.append_right .head)
    · exact .append_right (.append_right (.tail .head))
    · rw [show dO C (n2iD _) _ = dO D (n2iD S.infos) S.ep from hdO]
      exact .append_right (.append_right (.tail (.tail .head)))
    · obtain ⟨h1, h2⟩ := has_info hx
      exact ⟨.append_right (.append_right (.tail (.tail (.tail h1)))), .append_right (.append_right (.tail (.tail (.tail h2))))⟩
    walk_at "xs"
    refine TTr.none ?_
    refine split_bool (b := false) (fun h => by cases h) (fun _ => ?_)
    walk_at "xs"
    refine ⟨(r, .list (intL (readyL S.infos))) :: (K ++ _), .cons _ (.cons_cons _ (.cons _ (List.Sublist.refl _))), _, .cons _ ?_, h r⟩
    rw [sortH_some (S := { S with ready := some (r, readyL S.infos) }) rfl, ← hdO]
    try dsimp only
    rw [show ∀ (a b c : Addr × AObj) (l : SH), K ++ a :: b :: c :: l = (K ++ [a, b, c]) ++ l from fun a b c l => by simp, show ∀ (a b c e : Addr × AObj) (l : SH), K ++ a :: b :: c :: e :: l = (K ++ [a, b, c]) ++ e :: l from fun a b c e l => by simp]
    exact List.perm_middle.symm
-- the sorter, by what its parts say
structure Is (xs : List Info) (np : Int → Int) (su : Int → List Int) : Prop where
  nd : (nodesOf xs).Nodup
  at' : ∀ x ∈ xs, x.np = np x.node ∧ x.succ = su x.node
  out : ∀ n, n ∉ nodesOf xs → np n = 0 ∧ su n = []
theorem mem_nodes {xs : List Info} {x : Info} (h : x ∈ xs) : x.node ∈ nodesOf xs := List.mem_map_of_mem h
theorem Ens.is {S S' : Srt} {n : Int} {x : Info} {np : Int → Int} {su : Int → List Int} (e : Ens S n S' x) (h : Is S.infos np su) : Is S'.infos np su ∧ (∀ m, m ∈ nodesOf S'.infos ↔ m ∈ nodesOf S.infos ∨ m = n) := by
  obtain ⟨nd, _, _⟩ := e.nodup h.nd
  rcases e.how with ⟨h1, h2⟩ | ⟨h1, h3, h4, h2⟩
  · refine ⟨by rw [h2]; exact h, fun m => ?_⟩
    rw [h2]
    have := mem_nodes h1
    rw [e.node] at this
    exact ⟨.inl, fun q => q.elim id fun q => q ▸ this⟩
  · refine ⟨⟨nd, fun y hy => ?_, fun m hm => ?_⟩, fun m => ?_⟩
    · rw [h2] at hy
      rcases List.mem_append.mp hy with hy | hy
      · exact h.at' y hy
      · have : y = x := by simpa using hy
        subst this
        obtain ⟨o1, o2⟩ := h.out n h1
        rw [e.node, o1, o2]
        exact ⟨h3, h4⟩
    · refine h.out m fun q => hm ?_
      rw [h2]
      obtain ⟨y, hy, rfl⟩ := List.mem_map.mp q
      exact mem_nodes (List.mem_append_left _ hy)
    · rw [h2]
      simp only [nodesOf, List.map_append, List.map_cons, List.map_nil, List.mem_append, List.mem_singleton, e.node]
theorem Is.at {xs : List Info} {np np' : Int → Int} {su su' : Int → List Int} {n : Int} {f : Info → Info} (h : Is xs np su) (hn : n ∈ nodesOf xs) (hf : ∀ x, (f x).node = x.node) (h1 : ∀ m, m ≠ n → np' m = np m ∧ su' m = su m)
    (h2 : ∀ x ∈ xs, x.node = n → (f x).np = np' n ∧ (f x).succ = su' n) : Is (atNode xs n f) np' su' := by
  refine ⟨by rw [atNode_nodes hf]; exact h.nd, fun y hy => ?_, fun m hm => ?_⟩
  · obtain ⟨z, hz, rfl⟩ := List.mem_map.mp hy
    by_cases e : z.node = n
    · rw [if_pos e, hf, e]; exact h2 z hz e
    · rw [if_neg e, (h1 _ e).1, (h1 _ e).2]; exact h.at' z hz
  · rw [atNode_nodes hf] at hm
    have : m ≠ n := fun e => hm (e ▸ hn)
    rw [(h1 _ this).1, (h1 _ this).2]
    exact h.out m hm
noncomputable def suAdd (su : Int → List Int) (n : Int) (ps : List Int) : Int → List Int := fun k => su k ++ (ps.filter (· = k)).map fun _ => n
theorem AddL.is {n : Int} : ∀ {S S' : Srt} {ps : List Int} {np : Int → Int} {su : Int → List Int}, AddL n S ps S' → Is S.infos np su → Is S'.infos np (suAdd su n ps) ∧ ∀ m, m ∈ nodesOf S'.infos ↔ m ∈ nodesOf S.infos ∨ m ∈ ps
  | S, S', [], np, su, h, I => by
    cases (show S' = S from h)
    have e : suAdd su n [] = su := by funext k; simp [suAdd]
    rw [e]
    exact ⟨I, fun m => by simp⟩
  | S, S', p :: ps, np, su, ⟨S1, x, e, h⟩, I => by
    obtain ⟨I1, n1⟩ := e.is I
    have I2 : Is (pushS S1.infos p n) np (fun k => if k = p then su k ++ [n] else su k) := I1.at ((n1 p).mpr (.inr rfl)) (fun _ => rfl) (fun m hm => ⟨rfl, by simp [hm]⟩) fun z hz ez => by
      obtain ⟨a, b⟩ := I1.at' z hz
      simp [← ez, a, b]
    obtain ⟨I3, n3⟩ := AddL.is h I2
    refine ⟨?_, fun m => ?_⟩
    · have e : suAdd (fun k => if k = p then su k ++ [n] else su k) n ps = suAdd su n (p :: ps) := by
        funext k
        unfold suAdd
        by_cases hk : k = p
        · subst hk; simp
        · have : ¬ p = k := fun q => hk q.symm
          simp [hk, this]
      rw [e] at I3
      exact I3
    · rw [n3 m]
      show m ∈ nodesOf (pushS S1.infos p n) ∨ _ ↔ _
      rw [pushS_nodes, n1 m, List.mem_cons, or_assoc]
theorem AddR.is {n : Int} {S S' : Srt} {ps : List Int} {np : Int → Int} {su : Int → List Int} (h : AddR n S ps S') (I : Is S.infos np su) : Is S'.infos (fun m => if m = n then np m + ps.length else np m) (suAdd su n ps) ∧ ∀ m, m ∈ nodesOf S'.infos ↔ m ∈ nodesOf S.infos ∨ m = n ∨ m ∈ ps := by
  obtain ⟨S1, x, e, h⟩ := h
  obtain ⟨I1, n1⟩ := e.is I
  have I2 : Is (bumpS S1.infos n ps.length) (fun m => if m = n then np m + ps.length else np m) su := I1.at ((n1 n).mpr (.inr rfl)) (fun _ => rfl) (fun m hm => ⟨by simp [hm], rfl⟩) fun z hz ez => by
    obtain ⟨a, b⟩ := I1.at' z hz
    simp [← ez, a, b]
  obtain ⟨I3, n3⟩ := AddL.is h I2
  refine ⟨I3, fun m => ?_⟩
  rw [n3 m]
  show m ∈ nodesOf (bumpS S1.infos n _) ∨ _ ↔ _
  rw [bumpS_nodes, n1 m, or_assoc]
theorem AddR.keep {n : Int} {S S' : Srt} {ps : List Int} (h : AddR n S ps S') (nd : (nodesOf S.infos).Nodup) : S'.self = S.self ∧ S'.ready = S.ready ∧ S'.passed = S.passed ∧ S'.fin = S.fin := by
  obtain ⟨S1, x, e, h⟩ := h
  obtain ⟨n1, _, _⟩ := e.nodup nd
  obtain ⟨h1, h2, h3, h4, _, _⟩ := AddL.keep h (by rw [bumpS_nodes]; exact n1)
  exact ⟨h1.trans e.self, h2.trans e.ready, h3.trans e.passed, h4.trans e.fin⟩
-- all nodes of a list, each with its own
noncomputable def npF (P : Int → List Int) (l : List Int) (m : Int) : Int := if m ∈ l then (P m).length else 0
noncomputable def suF (P : Int → List Int) (l : List Int) (m : Int) : List Int := l.filter fun n => decide (m ∈ P n)
/-- what stands when the nodes of l are added -/
structure Built (P : Int → List Int) (l : List Int) (S : Srt) : Prop where
  is : Is S.infos (npF P l) (suF P l)
  nodes : ∀ m, m ∈ nodesOf S.infos ↔ m ∈ l ∨ ∃ n ∈ l, m ∈ P n
  ready : S.ready = none
  passed : S.passed = 0
  fin : S.fin = 0
theorem Built.nil {P : Int → List Int} {S : Srt} (h1 : S.infos = []) (h2 : S.ready = none) (h3 : S.passed = 0) (h4 : S.fin = 0) : Built P [] S :=
  ⟨⟨by rw [h1]; exact List.nodup_nil, by rw [h1]; simp, fun n _ => ⟨rfl, rfl⟩⟩, by rw [h1]; simp, h2, h3, h4⟩
theorem filter_one {ps : List Int} {m n : Int} (nd : ps.Nodup) : (ps.filter (· = m)).map (fun _ => n) = if m ∈ ps then [n] else [] := by
  induction ps with
  | nil => rfl
  | cons p ps ih =>
    rw [List.nodup_cons] at nd
    by_cases e : p = m
    · subst e
      have h0 : ps.filter (· = p) = [] := by
        rw [List.filter_eq_nil_iff]
        intro a ha q
        exact nd.1 ((by simpa using q : a = p) ▸ ha)
      simp [h0]
    · have e' : ¬ m = p := fun q => e q.symm
      simp [e, e', ih nd.2]
theorem Built.snoc {P : Int → List Int} {l : List Int} {n : Int} {S S' : Srt} (B : Built P l S) (h : AddR n S (P n) S') (hn : n ∉ l) (nd : (P n).Nodup) : Built P (l ++ [n]) S' := by
  obtain ⟨I, N⟩ := AddR.is h B.is
  obtain ⟨_, h2, h3, h4⟩ := AddR.keep h B.is.nd
  refine ⟨?_, fun m => ?_, h2.trans B.ready, h3.trans B.passed, h4.trans B.fin⟩
  · have e1 : (fun m => if m = n then npF P l m + (P n).length else npF P l m) = npF P (l ++ [n]) := by
      funext m
      unfold npF
      by_cases e : m = n
      · subst e; simp [hn]
      · simp [e]
    have e2 : suAdd (suF P l) n (P n) = suF P (l ++ [n]) := by
      funext m
      unfold suAdd suF
      rw [filter_one nd, List.filter_append]
      by_cases e : m ∈ P n <;> simp [e]
    rw [e1, e2] at I
    exact I
  · rw [N m, B.nodes m]
    simp only [List.mem_append, List.mem_singleton]
    constructor
    · rintro ((h | ⟨k, hk, hm⟩) | h | h)
      · exact .inl (.inl h)
      · exact .inr ⟨k, .inl hk, hm⟩
      · exact .inl (.inr h)
      · exact .inr ⟨n, .inr rfl, h⟩
    · rintro ((h | h) | ⟨k, hk | hk, hm⟩)
      · exact .inl (.inl h)
      · exact .inr (.inl h)
      · exact .inl (.inr ⟨k, hk, hm⟩)
      · subst hk; exact .inr (.inr hm)
/-- the sorter on its way: L is not done, W is out, R is ready -/
structure Run (N : List Int) (P : Int → List Int) (S : Srt) (r : Addr) (L W R : List Int) : Prop where
  nd : (nodesOf S.infos).Nodup
  nodes : ∀ m, m ∈ nodesOf S.infos ↔ m ∈ N
  su : ∀ x ∈ S.infos, x.succ.Nodup ∧ ∀ m, m ∈ x.succ ↔ m ∈ N ∧ x.node ∈ P m
  np : ∀ x ∈ S.infos, x.np = if x.node ∈ L then (if x.node ∈ W then -1 else (((P x.node).filter fun p => decide (p ∈ L)).length : Int)) else -2
  rdy : S.ready = some (r, R)
  rnd : R.Nodup
  rm : ∀ n, n ∈ R ↔ n ∈ L ∧ n ∉ W ∧ ∀ p ∈ P n, p ∉ L
  wnd : W.Nodup
  wm : ∀ n ∈ W, n ∈ L ∧ ∀ p ∈ P n, p ∉ L
  lnd : L.Nodup
  lm : ∀ n ∈ L, n ∈ N
  pn : ∀ n ∈ N, (P n).Nodup ∧ ∀ p ∈ P n, p ∈ N
  cnt : S.passed = S.fin + W.length
  down : ∀ n ∈ N, n ∉ L → ∀ p ∈ P n, p ∉ L
theorem readyL_mem {xs : List Info} {np : Int → Int} {su : Int → List Int} (I : Is xs np su) : (readyL xs).Nodup ∧ ∀ n, n ∈ readyL xs ↔ n ∈ nodesOf xs ∧ np n = 0 := by
  constructor
  · have : (readyL xs).Sublist (nodesOf xs) := (List.filter_sublist).map _
    exact this.nodup I.nd
  · intro n
    unfold readyL
    constructor
    · intro h
      obtain ⟨x, hx, rfl⟩ := List.mem_map.mp h
      obtain ⟨h1, h2⟩ := List.mem_filter.mp hx
      exact ⟨mem_nodes h1, by rw [← (I.at' x h1).1]; simpa using h2⟩
    · rintro ⟨h1, h2⟩
      obtain ⟨x, hx, rfl⟩ := List.mem_map.mp h1
      exact List.mem_map.mpr ⟨x, List.mem_filter.mpr ⟨hx, by rw [(I.at' x hx).1, h2]; rfl⟩, rfl⟩
theorem Built.nodesN {P : Int → List Int} {N : List Int} {S : Srt} (B : Built P N S) (hp : ∀ n ∈ N, (P n).Nodup ∧ ∀ p ∈ P n, p ∈ N) : ∀ m, m ∈ nodesOf S.infos ↔ m ∈ N := fun m => by
  rw [B.nodes m]
  exact ⟨fun h => h.elim id fun ⟨n, hn, hm⟩ => (hp n hn).2 m hm, .inl⟩
theorem Built.run {P : Int → List Int} {N : List Int} {S : Srt} {r : Addr} (B : Built P N S) (hN : N.Nodup) (hp : ∀ n ∈ N, (P n).Nodup ∧ ∀ p ∈ P n, p ∈ N) : Run N P { S with ready := some (r, readyL S.infos) } r N [] (readyL S.infos) := by
  have hn := B.nodesN hp
  obtain ⟨r1, r2⟩ := readyL_mem B.is
  refine ⟨B.is.nd, hn, fun x hx => ?_, fun x hx => ?_, rfl, r1, fun n => ?_, List.nodup_nil, fun n h => (by cases h), hN, fun n h => h, hp, ?_, fun n h1 h2 => absurd h1 h2⟩
  · rw [(B.is.at' x hx).2]
    refine ⟨(List.filter_sublist).nodup hN, fun m => ?_⟩
    unfold suF
    rw [List.mem_filter]
    simp
  · have hm : x.node ∈ N := (hn _).mp (mem_nodes hx)
    rw [(B.is.at' x hx).1]
    unfold npF
    rw [if_pos hm, if_pos hm, if_neg (by simp)]
    rw [List.filter_eq_self.mpr fun p hp' => by simpa using (hp _ hm).2 p hp']
  · rw [r2, hn]
    constructor
    · rintro ⟨h1, h2⟩
      refine ⟨h1, by simp, fun p hp' => ?_⟩
      unfold npF at h2
      rw [if_pos h1] at h2
      have : P n = [] := List.length_eq_zero_iff.mp (by lia)
      rw [this] at hp'; cases hp'
    · rintro ⟨h1, _, h3⟩
      refine ⟨h1, ?_⟩
      unfold npF
      rw [if_pos h1]
      cases e : P n with
      | nil => rfl
      | cons p ps =>
        have hm : p ∈ P n := by rw [e]; exact .head _
        exact absurd ((hp n h1).2 p hm) (h3 p hm)
  · show S.passed = S.fin + _
    rw [B.passed, B.fin]; rfl
theorem outAll_mem : ∀ {l : List Int} {xs : List Info} {y : Info}, y ∈ outAll xs l → ∃ x ∈ xs, y = { x with np := if x.node ∈ l then -1 else x.np }
  | [], xs, y, h => ⟨y, h, by simp⟩
  | n :: l, xs, y, h => by
    obtain ⟨z, hz, rfl⟩ := outAll_mem (l := l) (xs := setNp xs n (-1)) h
    obtain ⟨x, hx, rfl⟩ := List.mem_map.mp hz
    refine ⟨x, hx, ?_⟩
    by_cases e : x.node = n
    · by_cases e2 : n ∈ l <;> simp [e, e2]
    · by_cases e2 : x.node ∈ l <;> simp [e, e2]
/-- those that are ready are handed out -/
theorem Run.out {N : List Int} {P : Int → List Int} {S : Srt} {r : Addr} {L W R : List Int} (h : Run N P S r L W R) :
    Run N P { S with infos := outAll S.infos R, ready := some (r, []), passed := S.passed + R.length } r L (W ++ R) [] := by
  have dis : ∀ n ∈ W, n ∉ R := fun n hn hr => ((h.rm n).mp hr).2.1 hn
  refine ⟨by rw [outAll_nodes]; exact h.nd, fun m => by rw [outAll_nodes]; exact h.nodes m, fun y hy => ?_, fun y hy => ?_, rfl, List.nodup_nil, fun n => ?_, ?_, fun n hn => ?_, h.lnd, h.lm, h.pn, ?_, h.down⟩
  · obtain ⟨x, hx, rfl⟩ := outAll_mem hy
    exact h.su x hx
  · obtain ⟨x, hx, rfl⟩ := outAll_mem hy
    show (if x.node ∈ R then -1 else x.np) = if x.node ∈ L then (if x.node ∈ W ++ R then -1 else _) else -2
    by_cases hr : x.node ∈ R
    · rw [if_pos hr, if_pos ((h.rm _).mp hr).1, if_pos (List.mem_append_right _ hr)]
    · rw [if_neg hr, h.np x hx]
      by_cases hw : x.node ∈ W
      · simp [hw]
      · simp [hw, hr]
  · constructor
    · intro q; cases q
    · rintro ⟨h1, h2, h3⟩
      have : n ∈ R := (h.rm n).mpr ⟨h1, fun q => h2 (List.mem_append_left _ q), h3⟩
      exact absurd (List.mem_append_right _ this) h2
  · rw [List.nodup_append]
    exact ⟨h.wnd, h.rnd, fun a ha b hb e => dis a ha (e ▸ hb)⟩
  · rcases List.mem_append.mp hn with hn | hn
    · exact h.wm n hn
    · obtain ⟨h1, _, h3⟩ := (h.rm n).mp hn
      exact ⟨h1, h3⟩
  · show S.passed + _ = S.fin + _
    rw [h.cnt, List.length_append]; lia
/-- what is out is just what has nothing ahead of it that is not done -/
theorem Run.wait {N : List Int} {P : Int → List Int} {S : Srt} {r : Addr} {L W : List Int} (h : Run N P S r L W []) (n : Int) : n ∈ W ↔ n ∈ L ∧ ∀ p ∈ P n, p ∉ L := by
  constructor
  · exact h.wm n
  · rintro ⟨h1, h2⟩
    by_cases hw : n ∈ W
    · exact hw
    · exact absurd ((h.rm n).mpr ⟨h1, hw, h2⟩) (by simp)
theorem len_sub : ∀ {a b : List Int}, a.Nodup → (∀ m ∈ a, m ∈ b) → a.length ≤ b.length
  | [], b, _, _ => Nat.zero_le _
  | x :: a, b, nd, h => by
    rw [List.nodup_cons] at nd
    have hx : x ∈ b := h x (.head _)
    have := len_sub (a := a) (b := b.erase x) nd.2 fun m hm => (List.mem_erase_of_ne (fun e : m = x => nd.1 (e ▸ hm))).mpr (h m (.tail _ hm))
    rw [List.length_erase_of_mem hx] at this
    have : 0 < b.length := List.length_pos_of_mem hx
    simp; lia
theorem npOf_mem {xs : List Info} {x : Info} (nd : (nodesOf xs).Nodup) (hx : x ∈ xs) : npOf xs x.node = x.np := by
  unfold npOf; rw [find_of_mem nd hx]; rfl
theorem npOf_other {s t : Int} (h : t ≠ s) : ∀ (xs : List Info), npOf (decS xs s) t = npOf xs t
  | [] => rfl
  | x :: xs => by
    have ih := npOf_other h xs
    unfold npOf decS atNode at ih ⊢
    rw [List.map_cons]
    by_cases e : x.node = s
    · have hne : ¬ x.node = t := fun q => h (q.symm.trans e)
      rw [if_pos e, List.find?_cons, List.find?_cons]
      simp only [hne, decide_false]
      exact ih
    · rw [if_neg e, List.find?_cons, List.find?_cons]
      by_cases e2 : x.node = t
      · simp [e2]
      · simp only [e2, decide_false]
        exact ih
theorem decS_nodes {xs : List Info} {s : Int} : nodesOf (decS xs s) = nodesOf xs := atNode_nodes fun _ => rfl
theorem decAll_mem : ∀ {ss : List Int} {p : List Info × List Int} {y : Info}, ss.Nodup → y ∈ (decAll p ss).1 → ∃ x ∈ p.1, y = { x with np := if x.node ∈ ss then x.np - 1 else x.np }
  | [], p, y, _, h => ⟨y, h, by simp⟩
  | s :: ss, p, y, nd, h => by
    rw [List.nodup_cons] at nd
    obtain ⟨z, hz, rfl⟩ := decAll_mem (ss := ss) (p := decStep p s) nd.2 h
    obtain ⟨x, hx, rfl⟩ := List.mem_map.mp hz
    refine ⟨x, hx, ?_⟩
    by_cases e : x.node = s
    · have : x.node ∉ ss := e ▸ nd.1
      simp [e, nd.1]
    · by_cases e2 : x.node ∈ ss <;> simp [e, e2]
theorem decAll_list : ∀ {ss : List Int} {xs : List Info} {l : List Int}, ss.Nodup → (nodesOf xs).Nodup → (∀ s ∈ ss, s ∈ nodesOf xs) → (decAll (xs, l) ss).2 = l ++ ss.filter fun s => decide (npOf xs s = 1)
  | [], xs, l, _, _, _ => by simp [decAll]
  | s :: ss, xs, l, nd, nx, hm => by
    rw [List.nodup_cons] at nd
    have ih := decAll_list (ss := ss) (xs := decS xs s) (l := (decStep (xs, l) s).2) nd.2 (by rw [decS_nodes]; exact nx) (fun t ht => by rw [decS_nodes]; exact hm t (.tail _ ht))
    show (decAll (decS xs s, (decStep (xs, l) s).2) ss).2 = _
    rw [ih]
    have e1 : npOf (decS xs s) s = npOf xs s - 1 := by
      obtain ⟨x, hx, e⟩ := List.mem_map.mp (hm s (.head _))
      rw [npOf_dec nx hx e, ← e, npOf_mem nx hx]
    have e2 : ss.filter (fun t => decide (npOf (decS xs s) t = 1)) = ss.filter fun t => decide (npOf xs t = 1) := by
      refine List.filter_congr fun t ht => ?_
      rw [npOf_other (fun q : t = s => nd.1 (q ▸ ht))]
    rw [e2]
    show (if npOf (decS xs s) s = 0 then l ++ [s] else l) ++ _ = _
    rw [e1]
    by_cases q : npOf xs s = 1
    · rw [if_pos (by lia), List.filter_cons, if_pos (by simpa using q), List.append_assoc]; rfl
    · rw [if_neg (by lia), List.filter_cons, if_neg (by simpa using q)]
theorem shape_nodup {xs ys : List Info} (h : shape xs = shape ys) (nd : (nodesOf ys).Nodup) : (nodesOf xs).Nodup := by rw [shape_nodes h]; exact nd
theorem count_out {ps L : List Int} {n : Int} (nd : ps.Nodup) (hl : L.Nodup) (h1 : n ∈ ps) (h2 : n ∈ L) : ((ps.filter fun p => decide (p ∈ L.erase n)).length : Int) = ((ps.filter fun p => decide (p ∈ L)).length : Int) - 1 := by
  have e : ps.filter (fun p => decide (p ∈ L.erase n)) = (ps.filter fun p => decide (p ∈ L)).erase n := by
    rw [(nd.sublist List.filter_sublist).erase_eq_filter, List.filter_filter]
    refine List.filter_congr fun p hp => ?_
    have : p ∈ L.erase n ↔ p ≠ n ∧ p ∈ L := hl.mem_erase_iff
    rw [show decide (p ∈ L.erase n) = decide (p ≠ n ∧ p ∈ L) from decide_eq_decide.mpr this]
    by_cases e : p = n <;> simp [e]
  have hm : n ∈ ps.filter fun p => decide (p ∈ L) := List.mem_filter.mpr ⟨h1, by simpa using h2⟩
  rw [e, List.length_erase_of_mem hm]
  have : 0 < (ps.filter fun p => decide (p ∈ L)).length := List.length_pos_of_mem hm
  lia
theorem count_same {ps L : List Int} {n : Int} (hl : L.Nodup) (h1 : n ∉ ps) : (ps.filter fun p => decide (p ∈ L.erase n)) = ps.filter fun p => decide (p ∈ L) := by
  refine List.filter_congr fun p hp => ?_
  have h2 : p ≠ n := fun e => h1 (e ▸ hp)
  have : p ∈ L.erase n ↔ p ≠ n ∧ p ∈ L := hl.mem_erase_iff
  simp [this, h2]
/-- one of those that are out is done -/
theorem Run.done {N : List Int} {P : Int → List Int} {S : Srt} {r : Addr} {L W R : List Int} (h : Run N P S r L W R) {n : Int} (hn : n ∈ W) :
    ∃ x ∈ S.infos, x.node = n ∧ x.np = -1 ∧ (∀ m ∈ x.succ, m ∈ nodesOf S.infos) ∧ x.succ.length ≤ N.length ∧ ∃ R', Run N P (doneS S r n R x.succ) r (L.erase n) (W.erase n) R' := by
  obtain ⟨hL, hP⟩ := h.wm n hn
  obtain ⟨x, hx, e⟩ := List.mem_map.mp ((h.nodes n).mpr (h.lm n hL))
  obtain ⟨snd, sm⟩ := h.su x hx
  have hsn : ∀ m ∈ x.succ, m ∈ nodesOf S.infos := fun m hm => (h.nodes m).mpr ((sm m).mp hm).1
  have hsl : x.succ.length ≤ N.length := by
    exact len_sub snd fun m hm => ((sm m).mp hm).1
  have hnp : x.np = -1 := by rw [h.np x hx, e, if_pos hL, if_pos hn]
  refine ⟨x, hx, e, hnp, hsn, hsl, (decAll (setNp S.infos n (-2), R) x.succ).2, ?_⟩
  have nd2 : (nodesOf (setNp S.infos n (-2))).Nodup := by rw [setNp_nodes]; exact h.nd
  have hsn2 : ∀ s ∈ x.succ, s ∈ nodesOf (setNp S.infos n (-2)) := fun s hs => by rw [setNp_nodes]; exact hsn s hs
  have hR' := decAll_list (l := R) snd nd2 hsn2
  have hsh : shape (decAll (setNp S.infos n (-2), R) x.succ).1 = shape S.infos := decAll_shape.trans (shape_at fun _ => ⟨rfl, rfl, rfl, rfl⟩)
  have hnot : n ∉ x.succ := fun q => hP n (by rw [← e]; rw [← e] at q; exact ((sm _).mp q).2) hL
  -- what a successor is
  have hs : ∀ s ∈ x.succ, s ∈ N ∧ n ∈ P s ∧ s ∈ L ∧ s ∉ W ∧ s ≠ n := fun s q => by
    obtain ⟨h1, h2⟩ := (sm s).mp q
    rw [e] at h2
    refine ⟨h1, h2, ?_, fun hw => (h.wm s hw).2 n h2 hL, fun q' => hnot (q' ▸ q)⟩
    by_cases hl : s ∈ L
    · exact hl
    · exact absurd hL (h.down s h1 hl n h2)
  have hnps : ∀ s ∈ x.succ, npOf (setNp S.infos n (-2)) s = (((P s).filter fun p => decide (p ∈ L)).length : Int) := fun s q => by
    obtain ⟨a1, a2, a3, a4, a5⟩ := hs s q
    obtain ⟨y, hy, ey⟩ := List.mem_map.mp (hsn2 s q)
    rw [← ey, npOf_mem nd2 hy]
    obtain ⟨z, hz, rfl⟩ := List.mem_map.mp hy
    by_cases e3 : z.node = n
    · rw [if_pos e3] at ey
      exact absurd (ey.symm.trans e3) a5
    · rw [if_neg e3] at ey ⊢
      rw [h.np z hz, ey, if_pos a3, if_neg a4]
  refine ⟨?_, fun m => ?_, fun y hy => ?_, fun y hy => ?_, rfl, ?_, fun m => ?_, h.wnd.erase n, fun m hm => ?_, h.lnd.erase n, fun m hm => h.lm m (List.mem_of_mem_erase hm), h.pn, ?_, fun m hm hml p hp => ?_⟩
  · exact shape_nodup hsh h.nd
  · show m ∈ nodesOf (decAll (setNp S.infos n (-2), R) x.succ).1 ↔ _
    rw [shape_nodes hsh]; exact h.nodes m
  · obtain ⟨z, hz, e1, _, _, e4⟩ := shape_mem hsh.symm hy
    rw [← e4, ← e1]
    exact h.su z hz
  · obtain ⟨z, hz, rfl⟩ := decAll_mem snd hy
    obtain ⟨w, hw, rfl⟩ := List.mem_map.mp hz
    by_cases e3 : w.node = n
    · rw [if_pos e3]
      show (if w.node ∈ x.succ then _ else (-2 : Int)) = if w.node ∈ L.erase n then _ else -2
      rw [e3, if_neg hnot, if_neg (by rw [h.lnd.mem_erase_iff]; simp)]
    · rw [if_neg e3]
      show (if w.node ∈ x.succ then w.np - 1 else w.np) = if w.node ∈ L.erase n then (if w.node ∈ W.erase n then -1 else (((P w.node).filter fun p => decide (p ∈ L.erase n)).length : Int)) else -2
      have m1 : w.node ∈ L.erase n ↔ w.node ∈ L := by rw [h.lnd.mem_erase_iff]; simp [e3]
      have m2 : w.node ∈ W.erase n ↔ w.node ∈ W := by rw [h.wnd.mem_erase_iff]; simp [e3]
      simp only [m1, m2]
      by_cases q : w.node ∈ x.succ
      · obtain ⟨a1, a2, a3, a4, a5⟩ := hs _ q
        rw [if_pos q, if_pos a3, if_neg a4, h.np w hw, if_pos a3, if_neg a4, count_out (h.pn _ a1).1 h.lnd a2 hL]
      · rw [if_neg q, h.np w hw]
        have hwN : w.node ∈ N := (h.nodes _).mp (mem_nodes hw)
        have : n ∉ P w.node := fun q' => q ((sm _).mpr ⟨hwN, by rw [e]; exact q'⟩)
        rw [count_same h.lnd this]
  · rw [hR', List.nodup_append]
    refine ⟨h.rnd, snd.sublist List.filter_sublist, fun a ha b hb eab => ?_⟩
    subst eab
    have hb' := (List.mem_filter.mp hb).1
    exact ((h.rm a).mp ha).2.2 n (hs a hb').2.1 hL
  · rw [hR', List.mem_append, List.mem_filter]
    constructor
    · rintro (q | ⟨q1, q2⟩)
      · obtain ⟨h1, h2, h3⟩ := (h.rm m).mp q
        have hne : m ≠ n := fun e => h2 (e ▸ hn)
        refine ⟨(h.lnd.mem_erase_iff).mpr ⟨hne, h1⟩, fun q => h2 (List.mem_of_mem_erase q), fun p hp q => h3 p hp (List.mem_of_mem_erase q)⟩
      · obtain ⟨a1, a2, a3, a4, a5⟩ := hs m q1
        have q2 : npOf (setNp S.infos n (-2)) m = 1 := by simpa using q2
        rw [hnps m q1] at q2
        refine ⟨(h.lnd.mem_erase_iff).mpr ⟨a5, a3⟩, fun q => a4 (List.mem_of_mem_erase q), fun p hp q => ?_⟩
        have h0 := count_out (h.pn m a1).1 h.lnd a2 hL
        rw [q2] at h0
        have : ((P m).filter fun p => decide (p ∈ L.erase n)) = [] := List.length_eq_zero_iff.mp (by lia)
        have hm : p ∈ (P m).filter fun p => decide (p ∈ L.erase n) := List.mem_filter.mpr ⟨hp, by simpa using q⟩
        rw [this] at hm; cases hm
    · rintro ⟨h1, h2, h3⟩
      obtain ⟨e1, h1'⟩ := (h.lnd.mem_erase_iff).mp h1
      have hw : m ∉ W := fun q => h2 ((h.wnd.mem_erase_iff).mpr ⟨e1, q⟩)
      have hmN := h.lm m h1'
      by_cases q : m ∈ x.succ
      · right
        refine ⟨q, ?_⟩
        obtain ⟨a1, a2, a3, a4, a5⟩ := hs m q
        have h0 := count_out (h.pn m a1).1 h.lnd a2 hL
        have : ((P m).filter fun p => decide (p ∈ L.erase n)) = [] := by
          rw [List.filter_eq_nil_iff]
          intro p hp q'
          exact h3 p hp (by simpa using q')
        rw [this] at h0
        have : npOf (setNp S.infos n (-2)) m = 1 := by rw [hnps m q]; simp at h0; lia
        simpa using this
      · left
        refine (h.rm m).mpr ⟨h1', hw, fun p hp q' => ?_⟩
        have : p ≠ n := fun e' => q ((sm m).mpr ⟨hmN, by rw [e, ← e']; exact hp⟩)
        exact h3 p hp ((h.lnd.mem_erase_iff).mpr ⟨this, q'⟩)
  · obtain ⟨h1, h2⟩ := h.wm m (List.mem_of_mem_erase hm)
    obtain ⟨e1, _⟩ := (h.wnd.mem_erase_iff).mp hm
    exact ⟨(h.lnd.mem_erase_iff).mpr ⟨e1, h1⟩, fun p hp q => h2 p hp (List.mem_of_mem_erase q)⟩
  · show S.passed = S.fin + 1 + _
    rw [h.cnt, List.length_erase_of_mem hn]
    have : 0 < W.length := List.length_pos_of_mem hn
    lia
  · have : m ∉ L ∨ m = n := by
      by_cases e1 : m = n
      · exact .inr e1
      · exact .inl fun q => hml ((h.lnd.mem_erase_iff).mpr ⟨e1, q⟩)
    rcases this with q | rfl
    · exact fun q' => h.down m hm q p hp (List.mem_of_mem_erase q')
    · exact fun q' => hP p hp (List.mem_of_mem_erase q')
/-- the table of the codes made within a def: what stands there for a place -/
noncomputable def tabO (pos : Pos) (oc : Option Addr) : AObj := .objp fun o => ∃ ps : Array Value, o = { cls := .none, data := .fields ps } ∧ TriplesOk ps.toList ∧ codeAmong pos ps.toList = oc.map Value.ref
noncomputable def codeO (q : Str) : AObj := .objp fun o => ∃ vs t, o.data = .fields vs ∧ vs[1]? = some (.str q t)
noncomputable abbrev lamFd (qual : Str) (params : Arguments) (body : Expr) (scope : Scope) (cl : List (Str × Addr)) (c' : Addr) (pm ctv : Value) : FuncData :=
  { name := "<lambda>", qualname := qual, params, body := .expr body, scope, globals := mainGlobals, closure := cl, defaults := .none, kwdefaults := .none, doc := .none, pyModule := pm, annotations := none, code := .ref c', closureTuple := ctv, builtins := builtinsNs }
noncomputable def lamO (qual : Str) (params : Arguments) (body : Expr) (scope : Scope) (cl : List (Str × Addr)) (c' : Addr) : AObj :=
  .objp fun o => ∃ pm ctv, o = { cls := .type "function", data := .func (lamFd qual params body scope cl c' pm ctv) }
noncomputable def lamEnd (qual : Str) (params : Arguments) (body : Expr) (scope : Scope) (env : Env) (cl : List (Str × Addr)) (ctv code : Value) : Sem Value :=
  builtinsFor mainGlobals env.builtins >>= fun b => nsGet mainGlobals "__name__" >>= fun n => (Pure.pure Value.none : Sem Value) >>= fun doc => newObj (.type "function") (.func
    { name := "<lambda>", qualname := qual, params, body := .expr body, scope, globals := mainGlobals, closure := cl, defaults := .none, kwdefaults := .none, doc, pyModule := n.getD .none, annotations := none, code, closureTuple := ctv, builtins := b })
noncomputable def lamRest (qual : Str) (params : Arguments) (body : Expr) (scope : Scope) (env : Env) (cl : List (Str × Addr)) (ctv : Value) (pos : Pos) (line : Nat) : Sem Value :=
  functionCode env pos line "<lambda>" qual params scope (.expr body) >>= fun code => builtinsFor env.globals env.builtins >>= fun b => nsGet env.globals "__name__" >>= fun n => (Pure.pure Value.none : Sem Value) >>= fun doc => newObj (.type "function") (.func
    { name := "<lambda>", qualname := qual, params, body := .expr body, scope, globals := env.globals, closure := cl, defaults := .none, kwdefaults := .none, doc, pyModule := n.getD .none, annotations := none, code, closureTuple := ctv, builtins := b })
structure CodeOk (C : Cx) (c P : Addr) : Prop where
  hd : ∃ o vs file tf flags tg inF text tt, C.h0.get? c = some o ∧ o.cls = .type "code" ∧ o.data = .fields vs ∧ vs[11]? = some (.ref P) ∧ vs.getD 18 .none = .str file tf ∧ vs.getD 7 .none = .int flags tg ∧ vs.getD 9 .none = .bool inF ∧ vs.getD 10 .none = .int text tt
  out : c ∉ C.tabs
  tab : P ∈ C.tabs
structure BltOk (C : Cx) : Prop where
  at' : ∃ mg bm ob, C.h0.Ns mainGlobals mg ∧ mg "__builtins__" = some (.ref bm) ∧ bm ≠ builtinsNs ∧ C.h0.get? bm = some ob ∧ ob.cls = .type "module" ∧ ob.dict = some builtinsNs ∧ ob.data = .plain ∧ bm ∉ C.tabs
  out : mainGlobals ∉ C.tabs
section
variable {C : Cx} {d : Nat} {env : Env} {H : SH} {Q : Value → SH → Prop} {Φ : SH} {s : Shared}
/-- one entry turned, others come new -/
theorem Inv.turnAdd {K : SH} {H : SH} {s' : Shared} {a : Addr} {x y : AObj} (I : Inv C ((a, x) :: H) s) (hs : ∀ b o, b ≠ a → s.heap.get? b = some o → s'.heap.get? b = some o) (hy : Rep s' a y) (hg : genOf (a, y) = genOf (a, x))
    (hK : ∀ p ∈ K, s.heap.objs.size ≤ p.1 ∧ Rep s' p.1 p.2 ∧ genOf p = none) (hn : (K.map (·.1)).Nodup) (eg : s'.gens = s.gens) (eo : s'.os = s.os) : Inv C (K ++ (a, y) :: H) s' := by
  have J := I.turn hs hy hg eg eo
  have out : ∀ p ∈ (a, y) :: H, p.1 < s.heap.objs.size := fun p hp => by
    rcases List.mem_cons.mp hp with rfl | hp
    · obtain ⟨o, ho⟩ := (I.own (a, x) (.head _)).there
      exact Heap.lt_size ho
    · obtain ⟨o, ho⟩ := (I.own p (.tail _ hp)).there
      exact Heap.lt_size ho
  refine ⟨J.keep, fun p hp => ?_, fun p hp => ?_, ?_, ?_, J.os, J.bare⟩
  · rcases List.mem_append.mp hp with hp | hp
    · exact (hK p hp).2.1
    · exact J.own p hp
  · rcases List.mem_append.mp hp with hp | hp
    · exact I.fresh (hK p hp).1
    · exact J.new p hp
  · rw [List.map_append, List.nodup_append]
    refine ⟨hn, J.nodup, fun a ha b hb e => ?_⟩
    obtain ⟨p, hp, rfl⟩ := List.mem_map.mp ha
    obtain ⟨q, hq, rfl⟩ := List.mem_map.mp hb
    have := out q hq
    rw [← e] at this
    exact absurd this (Nat.not_lt.mpr (hK p hp).1)
  · rw [List.filterMap_append]
    have : K.filterMap genOf = [] := List.filterMap_eq_nil_iff.mpr fun p hp => (hK p hp).2.2
    rw [this]; exact J.gens
theorem CodeOk.code {c P : Addr} (K : CodeOk C c P) (hk : ∀ b o, C.h0.get? b = some o → b ∉ C.tabs → s.heap.get? b = some o) {ps : Array Value} (hP : s.heap.get? P = some { cls := .none, data := .fields ps }) (ht : TriplesOk ps.toList) :
    s.heap.IsCode c P ps ∧ s.heap.TableAt c P ps := by
  obtain ⟨o, vs, file, tf, flags, tg, inF, text, tt, h1, h2, h3, h4, h5, h6, h7, h8⟩ := K.hd
  have h1' := hk _ _ h1 K.out
  have h4' : vs.getD 11 .none = .ref P := by rw [Array.getD_eq_getD_getElem?, h4]; rfl
  exact ⟨⟨o, vs, file, tf, flags, tg, inF, text, tt, _, h1', h3, h4', h5, h6, h7, h8, hP, rfl, ht, fun e => K.out (e ▸ K.tab)⟩, ⟨⟨o, vs, h1', h2, h3, h4⟩, hP⟩⟩
/-- a lambda made: its code is made the first time -/
theorem T.lamTail {name qual : Str} {params : Arguments} {body : Expr} {scope : Scope} {pos : Pos} {line : Nat} {cl : List (Str × Addr)} {c P : Addr} {oc : Option Addr} {R : SH} {QV : Value → SH → Prop} (en : name = "<lambda>")
    (hcl : closureFor scope env = Pure.pure cl) (hge : env.globals = mainGlobals) (hcode : env.code = .ref c) (K : CodeOk C c P) (B : BltOk C) (hc : ∀ c', oc = some c' → Has c' (codeO qual) R)
    (h : ∀ f c', (oc = some c' → QV (.ref f) ((f, lamO qual params body scope cl c') :: (P, tabO pos oc) :: R)) ∧ (oc = none → QV (.ref f) ((f, lamO qual params body scope cl c') :: (c', codeO qual) :: (P, tabO pos (some c')) :: R))) :
    T C d (makeTail name qual params (.expr body) scope env .none .none none pos line) ((P, tabO pos oc) :: R) QV := fun Φ A s b I => by
  subst en
  obtain ⟨mg, bm, ob, hg, hb, hne, hbo, hcls, hdict, hdata, hbt⟩ := B.at'
  obtain ⟨o, ho, ps, rfl, ht, hps⟩ := I.own (P, tabO pos oc) (.head _)
  have hgP : mainGlobals ≠ P := fun e => B.out (e ▸ K.tab)
  have hbP : bm ≠ P := fun e => hbt (e ▸ K.tab)
  -- from the closure's tuple on
  have go : ∀ (ctv : Value) (h₁ : Heap), (∀ b o, s.heap.get? b = some o → h₁.get? b = some o) → s.heap.objs.size ≤ h₁.objs.size → wpAny C.M A (lamRest qual params body scope env cl ctv pos line) (fun a s' => Post C Φ (QV a) s') (fun _ _ => False) { s with heap := h₁ } := by
    intro ctv h₁ k₁ z₁
    have keep₁ : ∀ b o, C.h0.get? b = some o → b ∉ C.tabs → h₁.get? b = some o := fun b o e t => k₁ _ _ (I.keep b o e t)
    obtain ⟨c1, c2⟩ := K.code (s := { s with heap := h₁ }) keep₁ (k₁ _ _ ho) ht
    unfold lamRest
    rw [hge]
    -- the end, the code in hand
    have fin : ∀ (c' : Addr) (h₂ : Heap) (tk : Tok), (∀ b o, b ≠ P → h₁.get? b = some o → h₂.get? b = some o) →
        (∀ f ctv pm, f = h₂.objs.size → Post C Φ (QV (.ref f)) { s with heap := h₂.push { cls := .type "function", data := .func (lamFd qual params body scope cl c' pm ctv) }, toks := tk }) →
        wpAny C.M A (lamEnd qual params body scope env cl ctv (.ref c')) (fun a s' => Post C Φ (QV a) s') (fun _ _ => False) { s with heap := h₂, toks := tk } := by
      intro c' h₂ tk k₂ post
      unfold lamEnd
      have hg₂ : h₂.Ns mainGlobals mg := by
        obtain ⟨o, es, ep, e, r⟩ := hg
        exact ⟨o, es, ep, k₂ _ _ hgP (keep₁ _ _ e B.out), r⟩
      refine wpAny_bind (wpAny_builtinsFor (s := { s with heap := h₂, toks := tk }) hg₂ hb hne (k₂ _ _ hbP (keep₁ _ _ hbo hbt)) hcls hdict hdata ?_)
      refine wpAny_bind (wpAny_nsGet (s := { s with heap := h₂, toks := tk }) hg₂ ?_)
      exact wpAny_bind (wpAny_pure (wpAny_newObj_type (post _ _ _ rfl) (by size_fits)))
    cases oc with
    | some c' =>
      have hc' := hc c' rfl
      refine wpAny_bind (wpAny_functionCode_hit (s := { s with heap := h₁ }) hcode c1 (hps : codeAmong pos ps.toList = some (.ref c')) ?_)
      refine fin c' h₁ s.toks (fun _ _ _ e => e) fun f ctv pm ef => ?_
      subst ef
      have J : Inv C ((h₁.objs.size, lamO qual params body scope cl c') :: ((P, tabO pos (some c')) :: R ++ Φ)) { s with heap := h₁.push { cls := .type "function", data := .func (lamFd qual params body scope cl c' pm ctv) } } :=
        I.push (x := lamO qual params body scope cl c') z₁ (fun b o e => Heap.get?_push_of_some _ (k₁ _ _ e)) ⟨_, Heap.get?_push_size _ rfl, pm, ctv, rfl⟩ rfl rfl rfl
      exact ⟨_, J, (h _ c').1 rfl⟩
    | none =>
      refine wpAny_bind (wpAny_functionCodeX (s := { s with heap := h₁ }) hcode c1 c2 (hps : codeAmong pos ps.toList = none) fun c' h₂ tk hx hge' hlt hok hrec htb _ => ?_)
      refine fin c' h₂ tk hx fun f ctv pm ef => ?_
      subst ef
      obtain ⟨c₂, oc, vs, t, e2, hoc, hd, hv⟩ := hrec
      cases e2
      have J := I.turnAdd (K := [(h₂.objs.size, lamO qual params body scope cl c'), (c', codeO qual)]) (y := tabO pos (some c')) (s' := { s with heap := h₂.push { cls := .type "function", data := .func (lamFd qual params body scope cl c' pm ctv) }, toks := tk })
        (fun b o q e => Heap.get?_push_of_some _ (hx _ _ q (k₁ _ _ e)))
        ⟨_, Heap.get?_push_of_some _ htb.2, _, rfl, by simpa using TriplesOk_snoc pos.line pos.col (.ref c') _ ht, by simpa using codeAmong_snoc (c := .ref c') _ ht hps⟩ rfl
        (fun p hp => by
          simp only [List.mem_cons, List.not_mem_nil, or_false] at hp
          rcases hp with rfl | rfl
          · exact ⟨Nat.le_trans z₁ (Nat.le_trans hge' (Nat.le_of_lt hlt)), ⟨_, Heap.get?_push_size _ rfl, pm, ctv, rfl⟩, rfl⟩
          · exact ⟨Nat.le_trans z₁ hge', ⟨_, Heap.get?_push_of_some _ hoc, vs, t, hd, hv⟩, rfl⟩)
        (by simpa using Nat.ne_of_gt hlt) rfl rfl
      exact ⟨_, J, (h _ c').2 rfl⟩
  unfold makeTail
  rw [hcl]
  refine wpAny_bind (wpAny_pure ?_)
  cases cl with
  | nil =>
    simp only [List.isEmpty_nil, if_true]
    exact wpAny_bind (wpAny_pure (go .none s.heap (fun _ _ e => e) (Nat.le_refl _)))
  | cons q r =>
    simp only [List.isEmpty_cons, Bool.false_eq_true, if_false]
    exact wpAny_bind (wpAny_newTextTuple (go _ _ (fun b o e => Heap.get?_push_of_some _ e) (by rw [Heap.size_push]; lia)))
theorem TE.lam {params : Arguments} {body : Expr} {scope : Scope} {pos : Pos} {cl : List (Str × Addr)} {c P : Addr} {oc : Option Addr} {R : SH} (hdef : defaultsOf params env = ([], [])) (hp : H.Perm ((P, tabO pos oc) :: R))
    (hcl : closureFor scope env = Pure.pure cl) (hge : env.globals = mainGlobals) (hcode : env.code = .ref c) (K : CodeOk C c P) (B : BltOk C) (hc : ∀ c', oc = some c' → Has c' (codeO (env.qual ++ "<lambda>")) R)
    (h : ∀ f c', (oc = some c' → Q (.ref f) ((f, lamO (env.qual ++ "<lambda>") params body scope cl c') :: (P, tabO pos oc) :: R)) ∧ (oc = none → Q (.ref f) ((f, lamO (env.qual ++ "<lambda>") params body scope cl c') :: (c', codeO (env.qual ++ "<lambda>")) :: (P, tabO pos (some c')) :: R))) :
    TE C d (.Lambda params body scope pos) env H Q := T.perm hp (T.eq (show eval (.Lambda params body scope pos) env = (do
        let dv ← evalAll []
        let kdv ← holding dv (evalAllOpt [])
        makeFunction "<lambda>" (env.qual ++ "<lambda>") params (.expr body) scope env dv kdv [] pos pos.line) by rw [arm_eval_Lambda, hdef]) fun Φ A s b I => by
  refine wpAny_bind (wpAny_pure (wpAny_bind (wpAny_holding (wpAny_pure ?_))))
  rw [makeFunction_eq]
  simp only [List.zip_nil_right, List.filterMap_nil, List.isEmpty_nil, if_true, pure_bind]
  exact T.lamTail (QV := fun v => Q (er v)) rfl hcl hge hcode K B hc h Φ A s b I)
end
/-- the block that the call of a lambda opens -/
structure IsLam (qual : Str) (scope : Scope) (cl : List (Str × Addr)) (c' f : Addr) (env : Env) : Prop where
  scope : env.scope = scope
  globals : env.globals = mainGlobals
  builtins : env.builtins = builtinsNs
  code : env.code = .ref c'
  func : env.func = some f
  frame : env.frame = some env.locals
  qual : env.qual = qual ++ ".<locals>."
  cells : env.cells = cl
theorem IsLam.kind {qual : Str} {scope : Scope} {cl : List (Str × Addr)} {c' f : Addr} {env : Env} (E : IsLam qual scope cl c' f env) {x : Str} {k : NameKind} (h : scope.names.lookup x = some k) : env.kindOf x = some k := by
  unfold Env.kindOf; rw [E.scope]; exact h
section
variable {C : Cx} {d : Nat} {H : SH} {Q : Value → SH → Prop}
theorem TCall.lam2 {f c' : Addr} {qual : Str} {params : Arguments} {body : Expr} {scope : Scope} {cl : List (Str × Addr)} {p1 p2 : Str} {a b : Value} (hf : Has f (lamO qual params body scope cl c') H) (hc : Has c' (codeO qual) H) (Lm : Lim C)
    (hbind : ∀ pm ctv x y, bindArgs (lamFd qual params body scope cl c' pm ctv) ⟨[x, y], []⟩ = pure [(p1, x), (p2, y)]) (hcell : ∀ x ∈ scope.names, x.2 ≠ .cell) (l1 : scope.names.lookup p1 = some .local) (l2 : scope.names.lookup p2 = some .local) (ne : p1 ≠ p2)
    (h : ∀ env, IsLam qual scope cl c' f env → TE C d body env ((env.locals, .ns [(p1, some a), (p2, some b)]) :: H) fun v H' => ∃ H₂, H₂.Sublist H' ∧ Q v H₂)
    (hk : scope.kind = .function := by rfl) (hco : scope.isCoroutine = false := by rfl) (hgen : scope.isGenerator = false := by rfl) : TCall C (d + 1) (.ref f) [a, b] H Q := fun xs ex Φ A s bd I => by
  obtain ⟨x, y, rfl, ea, eb⟩ := args2 ex
  obtain ⟨of, hof, pm, ctv, rfl⟩ := hf.rep I
  obtain ⟨oc, hoc, vs, t, hd, hv⟩ := hc.rep I
  refine wpAny_call (codeAny_of_tree ?_)
  show wpAny _ A.in1 (callAny (.ref f) _) _ _ s
  simp only [callAny]
  refine wpAny_bind (wpAny_load hof ?_)
  simp only [callFunction, hco, hgen]
  refine wpAny_bind (m := field (.ref c') 1) (wpAny_field hoc hd hv (wpAny_bind (wpAny_pure ?_)))
  rw [hbind]
  refine wpAny_bind (wpAny_pure (wpAny_bind (wpAny_newFunctionEnv hcell (fun z hz => ?_) (fun h' hns hsb => ?_) hk)))
  · simp only [List.mem_cons, List.not_mem_nil, or_false] at hz
    rcases hz with rfl | rfl
    · exact l1
    · exact l2
  · have k₁ : ∀ b o, s.heap.get? b = some o → h'.get? b = some o := fun b o e => hsb.extBut b o (Nat.ne_of_lt (Heap.lt_size e)) (Heap.get?_push_of_some _ e)
    have I₁ : Inv C ((s.heap.objs.size, .ns [(p1, some a), (p2, some b)]) :: (H ++ Φ)) { s with heap := h', toks := s.toks + 2 } := I.push (x := .ns [(p1, some a), (p2, some b)]) (Nat.le_refl _) k₁ ⟨by simp [ne], _, hns, fun p hp => by
      simp only [List.mem_cons, List.not_mem_nil, or_false] at hp
      rcases hp with rfl | rfl
      · have : (p1 == p2) = false := beq_eq_false_iff_ne.mpr ne
        simp [List.lookup_cons, this, ea]
      · simp [List.lookup_cons, eb]⟩ rfl rfl rfl
    obtain ⟨mc, hm, hlim⟩ := Lm.lim
    refine wpAny_bind (wpAny_enterFrame ⟨mc, I₁.ns hm Lm.out, hlim⟩ (by have := bd.depth; lia) (wpAny_pure ⟨rfl, ?_⟩))
    show codeAny _ _ (.expr body (newEnv scope s.heap.objs.size mainGlobals cl (qual ++ ".<locals>.") (some f) (.ref c') none builtinsNs)) _ _
    refine codeAny_of_tree ?_
    show wpAny _ (A.deeper _) (do point; ret (← (eval body _).onRaise (leaving _))) _ _ _
    refine wpAny_bind (wpAny_point (wpAny_bind (wpAny_onRaise (T.run (h _ ⟨rfl, rfl, rfl, rfl, rfl, rfl, rfl, rfl⟩) (bd.deeper Lm.off) I₁ fun v s' H' I' z => wpAny_pure ?_))))
    obtain ⟨H₂, sub, q⟩ := z
    exact ⟨H₂, I'.sub (sub.append_right Φ), q⟩
end
section
variable {C : Cx} {d : Nat} {H : SH} {Q : Value → SH → Prop}
/-- a list is not the empty one -/
theorem TCmp.neNil {l m : Addr} {xs : List Value} (hl : Has l (.list xs) H) (hm : Has m (.list []) H) (h : Q (.bool (!xs.isEmpty)) H) : TCmp C d .NotEq (.ref l) (.ref m) H Q := fun x y ex ey Φ A s b I => by
  cases er_ref ex; cases er_ref ey
  obtain ⟨vs, il, e⟩ := hl.isList I
  obtain ⟨ws, im, e'⟩ := hm.isList I
  have hv := map_size e
  have hw := map_size e'
  have hu : A.units < cLine := by have := b.units; lia
  cases xs with
  | nil =>
    refine SeqAt.RcNeAt.lists (e := fun _ => true) il im (hv.trans hw.symm) hu (fun j h1 h2 => absurd h1 (by rw [hv]; simp)) _ _ _ _ ⟨H, I, ?_⟩
    rw [hv]; exact h
  | cons a r =>
    refine SeqAt.RcNeAt.lists_lengths il im (by rw [hv, hw]; rfl) hu _ _ _ _ ⟨H, I, h⟩
theorem countIn_str (k : List Nat) : ∀ ts : List (List Nat), PySem.Spec.countIn (.str (S k)) ((ts.map S).map PyData.str) = (ts.count k : Int)
  | [] => rfl
  | t :: ts => by
    have ih := countIn_str k ts
    show (if PySem.Spec.same (.str (S t)) (.str (S k)) then (1 : Int) else 0) + PySem.Spec.countIn (.str (S k)) ((ts.map S).map PyData.str) = _
    have hs : PySem.Spec.same (.str (S t)) (.str (S k)) = decide (t = k) := by
      rw [← S_beq]; rfl
    rw [ih, hs, List.count_cons]
    by_cases e : t = k
    · simp [e]; lia
    · simp [e]
theorem TCall.countStr {l : Addr} {ts : List (List Nat)} {k : List Nat} (hl : Has l (.list (ts.map fun c => .str (S c) 0)) H) (h : Q (.int (ts.count k) 0) H) : TCall C d (.builtin "list.count") [.ref l, .str (S k) 0] H Q := fun as ea Φ A s b I => by
  obtain ⟨x, y, rfl, ex, ey⟩ := args2 ea
  cases er_ref ex
  obtain ⟨t, rfl⟩ := er_str ey
  obtain ⟨vs, il, e⟩ := hl.isList I
  have := strL_vals e
  refine count_list_strs (vs := vs.toList) (by simpa using il) this ?_
  exact ⟨H, I.tok rfl rfl rfl, by rw [countIn_str]; exact h⟩
theorem TCmp.isOther {a b : Addr} {x' : AObj} (ha : Has a x' H) (hn : ∀ s : Shared, ∀ o, Rep s a x' → s.heap.get? a = some o → o.cls ≠ .type "tuple") {o : Obj} (hb : C.h0.get? b = some o) (ht : b ∉ C.tabs) (h : Q (.bool false) H) : TCmp C d .Is (.ref a) (.ref b) H Q := fun x y ex ey Φ A s bd I => by
  cases er_ref ex; cases er_ref ey
  have hab : a ≠ b := fun e => by
    rcases I.new (a, x') (List.mem_append_left _ ha.mem) with q | q
    · rw [show (a, x').1 = b from e, hb] at q; cases q
    · exact ht (e ▸ q)
  obtain ⟨oa, ho⟩ := (ha.rep I).there
  exact wpAny_is_ref_other hab ho (I.keep _ _ hb ht) (hn s _ (ha.rep I) ho) ⟨H, I, h⟩
end
-- what the comprehensions of law 1 ask again and again
noncomputable def namesB (ns : List (Str × NameKind)) : Bool := ns.all fun x => !(x.2 == .local) || ns.lookup x.1 == some .local
theorem namesB_ok {ns : List (Str × NameKind)} (h : namesB ns = true) : ∀ x ∈ ns, x.2 = .local → ns.lookup x.1 = some .local := fun x hx e => by
  have := List.all_eq_true.mp h x hx
  rw [e] at this
  simpa using this
theorem noCell {ns : List (Str × NameKind)} (h : (ns.all fun x => !(x.2 == .cell)) = true) : ∀ x ∈ ns, x.2 ≠ .cell := fun x hx e => by
  have := List.all_eq_true.mp h x hx
  rw [e] at this
  cases this
theorem IsComp.cells0 {scope : Scope} {env cenv : Env} {cl : List (Str × Addr)} (E : IsComp scope env cl cenv) (h : ((scope.names.filter (·.2 == .cell)).map (·.1)).reverse = []) : cenv.cells = cl := by
  obtain ⟨ow, e1, e2⟩ := E.cells
  rw [h] at e2
  rw [e1, List.map_eq_nil_iff.mp e2]; rfl
theorem IsComp.look0 {scope : Scope} {env cenv : Env} {cl : List (Str × Addr)} (E : IsComp scope env cl cenv) {x : Str} {a : Addr} (h : ((scope.names.filter (·.2 == .cell)).map (·.1)).reverse = []) (hx : cl.lookup x = some a) : cenv.cells.lookup x = some a := by rw [E.cells0 h]; exact hx
theorem IsComp.cells1 {scope : Scope} {env cenv : Env} {cl : List (Str × Addr)} {x : Str} (E : IsComp scope env cl cenv) (h : ((scope.names.filter (·.2 == .cell)).map (·.1)).reverse = [x]) : ∃ a, cenv.cells = (x, a) :: cl := by
  obtain ⟨ow, e1, e2⟩ := E.cells
  rw [h] at e2
  obtain ⟨p, r, rfl, e3, e4⟩ := List.map_eq_cons_iff.mp e2
  rw [List.map_eq_nil_iff.mp e4] at e1
  exact ⟨p.2, by rw [e1, ← e3]; rfl⟩
theorem keepI {p : Int → Bool} {l l' : List Int} {x : Int} (ht : l' = l ++ [x]) (h : p x = true) : intL (l.filter p) ++ [.int x 0] = intL (l'.filter p) := by
  rw [ht, List.filter_append, List.filter_cons, h]
  simp [intL]
theorem skipI {p : Int → Bool} {l l' : List Int} {x : Int} (ht : l' = l ++ [x]) (h : p x = false) : intL (l.filter p) = intL (l'.filter p) := by
  rw [ht, List.filter_append, List.filter_cons, h]
  simp [intL]
theorem mapI {f : Int → Int} {l l' : List Int} {x c : Int} (ht : l' = l ++ [x]) (h : f x = c) : intL (l.map f) ++ [.int c 0] = intL (l'.map f) := by
  rw [ht, ← h]
  simp [intL]
theorem keepM {f : Int → Int} {p : Int → Bool} {l l' : List Int} {x c : Int} (ht : l' = l ++ [x]) (hf : f x = c) (h : p c = true) : intL ((l.map f).filter p) ++ [.int c 0] = intL ((l'.map f).filter p) := keepI (by rw [ht, List.map_append, List.map_singleton, hf]) h
theorem skipM {f : Int → Int} {p : Int → Bool} {l l' : List Int} {x c : Int} (ht : l' = l ++ [x]) (hf : f x = c) (h : p c = false) : intL ((l.map f).filter p) = intL ((l'.map f).filter p) := skipI (by rw [ht, List.map_append, List.map_singleton, hf]) h
theorem intL_app (a b : List Int) : intL a ++ intL b = intL (a ++ b) := by simp [intL]
theorem intL_app1 (a : List Int) (x : Int) : intL a ++ [.int x 0] = intL (a ++ [x]) := by simp [intL]
theorem rngL_len (a c : Int) (n : Nat) : (rngL a c n).length = n := by simp [rngL]
theorem not_yes {p : Prop} [Decidable p] (h : (!decide p) = true) : decide (¬ p) = true := decide_not.trans h
theorem not_no {p : Prop} [Decidable p] (h : (!decide p) = false) : decide (¬ p) = false := decide_not.trans h
theorem rng_item0 {n i : Nat} {u : Value} (h : (rngL 0 1 n)[i]? = some u) : i < n ∧ u = .int i 0 := by
  obtain ⟨h1, h2⟩ := rng_item h
  rw [Int.zero_add] at h2
  exact ⟨h1, h2⟩
section
variable {C : Cx} {d : Nat} {env : Env} {H : SH} {Q : Value → SH → Prop}
theorem TCall.lenN {l : Addr} {xs : List Value} {n : Nat} (hl : Has l (.list xs) H) (hn : xs.length = n) (hz : n ≤ 1000) (h : Q (.int n 0) H) : TCall C d (.builtin "len") [.ref l] H Q := by
  subst hn
  exact TCall.lenList hl (Nat.le_trans hz (sz rfl)) h
theorem TCall.lenI {l : Addr} {ns : List Int} (hl : Has l (.list (intL ns)) H) (hz : ns.length ≤ 1000) (h : Q (.int ns.length 0) H) : TCall C d (.builtin "len") [.ref l] H Q := TCall.lenN hl (intL_length ns) hz h
theorem TCall.countN {l : Addr} {ts : List (List Nat)} {k : List Nat} {n : Nat} (hl : Has l (.list (strV ts)) H) (hn : ts.count k = n) (h : Q (.int n 0) H) : TCall C d (.builtin "list.count") [.ref l, .str (S k) 0] H Q := by
  subst hn
  exact TCall.countStr hl h
theorem TBin.mulsN {c n : Nat} (hn : n ≤ 1000) (h : Q (.str (S (List.replicate n c)) 0) H) : TBin C d .Mult (.str (S [c]) 0) (.int n 0) H Q := TBin.muls (by lia) (by lia) h
theorem TBin.powN {a : Int} {k : Nat} (hj : k ≤ 1000) (ha : a.natAbs < 2 ^ 64) (h : Q (.int (a ^ k) 0) H) : TBin C d .Pow (.int a 0) (.int k 0) H Q := TBin.pow (by lia) (by lia) ha h
theorem TCall.appendTo {l : Addr} {xs ys : List Value} {v : Value} {H' : SH} (hs : Swap l (.list xs) (.list ys) H H') (e : xs ++ [v] = ys) (hz : xs.length ≤ 1000) (h : Q .none H') : TCall C d (.builtin "list.append") [.ref l, v] H Q := by
  subst e
  exact TCall.append hs (Nat.le_trans hz (sz rfl)) h
theorem TCall.appendI {l : Addr} {ns : List Int} {x : Int} {H' : SH} (hs : Swap l (.list (intL ns)) (.list (intL (ns ++ [x]))) H H') (hz : ns.length ≤ 1000) (h : Q .none H') : TCall C d (.builtin "list.append") [.ref l, .int x 0] H Q :=
  TCall.appendTo hs (intL_app1 ns x) (by rw [intL_length]; exact hz) h
theorem TCall.extendI {l t : Addr} {ns ms : List Int} {H' : SH} (ht : Has t (.list (intL ms)) H) (hs : Swap l (.list (intL ns)) (.list (intL (ns ++ ms))) H H') (hz : ns.length + ms.length ≤ 1000) (h : Q .none H') : TCall C d (.builtin "list.extend") [.ref l, .ref t] H Q :=
  TCall.extendList ht (by rw [intL_app]; exact hs) (by rw [intL_length, intL_length]; exact Nat.le_trans hz (sz rfl)) h
theorem TCall.extendTupI {l t : Addr} {ns ms : List Int} {H' : SH} (ht : Has t (.tup (intL ms)) H) (hs : Swap l (.list (intL ns)) (.list (intL (ns ++ ms))) H H') (hz : ns.length + ms.length ≤ 1000) (h : Q .none H') : TCall C d (.builtin "list.extend") [.ref l, .ref t] H Q :=
  TCall.extendTup ht (by rw [intL_app]; exact hs) (by rw [intL_length, intL_length]; exact Nat.le_trans hz (sz rfl)) h
theorem TCall.removeI {l : Addr} {ns : List Int} {x : Int} {H' : SH} (hx : x ∈ ns) (hs : Swap l (.list (intL ns)) (.list (intL (ns.erase x))) H H') (hz : ns.length ≤ 1000) (h : Q .none H') : TCall C d (.builtin "list.remove") [.ref l, .int x 0] H Q := by
  obtain ⟨xs, ys, nx, ex, ex'⟩ := List.exists_erase_eq hx
  rw [ex'] at hs
  rw [ex] at hs hz
  exact TCall.remove nx hs (Nat.le_trans hz (sz rfl)) h
theorem TCall.extendTupO {l t : Addr} {ns ms : List Int} {H' : List Int → SH} (ht : Has t (.tup (intL ms)) H) (hs : ∀ zs, Swap l (.list (intL ns)) (.list (intL zs)) H (H' zs)) (hz : ns.length + ms.length ≤ 1000) (h : ∀ zs, zs = ns ++ ms → Q .none (H' zs)) : TCall C d (.builtin "list.extend") [.ref l, .ref t] H Q :=
  TCall.extendTupI ht (hs _) hz (h _ rfl)
theorem TInp.addsTo {a c t : List Nat} (e : a ++ c = t) (hz : a.length + c.length ≤ 1000) (h : Q (.str (S t) 0) H) : TInp C d .Add (.str (S a) 0) (.str (S c) 0) H Q := by
  subst e
  exact TInp.adds (Nat.le_trans hz (sz rfl)) h
theorem Iter.range0 {r : Addr} {n : Nat} (hn : n ≤ 1000) : Iter C (.ref r) (rngL 0 1 n) (Has r (rng 0 (n : Int) 1)) := by
  have h := Iter.range1 (C := C) (r := r) (a := 0) (n := n) (by decide) (by decide) (by lia)
  rw [Int.zero_add] at h
  exact h
theorem rngL_sz {n : Nat} (hn : n ≤ 1000) : (rngL 0 1 n).length ≤ sizeLine := by rw [rngL_len]; exact Nat.le_trans hn (sz rfl)
theorem intL_sz {l : List Int} (hn : l.length ≤ 1000) : (intL l).length ≤ sizeLine := by rw [intL_length]; exact Nat.le_trans hn (sz rfl)
/-- a comprehension over numbers that turns nothing of the heap, and what it makes -/
theorem CompOk.ints {env : Env} {elt : Expr} {y : Str} {ifs : List Expr} {scope : Scope} {cl : List (Str × Addr)} {own : Bool} {F : Addr → SH → Prop} {v : Value} {ns : List Int} {K : SH → Prop} (P : SH → Prop) (it : Iter C v (intL ns) K) (hz : ns.length ≤ 1000) (hk : K H) (hP : P H)
    (f : List Int → List Value) (f0 : f [] = [])
    (turn : ∀ H', P H' → ∀ cenv, IsComp scope env cl cenv → ∀ i n, i < ns.length → ns[i]? = some n → ns.take (i + 1) = ns.take i ++ [n] → n ∈ ns → TIfs C d ifs cenv (compPV y own cenv (some (.int n 0)) ++ H') fun ok H₂ =>
      if ok then TE C d elt cenv H₂ fun w H₃ => (∃ o, (compPV y own cenv o ++ H').Sublist H₃) ∧ f (ns.take i) ++ [w] = f (ns.take (i + 1)) else (∃ o, (compPV y own cenv o ++ H').Sublist H₂) ∧ f (ns.take i) = f (ns.take (i + 1)))
    (fin : ∀ l, F l ((l, .list (f ns)) :: H)) : CompOk C d env elt y ifs scope cl own F v H := by
  refine CompOk.over P it (intL_sz hz) hk hP (fun i => f (ns.take i)) f0 (fun H' hP cenv Ec i u hi hu => ?_) fun l => ?_
  · obtain ⟨n, hn, rfl, hi2, ht, hm⟩ := intL_item hu
    exact turn H' hP cenv Ec i n (by rw [intL_length] at hi; exact hi) hn ht hm
  · rw [intL_length, List.take_length]
    exact fin l
/-- one over a range -/
theorem CompOk.range {env : Env} {elt : Expr} {y : Str} {ifs : List Expr} {scope : Scope} {cl : List (Str × Addr)} {own : Bool} {F : Addr → SH → Prop} {r : Addr} {n : Nat} (P : SH → Prop) (hn : n ≤ 1000) (hk : Has r (rng 0 (n : Int) 1) H) (hP : P H)
    (f : Nat → List Value) (f0 : f 0 = [])
    (turn : ∀ H', P H' → ∀ cenv, IsComp scope env cl cenv → ∀ k : Nat, k < n → TIfs C d ifs cenv (compPV y own cenv (some (.int (k : Int) 0)) ++ H') fun ok H₂ =>
      if ok then TE C d elt cenv H₂ fun w H₃ => (∃ o, (compPV y own cenv o ++ H').Sublist H₃) ∧ f k ++ [w] = f (k + 1) else (∃ o, (compPV y own cenv o ++ H').Sublist H₂) ∧ f k = f (k + 1))
    (fin : ∀ l, F l ((l, .list (f n)) :: H)) : CompOk C d env elt y ifs scope cl own F (.ref r) H := by
  refine CompOk.over P (Iter.range0 hn) (rngL_sz hn) hk hP f f0 (fun H' hP cenv Ec i u hi hu => ?_) fun l => ?_
  · obtain ⟨h1, rfl⟩ := rng_item0 hu
    exact turn H' hP cenv Ec i h1
  · rw [rngL_len]
    exact fin l
theorem TIfs.nil1 {e : Expr} {cenv : Env} {A : Value → SH → Prop} {B : SH → Prop} (h : TE C d e cenv H A) : TIfs C d [] cenv H fun ok H₂ => if ok then TE C d e cenv H₂ A else B H₂ := TIfs.nil (by rw [if_pos rfl]; exact h)
theorem TE.lam0 {params : Arguments} {body : Expr} {scope : Scope} {pos : Pos} {cl : List (Str × Addr)} {c P : Addr} {R : SH} (hdef : defaultsOf params env = ([], [])) (hp : H.Perm ((P, tabO pos none) :: R))
    (hcl : closureFor scope env = Pure.pure cl) (hge : env.globals = mainGlobals) (hcode : env.code = .ref c) (K : CodeOk C c P) (B : BltOk C) {q : Str} (hq : env.qual ++ "<lambda>" = q)
    (h : ∀ f c', Q (.ref f) ((f, lamO q params body scope cl c') :: (c', codeO q) :: (P, tabO pos (some c')) :: R)) : TE C d (.Lambda params body scope pos) env H Q := by
  subst hq
  exact TE.lam hdef hp hcl hge hcode K B (fun c' e => by cases e) fun f c' => ⟨fun e => (by cases e), fun _ => h f c'⟩
/-- the same, what is made hidden behind a name -/
theorem CompOk.intsI {env : Env} {elt : Expr} {y : Str} {ifs : List Expr} {scope : Scope} {cl : List (Str × Addr)} {own : Bool} {F : Addr → SH → Prop} {v : Value} {ns : List Int} {K : SH → Prop} (P : SH → Prop) (it : Iter C v (intL ns) K) (hz : ns.length ≤ 1000) (hk : K H) (hP : P H)
    (f : List Int → List Int) (f0 : f [] = [])
    (turn : ∀ H', P H' → ∀ cenv, IsComp scope env cl cenv → ∀ i n, i < ns.length → ns[i]? = some n → ns.take (i + 1) = ns.take i ++ [n] → n ∈ ns → TIfs C d ifs cenv (compPV y own cenv (some (.int n 0)) ++ H') fun ok H₂ =>
      if ok then TE C d elt cenv H₂ fun w H₃ => (∃ o, (compPV y own cenv o ++ H').Sublist H₃) ∧ intL (f (ns.take i)) ++ [w] = intL (f (ns.take (i + 1))) else (∃ o, (compPV y own cenv o ++ H').Sublist H₂) ∧ intL (f (ns.take i)) = intL (f (ns.take (i + 1))))
    (fin : ∀ l zs, zs = f ns → F l ((l, .list (intL zs)) :: H)) : CompOk C d env elt y ifs scope cl own F v H :=
  CompOk.ints P it hz hk hP (fun r => intL (f r)) (by rw [f0]; rfl) turn fun l => fin l _ rfl
theorem CompOk.rangeI {env : Env} {elt : Expr} {y : Str} {ifs : List Expr} {scope : Scope} {cl : List (Str × Addr)} {own : Bool} {F : Addr → SH → Prop} {r : Addr} {n : Nat} (P : SH → Prop) (hn : n ≤ 1000) (hk : Has r (rng 0 (n : Int) 1) H) (hP : P H)
    (f : Nat → List Int) (f0 : f 0 = [])
    (turn : ∀ H', P H' → ∀ cenv, IsComp scope env cl cenv → ∀ k : Nat, k < n → TIfs C d ifs cenv (compPV y own cenv (some (.int (k : Int) 0)) ++ H') fun ok H₂ =>
      if ok then TE C d elt cenv H₂ fun w H₃ => (∃ o, (compPV y own cenv o ++ H').Sublist H₃) ∧ intL (f k) ++ [w] = intL (f (k + 1)) else (∃ o, (compPV y own cenv o ++ H').Sublist H₂) ∧ intL (f k) = intL (f (k + 1)))
    (fin : ∀ l zs, zs = f n → F l ((l, .list (intL zs)) :: H)) : CompOk C d env elt y ifs scope cl own F (.ref r) H :=
  CompOk.range P hn hk hP (fun k => intL (f k)) (by rw [f0]; rfl) turn fun l => fin l _ rfl
theorem TX.hide {ss : List Stmt} {QF : Flow → SH → Prop} (A : SH) {K : SH} (h : ∀ R, (∀ a x, Has a x K → Has a x R) → TX C d ss env (A ++ R) QF) : TX C d ss env (A ++ K) QF := h K fun _ _ z => z
theorem TX.stow {ss : List Stmt} {QF : Flow → SH → Prop} (L A : SH) {R : SH} (h : ∀ R', (∀ a x, Has a x L → Has a x R') → (∀ a x, Has a x R → Has a x R') → TX C d ss env (A ++ R') QF) : TX C d ss env (L ++ (A ++ R)) QF :=
  TX.perm (List.perm_append_comm_assoc L A R) (h (L ++ R) (fun _ _ z => .append_left z) fun _ _ z => .append_right z)
theorem TBin.subO {a b : Int} (h : ∀ c, c = a - b → Q (.int c 0) H) : TBin C d .Sub (.int a 0) (.int b 0) H Q := TBin.sub (h _ rfl)
end
-- the texts of the law: four kinds of pieces
noncomputable def isPc (t : List Nat) : Prop := t = [40] ∨ t = [41] ∨ t = [92, 41] ∨ t = [34, 40, 34]
noncomputable def seen (ts : List (List Nat)) : List (List Nat) := ts.filter fun t => decide (t ≠ [34, 40, 34])
theorem strip_go (ts : List (List Nat)) (hp : ∀ t ∈ ts, isPc t) : ∀ (u w : List Nat) (acc : List (List Nat)) (cs : List Nat) (i st : Nat), cs = u ++ w ++ ts.flatten → st = u.length → i = u.length + w.length →
    stripGo cs (escs i false ts.flatten) st none acc = acc.flatten ++ w ++ (seen ts).flatten := by
  induction ts with
  | nil =>
    rintro u w acc cs i st rfl rfl rfl
    simp only [List.flatten_nil, List.append_nil, seen, List.filter_nil]
    show (acc ++ (if u.length < (u ++ w).length then [(u ++ w).drop u.length] else [])).flatten = _
    rw [List.drop_left]
    cases w with
    | nil => simp
    | cons a b => rw [if_pos (by simp)]; simp
  | cons t ts ih =>
    rintro u w acc cs i st rfl rfl rfl
    have ih := ih fun t h => hp t (.tail _ h)
    rcases hp t (.head _) with rfl | rfl | rfl | rfl
    · have := ih u (w ++ [40]) acc (u ++ w ++ ([40] :: ts).flatten) (u.length + w.length + 1) u.length (by simp) rfl (by simp; lia)
      simpa [escs, stripGo, seen] using this
    · have := ih u (w ++ [41]) acc (u ++ w ++ ([41] :: ts).flatten) (u.length + w.length + 1) u.length (by simp) rfl (by simp; lia)
      simpa [escs, stripGo, seen] using this
    · have := ih u (w ++ [92, 41]) acc (u ++ w ++ ([92, 41] :: ts).flatten) (u.length + w.length + 1 + 1) u.length (by simp) rfl (by simp; lia)
      simpa [escs, stripGo, seen] using this
    · have := ih (u ++ w ++ [34, 40, 34]) [] (if u.length ≠ u.length + w.length then acc ++ [cut (some u.length) (some (u.length + w.length)) (u ++ w ++ ([34, 40, 34] :: ts).flatten)] else acc) (u ++ w ++ ([34, 40, 34] :: ts).flatten) (u.length + w.length + 1 + 1 + 1) (u.length + w.length + 1 + 1 + 1) (by simp) (by simp; lia) (by simp; lia)
      have e1 : (seen ([34, 40, 34] :: ts)) = seen ts := by simp [seen]
      have e2 : stripGo (u ++ w ++ ([34, 40, 34] :: ts).flatten) (escs (u.length + w.length) false ([34, 40, 34] :: ts).flatten) u.length none acc = stripGo (u ++ w ++ ([34, 40, 34] :: ts).flatten) (escs (u.length + w.length + 1 + 1 + 1) false ts.flatten) (u.length + w.length + 1 + 1 + 1) none (if u.length ≠ u.length + w.length then acc ++ [cut (some u.length) (some (u.length + w.length)) (u ++ w ++ ([34, 40, 34] :: ts).flatten)] else acc) := by
        simp [escs, stripGo]
      rw [e1, e2, this]
      cases w with
      | nil => simp
      | cons a b =>
        rw [if_pos (by simp)]
        have : cut (some u.length) (some (u.length + (a :: b).length)) (u ++ (a :: b) ++ ([34, 40, 34] :: ts).flatten) = a :: b := by
          show List.drop u.length (List.take (u.length + (a :: b).length) (u ++ (a :: b) ++ ([34, 40, 34] :: ts).flatten)) = a :: b
          rw [← List.length_append, List.take_left, List.drop_left]
        rw [this]; simp
theorem strip_pieces (ts : List (List Nat)) (hp : ∀ t ∈ ts, isPc t) : strip ts.flatten = (seen ts).flatten := by
  unfold strip
  split
  · have := strip_go ts hp [] [] [] ts.flatten 0 0 (by simp) rfl rfl
    simpa using this
  · rename_i h
    have : seen ts = ts := List.filter_eq_self.mpr fun t ht => by
      simp only [decide_eq_true_eq]
      rintro rfl
      exact h (List.mem_flatten.mpr ⟨_, ht, by simp⟩)
    rw [this]
/-- the test of a row of pieces from o open ones -/
noncomputable def bal : List (List Nat) → Int → Bool
  | [], o => o == 0
  | t :: r, o => if t = [40] then bal r (o + 1) else if t = [41] then (if o - 1 < 0 then false else bal r (o - 1)) else bal r o
theorem bal_step0 (ts : List (List Nat)) (o : Int) : bal ([41] :: ts) o = if o - 1 < 0 then false else bal ts (o - 1) := by simp [bal]
theorem chk_seen (ts : List (List Nat)) (hp : ∀ t ∈ ts, isPc t) : ∀ (i : Nat) (o : Int), chk (escs i false (seen ts).flatten) o = bal ts o := by
  induction ts with
  | nil => intro i o; rfl
  | cons t ts ih =>
    intro i o
    have ih := ih fun t h => hp t (.tail _ h)
    rcases hp t (.head _) with rfl | rfl | rfl | rfl
    · simpa [seen, escs, chk, bal] using ih (i + 1) (o + 1)
    · have e : seen ([41] :: ts) = [41] :: seen ts := by simp [seen]
      rw [e, bal_step0]
      show chk ((i, [41]) :: escs (i + 1) false (seen ts).flatten) o = _
      show (if ([41] : List Nat) = [40] then _ else if ([41] : List Nat) = [41] then (if o - 1 < 0 then false else chk (escs (i + 1) false (seen ts).flatten) (o - 1)) else _) = _
      rw [if_neg (by decide), if_pos rfl, ih]
    · simpa [seen, escs, chk, bal] using ih (i + 1 + 1) o
    · simpa [seen, escs, chk, bal] using ih i o
theorem chkS_pieces (ts : List (List Nat)) (hp : ∀ t ∈ ts, isPc t) : chkS ts.flatten = bal ts 0 := by
  unfold chkS
  rw [strip_pieces ts hp, chk_seen ts hp]
noncomputable def valT (t : List Nat) : Int := if t = [40] then 1 else if t = [41] then -1 else 0
noncomputable def valS (ts : List (List Nat)) : Int := (ts.map valT).sum
theorem valS_cons (t : List Nat) (ts : List (List Nat)) : valS (t :: ts) = valT t + valS ts := by simp [valS]
theorem bal_step (t : List Nat) (ts : List (List Nat)) (o : Int) : bal (t :: ts) o = if t = [41] ∧ o - 1 < 0 then false else bal ts (o + valT t) := by
  by_cases h1 : t = [40]
  · subst h1; simp [bal, valT]
  · by_cases h2 : t = [41]
    · subst h2; simp [bal, valT]; rfl
    · simp [bal, valT, h1, h2]
theorem bal_true : ∀ (ts : List (List Nat)) (o : Int), 0 ≤ o → (∀ a b, ts = a ++ b → 0 ≤ o + valS a) → o + valS ts = 0 → bal ts o = true
  | [], o, h0, h1, h2 => by
    have : o = 0 := by simpa [valS] using h2
    subst this; rfl
  | t :: ts, o, h0, h1, h2 => by
    have h3 := h1 [t] ts rfl
    simp [valS] at h3
    rw [bal_step, if_neg]
    · refine bal_true ts _ h3 (fun a b e => ?_) ?_
      · have := h1 (t :: a) b (by rw [e]; rfl)
        rw [valS_cons] at this; lia
      · rw [valS_cons] at h2; lia
    · rintro ⟨rfl, h4⟩
      simp [valT] at h3
      lia
theorem bal_false : ∀ (a b : List (List Nat)) (o : Int), 0 ≤ o → o + valS a < 0 → bal (a ++ b) o = false
  | [], b, o, h0, h1 => by simp [valS] at h1; lia
  | t :: a, b, o, h0, h1 => by
    rw [List.cons_append, bal_step]
    split
    · rfl
    · rename_i h
      rw [valS_cons] at h1
      by_cases h4 : 0 ≤ o + valT t
      · exact bal_false a b _ h4 (by lia)
      · exfalso
        apply h
        unfold valT at h4
        split at h4
        · lia
        · split at h4
          · rename_i q; exact ⟨q, by lia⟩
          · lia
theorem valS_append (a b : List (List Nat)) : valS (a ++ b) = valS a + valS b := by simp [valS]
theorem valS_open (n : Nat) : valS (List.replicate n [40]) = n := by
  induction n with
  | zero => rfl
  | succ n ih => rw [List.replicate_succ, valS_cons, ih]; simp [valT]; lia
theorem valS_close (n : Nat) : valS (List.replicate n [41]) = -(n : Int) := by
  induction n with
  | zero => rfl
  | succ n ih => rw [List.replicate_succ, valS_cons, ih]; simp [valT]; lia
/-- the closer that is laid under an opener -/
noncomputable def bkAt (M : List (Int × Int)) (o : Int) : Option Int := (M.find? fun p => decide (p.1 = o)).map (·.2)
noncomputable def bkPut (M : List (Int × Int)) (o c : Int) : List (Int × Int) := if M.any (fun p => decide (p.1 = o)) then M.map (fun p => if p.1 = o then (p.1, c) else p) else M ++ [(o, c)]
noncomputable def bkV (M : List (Int × Int)) : List (Int × Value) := M.map fun p => (p.1, .int p.2 0)
theorem bkV_at (M : List (Int × Int)) (o : Int) : valueAt (bkV M) o = (bkAt M o).map fun c => .int c 0 := by
  unfold valueAt bkV bkAt
  rw [List.find?_map]
  cases h : M.find? ((fun kv => decide (kv.1 = o)) ∘ fun p : Int × Int => (p.1, Value.int p.2 0)) with
  | none =>
    have : M.find? (fun p => decide (p.1 = o)) = none := h
    rw [this]; rfl
  | some p =>
    have : M.find? (fun p => decide (p.1 = o)) = some p := h
    rw [this]; rfl
theorem bkV_put (M : List (Int × Int)) (o c : Int) : stored (bkV M) o (.int c 0) = bkV (bkPut M o c) := by
  unfold stored bkPut
  have e : (bkV M).any (fun kv => decide (kv.1 = o)) = M.any fun p => decide (p.1 = o) := by unfold bkV; rw [List.any_map]; rfl
  rw [e]
  split
  · unfold bkV
    rw [List.map_map, List.map_map]
    refine List.map_congr_left fun p _ => ?_
    show (if p.1 = o then _ else _) = _
    simp only [Function.comp]
    split <;> rfl
  · unfold bkV; simp
theorem bkAt_map {M : List (Int × Int)} {o c x : Int} : bkAt (M.map fun p => if p.1 = o then (p.1, c) else p) x = if x = o then (bkAt M x).map fun _ => c else bkAt M x := by
  induction M with
  | nil => simp [bkAt]
  | cons p M ih =>
    unfold bkAt at ih ⊢
    rw [List.map_cons, List.find?_cons, List.find?_cons]
    by_cases h : p.1 = o
    · rw [if_pos h]
      by_cases hx : x = o
      · subst hx; simp [h]
      · have : ¬ p.1 = x := fun q => hx (q.symm.trans h)
        simp only [this, decide_false, if_neg hx]
        rw [ih, if_neg hx]
    · rw [if_neg h]
      by_cases h2 : p.1 = x
      · have : ¬ x = o := fun q => h (h2.trans q)
        simp [h2, this]
      · simp only [h2, decide_false]
        exact ih
theorem bkPut_at (M : List (Int × Int)) (o c x : Int) : bkAt (bkPut M o c) x = if x = o then some c else bkAt M x := by
  unfold bkPut
  split
  · rename_i h
    rw [bkAt_map]
    split
    · rename_i hx
      subst hx
      obtain ⟨p, hp, e⟩ := List.any_eq_true.mp h
      have : (M.find? fun p => decide (p.1 = x)).isSome := List.find?_isSome.mpr ⟨p, hp, e⟩
      obtain ⟨q, hq⟩ := Option.isSome_iff_exists.mp this
      unfold bkAt; rw [hq]; rfl
    · rfl
  · rename_i h
    unfold bkAt
    rw [List.find?_append]
    by_cases hx : x = o
    · subst hx
      have : M.find? (fun p => decide (p.1 = x)) = none := List.find?_eq_none.mpr fun p hp q => h (List.any_eq_true.mpr ⟨p, hp, q⟩)
      rw [this]; simp
    · have : ¬ o = x := fun q => hx q.symm
      simp [hx, this]
theorem bkPut_keys (M : List (Int × Int)) (o c : Int) : (bkPut M o c).map (·.1) = if M.any (fun p => decide (p.1 = o)) then M.map (·.1) else M.map (·.1) ++ [o] := by
  unfold bkPut
  split
  · rw [List.map_map]
    refine List.map_congr_left fun p _ => ?_
    simp only [Function.comp]; split <;> rfl
  · simp
theorem bkAt_mem {M : List (Int × Int)} {o : Int} : (∃ c, bkAt M o = some c) ↔ o ∈ M.map (·.1) := by
  unfold bkAt
  constructor
  · rintro ⟨c, h⟩
    obtain ⟨p, hp, _⟩ := Option.map_eq_some_iff.mp h
    have h1 := List.find?_some hp
    exact List.mem_map.mpr ⟨p, List.mem_of_find?_eq_some hp, by simpa using h1⟩
  · intro h
    obtain ⟨p, hp, e⟩ := List.mem_map.mp h
    have : (M.find? fun p => decide (p.1 = o)).isSome := List.find?_isSome.mpr ⟨p, hp, by simpa using e⟩
    obtain ⟨q, hq⟩ := Option.isSome_iff_exists.mp this
    exact ⟨q.2, by rw [hq]; rfl⟩
theorem bkPut_mem (M : List (Int × Int)) (o c x : Int) : x ∈ (bkPut M o c).map (·.1) ↔ x = o ∨ x ∈ M.map (·.1) := by
  rw [← bkAt_mem, ← bkAt_mem, bkPut_at]
  by_cases h : x = o
  · simp [h]
  · simp [h]
theorem bkPut_nodup {M : List (Int × Int)} {o c : Int} (nd : (M.map (·.1)).Nodup) : ((bkPut M o c).map (·.1)).Nodup := by
  rw [bkPut_keys]
  split
  · exact nd
  · rename_i h
    rw [List.nodup_append]
    refine ⟨nd, by simp, fun a ha b hb e => h ?_⟩
    obtain rfl := List.mem_singleton.mp hb
    subst e
    obtain ⟨p, hp, e⟩ := List.mem_map.mp ha
    exact List.any_eq_true.mpr ⟨p, hp, by simpa using e⟩
-- the search
noncomputable abbrev FR := Bool × List (Int × Int) × List Int
noncomputable def foundL (rec : List (Int × Int) → Int → List Int → FR) (c : Int) : List Int → List (Int × Int) → List Int → FR
  | [], M, A => (false, M, A)
  | o :: os, M, A => if o ∈ A then foundL rec c os M A else match bkAt M o with
    | none => (true, bkPut M o c, A ++ [o])
    | some c' => match rec M c' (A ++ [o]) with
      | (true, M', A') => (true, bkPut M' o c, A')
      | (false, M', A') => foundL rec c os M' A'
noncomputable def found (ch : Int → List Int) : Nat → List (Int × Int) → Int → List Int → FR
  | 0, M, c, A => (false, M, A)
  | n + 1, M, c, A => foundL (found ch n) c (ch c) M A
/-- A is closed: its openers have closers, and those look for nothing beyond A -/
noncomputable def Closed (ch : Int → List Int) (M : List (Int × Int)) (A : Int → Prop) : Prop := ∀ o, A o → ∃ c, bkAt M o = some c ∧ ∀ o' ∈ ch c, A o'
/-- apart from A each closer is laid once, and c is not -/
noncomputable def Apart (M : List (Int × Int)) (A : List Int) (c : Int) : Prop := (∀ o1 o2 x, o1 ∉ A → o2 ∉ A → bkAt M o1 = some x → bkAt M o2 = some x → o1 = o2) ∧ ∀ o, o ∉ A → bkAt M o ≠ some c
/-- what a search that looks through os does -/
structure FoundOk (ch : Int → List Int) (os : List Int) (M : List (Int × Int)) (c : Int) (A : List Int) (r : FR) : Prop where
  sub : ∀ o ∈ A, o ∈ r.2.2
  low : ∀ U : Int → Prop, (∀ o ∈ A, U o) → (∀ o ∈ os, U o) → (∀ x, ∀ o ∈ ch x, U o) → ∀ o ∈ r.2.2, U o
  nd : A.Nodup → r.2.2.Nodup
  keys : (M.map (·.1)).Nodup → (r.2.1.map (·.1)).Nodup
  keysU : ∀ U : Int → Prop, (∀ o ∈ M.map (·.1), U o) → (∀ o ∈ os, U o) → (∀ x, ∀ o ∈ ch x, U o) → ∀ o ∈ r.2.1.map (·.1), U o
  keep : ∀ o ∈ A, bkAt r.2.1 o = bkAt M o
  no : r.1 = false → r.2.1 = M ∧ (∀ o ∈ os, o ∈ r.2.2) ∧ ∀ o ∈ r.2.2, o ∉ A → ∃ c', bkAt M o = some c' ∧ ∀ o' ∈ ch c', o' ∈ r.2.2
  yes : r.1 = true → Apart M A c → (∀ o1 o2 x, o1 ∉ A → o2 ∉ A → bkAt r.2.1 o1 = some x → bkAt r.2.1 o2 = some x → o1 = o2) ∧ ∀ x, (∃ o, o ∉ A ∧ bkAt r.2.1 o = some x) ↔ (∃ o, o ∉ A ∧ bkAt M o = some x) ∨ x = c
  edge : ∀ E : Int → Int → Prop, (∀ o x, bkAt M o = some x → E o x) → (∀ o ∈ os, E o c) → (∀ x, ∀ o ∈ ch x, E o x) → ∀ o x, bkAt r.2.1 o = some x → E o x
  closed : ∀ Z : Int → Prop, Closed ch M Z → ((∀ o ∈ os, Z o) → r.1 = false) ∧ ∀ o, Z o → bkAt r.2.1 o = bkAt M o
noncomputable def un (O A : List Int) : Nat := (O.filter fun o => decide (o ∉ A)).length
theorem un_mono {O A B : List Int} (h : ∀ o ∈ A, o ∈ B) : un O B ≤ un O A := by
  unfold un
  rw [← List.countP_eq_length_filter, ← List.countP_eq_length_filter]
  refine List.countP_mono_left fun o _ ho => ?_
  simp only [decide_eq_true_eq] at ho ⊢
  exact fun q => ho (h o q)
theorem un_lt {O A : List Int} {o : Int} (h1 : o ∈ O) (h2 : o ∉ A) : un O (A ++ [o]) < un O A := by
  unfold un
  have e : O.filter (fun x => decide (x ∉ A ++ [o])) = (O.filter fun x => decide (x ∉ A)).filter fun x => decide (x ≠ o) := by
    rw [List.filter_filter]
    refine List.filter_congr fun x _ => ?_
    by_cases a : x ∈ A <;> by_cases b : x = o <;> simp [a, b]
  rw [e]
  refine Nat.lt_of_le_of_ne (List.length_filter_le _ _) fun q => ?_
  have := List.length_filter_eq_length_iff.mp q o (List.mem_filter.mpr ⟨h1, by simpa using h2⟩)
  simp at this
theorem found_ok (ch : Int → List Int) (O : List Int) (hO : ∀ c, ∀ o ∈ ch c, o ∈ O) : ∀ n M c A, un O A < n → FoundOk ch (ch c) M c A (found ch n M c A) := by
  intro n
  induction n with
  | zero => intro M c A h; exact absurd h (Nat.not_lt_zero _)
  | succ n ih =>
    intro M c A h
    show FoundOk ch (ch c) M c A (foundL (found ch n) c (ch c) M A)
    have key : ∀ os : List Int, (∀ o ∈ os, o ∈ O) → ∀ M A, un O A ≤ n → FoundOk ch os M c A (foundL (found ch n) c os M A) := by
      intro os
      induction os with
      | nil =>
        intro _ M A _
        exact ⟨fun _ h => h, fun _ h _ _ => h, fun h => h, fun h => h, fun _ h _ _ => h, fun _ _ => rfl, fun _ => ⟨rfl, fun o h => (by cases h), fun o h h' => absurd h h'⟩, fun h => (by cases h), fun _ h _ _ => h, fun _ _ => ⟨fun _ => rfl, fun _ _ => rfl⟩⟩
      | cons o os iho =>
        intro hos M A hA
        have iho := iho fun x hx => hos x (.tail _ hx)
        unfold foundL
        by_cases ho : o ∈ A
        · rw [if_pos ho]
          have G := iho M A hA
          exact ⟨G.sub, fun U a b c => G.low U a (fun x hx => b x (.tail _ hx)) c, G.nd, G.keys, fun U a b c => G.keysU U a (fun x hx => b x (.tail _ hx)) c, G.keep,
            fun h => ⟨(G.no h).1, fun x hx => (by rcases List.mem_cons.mp hx with rfl | hx; exact G.sub _ ho; exact (G.no h).2.1 x hx), (G.no h).2.2⟩, G.yes,
            fun E a b c => G.edge E a (fun x hx => b x (.tail _ hx)) c, fun Z hZ => ⟨fun h => (G.closed Z hZ).1 fun x hx => h x (.tail _ hx), (G.closed Z hZ).2⟩⟩
        · rw [if_neg ho]
          cases hb : bkAt M o with
          | none =>
            show FoundOk ch (o :: os) M c A (true, bkPut M o c, A ++ [o])
            have ne : ∀ x ∈ A, x ≠ o := fun x hx e => ho (e ▸ hx)
            refine ⟨fun x hx => List.mem_append_left _ hx, fun U a b _ x hx => ?_, fun nd => ?_, bkPut_nodup, fun U a b _ x hx => ?_, fun x hx => ?_, fun h => (by cases h), fun _ hap => ⟨fun o1 o2 x h1 h2 e1 e2 => ?_, fun x => ?_⟩, fun E a b _ x y hxy => ?_, fun Z hZ => ⟨fun hz => ?_, fun x hx => ?_⟩⟩
            · rcases List.mem_append.mp hx with hx | hx
              · exact a x hx
              · obtain rfl := List.mem_singleton.mp hx; exact b _ (.head _)
            · rw [List.nodup_append]
              exact ⟨nd, by simp, fun a ha b hb e => by obtain rfl := List.mem_singleton.mp hb; exact ho (e ▸ ha)⟩
            · rcases (bkPut_mem M o c x).mp hx with rfl | hx
              · exact b _ (.head _)
              · exact a x hx
            · show bkAt (bkPut M o c) x = _
              rw [bkPut_at, if_neg (ne x hx)]
            · change bkAt (bkPut M o c) o1 = some x at e1
              change bkAt (bkPut M o c) o2 = some x at e2
              rw [bkPut_at] at e1 e2
              by_cases q1 : o1 = o
              · by_cases q2 : o2 = o
                · rw [q1, q2]
                · rw [if_pos q1] at e1; rw [if_neg q2] at e2
                  rw [← e1] at e2
                  exact absurd e2 (hap.2 o2 h2)
              · by_cases q2 : o2 = o
                · rw [if_neg q1] at e1; rw [if_pos q2] at e2
                  rw [← e2] at e1
                  exact absurd e1 (hap.2 o1 h1)
                · rw [if_neg q1] at e1; rw [if_neg q2] at e2
                  exact hap.1 o1 o2 x h1 h2 e1 e2
            · constructor
              · rintro ⟨o', h', e'⟩
                change bkAt (bkPut M o c) o' = some x at e'
                rw [bkPut_at] at e'
                by_cases q : o' = o
                · rw [if_pos q] at e'; exact .inr (Option.some.inj e').symm
                · rw [if_neg q] at e'; exact .inl ⟨o', h', e'⟩
              · rintro (⟨o', h', e'⟩ | rfl)
                · refine ⟨o', h', ?_⟩
                  show bkAt (bkPut M o c) o' = some x
                  rw [bkPut_at, if_neg (fun q => by rw [q, hb] at e'; cases e')]; exact e'
                · refine ⟨o, ho, ?_⟩
                  show bkAt (bkPut M o x) o = some x
                  rw [bkPut_at, if_pos rfl]
            · change bkAt (bkPut M o c) x = some y at hxy
              rw [bkPut_at] at hxy
              by_cases q : x = o
              · rw [if_pos q] at hxy; cases hxy; rw [q]; exact b _ (.head _)
              · rw [if_neg q] at hxy; exact a x y hxy
            · obtain ⟨c', e, _⟩ := hZ o (hz o (.head _))
              rw [hb] at e; cases e
            · show bkAt (bkPut M o c) x = _
              rw [bkPut_at, if_neg]
              rintro rfl
              obtain ⟨c', e, _⟩ := hZ x hx
              rw [hb] at e; cases e
          | some c' =>
            have hlt := un_lt (hos o (.head _)) ho
            have F := ih M c' (A ++ [o]) (by lia)
            have aA : ∀ x ∈ A, x ∈ A ++ [o] := fun x hx => List.mem_append_left _ hx
            have oA : o ∈ A ++ [o] := by simp
            have ne : ∀ x ∈ A, x ≠ o := fun x hx e => ho (e ▸ hx)
            have ndA : A.Nodup → (A ++ [o]).Nodup := fun nd => by
              rw [List.nodup_append]
              exact ⟨nd, by simp, fun a ha b hb e => by obtain rfl := List.mem_singleton.mp hb; exact ho (e ▸ ha)⟩
            rcases hr1 : found ch n M c' (A ++ [o]) with ⟨r1, M', A'⟩
            rw [hr1] at F
            show FoundOk ch (o :: os) M c A (match found ch n M c' (A ++ [o]) with | (true, M', A') => (true, bkPut M' o c, A') | (false, M', A') => foundL (found ch n) c os M' A')
            rw [hr1]
            cases r1 with
            | true =>
              show FoundOk ch (o :: os) M c A (true, bkPut M' o c, A')
              refine ⟨fun x hx => F.sub x (aA x hx), fun U a b d => F.low U (fun x hx => ?_) (d c') d, fun nd => F.nd (ndA nd), fun k => bkPut_nodup (F.keys k), fun U a b d x hx => ?_, fun x hx => ?_, fun h => (by cases h), fun _ hap => ?_, fun E a b d x y hxy => ?_, fun Z hZ => ⟨fun hz => ?_, fun x hx => ?_⟩⟩
              · rcases List.mem_append.mp hx with hx | hx
                · exact a x hx
                · obtain rfl := List.mem_singleton.mp hx; exact b _ (.head _)
              · rcases (bkPut_mem M' o c x).mp hx with rfl | hx
                · exact b _ (.head _)
                · exact F.keysU U a (d c') d x hx
              · show bkAt (bkPut M' o c) x = _
                rw [bkPut_at, if_neg (ne x hx)]
                exact F.keep x (aA x hx)
              · have hap' : Apart M (A ++ [o]) c' := by
                  refine ⟨fun o1 o2 x h1 h2 => hap.1 o1 o2 x (fun q => h1 (aA _ q)) (fun q => h2 (aA _ q)), fun o2 h2 e2 => ?_⟩
                  exact h2 (hap.1 o o2 c' ho (fun q => h2 (aA _ q)) hb e2 ▸ oA)
                obtain ⟨inj, img⟩ := F.yes rfl hap'
                have out : ∀ {o2}, o2 ∉ A → o2 ≠ o → o2 ∉ A ++ [o] := fun h1 h2 q => by
                  rcases List.mem_append.mp q with q | q
                  · exact h1 q
                  · exact h2 (List.mem_singleton.mp q)
                have noc : ∀ o2, o2 ∉ A ++ [o] → bkAt M' o2 ≠ some c := fun o2 h2 e2 => by
                  rcases (img c).mp ⟨o2, h2, e2⟩ with ⟨o3, h3, e3⟩ | rfl
                  · exact hap.2 o3 (fun q => h3 (aA _ q)) e3
                  · exact hap.2 o ho hb
                refine ⟨fun o1 o2 x h1 h2 e1 e2 => ?_, fun x => ?_⟩
                · change bkAt (bkPut M' o c) o1 = some x at e1
                  change bkAt (bkPut M' o c) o2 = some x at e2
                  rw [bkPut_at] at e1 e2
                  by_cases q1 : o1 = o
                  · by_cases q2 : o2 = o
                    · rw [q1, q2]
                    · rw [if_pos q1] at e1; rw [if_neg q2] at e2
                      rw [← e1] at e2
                      exact absurd e2 (noc o2 (out h2 q2))
                  · by_cases q2 : o2 = o
                    · rw [if_neg q1] at e1; rw [if_pos q2] at e2
                      rw [← e2] at e1
                      exact absurd e1 (noc o1 (out h1 q1))
                    · rw [if_neg q1] at e1; rw [if_neg q2] at e2
                      exact inj o1 o2 x (out h1 q1) (out h2 q2) e1 e2
                · constructor
                  · rintro ⟨o', h', e'⟩
                    change bkAt (bkPut M' o c) o' = some x at e'
                    rw [bkPut_at] at e'
                    by_cases q : o' = o
                    · rw [if_pos q] at e'; exact .inr (Option.some.inj e').symm
                    · rw [if_neg q] at e'
                      rcases (img x).mp ⟨o', out h' q, e'⟩ with ⟨o3, h3, e3⟩ | rfl
                      · exact .inl ⟨o3, fun q => h3 (aA _ q), e3⟩
                      · exact .inl ⟨o, ho, hb⟩
                  · have put : ∀ o', o' ∉ A ++ [o] → bkAt M' o' = some x → ∃ o', o' ∉ A ∧ bkAt (true, bkPut M' o c, A').2.1 o' = some x := fun o' h' e' => ⟨o', fun q => h' (aA _ q), by
                      show bkAt (bkPut M' o c) o' = some x
                      rw [bkPut_at, if_neg (fun q : o' = o => h' (q.symm ▸ oA))]; exact e'⟩
                    rintro (⟨o3, h3, e3⟩ | rfl)
                    · by_cases q : o3 = o
                      · subst q
                        rw [hb] at e3; cases e3
                        obtain ⟨o2, h2, e2⟩ := (img c').mpr (.inr rfl)
                        exact put o2 h2 e2
                      · obtain ⟨o2, h2, e2⟩ := (img x).mpr (.inl ⟨o3, out h3 q, e3⟩)
                        exact put o2 h2 e2
                    · refine ⟨o, ho, ?_⟩
                      show bkAt (bkPut M' o x) o = some x
                      rw [bkPut_at, if_pos rfl]
              · change bkAt (bkPut M' o c) x = some y at hxy
                rw [bkPut_at] at hxy
                by_cases q : x = o
                · rw [if_pos q] at hxy; cases hxy; rw [q]; exact b _ (.head _)
                · rw [if_neg q] at hxy; exact F.edge E a (d c') d x y hxy
              · obtain ⟨c2, e, hz2⟩ := hZ o (hz o (.head _))
                rw [hb] at e; cases e
                exact absurd ((F.closed Z hZ).1 hz2) (by simp)
              · show bkAt (bkPut M' o c) x = _
                rw [bkPut_at, if_neg]
                · exact (F.closed Z hZ).2 x hx
                · rintro rfl
                  obtain ⟨c2, e, hz2⟩ := hZ x hx
                  rw [hb] at e; cases e
                  exact absurd ((F.closed Z hZ).1 hz2) (by simp)
            | false =>
              obtain ⟨eM, hch, hcl⟩ := F.no rfl
              have eM : M' = M := eM
              subst eM
              show FoundOk ch (o :: os) M' c A (foundL (found ch n) c os M' A')
              have hAA : ∀ x ∈ A, x ∈ A' := fun x hx => F.sub x (aA x hx)
              have G := iho M' A' (Nat.le_trans (un_mono hAA) hA)
              have oA' : o ∈ A' := F.sub o oA
              refine ⟨fun x hx => G.sub x (hAA x hx), fun U a b d => G.low U (F.low U (fun x hx => ?_) (d c') d) (fun x hx => b x (.tail _ hx)) d, fun nd => G.nd (F.nd (ndA nd)), G.keys, fun U a b d => G.keysU U a (fun x hx => b x (.tail _ hx)) d, fun x hx => G.keep x (hAA x hx), fun h => ?_, fun h hap => ?_,
                fun E a b d => G.edge E a (fun x hx => b x (.tail _ hx)) d, fun Z hZ => ⟨fun hz => (G.closed Z hZ).1 fun x hx => hz x (.tail _ hx), (G.closed Z hZ).2⟩⟩
              · rcases List.mem_append.mp hx with hx | hx
                · exact a x hx
                · obtain rfl := List.mem_singleton.mp hx; exact b _ (.head _)
              · obtain ⟨g1, g2, g3⟩ := G.no h
                refine ⟨g1, fun x hx => ?_, fun x hx hxA => ?_⟩
                · rcases List.mem_cons.mp hx with rfl | hx
                  · exact G.sub _ oA'
                  · exact g2 x hx
                · by_cases q : x ∈ A'
                  · by_cases e : x = o
                    · subst e
                      exact ⟨c', hb, fun y hy => G.sub y (hch y hy)⟩
                    · obtain ⟨c2, h1, h2⟩ := hcl x q fun z => by
                        rcases List.mem_append.mp z with z | z
                        · exact hxA z
                        · exact e (List.mem_singleton.mp z)
                      exact ⟨c2, h1, fun y hy => G.sub y (h2 y hy)⟩
                  · exact g3 x hx q
              · have hap' : Apart M' A' c := ⟨fun o1 o2 x h1 h2 => hap.1 o1 o2 x (fun q => h1 (hAA _ q)) (fun q => h2 (hAA _ q)), fun o2 h2 => hap.2 o2 fun q => h2 (hAA _ q)⟩
                obtain ⟨inj, img⟩ := G.yes h hap'
                have mix : ∀ o1 o2 x, o1 ∉ A → o1 ∈ A' → o2 ∉ A' → bkAt (foundL (found ch n) c os M' A').2.1 o1 = some x → bkAt (foundL (found ch n) c os M' A').2.1 o2 = some x → False := fun o1 o2 x h1 h1' h2 e1 e2 => by
                  rw [G.keep o1 h1'] at e1
                  rcases (img x).mp ⟨o2, h2, e2⟩ with ⟨o3, h3, e3⟩ | rfl
                  · exact h3 (hap.1 o1 o3 x h1 (fun q => h3 (hAA _ q)) e1 e3 ▸ h1')
                  · exact hap.2 o1 h1 e1
                refine ⟨fun o1 o2 x h1 h2 e1 e2 => ?_, fun x => ?_⟩
                · by_cases q1 : o1 ∈ A'
                  · by_cases q2 : o2 ∈ A'
                    · rw [G.keep o1 q1] at e1
                      rw [G.keep o2 q2] at e2
                      exact hap.1 o1 o2 x h1 h2 e1 e2
                    · exact (mix o1 o2 x h1 q1 q2 e1 e2).elim
                  · by_cases q2 : o2 ∈ A'
                    · exact (mix o2 o1 x h2 q2 q1 e2 e1).elim
                    · exact inj o1 o2 x q1 q2 e1 e2
                · constructor
                  · rintro ⟨o2, h2, e2⟩
                    by_cases q : o2 ∈ A'
                    · rw [G.keep o2 q] at e2
                      exact .inl ⟨o2, h2, e2⟩
                    · rcases (img x).mp ⟨o2, q, e2⟩ with ⟨o3, h3, e3⟩ | e
                      · exact .inl ⟨o3, fun q => h3 (hAA _ q), e3⟩
                      · exact .inr e
                  · rintro (⟨o3, h3, e3⟩ | e)
                    · by_cases q : o3 ∈ A'
                      · exact ⟨o3, h3, by rw [G.keep o3 q]; exact e3⟩
                      · obtain ⟨o2, h2, e2⟩ := (img x).mpr (.inl ⟨o3, q, e3⟩)
                        exact ⟨o2, fun q => h2 (hAA _ q), e2⟩
                    · obtain ⟨o2, h2, e2⟩ := (img x).mpr (.inr e)
                      exact ⟨o2, fun q => h2 (hAA _ q), e2⟩
    exact key (ch c) (hO c) M A (by lia)
/-- what the book is behind the closers cs -/
structure Stage (ch : Int → List Int) (O cs : List Int) (M : List (Int × Int)) : Prop where
  keys : (M.map (·.1)).Nodup
  keysO : ∀ o ∈ M.map (·.1), o ∈ O
  inj : ∀ o1 o2 x, bkAt M o1 = some x → bkAt M o2 = some x → o1 = o2
  img : ∀ o x, bkAt M o = some x → x ∈ cs
  edge : ∀ o x, bkAt M o = some x → o ∈ ch x
  shut : ∃ Z : Int → Prop, Closed ch M Z ∧ ∀ c ∈ cs, (∀ o, bkAt M o ≠ some c) → ∀ o ∈ ch c, Z o
theorem Stage.nil (ch : Int → List Int) (O : List Int) : Stage ch O [] [] :=
  ⟨List.nodup_nil, fun o h => (by cases h), fun o1 o2 x h => (by cases h), fun o x h => (by cases h), fun o x h => (by cases h), fun _ => False, fun o h => h.elim, fun c h => (by cases h)⟩
theorem Stage.snoc {ch : Int → List Int} {O cs : List Int} {M : List (Int × Int)} (S : Stage ch O cs M) (hO : ∀ c, ∀ o ∈ ch c, o ∈ O) {n : Nat} (hn : O.length < n) {c : Int} (hc : c ∉ cs) : Stage ch O (cs ++ [c]) (found ch n M c []).2.1 := by
  have F := found_ok ch O hO n M c [] (Nat.lt_of_le_of_lt (List.length_filter_le _ _) hn)
  obtain ⟨Z, hZ, hU⟩ := S.shut
  have hap : Apart M [] c := ⟨fun o1 o2 x _ _ => S.inj o1 o2 x, fun o _ e => hc (S.img o c e)⟩
  have hkO := F.keysU (fun o => o ∈ O) S.keysO (hO c) hO
  have hed := F.edge (fun o x => o ∈ ch x) S.edge (fun o h => h) (fun x o h => h)
  cases hr : (found ch n M c []).1 with
  | false =>
    obtain ⟨e, h1, h2⟩ := F.no hr
    refine ⟨F.keys S.keys, hkO, by rw [e]; exact S.inj, by rw [e]; exact fun o x h => List.mem_append_left _ (S.img o x h), hed, fun o => Z o ∨ o ∈ (found ch n M c []).2.2, fun o ho => ?_, fun c2 hc2 hu o ho => ?_⟩
    · rw [e]
      rcases ho with ho | ho
      · obtain ⟨c', h3, h4⟩ := hZ o ho
        exact ⟨c', h3, fun o' h => .inl (h4 o' h)⟩
      · obtain ⟨c', h3, h4⟩ := h2 o ho (by simp)
        exact ⟨c', h3, fun o' h => .inr (h4 o' h)⟩
    · rw [e] at hu
      rcases List.mem_append.mp hc2 with hc2 | hc2
      · exact .inl (hU c2 hc2 hu o ho)
      · obtain rfl := List.mem_singleton.mp hc2
        exact .inr (h1 o ho)
  | true =>
    obtain ⟨inj, img⟩ := F.yes hr hap
    have keep := fun o => (F.closed Z hZ).2 o
    refine ⟨F.keys S.keys, hkO, fun o1 o2 x => inj o1 o2 x (by simp) (by simp), fun o x h => ?_, hed, Z, fun o ho => ?_, fun c2 hc2 hu => ?_⟩
    · rcases (img x).mp ⟨o, by simp, h⟩ with ⟨o', _, h'⟩ | rfl
      · exact List.mem_append_left _ (S.img o' x h')
      · simp
    · obtain ⟨c', h3, h4⟩ := hZ o ho
      exact ⟨c', (keep o ho).trans h3, h4⟩
    · rcases List.mem_append.mp hc2 with hc2 | hc2
      · refine hU c2 hc2 fun o e => ?_
        obtain ⟨o', _, e'⟩ := (img c2).mpr (.inl ⟨o, by simp, e⟩)
        exact hu o' e'
      · obtain rfl := List.mem_singleton.mp hc2
        obtain ⟨o', _, e'⟩ := (img c2).mpr (.inr rfl)
        exact absurd e' (hu o')
-- what is reached from those that stay alone
structure Reach (ch : Int → List Int) (M : List (Int × Int)) (cls alone : List Int) (Z : Int → Prop) (R : List Int) (p : Nat) : Prop where
  nd : R.Nodup
  sub : ∀ r ∈ R, r ∈ cls
  al : ∀ a ∈ alone, a ∈ R
  zz : ∀ r ∈ R, ∀ o ∈ ch r, Z o
  done : ∀ i r, i < p → R[i]? = some r → ∀ o ∈ ch r, ∃ c, bkAt M o = some c ∧ c ∈ R
  back : ∀ r ∈ R, r ∈ alone ∨ ∃ o, bkAt M o = some r
noncomputable def partner (M : List (Int × Int)) (o : Int) : Int := (bkAt M o).getD 0
theorem Reach.step {ch : Int → List Int} {O : List Int} {M : List (Int × Int)} {cls alone : List Int} {Z : Int → Prop} {R : List Int} {p : Nat} {r : Int} (H : Reach ch M cls alone Z R p) (S : Stage ch O cls M) (hZ : Closed ch M Z) (hr : R[p]? = some r) (nd : (ch r).Nodup) :
    Reach ch M cls alone Z (R ++ ((ch r).map (partner M)).filter fun x => decide (x ∉ R)) (p + 1) := by
  have hrR : r ∈ R := List.mem_of_getElem? hr
  have mt : ∀ o ∈ ch r, ∃ c, bkAt M o = some c ∧ partner M o = c ∧ ∀ o' ∈ ch c, Z o' := fun o ho => by
    obtain ⟨c, h1, h2⟩ := hZ o (H.zz r hrR o ho)
    exact ⟨c, h1, by unfold partner; rw [h1]; rfl, h2⟩
  have new : ∀ x ∈ ((ch r).map (partner M)).filter (fun x => decide (x ∉ R)), x ∉ R ∧ ∃ o ∈ ch r, bkAt M o = some x ∧ ∀ o' ∈ ch x, Z o' := fun x hx => by
    obtain ⟨h1, h2⟩ := List.mem_filter.mp hx
    obtain ⟨o, ho, rfl⟩ := List.mem_map.mp h1
    obtain ⟨c, h3, h4, h5⟩ := mt o ho
    exact ⟨by simpa using h2, o, ho, by rw [h4]; exact h3, by rw [h4]; exact h5⟩
  have ndm : ((ch r).map (partner M)).Nodup := by
    rw [List.nodup_iff_pairwise_ne] at nd ⊢
    rw [List.pairwise_map]
    refine nd.imp_of_mem fun {a b} ha hb hne e => hne ?_
    obtain ⟨c1, h1, h2, _⟩ := mt a ha
    obtain ⟨c2, h3, h4, _⟩ := mt b hb
    exact S.inj a b c1 h1 (by rw [h3, ← h4, ← e, h2])
  refine ⟨?_, fun x hx => ?_, fun a ha => List.mem_append_left _ (H.al a ha), fun x hx => ?_, fun i x hi hx o ho => ?_, fun x hx => ?_⟩
  · rw [List.nodup_append]
    exact ⟨H.nd, ndm.sublist List.filter_sublist, fun a ha b hb e => (new b hb).1 (e ▸ ha)⟩
  · rcases List.mem_append.mp hx with hx | hx
    · exact H.sub x hx
    · obtain ⟨_, o, _, h, _⟩ := new x hx
      exact S.img o x h
  · rcases List.mem_append.mp hx with hx | hx
    · exact H.zz x hx
    · obtain ⟨_, o, _, _, h⟩ := new x hx
      exact h
  · have hp : p < R.length := (List.getElem?_eq_some_iff.mp hr).1
    rw [List.getElem?_append_left (by lia)] at hx
    by_cases e : i < p
    · obtain ⟨c, h1, h2⟩ := H.done i x e hx o ho
      exact ⟨c, h1, List.mem_append_left _ h2⟩
    · obtain rfl : i = p := by lia
      rw [hr] at hx
      cases hx
      obtain ⟨c, h1, h2, _⟩ := mt o ho
      refine ⟨c, h1, ?_⟩
      by_cases q : c ∈ R
      · exact List.mem_append_left _ q
      · exact List.mem_append_right _ (List.mem_filter.mpr ⟨List.mem_map.mpr ⟨o, ho, h2⟩, by simpa using q⟩)
  · rcases List.mem_append.mp hx with hx | hx
    · exact H.back x hx
    · obtain ⟨_, o, _, h, _⟩ := new x hx
      exact .inr ⟨o, h⟩
/-- nothing in its place: the number of those that R has beyond the ones alone -/
theorem beyond {R alone : List Int} (nd : R.Nodup) (na : alone.Nodup) (h : ∀ a ∈ alone, a ∈ R) : (R.filter fun x => decide (x ∉ alone)).length + alone.length = R.length := by
  have e1 : (R.filter fun x => decide (x ∈ alone)).length = alone.length := by
    refine (List.Perm.length_eq ((List.perm_ext_iff_of_nodup (nd.sublist List.filter_sublist) na).mpr fun a => ?_))
    rw [List.mem_filter]
    exact ⟨fun z => by simpa using z.2, fun z => ⟨h a z, by simpa using z⟩⟩
  have e2 := List.length_eq_countP_add_countP (fun x => decide (x ∈ alone)) (l := R)
  rw [List.countP_eq_length_filter, List.countP_eq_length_filter, e1] at e2
  have e3 : (R.filter fun x => decide (x ∉ alone)) = R.filter fun a => decide ¬decide (a ∈ alone) = true := List.filter_congr fun x _ => by simp
  rw [e3]; lia
-- the whole: nodes N, what goes ahead of each, the pieces
structure Net (N : List Int) (ah : Int → List Int) (pc : Int → List Nat) : Prop where
  nd : N.Nodup
  mem : ∀ x ∈ N, ∀ y ∈ ah x, y ∈ N
  tr : ∀ x ∈ N, ∀ y ∈ ah x, ∀ z ∈ ah y, z ∈ ah x
  and' : ∀ x ∈ N, (ah x).Nodup
  isp : ∀ x ∈ N, isPc (pc x)
noncomputable def chO (N : List Int) (ah : Int → List Int) (pc : Int → List Nat) (c : Int) : List Int := if c ∈ N then (ah c).filter fun o => decide (pc o = [40]) else []
noncomputable def clsO (N : List Int) (pc : Int → List Nat) : List Int := N.filter fun c => decide (pc c = [41])
noncomputable def opsO (N : List Int) (pc : Int → List Nat) : List Int := N.filter fun c => decide (pc c = [40])
theorem valS_nodes (pc : Int → List Nat) : ∀ a : List Int, valS (a.map pc) = ((opsO a pc).length : Int) - ((clsO a pc).length : Int)
  | [] => rfl
  | x :: a => by
    have ih := valS_nodes pc a
    rw [List.map_cons, valS_cons, ih]
    unfold opsO clsO valT
    rw [List.filter_cons, List.filter_cons]
    by_cases h1 : pc x = [40]
    · simp [h1]; lia
    · by_cases h2 : pc x = [41]
      · simp [h2]; lia
      · simp [h1, h2]
section
variable {N : List Int} {ah : Int → List Int} {pc : Int → List Nat} {O : List Int} {M : List (Int × Int)} {alone : List Int}
/-- those that stay alone -/
noncomputable def aloneO (N : List Int) (pc : Int → List Nat) (M : List (Int × Int)) : List Int := (clsO N pc).filter fun c => decide (c ∉ M.map (·.2))
theorem mem_vals {M : List (Int × Int)} (nd : (M.map (·.1)).Nodup) (c : Int) : c ∈ M.map (·.2) ↔ ∃ o, bkAt M o = some c := by
  constructor
  · intro h
    obtain ⟨p, hp, rfl⟩ := List.mem_map.mp h
    refine ⟨p.1, ?_⟩
    unfold bkAt
    have : (M.find? fun q => decide (q.1 = p.1)) = some p := by
      clear h
      induction M with
      | nil => cases hp
      | cons q M ih =>
        rw [List.map_cons, List.nodup_cons] at nd
        rw [List.find?_cons]
        rcases List.mem_cons.mp hp with rfl | hp
        · simp
        · have : ¬ q.1 = p.1 := fun e => nd.1 (e ▸ List.mem_map_of_mem hp)
          simp only [this, decide_false]
          exact ih nd.2 hp
    rw [this]; rfl
  · rintro ⟨o, h⟩
    unfold bkAt at h
    obtain ⟨p, hp, rfl⟩ := Option.map_eq_some_iff.mp h
    exact List.mem_map_of_mem (List.mem_of_find?_eq_some hp)
theorem alone_not (S : Stage (chO N ah pc) O (clsO N pc) M) {c : Int} : c ∈ aloneO N pc M ↔ c ∈ clsO N pc ∧ ∀ o, bkAt M o ≠ some c := by
  unfold aloneO
  rw [List.mem_filter]
  simp only [decide_eq_true_eq, mem_vals S.keys, not_exists]
/-- a part of the nodes that has with each what goes ahead of it -/
theorem part_ge (W : Net N ah pc) (S : Stage (chO N ah pc) O (clsO N pc) M) {a : List Int} (na : a.Nodup) (ha : ∀ x ∈ a, x ∈ N) (hd : ∀ x ∈ a, ∀ y ∈ ah x, y ∈ a) : 0 ≤ ((aloneO N pc M).length : Int) + valS (a.map pc) := by
  rw [valS_nodes]
  have nC : (clsO a pc).Nodup := na.sublist List.filter_sublist
  have nA : (aloneO N pc M).Nodup := (W.nd.sublist List.filter_sublist).sublist List.filter_sublist
  have h1 : ((clsO a pc).filter fun c => decide (c ∉ aloneO N pc M)).length ≤ ((opsO a pc).filterMap (bkAt M)).length := by
    refine len_sub (nC.sublist List.filter_sublist) fun c hc => ?_
    obtain ⟨h2, h3⟩ := List.mem_filter.mp hc
    obtain ⟨h4, h5⟩ := List.mem_filter.mp h2
    have hcN : c ∈ clsO N pc := List.mem_filter.mpr ⟨ha c h4, h5⟩
    have h3 : ¬ c ∈ aloneO N pc M := by simpa using h3
    obtain ⟨o, ho⟩ : ∃ o, bkAt M o = some c := Classical.byContradiction fun q => h3 ((alone_not S).mpr ⟨hcN, fun o e => q ⟨o, e⟩⟩)
    have ho' := S.edge o c ho
    unfold chO at ho'
    rw [if_pos (ha c h4)] at ho'
    obtain ⟨h6, h7⟩ := List.mem_filter.mp ho'
    exact List.mem_filterMap.mpr ⟨o, List.mem_filter.mpr ⟨hd c h4 o h6, h7⟩, ho⟩
  have h2 : ((opsO a pc).filterMap (bkAt M)).length ≤ (opsO a pc).length := List.length_filterMap_le _ _
  have h3 : (clsO a pc).length ≤ ((clsO a pc).filter fun c => decide (c ∉ aloneO N pc M)).length + (aloneO N pc M).length := by
    have e := List.length_eq_countP_add_countP (fun c => decide (c ∉ aloneO N pc M)) (l := clsO a pc)
    rw [List.countP_eq_length_filter, List.countP_eq_length_filter] at e
    have : ((clsO a pc).filter fun x => decide ¬decide (x ∉ aloneO N pc M) = true).length ≤ (aloneO N pc M).length := len_sub (nC.sublist List.filter_sublist) fun c hc => by
      have := (List.mem_filter.mp hc).2
      simpa using this
    lia
  lia
/-- the front: what is reached, and what goes ahead of it -/
theorem front_le (W : Net N ah pc) (S : Stage (chO N ah pc) O (clsO N pc) M) {Z : Int → Prop} {R a : List Int} (H : Reach (chO N ah pc) M (clsO N pc) (aloneO N pc M) Z R R.length) (na : a.Nodup) (ha : ∀ x ∈ a, x ∈ N)
    (hm : ∀ x ∈ N, x ∈ a ↔ x ∈ R ∨ ∃ k ∈ R, x ∈ ah k) : ((aloneO N pc M).length : Int) + valS (a.map pc) ≤ 0 := by
  rw [valS_nodes]
  have nA : (aloneO N pc M).Nodup := (W.nd.sublist List.filter_sublist).sublist List.filter_sublist
  have hRN : ∀ r ∈ R, r ∈ N ∧ pc r = [41] := fun r hr => by
    obtain ⟨h1, h2⟩ := List.mem_filter.mp (H.sub r hr)
    exact ⟨h1, by simpa using h2⟩
  have hC : R.length ≤ (clsO a pc).length := len_sub H.nd fun r hr => List.mem_filter.mpr ⟨(hm r (hRN r hr).1).mpr (.inl hr), by simpa using (hRN r hr).2⟩
  have hp : ∀ o ∈ opsO a pc, ∃ c, bkAt M o = some c ∧ c ∈ R := fun o ho => by
    obtain ⟨h1, h2⟩ := List.mem_filter.mp ho
    have h2 : pc o = [40] := by simpa using h2
    rcases (hm o (ha o h1)).mp h1 with h3 | ⟨k, hk, h3⟩
    · have := (hRN o h3).2
      rw [h2] at this; cases this
    · obtain ⟨i, hi, e⟩ := List.getElem_of_mem hk
      refine H.done i k hi (by rw [List.getElem?_eq_getElem hi, e]) o ?_
      unfold chO
      rw [if_pos (hRN k hk).1]
      exact List.mem_filter.mpr ⟨h3, by simpa using h2⟩
  have hlen : ((opsO a pc).map (partner M)).length ≤ (R.filter fun x => decide (x ∉ aloneO N pc M)).length := by
    refine len_sub ?_ fun c hc => ?_
    · have nO : (opsO a pc).Nodup := na.sublist List.filter_sublist
      rw [List.nodup_iff_pairwise_ne] at nO ⊢
      rw [List.pairwise_map]
      refine nO.imp_of_mem fun {x y} hx hy hne e => hne ?_
      obtain ⟨c1, h1, _⟩ := hp x hx
      obtain ⟨c2, h2, _⟩ := hp y hy
      unfold partner at e
      rw [h1, h2] at e
      exact S.inj x y c1 h1 (by rw [h2]; exact congrArg some e.symm)
    · obtain ⟨o, ho, rfl⟩ := List.mem_map.mp hc
      obtain ⟨c, h1, h2⟩ := hp o ho
      have e : partner M o = c := by unfold partner; rw [h1]; rfl
      rw [e]
      refine List.mem_filter.mpr ⟨h2, ?_⟩
      simp only [decide_eq_true_eq]
      exact fun q => ((alone_not S).mp q).2 o h1
  rw [List.length_map] at hlen
  have := beyond H.nd nA H.al
  lia
end
/-- the nodes as they are run: each behind what it waits for, and none that could be run has a lesser mark -/
structure OrdOk (N : List Int) (wt : Int → List Int) (mk : Int → Int) (a : List Int) : Prop where
  nd : a.Nodup
  sub : ∀ x ∈ a, x ∈ N
  each : ∀ l x r, a = l ++ x :: r → (∀ w ∈ wt x, w ∈ l) ∧ ∀ y ∈ N, y ∉ l → (∀ w ∈ wt y, w ∈ l) → mk x ≤ mk y
theorem OrdOk.nil (N : List Int) (wt : Int → List Int) (mk : Int → Int) : OrdOk N wt mk [] := ⟨List.nodup_nil, fun x h => (by cases h), fun l x r h => by cases l <;> cases h⟩
theorem OrdOk.snoc {N : List Int} {wt : Int → List Int} {mk : Int → Int} {a : List Int} {n : Int} (h : OrdOk N wt mk a) (hn : n ∈ N) (ha : n ∉ a) (hw : ∀ w ∈ wt n, w ∈ a) (hm : ∀ y ∈ N, y ∉ a → (∀ w ∈ wt y, w ∈ a) → mk n ≤ mk y) : OrdOk N wt mk (a ++ [n]) := by
  refine ⟨?_, fun x hx => ?_, fun l x r e => ?_⟩
  · rw [List.nodup_append]
    exact ⟨h.nd, by simp, fun x hx y hy e => ha (by rw [List.mem_singleton] at hy; rw [← hy, ← e]; exact hx)⟩
  · rcases List.mem_append.mp hx with hx | hx
    · exact h.sub x hx
    · rw [List.mem_singleton] at hx; rw [hx]; exact hn
  · rcases List.eq_nil_or_concat r with rfl | ⟨r, y, rfl⟩
    · obtain ⟨e1, e2⟩ := List.append_inj' e rfl
      cases e2; subst e1
      exact ⟨hw, hm⟩
    · have e' : a ++ [n] = (l ++ x :: r) ++ [y] := by rw [e]; simp
      obtain ⟨e1, _⟩ := List.append_inj' e' rfl
      exact h.each l x r e1
section
variable {N : List Int} {wt ah : Int → List Int} {mk : Int → Int} {order : List Int}
/-- what goes ahead of each, by what it waits for -/
structure Ahead (N : List Int) (wt ah : Int → List Int) : Prop where
  mem : ∀ x ∈ N, ∀ k, k ∈ ah x ↔ k ∈ wt x ∨ ∃ m ∈ wt x, k ∈ ah m
  low : ∀ x ∈ N, 0 ≤ x ∧ ∀ m ∈ wt x, 0 ≤ m ∧ m < x ∧ m ∈ N
theorem low_ind {P : Int → Prop} (low : ∀ x ∈ N, 0 ≤ x ∧ ∀ m ∈ wt x, 0 ≤ m ∧ m < x ∧ m ∈ N) (h : ∀ x ∈ N, (∀ m ∈ wt x, P m) → P x) : ∀ x ∈ N, P x := by
  have go : ∀ n : Nat, ∀ x ∈ N, x.toNat < n → P x := by
    intro n
    induction n with
    | zero => intro x _ h; exact absurd h (Nat.not_lt_zero _)
    | succ n ih =>
      intro x hx hlt
      obtain ⟨h0, h1⟩ := low x hx
      refine h x hx fun m hm => ih m (h1 m hm).2.2 ?_
      obtain ⟨a, b, _⟩ := h1 m hm
      lia
  exact fun x hx => go (x.toNat + 1) x hx (Nat.lt_succ_self _)
theorem Ahead.ind {P : Int → Prop} (A : Ahead N wt ah) (h : ∀ x ∈ N, (∀ m ∈ wt x, P m) → P x) : ∀ x ∈ N, P x := low_ind A.low h
theorem Ahead.sub (A : Ahead N wt ah) : ∀ x ∈ N, ∀ y ∈ ah x, y ∈ N := A.ind fun x hx ih y hy => by
  rcases (A.mem x hx y).mp hy with h | ⟨m, hm, h⟩
  · exact ((A.low x hx).2 y h).2.2
  · exact ih m hm y h
theorem Ahead.tr (A : Ahead N wt ah) : ∀ x ∈ N, ∀ y ∈ ah x, ∀ z ∈ ah y, z ∈ ah x := A.ind fun x hx ih y hy z hz => by
  rcases (A.mem x hx y).mp hy with h | ⟨m, hm, h⟩
  · exact (A.mem x hx z).mpr (.inr ⟨y, h, hz⟩)
  · exact (A.mem x hx z).mpr (.inr ⟨m, hm, ih m hm y h z hz⟩)
/-- a part that has with each what it waits for has all that goes ahead of it -/
theorem Ahead.down (A : Ahead N wt ah) {a : List Int} (ha : ∀ x ∈ a, x ∈ N) (hw : ∀ x ∈ a, ∀ m ∈ wt x, m ∈ a) : ∀ x ∈ a, ∀ y ∈ ah x, y ∈ a := by
  have : ∀ x ∈ N, x ∈ a → ∀ y ∈ ah x, y ∈ a := A.ind fun x hx ih hxa y hy => by
    rcases (A.mem x hx y).mp hy with h | ⟨m, hm, h⟩
    · exact hw x hxa y h
    · exact ih m hm (hw x hxa m hm) y h
  exact fun x hx => this x (ha x hx) hx
theorem OrdOk.pre (h : OrdOk N wt mk order) {a b : List Int} (e : order = a ++ b) : a.Nodup ∧ (∀ x ∈ a, x ∈ N) ∧ ∀ x ∈ a, ∀ m ∈ wt x, m ∈ a := by
  refine ⟨?_, fun x hx => h.sub x (by rw [e]; exact List.mem_append_left _ hx), fun x hx m hm => ?_⟩
  · have := h.nd
    rw [e, List.nodup_append] at this
    exact this.1
  · obtain ⟨l, r, rfl⟩ := List.append_of_mem hx
    have := (h.each l x (r ++ b) (by rw [e]; simp)).1 m hm
    exact List.mem_append_left _ this
/-- the front is run first -/
theorem OrdOk.front (h : OrdOk N wt mk order) (hall : ∀ x ∈ N, x ∈ order) (A : Ahead N wt ah) {fr : Int → Prop} (hd : ∀ x ∈ N, fr x → ∀ m ∈ wt x, fr m) (h0 : ∀ x ∈ N, fr x → mk x = 0) (h1 : ∀ x ∈ N, ¬ fr x → mk x = 1) :
    ∃ a b, order = a ++ b ∧ ∀ x ∈ N, x ∈ a ↔ fr x := by
  -- behind one that is not of the front none of the front stands
  have key : ∀ l x r, order = l ++ x :: r → ¬ fr x → ∀ y ∈ N, fr y → y ∈ l := fun l x r e hx => A.ind fun y hy ih hf => by
    refine Classical.byContradiction fun q => ?_
    have := (h.each l x r e).2 y hy q fun w hw => ih w hw (hd y hy hf w hw)
    have hxN := h.sub x (by rw [e]; simp)
    rw [h1 x hxN hx, h0 y hy hf] at this
    lia
  have go : ∀ b a, order = a ++ b → (∀ x ∈ a, fr x) → ∃ a b, order = a ++ b ∧ ∀ x ∈ N, x ∈ a ↔ fr x := by
    intro b
    induction b with
    | nil => exact fun a e ha => ⟨a, [], e, fun x hx => ⟨ha x, fun _ => by have := hall x hx; rw [e] at this; simpa using this⟩⟩
    | cons x r ih =>
      intro a e ha
      by_cases hx : fr x
      · refine ih (a ++ [x]) (by rw [e]; simp) fun y hy => ?_
        rcases List.mem_append.mp hy with hy | hy
        · exact ha y hy
        · rw [List.mem_singleton] at hy; rw [hy]; exact hx
      · exact ⟨a, x :: r, e, fun y hy => ⟨ha y, key a x r e hx y hy⟩⟩
  exact go order [] rfl fun x hx => by cases hx
end
noncomputable def fdNodes : FuncData := fdOf (stmtAt pw_op0195_01 15) "_law_nodes" 175 .none (.str "law_op0195_01" 425)
/-- rows of numbers, each an object of its own -/
noncomputable def Tbl (K : SH) (ws : List Value) (rows : List (List Int)) : Prop := ws.length = rows.length ∧ ∀ (j : Nat) (row : List Int), rows[j]? = some row → ∃ a : Addr, ws[j]? = some (Value.ref a) ∧ Has a (.list (intL row)) K
theorem Tbl.snoc {K : SH} {ws : List Value} {rows : List (List Int)} {a : Addr} {row : List Int} (h : Tbl K ws rows) : Tbl ((a, .list (intL row)) :: K) (ws ++ [.ref a]) (rows ++ [row]) := by
  refine ⟨by simp [h.1], fun j r hj => ?_⟩
  by_cases e : j < rows.length
  · rw [List.getElem?_append_left e] at hj
    obtain ⟨b, h1, h2⟩ := h.2 j r hj
    exact ⟨b, by rw [List.getElem?_append_left (by rw [h.1]; exact e)]; exact h1, .tail h2⟩
  · have hl : j < rows.length + 1 := by simpa using (List.getElem?_eq_some_iff.mp hj).1
    have : j = rows.length := by lia
    subst this
    rw [List.getElem?_append_right (Nat.le_refl _), Nat.sub_self] at hj
    cases hj
    exact ⟨a, by rw [List.getElem?_append_right (by rw [h.1]; exact Nat.le_refl _), h.1, Nat.sub_self]; rfl, .head⟩
noncomputable def pcs : List (List Nat) := [[40], [41], [40], [41], [92, 41], [34, 40, 34]]
noncomputable def pcF (x : Int) : List Nat := pcs.getD (x.fmod 6).toNat []
noncomputable def numsN (n : Nat) : List Int := (List.range n).map fun k : Nat => (k : Int)
theorem numsN_succ (n : Nat) : numsN (n + 1) = numsN n ++ [(n : Int)] := by simp [numsN, List.range_succ]
noncomputable def bitF (x : Int) (k : Int) : Bool := decide (((x.fdiv 6).fdiv (2 ^ k.toNat)).fmod 2 = 1)
noncomputable def waitF (i : Nat) (x : Int) : List Int := (numsN i).filter (bitF x)
noncomputable def markF (i : Nat) (x : Int) : Int := ((x.fdiv 6).fdiv (2 ^ i)).fmod 8
noncomputable def spareF (ns : List Int) : Int := ((ns.map fun x : Int => x.fdiv 6144).sum).fmod 64
noncomputable def xsF (ns : List Int) : List Int := [(spareF ns).fmod 8 * 6, (spareF ns).fdiv 8 * 12 + 7] ++ ns.map fun y : Int => y.fmod 6144
noncomputable def waitsF (xs : List Int) (n : Nat) : List (List Int) := (List.range n).map fun i => waitF i (xs.getD i 0)
noncomputable def marksF (xs : List Int) (n : Nat) : List Int := (List.range n).map fun i => markF i (xs.getD i 0)
theorem pow_small {k : Nat} (h : k ≤ 8) : ((2 : Int) ^ k) ≠ 0 ∧ ((2 : Int) ^ k).natAbs < 1073741824 := by
  have : k = 0 ∨ k = 1 ∨ k = 2 ∨ k = 3 ∨ k = 4 ∨ k = 5 ∨ k = 6 ∨ k = 7 ∨ k = 8 := by lia
  rcases this with rfl | rfl | rfl | rfl | rfl | rfl | rfl | rfl | rfl <;> decide
noncomputable def nodesFor (ns xs : List Int) (loc : Addr) (ln lm lw lp l2 l3 r cx : Addr) (H : SH) (i : Nat) (Hi : SH) : Prop := ∃ xv plv ws K, Tbl K ws (waitsF xs i) ∧ Hi = (r, .list (intL xs)) :: (l3, .list (intL (ns.map fun y : Int => y.fmod 6144))) :: (l2, .list [.int ((spareF ns).fmod 8 * 6) 0, .int ((spareF ns).fdiv 8 * 12 + 7) 0]) :: (lm, .list (intL (marksF xs i))) :: (lw, .list ws) :: (lp, .list (strV ((xs.take i).map pcF))) ::
    (loc, .ns (rR (Str.ofString "numbers") ln (rI (Str.ofString "spare") (spareF ns) (rR (Str.ofString "pieces") lp (rR (Str.ofString "waits") lw (rR (Str.ofString "marks") lm (rV (Str.ofString "place") plv []))))))) :: (cx, .cell xv) :: (K ++ H)
set_option maxHeartbeats 4000000 in
theorem cNodes {C : Cx} {d : Nat} {H : SH} {Q : Value → SH → Prop} (F : Fn C 176 fdNodes) (Lm : Lim C) (nsum : Nm C "sum" (.builtin "sum")) (nl : Nm C "len" (.builtin "len")) (nr : Nm C "range" (.type "range"))
    (ns : List Int) (hn : ns.length ≤ 6) {ln : Addr} (hln : Has ln (.list (intL ns)) H)
    (h : ∀ tp lp lw lm ws K, Tbl K ws (waitsF (xsF ns) (xsF ns).length) → Q (.ref tp) ((tp, .tup [.ref lp, .ref lw, .ref lm]) :: (lm, .list (intL (marksF (xsF ns) (xsF ns).length))) :: (lw, .list ws) :: (lp, .list (strV ((xsF ns).map pcF))) :: (K ++ H))) :
    TCall C (d + 1) (.ref 176) [.ref ln] H Q := by
  have hsz : ∀ n : Nat, n ≤ 1000 → n ≤ sizeLine := fun n hn => Nat.le_trans hn (sz rfl)
  refine TCall.def1 F Lm (body := bodyOf (stmtAt pw_op0195_01 15)) (by kernel_rfl) (by kernel_rfl) (by decide +kernel) (p := Str.ofString "numbers") (by intro x; kernel_rfl) (.inl (by kernel_rfl)) ?_
  refine FnBody.cellsL [(Str.ofString "x", none)] (m := (rR (Str.ofString "numbers") ln (rV (Str.ofString "spare") none (rV (Str.ofString "pieces") none (rV (Str.ofString "waits") none (rV (Str.ofString "marks") none (rV (Str.ofString "place") none []))))))) (by kernel_rfl) (by kernel_rfl) (by kernel_rfl) (by kernel_rfl) fun env as hal E hk hcs => ?_
  obtain ⟨cx, rfl⟩ := len1 hal
  have hm : InMain env := ⟨E.globals, E.builtins⟩
  have k_numbers : env.kindOf (Str.ofString "numbers") = some NameKind.local := E.kind (by kernel_rfl)
  have k_x : env.kindOf (Str.ofString "x") = some NameKind.cell := E.kind (by kernel_rfl)
  have k_spare : env.kindOf (Str.ofString "spare") = some NameKind.local := E.kind (by kernel_rfl)
  have k_pieces : env.kindOf (Str.ofString "pieces") = some NameKind.local := E.kind (by kernel_rfl)
  have k_waits : env.kindOf (Str.ofString "waits") = some NameKind.local := E.kind (by kernel_rfl)
  have k_marks : env.kindOf (Str.ofString "marks") = some NameKind.local := E.kind (by kernel_rfl)
  have k_place : env.kindOf (Str.ofString "place") = some NameKind.local := E.kind (by kernel_rfl)
  have k_sum : env.kindOf (Str.ofString "sum") = some NameKind.globalImplicit := E.kind (by kernel_rfl)
  have k_len : env.kindOf (Str.ofString "len") = some NameKind.globalImplicit := E.kind (by kernel_rfl)
  have k_range : env.kindOf (Str.ofString "range") = some NameKind.globalImplicit := E.kind (by kernel_rfl)
  have hcx : env.cells.lookup (Str.ofString "x") = some cx := by rw [hcs]; rfl
  have so := s_open
  have sc := s_close
  have sb : Str.ofString "\\)" = S [92, 41] := by decide +kernel
  have sq : Str.ofString "\"(\"" = S [34, 40, 34] := by decide +kernel
  show TX C d (_ :: _ :: _ :: _ :: _ :: _ :: []) env ((env.locals, _) :: (cx, .cell none) :: H) _
  walk_at "xs"
  refine TE.comp (own := false) (cl := []) (by rfl) (by rfl) (fun x hx hl => ?_) (by rfl) (by rfl) ?_
  · simp only [List.mem_cons, List.not_mem_nil, or_false] at hx
    rcases hx with rfl | rfl <;> rfl
  walk_at "xs"
  refine CompOk.ints (fun _ => True) (Iter.list (xs := intL ns)) (by lia) (.tail (.tail hln)) trivial (fun i => intL (i.map fun x : Int => x.fdiv 6144)) rfl (fun H' _ cenv Ec i n hi hn' ht _ => ?_) fun l1 => ?_
  · have kx : cenv.kindOf (Str.ofString "x") = some .local := Ec.local (by rfl)
    have kc : cenv.scope.kind = .function := Ec.kind (by rfl)
    refine TIfs.nil1 ?_
    show TE C d _ cenv ((_, .ns [(_, some (.int n 0))]) :: H') _
    walk_at "xs"
    refine TBin.fdiv (by decide) (by decide) ⟨⟨_, sub_refl _⟩, ?_⟩
    exact mapI ht rfl
  walk_at "xs"
  refine TCall.sum .head ?_
  walk_at "xs"
  refine TBin.mod (by decide) ?_
  rw [show ((ns.map fun x : Int => x.fdiv 6144).sum).fmod 64 = spareF ns from rfl]
  walk_at "sto"
  refine TX.drop1 ?_
  walk_at "xs"
  refine ⟨by decide, fun lp => ?_⟩
  walk_at "xs"
  refine ⟨by decide, fun lw => ?_⟩
  walk_at "xs"
  refine ⟨by decide, fun lm => ?_⟩
  walk_at "xs"
  refine TX.for hk ?_
  walk_at "xs"
  refine TBin.mod (by decide) ?_
  walk_at "xs"
  refine TBin.mul (.of_right (intBits_le_64 (by decide) (by decide))) ?_
  walk_at "xs"
  refine TBin.fdiv (by decide) (by decide) ?_
  walk_at "xs"
  refine TBin.mul (.of_right (intBits_le_64 (by decide) (by decide))) ?_
  walk_at "xs"
  refine ⟨hsz 2 (by decide), fun l2 => ?_⟩
  refine TE.comp (own := false) (cl := []) (by rfl) (by rfl) (fun x hx hl => ?_) (by rfl) (by rfl) ?_
  · simp only [List.mem_cons, List.not_mem_nil, or_false] at hx
    rcases hx with rfl | rfl <;> rfl
  walk_at "xs"
  refine CompOk.ints (fun _ => True) (Iter.list (xs := intL ns)) (by lia) (.tail (.tail (.tail (.tail (.tail (.tail hln)))))) trivial (fun i => intL (i.map fun y : Int => y.fmod 6144)) rfl (fun H' _ cenv Ec i n hi hn' ht _ => ?_) fun l3 => ?_
  · have kx : cenv.kindOf (Str.ofString "y") = some .local := Ec.local (by rfl)
    have kc : cenv.scope.kind = .function := Ec.kind (by rfl)
    refine TIfs.nil1 ?_
    show TE C d _ cenv ((_, .ns [(_, some (.int n 0))]) :: H') _
    walk_at "xs"
    refine TBin.mod (by decide) ⟨⟨_, sub_refl _⟩, ?_⟩
    exact mapI ht rfl
  have hxl : (xsF ns).length = ns.length + 2 := by simp [xsF]
  refine TBin.addList (.tail .head) .head (by rw [intL_length, List.length_map]; exact hsz _ (by simp; lia)) fun r => ?_
  obtain ⟨xs, hxs⟩ : ∃ xs, xs = xsF ns := ⟨_, rfl⟩
  rw [show ([.int ((spareF ns).fmod 8 * 6) 0, .int ((spareF ns).fdiv 8 * 12 + 7) 0] ++ intL (ns.map fun y : Int => y.fmod 6144) : List Value) = intL xs by rw [hxs]; rfl]
  rw [← hxs] at h hxl
  have hlen : ∀ i, i < xs.length → (strV ((xs.take i).map pcF)).length = i := fun i hi => by simp [strV]; lia
  refine ⟨_, _, Iter.list (xs := intL xs), nodesFor ns xs env.locals ln lm lw lp l2 l3 r cx H, ⟨none, none, [], [], ⟨rfl, fun j row h => (by cases h)⟩, rfl⟩, ?_, ?_, ?_⟩
  · rintro i Hi ⟨xv, plv, ws, K, hT, rfl⟩
    exact .head
  · rintro i u Hi hu ⟨xv, plv, ws, K, hT, rfl⟩
    obtain ⟨n, hn', rfl, hi, ht, _⟩ := intL_item hu
    (with_reducible refine' ⟨_, Sto.cell ‹_› ‹_› ?hs, ?_⟩; (case hs => walk_at "swap"))
    walk_at "xs"
    refine TCall.lenN (by walk_at "has") (hlen i hi) (by lia) ?_
    walk_at "xs"
    refine ⟨hsz 6 (by decide), fun l6 => ?_⟩
    walk_at "xs"
    refine TBin.mod (by decide) ?_
    have hm0 : 0 ≤ n.fmod 6 := Int.fmod_nonneg_of_pos _ (by lia)
    have hm6 : n.fmod 6 < 6 := Int.fmod_lt_of_pos _ (by lia)
    refine TGet.list (u := .str (S (pcF n)) 0) .head hm0 (by lia) ?_ ?_
    · unfold pcF
      obtain ⟨k, hk⟩ : ∃ k : Nat, n.fmod 6 = k := ⟨(n.fmod 6).toNat, by lia⟩
      rw [hk] at hm6 ⊢
      have : k = 0 ∨ k = 1 ∨ k = 2 ∨ k = 3 ∨ k = 4 ∨ k = 5 := by lia
      rcases this with rfl | rfl | rfl | rfl | rfl | rfl <;> rfl
    walk_at "xs"
    refine TCall.appendTo (ys := strV ((xs.take (i + 1)).map pcF)) (by walk_at "swap") (by rw [ht]; simp [strV]) (by rw [hlen i hi]; lia) ⟨by simp, ?_⟩
    refine TX.drop1 ?_
    walk_at "xs"
    refine TE.comp (own := false) (cl := [(Str.ofString "x", cx)]) (closureFor_is (by rw [hcs]; rfl)) (by rfl) (namesB_ok (by kernel_rfl)) (by rfl) (by rfl) ?_
    walk_at "xs"
    refine TCall.range1 fun r2 => ?_
    refine CompOk.range (fun H' => Has cx (.cell (some (.int n 0))) H') (by lia) .head (by walk_at "has") (fun k => intL ((numsN k).filter (bitF n))) rfl (fun H' hc cenv Ec k hki => ?_) fun lr => ?_
    · have kn : cenv.kindOf (Str.ofString "node") = some .local := Ec.local (by rfl)
      have kx : cenv.kindOf (Str.ofString "x") = some .cell := Ec.cell (by rfl) hk k_x
      have kc : cenv.scope.kind = .function := Ec.kind (by rfl)
      have ccx := Ec.look0 (x := Str.ofString "x") (a := cx) (by rfl) (by rfl)
      refine TIfs.one ?_
      show TB C d _ cenv ((_, .ns [(_, some (.int (k : Int) 0))]) :: H') _
      walk_at "xs"
      refine TBin.fdiv (by decide) (by decide) ?_
      walk_at "xs"
      refine TBin.powN (k := k) (by lia) (by decide) ?_
      obtain ⟨q1, q2⟩ := pow_small (k := k) (by lia)
      refine TBin.fdiv q1 q2 ?_
      walk_at "xs"
      refine TBin.mod (by decide) ?_
      walk_at "xs"
      have hbit : bitF n (k : Int) = (((n.fdiv 6).fdiv (2 ^ k)).fmod 2 == 1) := by
        show decide _ = _
        rw [show ((k : Nat) : Int).toNat = k from rfl]
        by_cases e : ((n.fdiv 6).fdiv (2 ^ k)).fmod 2 = 1 <;> simp [e]
      refine split_bool (fun hb => ?_) (fun hb => ?_)
      · walk_at "xs"
        exact ⟨⟨_, sub_refl _⟩, keepI (p := bitF n) (numsN_succ k) (hbit.trans hb)⟩
      · exact ⟨⟨_, sub_refl _⟩, skipI (p := bitF n) (numsN_succ k) (hbit.trans hb)⟩
    walk_at "xs"
    have hwl : ws.length = i := by rw [hT.1]; simp [waitsF]
    refine TCall.append (by walk_at "swap") (by rw [hwl]; exact hsz _ (by lia)) ⟨by simp, ?_⟩
    refine TX.perm ((List.Perm.swap _ _ _).trans (List.Perm.cons _ (List.perm_middle (l₁ := [_, _, _, _, _, _, _, _])).symm)) (TX.drop1 ?_)
    show TX C d _ env ((r, _) :: (l3, _) :: (l2, _) :: (lm, _) :: (lw, _) :: (lp, _) :: (env.locals, _) :: (cx, _) :: (((lr, .list (intL (waitF i n))) :: K) ++ H)) _
    walk_at "xs"
    refine TBin.fdiv (by decide) (by decide) ?_
    walk_at "xs"
    refine TBin.powN (k := i) (by lia) (by decide) ?_
    obtain ⟨q1, q2⟩ := pow_small (k := i) (by lia)
    refine TBin.fdiv q1 q2 ?_
    walk_at "xs"
    refine TBin.mod (by decide) ?_
    walk_at "xs"
    refine TCall.append (by walk_at "swap") (by rw [intL_length]; exact hsz _ (by simp [marksF]; lia)) ⟨by simp, ?_⟩
    refine TX.nil ⟨some (.int n 0), some (.int (i : Int) 0), ws ++ [.ref lr], (lr, .list (intL (waitF i n))) :: K, ?_, ?_⟩
    · have : waitsF xs (i + 1) = waitsF xs i ++ [waitF i n] := by simp [waitsF, List.range_succ, hn']
      rw [this]
      exact hT.snoc
    · have : marksF xs (i + 1) = marksF xs i ++ [markF i n] := by simp [marksF, List.range_succ, hn']
      rw [this]
      simp [intL]; exact ⟨rfl, rfl⟩
  · rintro Hn ⟨xv, plv, ws, K, hT, rfl⟩
    rw [intL_length] at hT
    rw [intL_length, List.take_length]
    walk_at "xs"
    refine ⟨hsz 3 (by decide), fun tp => ?_⟩
    exact ⟨_, .cons_cons _ (.cons _ (.cons _ (.cons _ (.cons_cons _ (.cons_cons _ (.cons_cons _ (.cons _ (.cons _ (sub_refl _))))))))), h tp lp lw lm ws K hT⟩
noncomputable def fdAhead : FuncData := fdOf (stmtAt pw_op0195_01 16) "_law_ahead" 180 .none (.str "law_op0195_01" 425)
noncomputable def behind (acc : List (List Int)) (k m : Int) : Bool := decide (k ∈ acc.getD m.toNat [])
noncomputable def aheadT (acc : List (List Int)) (row : List Int) (k : Int) : Bool := decide (k ∈ row) || row.any (behind acc k)
noncomputable def aheadRow (acc : List (List Int)) (row : List Int) : List Int := (numsN acc.length).filter (aheadT acc row)
noncomputable def aheadL (rows : List (List Int)) : List (List Int) := rows.foldl (fun acc row => acc ++ [aheadRow acc row]) []
theorem aheadL_snoc (rows : List (List Int)) (row : List Int) : aheadL (rows ++ [row]) = aheadL rows ++ [aheadRow (aheadL rows) row] := by simp [aheadL, List.foldl_append]
theorem aheadL_len : ∀ rows : List (List Int), (aheadL rows).length = rows.length := fun rows => by
  suffices h : ∀ (rows acc : List (List Int)), (rows.foldl (fun acc row => acc ++ [aheadRow acc row]) acc).length = acc.length + rows.length by
    have := h rows []
    simpa [aheadL] using this
  intro rows
  induction rows with
  | nil => intro acc; rfl
  | cons r rows ih => intro acc; rw [List.foldl_cons, ih]; simp; lia
theorem Tbl.row {K : SH} {ws : List Value} {rows : List (List Int)} (h : Tbl K ws rows) {i : Nat} {u : Value} (hu : ws[i]? = some u) : ∃ a row, rows[i]? = some row ∧ u = .ref a ∧ Has a (.list (intL row)) K := by
  have hi : i < rows.length := by rw [← h.1]; exact (List.getElem?_eq_some_iff.mp hu).1
  obtain ⟨a, h1, h2⟩ := h.2 i _ (List.getElem?_eq_getElem hi)
  rw [h1] at hu
  cases hu
  exact ⟨a, _, List.getElem?_eq_getElem hi, rfl, h2⟩
theorem Tbl.mono {K K' : SH} {ws : List Value} {rows : List (List Int)} (h : Tbl K ws rows) (hk : ∀ a x, Has a x K → Has a x K') : Tbl K' ws rows := ⟨h.1, fun j row hj => (h.2 j row hj).elim fun a z => ⟨a, z.1, hk _ _ z.2⟩⟩
theorem Tbl.getD {K : SH} {ws : List Value} {rows : List (List Int)} (h : Tbl K ws rows) {m : Int} (h0 : 0 ≤ m) (h1 : m < rows.length) : ∃ a, ws[m.toNat]? = some (.ref a) ∧ Has a (.list (intL (rows.getD m.toNat []))) K := by
  have hi : m.toNat < rows.length := by lia
  have e := List.getElem?_eq_getElem hi
  obtain ⟨a, h2, h3⟩ := h.2 _ _ e
  refine ⟨a, h2, ?_⟩
  rw [List.getD_eq_getElem?_getD, e]
  exact h3
theorem isEmpty_filter (row : List Int) (p : Int → Bool) : (!(intL (row.filter p)).isEmpty) = row.any p := by
  induction row with
  | nil => rfl
  | cons a r ih =>
    rw [List.filter_cons, List.any_cons, ← ih]
    cases p a <;> rfl
set_option maxHeartbeats 4000000 in
theorem cAhead {C : Cx} {d : Nat} {H : SH} {Q : Value → SH → Prop} (F : Fn C 181 fdAhead) (Lm : Lim C) (nl : Nm C "len" (.builtin "len")) (nr : Nm C "range" (.type "range"))
    (rows : List (List Int)) (hn : rows.length ≤ 8) (hr : ∀ (i : Nat) (row : List Int), rows[i]? = some row → row.length ≤ 8 ∧ ∀ m : Int, m ∈ row → 0 ≤ m ∧ m < (i : Int)) {lw : Addr} {ws : List Value} (hlw : Has lw (.list ws) H) (hT : Tbl H ws rows)
    (h : ∀ la as K, Tbl K as (aheadL rows) → Q (.ref la) ((la, .list as) :: (K ++ H))) :
    TCall C (d + 1) (.ref 181) [.ref lw] H Q := by
  have hsz : ∀ n : Nat, n ≤ 1000 → n ≤ sizeLine := fun n hn => Nat.le_trans hn (sz rfl)
  refine TCall.def1 F Lm (body := bodyOf (stmtAt pw_op0195_01 16)) (by kernel_rfl) (by kernel_rfl) (by decide +kernel) (p := Str.ofString "waits") (by intro x; kernel_rfl) (.inl (by kernel_rfl)) ?_
  refine FnBody.cellsL [(Str.ofString "row", none), (Str.ofString "ahead", none)] (m := (rR (Str.ofString "waits") lw [])) (by kernel_rfl) (by kernel_rfl) (by kernel_rfl) (by kernel_rfl) fun env as hal E hk hcs => ?_
  obtain ⟨cr, ca, rfl⟩ := len2 hal
  have hm : InMain env := ⟨E.globals, E.builtins⟩
  have k_waits : env.kindOf (Str.ofString "waits") = some NameKind.local := E.kind (by kernel_rfl)
  have k_ahead : env.kindOf (Str.ofString "ahead") = some NameKind.cell := E.kind (by kernel_rfl)
  have k_row : env.kindOf (Str.ofString "row") = some NameKind.cell := E.kind (by kernel_rfl)
  have k_range : env.kindOf (Str.ofString "range") = some NameKind.globalImplicit := E.kind (by kernel_rfl)
  have k_len : env.kindOf (Str.ofString "len") = some NameKind.globalImplicit := E.kind (by kernel_rfl)
  have hca : env.cells.lookup (Str.ofString "ahead") = some ca := by rw [hcs]; rfl
  have hcr : env.cells.lookup (Str.ofString "row") = some cr := by rw [hcs]; rfl
  show TX C d (_ :: _ :: _ :: []) env ((env.locals, _) :: (cr, .cell none) :: (ca, .cell none) :: H) _
  walk_at "xs"
  refine ⟨by decide, fun la => ?_⟩
  (with_reducible refine' ⟨_, Sto.cell ‹_› ‹_› ?hs, ?_⟩; (case hs => walk_at "swap"))
  refine TX.for hk ?_
  walk_at "xs"
  refine ⟨_, _, Iter.list (xs := ws), fun i Hi => ∃ xv al K, Tbl K al (aheadL (rows.take i)) ∧ Hi = (la, .list al) :: (env.locals, .ns (rR (Str.ofString "waits") lw [])) :: (cr, .cell xv) :: (ca, .cell (some (.ref la))) :: (K ++ H), ⟨none, [], [], ⟨rfl, fun j row h => (by cases h)⟩, rfl⟩, ?_, ?_, ?_⟩
  · rintro i Hi ⟨xv, al, K, hA, rfl⟩
    exact .tail (.tail (.tail (.tail (.append_right hlw))))
  · rintro i u Hi hu ⟨xv, al, K, hA, rfl⟩
    obtain ⟨a, row, hrow, rfl, hra⟩ := hT.row hu
    obtain ⟨hr1, hr2⟩ := hr i row hrow
    have hi : i < rows.length := (List.getElem?_eq_some_iff.mp hrow).1
    have hall : al.length = i := by rw [hA.1, aheadL_len, List.length_take]; lia
    have hal2 : (aheadL (rows.take i)).length = i := by rw [aheadL_len, List.length_take]; lia
    (with_reducible refine' ⟨_, Sto.cell ‹_› ‹_› ?hs, ?_⟩; (case hs => walk_at "swap"))
    walk_at "xs"
    refine TE.comp (own := true) (cl := [(Str.ofString "row", cr), (Str.ofString "ahead", ca)]) (closureFor_is (by rw [hcs]; rfl)) (by rfl) (namesB_ok (by kernel_rfl)) (by rfl) (by rfl) ?_
    walk_at "xs"
    refine TCall.lenN (by walk_at "has") hall (by lia) ?_
    walk_at "xs"
    refine TCall.range1 fun r2 => ?_
    obtain ⟨acc, hacc⟩ : ∃ acc, acc = aheadL (rows.take i) := ⟨_, rfl⟩
    rw [← hacc] at hA hal2
    refine CompOk.range (fun H' => Has ca (.cell (some (.ref la))) H' ∧ Has cr (.cell (some (.ref a))) H' ∧ Has la (.list al) H' ∧ Has a (.list (intL row)) H' ∧ Tbl H' al acc) (by lia) .head ⟨by walk_at "has", by walk_at "has", by walk_at "has", .tail (.tail (.tail (.tail (.tail (.append_right hra))))), hA.mono fun a x z => .tail (.tail (.tail (.tail (.tail (.append_left z)))))⟩ (fun k => intL ((numsN k).filter (aheadT acc row))) rfl (fun H' hP cenv Ec k hki => ?_) fun lr => ?_
    · obtain ⟨p1, p2, p3, p4, p5⟩ := hP
      have kk : cenv.kindOf (Str.ofString "k") = some .cell := Ec.own (by rfl)
      have ka : cenv.kindOf (Str.ofString "ahead") = some .cell := Ec.cell (by rfl) hk k_ahead
      have kr : cenv.kindOf (Str.ofString "row") = some .cell := Ec.cell (by rfl) hk k_row
      have kc : cenv.scope.kind = .function := Ec.kind (by rfl)
      obtain ⟨ck, e1⟩ := Ec.cells1 (x := Str.ofString "k") (by rfl)
      have hck : cenv.cells.lookup (Str.ofString "k") = some ck := by rw [e1]; rfl
      have hca' : cenv.cells.lookup (Str.ofString "ahead") = some ca := by rw [e1]; rfl
      have hcr' : cenv.cells.lookup (Str.ofString "row") = some cr := by rw [e1]; rfl
      refine TIfs.one ?_
      unfold compPV
      rw [hck]
      show TB C d _ cenv ((ck, .cell (some (.int (k : Int) 0))) :: (cenv.locals, .ns []) :: H') _
      refine TB.val (aheadT acc row k) ?_ ?_
      · walk_at "xs"
        refine TCmp.inList (.tail (.tail p4)) ?_
        walk_at "xs"
        refine split_bool (fun hb => ?_) (fun hb => ?_)
        · exact ⟨by unfold aheadT; rw [hb]; rfl, sub_refl _⟩
        walk_at "xs"
        refine TE.comp (own := false) (cl := [(Str.ofString "k", ck), (Str.ofString "ahead", ca)]) (closureFor_is (by rw [e1]; rfl)) (by rfl) (namesB_ok (by kernel_rfl)) (by rfl) (by rfl) ?_
        walk_at "xs"
        refine CompOk.ints (fun H' => Has ca (.cell (some (.ref la))) H' ∧ Has ck (.cell (some (.int (k : Int) 0))) H' ∧ Has la (.list al) H' ∧ Tbl H' al acc) (Iter.list (xs := intL row)) (by lia) (.tail (.tail p4)) ⟨.tail (.tail p1), .head, .tail (.tail p3), p5.mono fun a x z => .tail (.tail z)⟩ (fun l => intL (l.filter (behind acc k))) rfl (fun H₂ hP cenv2 Ec2 j m hj hm' ht hmem => ?_) fun lm => ?_
        · obtain ⟨p6, p7, p8, p9⟩ := hP
          obtain ⟨hm0, hm1⟩ := hr2 m hmem
          obtain ⟨b, h1, h2⟩ := p9.getD hm0 (by rw [hal2]; exact hm1)
          have k2 : cenv2.kindOf (Str.ofString "m") = some .local := Ec2.local (by rfl)
          have k3 : cenv2.kindOf (Str.ofString "k") = some .cell := Ec2.cell (by rfl) kc kk
          have k4 : cenv2.kindOf (Str.ofString "ahead") = some .cell := Ec2.cell (by rfl) kc ka
          have k5 : cenv2.scope.kind = .function := Ec2.kind (by rfl)
          have hck2 := Ec2.look0 (x := Str.ofString "k") (a := ck) (by rfl) (by rfl)
          have hca2 := Ec2.look0 (x := Str.ofString "ahead") (a := ca) (by rfl) (by rfl)
          refine TIfs.one ?_
          unfold compPV
          show TB C d _ cenv2 ((_, .ns [(_, some (.int m 0))]) :: H₂) _
          walk_at "xs"
          refine TGet.list (.tail p8) hm0 (by lia) h1 ?_
          refine TCmp.inList (.tail h2) ?_
          walk_at "xs"
          refine split_bool (fun hb => ?_) (fun hb => ?_)
          · walk_at "xs"
            exact ⟨⟨_, sub_refl _⟩, keepI (p := behind acc k) ht hb⟩
          · exact ⟨⟨_, sub_refl _⟩, skipI (p := behind acc k) ht hb⟩
        · walk_at "xs"
          refine ⟨by decide, fun l0 => ?_⟩
          refine TCmp.neNil (.tail .head) .head ?_
          walk_at "xs"
          refine ⟨?_, .cons _ (.cons _ (sub_refl _))⟩
          unfold aheadT
          rw [hb, Bool.false_or, isEmpty_filter]
      · refine split_bool (fun hb => ?_) (fun hb => ?_)
        · walk_at "xs"
          exact ⟨⟨_, sub_refl _⟩, keepI (p := aheadT acc row) (numsN_succ k) hb⟩
        · exact ⟨⟨_, sub_refl _⟩, skipI (p := aheadT acc row) (numsN_succ k) hb⟩
    walk_at "xs"
    refine TCall.append (by walk_at "swap") (by rw [hall]; exact hsz _ (by lia)) ⟨by simp, ?_⟩
    refine TX.perm ((List.Perm.swap _ _ _).trans (List.Perm.cons _ (List.perm_middle (l₁ := [_, _, _, _])).symm)) (TX.drop1 (TX.nil ?_))
    refine ⟨some (.ref a), al ++ [.ref lr], (lr, .list (intL (aheadRow acc row))) :: K, ?_, ?_⟩
    · rw [List.take_add_one, hrow]
      show Tbl _ _ (aheadL (rows.take i ++ [row]))
      rw [aheadL_snoc, ← hacc]
      exact hA.snoc
    · unfold aheadRow
      rw [hal2]
      rfl
  · rintro Hn ⟨xv, al, K, hA, rfl⟩
    rw [hT.1, List.take_length] at hA
    walk_at "xs"
    exact ⟨_, .cons_cons _ (.cons _ (.cons _ (.cons _ (sub_refl _)))), h la al K hA⟩
noncomputable def fdFound : FuncData := fdOf (stmtAt pw_op0195_01 17) "_law_found" 187 .none (.str "law_op0195_01" 425)
noncomputable def fdMended : FuncData := fdOf (stmtAt pw_op0195_01 18) "_law_mended" 194 .none (.str "law_op0195_01" 425)
/-- the list of the choices: with each closer its openers -/
structure ChOk (R : SH) (lc : Addr) (cs : List Value) (ch : Int → List Int) (m : Nat) : Prop where
  at' : Has lc (.list cs) R
  row : ∀ c : Int, 0 ≤ c → c < m → ∃ b, cs[c.toNat]? = some (.ref b) ∧ Has b (.list (intL (ch c))) R
/-- what holds of the book and of those asked -/
structure BookOk (O : List Int) (m : Nat) (M : List (Int × Int)) (A : List Int) : Prop where
  nd : (M.map (·.1)).Nodup
  sub : ∀ o ∈ M.map (·.1), o ∈ O
  img : ∀ o x, bkAt M o = some x → 0 ≤ x ∧ x < (m : Int)
  nd2 : A.Nodup
  sub2 : ∀ o ∈ A, o ∈ O
theorem BookOk.found {ch : Int → List Int} {O : List Int} (hO : ∀ c, ∀ o ∈ ch c, o ∈ O) {m n : Nat} {M : List (Int × Int)} {A : List Int} {c : Int} (B : BookOk O m M A) (hn : un O A < n) (hc : 0 ≤ c ∧ c < (m : Int)) (hm : ∀ x, ∀ o ∈ ch x, 0 ≤ x ∧ x < (m : Int)) : BookOk O m (found ch n M c A).2.1 (found ch n M c A).2.2 := by
  have F := found_ok ch O hO n M c A hn
  exact ⟨F.keys B.nd, F.keysU (· ∈ O) B.sub (hO c) hO, F.edge (fun o x => 0 ≤ x ∧ x < (m : Int)) B.img (fun o _ => hc) (fun x o ho => hm x o ho), F.nd B.nd2, F.low (· ∈ O) B.sub2 (hO c) hO⟩
theorem bkV_len (M : List (Int × Int)) : (bkV M).length = M.length := by simp [bkV]
theorem BookOk.len {O : List Int} {m : Nat} {M : List (Int × Int)} {A : List Int} (B : BookOk O m M A) : M.length ≤ O.length ∧ A.length ≤ O.length := by
  have h := len_sub B.nd B.sub
  rw [List.length_map] at h
  exact ⟨h, len_sub B.nd2 B.sub2⟩
set_option maxHeartbeats 4000000 in
theorem cFound {C : Cx} (F : Fn C 188 fdFound) (Lm : Lim C) (Sy : SysOk C) (nf : Nm C "_law_found" (.ref 188)) (ch : Int → List Int) (O : List Int) (hO : ∀ c, ∀ o ∈ ch c, o ∈ O) (m : Nat) (hm8 : m ≤ 1000) (hm : ∀ x, ∀ o ∈ ch x, 0 ≤ x ∧ x < (m : Int)) (hO8 : O.length ≤ 100) (hch : ∀ c, (ch c).length ≤ 100) {dp la lc : Addr} {cs : List Value} {d : Nat} : ∀ (n : Nat) (R : SH) (hR : ChOk R lc cs ch m) (M : List (Int × Int)) (A : List Int) (c : Int) (ep : Nat) (Q : Value → SH → Prop) (hn : un O A < n) (hc : 0 ≤ c ∧ c < (m : Int)) (B : BookOk O m M A)
    (h : ∀ ep', Q (.bool (found ch n M c A).1) ((dp, dO C (bkV (found ch n M c A).2.1) ep') :: (la, .list (intL (found ch n M c A).2.2)) :: R)),
    TCall C (d + n) (.ref 188) [.ref dp, .int c 0, .ref lc, .ref la] ((dp, dO C (bkV M) ep) :: (la, .list (intL A)) :: R) Q := by
  have hsz : ∀ n : Nat, n ≤ 1000 → n ≤ sizeLine := fun n hn => Nat.le_trans hn (sz rfl)
  intro n
  induction n with
  | zero => intro R hR M A c ep Q hn; exact absurd hn (Nat.not_lt_zero _)
  | succ n ih =>
  intro R hR M0 A0 c ep0 Q hn hc B0 h
  refine TCall.def4 (d := d + n) F Lm (body := bodyOf (stmtAt pw_op0195_01 17)) (by kernel_rfl) (by kernel_rfl) (by decide +kernel) (p := Str.ofString "pairs") (q := Str.ofString "closer") (r := Str.ofString "choices") (t := Str.ofString "asked") (by intro x y z u; kernel_rfl) ⟨.inl (by kernel_rfl), .inl (by kernel_rfl), .inl (by kernel_rfl), .inl (by kernel_rfl)⟩ ?_
  refine FnBody.flat (m := (rR (Str.ofString "pairs") dp (rI (Str.ofString "closer") c (rR (Str.ofString "choices") lc (rR (Str.ofString "asked") la (rV (Str.ofString "opener") none [])))))) (by kernel_rfl) (by kernel_rfl) (by kernel_rfl) fun env E hk => ?_
  have hm' : InMain env := ⟨E.globals, E.builtins⟩
  have k_pairs : env.kindOf (Str.ofString "pairs") = some NameKind.local := E.kind (by kernel_rfl)
  have k_closer : env.kindOf (Str.ofString "closer") = some NameKind.local := E.kind (by kernel_rfl)
  have k_choices : env.kindOf (Str.ofString "choices") = some NameKind.local := E.kind (by kernel_rfl)
  have k_asked : env.kindOf (Str.ofString "asked") = some NameKind.local := E.kind (by kernel_rfl)
  have k_opener : env.kindOf (Str.ofString "opener") = some NameKind.local := E.kind (by kernel_rfl)
  have k_UlawUfound : env.kindOf (Str.ofString "_law_found") = some NameKind.globalImplicit := E.kind (by kernel_rfl)
  show TX C (d + n) (_ :: _ :: []) env ((env.locals, _) :: (dp, _) :: (la, _) :: R) _
  obtain ⟨b, hb1, hb2⟩ := hR.row c hc.1 hc.2
  refine TX.for hk ?_
  walk_at "xs"
  refine TGet.list (.tail (.tail (.tail hR.at'))) hc.1 (by lia) hb1 ?_
  refine ⟨_, _, Iter.list (xs := intL (ch c)), fun i Hi => ∃ M A ep ov, found ch (n + 1) M0 c A0 = foundL (found ch n) c ((ch c).drop i) M A ∧ BookOk O m M A ∧ un O A ≤ n ∧ Hi = (env.locals, .ns (rR (Str.ofString "pairs") dp (rI (Str.ofString "closer") c (rR (Str.ofString "choices") lc (rR (Str.ofString "asked") la (rV (Str.ofString "opener") ov [])))))) :: (dp, dO C (bkV M) ep) :: (la, .list (intL A)) :: R, ⟨M0, A0, ep0, none, rfl, B0, by lia, rfl⟩, ?_, ?_, ?_⟩
  · rintro i Hi ⟨M, A, ep, ov, _, _, _, rfl⟩
    exact .tail (.tail (.tail hb2))
  · rintro i u Hi hu ⟨M, A, ep, ov, hf, B, hun, rfl⟩
    obtain ⟨o, ho, rfl, hi, ht, hmem⟩ := intL_item hu
    have hoO := hO c o hmem
    obtain ⟨bl1, bl2⟩ := B.len
    have hdrop : (ch c).drop i = o :: (ch c).drop (i + 1) := by rw [List.drop_eq_getElem_cons (List.getElem?_eq_some_iff.mp ho).1]; congr 1; exact (List.getElem?_eq_some_iff.mp ho).2
    rw [hdrop] at hf
    unfold foundL at hf
    walk_at "sto"
    walk_at "xs"
    refine TCmp.notInList (by walk_at "has") ?_
    walk_at "xs"
    refine split_bool (fun hb => ?_) (fun hb => ?_)
    · have hb : o ∉ A := by simpa using hb
      rw [if_neg hb] at hf
      have hul := un_lt hoO hb
      have B1 : BookOk O m M (A ++ [o]) := ⟨B.nd, B.sub, B.img, by rw [List.nodup_append]; exact ⟨B.nd2, by simp, fun a ha b hb' e => hb (by rw [List.mem_singleton] at hb'; rw [← hb', ← e]; exact ha)⟩, fun x hx => by rcases List.mem_append.mp hx with hx | hx; exact B.sub2 x hx; rw [List.mem_singleton] at hx; rw [hx]; exact hoO⟩
      walk_at "xs"
      refine TCall.appendI (by walk_at "swap") (by lia) ⟨by simp, ?_⟩
      walk_at "xs"
      refine TCmp.notInDict Sy (by walk_at "has") ?_
      walk_at "xs"
      rw [bkV_at]
      cases hbk : bkAt M o with
      | none =>
        rw [hbk] at hf
        refine split_bool (fun _ => ?_) (fun h => by cases h)
        rw [if_pos rfl]
        walk_at "xs"
        refine TSetI.dict (kvs := bkV M) (ep := ep) (fun ep' => by walk_at "swap") (hsz _ (by rw [bkV_len]; lia)) fun ep' => ?_
        rw [bkV_put]
        walk_at "xs"
        have := h ep'
        rw [hf] at this
        exact ⟨_, List.sublist_cons_self _ _, this⟩
      | some c' =>
        rw [hbk] at hf
        dsimp only at hf
        refine split_bool (fun h => by cases h) (fun _ => ?_)
        have hc' := B.img o c' hbk
        walk_at "xs"
        refine TGet.dict (v := .int c' 0) (by walk_at "has") (by rw [bkV_at, hbk]; rfl) ?_
        walk_at "xs"
        refine F.go (TCall.perm (List.perm_middle (l₁ := [_, _])).symm (TCall.postPerm (ih (_ :: R) ⟨.tail hR.at', fun c h1 h2 => (hR.row c h1 h2).elim fun b z => ⟨b, z.1, .tail z.2⟩⟩ M (A ++ [o]) c' ep _ (by lia) hc' B1 fun ep' => ⟨_, List.perm_middle (l₁ := [_, _]), ?_⟩)))
        have B2 := B1.found hO (n := n) (by lia) hc' hm
        have hun2 := un_mono (O := O) (found_ok ch O hO n M c' (A ++ [o]) (by lia)).sub
        obtain ⟨fr, hfr⟩ : ∃ fr, fr = found ch n M c' (A ++ [o]) := ⟨_, rfl⟩
        rw [← hfr] at hf B2 hun2 ⊢
        obtain ⟨bk, M', A'⟩ := fr
        dsimp only at hf B2 hun2 ⊢
        obtain ⟨bl3, bl4⟩ := B2.len
        walk_at "xs"
        cases bk with
        | true =>
          refine split_bool (fun _ => ?_) (fun h => by cases h)
          walk_at "xs"
          refine TSetI.dict (kvs := bkV M') (ep := ep') (fun ep' => by walk_at "swap") (hsz _ (by rw [bkV_len]; lia)) fun ep' => ?_
          rw [bkV_put]
          walk_at "xs"
          have := h ep'
          rw [hf] at this
          exact ⟨_, List.sublist_cons_self _ _, this⟩
        | false =>
          refine split_bool (fun h => by cases h) (fun _ => ?_)
          walk_at "xs"
          exact ⟨M', A', ep', _, hf, B2, by lia, rfl⟩
    · have hb : o ∈ A := by simpa using hb
      rw [if_pos hb] at hf
      walk_at "xs"
      exact ⟨M, A, ep, _, hf, B, hun, rfl⟩
  · rintro Hn ⟨M, A, ep, ov, hf, B, hun, rfl⟩
    rw [intL_length, List.drop_length] at hf
    walk_at "xs"
    refine ⟨_, List.sublist_cons_self _ _, ?_⟩
    have := h ep
    rw [hf] at this
    exact this
theorem cMended {C : Cx} (F : Fn C 188 fdFound) (F2 : Fn C 195 fdMended) (Lm : Lim C) (Sy : SysOk C) (nf : Nm C "_law_found" (.ref 188)) (ch : Int → List Int) (O : List Int) (hO : ∀ c, ∀ o ∈ ch c, o ∈ O) (m : Nat) (hm8 : m ≤ 1000) (hm : ∀ x, ∀ o ∈ ch x, 0 ≤ x ∧ x < (m : Int)) (hO8 : O.length ≤ 100) (hch : ∀ c, (ch c).length ≤ 100) {dp lc : Addr} {cs : List Value} {d n : Nat} {R : SH} (hR : ChOk R lc cs ch m) {M : List (Int × Int)} {c : Int} {ep : Nat} {Q : Value → SH → Prop} (hn : O.length < n) (hc : 0 ≤ c ∧ c < (m : Int)) (B : BookOk O m M [])
    (h : ∀ ep', Q (.ref dp) ((dp, dO C (bkV (found ch n M c []).2.1) ep') :: R)) :
    TCall C (d + n + 1) (.ref 195) [.ref dp, .int c 0, .ref lc] ((dp, dO C (bkV M) ep) :: R) Q := by
  refine TCall.def3 (d := d + n) F2 Lm (body := bodyOf (stmtAt pw_op0195_01 18)) (by kernel_rfl) (by kernel_rfl) (by decide +kernel) (p := Str.ofString "pairs") (q := Str.ofString "closer") (r := Str.ofString "choices") (by intro x y z; kernel_rfl) ⟨.inl (by kernel_rfl), .inl (by kernel_rfl), .inl (by kernel_rfl)⟩ ?_
  refine FnBody.flat (m := (rR (Str.ofString "pairs") dp (rI (Str.ofString "closer") c (rR (Str.ofString "choices") lc [])))) (by kernel_rfl) (by kernel_rfl) (by kernel_rfl) fun env E hk => ?_
  have hm' : InMain env := ⟨E.globals, E.builtins⟩
  have k_pairs : env.kindOf (Str.ofString "pairs") = some NameKind.local := E.kind (by kernel_rfl)
  have k_closer : env.kindOf (Str.ofString "closer") = some NameKind.local := E.kind (by kernel_rfl)
  have k_choices : env.kindOf (Str.ofString "choices") = some NameKind.local := E.kind (by kernel_rfl)
  have k_UlawUfound : env.kindOf (Str.ofString "_law_found") = some NameKind.globalImplicit := E.kind (by kernel_rfl)
  show TX C (d + n) (_ :: _ :: []) env ((env.locals, _) :: (dp, _) :: R) _
  walk_at "xs"
  refine ⟨by decide, fun la => ?_⟩
  walk_at "xs"
  refine F.go (TCall.perm ((List.Perm.swap _ _ _).trans ((List.perm_middle (l₁ := [_, _])).symm.trans (.swap _ _ _))) ?_)
  refine cFound F Lm Sy nf ch O hO m hm8 hm hO8 hch n (_ :: R) ⟨.tail hR.at', fun c h1 h2 => (hR.row c h1 h2).elim fun b z => ⟨b, z.1, .tail z.2⟩⟩ M [] c ep _ (Nat.lt_of_le_of_lt (List.length_filter_le _ _) hn) hc B fun ep' => ⟨by simp, ?_⟩
  walk_at "xs"
  exact ⟨_, .cons_cons _ (.cons _ (.cons _ (sub_refl _))), h ep'⟩
noncomputable def fdFront : FuncData := fdOf (stmtAt pw_op0195_01 19) "_law_front" 199 .none (.str "law_op0195_01" 425)
noncomputable def frontT (ah : List (List Int)) (R : List Int) (x : Int) : Bool := decide (x ∈ R) || R.any (behind ah x)
set_option maxHeartbeats 4000000 in
theorem cFront {C : Cx} {d : Nat} {H : SH} {Q : Value → SH → Prop} (F : Fn C 200 fdFront) (Lm : Lim C) (Sy : SysOk C) (nl : Nm C "len" (.builtin "len")) (nr : Nm C "range" (.type "range")) (nli : Nm C "list" (.type "list"))
    {ch : Int → List Int} {O cls alone : List Int} {M : List (Int × Int)} {Z : Int → Prop} {m : Nat} (hm8 : m ≤ 100) (Sg : Stage ch O cls M) (hZ : Closed ch M Z) (nd : ∀ c, (ch c).Nodup) (hch : ∀ c, (ch c).length ≤ 100) (hcls : cls.length ≤ 100) (hcm : ∀ c ∈ cls, 0 ≤ c ∧ c < (m : Int)) (R0 : Reach ch M cls alone Z alone 0)
    {lal dp lc lh : Addr} {cs hs : List Value} {ah : List (List Int)} {ep : Nat} (hal : Has lal (.list (intL alone)) H) (hdp : Has dp (dO C (bkV M) ep) H) (hR : ChOk H lc cs ch m) (hlh : Has lh (.list hs) H) (hT : Tbl H hs ah) (ham : ah.length = m)
    (h : ∀ R, Reach ch M cls alone Z R R.length → ∀ fr, fr = (numsN m).filter (frontT ah R) → ∀ l, Q (.ref l) ((l, .list (intL fr)) :: H)) :
    TCall C (d + 1) (.ref 200) [.ref lal, .ref dp, .ref lc, .ref lh] H Q := by
  have hsz : ∀ n : Nat, n ≤ 1000 → n ≤ sizeLine := fun n hn => Nat.le_trans hn (sz rfl)
  refine TCall.def4 F Lm (body := bodyOf (stmtAt pw_op0195_01 19)) (by kernel_rfl) (by kernel_rfl) (by decide +kernel) (p := Str.ofString "alone") (q := Str.ofString "pairs") (r := Str.ofString "choices") (t := Str.ofString "ahead") (by intro x y z u; kernel_rfl) ⟨.inl (by kernel_rfl), .inr (by kernel_rfl), .inl (by kernel_rfl), .inr (by kernel_rfl)⟩ ?_
  refine FnBody.cellsL [(Str.ofString "reached", none), (Str.ofString "ahead", some (.ref lh)), (Str.ofString "pairs", some (.ref dp))] (m := (rR (Str.ofString "alone") lal (rR (Str.ofString "choices") lc (rV (Str.ofString "place") none [])))) (by kernel_rfl) (by kernel_rfl) (by kernel_rfl) (by kernel_rfl) fun env as hal' E hk hcs => ?_
  obtain ⟨cr, ca, cp, rfl⟩ := len3 hal'
  have hm : InMain env := ⟨E.globals, E.builtins⟩
  have k_alone : env.kindOf (Str.ofString "alone") = some NameKind.local := E.kind (by kernel_rfl)
  have k_pairs : env.kindOf (Str.ofString "pairs") = some NameKind.cell := E.kind (by kernel_rfl)
  have k_choices : env.kindOf (Str.ofString "choices") = some NameKind.local := E.kind (by kernel_rfl)
  have k_ahead : env.kindOf (Str.ofString "ahead") = some NameKind.cell := E.kind (by kernel_rfl)
  have k_reached : env.kindOf (Str.ofString "reached") = some NameKind.cell := E.kind (by kernel_rfl)
  have k_place : env.kindOf (Str.ofString "place") = some NameKind.local := E.kind (by kernel_rfl)
  have k_list : env.kindOf (Str.ofString "list") = some NameKind.globalImplicit := E.kind (by kernel_rfl)
  have k_len : env.kindOf (Str.ofString "len") = some NameKind.globalImplicit := E.kind (by kernel_rfl)
  have k_range : env.kindOf (Str.ofString "range") = some NameKind.globalImplicit := E.kind (by kernel_rfl)
  have hcr : env.cells.lookup (Str.ofString "reached") = some cr := by rw [hcs]; rfl
  have hca : env.cells.lookup (Str.ofString "ahead") = some ca := by rw [hcs]; rfl
  have hcp : env.cells.lookup (Str.ofString "pairs") = some cp := by rw [hcs]; rfl
  have hRl : ∀ {R p}, Reach ch M cls alone Z R p → R.length ≤ cls.length := fun r => len_sub r.nd r.sub
  have hal1 := hRl R0
  show TX C d (_ :: _ :: _ :: _ :: []) env ((env.locals, _) :: (cr, .cell none) :: (ca, .cell (some (.ref lh))) :: (cp, .cell (some (.ref dp))) :: H) _
  walk_at "xs"
  refine TCall.listOf (.tail (.tail (.tail (.tail hal)))) (by rw [intL_length]; exact hsz _ (by lia)) fun lr => ?_
  (with_reducible refine' ⟨_, Sto.cell ‹_› ‹_› ?hs, ?_⟩; (case hs => walk_at "swap"))
  walk_at "xs"
  refine TX.while ?_
  refine TC.whileInd (σ := List Int × Nat) (fun x => cls.length - x.2) (fun x H' => Reach ch M cls alone Z x.1 x.2 ∧ x.2 ≤ x.1.length ∧ H' = (lr, .list (intL x.1)) :: (env.locals, .ns (rR (Str.ofString "alone") lal (rR (Str.ofString "choices") lc (rI (Str.ofString "place") (x.2 : Int) [])))) :: (cr, .cell (some (.ref lr))) :: (ca, .cell (some (.ref lh))) :: (cp, .cell (some (.ref dp))) :: H) ?_ (alone, 0) _ ⟨R0, Nat.zero_le _, rfl⟩
  rintro ⟨R, p⟩ ih _ ⟨hRe, hp, rfl⟩
  dsimp only at hRe hp ⊢
  have hRl1 := hRl hRe
  refine TC.whileStep ?_
  walk_at "xs"
  refine TCall.lenI (by walk_at "has") (by lia) ?_
  walk_at "xs"
  refine split_bool (fun hb => ?_) (fun hb => ?_)
  · have hb := of_decide_eq_true hb
    have hpl : p < R.length := by lia
    obtain ⟨r, hr⟩ : ∃ r, R[p]? = some r := ⟨_, List.getElem?_eq_getElem hpl⟩
    have hrR : r ∈ R := List.mem_of_getElem? hr
    have hrc := hcm r (hRe.sub r hrR)
    obtain ⟨b, hb1, hb2⟩ := hR.row r hrc.1 hrc.2
    walk_at "xs"
    refine TM.list (by walk_at "has") PySem.F.slot_list_extend PySem.F.type_list_extend ?_
    walk_at "xs"
    refine TE.comp (own := false) (cl := [(Str.ofString "reached", cr), (Str.ofString "pairs", cp)]) (closureFor_is (by rw [hcs]; rfl)) (by rfl) (namesB_ok (by kernel_rfl)) (by rfl) (by rfl) ?_
    walk_at "xs"
    refine TGet.list (u := .int r 0) .head (by lia) (by lia) (by rw [show (p : Int).toNat = p from rfl]; unfold intL; rw [List.getElem?_map, hr]; rfl) ?_
    refine TGet.list (.tail (.tail (.tail (.tail (.tail hR.at'))))) hrc.1 (by lia) hb1 ?_
    refine CompOk.ints (fun H' => Has cr (.cell (some (.ref lr))) H' ∧ Has cp (.cell (some (.ref dp))) H' ∧ Has lr (.list (intL R)) H' ∧ Has dp (dO C (bkV M) ep) H') (Iter.list (xs := intL (ch r))) (Nat.le_trans (hch r) (by decide)) (.tail (.tail (.tail (.tail (.tail hb2))))) ⟨by walk_at "has", by walk_at "has", .head, .tail (.tail (.tail (.tail (.tail hdp))))⟩ (fun l => intL ((l.map (partner M)).filter fun x => decide (x ∉ R))) rfl (fun H' hP cenv Ec k o hi ho ht hmem => ?_) fun lk => ?_
    · obtain ⟨p1, p2, p3, p4⟩ := hP
      obtain ⟨c, hbk, -⟩ := hZ o (hRe.zz r hrR o hmem)
      have hpo : partner M o = c := by unfold partner; rw [hbk]; rfl
      have ko : cenv.kindOf (Str.ofString "opener") = some .local := Ec.local (by rfl)
      have kp : cenv.kindOf (Str.ofString "pairs") = some .cell := Ec.cell (by rfl) hk k_pairs
      have kr : cenv.kindOf (Str.ofString "reached") = some .cell := Ec.cell (by rfl) hk k_reached
      have kc : cenv.scope.kind = .function := Ec.kind (by rfl)
      have hcp' := Ec.look0 (x := Str.ofString "pairs") (a := cp) (by rfl) (by rfl)
      have hcr' := Ec.look0 (x := Str.ofString "reached") (a := cr) (by rfl) (by rfl)
      refine TIfs.one ?_
      unfold compPV
      show TB C d _ cenv ((_, .ns [(_, some (.int o 0))]) :: H') _
      walk_at "xs"
      refine TGet.dict (v := .int c 0) (.tail p4) (by rw [bkV_at, hbk]; rfl) ?_
      walk_at "xs"
      refine TCmp.notInList (.tail p3) ?_
      walk_at "xs"
      refine split_bool (fun hb => ?_) (fun hb => ?_)
      · walk_at "xs"
        refine TGet.dict (v := .int c 0) (.tail p4) (by rw [bkV_at, hbk]; rfl) ?_
        exact ⟨⟨_, sub_refl _⟩, keepM (f := partner M) (p := fun x => decide (x ∉ R)) ht hpo (not_yes hb)⟩
      · exact ⟨⟨_, sub_refl _⟩, skipM (f := partner M) (p := fun x => decide (x ∉ R)) ht hpo (not_no hb)⟩
    · have hst := hRe.step Sg hZ hr (nd r)
      have hst1 := hRl hst
      walk_at "xs"
      refine TCall.extendI .head (by walk_at "swap") (by rw [← List.length_append]; lia) ⟨by simp, ?_⟩
      refine TX.drop1 ?_
      walk_at "xs"
      refine ih (_, p + 1) _ ?_ ⟨hst, ?_, rfl⟩
      · show cls.length - (p + 1) < cls.length - p
        lia
      · show p + 1 ≤ _
        rw [List.length_append]
        lia
  · have hb := of_decide_eq_false hb
    have : p = R.length := by lia
    subst this
    walk_at "xs"
    refine TE.comp (own := true) (cl := [(Str.ofString "reached", cr), (Str.ofString "ahead", ca)]) (closureFor_is (by rw [hcs]; rfl)) (by rfl) (namesB_ok (by kernel_rfl)) (by rfl) (by rfl) ?_
    walk_at "xs"
    have hhl : hs.length = m := by rw [hT.1, ham]
    refine TCall.lenN (.tail (.tail (.tail (.tail (.tail hlh))))) hhl (by lia) ?_
    walk_at "xs"
    refine TCall.range1 fun r2 => ?_
    refine CompOk.range (fun H' => Has ca (.cell (some (.ref lh))) H' ∧ Has cr (.cell (some (.ref lr))) H' ∧ Has lh (.list hs) H' ∧ Has lr (.list (intL R)) H' ∧ Tbl H' hs ah) (by lia) .head ⟨by walk_at "has", by walk_at "has", .tail (.tail (.tail (.tail (.tail (.tail hlh))))), by walk_at "has", hT.mono fun a x z => .tail (.tail (.tail (.tail (.tail (.tail z)))))⟩ (fun k => intL ((numsN k).filter (frontT ah R))) rfl (fun H' hP cenv Ec k hki => ?_) fun lres => ?_
    · obtain ⟨p1, p2, p3, p4, p5⟩ := hP
      have kk : cenv.kindOf (Str.ofString "node") = some .cell := Ec.own (by rfl)
      have ka : cenv.kindOf (Str.ofString "ahead") = some .cell := Ec.cell (by rfl) hk k_ahead
      have kr : cenv.kindOf (Str.ofString "reached") = some .cell := Ec.cell (by rfl) hk k_reached
      have kc : cenv.scope.kind = .function := Ec.kind (by rfl)
      obtain ⟨ck, e1⟩ := Ec.cells1 (x := Str.ofString "node") (by rfl)
      have hck : cenv.cells.lookup (Str.ofString "node") = some ck := by rw [e1]; rfl
      have hca' : cenv.cells.lookup (Str.ofString "ahead") = some ca := by rw [e1]; rfl
      have hcr' : cenv.cells.lookup (Str.ofString "reached") = some cr := by rw [e1]; rfl
      refine TIfs.one ?_
      unfold compPV
      rw [hck]
      show TB C d _ cenv ((ck, .cell (some (.int (k : Int) 0))) :: (cenv.locals, .ns []) :: H') _
      refine TB.val (frontT ah R k) ?_ ?_
      · walk_at "xs"
        refine TCmp.inList (.tail (.tail p4)) ?_
        walk_at "xs"
        refine split_bool (fun hb => ?_) (fun hb => ?_)
        · exact ⟨by unfold frontT; rw [hb]; rfl, sub_refl _⟩
        walk_at "xs"
        refine TE.comp (own := false) (cl := [(Str.ofString "node", ck), (Str.ofString "ahead", ca)]) (closureFor_is (by rw [e1]; rfl)) (by rfl) (namesB_ok (by kernel_rfl)) (by rfl) (by rfl) ?_
        walk_at "xs"
        refine CompOk.ints (fun H' => Has ca (.cell (some (.ref lh))) H' ∧ Has ck (.cell (some (.int (k : Int) 0))) H' ∧ Has lh (.list hs) H' ∧ Tbl H' hs ah) (Iter.list (xs := intL R)) (by lia) (.tail (.tail p4)) ⟨.tail (.tail p1), .head, .tail (.tail p3), p5.mono fun a x z => .tail (.tail z)⟩ (fun l => intL (l.filter (behind ah k))) rfl (fun H₂ hP cenv2 Ec2 j x hj hm' ht hmem => ?_) fun lm => ?_
        · obtain ⟨p6, p7, p8, p9⟩ := hP
          obtain ⟨hm0, hm1⟩ := hcm x (hRe.sub x hmem)
          obtain ⟨b, h1, h2⟩ := p9.getD hm0 (by rw [ham]; exact hm1)
          have k2 : cenv2.kindOf (Str.ofString "k") = some .local := Ec2.local (by rfl)
          have k3 : cenv2.kindOf (Str.ofString "node") = some .cell := Ec2.cell (by rfl) kc kk
          have k4 : cenv2.kindOf (Str.ofString "ahead") = some .cell := Ec2.cell (by rfl) kc ka
          have k5 : cenv2.scope.kind = .function := Ec2.kind (by rfl)
          have hck2 := Ec2.look0 (x := Str.ofString "node") (a := ck) (by rfl) (by rfl)
          have hca2 := Ec2.look0 (x := Str.ofString "ahead") (a := ca) (by rfl) (by rfl)
          refine TIfs.one ?_
          unfold compPV
          show TB C d _ cenv2 ((_, .ns [(_, some (.int x 0))]) :: H₂) _
          walk_at "xs"
          refine TGet.list (.tail p8) hm0 (by lia) h1 ?_
          refine TCmp.inList (.tail h2) ?_
          walk_at "xs"
          refine split_bool (fun hb => ?_) (fun hb => ?_)
          · walk_at "xs"
            exact ⟨⟨_, sub_refl _⟩, keepI (p := behind ah k) ht hb⟩
          · exact ⟨⟨_, sub_refl _⟩, skipI (p := behind ah k) ht hb⟩
        · walk_at "xs"
          refine ⟨by decide, fun l0 => ?_⟩
          refine TCmp.neNil (.tail .head) .head ?_
          walk_at "xs"
          refine ⟨?_, .cons _ (.cons _ (sub_refl _))⟩
          unfold frontT
          rw [hb, Bool.false_or, isEmpty_filter]
      · refine split_bool (fun hb => ?_) (fun hb => ?_)
        · walk_at "xs"
          exact ⟨⟨_, sub_refl _⟩, keepI (p := frontT ah R) (numsN_succ k) hb⟩
        · exact ⟨⟨_, sub_refl _⟩, skipI (p := frontT ah R) (numsN_succ k) hb⟩
    exact ⟨_, .cons_cons _ (.cons _ (.cons _ (.cons _ (.cons _ (.cons _ (.cons _ (sub_refl _))))))), h R hRe _ rfl lres⟩
set_option maxHeartbeats 4000000 in
theorem bindReduce3 {C : Cx} {d : Nat} {H : SH} (G : Top C) (x y z : Value) {Q : List (Str × Value) → SH → Prop} (h : Q [(Str.ofString "function", x), (Str.ofString "sequence", y), (Str.ofString "initial", z)] H) : T C d (bindArgs fdReduce ⟨[x, y, z], []⟩) H Q := fun Φ A s b I => by
  have ho := I.keep _ _ G.o44 (G.tabs _ (by decide))
  obtain ⟨hh, g, dr, t, os⟩ := s
  unfold bindArgs
  repeat (first | (with_reducible refine wpAny_loadPart_at ho ?_) | wp_step | dsimp only)
  refine ⟨H, I, ?_⟩
  have e : ∀ L, L = [(Str.ofString "function", x), (Str.ofString "sequence", y), (Str.ofString "initial", z)] → Q L H := fun L e => by rw [e]; exact h
  exact e _ (by kernel_rfl)
set_option maxHeartbeats 4000000 in
/-- reduce over a list from an object of its own -/
theorem cReduce3 {C : Cx} {d : Nat} {H : SH} {Q : Value → SH → Prop} (G : Top C) {f l b : Addr} {X : AObj} {xs : List Value} (hx : Has b X H) (hX : ∀ s : Shared, ∀ o, Rep s b X → s.heap.get? b = some o → o.cls ≠ .type "tuple") (J : Nat → Value → SH → Prop) (JK : ∀ i v Hi, J i v Hi → Has l (.list xs) Hi) (h0 : J 0 (.ref b) H)
    (hf : ∀ i v Hi, J i v Hi → KeepOk C (.ref f) Hi) (step : ∀ i u v Hi, xs[i]? = some u → J i v Hi → TCall C d (.ref f) [v, u] Hi fun w Hi' => J (i + 1) w Hi')
    (fin : ∀ v Hn, J xs.length v Hn → Q v Hn) : TCall C (d + 1) (.ref 51) [.ref f, .ref l, .ref b] H Q := by
  have Lm := G.lm
  refine TCall.def G.fReduce Lm (body := bodyOf (stmtAt pw_op0195_01 7)) (by kernel_rfl) (by kernel_rfl) (by decide +kernel) fun ws ew => ?_
  obtain ⟨x, y, z, rfl, ex, ey, ez⟩ := args3 ew
  refine bindReduce3 G x y z ⟨fun z hz => ?_, ?_⟩
  · simp at hz; rcases hz with rfl | rfl | rfl <;> exact .inl (by kernel_rfl)
  rw [show erB [(Str.ofString "function", x), (Str.ofString "sequence", y), (Str.ofString "initial", z)] = [(Str.ofString "function", .ref f), (Str.ofString "sequence", .ref l), (Str.ofString "initial", .ref b)] by simp only [erB, List.map, ex, ey, ez]]
  refine FnBody.flat (m := (rR (Str.ofString "function") f (rR (Str.ofString "sequence") l (rR (Str.ofString "initial") b (rV (Str.ofString "it") none (rV (Str.ofString "value") none (rV (Str.ofString "element") none []))))))) (by kernel_rfl) (by kernel_rfl) (by kernel_rfl) fun env E hk => ?_
  have hm : InMain env := ⟨E.globals, E.builtins⟩
  have k_function : env.kindOf (Str.ofString "function") = some NameKind.local := E.kind (by kernel_rfl)
  have k_sequence : env.kindOf (Str.ofString "sequence") = some NameKind.local := E.kind (by kernel_rfl)
  have k_initial : env.kindOf (Str.ofString "initial") = some NameKind.local := E.kind (by kernel_rfl)
  have k_it : env.kindOf (Str.ofString "it") = some NameKind.local := E.kind (by kernel_rfl)
  have k_value : env.kindOf (Str.ofString "value") = some NameKind.local := E.kind (by kernel_rfl)
  have k_element : env.kindOf (Str.ofString "element") = some NameKind.local := E.kind (by kernel_rfl)
  have k_iter : env.kindOf (Str.ofString "iter") = some NameKind.globalImplicit := E.kind (by kernel_rfl)
  have k_UinitialUmissing : env.kindOf (Str.ofString "_initial_missing") = some NameKind.globalImplicit := E.kind (by kernel_rfl)
  have k_next : env.kindOf (Str.ofString "next") = some NameKind.globalImplicit := E.kind (by kernel_rfl)
  have k_StopIteration : env.kindOf (Str.ofString "StopIteration") = some NameKind.globalImplicit := E.kind (by kernel_rfl)
  have k_TypeError : env.kindOf (Str.ofString "TypeError") = some NameKind.globalImplicit := E.kind (by kernel_rfl)
  have n1 := G.n_iter
  have n2 := G.n_missing
  have n3 := G.n_next
  have hl := JK _ _ _ h0
  show TX C d (_ :: _ :: _ :: _ :: []) env _ _
  walk_at "xs"
  refine TCall.iter (Has.tail hl) fun it => ?_
  walk_at "xs"
  refine TCmp.isOther (Has.tail (Has.tail hx)) hX G.o43 (G.tabs _ (by decide)) ?_
  walk_at "xs"
  refine split_bool (fun h => by cases h) (fun _ => ?_)
  walk_at "xs"
  refine TX.forW ?_
  walk_at "xs"
  refine T.iterLit (i := 0) (by walk_at "has") ?_
  show TC C d _ ([(it, litO l (0 + 0))] ++ ((env.locals, _) :: H)) _
  refine TC.forWalk (dd := 0) (d := d) (litWalk (xs := xs) (Nat.zero_le _)) (fun i Hi => ∃ v ev Hj, Hi = (env.locals, .ns (rR (Str.ofString "function") f (rR (Str.ofString "sequence") l (rR (Str.ofString "initial") b (rR (Str.ofString "it") it (rV (Str.ofString "value") (some v) (rV (Str.ofString "element") ev []))))))) :: Hj ∧ J i v Hj) (fun i Hi ⟨v, ev, Hj, e, hj⟩ => by subst e; exact Has.tail (JK _ _ _ hj)) ?_ ?_ rfl ?_
  · rintro i hi Hi y N ⟨v, ev, Hj, rfl, hj⟩ ⟨hu, rfl⟩
    show T _ _ _ ((env.locals, _) :: Hj) _
    refine T.asgName hk ?_
    walk_at "sto"
    walk_at "xs"
    refine ⟨Fix.ref, (hf _ _ _ hj).add (K := [_]), ?_⟩
    refine TCall.perm (List.perm_append_comm (l₁ := [_]) (l₂ := Hj)) (TCall.frame ?_)
    rw [Nat.zero_add] at hu
    refine TCall.mono (step i _ _ _ hu hj) fun w Hi' hj' => ?_
    walk_at "sto"
    refine TX.perm (List.perm_append_comm (l₂ := [_])) ?_
    walk_at "xs"
    exact ⟨w, _, Hi', rfl, hj'⟩
  · rintro Hn ⟨v, ev, Hj, rfl, hj⟩
    try dsimp only
    walk_at "xs"
    exact ⟨Hj, List.sublist_cons_self _ _, fin _ _ hj⟩
  · exact ⟨.ref b, none, H, rfl, h0⟩
/-- reduce by a call that turns nothing -/
theorem cReduceSame {C : Cx} {d : Nat} {H : SH} {Q : Value → SH → Prop} (G : Top C) {f l : Addr} {x0 : Value} {xs : List Value} (P : Nat → Value → Prop) (hl : Has l (.list (x0 :: xs)) H) (hf : KeepOk C (.ref f) H) (h0 : P 1 x0)
    (step : ∀ i u v, 1 ≤ i → (x0 :: xs)[i]? = some u → P i v → TCall C d (.ref f) [v, u] H fun w H' => P (i + 1) w ∧ H' = H)
    (fin : ∀ v, P (x0 :: xs).length v → Q v H) : TCall C (d + 1) (.ref 51) [.ref f, .ref l] H Q :=
  cReduce G (fun i v Hi => P i v ∧ Hi = H) (fun i v Hi z => z.2 ▸ hl) ⟨h0, rfl⟩ (fun i v Hi z => z.2 ▸ hf) (fun i u v Hi h1 hu z => by obtain ⟨p, rfl⟩ := z; exact step i u v h1 hu p) fun v Hn z => by obtain ⟨p, rfl⟩ := z; exact fin v p
/-- reduce over numbers to one of them -/
theorem cReduceInts {C : Cx} {d : Nat} {H : SH} {Q : Value → SH → Prop} (G : Top C) {f l : Addr} {ns : List Int} (hne : ns ≠ []) (P : Nat → Int → Prop) (hl : Has l (.list (intL ns)) H) (hf : KeepOk C (.ref f) H) (h0 : ∀ x, ns.take 1 = [x] → x ∈ ns → P 1 x)
    (step : ∀ i y x, ns.take (i + 1) = ns.take i ++ [y] → y ∈ ns → P i x → TCall C d (.ref f) [.int x 0, .int y 0] H fun w H' => ∃ z, w = .int z 0 ∧ P (i + 1) z ∧ H' = H)
    (fin : ∀ x, P ns.length x → Q (.int x 0) H) : TCall C (d + 1) (.ref 51) [.ref f, .ref l] H Q := by
  obtain ⟨w0, wr, rfl⟩ := List.exists_cons_of_ne_nil hne
  refine cReduceSame (x0 := .int w0 0) (xs := intL wr) G (fun i v => ∃ x, v = .int x 0 ∧ P i x) hl hf ⟨w0, rfl, h0 w0 rfl (.head _)⟩ (fun i u v h1 hu hv => ?_) fun v hv => ?_
  · obtain ⟨x, rfl, hx⟩ := hv
    obtain ⟨y, hy, rfl, hi, ht, hmem⟩ := intL_item (ns := w0 :: wr) hu
    exact TCall.mono (step i y x ht hmem hx) fun w H' z => by
      obtain ⟨z, rfl, p, rfl⟩ := z
      exact ⟨⟨z, rfl, p⟩, rfl⟩
  · obtain ⟨x, rfl, hx⟩ := hv
    rw [show (Value.int w0 0 :: intL wr).length = (w0 :: wr).length by simp [intL]] at hx
    exact fin x hx
theorem srt_self {C : Cx} (S : Srt) : Has S.self (instO 167 S.dx) (sortH C S) := .head
theorem srt_att {C : Cx} (S : Srt) : Has S.dx (attO (attS S)) (sortH C S) := .tail .head
theorem TCallC.weak {C : Cx} {env : Env} {d : Nat} {f : Value} {as : List Value} {H : SH} {Q : Value → SH → Prop} (o : C.Off) (h : TCallC C d f as H Q) : TCallC (C.on env) d f as H Q := fun xs e Φ A s b I =>
  codeAny_mono (h xs e Φ A s (b.off o) (Inv.on.mp I)) fun r s' z => by
    obtain ⟨v, rfl, H', I', q⟩ := retP z
    exact ⟨H', Inv.on.mpr I', q⟩
theorem cAddK {C : Cx} {d : Nat} {K : SH} {Q : Value → SH → Prop} (G : Gr C) {S : Srt} {n : Int} {ps : List Int} (nd : (nodesOf S.infos).Nodup) (hr : S.ready = none) (hz : S.infos.length + ps.length + 1 ≤ 900) (hsu : ∀ y ∈ S.infos, y.succ.length ≤ 900) (h : ∀ S', AddR n S ps S' → Q .none (K ++ sortH C S')) :
    TCallC C (d + 4) (.ref 117) (.ref S.self :: .int n 0 :: intL ps) (K ++ sortH C S) Q :=
  TCallC.perm List.perm_append_comm (TCallC.postPerm (cAddC G nd hr hz hsu fun S' a => ⟨_, List.perm_append_comm, h S' a⟩))
theorem cTSNewK {C : Cx} {d : Nat} {K : SH} {Q : Value → SH → Prop} (G : Gr C) (h : ∀ S : Srt, S.infos = [] → S.ready = none → S.passed = 0 → S.fin = 0 → Q (.ref S.self) (K ++ sortH C S)) : TCall C (d + 2) (.ref 167) [] K Q :=
  TCall.postPerm (cTSNew G fun S a b c e => ⟨_, List.perm_append_comm, h S a b c e⟩)
theorem cActiveA {C : Cx} {d : Nat} {K : SH} {Q : Value → SH → Prop} (G : Gr C) {S : Srt} {a r : Addr} {l : List Int} (ea : S.self = a) (hr : S.ready = some (r, l)) (hz : l.length ≤ 900) (h : Q (.bool (decide (S.fin < S.passed) || !l.isEmpty)) (K ++ sortH C S)) :
    TCall C (d + 1) (.ref 136) [.ref a] (K ++ sortH C S) Q := by subst ea; exact cActive G hr hz h
theorem cReadyA {C : Cx} {d : Nat} {K : SH} {Q : Value → SH → Prop} (G : Gr C) {S : Srt} {a r : Addr} {l : List Int} (ea : S.self = a) (nd : (nodesOf S.infos).Nodup) (hr : S.ready = some (r, l)) (hz : l.length ≤ 900) (hs : ∀ n ∈ l, n ∈ nodesOf S.infos)
    (h : ∀ tp, Q (.ref tp) ((tp, .tup (intL l)) :: (K ++ sortH C { S with infos := outAll S.infos l, ready := some (r, []), passed := S.passed + l.length }))) :
    TCall C (d + 1) (.ref 129) [.ref a] (K ++ sortH C S) Q := by subst ea; exact cReady G nd hr hz hs h
theorem cDoneA {C : Cx} {d : Nat} {K : SH} {Q : Value → SH → Prop} (G : Gr C) {S : Srt} {a r : Addr} {l : List Int} {n : Int} {x : Info} (ea : S.self = a) (nd : (nodesOf S.infos).Nodup) (hr : S.ready = some (r, l)) (hx : x ∈ S.infos) (hn : x.node = n) (hp : x.np = -1)
    (hz : l.length + x.succ.length ≤ 900) (hs : ∀ m ∈ x.succ, m ∈ nodesOf S.infos)
    (h : Q .none (K ++ sortH C (doneS S r n l x.succ))) : TCall C (d + 1) (.ref 150) [.ref a, .int n 0] (K ++ sortH C S) Q := by subst ea; exact cDone G nd hr hx hn hp hz hs h
theorem Built.small {P : Int → List Int} {N l : List Int} {S : Srt} (B : Built P l S) (hl : ∀ m ∈ l, m ∈ N) (hp : ∀ n ∈ N, ∀ p ∈ P n, p ∈ N) (hll : l.length ≤ N.length) : S.infos.length ≤ N.length ∧ ∀ y ∈ S.infos, y.succ.length ≤ N.length := by
  refine ⟨?_, fun y hy => ?_⟩
  · have := len_sub (b := N) B.is.nd fun m hm => by
      rcases (B.nodes m).mp hm with h | ⟨n, hn, h⟩
      · exact hl m h
      · exact hp n (hl n hn) m h
    simpa [nodesOf] using this
  · rw [(B.is.at' y hy).2]
    exact Nat.le_trans (List.length_filter_le _ _) hll
theorem KeepOk.lam {C : Cx} {f c' : Addr} {H : SH} {qual : Str} {params : Arguments} {body : Expr} {scope : Scope} {cl : List (Str × Addr)} (hf : Has f (lamO qual params body scope cl c') H) : KeepOk C (.ref f) H := fun Φ A s I => by
  obtain ⟨o, ho, pm, ctv, rfl⟩ := hf.rep I
  unfold keeperOf
  refine wpAny_bind (wpAny_load ho ?_)
  exact wpAny_pure rfl
theorem CodeOk.on {C : Cx} {env : Env} {c P : Addr} (K : CodeOk C c P) : CodeOk (C.on env) c P := ⟨K.hd, K.out, K.tab⟩
theorem BltOk.on {C : Cx} {env : Env} (B : BltOk C) : BltOk (C.on env) := ⟨B.at', B.out⟩
/-- a lambda made: its code stands behind it, from before or from now -/
theorem TE.lamU {C : Cx} {d : Nat} {env : Env} {H : SH} {Q : Value → SH → Prop} {params : Arguments} {body : Expr} {scope : Scope} {pos : Pos} {cl : List (Str × Addr)} {c P : Addr} {oc : Option Addr} {R K H0 : SH} (W : SH → SH) (hdef : defaultsOf params env = ([], [])) (hp : H.Perm ((P, tabO pos oc) :: R))
    (hcl : closureFor scope env = Pure.pure cl) (hge : env.globals = mainGlobals) (hcode : env.code = .ref c) (KC : CodeOk C c P) (B : BltOk C) {q : Str} (hq : env.qual ++ "<lambda>" = q) (hc : ∀ c', oc = some c' → Has c' (codeO q) (K ++ H0)) (hK : ∀ a x, Has a x (K ++ H0) → Has a x R) (hW : ∀ X, (X ++ R).Perm (W (X ++ K)))
    (h : ∀ f c' K', Has c' (codeO q) (K' ++ H0) → Q (.ref f) ((f, lamO q params body scope cl c') :: (P, tabO pos (some c')) :: W K')) :
    TE C d (.Lambda params body scope pos) env H Q := by
  subst hq
  refine T.postPerm (TE.lam (Q := fun v H' => ∃ H₁, H'.Perm H₁ ∧ Q v H₁) hdef hp hcl hge hcode KC B (fun c' e => hK _ _ (hc c' e)) fun f c' => ⟨fun e => ?_, fun e => ?_⟩)
  · subst e
    exact ⟨_, .cons _ (.cons _ (hW [])), h f c' K (hc c' rfl)⟩
  · subst e
    exact ⟨_, .cons _ ((List.Perm.swap _ _ _).trans (.cons _ (hW [(c', codeO _)]))), h f c' ([(c', codeO _)] ++ K) .head⟩
section
variable {C : Cx} {d : Nat} {K : SH} {Q : Value → SH → Prop} {S : Srt} {a r : Addr} {N : List Int} {P : Int → List Int} {L W R : List Int}
theorem cReadyRun (G : Gr C) (ea : S.self = a) (hR : Run N P S r L W R) (hz : R.length ≤ 900) (h : ∀ tp S', S'.self = a → Run N P S' r L (W ++ R) [] → Q (.ref tp) ((tp, .tup (intL R)) :: (K ++ sortH C S'))) :
    TCall C (d + 1) (.ref 129) [.ref a] (K ++ sortH C S) Q := cReadyA G ea hR.nd hR.rdy hz (fun n hn => (hR.nodes n).mpr (hR.lm n ((hR.rm n).mp hn).1)) fun tp => h tp _ ea hR.out
theorem cDoneRun {n : Int} (G : Gr C) (ea : S.self = a) (hR : Run N P S r L W R) (hn : n ∈ W) (hz : R.length + N.length ≤ 900) (h : ∀ S' R', S'.self = a → Run N P S' r (L.erase n) (W.erase n) R' → Q .none (K ++ sortH C S')) :
    TCall C (d + 1) (.ref 150) [.ref a, .int n 0] (K ++ sortH C S) Q := by
  obtain ⟨y, hy, hyn, hyp, hys, hyl, R', hR'⟩ := hR.done hn
  exact cDoneA G ea hR.nd hR.rdy hy hyn hyp (by lia) hys (h _ R' ea hR')
theorem cPrepRun {env0 : Env} {m0 : List (Str × Option Value)} (G : Gr C) (hf0 : env0.frame = some env0.locals) (hk0 : env0.scope.kind = .function) (ea : S.self = a) (B : Built P N S) (hN : N.Nodup) (hp : ∀ n ∈ N, (P n).Nodup ∧ ∀ p ∈ P n, p ∈ N)
    (rk : Int → Nat) (hrk : ∀ x ∈ S.infos, ∀ m ∈ x.succ, m ∈ nodesOf S.infos ∧ rk m < rk x.node) (hz : S.infos.length ≤ 900)
    (h : ∀ r S' R', S'.self = a → Run N P S' r N [] R' → Q .none ((env0.locals, .ns m0) :: (K ++ sortH C S'))) : TCall (C.on env0) (d + 2) (.ref 122) [.ref a] ((env0.locals, .ns m0) :: (K ++ sortH C S)) Q := by
  subst ea
  exact cPrep G hf0 hk0 B.is.nd B.ready rk hrk hz fun r => h r _ _ rfl (B.run hN hp)
end
noncomputable def fdRun : FuncData := fdOf (stmtAt pw_op0195_01 20) "_law_run" 206 .none (.str "law_op0195_01" 425)
noncomputable def runQ : Str := fdRun.qualname ++ ".<locals>." ++ "<lambda>"
noncomputable def runPos : Pos := ⟨223, 22, 223, 84⟩
noncomputable def wtF (wts : List (List Int)) (i : Int) : List Int := wts.getD i.toNat []
noncomputable def mkF (mks : List Int) (i : Int) : Int := mks.getD i.toNat 0
noncomputable def pcAt (pcl : List (List Nat)) (i : Int) : List Nat := pcl.getD i.toNat []
theorem numsN_mem {n : Nat} {x : Int} : x ∈ numsN n ↔ 0 ≤ x ∧ x < n := by
  unfold numsN
  rw [List.mem_map]
  constructor
  · rintro ⟨k, hk, rfl⟩
    have := List.mem_range.mp hk
    lia
  · rintro ⟨h0, h1⟩
    exact ⟨x.toNat, List.mem_range.mpr (by lia), by lia⟩
theorem numsN_nodup (n : Nat) : (numsN n).Nodup := by
  unfold numsN
  rw [List.nodup_iff_pairwise_ne, List.pairwise_map]
  exact List.nodup_range.imp fun h e => h (by lia)
theorem numsN_len (n : Nat) : (numsN n).length = n := by simp [numsN]
theorem take_flat {pcl : List (List Nat)} (h : ∀ t ∈ pcl, t.length ≤ 3) : ∀ a : List Int, ((a.map (pcAt pcl)).flatten).length ≤ 3 * a.length
  | [] => by simp
  | x :: a => by
    have ih := take_flat h a
    have : (pcAt pcl x).length ≤ 3 := by
      unfold pcAt
      by_cases e : x.toNat < pcl.length
      · rw [List.getD_eq_getElem?_getD, List.getElem?_eq_getElem e]
        exact h _ (List.getElem_mem e)
      · rw [List.getD_eq_getElem?_getD, List.getElem?_eq_none (by lia)]
        simp
    simp only [List.map_cons, List.flatten_cons, List.length_append, List.length_cons]
    lia
/-- what the rows of what is waited for are -/
structure WtOk (n : Nat) (wts : List (List Int)) : Prop where
  len : wts.length = n
  row : ∀ (i : Nat) (row : List Int), wts[i]? = some row → row.Nodup ∧ row.length ≤ 8 ∧ ∀ m : Int, m ∈ row → 0 ≤ m ∧ m < (i : Int)
theorem WtOk.at {n : Nat} {wts : List (List Int)} (W : WtOk n wts) {x : Int} (hx : x ∈ numsN n) : (wtF wts x).Nodup ∧ (wtF wts x).length ≤ 8 ∧ (∀ m ∈ wtF wts x, 0 ≤ m ∧ m < x ∧ m ∈ numsN n) ∧ wts[x.toNat]? = some (wtF wts x) := by
  obtain ⟨h0, h1⟩ := numsN_mem.mp hx
  have hl : x.toNat < wts.length := by rw [W.len]; lia
  have e := List.getElem?_eq_getElem hl
  have e2 : wtF wts x = wts[x.toNat] := by unfold wtF; rw [List.getD_eq_getElem?_getD, e]; rfl
  obtain ⟨a, b, c⟩ := W.row _ _ e
  rw [e2]
  exact ⟨a, b, fun m hm => ⟨(c m hm).1, by have := (c m hm).2; lia, numsN_mem.mpr ⟨(c m hm).1, by have := (c m hm).2; lia⟩⟩, e⟩
theorem rank_lt {n : Nat} {a b : Int} (h0 : 0 ≤ a) (h1 : a < b) (h2 : b < n) : n - b.toNat < n - a.toNat :=
  Nat.sub_lt_sub_left ((Int.toNat_lt h0).mpr (Int.lt_trans h1 h2)) ((Int.toNat_lt_toNat (Int.lt_of_le_of_lt h0 h1)).mpr h1)
theorem least_new {f : Int → Int} {l l' : List Int} {x y : Int} (ht : l' = l ++ [y]) (h : ∀ z ∈ l, f x ≤ f z) (hb : f y < f x) : ∀ z ∈ l', f y ≤ f z := fun z hz => by
  rw [ht] at hz
  rcases List.mem_append.mp hz with hz | hz
  · have := h z hz
    lia
  · rw [List.mem_singleton] at hz; rw [hz]; exact Int.le_refl _
theorem least_old {f : Int → Int} {l l' : List Int} {x y : Int} (ht : l' = l ++ [y]) (h : ∀ z ∈ l, f x ≤ f z) (hb : ¬ f y < f x) : ∀ z ∈ l', f x ≤ f z := fun z hz => by
  rw [ht] at hz
  rcases List.mem_append.mp hz with hz | hz
  · exact h z hz
  · rw [List.mem_singleton] at hz; rw [hz]; lia
/-- the sorter while the nodes go in -/
inductive RunFor (C : Cx) (loc : Addr) (wts : List (List Int)) (n : Nat) (lp lw lm cm r2 s0 : Addr) (oc : Option Addr) (H : SH) (i : Nat) : SH → Prop
  | mk (S1 : Srt) (v : Option Value) (es : S1.self = s0) (B : Built (wtF wts) (numsN i) S1) : RunFor C loc wts n lp lw lm cm r2 s0 oc H i (((r2, rng 0 (n : Int) 1) :: (loc, .ns (rR (Str.ofString "pieces") lp (rR (Str.ofString "waits") lw (rR (Str.ofString "sorter") s0 (rV (Str.ofString "node") v (rV (Str.ofString "text") none (rV (Str.ofString "waiting") none []))))))) :: (cm, .cell (some (.ref lm))) :: (202, tabO runPos oc) :: H) ++ sortH C S1)
/-- and while they come out -/
inductive RunWhile (C : Cx) (loc : Addr) (pcl : List (List Nat)) (wts : List (List Int)) (mks : List Int) (n : Nat) (lp lw lm cm lwt r s0 : Addr) (H : SH) : List Int → SH → Prop
  | mk (a : List Int) (S3 : Srt) (L W R : List Int) (sv : Option Value) (oc' : Option Addr) (K : SH) (hO : OrdOk (numsN n) (wtF wts) (mkF mks) a) (hLa : ∀ y ∈ numsN n, y ∈ L ∨ y ∈ a) (hLn : ∀ y ∈ L, y ∉ a) (hR : Run (numsN n) (wtF wts) S3 r L W R) (es : S3.self = s0) (hoc : ∀ c', oc' = some c' → Has c' (codeO runQ) (K ++ H)) :
    RunWhile C loc pcl wts mks n lp lw lm cm lwt r s0 H L (((lwt, .list (intL W)) :: (loc, .ns (rR (Str.ofString "pieces") lp (rR (Str.ofString "waits") lw (rR (Str.ofString "sorter") s0 (rV (Str.ofString "node") sv (rS (Str.ofString "text") (S (a.map (pcAt pcl)).flatten) (rR (Str.ofString "waiting") lwt []))))))) :: (cm, .cell (some (.ref lm))) :: (202, tabO runPos oc') :: (K ++ H)) ++ sortH C S3)
set_option maxHeartbeats 4000000 in
theorem cRun {C : Cx} {d : Nat} {env0 : Env} {m0 : List (Str × Option Value)} {H : SH} {Q : Value → SH → Prop} (G : Gr C) (hf0 : env0.frame = some env0.locals) (hk0 : env0.scope.kind = .function) (F : Fn C 207 fdRun) (KC : CodeOk C 206 202) (BC : BltOk C) (nr : Nm C "range" (.type "range"))
    {n : Nat} (hn8 : n ≤ 8) {pcl : List (List Nat)} (hpl : pcl.length = n) (hp3 : ∀ t ∈ pcl, t.length ≤ 3) {wts : List (List Int)} (hW : WtOk n wts) {mks : List Int} (hmk : mks.length = n)
    {lp lw lm : Addr} {ws : List Value} (hlp : Has lp (.list (strV pcl)) H) (hlw : Has lw (.list ws) H) (hT : Tbl H ws wts) (hlm : Has lm (.list (intL mks)) H) {oc : Option Addr} (hoc : ∀ c', oc = some c' → Has c' (codeO runQ) H)
    (h : ∀ order oc' K t, t = (order.map (pcAt pcl)).flatten → OrdOk (numsN n) (wtF wts) (mkF mks) order → (∀ x ∈ numsN n, x ∈ order) → (∀ c', oc' = some c' → Has c' (codeO runQ) (K ++ H)) → Q (.str (S t) 0) ((env0.locals, .ns m0) :: (202, tabO runPos oc') :: (K ++ H))) :
    TCall (C.on env0) (d + 7) (.ref 207) [.ref lp, .ref lw, .ref lm] ((env0.locals, .ns m0) :: (202, tabO runPos oc) :: H) Q := by
  obtain ⟨mN, NN⟩ := G.sor
  have Lm := G.lm
  have hsz : ∀ n : Nat, n ≤ 1000 → n ≤ sizeLine := fun n hn => Nat.le_trans hn (sz rfl)
  have prd : ∀ x ∈ numsN n, (wtF wts x).Nodup ∧ ∀ p ∈ wtF wts x, p ∈ numsN n := fun x hx => ⟨(hW.at hx).1, fun p hp => ((hW.at hx).2.2.1 p hp).2.2⟩
  have prd' : ∀ x ∈ numsN n, ∀ p ∈ wtF wts x, p ∈ numsN n := fun x hx => (prd x hx).2
  have prl : ∀ x ∈ numsN n, (wtF wts x).length ≤ 8 := fun x hx => (hW.at hx).2.1
  refine TCall.defOn (eb := [(Str.ofString "pieces", .ref lp), (Str.ofString "waits", .ref lw), (Str.ofString "marks", .ref lm)]) Lm.off hf0 hk0 F Lm (body := bodyOf (stmtAt pw_op0195_01 20)) (by kernel_rfl) (by kernel_rfl) (by decide +kernel) ?_ ?_
  · intro xs ex
    obtain ⟨x, y, z, rfl, e1, e2, e3⟩ := args3 ex
    refine ⟨[(Str.ofString "pieces", x), (Str.ofString "waits", y), (Str.ofString "marks", z)], by kernel_rfl, by simp [erB, e1, e2, e3], ?_⟩
    intro q hq
    simp only [List.mem_cons, List.not_mem_nil, or_false] at hq
    rcases hq with rfl | rfl | rfl
    · exact .inl (by kernel_rfl)
    · exact .inl (by kernel_rfl)
    · exact .inr (by kernel_rfl)
  intro env E
  have hk : env.scope.kind = .function := by rw [E.scope]; kernel_rfl
  obtain ⟨as, hal, hcs, hent⟩ := E.entry (eb := [(Str.ofString "pieces", .ref lp), (Str.ofString "waits", .ref lw), (Str.ofString "marks", .ref lm)]) [(Str.ofString "marks", some (.ref lm))] (m := (rR (Str.ofString "pieces") lp (rR (Str.ofString "waits") lw (rV (Str.ofString "sorter") none (rV (Str.ofString "node") none (rV (Str.ofString "text") none (rV (Str.ofString "waiting") none []))))))) (by kernel_rfl) (by kernel_rfl) (by kernel_rfl) ((202, tabO runPos oc) :: H)
  obtain ⟨cm, rfl⟩ := len1 hal
  rw [hent]
  have hm : InMain env := ⟨E.globals, E.builtins⟩
  have k_pieces : env.kindOf (Str.ofString "pieces") = some NameKind.local := E.kind (by kernel_rfl)
  have k_waits : env.kindOf (Str.ofString "waits") = some NameKind.local := E.kind (by kernel_rfl)
  have k_marks : env.kindOf (Str.ofString "marks") = some NameKind.cell := E.kind (by kernel_rfl)
  have k_sorter : env.kindOf (Str.ofString "sorter") = some NameKind.local := E.kind (by kernel_rfl)
  have k_node : env.kindOf (Str.ofString "node") = some NameKind.local := E.kind (by kernel_rfl)
  have k_text : env.kindOf (Str.ofString "text") = some NameKind.local := E.kind (by kernel_rfl)
  have k_waiting : env.kindOf (Str.ofString "waiting") = some NameKind.local := E.kind (by kernel_rfl)
  have k_TopologicalSorter : env.kindOf (Str.ofString "TopologicalSorter") = some NameKind.globalImplicit := E.kind (by kernel_rfl)
  have k_range : env.kindOf (Str.ofString "range") = some NameKind.globalImplicit := E.kind (by kernel_rfl)
  have k_len : env.kindOf (Str.ofString "len") = some NameKind.globalImplicit := E.kind (by kernel_rfl)
  have k_reduce : env.kindOf (Str.ofString "reduce") = some NameKind.globalImplicit := E.kind (by kernel_rfl)
  have hcm : env.cells.lookup (Str.ofString "marks") = some cm := by rw [hcs]; rfl
  have c1 : Cls (C.on env) 167 166 mN := ⟨NN.cls.obj, NN.cls.ns, NN.cls.out, NN.cls.outN⟩
  have c2 := NN.sa
  have c3 := NN.ga
  have c6 := NN.gh
  have m1 := NN.add
  have m2 := NN.prep
  have m3 := NN.ready
  have m4 := NN.active
  have m5 := NN.done
  have f1 : Fn (C.on env) 117 fdAdd := G.fAdd.on
  have f2 : Fn (C.on env) 122 fdPrep := G.fPrep.on
  have f3 : Fn (C.on env) 129 fdReady := G.fReady.on
  have f4 : Fn (C.on env) 136 fdActive := G.fActive.on
  have f5 : Fn (C.on env) 150 fdDone := G.fDone.on
  have g1 : ∀ o, (C.on env).h0.get? 117 = some o → o.cls = .type "function" := G.fun_cls 117 (by decide)
  have g2 : ∀ o, (C.on env).h0.get? 122 = some o → o.cls = .type "function" := G.fun_cls 122 (by decide)
  have g3 : ∀ o, (C.on env).h0.get? 129 = some o → o.cls = .type "function" := G.fun_cls 129 (by decide)
  have g4 : ∀ o, (C.on env).h0.get? 136 = some o → o.cls = .type "function" := G.fun_cls 136 (by decide)
  have g5 : ∀ o, (C.on env).h0.get? 150 = some o → o.cls = .type "function" := G.fun_cls 150 (by decide)
  have q1 : Nm (C.on env) "TopologicalSorter" (.ref 167) := G.n_sorter.on
  have q2 : Nm (C.on env) "range" (.type "range") := nr.on
  have q3 : Nm (C.on env) "reduce" (.ref 51) := G.n_reduce.on
  have q4 : Nm (C.on env) "len" (.builtin "len") := G.n_len.on
  have se : Str.ofString "" = S [] := by decide +kernel
  have hwl : ws.length = n := by rw [hT.1, hW.len]
  show TX (C.on env) (d + 6) (_ :: _ :: _ :: _ :: _ :: _ :: _ :: []) env ((env.locals, _) :: (cm, .cell (some (.ref lm))) :: (202, tabO runPos oc) :: H) _
  walk_at "xs"
  refine ⟨Fix.ref, KeepOk.cls c1, ?_⟩
  refine TCall.weak Lm.off ?_
  refine cTSNewK G fun S0 e1 e2 e3 e4 => ?_
  walk_at "xs"
  refine TX.for hk ?_
  walk_at "xs"
  refine TCall.lenN (.append_left (.tail (.tail (.tail hlw)))) hwl (by lia) ?_
  walk_at "xs"
  refine TCall.range1 fun r2 => ?_
  refine ⟨_, _, Iter.range0 (n := n) (by lia), RunFor C env.locals wts n lp lw lm cm r2 S0.self oc H, ⟨S0, none, rfl, Built.nil e1 e2 e3 e4⟩, ?_, ?_, ?_⟩
  · rintro i Hi ⟨S1, v, es, B⟩
    exact .head
  · rintro i u Hi hu ⟨S1, v, es, B⟩
    obtain ⟨hi, rfl⟩ := rng_item0 hu
    have a1 := srt_self (C := C) S1
    have a2 := srt_att (C := C) S1
    rw [es] at a1
    have hin : (i : Int) ∈ numsN n := numsN_mem.mpr ⟨by lia, by lia⟩
    have hsm := B.small (N := numsN n) (fun m hm => numsN_mem.mpr (by have := numsN_mem.mp hm; exact ⟨this.1, by lia⟩)) prd' (by rw [numsN_len, numsN_len]; lia)
    rw [numsN_len] at hsm
    obtain ⟨b, hb1, hb2⟩ := hT.getD (m := (i : Int)) (by lia) (by rw [hW.len]; lia)
    have hpr := prl i hin
    walk_at "x"
    walk_at "x"
    refine TE.methStar ?_
    walk_at "e"
    (refine' TAt.bound (by walk_at "a") ?hF ?hfc ?hx ?hm (by walk_at "a") (by walk_at "a") (by walk_at "a") ?h3 ?h4 ?hz ?_; (case hx => walk_at "has"); (case hm => walk_at "has"); (case h3 => exact not_att (by decide +kernel)); (case h4 => (with_reducible first | exact lk_a1 | exact lk_a2 | exact lk_a3 | exact lk_a4 | exact lk_m1 | exact lk_m2 | exact lk_m3 | exact lk_m4 | exact lk_m5 | exact lk_m6 | exact lk_m7)); (case hF => walk_at "a"); (case hfc => walk_at "a"); (case hz => decide +kernel))
    intro bm
    walk_at "xs"
    refine TArgs.star ?_
    walk_at "xs"
    refine TGet.list (.tail (.append_left (.tail (.tail (.tail (.tail hlw)))))) (by lia) (by lia) hb1 ?_
    refine ⟨b, intL (wtF wts i), rfl, .tail (.append_left (.tail (.tail (.tail (.tail hb2))))), by rw [intL_length]; exact hsz _ (by lia), ?_⟩
    walk_at "xs"
    refine ⟨Fix.ref, KeepOk.bm f1 (by walk_at "has"), ?_⟩
    refine TCall.bm (by walk_at "has") ?_
    rw [List.append_nil]
    refine TCallC.weak Lm.off ?_
    rw [← es]
    refine cAddK (K := _ :: _ :: _ :: _ :: _ :: H) G B.is.nd B.ready (by lia) (fun y hy => Nat.le_trans (hsm.2 y hy) (by lia)) fun S2 hadd => ⟨by simp, ?_⟩
    refine TX.drop (.cons _ (.refl _)) (TX.nil ?_)
    obtain ⟨k1, _⟩ := hadd.keep B.is.nd
    refine ⟨S2, some (.int i 0), k1, ?_⟩
    rw [numsN_succ]
    exact B.snoc hadd (fun q => by have := (numsN_mem.mp q).2; lia) (hW.at hin).1
  rintro Hn ⟨S1, v, es, B⟩
  rw [rngL_len] at B
  refine TX.drop1 ?_
  show TX (C.on env) (d + 6) (_ :: _ :: _ :: _ :: _ :: []) env (((env.locals, _) :: (cm, .cell (some (.ref lm))) :: (202, tabO runPos oc) :: H) ++ sortH C S1) _
  have a1 := srt_self (C := C) S1
  have a2 := srt_att (C := C) S1
  rw [es] at a1
  have hsm := B.small (N := numsN n) (fun m hm => hm) prd' (Nat.le_refl _)
  rw [numsN_len] at hsm
  walk_at "xs"
  (refine' TM.inst (by walk_at "a") ?hF ?hfc ?hx ?hm (by walk_at "a") (by walk_at "a") (by walk_at "a") ?h3 ?h4 ?_; (case hx => walk_at "has"); (case hm => walk_at "has"); (case h3 => exact not_att (by decide +kernel)); (case h4 => (with_reducible first | exact lk_a1 | exact lk_a2 | exact lk_a3 | exact lk_a4 | exact lk_m1 | exact lk_m2 | exact lk_m3 | exact lk_m4 | exact lk_m5 | exact lk_m6 | exact lk_m7)); (case hF => walk_at "a"); (case hfc => walk_at "a"))
  walk_at "xs"
  refine ⟨f2.ok, ?_⟩
  refine cPrepRun (K := (cm, .cell (some (.ref lm))) :: (202, tabO runPos oc) :: H) (d := d + 4) G E.frame hk es B (numsN_nodup n) prd (fun x => n - x.toNat) (fun x hx m hm => ?_) (by lia) fun r S2 R2 es2 B2 => ⟨by simp, ?_⟩
  · rw [(B.is.at' x hx).2] at hm
    obtain ⟨h1, h2⟩ := List.mem_filter.mp hm
    have h2 : x.node ∈ wtF wts m := by simpa using h2
    refine ⟨(B.nodesN prd m).mpr h1, ?_⟩
    have q := (hW.at h1).2.2.1 _ h2
    exact rank_lt q.1 q.2.1 (numsN_mem.mp h1).2
  clear hsm B a1 a2 es
  walk_at "xs"
  refine ⟨hsz 0 (by decide), fun lwt => ?_⟩
  walk_at "xs"
  refine TX.while ?_
  have hq : env.qual ++ "<lambda>" = runQ := by rw [E.qual]; rfl
  refine TC.whileInd (σ := List Int) List.length (RunWhile C env.locals pcl wts mks n lp lw lm cm lwt r S0.self H) ?step (numsN n) _ ⟨[], S2, numsN n, [], _, v, oc, [], .nil _ _ _, fun y hy => .inl hy, fun y _ q => (by cases q), B2, es2, hoc⟩
  clear B2 es2
  rintro L ih _ ⟨a, S3, _, W, R, sv, oc', K, hO, hLa, hLn, hR, es3, hoc'⟩
  have a1 := srt_self (C := C) S3
  have a2 := srt_att (C := C) S3
  rw [es3] at a1
  have hWl : W.length ≤ (numsN n).length := len_sub hR.wnd fun m hm => hR.lm m (hR.wm m hm).1
  have hRl : R.length ≤ (numsN n).length := len_sub hR.rnd fun m hm => hR.lm m ((hR.rm m).mp hm).1
  have hLl : L.length ≤ (numsN n).length := len_sub hR.lnd hR.lm
  rw [numsN_len] at hWl hRl hLl
  have hal : a.length ≤ n := by have := len_sub hO.nd hO.sub; rw [numsN_len] at this; exact this
  refine TC.whileStep ?_
  walk_at "xs"
  (refine' TM.inst (by walk_at "a") ?hF ?hfc ?hx ?hm (by walk_at "a") (by walk_at "a") (by walk_at "a") ?h3 ?h4 ?_; (case hx => walk_at "has"); (case hm => walk_at "has"); (case h3 => exact not_att (by decide +kernel)); (case h4 => (with_reducible first | exact lk_a1 | exact lk_a2 | exact lk_a3 | exact lk_a4 | exact lk_m1 | exact lk_m2 | exact lk_m3 | exact lk_m4 | exact lk_m5 | exact lk_m6 | exact lk_m7)); (case hF => walk_at "a"); (case hfc => walk_at "a"))
  walk_at "xs"
  refine ⟨f4.ok, ?_⟩
  refine TCall.weak Lm.off ?_
  refine cActiveA (K := _ :: _ :: _ :: _ :: (K ++ H)) G es3 hR.rdy (by lia) ?_
  walk_at "xs"
  refine split_bool (fun hb => ?_) (fun hb => ?_)
  · walk_at "xs"
    refine TM.list (.append_left .head) PySem.F.slot_list_extend PySem.F.type_list_extend ?_
    walk_at "xs"
    (refine' TM.inst (by walk_at "a") ?hF ?hfc ?hx ?hm (by walk_at "a") (by walk_at "a") (by walk_at "a") ?h3 ?h4 ?_; (case hx => walk_at "has"); (case hm => walk_at "has"); (case h3 => exact not_att (by decide +kernel)); (case h4 => (with_reducible first | exact lk_a1 | exact lk_a2 | exact lk_a3 | exact lk_a4 | exact lk_m1 | exact lk_m2 | exact lk_m3 | exact lk_m4 | exact lk_m5 | exact lk_m6 | exact lk_m7)); (case hF => walk_at "a"); (case hfc => walk_at "a"))
    walk_at "xs"
    refine ⟨f3.ok, ?_⟩
    refine TCall.weak Lm.off ?_
    refine cReadyRun (K := _ :: _ :: _ :: _ :: (K ++ H)) G es3 hR (by lia) fun tp S4 es4 hR2 => ?_
    clear a1 a2
    have a1 := srt_self (C := C) S4
    have a2 := srt_att (C := C) S4
    rw [es4] at a1
    walk_at "xs"
    refine TCall.extendTupO .head (fun zs => .tail (.append_left .head)) (by lia) fun W2 hW2 => ⟨by simp, ?_⟩
    rw [← hW2] at hR2
    have hW2l : W2.length ≤ (numsN n).length := len_sub hR2.wnd fun m hm => hR2.lm m (hR2.wm m hm).1
    rw [numsN_len] at hW2l
    have hne : W2 ≠ [] := fun e => by
      rw [hW2, List.append_eq_nil_iff] at e
      rw [hR.cnt, e.1, e.2] at hb
      simp at hb
    refine TX.drop1 ?_
    walk_at "xs"
    refine TE.lamU (cl := [(Str.ofString "marks", cm)]) (oc := oc') (q := runQ) (K := K) (H0 := H) (fun X => ((lwt, .list (intL W2)) :: (env.locals, .ns (rR (Str.ofString "pieces") lp (rR (Str.ofString "waits") lw (rR (Str.ofString "sorter") S0.self (rV (Str.ofString "node") sv (rS (Str.ofString "text") (S (a.map (pcAt pcl)).flatten) (rR (Str.ofString "waiting") lwt []))))))) :: (cm, .cell (some (.ref lm))) :: (X ++ H)) ++ sortH C S4) rfl (List.perm_middle (l₁ := [_, _, _]) (l₂ := (K ++ H) ++ sortH C S4)) (closureFor_is (by rw [hcs]; rfl)) E.globals E.code KC.on BC.on hq hoc' (fun b x z => .append_right (H := [_, _, _]) (.append_left z)) (fun X => (List.perm_append_comm_assoc X [_, _, _] ((K ++ H) ++ sortH C S4)).trans (.of_eq (by simp))) fun f c' K2 hcX => ?_
    clear hoc'
    walk_at "xs"
    have hmk' : ∀ x : Int, x ∈ W2 → 0 ≤ x ∧ x < 1000000 ∧ (intL mks)[x.toNat]? = some (.int (mkF mks x) 0) := fun x hx => by
      obtain ⟨q1, q2⟩ := numsN_mem.mp (hR2.lm x (hR2.wm x hx).1)
      refine ⟨q1, by lia, ?_⟩
      have := (intL_at (ps := mks) (i := x.toNat) (by lia)).1
      exact this
    refine G.fReduce.on.go (TCall.weak Lm.off ?_)
    refine cReduceInts (d := d + 5) G.toTop hne (fun i x => x ∈ W2 ∧ ∀ y ∈ W2.take i, mkF mks x ≤ mkF mks y) (.tail (.tail .head)) (KeepOk.lam .head) (fun x e hx => ⟨hx, fun y hy => by rw [e, List.mem_singleton] at hy; rw [hy]; exact Int.le_refl _⟩) (fun i y x ht hmem hx => ?_) fun x hx => ?_
    · refine TCall.lam2 (p1 := Str.ofString "one") (p2 := Str.ofString "other") .head (.tail (.tail (.append_left (.tail (.tail (.tail hcX)))))) Lm (by intro pm ctv x y; kernel_rfl) (noCell (by kernel_rfl)) (by kernel_rfl) (by kernel_rfl) (by decide +kernel) fun le LE => ?_
      have kl1 : le.kindOf (Str.ofString "one") = some .local := LE.kind (by rfl)
      have kl2 : le.kindOf (Str.ofString "other") = some .local := LE.kind (by rfl)
      have kl3 : le.kindOf (Str.ofString "marks") = some .free := LE.kind (by rfl)
      have kl4 : le.scope.kind = .function := by rw [LE.scope]
      have hcl : le.cells.lookup (Str.ofString "marks") = some cm := by rw [LE.cells]; rfl
      have x0 := hmk' x hx.1
      have y0 := hmk' y hmem
      walk_at "xs"
      refine TGet.list (.tail (.tail (.tail (.append_left (.tail (.tail (.tail (.append_right hlm)))))))) y0.1 (by lia) y0.2.2 ?_
      walk_at "xs"
      refine TGet.list (.tail (.tail (.tail (.append_left (.tail (.tail (.tail (.append_right hlm)))))))) x0.1 (by lia) x0.2.2 ?_
      walk_at "xs"
      refine split_bool (fun hb => ?_) (fun hb => ?_)
      · walk_at "xs"
        exact ⟨_, List.sublist_cons_self _ _, y, rfl, ⟨hmem, least_new ht hx.2 (of_decide_eq_true hb)⟩, rfl⟩
      · walk_at "xs"
        exact ⟨_, List.sublist_cons_self _ _, x, rfl, ⟨hx.1, least_old ht hx.2 (of_decide_eq_false hb)⟩, rfl⟩
    have hxW := hx.1
    have hmin := hx.2
    rw [List.take_length] at hmin
    have x0 := (hmk' x hxW).1
    have hxL := (hR2.wm x hxW).1
    have hxP := (hR2.wm x hxW).2
    have hxN := hR2.lm x hxL
    have hxn := (numsN_mem.mp hxN).2
    walk_at "sto"
    refine TX.drop1 (TX.perm (List.perm_middle (l₁ := [_, _, _]) (l₂ := (K2 ++ H) ++ sortH C S4)).symm ?_)
    show TX (C.on env) (d + 6) _ env (((lwt, _) :: (env.locals, _) :: (cm, _) :: (202, _) :: (K2 ++ H)) ++ sortH C S4) _
    walk_at "xs"
    refine TM.list (.append_left .head) PySem.F.slot_list_remove PySem.F.type_list_remove ?_
    walk_at "xs"
    refine TCall.removeI hxW (.append_left .head) (by lia) ⟨by simp, ?_⟩
    walk_at "xs"
    refine TGet.list (u := .str (S (pcAt pcl x)) 0) (.append_left (.tail (.tail (.tail (.tail (.append_right hlp)))))) x0 (by lia) ?_ ?_
    · have e : x.toNat < pcl.length := by lia
      unfold strV pcAt
      rw [List.getElem?_map, List.getD_eq_getElem?_getD, List.getElem?_eq_getElem e]
      rfl
    have hxa : x ∉ a := hLn x hxL
    have hO2 : OrdOk (numsN n) (wtF wts) (mkF mks) (a ++ [x]) := by
      refine hO.snoc hxN hxa (fun w hw => ?_) fun y hy hya hyw => ?_
      · have hwN := prd' x hxN w hw
        exact (hLa w hwN).resolve_left (hxP w hw)
      · refine hmin y ((hR2.wait y).mpr ⟨(hLa y hy).resolve_right hya, fun p hp q => hLn p q (hyw p hp)⟩)
    have hfl := take_flat hp3 (a ++ [x])
    have hal2 : (a ++ [x]).length ≤ n := by have := len_sub hO2.nd hO2.sub; rw [numsN_len] at this; exact this
    rw [List.map_append, List.flatten_append, List.length_append] at hfl
    simp only [List.map_cons, List.map_nil, List.flatten_cons, List.flatten_nil, List.append_nil] at hfl
    refine TInp.addsTo (t := ((a ++ [x]).map (pcAt pcl)).flatten) (by simp) (by lia) ?_
    walk_at "sto"
    walk_at "xs"
    (refine' TM.inst (by walk_at "a") ?hF ?hfc ?hx ?hm (by walk_at "a") (by walk_at "a") (by walk_at "a") ?h3 ?h4 ?_; (case hx => walk_at "has"); (case hm => walk_at "has"); (case h3 => exact not_att (by decide +kernel)); (case h4 => (with_reducible first | exact lk_a1 | exact lk_a2 | exact lk_a3 | exact lk_a4 | exact lk_m1 | exact lk_m2 | exact lk_m3 | exact lk_m4 | exact lk_m5 | exact lk_m6 | exact lk_m7)); (case hF => walk_at "a"); (case hfc => walk_at "a"))
    walk_at "xs"
    refine ⟨f5.ok, ?_⟩
    refine TCall.weak Lm.off ?_
    refine cDoneRun (K := _ :: _ :: _ :: _ :: (K2 ++ H)) G es4 hR2 hxW (by rw [numsN_len]; simp; lia) fun S5 R' es5 hR' => ⟨by simp, ?_⟩
    refine TX.nil ?_
    refine ih (L.erase x) _ ?_ ⟨a ++ [x], S5, L.erase x, W2.erase x, R', some (.int x 0), some c', K2, hO2, fun y hy => ?_, fun y hy q => ?_, hR', es5, fun c e => by cases e; exact hcX⟩
    · show (L.erase x).length < L.length
      rw [List.length_erase_of_mem hxL]
      have : 0 < L.length := List.length_pos_of_mem hxL
      lia
    · by_cases e : y = x
      · subst e; exact .inr (by simp)
      · rcases hLa y hy with q | q
        · exact .inl ((List.mem_erase_of_ne e).mpr q)
        · exact .inr (List.mem_append_left _ q)
    · have hy1 := List.mem_of_mem_erase hy
      rcases List.mem_append.mp q with q | q
      · exact hLn y hy1 q
      · rw [List.mem_singleton] at q
        subst q
        exact (List.Nodup.mem_erase_iff hR2.lnd).mp hy |>.1 rfl
  · walk_at "xs"
    have hRW : W = [] ∧ R = [] := by
      rw [Bool.or_eq_false_iff] at hb
      have h1 := of_decide_eq_false hb.1
      rw [hR.cnt] at h1
      refine ⟨List.length_eq_zero_iff.mp (by lia), ?_⟩
      have := hb.2
      simpa using this
    obtain ⟨rfl, rfl⟩ := hRW
    have hL0 : ∀ x ∈ numsN n, x ∉ L := low_ind (wt := wtF wts) (fun x hx => ⟨(numsN_mem.mp hx).1, (hW.at hx).2.2.1⟩) fun x hx ih hxl => by
      have := (hR.wait x).mpr ⟨hxl, ih⟩
      cases this
    refine ⟨(202, tabO runPos oc') :: (K ++ H), ?_, ?_⟩
    · exact .trans (.cons _ (.cons _ (.cons _ (.refl _)))) (List.sublist_append_left _ _)
    · exact h a oc' K _ rfl hO (fun x hx => (hLa x hx).resolve_left (hL0 x hx)) hoc'
theorem isPc_pcF (x : Int) : isPc (pcF x) := by
  unfold pcF
  have h0 : 0 ≤ x.fmod 6 := Int.fmod_nonneg_of_pos _ (by lia)
  have h1 : x.fmod 6 < 6 := Int.fmod_lt_of_pos _ (by lia)
  obtain ⟨k, hk⟩ : ∃ k : Nat, x.fmod 6 = k := ⟨(x.fmod 6).toNat, by lia⟩
  rw [hk] at h1 ⊢
  have : k = 0 ∨ k = 1 ∨ k = 2 ∨ k = 3 ∨ k = 4 ∨ k = 5 := by lia
  rcases this with rfl | rfl | rfl | rfl | rfl | rfl
  · exact .inl rfl
  · exact .inr (.inl rfl)
  · exact .inl rfl
  · exact .inr (.inl rfl)
  · exact .inr (.inr (.inl rfl))
  · exact .inr (.inr (.inr rfl))
theorem isPc_len {t : List Nat} (h : isPc t) : t.length ≤ 3 := by rcases h with rfl | rfl | rfl | rfl <;> decide
theorem waitsF_at (xs : List Int) (n i : Nat) (row : List Int) (h : (waitsF xs n)[i]? = some row) : i < n ∧ row = waitF i (xs.getD i 0) := by
  have hi : i < (waitsF xs n).length := (List.getElem?_eq_some_iff.mp h).1
  have hi : i < n := by simpa [waitsF] using hi
  unfold waitsF at h
  rw [List.getElem?_map, List.getElem?_range hi] at h
  exact ⟨hi, (Option.some.inj h).symm⟩
theorem wtOk {xs : List Int} (h : xs.length ≤ 8) : WtOk xs.length (waitsF xs xs.length) := by
  refine ⟨by simp [waitsF], fun i row hr => ?_⟩
  obtain ⟨hi, rfl⟩ := waitsF_at _ _ _ _ hr
  refine ⟨(numsN_nodup i).sublist List.filter_sublist, ?_, fun m hm => numsN_mem.mp (List.mem_filter.mp hm).1⟩
  refine Nat.le_trans (List.length_filter_le _ _) ?_
  rw [numsN_len]
  lia
-- what goes ahead
theorem aheadL_take (wts : List (List Int)) : ∀ i, i ≤ wts.length → (aheadL wts).take i = aheadL (wts.take i) := by
  have key : ∀ (r acc : List (List Int)), ∃ s, r.foldl (fun acc row => acc ++ [aheadRow acc row]) acc = acc ++ s := by
    intro r
    induction r with
    | nil => exact fun acc => ⟨[], by simp⟩
    | cons x r ih =>
      intro acc
      obtain ⟨s, hs⟩ := ih (acc ++ [aheadRow acc x])
      exact ⟨[aheadRow acc x] ++ s, by rw [List.foldl_cons, hs]; simp⟩
  intro i hi
  have e : aheadL wts = (wts.drop i).foldl (fun acc row => acc ++ [aheadRow acc row]) (aheadL (wts.take i)) := by
    unfold aheadL
    rw [← List.foldl_append, List.take_append_drop]
  obtain ⟨s, hs⟩ := key (wts.drop i) (aheadL (wts.take i))
  rw [e, hs]
  have hl : (aheadL (wts.take i)).length = i := by rw [aheadL_len, List.length_take]; lia
  exact List.take_left' hl
noncomputable def ahF (wts : List (List Int)) (i : Int) : List Int := (aheadL wts).getD i.toNat []
theorem aheadL_at {wts : List (List Int)} {i : Nat} {row : List Int} (h : wts[i]? = some row) : (aheadL wts)[i]? = some (aheadRow (aheadL (wts.take i)) row) := by
  have hi : i < wts.length := (List.getElem?_eq_some_iff.mp h).1
  have e := aheadL_take wts (i + 1) (by lia)
  have e2 : wts.take (i + 1) = wts.take i ++ [row] := by rw [List.take_add_one, h]; rfl
  rw [e2] at e
  have : (aheadL (wts.take i ++ [row]))[i]? = some (aheadRow (aheadL (wts.take i)) row) := by
    rw [aheadL_snoc]
    have hl : (aheadL (wts.take i)).length = i := by rw [aheadL_len, List.length_take]; lia
    rw [List.getElem?_append_right (by lia), hl, Nat.sub_self]; rfl
  rw [← e, List.getElem?_take_of_lt (Nat.lt_succ_self i)] at this
  exact this
theorem ahF_at {n : Nat} {wts : List (List Int)} (W : WtOk n wts) {x : Int} (hx : x ∈ numsN n) : ahF wts x = aheadRow (aheadL (wts.take x.toNat)) (wtF wts x) ∧ (aheadL (wts.take x.toNat)).length = x.toNat ∧ (aheadL wts)[x.toNat]? = some (ahF wts x) := by
  obtain ⟨_, _, _, h⟩ := W.at hx
  have e := aheadL_at h
  have e2 : ahF wts x = aheadRow (aheadL (wts.take x.toNat)) (wtF wts x) := by
    unfold ahF
    rw [List.getD_eq_getElem?_getD, e]; rfl
  refine ⟨e2, ?_, by rw [e, e2]⟩
  obtain ⟨h0, h1⟩ := numsN_mem.mp hx
  have := W.len
  rw [aheadL_len, List.length_take]; lia
theorem ahF_mem {n : Nat} {wts : List (List Int)} (W : WtOk n wts) {x : Int} (hx : x ∈ numsN n) {k : Int} : k ∈ ahF wts x ↔ (0 ≤ k ∧ k < x) ∧ (k ∈ wtF wts x ∨ ∃ m ∈ wtF wts x, k ∈ ahF wts m) := by
  obtain ⟨e, hl, _⟩ := ahF_at W hx
  obtain ⟨h0, h1⟩ := numsN_mem.mp hx
  rw [e]
  unfold aheadRow
  rw [List.mem_filter, hl, numsN_mem]
  have hb : aheadT (aheadL (wts.take x.toNat)) (wtF wts x) k = true ↔ (k ∈ wtF wts x ∨ ∃ m ∈ wtF wts x, k ∈ ahF wts m) := by
    unfold aheadT
    rw [Bool.or_eq_true, decide_eq_true_iff, List.any_eq_true]
    refine or_congr Iff.rfl (exists_congr fun m => and_congr_right fun hm => ?_)
    unfold behind
    rw [decide_eq_true_iff]
    obtain ⟨_, _, hr, _⟩ := W.at hx
    obtain ⟨m0, m1, _⟩ := hr m hm
    have : (aheadL (wts.take x.toNat)).getD m.toNat [] = ahF wts m := by
      unfold ahF
      rw [← aheadL_take wts x.toNat (by have := W.len; lia), List.getD_eq_getElem?_getD, List.getD_eq_getElem?_getD, List.getElem?_take_of_lt (by lia)]
    rw [this]
  rw [hb]
  rw [Int.toNat_of_nonneg h0]
theorem aheadOk {n : Nat} {wts : List (List Int)} (W : WtOk n wts) : Ahead (numsN n) (wtF wts) (ahF wts) := by
  refine ⟨fun x hx k => ?_, fun x hx => ⟨(numsN_mem.mp hx).1, (W.at hx).2.2.1⟩⟩
  rw [ahF_mem W hx]
  refine ⟨fun h => h.2, fun h => ⟨?_, h⟩⟩
  have hr := (W.at hx).2.2.1
  rcases h with h | ⟨m, hm, h⟩
  · exact ⟨(hr k h).1, (hr k h).2.1⟩
  · obtain ⟨m0, m1, m2⟩ := hr m hm
    have := ((ahF_mem W m2).mp h).1
    lia
theorem ahF_nodup {n : Nat} {wts : List (List Int)} (W : WtOk n wts) {x : Int} (hx : x ∈ numsN n) : (ahF wts x).Nodup ∧ (ahF wts x).length ≤ n := by
  obtain ⟨e, hl, _⟩ := ahF_at W hx
  obtain ⟨h0, h1⟩ := numsN_mem.mp hx
  rw [e]
  refine ⟨(numsN_nodup _).sublist List.filter_sublist, Nat.le_trans (List.length_filter_le _ _) ?_⟩
  rw [numsN_len, hl]; lia
theorem netOk {n : Nat} {wts : List (List Int)} (W : WtOk n wts) {pcl : List (List Nat)} (hl : pcl.length = n) (hp : ∀ t ∈ pcl, isPc t) : Net (numsN n) (ahF wts) (pcAt pcl) := by
  have A := aheadOk W
  refine ⟨numsN_nodup n, A.sub, A.tr, fun x hx => (ahF_nodup W hx).1, fun x hx => ?_⟩
  obtain ⟨h0, h1⟩ := numsN_mem.mp hx
  have e : x.toNat < pcl.length := by lia
  unfold pcAt
  rw [List.getD_eq_getElem?_getD, List.getElem?_eq_getElem e]
  exact hp _ (List.getElem_mem e)
theorem pre_split {α : Type} {a b u v : List α} (h : a ++ b = u ++ v) : (∃ c, u = a ++ c) ∨ ∃ c, a = u ++ c ∧ v = c ++ b := by
  rcases List.append_eq_append_iff.mp h with ⟨c, h1, h2⟩ | ⟨c, h1, h2⟩
  · exact .inl ⟨c, h1⟩
  · exact .inr ⟨c, h1, h2⟩
theorem rep_flat (m c : Nat) : (List.replicate m [c]).flatten = List.replicate m c := by
  induction m with
  | zero => rfl
  | succ m ih => rw [List.replicate_succ, List.flatten_cons, ih, List.replicate_succ]; rfl
theorem rep_pre {α : Type} {x : α} {m : Nat} {a c : List α} (h : List.replicate m x = a ++ c) : a = List.replicate a.length x ∧ a.length ≤ m := by
  have hl : m = a.length + c.length := by have := congrArg List.length h; simpa using this
  refine ⟨List.eq_replicate_iff.mpr ⟨rfl, fun y hy => ?_⟩, by lia⟩
  have : y ∈ List.replicate m x := by rw [h]; exact List.mem_append_left _ hy
  exact (List.mem_replicate.mp this).2
/-- the texts that the law looks at -/
noncomputable def txt (m : Nat) (pc : Int → List Nat) (order : List Int) (t : Nat) : List Nat := List.replicate m 40 ++ (order.map pc).flatten ++ List.replicate t 41
noncomputable def txtP (m : Nat) (pc : Int → List Nat) (order : List Int) (t : Nat) : List (List Nat) := List.replicate m [40] ++ (order.map pc ++ List.replicate t [41])
theorem txt_chk {m : Nat} {pc : Int → List Nat} {order : List Int} {t : Nat} (hp : ∀ x ∈ order, isPc (pc x)) : chkS (txt m pc order t) = bal (txtP m pc order t) 0 := by
  rw [← chkS_pieces]
  · unfold txt txtP
    rw [List.flatten_append, List.flatten_append, rep_flat, rep_flat, List.append_assoc]
  · intro x hx
    unfold txtP at hx
    rcases List.mem_append.mp hx with hx | hx
    · rw [(List.mem_replicate.mp hx).2]; exact .inl rfl
    · rcases List.mem_append.mp hx with hx | hx
      · obtain ⟨y, hy, rfl⟩ := List.mem_map.mp hx
        exact hp y hy
      · rw [(List.mem_replicate.mp hx).2]; exact .inr (.inl rfl)
theorem txt_true {m : Nat} {pc : Int → List Nat} {order : List Int} {t : Nat} (hp : ∀ x ∈ order, isPc (pc x)) (h : ∀ a b, order = a ++ b → 0 ≤ (m : Int) + valS (a.map pc)) (ht : (m : Int) + valS (order.map pc) = t) : chkS (txt m pc order t) = true := by
  rw [txt_chk hp]
  refine bal_true _ 0 (Int.le_refl _) (fun a b e => ?_) ?_
  · unfold txtP at e
    rw [Int.zero_add]
    rcases pre_split e.symm with ⟨c, h1⟩ | ⟨c, rfl, h2⟩
    · obtain ⟨h2, _⟩ := rep_pre h1
      rw [h2, valS_open]; lia
    · rw [valS_append, valS_open]
      rcases pre_split h2.symm with ⟨c2, h3⟩ | ⟨c2, rfl, h4⟩
      · have h3 : order.map pc = c ++ c2 := h3
        obtain ⟨a, b, rfl, rfl, rfl⟩ := List.map_eq_append_iff.mp h3
        exact h a b rfl
      · obtain ⟨h5, h6⟩ := rep_pre h4
        rw [valS_append, h5, valS_close]
        lia
  · unfold txtP
    rw [valS_append, valS_append, valS_open, valS_close]
    lia
theorem txt_false {m : Nat} {pc : Int → List Nat} {order a b : List Int} {t : Nat} (hp : ∀ x ∈ order, isPc (pc x)) (e : order = a ++ b) (h : (m : Int) + valS (a.map pc) < 0) : chkS (txt m pc order t) = false := by
  rw [txt_chk hp]
  unfold txtP
  rw [e, List.map_append, show List.replicate m [40] ++ (a.map pc ++ b.map pc ++ List.replicate t [41]) = (List.replicate m [40] ++ a.map pc) ++ (b.map pc ++ List.replicate t [41]) by simp]
  refine bal_false _ _ 0 (Int.le_refl _) ?_
  rw [valS_append, valS_open]; lia
section
variable {n : Nat} {wts : List (List Int)} {pcl : List (List Nat)} {O : List Int} {M : List (Int × Int)} {mk mk2 : Int → Int} {order : List Int}
noncomputable def overF (n : Nat) (pc : Int → List Nat) : Int := (opsO (numsN n) pc).length - (clsO (numsN n) pc).length
theorem over_order {pc : Int → List Nat} {wt : Int → List Int} (h : OrdOk (numsN n) wt mk order) (hall : ∀ x ∈ numsN n, x ∈ order) : valS (order.map pc) = overF n pc := by
  have p : order.Perm (numsN n) := (List.perm_ext_iff_of_nodup h.nd (numsN_nodup n)).mpr fun x => ⟨h.sub x, hall x⟩
  have e1 : (opsO order pc).length = (opsO (numsN n) pc).length := (p.filter _).length_eq
  have e2 : (clsO order pc).length = (clsO (numsN n) pc).length := (p.filter _).length_eq
  rw [valS_nodes, e1, e2]; rfl
theorem run_ge (W : WtOk n wts) (hl : pcl.length = n) (hp : ∀ t ∈ pcl, isPc t) (Sg : Stage (chO (numsN n) (ahF wts) (pcAt pcl)) O (clsO (numsN n) (pcAt pcl)) M) (h : OrdOk (numsN n) (wtF wts) mk order) {a b : List Int} (e : order = a ++ b) :
    0 ≤ ((aloneO (numsN n) (pcAt pcl) M).length : Int) + valS (a.map (pcAt pcl)) := by
  obtain ⟨h1, h2, h3⟩ := h.pre e
  exact part_ge (netOk W hl hp) Sg h1 h2 ((aheadOk W).down h2 h3)
/-- the runs' texts under the test: with as many open ones ahead as stay alone it says yes -/
theorem run_true (W : WtOk n wts) (hl : pcl.length = n) (hp : ∀ t ∈ pcl, isPc t) (Sg : Stage (chO (numsN n) (ahF wts) (pcAt pcl)) O (clsO (numsN n) (pcAt pcl)) M) (h : OrdOk (numsN n) (wtF wts) mk order) (hall : ∀ x ∈ numsN n, x ∈ order) :
    0 ≤ ((aloneO (numsN n) (pcAt pcl) M).length : Int) + overF n (pcAt pcl) ∧ chkS (txt (aloneO (numsN n) (pcAt pcl) M).length (pcAt pcl) order (((aloneO (numsN n) (pcAt pcl) M).length : Int) + overF n (pcAt pcl)).toNat) = true := by
  have e0 := over_order (pc := pcAt pcl) h hall
  have h0 := run_ge W hl hp Sg h (a := order) (b := []) (by simp)
  rw [e0] at h0
  refine ⟨h0, txt_true (fun x hx => (netOk W hl hp).isp x (h.sub x hx)) (fun a b e => run_ge W hl hp Sg h e) ?_⟩
  rw [e0]; lia
/-- and no with fewer, when the front is run first -/
theorem run_false (W : WtOk n wts) (hl : pcl.length = n) (hp : ∀ t ∈ pcl, isPc t) (Sg : Stage (chO (numsN n) (ahF wts) (pcAt pcl)) O (clsO (numsN n) (pcAt pcl)) M) {Z : Int → Prop} {R : List Int} (HR : Reach (chO (numsN n) (ahF wts) (pcAt pcl)) M (clsO (numsN n) (pcAt pcl)) (aloneO (numsN n) (pcAt pcl) M) Z R R.length)
    (h : OrdOk (numsN n) (wtF wts) mk order) (hall : ∀ x ∈ numsN n, x ∈ order) (h0 : ∀ x ∈ numsN n, (x ∈ R ∨ ∃ k ∈ R, x ∈ ahF wts k) → mk x = 0) (h1 : ∀ x ∈ numsN n, ¬ (x ∈ R ∨ ∃ k ∈ R, x ∈ ahF wts k) → mk x = 1) {m t : Nat} (hm : m < (aloneO (numsN n) (pcAt pcl) M).length) :
    chkS (txt m (pcAt pcl) order t) = false := by
  have A := aheadOk W
  have hRN : ∀ r ∈ R, r ∈ numsN n := fun r hr => (List.mem_filter.mp (HR.sub r hr)).1
  obtain ⟨a, b, e, hf⟩ := h.front hall A (fr := fun x => x ∈ R ∨ ∃ k ∈ R, x ∈ ahF wts k) (fun x hx hfx m hm => by
    rcases hfx with q | ⟨k, hk, q⟩
    · exact .inr ⟨x, q, (A.mem x hx m).mpr (.inl hm)⟩
    · exact .inr ⟨k, hk, A.tr k (hRN k hk) x q m ((A.mem x hx m).mpr (.inl hm))⟩) h0 h1
  obtain ⟨p1, p2, p3⟩ := h.pre e
  have := front_le (netOk W hl hp) Sg HR p1 p2 hf
  exact txt_false (fun x hx => (netOk W hl hp).isp x (h.sub x hx)) e (by lia)
end
theorem dO_cls {C : Cx} {kvs : List (Int × Value)} {ep : Nat} {a : Addr} (s : Shared) (o : Obj) (h : Rep s a (dO C kvs ep)) (ho : s.heap.get? a = some o) : o.cls ≠ .type "tuple" := by
  obtain ⟨o', h1, es, ks, hx, _⟩ := h
  rw [h1] at ho
  cases ho
  rw [hx.1]
  decide
theorem nodup_take_not {l : List Int} (nd : l.Nodup) {i : Nat} {c : Int} (h : l[i]? = some c) : c ∉ l.take i := by
  intro q
  have e : l = l.take i ++ c :: l.drop (i + 1) := by
    obtain ⟨hi, rfl⟩ := List.getElem?_eq_some_iff.mp h
    rw [← List.drop_eq_getElem_cons hi, List.take_append_drop]
  rw [e, List.nodup_append] at nd
  exact nd.2.2 c q c (.head _) rfl
theorem Stage.book {ch : Int → List Int} {O cs : List Int} {M : List (Int × Int)} (S : Stage ch O cs M) {m : Nat} (h : ∀ x ∈ cs, 0 ≤ x ∧ x < (m : Int)) : BookOk O m M [] :=
  ⟨S.keys, S.keysO, fun o x e => h x (S.img o x e), List.nodup_nil, fun o q => by cases q⟩
theorem bkV_keys (M : List (Int × Int)) : (bkV M).map (·.1) = M.map (·.1) := by unfold bkV; rw [List.map_map]; rfl
theorem book_at {M : List (Int × Int)} (nd : (M.map (·.1)).Nodup) {i : Nat} {o : Int} (h : (M.map (·.1))[i]? = some o) : ∃ c, bkAt M o = some c ∧ M.take (i + 1) = M.take i ++ [(o, c)] := by
  rw [List.getElem?_map] at h
  obtain ⟨⟨o', c⟩, hp, rfl⟩ := Option.map_eq_some_iff.mp h
  refine ⟨c, ?_, by rw [List.take_add_one, hp]; rfl⟩
  clear h
  unfold bkAt
  have : (M.find? fun q => decide (q.1 = (o', c).1)) = some (o', c) := by
    induction M generalizing i with
    | nil => cases hp
    | cons q M ih =>
      rw [List.map_cons, List.nodup_cons] at nd
      rw [List.find?_cons]
      cases i with
      | zero => cases hp; simp
      | succ i =>
        have hm : (o', c) ∈ M := List.mem_of_getElem? hp
        have : ¬ q.1 = o' := fun e => nd.1 (e ▸ List.mem_map_of_mem (f := (·.1)) hm)
        simp only [this, decide_false]
        exact ih nd.2 hp
  rw [this]; rfl
section
variable {n : Nat} {wts : List (List Int)} {pcl : List (List Nat)}
theorem chO_at {N : List Int} {ah : Int → List Int} {pc : Int → List Nat} {c : Int} (h : c ∈ N) : chO N ah pc c = (ah c).filter fun o => decide (pc o = [40]) := if_pos h
theorem chO_mem (W : WtOk n wts) {c o : Int} (h : o ∈ chO (numsN n) (ahF wts) (pcAt pcl) c) : c ∈ numsN n ∧ o ∈ opsO (numsN n) (pcAt pcl) := by
  unfold chO at h
  split at h
  · rename_i hc
    obtain ⟨h1, h2⟩ := List.mem_filter.mp h
    exact ⟨hc, List.mem_filter.mpr ⟨(aheadOk W).sub c hc o h1, h2⟩⟩
  · cases h
theorem chO_len (W : WtOk n wts) (c : Int) : (chO (numsN n) (ahF wts) (pcAt pcl) c).Nodup ∧ (chO (numsN n) (ahF wts) (pcAt pcl) c).length ≤ n := by
  unfold chO
  split
  · rename_i hc
    obtain ⟨h1, h2⟩ := ahF_nodup W hc
    exact ⟨h1.sublist List.filter_sublist, Nat.le_trans (List.length_filter_le _ _) h2⟩
  · exact ⟨List.nodup_nil, Nat.zero_le _⟩
theorem opsO_len (pc : Int → List Nat) : (opsO (numsN n) pc).length ≤ n := by have := List.length_filter_le (fun c => decide (pc c = [40])) (numsN n); rw [numsN_len] at this; exact this
theorem clsO_len (pc : Int → List Nat) : (clsO (numsN n) pc).length ≤ n := by have := List.length_filter_le (fun c => decide (pc c = [41])) (numsN n); rw [numsN_len] at this; exact this
theorem clsO_nodup (pc : Int → List Nat) : (clsO (numsN n) pc).Nodup := (numsN_nodup n).sublist List.filter_sublist
theorem clsO_lim {pc : Int → List Nat} {x : Int} (h : x ∈ clsO (numsN n) pc) : 0 ≤ x ∧ x < (n : Int) := numsN_mem.mp (List.mem_filter.mp h).1
theorem aloneO_sub {pc : Int → List Nat} {M : List (Int × Int)} {x : Int} (h : x ∈ aloneO (numsN n) pc M) : x ∈ clsO (numsN n) pc := (List.mem_filter.mp h).1
theorem aloneO_nodup (pc : Int → List Nat) (M : List (Int × Int)) : (aloneO (numsN n) pc M).Nodup := (clsO_nodup pc).sublist List.filter_sublist
/-- from the end of the search: those that stay alone reach nothing free -/
theorem reach0 {ch : Int → List Int} {O : List Int} {M : List (Int × Int)} {pc : Int → List Nat} {Z : Int → Prop} (S : Stage ch O (clsO (numsN n) pc) M) (hZ : ∀ c ∈ clsO (numsN n) pc, (∀ o, bkAt M o ≠ some c) → ∀ o ∈ ch c, Z o) : Reach ch M (clsO (numsN n) pc) (aloneO (numsN n) pc M) Z (aloneO (numsN n) pc M) 0 := by
  refine ⟨aloneO_nodup pc M, fun r h => aloneO_sub h, fun a h => h, fun r hr o ho => hZ r (aloneO_sub hr) (fun o' e => ?_) o ho, fun i r h => absurd h (Nat.not_lt_zero _), fun r h => .inl h⟩
  have h2 := (List.mem_filter.mp hr).2
  simp only [decide_eq_true_eq] at h2
  exact h2 ((mem_vals S.keys r).mpr ⟨o', e⟩)
theorem pcl_map (hl : pcl.length = n) : (numsN n).map (pcAt pcl) = pcl := by
  refine List.ext_getElem? fun i => ?_
  unfold numsN
  rw [List.map_map, List.getElem?_map]
  by_cases h : i < n
  · rw [List.getElem?_range h]
    show some (pcl.getD i []) = _
    rw [List.getD_eq_getElem?_getD, List.getElem?_eq_getElem (by lia)]; rfl
  · rw [List.getElem?_eq_none (by rw [List.length_range]; lia), List.getElem?_eq_none (by lia)]; rfl
theorem count_ops (hl : pcl.length = n) : pcl.count [40] = (opsO (numsN n) (pcAt pcl)).length := by
  conv => lhs; rw [← pcl_map hl]
  rw [List.count_eq_countP, List.countP_map, List.countP_eq_length_filter]
  unfold opsO
  congr 1
  refine List.filter_congr fun x _ => ?_
  show (pcAt pcl x == [40]) = decide (pcAt pcl x = [40])
  by_cases h : pcAt pcl x = [40] <;> simp [h]
noncomputable def mk2 (n : Nat) (fr : List Int) : List Int := (numsN n).map fun x => if x ∈ fr then 0 else 1
theorem mk2_len (n : Nat) (fr : List Int) : (mk2 n fr).length = n := by unfold mk2; rw [List.length_map, numsN_len]
theorem mk2_at {fr : List Int} {x : Int} (h : x ∈ numsN n) : mkF (mk2 n fr) x = if x ∈ fr then 0 else 1 := by
  obtain ⟨h0, h1⟩ := numsN_mem.mp h
  unfold mkF mk2 numsN
  rw [List.map_map, List.getD_eq_getElem?_getD, List.getElem?_map, List.getElem?_range (by lia)]
  show (if ((x.toNat : Nat) : Int) ∈ fr then (0 : Int) else 1) = _
  rw [Int.toNat_of_nonneg h0]
theorem front_mem {R : List Int} {x : Int} (h : x ∈ numsN n) : x ∈ (numsN n).filter (frontT (aheadL wts) R) ↔ x ∈ R ∨ ∃ k ∈ R, x ∈ ahF wts k := by
  rw [List.mem_filter]
  unfold frontT
  rw [Bool.or_eq_true, decide_eq_true_iff, List.any_eq_true]
  constructor
  · rintro ⟨_, q | ⟨k, hk, q⟩⟩
    · exact .inl q
    · unfold behind at q
      exact .inr ⟨k, hk, of_decide_eq_true q⟩
  · rintro (q | ⟨k, hk, q⟩)
    · exact ⟨h, .inl q⟩
    · exact ⟨h, .inr ⟨k, hk, by unfold behind; exact decide_eq_true q⟩⟩
end
noncomputable def fdLaw1 : FuncData := fdOf (stmtAt pw_op0195_01 21) "law" 211 .none (.str "law_op0195_01" 425)
noncomputable def lawQ : Str := fdLaw1.qualname ++ ".<locals>." ++ "<lambda>"
noncomputable def lawPos : Pos := ⟨233, 19, 233, 74⟩
structure Law1 (C : Cx) : Prop where
  g : Gr C
  fNodes : Fn C 176 fdNodes
  fAhead : Fn C 181 fdAhead
  fFound : Fn C 188 fdFound
  fMended : Fn C 195 fdMended
  fFront : Fn C 200 fdFront
  fRun : Fn C 207 fdRun
  fLaw : Fn C 212 fdLaw1
  kRun : CodeOk C 206 202
  kLaw : CodeOk C 211 209
  blt : BltOk C
  n_range : Nm C "range" (.type "range")
  n_max : Nm C "max" (.builtin "max")
  n_sum : Nm C "sum" (.builtin "sum")
  n_list : Nm C "list" (.type "list")
  n_nodes : Nm C "_law_nodes" (.ref 176)
  n_ahead : Nm C "_law_ahead" (.ref 181)
  n_found : Nm C "_law_found" (.ref 188)
  n_mended : Nm C "_law_mended" (.ref 195)
  n_front : Nm C "_law_front" (.ref 200)
  n_run : Nm C "_law_run" (.ref 207)
theorem intL_cut (lo hi : Option Nat) (ns : List Int) : cut lo hi (intL ns) = intL (cut lo hi ns) := by
  unfold cut intL
  cases lo <;> cases hi <;> simp [List.map_take, List.map_drop]
theorem TE.postPerm {C : Cx} {d : Nat} {env : Env} {e : Expr} {H : SH} {Q : Value → SH → Prop} (h : TE C d e env H fun v H' => ∃ H₁, H'.Perm H₁ ∧ Q v H₁) : TE C d e env H Q := T.postPerm (T.mono h fun _ _ q => q)
theorem cCheckB {C : Cx} {d : Nat} {H : SH} {Q : Value → SH → Prop} (G : Top C) (cs : List Nat) (hz : cs.length ≤ 900) {b : Bool} (e : chkS cs = b) (h : Q (.bool b) H) : TCall C (d + 4) (.ref 42) [.str (S cs) 0] H Q := by
  subst e
  exact cCheck G cs hz h
theorem map_partner {M : List (Int × Int)} (nd : (M.map (·.1)).Nodup) : (M.map (·.1)).map (partner M) = M.map (·.2) := by
  rw [List.map_map]
  refine List.map_congr_left fun p hp => ?_
  obtain ⟨i, hi, e⟩ := List.getElem_of_mem hp
  obtain ⟨c, h1, h2⟩ := book_at nd (i := i) (o := p.1) (by rw [List.getElem?_map, List.getElem?_eq_getElem hi, e]; rfl)
  rw [List.take_add_one, List.getElem?_eq_getElem hi, e] at h2
  have h3 : [p] = [(p.1, c)] := List.append_cancel_left h2
  show partner M p.1 = p.2
  unfold partner
  rw [h1]
  exact (congrArg (·.2) (List.cons.inj h3).1).symm
structure Kept (R : SH) (lm lw lp : Addr) (mks : List Int) (ws : List Value) (pcl : List (List Nat)) (wts : List (List Int)) : Prop where
  lm : Has lm (.list (intL mks)) R
  lw : Has lw (.list ws) R
  lp : Has lp (.list (strV pcl)) R
  T : Tbl R ws wts
theorem Kept.mono {R R' : SH} {lm lw lp : Addr} {mks : List Int} {ws : List Value} {pcl : List (List Nat)} {wts : List (List Int)} (k : Kept R lm lw lp mks ws pcl wts) (up : ∀ a x, Has a x R → Has a x R') : Kept R' lm lw lp mks ws pcl wts := ⟨up _ _ k.lm, up _ _ k.lw, up _ _ k.lp, k.T.mono up⟩
noncomputable def filO (pcl : List (List Nat)) (row : List Int) : List Int := row.filter fun o => decide (pcAt pcl o = [40])
theorem Has.swapUp {K R R' A : SH} {a : Addr} {x : AObj} (h : Has a x (K ++ (A ++ R))) (new : ∀ a x, Has a x (K ++ R) → Has a x R') : Has a x (A ++ R') := by
  rcases List.mem_append.mp h.mem with q | q
  · exact .append_right (new _ _ (.append_left (.of_mem q)))
  · rcases List.mem_append.mp q with q | q
    · exact .append_left (.of_mem q)
    · exact .append_right (new _ _ (.append_right (.of_mem q)))
structure NodesOk (n : Nat) (pcl : List (List Nat)) (wts : List (List Int)) (mks : List Int) : Prop where
  n8 : n ≤ 8
  hpl : pcl.length = n
  hml : mks.length = n
  hpc : ∀ t ∈ pcl, isPc t
  W : WtOk n wts
theorem cNodes1 {C : Cx} {d : Nat} {H : SH} {Q : Value → SH → Prop} (F : Fn C 176 fdNodes) (Lm : Lim C) (nsum : Nm C "sum" (.builtin "sum")) (nl : Nm C "len" (.builtin "len")) (nr : Nm C "range" (.type "range"))
    (ns : List Int) (hn : ns.length ≤ 6) {ln : Addr} (hln : Has ln (.list (intL ns)) H)
    (h : ∀ n pcl wts mks, NodesOk n pcl wts mks → ∀ tp lp lw lm ws K, Tbl K ws wts → Q (.ref tp) ((tp, .tup [.ref lp, .ref lw, .ref lm]) :: (lm, .list (intL mks)) :: (lw, .list ws) :: (lp, .list (strV pcl)) :: (K ++ H))) :
    TCall C (d + 1) (.ref 176) [.ref ln] H Q := by
  refine cNodes F Lm nsum nl nr ns hn hln fun tp lp lw lm ws K hT => h _ _ _ _ ⟨?_, List.length_map _, by simp [marksF], fun t ht => ?_, wtOk ?_⟩ tp lp lw lm ws K hT
  · simp [xsF]; lia
  · obtain ⟨x, _, rfl⟩ := List.mem_map.mp ht
    exact isPc_pcF x
  · simp [xsF]; lia
/-- reduce over a list into a book -/
theorem cReduceBook {C : Cx} {d : Nat} {K : SH} {Q : Value → SH → Prop} (G : Top C) {f l b : Addr} {M0 : List (Int × Int)} {ep0 : Nat} {xs : List Value} (hl : Has l (.list xs) K) (hf : KeepOk C (.ref f) K) (P : Nat → List (Int × Int) → Prop) (h0 : P 0 M0)
    (step : ∀ i u M ep, xs[i]? = some u → P i M → TCall C d (.ref f) [.ref b, u] ((b, dO C (bkV M) ep) :: K) fun w H' => ∃ M' ep', w = .ref b ∧ P (i + 1) M' ∧ H' = (b, dO C (bkV M') ep') :: K)
    (fin : ∀ M ep, P xs.length M → Q (.ref b) ((b, dO C (bkV M) ep) :: K)) : TCall C (d + 1) (.ref 51) [.ref f, .ref l, .ref b] ((b, dO C (bkV M0) ep0) :: K) Q := by
  refine cReduce3 (xs := xs) G .head dO_cls (fun i v Hi => ∃ M ep, v = .ref b ∧ P i M ∧ Hi = (b, dO C (bkV M) ep) :: K) (fun i v Hi z => ?_) ⟨M0, ep0, rfl, h0, rfl⟩ (fun i v Hi z => ?_) (fun i u v Hi hu z => ?_) fun v Hn z => ?_
  · obtain ⟨M, ep, _, _, rfl⟩ := z
    exact .tail hl
  · obtain ⟨M, ep, _, _, rfl⟩ := z
    exact hf.add (K := [_])
  · obtain ⟨M, ep, rfl, h, rfl⟩ := z
    exact step i u M ep hu h
  · obtain ⟨M, ep, rfl, h, rfl⟩ := z
    exact fin M ep h
set_option maxHeartbeats 4000000 in
theorem cLaw1 {C : Cx} {d : Nat} (X : Law1 C) (ns : List Int) (hns : ns.length ≤ 63) {sc : Addr} (O : OldL C sc (intL ns)) :
    TCall C.on0 (d + 21) (.ref 212) [.ref sc] [(202, tabO runPos none), (209, tabO lawPos none)] fun v H' => v = .bool true ∧ (∃ oc, Has 202 (tabO runPos oc) H') ∧ ∃ oc, Has 209 (tabO lawPos oc) H' := by
  have G := X.g
  have Lm := G.lm
  have hsz : ∀ n : Nat, n ≤ 1000 → n ≤ sizeLine := fun n hn => Nat.le_trans hn (sz rfl)
  have hlw : ∀ {l : List Int}, l.length ≤ 900 → (intL l).length ≤ sizeLine := fun h => by rw [intL_length]; exact hsz _ (Nat.le_trans h (by lia))
  refine TCall.defOn0 (eb := [(Str.ofString "script", .ref sc)]) Lm.off X.fLaw Lm (body := bodyOf (stmtAt pw_op0195_01 21)) (by kernel_rfl) (by kernel_rfl) (by decide +kernel) ?_ ?_
  · intro xs ex
    obtain ⟨x, rfl, e1⟩ := args1 ex
    refine ⟨[(Str.ofString "script", x)], by kernel_rfl, by simp [erB, e1], ?_⟩
    intro q hq
    simp only [List.mem_cons, List.not_mem_nil, or_false] at hq
    rcases hq with rfl
    exact .inl (by kernel_rfl)
  intro env E
  have hk : env.scope.kind = .function := by rw [E.scope]; kernel_rfl
  obtain ⟨as, hal, hcs, hent⟩ := E.entry (eb := [(Str.ofString "script", .ref sc)]) [(Str.ofString "choices", none), (Str.ofString "front", none), (Str.ofString "paired", none), (Str.ofString "pairs", none), (Str.ofString "pieces", none)] (m := (rR (Str.ofString "script") sc (rV (Str.ofString "waits") none (rV (Str.ofString "marks") none (rV (Str.ofString "ahead") none (rV (Str.ofString "closers") none (rV (Str.ofString "alone") none (rV (Str.ofString "drawn") none (rV (Str.ofString "first") none (rV (Str.ofString "over") none (rV (Str.ofString "more") none (rV (Str.ofString "taken") none [])))))))))))) (by kernel_rfl) (by kernel_rfl) (by kernel_rfl) [(202, tabO runPos none), (209, tabO lawPos none)]
  obtain ⟨cch, cfr, cpd, cpr, cpc, rfl⟩ := len5 hal
  rw [hent]
  have hm : InMain env := ⟨E.globals, E.builtins⟩
  have k_script : env.kindOf (Str.ofString "script") = some NameKind.local := E.kind (by kernel_rfl)
  have k_pieces : env.kindOf (Str.ofString "pieces") = some NameKind.cell := E.kind (by kernel_rfl)
  have k_waits : env.kindOf (Str.ofString "waits") = some NameKind.local := E.kind (by kernel_rfl)
  have k_marks : env.kindOf (Str.ofString "marks") = some NameKind.local := E.kind (by kernel_rfl)
  have k_ahead : env.kindOf (Str.ofString "ahead") = some NameKind.local := E.kind (by kernel_rfl)
  have k_closers : env.kindOf (Str.ofString "closers") = some NameKind.local := E.kind (by kernel_rfl)
  have k_pairs : env.kindOf (Str.ofString "pairs") = some NameKind.cell := E.kind (by kernel_rfl)
  have k_paired : env.kindOf (Str.ofString "paired") = some NameKind.cell := E.kind (by kernel_rfl)
  have k_alone : env.kindOf (Str.ofString "alone") = some NameKind.local := E.kind (by kernel_rfl)
  have k_front : env.kindOf (Str.ofString "front") = some NameKind.cell := E.kind (by kernel_rfl)
  have k_drawn : env.kindOf (Str.ofString "drawn") = some NameKind.local := E.kind (by kernel_rfl)
  have k_first : env.kindOf (Str.ofString "first") = some NameKind.local := E.kind (by kernel_rfl)
  have k_over : env.kindOf (Str.ofString "over") = some NameKind.local := E.kind (by kernel_rfl)
  have k_more : env.kindOf (Str.ofString "more") = some NameKind.local := E.kind (by kernel_rfl)
  have k_taken : env.kindOf (Str.ofString "taken") = some NameKind.local := E.kind (by kernel_rfl)
  have k_choices : env.kindOf (Str.ofString "choices") = some NameKind.cell := E.kind (by kernel_rfl)
  have k_UlawUnodes : env.kindOf (Str.ofString "_law_nodes") = some NameKind.globalImplicit := E.kind (by kernel_rfl)
  have k_UlawUahead : env.kindOf (Str.ofString "_law_ahead") = some NameKind.globalImplicit := E.kind (by kernel_rfl)
  have k_range : env.kindOf (Str.ofString "range") = some NameKind.globalImplicit := E.kind (by kernel_rfl)
  have k_len : env.kindOf (Str.ofString "len") = some NameKind.globalImplicit := E.kind (by kernel_rfl)
  have k_reduce : env.kindOf (Str.ofString "reduce") = some NameKind.globalImplicit := E.kind (by kernel_rfl)
  have k_UlawUfront : env.kindOf (Str.ofString "_law_front") = some NameKind.globalImplicit := E.kind (by kernel_rfl)
  have k_UlawUrun : env.kindOf (Str.ofString "_law_run") = some NameKind.globalImplicit := E.kind (by kernel_rfl)
  have k_UcheckUparenthesis : env.kindOf (Str.ofString "_check_parenthesis") = some NameKind.globalImplicit := E.kind (by kernel_rfl)
  have k_max : env.kindOf (Str.ofString "max") = some NameKind.globalImplicit := E.kind (by kernel_rfl)
  have hcch : env.cells.lookup (Str.ofString "choices") = some cch := by rw [hcs]; rfl
  have hcfr : env.cells.lookup (Str.ofString "front") = some cfr := by rw [hcs]; rfl
  have hcpd : env.cells.lookup (Str.ofString "paired") = some cpd := by rw [hcs]; rfl
  have hcpr : env.cells.lookup (Str.ofString "pairs") = some cpr := by rw [hcs]; rfl
  have hcpc : env.cells.lookup (Str.ofString "pieces") = some cpc := by rw [hcs]; rfl
  have q1 : Nm (C.on env) "len" (.builtin "len") := G.n_len.on
  have q2 : Nm (C.on env) "range" (.type "range") := X.n_range.on
  have q4 : Nm (C.on env) "max" (.builtin "max") := X.n_max.on
  have q5 : Nm (C.on env) "_law_nodes" (.ref 176) := X.n_nodes.on
  have q6 : Nm (C.on env) "_law_ahead" (.ref 181) := X.n_ahead.on
  have q7 : Nm (C.on env) "_law_front" (.ref 200) := X.n_front.on
  have q8 : Nm (C.on env) "_law_run" (.ref 207) := X.n_run.on
  have q9 : Nm (C.on env) "reduce" (.ref 51) := G.n_reduce.on
  have q10 : Nm (C.on env) "_check_parenthesis" (.ref 42) := G.n_check.on
  have so := s_open
  have sc' := s_close
  show TX (C.on env) (d + 20) (_ :: _ :: _ :: _ :: _ :: _ :: _ :: _ :: _ :: _ :: _ :: _ :: _ :: []) env ((env.locals, _) :: (cch, .cell none) :: (cfr, .cell none) :: (cpd, .cell none) :: (cpr, .cell none) :: (cpc, .cell none) :: (202, tabO runPos none) :: (209, tabO lawPos none) :: []) _
  refine TX.asgTup hk ?_
  walk_at "xs"
  intro sl
  refine TGet.oldCut (lo := none) (hi := some 6) O.on .head (hlw (by lia)) fun l5 => ?_
  walk_at "xs"
  rw [intL_cut, show cut none (some 6) ns = ns.take 6 from rfl]
  refine X.fNodes.on.go (TCall.weak Lm.off ?_)
  refine cNodes1 (d := d + 19) X.fNodes Lm X.n_sum G.n_len X.n_range (ns.take 6) (by simp; lia) .head fun n pcl wts mks NO tp lp lw lm ws K hT => ?_
  refine ⟨tp, _, rfl, .head, ?_⟩
  refine TSeq.cons ?_
  (with_reducible refine' ⟨_, Sto.cell ‹_› ‹_› ?hs, ?_⟩; (case hs => walk_at "swap"))
  refine TSeq.cons ?_
  walk_at "sto"
  refine TSeq.cons ?_
  walk_at "sto"
  refine TSeq.nil ?_
  obtain ⟨hx8, hpl, hml, hpc, W⟩ := NO
  refine TX.drop (.cons _ (.cons_cons _ (.cons_cons _ (.cons_cons _ (List.Sublist.append (.refl _) (.cons _ (.cons _ (.refl _)))))))) (TX.perm (List.perm_append_comm (l₁ := _ :: _ :: _ :: K) (l₂ := [_, _, _, _, _, _, _, _])) ?_)
  refine TX.hide [_, _, _, _, _, _, _, _] (K := (lm, .list (intL mks)) :: (lw, .list ws) :: (lp, .list (strV pcl)) :: K) fun R new => ?_
  have r1 : Kept R lm lw lp mks ws pcl wts := ⟨new _ _ .head, new _ _ (.tail .head), new _ _ (.tail (.tail .head)), hT.mono fun a x z => new _ _ (.tail (.tail (.tail z)))⟩
  clear new hT
  show TX (C.on env) (d + 20) _ env ((env.locals, _) :: (cch, _) :: (cfr, _) :: (cpd, _) :: (cpr, _) :: (cpc, _) :: (202, _) :: (209, _) :: R) _
  walk_at "xs"
  refine X.fAhead.on.go (TCall.weak Lm.off ?_)
  refine cAhead (d := d + 19) X.fAhead Lm G.n_len X.n_range wts (by rw [W.len]; exact hx8) (fun i row h => ⟨(W.row i row h).2.1, (W.row i row h).2.2⟩) (.append_right (H := [_, _, _, _, _, _, _, _]) r1.lw) (r1.T.mono fun a x z => .append_right (H := [_, _, _, _, _, _, _, _]) z) fun la as K hA => ?_
  walk_at "sto"
  refine TX.stow ((la, .list as) :: K) [_, _, _, _, _, _, _, _] fun R2 new up => ?_
  have r_la := new _ _ .head
  have r_A := hA.mono fun a x z => new _ _ (.tail z)
  replace r1 := r1.mono up
  clear up new hA K R
  show TX (C.on env) (d + 20) _ env ((env.locals, _) :: (cch, _) :: (cfr, _) :: (cpd, _) :: (cpr, _) :: (cpc, _) :: (202, _) :: (209, _) :: R2) _
  refine TX.asg hk ?_ (swaps_cell k_choices)
  refine TE.comp (own := false) (cl := [(Str.ofString "pieces", cpc)]) (closureFor_is (by rw [hcs]; rfl)) (by rfl) (namesB_ok (by kernel_rfl)) (by rfl) (by rfl) ?_
  walk_at "xs"
  have hasl : as.length = n := by rw [r_A.1, aheadL_len, W.len]
  have hpiece : ∀ x ∈ numsN n, (strV pcl)[x.toNat]? = some (.str (S (pcAt pcl x)) 0) := fun x hx => by
    obtain ⟨h0, h1⟩ := numsN_mem.mp hx
    have e : x.toNat < pcl.length := by lia
    unfold strV pcAt
    rw [List.getElem?_map, List.getD_eq_getElem?_getD, List.getElem?_eq_getElem e]
    rfl
  refine ⟨_, _, Iter.list (xs := as), hsz _ (by lia), fun i acc Hi => ∃ K, Tbl K acc (((aheadL wts).take i).map (filO pcl)) ∧ Hi = K ++ ((env.locals, .ns (rR (Str.ofString "script") sc (rR (Str.ofString "waits") lw (rR (Str.ofString "marks") lm (rR (Str.ofString "ahead") la (rV (Str.ofString "closers") none (rV (Str.ofString "alone") none (rV (Str.ofString "drawn") none (rV (Str.ofString "first") none (rV (Str.ofString "over") none (rV (Str.ofString "more") none (rV (Str.ofString "taken") none [])))))))))))) :: (cch, .cell none) :: (cfr, .cell none) :: (cpd, .cell none) :: (cpr, .cell none) :: (cpc, .cell (some (.ref lp))) :: (202, tabO runPos none) :: (209, tabO lawPos none) :: R2), ⟨[], ⟨rfl, fun j row h => (by cases h)⟩, rfl⟩, ?_, ?_, ?_⟩
  · rintro i acc Hi ⟨K, _, rfl⟩
    exact .append_right (.append_right (H := [_, _, _, _, _, _, _, _]) r_la)
  · rintro cenv Ec i u acc Hi hu ⟨K, hK, rfl⟩
    obtain ⟨a, row, hrow, rfl, hra⟩ := r_A.row hu
    have kr : cenv.kindOf (Str.ofString "row") = some .local := Ec.local (by rfl)
    have kp : cenv.kindOf (Str.ofString "pieces") = some .cell := Ec.cell (by rfl) hk k_pieces
    have kc : cenv.scope.kind = .function := Ec.kind (by rfl)
    have hcp := Ec.look0 (x := Str.ofString "pieces") (a := cpc) (by rfl) (by rfl)
    refine TIfs.nil1 ?_
    unfold compPV
    show TE (C.on env) (d + 20) _ cenv ((_, .ns [(_, some (.ref a))]) :: (K ++ _)) _
    refine TE.postPerm ?_
    refine TE.comp (own := false) (cl := [(Str.ofString "pieces", cpc)]) (closureFor_is (by rw [Ec.cells0 (by rfl)]; rfl)) (by rfl) (namesB_ok (by kernel_rfl)) (by rfl) (by rfl) ?_
    walk_at "xs"
    have hi : i < n := by rw [← hasl]; exact (List.getElem?_eq_some_iff.mp hu).1
    have hin : (i : Int) ∈ numsN n := numsN_mem.mpr ⟨by lia, by lia⟩
    have erow : ahF wts i = row := by
      unfold ahF
      rw [List.getD_eq_getElem?_getD, show (i : Int).toNat = i from rfl, hrow]; rfl
    have hrN : ∀ x ∈ row, x ∈ numsN n := fun x hx => (aheadOk W).sub i hin x (by rw [erow]; exact hx)
    have hrl : row.length ≤ n := by rw [← erow]; exact (ahF_nodup W hin).2
    refine CompOk.ints (fun H' => Has cpc (.cell (some (.ref lp))) H' ∧ Has lp (.list (strV pcl)) H') (Iter.list (xs := intL row)) (by lia) (.tail (.append_right (.append_right (H := [_, _, _, _, _, _, _, _]) hra))) ⟨by walk_at "has", .tail (.append_right (.append_right (H := [_, _, _, _, _, _, _, _]) r1.lp))⟩ (fun r => intL (filO pcl r)) rfl (fun H' hP cenv2 Ec2 k o hi2 ho ht hmem => ?_) fun lr => ?_
    · obtain ⟨p1, p2⟩ := hP
      have hoN := hrN o hmem
      have k2 : cenv2.kindOf (Str.ofString "node") = some .local := Ec2.local (by rfl)
      have k3 : cenv2.kindOf (Str.ofString "pieces") = some .cell := Ec2.cell (by rfl) kc kp
      have k4 : cenv2.scope.kind = .function := Ec2.kind (by rfl)
      have hcp2 := Ec2.look0 (x := Str.ofString "pieces") (a := cpc) (by rfl) (by rfl)
      refine TIfs.one ?_
      unfold compPV
      show TB (C.on env) (d + 20) _ cenv2 ((_, .ns [(_, some (.int o 0))]) :: H') _
      walk_at "xs"
      refine TGet.list (.tail p2) (numsN_mem.mp hoN).1 (by have := (numsN_mem.mp hoN).2; lia) (hpiece o hoN) ?_
      walk_at "xs"
      refine split_bool (fun hb => ?_) (fun hb => ?_)
      · walk_at "xs"
        exact ⟨⟨_, sub_refl _⟩, keepI (p := fun o => decide (pcAt pcl o = [40])) ht hb⟩
      · exact ⟨⟨_, sub_refl _⟩, skipI (p := fun o => decide (pcAt pcl o = [40])) ht hb⟩
    · refine ⟨_, .swap _ _ _, _, _, rfl, (lr, .list (intL (filO pcl row))) :: K, ?_, rfl⟩
      rw [List.take_add_one, hrow]
      simp only [Option.toList_some, List.map_append, List.map_cons, List.map_nil]
      exact hK.snoc
  rintro cs Hn ⟨K, hC, rfl⟩ lc
  rw [hasl, List.take_of_length_le (by rw [aheadL_len, W.len]; exact Nat.le_refl _)] at hC
  (with_reducible refine' ⟨_, Sto.cell ‹_› ‹_› ?hs, ?_⟩; (case hs => walk_at "swap"))
  refine TX.stow ((lc, .list cs) :: K) [_, _, _, _, _, _, _, _] fun R3 new up => ?_
  have r_lc := new _ _ .head
  have r_C := hC.mono fun a x z => new _ _ (.tail z)
  replace r_la := up _ _ r_la
  replace r_A := r_A.mono up
  replace r1 := r1.mono up
  clear up new hC K R2
  show TX (C.on env) (d + 20) _ env ((env.locals, _) :: (cch, _) :: (cfr, _) :: (cpd, _) :: (cpr, _) :: (cpc, _) :: (202, _) :: (209, _) :: R3) _
  refine TX.asgComp (own := false) (cl := [(Str.ofString "pieces", cpc)]) hk (swaps_comp hk k_closers (by rfl) (by rfl)) (closureFor_is (by rw [hcs]; rfl)) (by rfl) (namesB_ok (by kernel_rfl)) (by rfl) (by rfl) ?_
  walk_at "xs"
  refine TCall.lenN (n := n) (.append_right (H := [_, _, _, _, _, _, _, _]) r1.lp) (by unfold strV; rw [List.length_map, hpl]) (by lia) ?_
  walk_at "xs"
  refine TCall.range1 fun r2 => ?_
  refine CompOk.rangeI (fun H' => Has cpc (.cell (some (.ref lp))) H' ∧ Has lp (.list (strV pcl)) H') (by lia) .head ⟨by walk_at "has", .tail (.append_right (H := [_, _, _, _, _, _, _, _]) r1.lp)⟩ (fun k => clsO (numsN k) (pcAt pcl)) rfl (fun H' hP cenv Ec k hki => ?_) fun lcl cls ecls => ?_
  · obtain ⟨p1, p2⟩ := hP
    have hkN : (k : Int) ∈ numsN n := numsN_mem.mpr ⟨by lia, by lia⟩
    have k2 : cenv.kindOf (Str.ofString "node") = some .local := Ec.local (by rfl)
    have k3 : cenv.kindOf (Str.ofString "pieces") = some .cell := Ec.cell (by rfl) hk k_pieces
    have k4 : cenv.scope.kind = .function := Ec.kind (by rfl)
    have hcp2 := Ec.look0 (x := Str.ofString "pieces") (a := cpc) (by rfl) (by rfl)
    refine TIfs.one ?_
    unfold compPV
    show TB (C.on env) (d + 20) _ cenv ((_, .ns [(_, some (.int (k : Int) 0))]) :: H') _
    walk_at "xs"
    refine TGet.list (.tail p2) (by lia) (by lia) (hpiece k hkN) ?_
    walk_at "xs"
    refine split_bool (fun hb => ?_) (fun hb => ?_)
    · walk_at "xs"
      exact ⟨⟨_, sub_refl _⟩, keepI (p := fun c => decide (pcAt pcl c = [41])) (numsN_succ k) hb⟩
    · exact ⟨⟨_, sub_refl _⟩, skipI (p := fun c => decide (pcAt pcl c = [41])) (numsN_succ k) hb⟩
  walk_at "sto"
  refine TX.stow [_, _] [_, _, _, _, _, _, _, _] fun R4 new up => ?_
  have r_cl := new _ _ .head
  replace r_lc := up _ _ r_lc
  replace r_C := r_C.mono up
  replace r_la := up _ _ r_la
  replace r_A := r_A.mono up
  replace r1 := r1.mono up
  clear up new R3
  show TX (C.on env) (d + 20) _ env ((env.locals, _) :: (cch, _) :: (cfr, _) :: (cpd, _) :: (cpr, _) :: (cpc, _) :: (202, _) :: (209, _) :: R4) _
  walk_at "xs"
  refine TE.lam0 (cl := [(Str.ofString "choices", cch)]) (q := lawQ) rfl (List.perm_middle (l₁ := [_, _, _, _, _, _, _])) (closureFor_is (by rw [hcs]; rfl)) E.globals E.code X.kLaw.on X.blt.on (by rw [E.qual]; rfl) fun f c' => ?_
  show TArgs (C.on env) (d + 20) _ _ env ((f, _) :: (c', _) :: (209, _) :: (env.locals, _) :: (cch, _) :: (cfr, _) :: (cpd, _) :: (cpr, _) :: (cpc, _) :: (202, _) :: R4) _
  walk_at "xs"
  refine TE.dict0 fun dp ep0 => ?_
  walk_at "xs"
  have hcn : ∀ x ∈ cls, 0 ≤ x ∧ x < (n : Int) := fun x hx => clsO_lim (by rw [← ecls]; exact hx)
  have hcd : cls.Nodup := by rw [ecls]; exact clsO_nodup _
  have hcl8 : cls.length ≤ n := by rw [ecls]; exact clsO_len _
  have hO := fun c o (h : o ∈ chO (numsN n) (ahF wts) (pcAt pcl) c) => (chO_mem W h).2
  have hcO : ∀ x, ∀ o ∈ chO (numsN n) (ahF wts) (pcAt pcl) x, 0 ≤ x ∧ x < (n : Int) := fun x o h => numsN_mem.mp (chO_mem W h).1
  have hO8 : (opsO (numsN n) (pcAt pcl)).length ≤ n := opsO_len _
  have hCh : ChOk R4 lc cs (chO (numsN n) (ahF wts) (pcAt pcl)) n := by
    refine ⟨r_lc, fun c h0 h1 => ?_⟩
    have hc := numsN_mem.mpr ⟨h0, h1⟩
    obtain ⟨b, h2, h3⟩ := r_C.getD (m := c) h0 (by rw [List.length_map, aheadL_len, W.len]; exact h1)
    refine ⟨b, h2, ?_⟩
    rw [List.getD_eq_getElem?_getD, List.getElem?_map, (ahF_at W hc).2.2] at h3
    rw [chO_at hc]
    exact h3
  refine G.fReduce.on.go (TCall.weak Lm.off ?_)
  refine cReduceBook (d := d + 19) (M0 := []) G.toTop (.tail (.tail (.append_right (H := [_, _, _, _, _, _, _, _]) r_cl))) (KeepOk.lam .head) (fun i M => Stage (chO (numsN n) (ahF wts) (pcAt pcl)) (opsO (numsN n) (pcAt pcl)) (cls.take i) M) (.nil _ _) (fun i u M ep hu St => ?_) fun M ep St => ?_
  · obtain ⟨c, hc, rfl, hi, ht, hmem⟩ := intL_item hu
    refine TCall.lam2 (d := d + 18) (p1 := Str.ofString "book") (p2 := Str.ofString "closer") (.tail .head) (.tail (.tail .head)) Lm (by intro pm ctv x y; kernel_rfl) (fun x hx => by simp only [List.mem_cons, List.not_mem_nil, or_false] at hx; rcases hx with rfl | rfl | rfl | rfl <;> decide) (by kernel_rfl) (by kernel_rfl) (by decide +kernel) fun le LE => ?_
    have kl1 : le.kindOf (Str.ofString "book") = some .local := LE.kind (by rfl)
    have kl2 : le.kindOf (Str.ofString "closer") = some .local := LE.kind (by rfl)
    have kl3 : le.kindOf (Str.ofString "choices") = some .free := LE.kind (by rfl)
    have kl5 : le.kindOf (Str.ofString "_law_mended") = some .globalImplicit := LE.kind (by rfl)
    have kl4 : le.scope.kind = .function := by rw [LE.scope]
    have kl6 : InMain le := ⟨LE.globals, LE.builtins⟩
    have q11 := X.n_mended
    have hcl : le.cells.lookup (Str.ofString "choices") = some cch := by rw [LE.cells]; rfl
    walk_at "xs"
    refine X.fMended.go ?_
    refine TCall.perm (List.Perm.swap _ _ _) ?_
    refine cMended (d := d + 8) (n := 9) X.fFound X.fMended Lm G.sys X.n_found _ _ hO n (by lia) hcO (by lia) (fun c => Nat.le_trans (chO_len W c).2 (by lia)) ⟨.tail (.tail (.tail (.append_right (H := [_, _, _, _, _, _, _, _]) hCh.at'))), fun c h0 h1 => (hCh.row c h0 h1).elim fun b z => ⟨b, z.1, .tail (.tail (.tail (.append_right (H := [_, _, _, _, _, _, _, _]) z.2)))⟩⟩ (by lia) (hcn c hmem) (St.book fun x hx => hcn x (List.mem_of_mem_take hx)) fun ep' => ?_
    exact ⟨_, .cons_cons _ (.cons _ (.refl _)), _, ep', rfl, (by rw [ht]; exact St.snoc hO (by lia) (nodup_take_not hcd hc)), rfl⟩
  rw [intL_length, List.take_length] at St
  (with_reducible refine' ⟨_, Sto.cell ‹_› ‹_› ?hs, ?_⟩; (case hs => walk_at "swap"))
  refine TX.drop (.cons_cons _ (.cons _ (.cons _ (.refl _)))) ?_
  refine TX.perm ((List.perm_append_comm_assoc [_, _] [_, _, _, _, _, _, _] R4).trans (.cons _ (List.perm_middle (l₁ := [_, _, _, _, _])))) ?_
  refine TX.hide [_, _, _, _, _, _, _] (K := (dp, dO C (bkV M) ep) :: (209, tabO lawPos (some c')) :: R4) fun R5 new => ?_
  have up : ∀ a x, Has a x R4 → Has a x R5 := fun a x z => new _ _ (.tail (.tail z))
  have r_dp := new _ _ .head
  have r_209 := new _ _ (.tail .head)
  replace r_cl := up _ _ r_cl
  replace r_la := up _ _ r_la
  replace r_A := r_A.mono up
  replace r1 := r1.mono up
  replace hCh : ChOk R5 lc cs (chO (numsN n) (ahF wts) (pcAt pcl)) n := ⟨up _ _ r_lc, fun c h0 h1 => (hCh.row c h0 h1).elim fun b z => ⟨b, z.1, up _ _ z.2⟩⟩
  clear up new r_lc r_C R4
  show TX (C.on env) (d + 20) _ env ((env.locals, _) :: (202, _) :: (cch, _) :: (cfr, _) :: (cpd, _) :: (cpr, _) :: (cpc, _) :: R5) _
  have hMl : M.length ≤ n := by
    have := len_sub St.keys St.keysO
    rw [List.length_map] at this
    lia
  refine TX.asg hk ?_ (swaps_cell k_paired)
  refine TE.comp (own := false) (cl := [(Str.ofString "pairs", cpr)]) (closureFor_is (by rw [hcs]; rfl)) (by rfl) (namesB_ok (by kernel_rfl)) (by rfl) (by rfl) ?_
  walk_at "xs"
  have hit : Iter (C.on env) (.ref dp) (intL ((bkV M).map (·.1))) (Has dp (dO (C.on env) (bkV M) ep)) := Iter.dictKeys ⟨G.sys.sys, G.sys.out⟩
  rw [bkV_keys] at hit
  refine CompOk.intsI (fun H' => Has cpr (.cell (some (.ref dp))) H' ∧ Has dp (dO (C.on env) (bkV M) ep) H') hit (by rw [List.length_map]; lia) (.append_right (H := [_, _, _, _, _, _, _]) r_dp) ⟨by walk_at "has", .append_right (H := [_, _, _, _, _, _, _]) r_dp⟩ (fun ks => ks.map (partner M)) rfl (fun H' hP cenv Ec i o hi ho ht hmem => ?_) fun lpd prd eprd => ?_
  · obtain ⟨p1, p2⟩ := hP
    obtain ⟨c, hbk, htk⟩ := book_at St.keys ho
    have k2 : cenv.kindOf (Str.ofString "opener") = some .local := Ec.local (by rfl)
    have k3 : cenv.kindOf (Str.ofString "pairs") = some .cell := Ec.cell (by rfl) hk k_pairs
    have k4 : cenv.scope.kind = .function := Ec.kind (by rfl)
    have hcp2 := Ec.look0 (x := Str.ofString "pairs") (a := cpr) (by rfl) (by rfl)
    refine TIfs.nil1 ?_
    unfold compPV
    show TE (C.on env) (d + 20) _ cenv ((_, .ns [(_, some (.int o 0))]) :: H') _
    walk_at "xs"
    refine TGet.dict (v := .int c 0) (.tail p2) (by rw [bkV_at, hbk]; rfl) ?_
    exact ⟨⟨_, sub_refl _⟩, mapI ht (by unfold partner; rw [hbk]; rfl)⟩
  rw [map_partner St.keys] at eprd
  (with_reducible refine' ⟨_, Sto.cell ‹_› ‹_› ?hs, ?_⟩; (case hs => walk_at "swap"))
  refine TX.stow [_] [_, _, _, _, _, _, _] fun R6 new up => ?_
  replace r_209 := up _ _ r_209
  have r_pd := new _ _ .head
  replace r_dp := up _ _ r_dp
  replace r_cl := up _ _ r_cl
  replace r_la := up _ _ r_la
  replace r_A := r_A.mono up
  replace r1 := r1.mono up
  replace hCh : ChOk R6 lc cs (chO (numsN n) (ahF wts) (pcAt pcl)) n := ⟨up _ _ hCh.at', fun c h0 h1 => (hCh.row c h0 h1).elim fun b z => ⟨b, z.1, up _ _ z.2⟩⟩
  clear up new R5
  show TX (C.on env) (d + 20) _ env ((env.locals, _) :: (202, _) :: (cch, _) :: (cfr, _) :: (cpd, _) :: (cpr, _) :: (cpc, _) :: R6) _
  refine TX.asgComp (own := false) (cl := [(Str.ofString "paired", cpd)]) hk (swaps_comp hk k_alone (by rfl) (by rfl)) (closureFor_is (by rw [hcs]; rfl)) (by rfl) (namesB_ok (by kernel_rfl)) (by rfl) (by rfl) ?_
  walk_at "xs"
  refine CompOk.intsI (fun H' => Has cpd (.cell (some (.ref lpd))) H' ∧ Has lpd (.list (intL prd)) H') (Iter.list (xs := intL cls)) (by lia) (.append_right (H := [_, _, _, _, _, _, _]) r_cl) ⟨by walk_at "has", .append_right (H := [_, _, _, _, _, _, _]) r_pd⟩ (fun k => k.filter fun c => decide (c ∉ prd)) rfl (fun H' hP cenv Ec i c hi hc ht hmem => ?_) fun lal alone eal => ?_
  · obtain ⟨p1, p2⟩ := hP
    have k2 : cenv.kindOf (Str.ofString "node") = some .local := Ec.local (by rfl)
    have k3 : cenv.kindOf (Str.ofString "paired") = some .cell := Ec.cell (by rfl) hk k_paired
    have k4 : cenv.scope.kind = .function := Ec.kind (by rfl)
    have hcp2 := Ec.look0 (x := Str.ofString "paired") (a := cpd) (by rfl) (by rfl)
    refine TIfs.one ?_
    unfold compPV
    show TB (C.on env) (d + 20) _ cenv ((_, .ns [(_, some (.int c 0))]) :: H') _
    walk_at "xs"
    refine TCmp.notInList (.tail p2) ?_
    walk_at "xs"
    refine split_bool (fun hb => ?_) (fun hb => ?_)
    · walk_at "xs"
      exact ⟨⟨_, sub_refl _⟩, keepI (p := fun c => decide (c ∉ prd)) ht (not_yes hb)⟩
    · exact ⟨⟨_, sub_refl _⟩, skipI (p := fun c => decide (c ∉ prd)) ht (not_no hb)⟩
  walk_at "sto"
  refine TX.stow [_] [_, _, _, _, _, _, _] fun R7 new up => ?_
  replace r_209 := up _ _ r_209
  have r_al := new _ _ .head
  replace r_dp := up _ _ r_dp
  replace r_cl := up _ _ r_cl
  replace r_la := up _ _ r_la
  replace r_A := r_A.mono up
  replace r1 := r1.mono up
  replace hCh : ChOk R7 lc cs (chO (numsN n) (ahF wts) (pcAt pcl)) n := ⟨up _ _ hCh.at', fun c h0 h1 => (hCh.row c h0 h1).elim fun b z => ⟨b, z.1, up _ _ z.2⟩⟩
  clear up new r_pd R6
  show TX (C.on env) (d + 20) _ env ((env.locals, _) :: (202, _) :: (cch, _) :: (cfr, _) :: (cpd, _) :: (cpr, _) :: (cpc, _) :: R7) _
  walk_at "xs"
  have eal2 : alone = aloneO (numsN n) (pcAt pcl) M := by rw [eal, eprd, ecls]; rfl
  have hal8 : alone.length ≤ n := by rw [eal]; exact Nat.le_trans (List.length_filter_le _ _) hcl8
  have St2 : Stage (chO (numsN n) (ahF wts) (pcAt pcl)) (opsO (numsN n) (pcAt pcl)) (clsO (numsN n) (pcAt pcl)) M := by rw [← ecls]; exact St
  obtain ⟨Z, hZ, hZ2⟩ := St.shut
  have HR0 : Reach (chO (numsN n) (ahF wts) (pcAt pcl)) M cls alone Z alone 0 := by
    rw [eal2, ecls]
    rw [ecls] at hZ2
    exact reach0 St2 hZ2
  refine X.fFront.on.go (TCall.weak Lm.off ?_)
  refine cFront (d := d + 19) X.fFront Lm G.sys G.n_len X.n_range X.n_list (m := n) (by lia) St hZ (fun c => (chO_len W c).1) (fun c => Nat.le_trans (chO_len W c).2 (by lia)) (by lia) hcn HR0 (.append_right (H := [_, _, _, _, _, _, _]) r_al) (.append_right (H := [_, _, _, _, _, _, _]) r_dp) ⟨.append_right (H := [_, _, _, _, _, _, _]) hCh.at', fun c h0 h1 => (hCh.row c h0 h1).elim fun b z => ⟨b, z.1, .append_right (H := [_, _, _, _, _, _, _]) z.2⟩⟩ (.append_right (H := [_, _, _, _, _, _, _]) r_la) (r_A.mono fun a x z => .append_right (H := [_, _, _, _, _, _, _]) z) (by rw [aheadL_len, W.len]) fun R hR fr efr lfr => ?_
  (with_reducible refine' ⟨_, Sto.cell ‹_› ‹_› ?hs, ?_⟩; (case hs => walk_at "swap"))
  refine TX.stow [_] [_, _, _, _, _, _, _] fun R8 new up => ?_
  replace r_209 := up _ _ r_209
  have r_fr := new _ _ .head
  replace r_al := up _ _ r_al
  replace r_cl := up _ _ r_cl
  replace r1 := r1.mono up
  clear up new r_dp r_la r_A hCh R7
  show TX (C.on env) (d + 20) _ env ((env.locals, _) :: (202, _) :: (cch, _) :: (cfr, _) :: (cpd, _) :: (cpr, _) :: (cpc, _) :: R8) _
  walk_at "xs"
  have hp3 : ∀ t ∈ pcl, t.length ≤ 3 := fun t ht => isPc_len (hpc t ht)
  refine X.fRun.on.go ?_
  refine cRun (d := d + 13) G E.frame hk X.fRun X.kRun X.blt X.n_range hx8 hpl hp3 W hml (.append_right (H := [_, _, _, _, _]) r1.lp) (.append_right (H := [_, _, _, _, _]) r1.lw) (r1.T.mono fun a x z => .append_right (H := [_, _, _, _, _]) z) (.append_right (H := [_, _, _, _, _]) r1.lm) (fun c' e => by cases e) fun ord1 oc1 K1 t1 et1 hO1 hA1 hc1 => ?_
  walk_at "sto"
  refine TX.perm (.cons _ (.cons _ (List.perm_append_comm_assoc K1 [_, _, _, _, _] R8))) ?_
  refine TX.hide [_, _, _, _, _, _, _] (K := K1 ++ R8) fun R9 new => ?_
  have up : ∀ a x, Has a x R8 → Has a x R9 := fun a x z => new _ _ (.append_right z)
  replace hc1 := fun c' e => (hc1 c' e).swapUp (A := [_, _, _, _, _]) new
  replace r_209 := up _ _ r_209
  replace r_fr := up _ _ r_fr
  replace r_al := up _ _ r_al
  replace r_cl := up _ _ r_cl
  replace r1 := r1.mono up
  clear up new R8
  show TX (C.on env) (d + 20) _ env ((env.locals, _) :: (202, _) :: (cch, _) :: (cfr, _) :: (cpd, _) :: (cpr, _) :: (cpc, _) :: R9) _
  walk_at "xs"
  refine TE.comp (own := false) (cl := [(Str.ofString "front", cfr)]) (closureFor_is (by rw [hcs]; rfl)) (by rfl) (namesB_ok (by kernel_rfl)) (by rfl) (by rfl) ?_
  walk_at "xs"
  refine TCall.lenN (n := n) (.append_right (H := [_, _, _, _, _, _, _]) r1.lp) (by unfold strV; rw [List.length_map, hpl]) (by lia) ?_
  walk_at "xs"
  refine TCall.range1 fun r3 => ?_
  refine CompOk.range (fun H' => Has cfr (.cell (some (.ref lfr))) H' ∧ Has lfr (.list (intL fr)) H') (by lia) .head ⟨by walk_at "has", .tail (.append_right (H := [_, _, _, _, _, _, _]) r_fr)⟩ (fun k => intL (mk2 k fr)) rfl (fun H' hP cenv Ec k hki => ?_) fun lm2 => ?_
  · obtain ⟨p1, p2⟩ := hP
    have k2 : cenv.kindOf (Str.ofString "node") = some .local := Ec.local (by rfl)
    have k3 : cenv.kindOf (Str.ofString "front") = some .cell := Ec.cell (by rfl) hk k_front
    have k4 : cenv.scope.kind = .function := Ec.kind (by rfl)
    have hcp2 := Ec.look0 (x := Str.ofString "front") (a := cfr) (by rfl) (by rfl)
    refine TIfs.nil1 ?_
    unfold compPV
    show TE (C.on env) (d + 20) _ cenv ((_, .ns [(_, some (.int (k : Int) 0))]) :: H') _
    walk_at "xs"
    refine TCmp.inList (.tail p2) ?_
    walk_at "xs"
    refine split_bool (fun hb => ?_) (fun hb => ?_)
    · walk_at "xs"
      exact ⟨⟨_, sub_refl _⟩, mapI (f := fun x => if x ∈ fr then 0 else 1) (numsN_succ k) (if_pos (of_decide_eq_true hb))⟩
    · walk_at "xs"
      exact ⟨⟨_, sub_refl _⟩, mapI (f := fun x => if x ∈ fr then 0 else 1) (numsN_succ k) (if_neg (of_decide_eq_false hb))⟩
  walk_at "xs"
  refine X.fRun.on.go (TCall.perm (List.perm_append_comm_assoc [_, _] [_, _] (_ :: _ :: _ :: _ :: _ :: R9)) ?_)
  refine cRun (d := d + 13) G E.frame hk X.fRun X.kRun X.blt X.n_range hx8 hpl hp3 W (mk2_len n fr) (.append_right (H := [_, _, _, _, _, _, _]) r1.lp) (.append_right (H := [_, _, _, _, _, _, _]) r1.lw) (r1.T.mono fun a x z => .append_right (H := [_, _, _, _, _, _, _]) z) .head (fun c' e => .tail (.tail (hc1 c' e))) fun ord2 oc2 K2 t2 et2 hO2 hA2 hc2 => ?_
  walk_at "sto"
  refine TX.perm (.cons _ (.cons _ (List.perm_append_comm_assoc K2 [_, _, _, _, _, _, _] R9))) ?_
  refine TX.drop (.cons_cons _ (.cons_cons _ (.cons _ (.cons _ (.refl _))))) ?_
  refine TX.hide [_, _, _, _, _, _, _] (K := K2 ++ R9) fun R10 new => ?_
  have up : ∀ a x, Has a x R9 → Has a x R10 := fun a x z => new _ _ (.append_right z)
  replace r_209 := up _ _ r_209
  replace r_al := up _ _ r_al
  replace r_cl := up _ _ r_cl
  replace r1 := r1.mono up
  clear up new r_fr hc1 hc2 R9
  show TX (C.on env) (d + 20) _ env ((env.locals, _) :: (202, _) :: (cch, _) :: (cfr, _) :: (cpd, _) :: (cpr, _) :: (cpc, _) :: R10) _
  walk_at "xs"
  refine TM.list (.append_right (H := [_, _, _, _, _, _, _]) r1.lp) PySem.F.slot_list_count PySem.F.type_list_count ?_
  walk_at "xs"
  refine TCall.countN (ts := pcl) (.append_right (H := [_, _, _, _, _, _, _]) r1.lp) (count_ops hpl) ?_
  walk_at "xs"
  refine TCall.lenI (.append_right (H := [_, _, _, _, _, _, _]) r_cl) (by lia) ?_
  refine TBin.subO fun ov eov => ?_
  walk_at "xs"
  have eov2 : overF n (pcAt pcl) = ov := by rw [eov, ecls]; rfl
  have hl1 : ord1.length ≤ n := by have := len_sub hO1.nd hO1.sub; rw [numsN_len] at this; exact this
  have hl2 : ord2.length ≤ n := by have := len_sub hO2.nd hO2.sub; rw [numsN_len] at this; exact this
  have hf1 := take_flat hp3 ord1
  have hf2 := take_flat hp3 ord2
  have hT1 := run_true W hpl hpc St2 hO1 hA1
  have hT2 := run_true W hpl hpc St2 hO2 hA2
  have hF := fun (m t : Nat) => run_false (m := m) (t := t) W hpl hpc St2 (by rw [ecls, eal2] at hR; exact hR) hO2 hA2 (fun x hx h => by rw [mk2_at hx, efr, if_pos ((front_mem hx).mpr h)]) (fun x hx h => by rw [mk2_at hx, efr, if_neg (fun q => h ((front_mem hx).mp q))])
  rw [← eal2, eov2] at hT1 hT2
  rw [← eal2] at hF
  unfold txt at hT1 hT2 hF
  rw [← et1] at hT1 hf1
  rw [← et2] at hT2 hF hf2
  have hchk : ∀ i : Nat, i ≤ alone.length → chkS (List.replicate i 40 ++ t2 ++ List.replicate (max 0 ((i : Int) + ov)).toNat 41) = ((i : Int) == (alone.length : Int)) := fun i hi => by
    by_cases e : i = alone.length
    · subst e
      rw [show max 0 ((alone.length : Int) + ov) = (alone.length : Int) + ov by have := hT2.1; lia, hT2.2]
      simp
    · rw [hF i _ (by lia)]
      exact (beq_eq_false_iff_ne.mpr (by lia)).symm
  have hov : -8 ≤ ov ∧ ov ≤ 8 := by lia
  have ht1 := hT1.1
  clear eov eov2 hF hT2 hO1 hO2 hA1 hA2 hR hZ hZ2 HR0 St St2 efr eal eal2 hit
  refine TX.drop (.cons_cons _ (.cons_cons _ (.cons _ (.cons _ (.cons _ (.cons _ (.cons _ (.refl _)))))))) ?_
  show TX (C.on env) (d + 20) _ env ((env.locals, _) :: (202, _) :: R10) _
  refine TX.for hk ?_
  walk_at "xs"
  refine TCall.lenI (.tail (.tail r_al)) (by lia) ?_
  walk_at "xs"
  rw [show ((alone.length : Int) + 1) = ((alone.length + 1 : Nat) : Int) by lia]
  refine TCall.range1 fun r4 => ?_
  refine ⟨_, _, Iter.range0 (n := alone.length + 1) (by lia), fun i Hi => ∃ mv tv, Hi = (r4, rng 0 ((alone.length + 1 : Nat) : Int) 1) :: (env.locals, .ns (rR (Str.ofString "script") sc (rR (Str.ofString "waits") lw (rR (Str.ofString "marks") lm (rR (Str.ofString "ahead") la (rR (Str.ofString "closers") lcl (rR (Str.ofString "alone") lal (rS (Str.ofString "drawn") (S t1) (rS (Str.ofString "first") (S t2) (rI (Str.ofString "over") ov (rV (Str.ofString "more") mv (rV (Str.ofString "taken") tv [])))))))))))) :: (202, tabO runPos oc2) :: R10, ⟨none, none, rfl⟩, ?_, ?_, ?_⟩
  · rintro i Hi ⟨mv, tv, rfl⟩
    exact .head
  · rintro i u Hi hu ⟨mv, tv, rfl⟩
    obtain ⟨hi, rfl⟩ := rng_item0 hu
    walk_at "sto"
    walk_at "xs"
    refine TBin.mulsN (by lia) ?_
    walk_at "xs"
    refine TBin.adds (hsz _ (by rw [List.length_replicate]; lia)) ?_
    walk_at "xs"
    refine TCall.maxTwo ?_
    refine TBin.muls (by lia) (by lia) ?_
    refine TBin.adds (hsz _ (by rw [List.length_append, List.length_replicate, List.length_replicate]; lia)) ?_
    walk_at "xs"
    refine G.fCheck.on.go (TCall.weak Lm.off ?_)
    refine cCheckB (d := d + 16) G.toTop _ (by rw [List.length_append, List.length_append, List.length_replicate, List.length_replicate]; lia) (hchk i (by lia)) ?_
    walk_at "xs"
    refine TCall.lenI (by walk_at "has") (by lia) ?_
    walk_at "xs"
    refine TCmp.isNotBool ?_
    walk_at "xs"
    refine split_bool (fun hb => absurd hb (by simp)) (fun hb => ?_)
    walk_at "xs"
    exact ⟨_, _, rfl⟩
  rintro Hn ⟨mv, tv, rfl⟩
  walk_at "xs"
  refine TCall.lenI (.tail (.tail (.tail r_al))) (by lia) ?_
  refine TBin.mulsN (by lia) ?_
  walk_at "xs"
  refine TBin.adds (hsz _ (by rw [List.length_replicate]; lia)) ?_
  walk_at "xs"
  refine TCall.lenI (.tail (.tail (.tail r_al))) (by lia) ?_
  walk_at "xs"
  refine TBin.muls (by lia) (by lia) ?_
  refine TBin.adds (hsz _ (by rw [List.length_append, List.length_replicate, List.length_replicate]; lia)) ?_
  walk_at "xs"
  refine G.fCheck.on.go (TCall.weak Lm.off ?_)
  refine cCheckB (d := d + 16) G.toTop _ (by rw [List.length_append, List.length_append, List.length_replicate, List.length_replicate]; lia) hT1.2 ?_
  walk_at "xs"
  exact ⟨_, sub_refl _, rfl, ⟨_, .tail (.tail .head)⟩, _, .tail (.tail (.tail r_209))⟩
end Mine
end
section
open PySem PySem.W PySem.Calls PyProof.Rows
open PySem.Challenge
set_option linter.unusedVariables false
set_option maxRecDepth 100000
set_option maxHeartbeats 8000000
namespace Mine
noncomputable def look1 : Look where
  fns := [(28, fdIter), (35, fdStrip), (42, fdCheck), (51, fdReduce), (66, fdNodeInit), (103, fdTSInit), (110, fdInfo), (117, fdAdd), (122, fdPrep), (129, fdReady), (136, fdActive), (150, fdDone), (157, fdCycle), (176, fdNodes), (181, fdAhead), (188, fdFound), (195, fdMended), (200, fdFront), (207, fdRun), (212, fdLaw1)]
  quals := [(27, "_iter_escaped_chars"), (34, "_strip_quoted_realnames"), (41, "_check_parenthesis"), (50, "reduce"), (65, "_NodeInfo.__init__"), (102, "TopologicalSorter.__init__"), (109, "TopologicalSorter._get_nodeinfo"), (116, "TopologicalSorter.add"), (121, "TopologicalSorter.prepare"), (128, "TopologicalSorter.get_ready"), (135, "TopologicalSorter.is_active"), (149, "TopologicalSorter.done"), (156, "TopologicalSorter._find_cycle"), (175, "_law_nodes"), (180, "_law_ahead"), (187, "_law_found"), (194, "_law_mended"), (199, "_law_front"), (206, "_law_run"), (211, "law")]
  clss := [(66, .type "function"), (103, .type "function"), (110, .type "function"), (117, .type "function"), (122, .type "function"), (129, .type "function"), (136, .type "function"), (150, .type "function"), (157, .type "function")]
  nss := [(3, [("enumerate", none), ("len", none), ("iter", none), ("next", none), ("set", none), ("bool", none), ("tuple", none), ("StopIteration", none), ("range", none), ("max", none), ("sum", none), ("list", none), ("_iter_escaped_chars", some (.ref 28)), ("_strip_quoted_realnames", some (.ref 35)), ("_check_parenthesis", some (.ref 42)), ("_initial_missing", some (.ref 43)), ("reduce", some (.ref 51)), ("_NODE_OUT", some (.int (-1) 246)), ("_NODE_DONE", some (.int (-2) 249)), ("_NodeInfo", some (.ref 70)), ("TopologicalSorter", some (.ref 167)), ("_law_nodes", some (.ref 176)), ("_law_ahead", some (.ref 181)), ("_law_found", some (.ref 188)), ("_law_mended", some (.ref 195)), ("_law_front", some (.ref 200)), ("_law_run", some (.ref 207)), ("law", some (.ref 212))]), (69, [("__init__", some (.ref 66)), ("node", some (.ref 71)), ("npredecessors", some (.ref 72)), ("successors", some (.ref 73)), ("__getattribute__", none), ("__getattr__", none), ("__setattr__", none)]), (166, [("__getattribute__", none), ("__getattr__", none), ("__setattr__", none), ("__init__", some (.ref 103)), ("_get_nodeinfo", some (.ref 110)), ("add", some (.ref 117)), ("prepare", some (.ref 122)), ("get_ready", some (.ref 129)), ("is_active", some (.ref 136)), ("done", some (.ref 150)), ("_find_cycle", some (.ref 157)), ("_node2info", none), ("_ready_nodes", none), ("_npassedout", none), ("_nfinished", none)])]
  objs := [(43, { cls := .type "object", data := .plain }), (44, { cls := .type "tuple", data := .seq #[.ref 43] }), (96, { cls := .type "tuple", data := .seq #[.none] }), (70, excClassObj "_NodeInfo" "_NodeInfo" 70 69 [.type "object"] [.type "object"] false ["node", "npredecessors", "successors"] [] false none none none none (some (.str "_NodeInfo" 251)) (some (.str "_NodeInfo" 259)) (some (.bool false)) "object.__new__"), (167, excClassObj "TopologicalSorter" "TopologicalSorter" 167 166 [.type "object"] [.type "object"] true [] [] false none none none none (some (.str "TopologicalSorter" 306)) (some (.str "TopologicalSorter" 314)) (some (.bool true)) "object.__new__"), (71, memO "node" 279 70 2), (72, memO "npredecessors" 281 70 1), (73, memO "successors" 283 70 0)]
  flds := [(206, 11, .ref 202), (211, 11, .ref 209)]
theorem o_2 : ∃ y, typeLookup (.type "object") "npredecessors" = pure y := ⟨none, by rw [typeLookup_type, builtinLookup_eq_fast]; kernel_rfl⟩
theorem o_3 : ∃ y, typeLookup (.type "object") "successors" = pure y := ⟨none, by rw [typeLookup_type, builtinLookup_eq_fast]; kernel_rfl⟩
section
variable {C : Cx} (A : AtTop look1 C [202, 209])
include A
theorem top1 (hlim : C.h0.NoLimit) (hoff : C.Off) (hsys : ∃ o, C.h0.get? sysModules = some o) : Top C where
  lm := ⟨hlim, A.notab, hoff⟩
  sys := ⟨hsys, A.notab⟩
  n_enumerate := A.blt 0 0 rfl rfl (by decide +kernel) (by kernel_rfl)
  n_len := A.blt 0 1 rfl rfl (by decide +kernel) (by kernel_rfl)
  n_iter := A.blt 0 2 rfl rfl (by decide +kernel) (by kernel_rfl)
  n_next := A.blt 0 3 rfl rfl (by decide +kernel) (by kernel_rfl)
  n_set := A.blt 0 4 rfl rfl (by decide +kernel) (by kernel_rfl)
  n_bool := A.blt 0 5 rfl rfl (by decide +kernel) (by kernel_rfl)
  n_tuple := A.blt 0 6 rfl rfl (by decide +kernel) (by kernel_rfl)
  n_stop := A.blt 0 7 rfl rfl (by decide +kernel) (by kernel_rfl)
  n_iterE := A.top 0 12 rfl rfl rfl
  n_strip := A.top 0 13 rfl rfl rfl
  n_check := A.top 0 14 rfl rfl rfl
  n_missing := A.top 0 15 rfl rfl rfl
  n_reduce := A.top 0 16 rfl rfl rfl
  n_out := A.top 0 17 rfl rfl rfl
  n_done := A.top 0 18 rfl rfl rfl
  n_node := A.top 0 19 rfl rfl rfl
  n_sorter := A.top 0 20 rfl rfl rfl
  fIter := A.fn 0 0 rfl rfl rfl rfl
  fStrip := A.fn 1 1 rfl rfl rfl rfl
  fCheck := A.fn 2 2 rfl rfl rfl rfl
  fReduce := A.fn 3 3 rfl rfl rfl rfl
  fNodeInit := A.fn 4 4 rfl rfl rfl rfl
  fTSInit := A.fn 5 5 rfl rfl rfl rfl
  fInfo := A.fn 6 6 rfl rfl rfl rfl
  fAdd := A.fn 7 7 rfl rfl rfl rfl
  fPrep := A.fn 8 8 rfl rfl rfl rfl
  fReady := A.fn 9 9 rfl rfl rfl rfl
  fActive := A.fn 10 10 rfl rfl rfl rfl
  fDone := A.fn 11 11 rfl rfl rfl rfl
  fCycle := A.fn 12 12 rfl rfl rfl rfl
  fun_cls := by
    intro f hf
    simp only [List.mem_cons, List.not_mem_nil, or_false] at hf
    rcases hf with rfl | rfl | rfl | rfl | rfl | rfl | rfl | rfl | rfl
    · exact A.fcls 0 rfl
    · exact A.fcls 1 rfl
    · exact A.fcls 2 rfl
    · exact A.fcls 3 rfl
    · exact A.fcls 4 rfl
    · exact A.fcls 5 rfl
    · exact A.fcls 6 rfl
    · exact A.fcls 7 rfl
    · exact A.fcls 8 rfl
  o43 := A.get 0 rfl
  o44 := A.get 1 rfl
  o96 := A.get 2 rfl
  tabs := fun _ h => A.low (by decide) h
theorem nod1 : ∃ mN, Nod C mN := by
  obtain ⟨m, hn, e⟩ := A.ns 1 rfl
  exact ⟨m, { cls := { obj := ⟨_, _, _, _, _, _, _, _, _, _, _, A.get 3 rfl⟩, ns := hn, out := A.notab, outN := A.notab, small := by decide, ga := e 4 _ _ rfl, gh := e 5 _ _ rfl, sa := e 6 _ _ rfl }, init := e 0 _ _ rfl, node := ⟨⟨71, 279, e 1 _ _ rfl, A.get 5 rfl, A.notab⟩, o_1⟩, np := ⟨⟨72, 281, e 2 _ _ rfl, A.get 6 rfl, A.notab⟩, o_2⟩, su := ⟨⟨73, 283, e 3 _ _ rfl, A.get 7 rfl, A.notab⟩, o_3⟩ }⟩
theorem sor1 : ∃ mN, Sor C mN := by
  obtain ⟨m, hn, e⟩ := A.ns 2 rfl
  exact ⟨m, { cls := { obj := ⟨_, _, _, _, _, _, _, _, _, _, _, _, A.get 4 rfl⟩, ns := hn, out := A.notab, outN := A.notab }, ga := e 0 _ _ rfl, gh := e 1 _ _ rfl, sa := e 2 _ _ rfl, init := e 3 _ _ rfl, info := e 4 _ _ rfl, add := e 5 _ _ rfl, prep := e 6 _ _ rfl, ready := e 7 _ _ rfl, active := e 8 _ _ rfl, done := e 9 _ _ rfl, cycle := e 10 _ _ rfl, a1 := e 11 _ _ rfl, a2 := e 12 _ _ rfl, a3 := e 13 _ _ rfl, a4 := e 14 _ _ rfl }⟩
theorem lawAt1 (hlim : C.h0.NoLimit) (hoff : C.Off) (hsys : ∃ o, C.h0.get? sysModules = some o) (kRun : CodeOk C 206 202) (kLaw : CodeOk C 211 209) (blt : BltOk C) : Law1 C where
  g := { toTop := top1 A hlim hoff hsys, nod := nod1 A, sor := sor1 A }
  kRun := kRun
  kLaw := kLaw
  blt := blt
  fNodes := A.fn 13 13 rfl rfl rfl rfl
  fAhead := A.fn 14 14 rfl rfl rfl rfl
  fFound := A.fn 15 15 rfl rfl rfl rfl
  fMended := A.fn 16 16 rfl rfl rfl rfl
  fFront := A.fn 17 17 rfl rfl rfl rfl
  fRun := A.fn 18 18 rfl rfl rfl rfl
  fLaw := A.fn 19 19 rfl rfl rfl rfl
  n_range := A.blt 0 8 rfl rfl (by decide +kernel) (by kernel_rfl)
  n_max := A.blt 0 9 rfl rfl (by decide +kernel) (by kernel_rfl)
  n_sum := A.blt 0 10 rfl rfl (by decide +kernel) (by kernel_rfl)
  n_list := A.blt 0 11 rfl rfl (by decide +kernel) (by kernel_rfl)
  n_nodes := A.top 0 21 rfl rfl rfl
  n_ahead := A.top 0 22 rfl rfl rfl
  n_found := A.top 0 23 rfl rfl rfl
  n_mended := A.top 0 24 rfl rfl rfl
  n_front := A.top 0 25 rfl rfl rfl
  n_run := A.top 0 26 rfl rfl rfl
end
end Mine
end
section
open PySem PySem.W PySem.Calls PyProof.Rows
open PySem.Challenge
set_option linter.unusedVariables false
set_option maxRecDepth 100000
set_option maxHeartbeats 8000000
namespace Mine
theorem codeOk_of {C : Cx} {c P : Addr} (hI : C.h0.IsCode c P #[]) (hT : C.h0.TableAt c P #[]) (hc : c ∉ C.tabs) (hP : P ∈ C.tabs) : CodeOk C c P := by
  obtain ⟨o, vs, file, tf, flags, tg, inF, text, tt, op, h1, h2, _, h4, h5, h6, h7, _⟩ := hI
  obtain ⟨⟨o', vs', g1, g2, g3, g4⟩, _⟩ := hT
  rw [h1] at g1
  cases g1
  rw [h2] at g3
  cases g3
  exact ⟨⟨o, vs, file, tf, flags, tg, inF, text, tt, h1, g2, h2, g4, h4, h5, h6, h7⟩, hc, hP⟩
/-- a def's code and its table, found by the def's name -/
theorem tabAt {C : Cx} {L : Look} {tb : List Addr} (A : AtTop L C tb) {p : Program} {loose : List Str} {mean : ExcName → Option Value} {mg mb : Str → Option Value} (T : PyProof.Rows.Top p loose mean mg mb C.h0) {x : Str} (hx : (recsOf p).any (fun d => d.name == x) = true)
    {f c P : Addr} {fd : FuncData} (hm : mg x = some (.ref f)) (F : Fn C f fd) (hc : fd.code = .ref c) (hP : ∃ o vs, C.h0.get? c = some o ∧ o.data = .fields vs ∧ vs[11]? = some (.ref P)) : C.h0.IsCode c P #[] ∧ C.h0.TableAt c P #[] := by
  obtain ⟨d, hd, e⟩ := List.any_eq_true.mp hx
  obtain ⟨a, o, fd', c', P', h1, h2, h3, h4, h5, h6⟩ := T.tab d hd
  rw [eq_of_beq e, hm] at h1
  cases h1
  obtain ⟨o2, g1, g2⟩ := F.at'
  rw [g1] at h2
  cases h2
  rw [g2] at h3
  cases h3
  rw [hc] at h4
  cases h4
  obtain ⟨o3, vs, k1, k2, k3⟩ := hP
  obtain ⟨⟨o4, vs', j1, j2, j3, j4⟩, j5⟩ := h6
  rw [k1] at j1
  cases j1
  rw [k2] at j3
  cases j3
  rw [k3] at j4
  cases j4
  exact ⟨h5, ⟨o3, vs, k1, j2, k2, k3⟩, j5⟩
theorem tabO_start {s : Shared} {c P : Addr} {pos : Pos} (h : s.heap.TableAt c P #[]) : Rep s P (tabO pos none) := ⟨_, h.2, #[], rfl, by simp [TriplesOk], rfl⟩
theorem old_end {h : Heap} {s' : Shared} {c P : Addr} {pos : Pos} {oc : Option Addr} (ht : h.TableAt c P #[]) (hr : Rep s' P (tabO pos oc)) {o : Obj} (ho : h.get? P = some o) : asItWas h s'.heap P o := by
  rw [ht.2] at ho
  cases ho
  obtain ⟨o', h1, ps, rfl, _⟩ := hr
  exact .inr (.inl ⟨ht.isCodeTable, rfl, #[], ps, rfl, by rw [h1]; simp⟩)
theorem whole1 {w : World} {s1 : Shared} {mg mb : Str → Option Value} {p : Program} {loose : List Str} {mean : ExcName → Option Value} (S : look1.Says s1.heap) (T : PyProof.Rows.Top p loose mean mg mb s1.heap) (hp : importsNone p = true) (hr1 : (recsOf p).any (fun d => d.name == "_law_run") = true) (hr2 : (recsOf p).any (fun d => d.name == "law") = true) (hg : s1.gens = #[])
    {fa sc : Addr} (hmg : mg "law" = some (.ref fa)) {vs : List Value} {ns : List Int} (hL : s1.heap.IsList sc vs.toArray) (hI : IntsAre vs ns) (hlen : ns.length ≤ 63) {E : Value → Shared → Prop} {Q : Value → Shared → Prop}
    (h : ∀ s', OldK s1.heap s'.heap → s'.os = s1.os → AllBare s'.gens → Q (.bool true) s') : wpAny (model rw_op0195_01.row.prog w) callerA (call (.ref fa) [.ref sc] []) Q E s1 := by
  obtain ⟨C, hC⟩ : ∃ C : Cx, C = { prog := rw_op0195_01.row.prog, w := w, h0 := s1.heap, os := s1.os, tabs := [202, 209] } := ⟨_, rfl⟩
  have e1 : C.h0 = s1.heap := by rw [hC]
  have e2 : C.tabs = [202, 209] := by rw [hC]
  have N : Names C mg mb := ⟨by rw [e1]; exact T.g, by rw [e1]; exact T.b, by rw [e2]; decide, by rw [e2]; decide⟩
  have A : AtTop look1 C [202, 209] := ⟨by rw [e1]; exact S, e2, mg, mb, N, T.builtins⟩
  have hfa : fa = 212 := by
    have := A.glob (x := "law") (v := some (.ref 212)) 0 27 rfl rfl N.g
    rw [this] at hmg
    cases hmg; rfl
  subst hfa
  have hrun : mg "_law_run" = some (.ref 207) := A.glob (x := "_law_run") (v := some (.ref 207)) 0 26 rfl rfl N.g
  have hsys : ∃ o, C.h0.get? sysModules = some o := by
    obtain ⟨mm, ⟨o, es, ep, ho, _⟩, _⟩ := (T.seer hp).mods
    exact ⟨o, by rw [e1]; exact ho⟩
  have T1 : PyProof.Rows.Top p loose mean mg mb C.h0 := by rw [e1]; exact T
  have F1 : Fn C 207 fdRun := A.fn 18 18 rfl rfl rfl rfl
  have F2 : Fn C 212 fdLaw1 := A.fn 19 19 rfl rfl rfl rfl
  obtain ⟨i1, t1⟩ := tabAt A T1 hr1 hrun F1 (c := 206) (P := 202) rfl (A.X.flds (206, 11, .ref 202) (.head _))
  obtain ⟨i2, t2⟩ := tabAt A T1 hr2 hmg F2 (c := 211) (P := 209) rfl (A.X.flds (211, 11, .ref 209) (.tail _ (.head _)))
  have B : BltOk C := by
    obtain ⟨bm, ob, b1, b2, b3, b4, b5, b6⟩ := T1.bmain
    refine ⟨⟨mg, bm, ob, T1.g, b1, b2, b3, b4, b5, b6, ?_⟩, A.notab⟩
    rw [e2]
    intro q
    simp only [List.mem_cons, List.not_mem_nil, or_false] at q
    rcases q with rfl | rfl
    · rw [t1.2] at b3; cases b3; cases b4
    · rw [t2.2] at b3; cases b3; cases b4
  have X := lawAt1 A (by rw [e1]; exact T.nolimit) (by rw [hC]; exact fun _ _ => trivial) hsys (codeOk_of i1 t1 A.notab (by rw [e2]; decide)) (codeOk_of i2 t2 A.notab (by rw [e2]; decide)) B
  rw [e1] at t1 t2
  have O : OldL C sc (intL ns) := by
    refine ⟨?_, vs.toArray, by rw [e1]; exact hL, by simpa using intL_of hI⟩
    rw [e2]
    intro q
    obtain ⟨o, ho, hcl⟩ : ∃ o, s1.heap.get? sc = some o ∧ o.cls = .type "list" := by obtain ⟨o, h1, h2, _⟩ := hL; exact ⟨o, h1, h2⟩
    simp only [List.mem_cons, List.not_mem_nil, or_false] at q
    rcases q with rfl | rfl
    · rw [t1.2] at ho; cases ho; cases hcl
    · rw [t2.2] at ho; cases ho; cases hcl
  have main := cLaw1 (d := 0) X ns hlen O [.ref sc] rfl [] callerA s1
  have bd : Bd C.on0 (0 + 21) [] callerA := ⟨by decide +kernel, by decide +kernel, rfl, rfl⟩
  have inv : Inv C.on0 ([(202, tabO runPos none), (209, tabO lawPos none)] ++ []) s1 := by
    refine ⟨fun b o e _ => ?_, fun p hp => ?_, fun p hp => ?_, by decide, List.nodup_nil, ?_, ?_⟩
    · have e : C.h0.get? b = some o := e
      rw [e1] at e; exact e
    · simp only [List.append_nil, List.mem_cons, List.not_mem_nil, or_false] at hp
      rcases hp with rfl | rfl
      · exact tabO_start t1
      · exact tabO_start t2
    · refine .inr ?_
      show p.1 ∈ C.tabs
      rw [e2]
      simp only [List.append_nil, List.mem_cons, List.not_mem_nil, or_false] at hp
      rcases hp with rfl | rfl <;> decide
    · show s1.os = C.os
      rw [hC]
    · exact .of_eq hg
  have main := main bd inv
  have hM : C.on0.M = model rw_op0195_01.row.prog w := by rw [hC]; rfl
  rw [hM] at main
  refine wpAny_mono main (fun v s' z => ?_) fun _ _ x => x.elim
  obtain ⟨H', I', hv, ⟨oc1, h1⟩, oc2, h2⟩ := z
  cases er_bool hv
  have r1 := h1.rep I'
  have r2 := h2.rep I'
  refine h s' ⟨fun b o e => ?_, fun b o e => ?_⟩ ?_ I'.bare
  · by_cases q1 : b = 202
    · subst q1; exact old_end t1 r1 e
    · by_cases q2 : b = 209
      · subst q2; exact old_end t2 r2 e
      · exact .inl (I'.keep b o (by show C.h0.get? b = some o; rw [e1]; exact e) (by show b ∉ C.tabs; rw [e2]; simp [q1, q2]))
  · by_cases q1 : b = 202
    · subst q1; exact r1.there
    · by_cases q2 : b = 209
      · subst q2; exact r2.there
      · exact ⟨o, I'.keep b o (by show C.h0.get? b = some o; rw [e1]; exact e) (by show b ∉ C.tabs; rw [e2]; simp [q1, q2])⟩
  · have := I'.os
    rw [this, hC]; rfl
theorem tst : rw_op0195_01.Holds := by
  (w_on; o_law; o_head (look1.hook); (case hw => w_witness2); w_strict (
    intro w s0 s1 mg mb G Y fa o pm cd doc dV kV ho hd' hcd hD hmg hg args vals as hpre hlay hrd hwl hlo
    have S := Look.hook_says Y
    refine Ground.open G ?_
    intro T B D TE TW
    wrow_args hpre hlay hrd hwl hlo
    refine whole1 S T (by kernel_rfl) (by kernel_rfl) (by kernel_rfl) hg hmg (by assumption) (by assumption) (by lia) fun s' hk ho' hb => ?_
    refine ⟨.inl ⟨.bool true, .bool true, [], rfl, ?_, .bool true, ?_, ?_⟩, hk, ho', hb⟩
    · exact raisesW_false (by wrow_none_raised)
    · exact postW_of (by wrow_shape) (by wtm_val) (by str_meet; rfl)
    · exact unshared_nil))
end Mine
end
theorem PySem.Challenge.cw_op0195_01_holds : PySem.Challenge.rw_op0195_01.Holds :=
  Mine.tst

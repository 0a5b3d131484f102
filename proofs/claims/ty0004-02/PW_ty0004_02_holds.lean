import PyProof.Rows.All
import Wide.All
import OpenK.AllK
import Wide.FinOn
import PySem.Challenge.RW_ty0004_02
set_option maxHeartbeats 4000000
set_option genInjectivity false
set_option genSizeOf false

-- part E1
open PySem
set_option Elab.async false
set_option maxRecDepth 100000
set_option linter.unusedVariables false
namespace Mine

inductive V where
  | none
  | bool (b : Bool)
  | int (i : Int)
  | str (s : Str)
  | list (l : List V)
  | tup (l : List V)
  | rng (lo hi : Int)
  | obj (v : Value)

noncomputable abbrev GMap := Addr → Option Obj

structure Fix where
  gens : Array GenState
  drawn : Drawn
  os : OsState
  /-- the heap ahead of the law's call -/
  top : Heap

noncomputable def IsFr (o : Obj) : Prop := ∃ es ep, o.data = .dict es ep
noncomputable def LeH (G : GMap) (h : Heap) : Prop := ∀ a o, G a = some o → h.get? a = some o ∧ ¬ IsFr o
noncomputable def Sub (X : Fix) (h h' : Heap) : Prop := ∀ a o, h.get? a = some o → h'.get? a = some o ∨ (IsFr o ∧ X.top.get? a = none ∧ ∃ sl, h'.get? a = some { o with slots := sl })
structure Grow (h : Heap) (G G' : GMap) : Prop where
  up : ∀ a o, G a = some o → G' a = some o
  new : ∀ a o, G' a = some o → G a = some o ∨ h.get? a = none

section
variable {X : Fix}
theorem Sub.of {h h' : Heap} (k : ∀ a o, h.get? a = some o → h'.get? a = some o) : Sub X h h' := fun a o e => .inl (k a o e)
theorem Sub.refl (h : Heap) : Sub X h h := fun _ _ e => .inl e
theorem Sub.trans {h h' h'' : Heap} (x : Sub X h h') (y : Sub X h' h'') : Sub X h h'' := fun a o e => by
  rcases x a o e with e1 | ⟨c, t, sl, e1⟩
  · exact y a o e1
  · rcases y a _ e1 with e2 | ⟨_, _, sl2, e2⟩
    · exact .inr ⟨c, t, sl, e2⟩
    · exact .inr ⟨c, t, sl2, e2⟩
theorem Sub.push (h : Heap) (o : Obj) : Sub X h (h.push o) := fun _ _ e => .inl (Heap.get?_push_of_some o e)
theorem Sub.none {h h' : Heap} (s : Sub X h h') {a : Addr} (e : h'.get? a = none) : h.get? a = none := by
  cases q : h.get? a with
  | none => rfl
  | some o => rcases s a o q with e1 | ⟨_, _, sl, e1⟩ <;> (rw [e1] at e; cases e)
theorem Sub.get {h h' : Heap} (s : Sub X h h') {a : Addr} {o : Obj} (e : h.get? a = some o) (c : ¬ IsFr o) : h'.get? a = some o :=
  (s a o e).elim id fun q => absurd q.1 c
theorem Sub.top {h h' : Heap} (s : Sub X h h') {a : Addr} {o : Obj} (e : h.get? a = some o) (c : (X.top.get? a).isSome = true) : h'.get? a = some o :=
  (s a o e).elim id fun q => by rw [q.2.1] at c; cases c
theorem Sub.data {h h' : Heap} (s : Sub X h h') {a : Addr} {o : Obj} (e : h.get? a = some o) : ∃ o', h'.get? a = some o' ∧ o'.data = o.data := by
  rcases s a o e with e1 | ⟨_, _, sl, e1⟩
  · exact ⟨_, e1, rfl⟩
  · exact ⟨_, e1, rfl⟩
theorem Sub.ns {h h' : Heap} (s : Sub X h h') {a : Addr} {m : Str → Option Value} (n : h.Ns a m) : h'.Ns a m := by
  obtain ⟨o, es, ep, ho, hd, r⟩ := n
  obtain ⟨o', ho', hd'⟩ := s.data ho
  exact ⟨o', es, ep, ho', hd'.trans hd, r⟩
theorem Sub.cell {h h' : Heap} (s : Sub X h h') {a : Addr} {v : Option Value} (n : h.IsCell a v) : h'.IsCell a v := by
  obtain ⟨o, ho, hd⟩ := n
  obtain ⟨o', ho', hd'⟩ := s.data ho
  exact ⟨o', ho', hd'.trans hd⟩
theorem get_size (h : Heap) : h.get? h.objs.size = none := by
  cases q : h.get? h.objs.size with
  | none => rfl
  | some o => exact absurd (Heap.lt_size q) (Nat.lt_irrefl _)
theorem get_ge {h : Heap} {a : Addr} (l : h.objs.size ≤ a) : h.get? a = none := by
  cases q : h.get? a with
  | none => rfl
  | some o => exact absurd (Heap.lt_size q) (Nat.not_lt.mpr l)
theorem Grow.refl (h : Heap) (G : GMap) : Grow h G G := ⟨fun _ _ e => e, fun _ _ e => .inl e⟩
theorem Grow.trans {h h' : Heap} {G G' G'' : GMap} (x : Grow h G G') (s : Sub X h h') (y : Grow h' G' G'') : Grow h G G'' :=
  ⟨fun a o e => y.up a o (x.up a o e), fun a o e => (y.new a o e).elim (x.new a o) fun l => .inr (s.none l)⟩
theorem LeH.sub {G : GMap} {h h' : Heap} (l : LeH G h) (s : Sub X h h') : LeH G h' := fun a o e => ⟨s.get (l a o e).1 (l a o e).2, (l a o e).2⟩
end
noncomputable def GMap.add (G : GMap) (a : Addr) (o : Obj) : GMap := fun b => if b = a then some o else G b
theorem GMap.add_self (G : GMap) (a : Addr) (o : Obj) : G.add a o a = some o := by simp [GMap.add]
theorem Grow.add {h : Heap} {G : GMap} {a : Addr} {o : Obj} (l : LeH G h) (ha : h.get? a = none) : Grow h G (G.add a o) := by
  refine ⟨fun b o' e => ?_, fun b o' e => ?_⟩
  · have : b ≠ a := fun q => by subst q; rw [(l _ _ e).1] at ha; cases ha
    simp [GMap.add, this, e]
  · unfold GMap.add at e
    split at e
    · rename_i q; subst q; exact .inr ha
    · exact .inl e
theorem LeH.add {G : GMap} {h : Heap} {a : Addr} {o : Obj} (l : LeH G h) (ho : h.get? a = some o) (c : ¬ IsFr o := by exact (fun ⟨_, _, q⟩ => (nomatch q))) : LeH (G.add a o) h := fun b o' e => by
  unfold GMap.add at e
  split at e
  · rename_i q; subst q; cases e; exact ⟨ho, c⟩
  · exact l b o' e

noncomputable abbrev listO (vs : List Value) (n : Nat) : Obj := { cls := .type "list", dict := none, data := .seq vs.toArray n, slots := #[] }
noncomputable abbrev tupO (vs : List Value) (n : Nat) : Obj := { cls := .type "tuple", dict := none, data := .seq vs.toArray n, slots := #[] }

mutual
inductive Rel (G : GMap) : Value → V → Prop
  | none : Rel G .none .none
  | bool (b : Bool) : Rel G (.bool b) (.bool b)
  | int (i : Int) (t : Tok) : Rel G (.int i t) (.int i)
  | str (s : Str) (t : Tok) : Rel G (.str s t) (.str s)
  | list (a : Addr) (vs : List Value) (n : Nat) (l : List V) : G a = some (listO vs n) → RelL G vs l → Rel G (.ref a) (.list l)
  | tup (a : Addr) (vs : List Value) (n : Nat) (l : List V) : G a = some (tupO vs n) → RelL G vs l → Rel G (.ref a) (.tup l)
  | rng (a : Addr) (lo hi : Int) (t u v : Tok) : G a = some { cls := .type "range", dict := none, data := .fields #[.int lo t, .int hi u, .int 1 v], slots := #[] } → Rel G (.ref a) (.rng lo hi)
  | obj (v : Value) : Rel G v (.obj v)
inductive RelL (G : GMap) : List Value → List V → Prop
  | nil : RelL G [] []
  | cons (v : Value) (x : V) (vs : List Value) (xs : List V) : Rel G v x → RelL G vs xs → RelL G (v :: vs) (x :: xs)
end

mutual
theorem Rel.mono {G G' : GMap} (h : ∀ a o, G a = some o → G' a = some o) : ∀ {v : Value} {x : V}, Rel G v x → Rel G' v x
  | _, _, .none => .none
  | _, _, .bool b => .bool b
  | _, _, .int i t => .int i t
  | _, _, .str s t => .str s t
  | _, _, .list a vs n l e r => .list a vs n l (h _ _ e) (RelL.mono h r)
  | _, _, .tup a vs n l e r => .tup a vs n l (h _ _ e) (RelL.mono h r)
  | _, _, .rng a lo hi t u v e => .rng a lo hi t u v (h _ _ e)
  | _, _, .obj v => .obj v
theorem RelL.mono {G G' : GMap} (h : ∀ a o, G a = some o → G' a = some o) : ∀ {v : List Value} {x : List V}, RelL G v x → RelL G' v x
  | _, _, .nil => .nil
  | _, _, .cons v x vs xs r rs => .cons v x vs xs (Rel.mono h r) (RelL.mono h rs)
end
theorem Rel.listI {G : GMap} {v : Value} {l : List V} (r : Rel G v (.list l)) : ∃ a vs n, v = .ref a ∧ G a = some (listO vs n) ∧ RelL G vs l := by
  cases r with
  | list a vs n _ e q => exact ⟨a, vs, n, rfl, e, q⟩
theorem Rel.tupI {G : GMap} {v : Value} {l : List V} (r : Rel G v (.tup l)) : ∃ a vs n, v = .ref a ∧ G a = some (tupO vs n) ∧ RelL G vs l := by
  cases r with
  | tup a vs n _ e q => exact ⟨a, vs, n, rfl, e, q⟩
theorem Rel.strI {G : GMap} {v : Value} {s : Str} (r : Rel G v (.str s)) : ∃ t, v = .str s t := by
  cases r with
  | str _ t => exact ⟨t, rfl⟩
theorem Rel.intI {G : GMap} {v : Value} {i : Int} (r : Rel G v (.int i)) : ∃ t, v = .int i t := by
  cases r with
  | int _ t => exact ⟨t, rfl⟩
theorem RelL.one {G : GMap} {vals : List Value} {x : V} (r : RelL G vals [x]) : ∃ v, vals = [v] ∧ Rel G v x := by
  cases r with
  | cons v x vs xs q rs => cases rs; exact ⟨v, rfl, q⟩
theorem RelL.two {G : GMap} {vals : List Value} {x y : V} (r : RelL G vals [x, y]) : ∃ v u, vals = [v, u] ∧ Rel G v x ∧ Rel G u y := by
  cases r with
  | cons v x vs xs q rs => obtain ⟨u, rfl, q2⟩ := rs.one; exact ⟨v, u, rfl, q, q2⟩
theorem RelL.length {G : GMap} : ∀ {v : List Value} {x : List V}, RelL G v x → v.length = x.length
  | _, _, .nil => rfl
  | _, _, .cons _ _ _ _ _ rs => by simp [RelL.length rs]
theorem RelL.get {G : GMap} : ∀ {vs : List Value} {xs : List V} (i : Nat) {x : V}, RelL G vs xs → xs[i]? = some x → ∃ v, vs[i]? = some v ∧ Rel G v x
  | _, _, 0, _, .cons v x vs xs r rs, e => by cases e; exact ⟨v, rfl, r⟩
  | _, _, i + 1, _, .cons v x vs xs r rs, e => by simpa using RelL.get i rs (by simpa using e)
theorem RelL.append {G : GMap} : ∀ {vs : List Value} {xs : List V} {ws : List Value} {ys : List V}, RelL G vs xs → RelL G ws ys → RelL G (vs ++ ws) (xs ++ ys)
  | _, _, _, _, .nil, r => r
  | _, _, _, _, .cons v x vs xs q qs, r => .cons v x _ _ q (RelL.append qs r)
theorem RelL.snoc {G : GMap} {vs : List Value} {xs : List V} {v : Value} {x : V} (r : RelL G vs xs) (q : Rel G v x) : RelL G (vs ++ [v]) (xs ++ [x]) := r.append (.cons _ _ _ _ q .nil)
theorem RelL.set {G : GMap} : ∀ {vs : List Value} {xs : List V} (i : Nat) {v : Value} {x : V}, RelL G vs xs → Rel G v x → RelL G (vs.set i v) (xs.set i x)
  | _, _, _, _, _, .nil, _ => .nil
  | _, _, 0, _, _, .cons v x vs xs r rs, q => .cons _ _ _ _ q rs
  | _, _, i + 1, _, _, .cons v x vs xs r rs, q => .cons _ _ _ _ r (RelL.set i rs q)
theorem RelL.eraseIdx {G : GMap} : ∀ {vs : List Value} {xs : List V} (i : Nat), RelL G vs xs → RelL G (vs.eraseIdx i) (xs.eraseIdx i)
  | _, _, _, .nil => .nil
  | _, _, 0, .cons v x vs xs r rs => rs
  | _, _, i + 1, .cons v x vs xs r rs => .cons _ _ _ _ r (RelL.eraseIdx i rs)
noncomputable abbrev Fix.at (X : Fix) (h : Heap) (tk : Nat) : Shared := ⟨h, X.gens, X.drawn, tk, X.os⟩

section
variable {α β : Type} {M : Model} {A : Around} {X : Fix}
inductive HP (X : Fix) (Q : α → Heap → Prop) (a : α) (s' : Shared) : Prop
  | mk (h' : Heap) (tk' : Nat) (l : 1 ≤ tk') (e : s' = X.at h' tk') (q : Q a h') : HP X Q a s'
inductive HP0 (X : Fix) (Q : α → Heap → Prop) (a : α) (s' : Shared) : Prop
  | mk (h' : Heap) (tk' : Nat) (e : s' = X.at h' tk') (q : Q a h') : HP0 X Q a s'
noncomputable def NoE (_ : Value) (_ : Shared) : Prop := False
structure wpH (M : Model) (X : Fix) (A : Around) (t : Sem α) (Q : α → Heap → Prop) (h : Heap) : Prop where
  run : ∀ tk, 1 ≤ tk → wpAny M A t (HP X Q) NoE (X.at h tk)

theorem wpH.mono {t : Sem α} {Q Q' : α → Heap → Prop} {h : Heap} (w : wpH M X A t Q h) (q : ∀ a h', Q a h' → Q' a h') : wpH M X A t Q' h :=
  ⟨fun tk htk => wpAny_mono (w.run tk htk) (fun _ _ ⟨h', tk', l, e, x⟩ => ⟨h', tk', l, e, q _ _ x⟩) fun _ _ x => x⟩
theorem wpH.bind {m : Sem α} {f : α → Sem β} {Q : β → Heap → Prop} {h : Heap} (w : wpH M X A m (fun a h' => wpH M X A (f a) Q h') h) : wpH M X A (m >>= f) Q h :=
  ⟨fun tk htk => wpAny_bind (wpAny_mono (w.run tk htk) (fun a s' ⟨h', tk', l, e, x⟩ => by subst e; exact x.run tk' l) fun _ _ x => x)⟩
theorem wpH.pure {a : α} {Q : α → Heap → Prop} {h : Heap} (q : Q a h) : wpH M X A (Pure.pure a) Q h := ⟨fun tk htk => wpAny_pure ⟨h, tk, htk, rfl, q⟩⟩
theorem wpH.of {t : Sem α} {Q : α → Heap → Prop} {h : Heap} (w : ∀ tk, 1 ≤ tk → wpAny M A t (HP0 X Q) NoE (X.at h tk)) : wpH M X A t Q h :=
  ⟨fun tk htk => wpAny_with_toks (n := 1) htk (wpAny_mono (w tk htk) (fun a s' ⟨h', tk', e, x⟩ l => ⟨h', tk', by subst e; exact l, e, x⟩) fun _ _ x => False.elim x)⟩
theorem wpH.use {t : Sem α} {Q : α → Heap → Prop} {Q' : α → Shared → Prop} {E : Value → Shared → Prop} {h : Heap} {tk : Nat} (w : wpH M X A t Q h) (htk : 1 ≤ tk) (q : ∀ a h' tk', 1 ≤ tk' → Q a h' → Q' a (X.at h' tk')) : wpAny M A t Q' E (X.at h tk) :=
  wpAny_mono (w.run tk htk) (fun a s' ⟨h', tk', l, e, x⟩ => by subst e; exact q a h' tk' l x) fun _ _ x => False.elim x
end
noncomputable def optP {α : Type} (o : Option α) (f : α → Prop) : Prop := match o with
  | some a => f a
  | none => False
noncomputable def opt2 {α : Type} (o : Option α) (f : α → Prop) (g : Prop) : Prop := match o with
  | some a => f a
  | none => g
noncomputable def chk (c : Bool) (p : Prop) : Prop := match c with
  | true => p
  | false => False
theorem no_some {α : Type} {a : α} {P : Prop} (h : (none : Option α) = some a) : P := nomatch h
inductive OptE {α : Type} (o : Option α) (f : α → Prop) : Prop
  | mk (a : α) (e : o = some a) (k : f a) : OptE o f
inductive OptO {α : Type} (o : Option α) (f : α → Prop) (g : Prop) : Prop
  | yes (a : α) (e : o = some a) (k : f a) : OptO o f g
  | no (e : o = none) (k : g) : OptO o f g
theorem optP_ex {α : Type} {o : Option α} {f : α → Prop} (h : optP o f) : OptE o f := by
  cases o with
  | none => exact h.elim
  | some a => exact ⟨a, rfl, h⟩
theorem opt2_or {α : Type} {o : Option α} {f : α → Prop} {g : Prop} (h : opt2 o f g) : OptO o f g := by
  cases o with
  | none => exact .no rfl h
  | some a => exact .yes a rfl h
theorem chk_and {c : Bool} {p : Prop} (h : chk c p) : c = true ∧ p := by
  cases c with
  | false => exact h.elim
  | true => exact ⟨rfl, h⟩
theorem ite_or {c p q : Prop} [Decidable c] (h : if c then p else q) : (c ∧ p) ∨ q := by
  by_cases e : c
  · rw [if_pos e] at h; exact .inl ⟨e, h⟩
  · rw [if_neg e] at h; exact .inr h
theorem not_true {b : Bool} (h : (!b) = true) : b = false := by
  cases b with
  | false => rfl
  | true => exact h.symm
theorem and2 {a b : Bool} (h : (a && b) = true) : a = true ∧ b = true := Bool.and_eq_true_iff.mp h

noncomputable def V.int? : V → Option Int
  | .int i => some i
  | .none => Option.none
  | .bool _ => Option.none
  | .str _ => Option.none
  | .list _ => Option.none
  | .tup _ => Option.none
  | .rng _ _ => Option.none
  | .obj _ => Option.none
noncomputable def V.str? : V → Option Str
  | .str s => some s
  | .none => Option.none
  | .bool _ => Option.none
  | .int _ => Option.none
  | .list _ => Option.none
  | .tup _ => Option.none
  | .rng _ _ => Option.none
  | .obj _ => Option.none
noncomputable def V.list? : V → Option (List V)
  | .list l => some l
  | .none => Option.none
  | .bool _ => Option.none
  | .int _ => Option.none
  | .str _ => Option.none
  | .tup _ => Option.none
  | .rng _ _ => Option.none
  | .obj _ => Option.none
noncomputable def V.bool? : V → Option Bool
  | .bool b => some b
  | .none => Option.none
  | .int _ => Option.none
  | .str _ => Option.none
  | .list _ => Option.none
  | .tup _ => Option.none
  | .rng _ _ => Option.none
  | .obj _ => Option.none
noncomputable def V.tup? : V → Option (List V)
  | .tup l => some l
  | .none => Option.none
  | .bool _ => Option.none
  | .int _ => Option.none
  | .str _ => Option.none
  | .list _ => Option.none
  | .rng _ _ => Option.none
  | .obj _ => Option.none
noncomputable def V.rng? : V → Option (Int × Int)
  | .rng lo hi => some (lo, hi)
  | .none => Option.none
  | .bool _ => Option.none
  | .int _ => Option.none
  | .str _ => Option.none
  | .list _ => Option.none
  | .tup _ => Option.none
  | .obj _ => Option.none
noncomputable def V.obj? : V → Option Value
  | .obj v => some v
  | .none => Option.none
  | .bool _ => Option.none
  | .int _ => Option.none
  | .str _ => Option.none
  | .list _ => Option.none
  | .tup _ => Option.none
  | .rng _ _ => Option.none
theorem V.int?_eq {x : V} {i : Int} (h : x.int? = some i) : x = .int i := by
  cases x with
  | int j => cases h; rfl
  | _ => exact no_some h
theorem V.str?_eq {x : V} {i : Str} (h : x.str? = some i) : x = .str i := by
  cases x with
  | str j => cases h; rfl
  | _ => exact no_some h
theorem V.list?_eq {x : V} {i : List V} (h : x.list? = some i) : x = .list i := by
  cases x with
  | list j => cases h; rfl
  | _ => exact no_some h
theorem V.bool?_eq {x : V} {i : Bool} (h : x.bool? = some i) : x = .bool i := by
  cases x with
  | bool j => cases h; rfl
  | _ => exact no_some h
theorem V.tup?_eq {x : V} {i : List V} (h : x.tup? = some i) : x = .tup i := by
  cases x with
  | tup j => cases h; rfl
  | _ => exact no_some h
theorem V.rng?_eq {x : V} {i : Int × Int} (h : x.rng? = some i) : x = .rng i.1 i.2 := by
  cases x with
  | rng j k => cases h; rfl
  | _ => exact no_some h
theorem V.obj?_eq {x : V} {i : Value} (h : x.obj? = some i) : x = .obj i := by
  cases x with
  | obj j => cases h; rfl
  | _ => exact no_some h
theorem Rel.objI {G : GMap} {v u : Value} (r : Rel G v (.obj u)) : v = u := by
  cases r with
  | obj _ => rfl
inductive IntE (v : Value) (f : Int → Prop) : Prop
  | mk (i : Int) (t : Tok) (e : v = .int i t) (k : f i) : IntE v f
inductive StrE (v : Value) (f : Str → Prop) : Prop
  | mk (i : Str) (t : Tok) (e : v = .str i t) (k : f i) : StrE v f
inductive ListE (G : GMap) (v : Value) (f : List V → Prop) : Prop
  | mk (l : List V) (a : Addr) (vs : List Value) (n : Nat) (e : v = .ref a) (g : G a = some (listO vs n)) (r : RelL G vs l) (k : f l) : ListE G v f
theorem intP {G : GMap} {v : Value} {x : V} {f : Int → Prop} (h : optP x.int? f) (r : Rel G v x) : IntE v f := by
  obtain ⟨i, e, h⟩ := optP_ex h
  cases V.int?_eq e
  obtain ⟨t, e⟩ := r.intI
  exact ⟨i, t, e, h⟩
theorem strP {G : GMap} {v : Value} {x : V} {f : Str → Prop} (h : optP x.str? f) (r : Rel G v x) : StrE v f := by
  obtain ⟨i, e, h⟩ := optP_ex h
  cases V.str?_eq e
  obtain ⟨t, e⟩ := r.strI
  exact ⟨i, t, e, h⟩
theorem listP {G : GMap} {v : Value} {x : V} {f : List V → Prop} (h : optP x.list? f) (r : Rel G v x) : ListE G v f := by
  obtain ⟨l, e, h⟩ := optP_ex h
  cases V.list?_eq e
  obtain ⟨a, vs, n, q, e, rl⟩ := r.listI
  exact ⟨l, a, vs, n, q, e, rl, h⟩
noncomputable def one {α : Type} : List α → Option α
  | [] => none
  | x :: r => match r with
    | [] => some x
    | _ :: _ => none
noncomputable def two {α : Type} : List α → Option (α × α)
  | [] => none
  | x :: r => (one r).map fun y => (x, y)
theorem one_eq {α : Type} {l : List α} {x : α} (h : one l = some x) : l = [x] := by
  cases l with
  | nil => cases h
  | cons y r =>
    cases r with
    | nil => cases h; rfl
    | cons _ _ => cases h
theorem two_eq {α : Type} {l : List α} {p : α × α} (h : two l = some p) : l = [p.1, p.2] := by
  cases l with
  | nil => cases h
  | cons y r =>
    replace h : (one r).map (fun z => (y, z)) = some p := h
    cases q : one r with
    | none => rw [q] at h; cases h
    | some z => rw [q] at h; cases h; rw [one_eq q]
end Mine

-- part E2
open PySem
set_option Elab.async false
set_option maxRecDepth 100000
set_option linter.unusedVariables false
namespace Mine

inductive YQ (X : Fix) (G : GMap) (K : V → Prop) (h : Heap) (v : Value) (h' : Heap) : Prop
  | mk (s : Sub X h h') (x : V) (G' : GMap) (g : Grow h G G') (l : LeH G' h') (r : Rel G' v x) (k : K x) : YQ X G K h v h'
noncomputable def Yl (M : Model) (X : Fix) (A : Around) (t : Sem Value) (G : GMap) (K : V → Prop) (h : Heap) : Prop := wpH M X A t (YQ X G K h) h
noncomputable def PQ (X : Fix) (G : GMap) (x : V) (h : Heap) (v : Value) (s' : Shared) : Prop := (∃ tk', s' = X.at h tk') ∧ Rel G v x

section
variable {prog : Program} {w : World} {A : Around} {X : Fix} {G : GMap} {h : Heap} {K : V → Prop} {t : Sem Value}

theorem Yl.mono {K' : V → Prop} (y : Yl (model prog w) X A t G K h) (k : ∀ x, K x → K' x) : Yl (model prog w) X A t G K' h :=
  wpH.mono y fun v h' ⟨s, x, G', g, l, r, q⟩ => ⟨s, x, G', g, l, r, k x q⟩

theorem Yl.plain (l : LeH G h) (x : V) (hk : K x)
    (p : ∀ tk, 1 ≤ tk → wpAny (model prog w) A t (PQ X G x h) NoE (X.at h tk)) : Yl (model prog w) X A t G K h :=
  wpH.of fun tk htk => wpAny_mono (p tk htk) (fun v s' ⟨⟨tk', e⟩, r⟩ => ⟨h, tk', e, Sub.refl h, x, G, Grow.refl h G, l, r, hk⟩) fun _ _ x => x

noncomputable def vBin (op : Operator) (a b : V) (K : V → Prop) : Prop :=
  match op with
  | .Add => opt2 a.int? (fun i => optP b.int? fun j => K (.int (i + j))) (optP a.str? fun x => optP b.str? fun y => x.length + y.length ≤ 16777216 ∧ K (.str (x ++ y)))
  | .Sub => optP a.int? fun i => optP b.int? fun j => K (.int (i - j))
  | .Mult => opt2 a.int? (fun i => optP b.int? fun j => IntMulOk i j ∧ K (.int (i * j)))
      (opt2 a.str? (fun x => optP b.int? fun n => (0 ≤ n ∧ x.length ≤ 1000 ∧ n ≤ 1000) ∧ K (.str (Txt.mul x n)))
      (optP a.list? fun l => optP b.int? fun n => (0 ≤ n ∧ l.length ≤ 1000 ∧ n ≤ 1000) ∧ K (.list (List.replicate n.toNat l).flatten)))
  | .FloorDiv => optP a.int? fun i => optP b.int? fun j => (j ≠ 0 ∧ Builtin.divisionGoesByPylong i j = false) ∧ K (.int (i.fdiv j))
  | .Mod => optP a.int? fun i => optP b.int? fun j => j ≠ 0 ∧ K (.int (i.fmod j))
  | .BitAnd => optP a.int? fun i => optP b.int? fun j => K (.int (Builtin.bitAnd i j))
  | .LShift => optP a.int? fun i => optP b.int? fun j => (0 ≤ j ∧ j ≤ 1000000 ∧ i.natAbs < 2 ^ 64) ∧ K (.int (i * 2 ^ j.toNat))
  | .Pow => optP a.int? fun i => optP b.int? fun j => (1 < i.natAbs ∧ i.natAbs < 1000 ∧ 0 ≤ j ∧ j < 1000) ∧ K (.int (i ^ j.toNat))
  | _ => False

theorem mulL {a : Addr} {vs : List Value} {n : Nat} {x : Int} {u : Tok} {Q : Value → Heap → Prop} (e : h.get? a = some (listO vs n)) (h0 : 0 ≤ x) (hl : vs.length ≤ 1000) (hx : x ≤ 1000)
    (hq : ∀ h', Sub X h h' → h'.get? h.objs.size = some (listO (List.replicate x.toNat vs).flatten 0) → Q (.ref h.objs.size) h') : wpH (model prog w) X A (binaryOp .Mult (.ref a) (.int x u)) Q h :=
  wpH.of fun tk _ => by
    have hsz : vs.toArray.size * x.toNat ≤ 1000000 := by
      rw [List.size_toArray]
      have : vs.length * x.toNat ≤ 1000 * 1000 := Nat.mul_le_mul hl (by omega)
      omega
    have hz : ¬ Builtin.List.listTooLong (vs.toArray.size * x.toNat) = true := by
      have h5 : ¬ (vs.toArray.size * x.toNat > sizeLine) := by rw [show sizeLine = 16777216 from by decide]; omega
      simpa [Builtin.List.listTooLong] using h5
    refine PySem.wpAny_binaryOp_repeat_ref (s := X.at h tk) (T := "list") (U := "int") (by decide) ⟨_, e, rfl⟩ (fun s' => typeIs_int s' x u) PySem.noFill_list_mul F.fills_int_mul F.slot_int_rmul PySem.repeat_list F.slot_int_index.lookup
      (call_meets F.slot_int_rmul (typeIs_int (X.at h tk) x u) F.entry_int_rmul (F.args_int_rmul_2 _ _) (PySem.int___rmul___int_list x u a vs.toArray n)
      ⟨e, rfl, ⟨_, e, rfl⟩, call_meets F.slot_list_mul ⟨_, e, rfl⟩ F.entry_list_mul (F.args_list_mul_2 _ _)
        (AutoListH.list___mul___list_int_3 a vs.toArray n x u (by simp [Builtin.List.listFitsIndex]; omega) (by omega) hz)
        ⟨e, ?_⟩⟩)
    rw [PyProof.Rows.listMul_foldl_if]
    exact ⟨_, tk, rfl, hq _ (Sub.push _ _) (Heap.get?_push_size _ rfl)⟩

theorem relL_rep {vs : List Value} {l : List V} (r : RelL G vs l) : ∀ n : Nat, RelL G (List.replicate n vs).flatten (List.replicate n l).flatten
  | 0 => .nil
  | n + 1 => by rw [List.replicate_succ, List.replicate_succ, List.flatten_cons, List.flatten_cons]; exact r.append (relL_rep r n)

theorem line_eq : sizeLine = 16777216 := by decide

theorem mulOk {x : Str} {n : Int} (h0 : 0 ≤ n) (hx : x.length ≤ 1000) (hn : n ≤ 1000) : MulOk x n := by
  refine ⟨?_, fun h1 _ => ?_, fun h1 _ => ?_⟩
  · simp only [Bool.or_eq_false_iff, decide_eq_false_iff_not]; omega
  · have h2 : (1000 : Int) ≤ (2 ^ 63 - 1) / n := by
      rw [Int.le_ediv_iff_mul_le (by omega)]
      have : 1000 * n ≤ 1000 * 1000 := by omega
      omega
    omega
  · unfold Builtin.Str.tooLong
    refine decide_eq_false ?_
    rw [line_eq]
    have h1 : x.length * n.toNat ≤ 1000 * n.toNat := Nat.mul_le_mul_right _ hx
    omega

theorem bits_small {i : Int} (h : i.natAbs < 1000) : Builtin.Int.intBits i ≤ 10 := by
  unfold Builtin.Int.intBits
  split
  · omega
  · rename_i hz
    have h0 : i.natAbs ≠ 0 := by simpa using hz
    have : i.natAbs.log2 < 10 := (Nat.log2_lt h0).mpr (by omega)
    omega

theorem pow_sound {i j : Int} {t u : Tok} (l : LeH G h) (hk : (1 < i.natAbs ∧ i.natAbs < 1000 ∧ 0 ≤ j ∧ j < 1000) ∧ K (.int (i ^ j.toNat))) : Yl (model prog w) X A (binaryOp .Pow (.int i t) (.int j u)) G K h := by
  obtain ⟨⟨h1, h2, h3, h4⟩, hk⟩ := hk
  by_cases hj : j = 0
  · subst hj
    refine Yl.plain l _ hk fun tk _ => ?_
    have e : V.int (i ^ (0 : Int).toNat) = V.int 1 := by simp
    rw [e]
    exact AutoIntOps.pow_0 (b := 0) (by decide) (by decide) ⟨⟨_, rfl⟩, .int _ _⟩
  · by_cases hm : i = -1
    · subst hm; simp at h1
    · refine Yl.plain l _ hk fun tk _ => AutoIntOps.pow_4 h3 (by simpa using hj) ?_ (by simpa using hm) ?_ ⟨⟨_, rfl⟩, .int _ _⟩
      · simp only [Bool.or_eq_true, beq_iff_eq, not_or]; omega
      · unfold Builtin.Int.intTooBig
        have hb := bits_small h2
        have hb' : ((Builtin.Int.intBits i : Nat) : Int) ≤ 10 := by omega
        have : ((Builtin.Int.intBits i : Nat) : Int) * j ≤ 10 * j := Int.mul_le_mul_of_nonneg_right hb' h3
        simp only [decide_eq_true_eq, gt_iff_lt, Int.not_lt, Int.not_le]
        simp only [bitsLine]
        omega

theorem bin_sound {op : Operator} {a b : Value} {x y : V} (l : LeH G h) (ra : Rel G a x) (rb : Rel G b y) (hk : vBin op x y K) :
    Yl (model prog w) X A (binaryOp op a b) G K h := by
  cases op with
  | Add =>
    rcases opt2_or hk with ⟨i, e, hk⟩ | ⟨_, hk⟩
    · cases V.int?_eq e
      obtain ⟨t, rfl⟩ := ra.intI
      obtain ⟨j, u, rfl, hk⟩ := intP hk rb
      exact Yl.plain l _ hk fun tk _ => by (with_reducible refine PyProof.Rows.add_int ?_); exact ⟨⟨_, rfl⟩, .int _ _⟩
    · obtain ⟨i, t, rfl, hk⟩ := strP hk ra
      obtain ⟨j, u, rfl, hk⟩ := strP hk rb
      exact Yl.plain l _ hk.2 fun tk _ => SB.add (fun t' k => ⟨⟨_, rfl⟩, .str _ _⟩) (by rw [line_eq]; exact hk.1)
  | Sub =>
    obtain ⟨i, t, rfl, hk⟩ := intP hk ra
    obtain ⟨j, u, rfl, hk⟩ := intP hk rb
    exact Yl.plain l _ hk fun tk _ => by (with_reducible refine PyProof.Rows.sub_int ?_); exact ⟨⟨_, rfl⟩, .int _ _⟩
  | Mult =>
    rcases opt2_or hk with ⟨i, e, hk⟩ | ⟨_, hk⟩
    · cases V.int?_eq e
      obtain ⟨t, rfl⟩ := ra.intI
      obtain ⟨j, u, rfl, hk⟩ := intP hk rb
      exact Yl.plain l _ hk.2 fun tk _ => by (with_reducible refine PyProof.Rows.mul_int ?_ hk.1); exact ⟨⟨_, rfl⟩, .int _ _⟩
    · rcases opt2_or hk with ⟨i, e, hk⟩ | ⟨_, hk⟩
      · cases V.str?_eq e
        obtain ⟨t, rfl⟩ := ra.strI
        obtain ⟨j, u, rfl, hk⟩ := intP hk rb
        exact Yl.plain l _ hk.2 fun tk _ => SB.mul (mulOk hk.1.1 hk.1.2.1 hk.1.2.2) (fun t' k => ⟨⟨_, rfl⟩, .str _ _⟩)
      · obtain ⟨m, a, vs, n, rfl, e, r, hk⟩ := listP hk ra
        obtain ⟨j, u, rfl, hk⟩ := intP hk rb
        obtain ⟨⟨h0, h1, h2⟩, hk⟩ := hk
        refine mulL (l _ _ e).1 h0 (by rw [r.length]; exact h1) h2 fun h' s e' => ⟨s, _, G.add h.objs.size _, Grow.add l (get_size h), (l.sub s).add e', .list _ _ 0 _ (GMap.add_self ..) (RelL.mono (Grow.add l (get_size h)).up (relL_rep r _)), hk⟩
  | FloorDiv =>
    obtain ⟨i, t, rfl, hk⟩ := intP hk ra
    obtain ⟨j, u, rfl, hk⟩ := intP hk rb
    exact Yl.plain l _ hk.2 fun tk _ => by (with_reducible refine PyProof.Rows.floordiv_int hk.1.1 ?_ (.inl hk.1.2)); exact ⟨⟨_, rfl⟩, .int _ _⟩
  | Mod =>
    obtain ⟨i, t, rfl, hk⟩ := intP hk ra
    obtain ⟨j, u, rfl, hk⟩ := intP hk rb
    exact Yl.plain l _ hk.2 fun tk _ => by (with_reducible refine PyProof.Rows.mod_int hk.1 ?_); exact ⟨⟨_, rfl⟩, .int _ _⟩
  | BitAnd =>
    obtain ⟨i, t, rfl, hk⟩ := intP hk ra
    obtain ⟨j, u, rfl, hk⟩ := intP hk rb
    exact Yl.plain l _ hk fun tk _ => by (with_reducible refine PyProof.Rows.and_int ?_); exact ⟨⟨_, rfl⟩, .int _ _⟩
  | LShift =>
    obtain ⟨i, t, rfl, hk⟩ := intP hk ra
    obtain ⟨j, u, rfl, hk⟩ := intP hk rb
    exact Yl.plain l _ hk.2 fun tk _ => by (with_reducible refine PyProof.Rows.lshift_int_small hk.1.1 hk.1.2.1 hk.1.2.2 ?_); exact ⟨⟨_, rfl⟩, .int _ _⟩
  | Pow =>
    obtain ⟨i, t, rfl, hk⟩ := intP hk ra
    obtain ⟨j, u, rfl, hk⟩ := intP hk rb
    exact pow_sound l hk
  | _ => exact hk.elim
end
end Mine

-- part E3
open PySem
set_option Elab.async false
set_option maxRecDepth 100000
set_option linter.unusedVariables false
namespace Mine

structure Room (A : Around) : Prop where
  hh : A.handled = none
  units : A.units < 9000

mutual
noncomputable def V.py : V → PyData
  | .none => .none
  | .bool b => .bool b
  | .int i => .int i
  | .str s => .str s
  | .list l => .list (V.pys l)
  | .tup l => .tuple (V.pys l)
  | _ => .none
noncomputable def V.pys : List V → List PyData
  | [] => []
  | x :: r => x.py :: V.pys r
end
mutual
noncomputable def V.isD : V → Bool
  | .none => true
  | .bool _ => true
  | .int _ => true
  | .str _ => true
  | .list l => V.isDs l
  | .tup l => V.isDs l
  | _ => false
noncomputable def V.isDs : List V → Bool
  | [] => true
  | x :: r => x.isD && V.isDs r
end
mutual
theorem reads_of {G : GMap} {h : Heap} (l : LeH G h) : ∀ {v : Value} {x : V}, Rel G v x → x.isD = true → ∃ as, Reads h v x.py as
  | _, _, .none, _ => ⟨_, .none⟩
  | _, _, .bool b, _ => ⟨_, .bool b⟩
  | _, _, .int i t, _ => ⟨_, .int i t⟩
  | _, _, .str s t, _ => ⟨_, .str s t⟩
  | _, _, .list a vs n xs e r, d => let ⟨as, q⟩ := readsL_of l r d; ⟨_, .list (l _ _ e).1 rfl rfl q⟩
  | _, _, .tup a vs n xs e r, d => let ⟨as, q⟩ := readsL_of l r d; ⟨_, .tuple (l _ _ e).1 rfl rfl q⟩
  | _, _, .rng _ _ _ _ _ _ _, d => by cases d
  | _, _, .obj v, d => by cases d
theorem readsL_of {G : GMap} {h : Heap} (l : LeH G h) : ∀ {v : List Value} {x : List V}, RelL G v x → V.isDs x = true → ∃ as, ReadsAll h v (V.pys x) as
  | _, _, .nil, _ => ⟨_, .nil⟩
  | _, _, .cons v x vs xs r rs, d => by
    have d' : x.isD = true ∧ V.isDs xs = true := Bool.and_eq_true_iff.mp d
    obtain ⟨as, q⟩ := reads_of l r d'.1
    obtain ⟨bs, qs⟩ := readsL_of l rs d'.2
    exact ⟨_, .cons q qs⟩
end

noncomputable def listsP (l m : List V) : Prop := V.isDs l = true ∧ V.isDs m = true ∧ SeqAt.shaped (V.py (.list l)) = true ∧ SeqAt.shaped (V.py (.list m)) = true
noncomputable def vCmp (op : CmpOp) (a b : V) (K : Bool → Prop) : Prop :=
  match op with
  | .Eq => opt2 a.int? (fun i => optP b.int? fun j => K (i == j)) (opt2 a.str? (fun i => optP b.str? fun j => K (i == j))
      (optP a.list? fun l => optP b.list? fun m => listsP l m ∧ K (PyData.eqvAll (V.pys l) (V.pys m))))
  | .NotEq => opt2 a.int? (fun i => optP b.int? fun j => K (i != j)) (opt2 a.str? (fun i => optP b.str? fun j => K (i != j))
      (optP a.list? fun l => optP b.list? fun m => listsP l m ∧ K (!PyData.eqvAll (V.pys l) (V.pys m))))
  | .Lt => optP a.int? fun i => optP b.int? fun j => K (decide (i < j))
  | .Gt => optP a.int? fun i => optP b.int? fun j => K (decide (j < i))
  | .GtE => optP a.int? fun i => optP b.int? fun j => K (decide (j ≤ i))
  | .In => optP a.str? fun x => optP b.list? fun l => ∃ ys : List Str, l = ys.map V.str ∧ K (ys.any (· == x))
  | _ => False

theorem relL_ints {G : GMap} : ∀ {vs : List Value} {ns : List Int}, RelL G vs (ns.map V.int) → PyProof.Rows.IntsAre vs ns
  | _, [], r => by cases r; exact .nil
  | _, n :: ns, r => by cases r with | cons v x vs xs q rs => cases q; exact .cons _ _ (relL_ints rs)
theorem relL_of_ints {G : GMap} : ∀ {vs : List Value} {ns : List Int}, PyProof.Rows.IntsAre vs ns → RelL G vs (ns.map V.int)
  | _, _, .nil => .nil
  | _, _, .cons n t r => .cons _ _ _ _ (.int n t) (relL_of_ints r)
theorem relL_strs {G : GMap} : ∀ {vs : List Value} {ns : List Str}, RelL G vs (ns.map V.str) → PyProof.Rows.StrsAre vs ns
  | _, [], r => by cases r; exact .nil
  | _, n :: ns, r => by cases r with | cons v x vs xs q rs => cases q; exact .cons _ _ (relL_strs rs)

section
variable {prog : Program} {w : World} {A : Around} {X : Fix} {G : GMap} {h : Heap}

inductive BQ (X : Fix) (G : GMap) (K : Bool → Prop) (h : Heap) (b : Bool) (h' : Heap) : Prop
  | mk (s : Sub X h h') (G' : GMap) (g : Grow h G G') (l : LeH G' h') (k : K b) : BQ X G K h b h'
noncomputable def Yb (M : Model) (X : Fix) (A : Around) (t : Sem Bool) (G : GMap) (K : Bool → Prop) (h : Heap) : Prop := wpH M X A t (BQ X G K h) h

theorem isList {a : Addr} {vs : List Value} {n : Nat} (l : LeH G h) (e : G a = some (listO vs n)) : h.IsList a vs.toArray := ⟨_, (l _ _ e).1, rfl, n, rfl⟩

theorem str_bne (x y : Str) : (x.cps.toList != y.cps.toList) = (x != y) := by
  show (!(x.cps.toList == y.cps.toList)) = !(x == y)
  rw [SeqAt.str_beq]

theorem cmp_sound {op : CmpOp} {a b : Value} {x y : V} {K : Bool → Prop} (rm : Room A) (l : LeH G h) (ra : Rel G a x) (rb : Rel G b y) (hk : vCmp op x y K) :
    wpH (model prog w) X A (compareOp op a b) (fun v h' => h' = h ∧ ∃ b, v = .bool b ∧ K b) h := by
  have sc : ∀ {c : Bool}, K c → ∀ tk, HP0 X (fun v h' => h' = h ∧ ∃ b, v = .bool b ∧ K b) (Value.bool c) (X.at h tk) := fun k tk => ⟨h, tk, rfl, rfl, _, rfl, k⟩
  have hu : A.units + 64 < cLine := by have := rm.units; simp only [cLine]; omega
  refine wpH.of fun tk _ => ?_
  cases op with
  | Eq =>
    rcases opt2_or hk with ⟨i, e, hk⟩ | ⟨_, hk⟩
    · cases V.int?_eq e
      obtain ⟨t, rfl⟩ := ra.intI
      obtain ⟨j, u, rfl, hk⟩ := intP hk rb
      (with_reducible refine PyProof.Rows.eq_int ?_); exact sc hk tk
    · rcases opt2_or hk with ⟨i, e, hk⟩ | ⟨_, hk⟩
      · cases V.str?_eq e
        obtain ⟨t, rfl⟩ := ra.strI
        obtain ⟨j, u, rfl, hk⟩ := strP hk rb
        (with_reducible refine P.eq_str ?_); rw [SeqAt.str_beq]; exact sc hk tk
      · obtain ⟨l1, e1, hk⟩ := optP_ex hk
        obtain ⟨l2, e2, hk⟩ := optP_ex hk
        cases V.list?_eq e1
        cases V.list?_eq e2
        obtain ⟨⟨d1, d2, s1, s2⟩, hk⟩ := hk
        obtain ⟨as, r1⟩ := reads_of l ra d1
        obtain ⟨bs, r2⟩ := reads_of l rb d2
        with_reducible refine PyProof.Rows.eq_dataH r1 r2 s1 s2 hu ?_
        exact sc hk tk
  | NotEq =>
    rcases opt2_or hk with ⟨i, e, hk⟩ | ⟨_, hk⟩
    · cases V.int?_eq e
      obtain ⟨t, rfl⟩ := ra.intI
      obtain ⟨j, u, rfl, hk⟩ := intP hk rb
      (with_reducible refine PyProof.Rows.ne_int ?_); exact sc hk tk
    · rcases opt2_or hk with ⟨i, e, hk⟩ | ⟨_, hk⟩
      · cases V.str?_eq e
        obtain ⟨t, rfl⟩ := ra.strI
        obtain ⟨j, u, rfl, hk⟩ := strP hk rb
        (with_reducible refine P.ne_str ?_); rw [str_bne]; exact sc hk tk
      · obtain ⟨l1, e1, hk⟩ := optP_ex hk
        obtain ⟨l2, e2, hk⟩ := optP_ex hk
        cases V.list?_eq e1
        cases V.list?_eq e2
        obtain ⟨⟨d1, d2, s1, s2⟩, hk⟩ := hk
        obtain ⟨as, r1⟩ := reads_of l ra d1
        obtain ⟨bs, r2⟩ := reads_of l rb d2
        with_reducible refine PyProof.Rows.ne_dataH r1 r2 s1 s2 hu ?_
        exact sc hk tk
  | Lt =>
    obtain ⟨i, t, rfl, hk⟩ := intP hk ra
    obtain ⟨j, u, rfl, hk⟩ := intP hk rb
    (with_reducible refine PyProof.Rows.lt_int ?_); exact sc hk tk
  | Gt =>
    obtain ⟨i, t, rfl, hk⟩ := intP hk ra
    obtain ⟨j, u, rfl, hk⟩ := intP hk rb
    (with_reducible refine PyProof.Rows.gt_int ?_); exact sc hk tk
  | GtE =>
    obtain ⟨i, t, rfl, hk⟩ := intP hk ra
    obtain ⟨j, u, rfl, hk⟩ := intP hk rb
    (with_reducible refine P.ge_int ?_); exact sc hk tk
  | In =>
    obtain ⟨i, t, rfl, hk⟩ := strP hk ra
    obtain ⟨m, a, vs, n, rfl, e, r, hk⟩ := listP hk rb
    obtain ⟨ys, rfl, hk⟩ := hk
    with_reducible refine PyProof.Rows.in_list_strs (isList l e) (relL_strs r) ?_
    exact sc hk tk
  | _ => exact hk.elim

noncomputable def vTruth (a : V) (K : Bool → Prop) : Prop := opt2 a.bool? K (optP a.int? fun i => K (i != 0))
theorem truth_sound {a : Value} {x : V} {K : Bool → Prop} (ra : Rel G a x) (hk : vTruth x K) :
    wpH (model prog w) X A (truthy a) (fun b h' => h' = h ∧ K b) h := by
  refine wpH.of fun tk _ => ?_
  rcases opt2_or hk with ⟨b, e, hk⟩ | ⟨_, hk⟩
  · cases V.bool?_eq e
    cases ra; exact wpAny_truthy_bool ⟨h, tk, rfl, rfl, hk⟩
  · obtain ⟨i, t, rfl, hk⟩ := intP hk ra
    (with_reducible refine P.truthy_int ?_); exact ⟨h, tk, rfl, rfl, hk⟩

noncomputable def vUn (op : UnaryOp) (a : V) (K : V → Prop) : Prop :=
  match op with
  | .USub => optP a.int? fun i => K (.int (-i))
  | .Not => vTruth a fun b => K (.bool (!b))
  | _ => False
theorem un_sound {op : UnaryOp} {a : Value} {x : V} {K : V → Prop} (l : LeH G h) (ra : Rel G a x) (hk : vUn op x K) : Yl (model prog w) X A (unaryOp op a) G K h := by
  cases op with
  | USub =>
    obtain ⟨i, t, rfl, hk⟩ := intP hk ra
    exact Yl.plain l _ hk fun tk _ => by (with_reducible refine P.neg_int ?_); exact ⟨⟨_, rfl⟩, .int _ _⟩
  | Not =>
    refine wpH.of fun tk htk => ?_
    with_reducible refine not_value ?_
    exact (truth_sound ra hk).use htk fun b h' tk' _ ⟨e, k⟩ => ⟨h', tk', rfl, by subst e; exact ⟨Sub.refl _, _, G, Grow.refl _ G, l, .bool _, k⟩⟩
  | _ => exact hk.elim
end
end Mine

-- part E4
open PySem
set_option Elab.async false
set_option maxRecDepth 100000
set_option linter.unusedVariables false
namespace Mine
open Builtin Builtin.Str Builtin.Int

noncomputable def vCall (id : String) (args : List V) (K : V → Prop) : Prop :=
  optP (one args) fun x =>
    if id = "len" then opt2 x.str? (fun x => x.length ≤ 16777216 ∧ K (.int x.length)) (optP x.list? fun l => l.length ≤ 16777216 ∧ K (.int l.length))
    else if id = "sum" then optP x.list? fun l => ∃ ns : List Int, l = ns.map V.int ∧ K (.int ns.sum)
    else if id = "max" then optP x.list? fun l => ∃ ns : List Int, l = ns.map V.int ∧ 0 < ns.length ∧ ∀ m, m ∈ ns → (∀ x ∈ ns, x ≤ m) → K (.int m)
    else if id = "sorted" then optP x.list? fun l => ∃ ns : List Int, l = ns.map V.int ∧ ns.length < 64 ∧ ∀ ns' : List Int, ns'.Perm ns → ns'.Pairwise (· ≤ ·) → K (.list (ns'.map V.int))
    else if id = "ord" then optP x.str? fun x => ∃ c : Nat, x = ⟨#[c]⟩ ∧ K (.int c)
    else if id = "chr" then optP x.int? fun i => (0 ≤ i ∧ i ≤ 0x10FFFF) ∧ K (.str ⟨#[i.toNat]⟩)
    else if id = "hex" then optP x.int? fun i => (baseText "0x" 16 i).length ≤ sizeLine ∧ K (.str (baseText "0x" 16 i))
    else False

section
variable {prog : Program} {w : World} {A : Around} {X : Fix} {G : GMap} {h : Heap} {K : V → Prop}

theorem Yl.grown {t : Sem Value} (l : LeH G h) (p : ∀ tk, 1 ≤ tk → wpAny (model prog w) A t (HP0 X (YQ X G K h)) NoE (X.at h tk)) : Yl (model prog w) X A t G K h :=
  wpH.of fun tk htk => wpAny_mono (p tk htk) (fun v s' ⟨h', tk', e, r⟩ => ⟨h', tk', e, r⟩) fun _ _ x => x

theorem ints_items {vs : List Value} {ns : List Int} (hi : PyProof.Rows.IntsAre vs ns) : ∃ xs : Array (Int × Tok), vs.toArray = intItems xs ∧ xs.toList.map (·.1) = ns := by
  obtain ⟨xs, e⟩ := hi.allInts.items
  refine ⟨xs, e, ?_⟩
  rw [← nums_intItems, ← e, show vs.toArray.toList = vs from rfl, hi.numsOf]

theorem numAt_lt {xs : Array (Int × Tok)} {i : Nat} (h : i < xs.size) : numAt xs i = xs[i].1 := by simp [numAt, h]

theorem small63 {n : Nat} (h : n ≤ 16777216) : (n : Int) < 2 ^ 63 := by omega
theorem len_sound {v : Value} {x : V} (l : LeH G h) (r : Rel G v x) (hk : opt2 x.str? (fun x => x.length ≤ 16777216 ∧ K (.int x.length)) (optP x.list? fun l => l.length ≤ 16777216 ∧ K (.int l.length))) :
    Yl (model prog w) X A (call (.builtin "len") [v]) G K h := by
  rcases opt2_or hk with ⟨s, e, hk⟩ | ⟨_, hk⟩
  · cases V.str?_eq e
    obtain ⟨t, rfl⟩ := r.strI
    refine Yl.plain l _ hk.2 fun tk _ => ?_
    with_reducible refine P.len_str ?_ ?_
    · exact Int.not_le.mpr (small63 hk.1)
    · exact ⟨⟨_, rfl⟩, .int _ _⟩
  · obtain ⟨m, a, vs, n, ev, e, rl, hk⟩ := listP hk r
    clear r
    subst ev
    have r := rl
    refine Yl.plain l _ hk.2 fun tk _ => ?_
    have hl := r.length
    with_reducible refine PyProof.Rows.len_list (isList l e) ?_ ?_
    · rw [List.size_toArray, hl]; exact small63 hk.1
    · rw [List.size_toArray, hl]; exact ⟨⟨_, rfl⟩, .int _ _⟩
theorem sum_sound {v : Value} {x : V} (rm : Room A) (l : LeH G h) (r : Rel G v x) (hk : optP x.list? fun l => ∃ ns : List Int, l = ns.map V.int ∧ K (.int ns.sum)) :
    Yl (model prog w) X A (call (.builtin "sum") [v]) G K h := by
  obtain ⟨m, a, vs, n, ev, e, rl, ns, rfl, hk⟩ := listP hk r
  clear r
  subst ev
  have r := rl
  obtain ⟨xs, ex, en⟩ := ints_items (relL_ints r)
  refine Yl.grown l fun tk _ => ?_
  have hl := isList l e
  rw [ex] at hl
  with_reducible refine sum_intListG rm.hh hl ?_
  intro h' tk' t' kp
  have e1 : preSum (numAt xs) xs.size = ns.sum := by rw [preSum_eq, List.take_of_length_le (by rw [List.length_map, Array.length_toList]; exact Nat.le_refl _), en]
  rw [e1]
  exact ⟨h', tk', rfl, .of kp, _, G, Grow.refl _ G, l.sub (X := X) (.of kp), .int _ _, hk⟩
theorem best_in {xs : Array (Int × Tok)} {ns : List Int} (en : xs.toList.map (·.1) = ns) {j : Nat} (hj : j < xs.size) : numAt xs j ∈ ns := by
  rw [← en, List.mem_map]
  exact ⟨xs[j], Array.mem_toList_iff.mpr (Array.getElem_mem hj), (numAt_lt hj).symm⟩
theorem best_at {xs : Array (Int × Tok)} {ns : List Int} (en : xs.toList.map (·.1) = ns) {x : Int} (hx : x ∈ ns) : ∃ j, j < xs.size ∧ numAt xs j = x := by
  rw [← en, List.mem_map] at hx
  obtain ⟨p, hp, rfl⟩ := hx
  obtain ⟨j, hj, e2⟩ := List.getElem_of_mem hp
  have hj' : j < xs.size := hj
  exact ⟨j, hj', by rw [numAt_lt hj']; exact congrArg Prod.fst e2⟩
theorem size_of {xs : Array (Int × Tok)} {ns : List Int} (en : xs.toList.map (·.1) = ns) : xs.size = ns.length := by
  rw [← en, List.length_map, Array.length_toList]
theorem max_sound {v : Value} {x : V} (rm : Room A) (l : LeH G h) (r : Rel G v x) (hk : optP x.list? fun l => ∃ ns : List Int, l = ns.map V.int ∧ 0 < ns.length ∧ ∀ m, m ∈ ns → (∀ x ∈ ns, x ≤ m) → K (.int m)) :
    Yl (model prog w) X A (call (.builtin "max") [v]) G K h := by
  obtain ⟨m, a, vs, n, ev, e, rl, ns, rfl, hn, hk⟩ := listP hk r
  clear r
  subst ev
  have r := rl
  obtain ⟨xs, ex, en⟩ := ints_items (relL_ints r)
  refine Yl.grown l fun tk _ => ?_
  have hl := isList l e
  rw [ex] at hl
  have hp : 0 < xs.size := by rw [size_of en]; exact hn
  with_reducible refine max_intList rm.hh hl hp ?_
  intro v h' tk' hv kp
  have hb := argBest_gt (numAt xs) (xs.size - 1)
  obtain ⟨t, rfl⟩ := intItems_at hv
  refine ⟨h', tk', rfl, .of kp, _, G, Grow.refl _ G, l.sub (X := X) (.of kp), .int _ _, hk _ (best_in en (Nat.lt_of_le_of_lt hb.1 (Nat.sub_lt hp Nat.one_pos))) fun x hx => ?_⟩
  obtain ⟨j, hj, e3⟩ := best_at en hx
  rw [← e3]
  exact hb.2 j (Nat.le_sub_one_of_lt hj)
theorem sorted_sound {v : Value} {x : V} (l : LeH G h) (r : Rel G v x) (hk : optP x.list? fun l => ∃ ns : List Int, l = ns.map V.int ∧ ns.length < 64 ∧ ∀ ns' : List Int, ns'.Perm ns → ns'.Pairwise (· ≤ ·) → K (.list (ns'.map V.int))) :
    Yl (model prog w) X A (call (.builtin "sorted") [v]) G K h := by
  obtain ⟨m, a, vs, n, ev, e, rl, ns, rfl, hn, hk⟩ := listP hk r
  clear r
  subst ev
  have r := rl
  refine Yl.grown l fun tk _ => ?_
  have hlen : vs.length = ns.length := by have := r.length; simpa using this
  with_reducible refine PyProof.Rows.sorted_ints (isList l e) (relL_ints r) (by omega) ?_
  intro out ns' ho hp hs
  obtain ⟨e', he'⟩ := PyProof.Rows.sortedAll_at h vs out
  have hsub : Sub X h (PyProof.Rows.sortedAll h vs out) := Sub.of fun b o q => PyProof.Rows.sortedAll_old q
  refine ⟨_, tk, rfl, hsub, _, G.add (h.objs.size + 1) (listO out.toList e'), Grow.add l (get_ge (Nat.le_succ _)), (l.sub hsub).add (by rw [he']), .list _ out.toList e' _ (GMap.add_self ..) (relL_of_ints ho), hk ns' hp hs⟩

theorem call_sound {id : String} {vals : List Value} {args : List V} (rm : Room A) (l : LeH G h) (ra : RelL G vals args) (hk : vCall id args K) :
    Yl (model prog w) X A (call (.builtin id) vals) G K h := by
  obtain ⟨x, e, hk⟩ := optP_ex hk
  cases one_eq e
  obtain ⟨v, rfl, r⟩ := ra.one
  rcases ite_or hk with ⟨rfl, hk⟩ | hk
  · exact len_sound l r hk
  rcases ite_or hk with ⟨rfl, hk⟩ | hk
  · exact sum_sound rm l r hk
  rcases ite_or hk with ⟨rfl, hk⟩ | hk
  · exact max_sound rm l r hk
  rcases ite_or hk with ⟨rfl, hk⟩ | hk
  · exact sorted_sound l r hk
  rcases ite_or hk with ⟨rfl, hk⟩ | hk
  · obtain ⟨s, t, rfl, c, rfl, hk⟩ := strP hk r
    exact Yl.plain l _ hk fun tk _ => by (with_reducible refine P.ord_of_char ?_); exact ⟨⟨_, rfl⟩, .int _ _⟩
  rcases ite_or hk with ⟨rfl, hk⟩ | hk
  · obtain ⟨i, t, rfl, ⟨h0, h1⟩, hk⟩ := intP hk r
    refine Yl.plain l _ hk fun tk _ => ?_
    with_reducible refine P.chr_of_int ?_ ?_
    · simp only [Bool.or_eq_false_iff, decide_eq_false_iff_not]; omega
    · exact ⟨⟨_, rfl⟩, .str _ _⟩
  rcases ite_or hk with ⟨rfl, hk⟩ | hk
  · obtain ⟨i, t, rfl, h0, hk⟩ := intP hk r
    refine Yl.plain l _ hk fun tk _ => ?_
    with_reducible refine P.hex_of_int ?_ h0
    exact ⟨⟨_, rfl⟩, .str _ _⟩
  · exact hk.elim

noncomputable def vType (id : String) (args : List V) (K : V → Prop) : Prop :=
  if id = "range" then opt2 (one args) (fun x => optP x.int? fun n => (-(2 ^ 62) ≤ n ∧ n < 2 ^ 62) ∧ K (.rng 0 n))
    (optP (two args) fun p => optP p.1.int? fun m => optP p.2.int? fun n => (-(2 ^ 61) ≤ m ∧ m < 2 ^ 61 ∧ -(2 ^ 61) ≤ n ∧ n < 2 ^ 61) ∧ K (.rng m n))
  else False

theorem type_sound {id : String} {vals : List Value} {args : List V} (rm : Room A) (l : LeH G h) (ra : RelL G vals args) (hk : vType id args K) :
    Yl (model prog w) X A (call (.type id) vals) G K h := by
  rcases ite_or hk with ⟨rfl, hk⟩ | hk
  · rcases opt2_or hk with ⟨x, e, hk⟩ | ⟨_, hk⟩
    · cases one_eq e
      obtain ⟨v, rfl, r⟩ := ra.one
      obtain ⟨i, t, rfl, hk⟩ := intP hk r
      refine Yl.grown l fun tk _ => ?_
      with_reducible refine call_range_1 ?_
      refine ⟨_, _, rfl, Sub.push _ _, _, G.add h.objs.size _, Grow.add l (get_size h), (l.sub (X := X) (Sub.push _ _)).add (Heap.get?_push_size _ rfl), .rng _ _ _ _ _ _ (GMap.add_self ..), hk.2⟩
    · obtain ⟨p, e, hk⟩ := optP_ex hk
      cases two_eq e
      obtain ⟨v, u, rfl, r, r2⟩ := ra.two
      obtain ⟨i, t, rfl, hk⟩ := intP hk r
      obtain ⟨j, t2, rfl, hk⟩ := intP hk r2
      refine Yl.grown l fun tk _ => ?_
      with_reducible refine call_range_2 ?_
      refine ⟨_, _, rfl, Sub.push _ _, _, G.add h.objs.size _, Grow.add l (get_size h), (l.sub (X := X) (Sub.push _ _)).add (Heap.get?_push_size _ rfl), .rng _ _ _ _ _ _ (GMap.add_self ..), hk.2⟩
  · exact hk.elim

theorem listCopy {a : Addr} {vs : List Value} {n : Nat} {Q : Value → Heap → Prop} (e : h.get? a = some (listO vs n)) (hsz : vs.length ≤ 16777216)
    (hq : ∀ h' c, Sub X h h' → h'.get? h.objs.size = some (listO vs c) → Q (.ref h.objs.size) h') : wpH (model prog w) X A (call (.type "list") [.ref a]) Q h :=
  wpH.of fun tk _ => by
    have hz : vs.toArray.size ≤ sizeLine := by rw [List.size_toArray, line_eq]; exact hsz
    with_reducible refine call_list_seq (hsz := hz) a (.inl rfl) e rfl rfl ?_
    intro h' c kp hg
    exact ⟨h', tk, rfl, hq h' c (.of kp) hg⟩
end
end Mine

-- part E5
open PySem
set_option Elab.async false
set_option maxRecDepth 100000
set_option linter.unusedVariables false
namespace Mine
open Builtin Builtin.Str Builtin.Int

noncomputable def idx (l : List V) (i : Int) : Option V :=
  match i with
  | .ofNat n => l[n]?
  | .negSucc n => if n < l.length then l[l.length - (n + 1)]? else none

noncomputable def vIdx (a i : V) (K : V → Prop) : Prop :=
  opt2 a.list? (fun l => optP i.int? fun i => l.length ≤ 16777216 ∧ ∃ x, idx l i = some x ∧ K x)
    (optP a.str? fun x => optP i.int? fun i => x.length ≤ 16777216 ∧ ∃ c : Nat, 0 ≤ i ∧ x.cps[i.toNat]? = some c ∧ K (.str ⟨#[c]⟩))

noncomputable def vPick (l : List V) (lo hi st : Option Int) : List V :=
  (sliceRange (sliceBounds lo hi st l.length).1 (sliceBounds lo hi st l.length).2.1 (sliceBounds lo hi st l.length).2.2).filterMap (l[·]?)

noncomputable def vSlice (o : V) (lo hi st : Option Int) (K : V → Prop) : Prop :=
  opt2 o.str? (fun x => (x.length ≤ 16777216 ∧ st = none) ∧ K (.str (Txt.slice x lo hi)))
    (optP o.list? fun l => (l.length ≤ 16777216 ∧ st ≠ some 0) ∧ K (.list (vPick l lo hi st)))

section
variable {prog : Program} {w : World} {A : Around} {X : Fix} {G : GMap} {h : Heap} {K : V → Prop}

theorem item_list {a : Addr} {vs : List Value} {l : List V} {i : Int} {t : Tok} {x : V} {Q : Value → Heap → Prop} (hl : h.IsList a vs.toArray) (r : RelL G vs l) (hn : l.length ≤ 16777216)
    (hi : idx l i = some x) (hq : ∀ v, Rel G v x → Q v h) : wpH (model prog w) X A (getItem (.ref a) (.int i t)) Q h := by
  refine wpH.of fun tk _ => ?_
  have hlen := r.length
  unfold idx at hi
  split at hi
  · rename_i n
    obtain ⟨v, e, rv⟩ := r.get n hi
    have hlt : n < vs.length := (List.getElem?_eq_some_iff.mp e).1
    with_reducible refine wpAny_getItem_list hl ?_ ?_ (x := v) ?_ ?_
    · show (0 : Int) ≤ (n : Int); omega
    · show (n : Int) < 2 ^ 63; omega
    · show vs.toArray[n]? = some v; simpa using e
    · exact ⟨h, tk, rfl, hq v rv⟩
  · rename_i n
    split at hi
    · rename_i hlt
      obtain ⟨v, e, rv⟩ := r.get _ hi
      have e1 : (Int.negSucc n : Int) = -((n : Int) + 1) := by omega
      with_reducible refine wpAny_getItem_list_neg hl ?_ ?_ ?_ (x := v) ?_ ?_
      · omega
      · rw [List.size_toArray, e1]; omega
      · rw [e1]; omega
      · have : (Int.negSucc n + (vs.toArray.size : Int)).toNat = l.length - (n + 1) := by rw [List.size_toArray, e1]; omega
        rw [this]; simpa using e
      · exact ⟨h, tk, rfl, hq v rv⟩
    · cases hi

theorem item_sound {a i : Value} {x y : V} (l : LeH G h) (ra : Rel G a x) (ri : Rel G i y) (hk : vIdx x y K) : Yl (model prog w) X A (getItem a i) G K h := by
  rcases opt2_or hk with ⟨m, e, hk⟩ | ⟨_, hk⟩
  · cases V.list?_eq e
    obtain ⟨a, vs, n, rfl, e, r⟩ := ra.listI
    obtain ⟨j, u, rfl, hk⟩ := intP hk ri
    obtain ⟨hn, x, hx, hk⟩ := hk
    exact item_list (isList l e) r hn hx fun v rv => ⟨Sub.refl h, x, G, Grow.refl h G, l, rv, hk⟩
  · obtain ⟨s, t, rfl, hk⟩ := strP hk ra
    obtain ⟨j, u, rfl, hk⟩ := intP hk ri
    obtain ⟨hn, c, h0, hc, hk⟩ := hk
    refine Yl.plain l _ hk fun tk _ => ?_
    have hlt := (Array.getElem?_eq_some_iff.mp hc).1
    have hx : ∀ y : Str, y.length = y.cps.size := fun _ => rfl
    rw [hx] at hn
    clear ra ri hk
    with_reducible refine P.getItem_str (c := c) ?_ ?_ ?_
    · clear hc; simp only [Bool.or_eq_false_iff, decide_eq_false_iff_not]; omega
    · rw [hx, seqIndex_of h0 (by omega)]
      exact hc
    · exact ⟨⟨_, rfl⟩, .str _ _⟩

theorem relL_pick {vs : List Value} {l : List V} (r : RelL G vs l) : ∀ is : List Nat, RelL G (is.filterMap (vs[·]?)) (is.filterMap (l[·]?))
  | [] => .nil
  | i :: is => by
    have hlen := r.length
    cases e : l[i]? with
    | none =>
      have : vs[i]? = none := by rw [List.getElem?_eq_none_iff] at e ⊢; omega
      rw [List.filterMap_cons_none (by exact this), List.filterMap_cons_none (by exact e)]
      exact relL_pick r is
    | some x =>
      obtain ⟨v, ev, rv⟩ := r.get i e
      rw [List.filterMap_cons_some (by exact ev), List.filterMap_cons_some (by exact e)]
      exact .cons _ _ _ _ rv (relL_pick r is)

theorem part_value {v : Value} {k : Option Int} (p : IsPart v k) : ∃ q : Option (Int × Tok), v = partValue q ∧ q.map (·.1) = k := by
  cases p with
  | none => exact ⟨none, rfl, rfl⟩
  | int i t => exact ⟨some (i, t), rfl, rfl⟩

theorem slice_sound {a l u s : Value} {x : V} {lo hi st : Option Int} {sl : Addr} (le : LeH G h) (ra : Rel G a x) (hs : h.IsSliceOf sl l u s)
    (pl : IsPart l lo) (pu : IsPart u hi) (ps : IsPart s st) (hk : vSlice x lo hi st K) : Yl (model prog w) X A (getItem a (.ref sl)) G K h := by
  rcases opt2_or hk with ⟨x, e, hk⟩ | ⟨_, hk⟩
  · cases V.str?_eq e
    obtain ⟨t, rfl⟩ := ra.strI
    obtain ⟨⟨hn, e0⟩, hk2⟩ := hk
    subst e0
    cases ps
    obtain ⟨ql, rfl, el⟩ := part_value pl
    obtain ⟨qu, rfl, eu⟩ := part_value pu
    refine Yl.plain le _ hk2 fun tk _ => ?_
    have hs' : (X.at h tk).heap.IsSlice sl ql qu none := hs
    with_reducible refine wpAny_getItem_str_slice (l := ql) (u := qu) (st := none) hs' rfl ?_
    have e : sliceMade x t ql qu none = (if ((1 : Int) == 1 && (strSliceIndices lo hi 1 x.length).length == x.length) = true then Made.val (.str x t) else Made.str ⟨((strSliceIndices lo hi 1 x.length).filterMap (x.cps[·]?)).toArray⟩) := by
      unfold sliceMade slicePicked
      rw [el, eu]; rfl
    rw [e]
    have hsl : (Txt.slice x lo hi).length ≤ sizeLine := Nat.le_trans (Txt.slice_le x lo hi) (by rw [line_eq]; exact hn)
    unfold Txt.slice at hsl ⊢
    split
    · exact ⟨⟨_, rfl⟩, .str _ _⟩
    · rename_i hc
      rw [if_neg hc] at hsl
      exact ⟨hsl, ⟨_, rfl⟩, .str _ _⟩
  · obtain ⟨l', a, vs, n, rfl, e, r, hk⟩ := listP hk ra
    obtain ⟨⟨hn, h0⟩, hk⟩ := hk
    have hlen := r.length
    refine Yl.grown le fun tk _ => ?_
    have hz : vs.toArray.size ≤ sizeLine := by rw [List.size_toArray, line_eq]; omega
    with_reducible refine wpAny_getItem_list_slice (hsz := hz) (isList le e) hs pl pu ps h0 ?_
    have ep : (slicePick vs.toArray lo hi st) = ((sliceRange (sliceBounds lo hi st l'.length).1 (sliceBounds lo hi st l'.length).2.1 (sliceBounds lo hi st l'.length).2.2).filterMap (vs[·]?)).toArray := by
      unfold slicePick
      rw [List.size_toArray, hlen]
      simp
    refine ⟨_, tk, rfl, Sub.push _ _, _, G.add h.objs.size (listO ((sliceRange (sliceBounds lo hi st l'.length).1 (sliceBounds lo hi st l'.length).2.1 (sliceBounds lo hi st l'.length).2.2).filterMap (vs[·]?)) 0), Grow.add le (get_size h), (le.sub (X := X) (Sub.push _ _)).add ?_, .list _ _ 0 _ (GMap.add_self ..) (RelL.mono (fun a o q => (Grow.add le (get_size h)).up a o q) (relL_pick r _)), hk⟩
    rw [ep]
    exact Heap.get?_push_size _ rfl

noncomputable def vMeth (name : Str) (o : V) (args : List V) (K : V → Prop) : Prop :=
  optP (one args) fun a =>
    opt2 o.str? (fun x => opt2 a.str? (fun y =>
        if name = ("split" : Str) then (0 < y.length ∧ x.length ≤ 1000000) ∧ K (.list ((Txt.split x y).map V.str))
        else if name = ("count" : Str) then K (.int (Txt.count x y))
        else False)
      (optP a.list? fun l => if name = ("join" : Str) then ∃ ys : List Str, l = ys.map V.str ∧ JoinOk x ys = true ∧ K (.str (Txt.join x ys)) else False))
    (
      if name = ("index" : Str) then optP o.list? fun l => optP a.int? fun k => ∃ ns : List Int, l = ns.map V.int ∧ PyData.layable0 (.list (ns.map .int)) = true ∧ k ∈ ns ∧ K (.int (ns.idxOf k)) else
      False)

noncomputable def methId (name : Str) (o : V) : String :=
  match o.str? with
  | some _ => if name = ("split" : Str) then "str.split" else if name = ("count" : Str) then "str.count" else if name = ("join" : Str) then "str.join" else if name = ("replace" : Str) then "str.replace" else ""
  | none => "list.index"

theorem strs_vals : ∀ {vs : List Value} {ys : List Str}, RelL G vs (ys.map V.str) → ∃ l : List (Str × Tok), vs = strValues l ∧ l.map (·.1) = ys
  | _, [], r => by cases r; exact ⟨[], rfl, rfl⟩
  | _, y :: ys, r => by
    cases r with
    | cons v x vs xs q rs =>
      cases q with
      | str s t =>
        obtain ⟨l, rfl, e⟩ := strs_vals rs
        exact ⟨(y, t) :: l, rfl, by simp [e]⟩
theorem relL_vals : ∀ {l : List (Str × Tok)}, RelL G (strValues l) ((l.map (·.1)).map V.str)
  | [] => .nil
  | (y, t) :: l => .cons _ _ _ _ (.str y t) relL_vals

theorem split_push {s : Shared} {E : Value → Shared → Prop} {x y : Str} {t u : Tok} {Q : Value → Shared → Prop} (hy : (y.length == 0) = false)
    (hq : ∀ l k, l.map (·.1) = Txt.split x y → Q (.ref s.heap.objs.size) { s with heap := s.heap.push { cls := .type "list", data := .seq (strValues l).toArray }, toks := k })
    (hsz : x.length ≤ sizeLine) (hsz2 : (partsBetween x (occurrences x y 0 x.length (x.length + 1)) y.length).length ≤ sizeLine) :
    wpAny (model prog w) A (call (.builtin "str.split") [.str x t, .str y u]) Q E s := by
  cases h1 : (decide (x.length < y.length) || decide (strKind x < strKind y))
  · cases hf : (occurrences x y 0 x.length (x.length + 1)).isEmpty
    · refine call_meets F.slot_str_split (typeIs_str _ _ _) F.entry_str_split (F.args_str_split_2 _ _) (meets_str_split_sep x y t u h1 hy hf hsz hsz2) ?_
      show wants Q E _ { s with toks := _, heap := s.heap.push { cls := .type "list", data := .seq (strsFrom s.toks (partsBetween x (occurrences x y 0 x.length (x.length + 1)) y.length)).toArray } }
      rw [strsFrom_eq]
      exact hq (numbered s.toks _) _ ((numbered_texts _ _).trans ((if_neg (by rw [h1]; decide)).trans (if_neg (by rw [hf]; decide))).symm)
    · exact call_meets F.slot_str_split (typeIs_str _ _ _) F.entry_str_split (F.args_str_split_2 _ _) (meets_str_split_not_found x y t u h1 hy hf)
        (hq [(x, t)] s.toks ((if_neg (by rw [h1]; decide)).trans (if_pos hf)).symm)
  · exact call_meets F.slot_str_split (typeIs_str _ _ _) F.entry_str_split (F.args_str_split_2 _ _) (meets_str_split_cannot_occur x y t u h1)
      (hq [(x, t)] s.toks (if_pos h1).symm)
end
end Mine

-- part E6
open PySem
set_option Elab.async false
set_option maxRecDepth 100000
set_option linter.unusedVariables false
namespace Mine
open Builtin Builtin.Str Builtin.Int

noncomputable def methOk (name : Str) (o : V) : Bool :=
  match o.str? with
  | some _ => decide (name = ("split" : Str)) || (decide (name = ("count" : Str)) || (decide (name = ("join" : Str)) || decide (name = ("replace" : Str))))
  | none => match o.list? with
    | some _ => decide (name = ("index" : Str))
    | none => false

theorem or2 {a b : Bool} (h : (a || b) = true) : a = true ∨ b = true := (Bool.or_eq_true _ _).mp h
section
variable {prog : Program} {w : World} {A : Around} {X : Fix} {G : GMap} {h : Heap} {K : V → Prop}

theorem get_sound {name : Str} {o : Value} {x : V} {pl : Sem Bool} {Q : Value × List Value → Heap → Prop} (l : LeH G h) (ro : Rel G o x) (ok : methOk name x = true) (hq : Q (.builtin (methId name x), [o]) h) :
    wpH (model prog w) X A (getMethod o name pl) Q h := by
  refine wpH.of fun tk _ => ?_
  cases e : x.str? with
  | some s =>
    cases V.str?_eq e
    obtain ⟨t, rfl⟩ := ro.strI
    rcases or2 (show (decide (name = ("split" : Str)) || (decide (name = ("count" : Str)) || (decide (name = ("join" : Str)) || decide (name = ("replace" : Str))))) = true from ok) with ok | ok
    · cases of_decide_eq_true ok
      with_reducible refine GM.split ?_
      exact ⟨h, tk, rfl, hq⟩
    rcases or2 ok with ok | ok
    · cases of_decide_eq_true ok
      with_reducible refine GM.count ?_
      exact ⟨h, tk, rfl, hq⟩
    rcases or2 ok with ok | ok
    · cases of_decide_eq_true ok
      with_reducible refine GM.join ?_
      exact ⟨h, tk, rfl, hq⟩
    · cases of_decide_eq_true ok
      with_reducible refine GM.replace ?_
      exact ⟨h, tk, rfl, hq⟩
  | none =>
    unfold methOk at ok
    unfold methId at hq
    rw [e] at ok hq
    cases e2 : x.list? with
    | none => rw [e2] at ok; cases ok
    | some m =>
      rw [e2] at ok
      cases V.list?_eq e2
      cases of_decide_eq_true ok
      obtain ⟨a, vs, n, rfl, e, r⟩ := ro.listI
      refine getMethod_builtin (T := "list") ⟨_, (l _ _ e).1, rfl⟩ F.plainAttrs_list F.slot_list_index F.type_list_index (fun b q => ?_) ⟨h, tk, rfl, hq⟩
      cases q
      exact ⟨_, (l _ _ e).1, rfl⟩

theorem split_sound {s y : Str} {t u : Tok} (l : LeH G h) (hk : (0 < y.length ∧ s.length ≤ 1000000) ∧ K (.list ((Txt.split s y).map V.str))) : Yl (model prog w) X A (call (.builtin "str.split") [.str s t, .str y u]) G K h := by
  obtain ⟨⟨h1, h2⟩, hk⟩ := hk
  refine Yl.grown l fun tk _ => ?_
  have h3 := StrLaws.occ_length_le s y 0 s.length (s.length + 1)
  refine split_push (beq_false_of_ne (Nat.ne_of_gt h1)) (fun ps k e => ?_) ?_ ?_
  · refine ⟨_, k, rfl, Sub.push _ _, _, G.add h.objs.size (listO (strValues ps) 0), Grow.add l (get_size h), (l.sub (X := X) (Sub.push _ _)).add (Heap.get?_push_size _ rfl), .list _ _ 0 _ (GMap.add_self ..) ?_, hk⟩
    rw [← e]
    exact relL_vals
  · clear hk; rw [line_eq]; omega
  · clear hk; rw [line_eq, PyProof.Rows.len_partsBetween]; omega

theorem meth_sound {name : Str} {o : Value} {x : V} {vals : List Value} {args : List V} (l : LeH G h) (ro : Rel G o x) (ra : RelL G vals args) (hk : vMeth name x args K) :
    Yl (model prog w) X A (call (.builtin (methId name x)) (o :: vals)) G K h := by
  obtain ⟨y, e, hk⟩ := optP_ex hk
  cases one_eq e
  obtain ⟨v, rfl, r⟩ := ra.one
  rcases opt2_or hk with ⟨s, e, hk⟩ | ⟨e0, hk⟩
  · cases V.str?_eq e
    obtain ⟨t, rfl⟩ := ro.strI
    rcases opt2_or hk with ⟨y', e, hk⟩ | ⟨_, hk⟩
    · cases V.str?_eq e
      obtain ⟨u, rfl⟩ := r.strI
      rcases ite_or hk with ⟨rfl, hk⟩ | hk
      · exact split_sound l hk
      rcases ite_or hk with ⟨rfl, hk⟩ | hk
      · refine Yl.plain l _ hk fun tk _ => ?_
        show wpAny _ _ (call (.builtin "str.count") _) _ _ _
        with_reducible refine SC.count ?_
        exact ⟨⟨_, rfl⟩, .int _ _⟩
      · exact hk.elim
    · obtain ⟨m, a, vs, n, ev, e, rl, hk⟩ := listP hk r
      clear r
      subst ev
      have r := rl
      rcases ite_or hk with ⟨rfl, hk⟩ | hk
      · obtain ⟨ys, rfl, ok, hk⟩ := hk
        obtain ⟨ps, rfl, ep⟩ := strs_vals r
        refine Yl.plain l _ hk fun tk _ => ?_
        show wpAny _ _ (call (.builtin "str.join") _) _ _ _
        with_reducible refine SC.join (isList l e) ep ok ?_
        intro t' k
        exact ⟨⟨_, rfl⟩, .str _ _⟩
      · exact hk.elim
  · unfold methId
    rw [e0]
    rcases ite_or hk with ⟨rfl, hk⟩ | hk
    · obtain ⟨m, a, vs, n, ev, e, rl, hk⟩ := listP hk ro
      clear ro
      subst ev
      have ro := rl
      obtain ⟨k, u, rfl, ns, rfl, hl, hm, hk⟩ := intP hk r
      refine Yl.plain l _ hk fun tk _ => ?_
      show wpAny _ _ (call (.builtin "list.index") _) _ _ _
      with_reducible refine PyProof.Rows.index_list_ints (isList l e) (relL_ints ro) hl hm ?_
      exact ⟨⟨_, rfl⟩, .int _ _⟩
    exact hk.elim
end
end Mine

-- part E7
open PySem
set_option Elab.async false
set_option maxRecDepth 100000
set_option linter.unusedVariables false
namespace Mine

inductive Ent where
  | val (x : V)
  | own (l : List V)
noncomputable abbrev Ctx := List (Str × Ent)
noncomputable abbrev Names := List (Str × NameKind)

noncomputable def codeN (s : Str) : Nat := s.cps.toList.foldl (fun a c => a * 2097152 + c + 1) 0
noncomputable def sameN (x y : Str) : Bool := Nat.beq (codeN x) (codeN y) && decide (x = y)
theorem sameN_iff {x y : Str} : sameN x y = true ↔ x = y := by
  unfold sameN
  constructor
  · intro h; exact of_decide_eq_true (Bool.and_eq_true_iff.mp h).2
  · rintro rfl; simp
theorem sameN_eq (x y : Str) : sameN x y = (x == y) := by
  rw [Bool.eq_iff_iff, sameN_iff, beq_iff_eq]
noncomputable def Ctx.find : Ctx → Str → Option Ent
  | [], _ => none
  | p :: r, x => match sameN x p.1 with
    | true => some p.2
    | false => Ctx.find r x
noncomputable def Ctx.put : Ctx → Str → Ent → Ctx
  | [], x, e => [(x, e)]
  | p :: r, x, e => match sameN x p.1 with
    | true => (p.1, e) :: r
    | false => p :: Ctx.put r x e
noncomputable def kindN : Names → Str → Option NameKind
  | [], _ => none
  | p :: r, x => match sameN x p.1 with
    | true => some p.2
    | false => kindN r x
theorem kindN_eq : ∀ (sc : Names) (x : Str), kindN sc x = sc.lookup x
  | [], _ => rfl
  | (y, k) :: r, x => by
    unfold kindN
    rw [List.lookup_cons, ← sameN_eq]
    cases sameN x y with
    | true => rfl
    | false => exact kindN_eq r x
theorem find_put (Γ : Ctx) (x : Str) (e : Ent) (y : Str) : (Γ.put x e).find y = if y = x then some e else Γ.find y := by
  induction Γ with
  | nil =>
    unfold Ctx.put
    by_cases h : y = x
    · subst h; have := sameN_iff.mpr (rfl : y = y); simp [Ctx.find, this]
    · have : sameN y x = false := by rw [Bool.eq_false_iff]; intro q; exact h (sameN_iff.mp q)
      simp [Ctx.find, this, h]
  | cons p r ih =>
    unfold Ctx.put
    cases hx : sameN x p.1 with
    | true =>
      have e1 := sameN_iff.mp hx
      by_cases h : y = x
      · subst h; simp [Ctx.find, hx]
      · have : sameN y p.1 = false := by rw [Bool.eq_false_iff]; intro q; exact h ((sameN_iff.mp q).trans e1.symm)
        simp [Ctx.find, this, h]
    | false =>
      cases hy : sameN y p.1 with
      | true =>
        have e1 := sameN_iff.mp hy
        have : y ≠ x := by rintro rfl; rw [hy] at hx; cases hx
        simp [Ctx.find, hy, this]
      | false => simp only [Ctx.find, hy]; exact ih

theorem bind_ex {α β : Type} {o : Option α} {f : α → Option β} {b : β} (h : o.bind f = some b) : ∃ a, o = some a ∧ f a = some b := by
  cases o with
  | none => cases h
  | some a => exact ⟨a, rfl, h⟩
theorem map_ex {α β : Type} {o : Option α} {f : α → β} {b : β} (h : o.map f = some b) : ∃ a, o = some a ∧ f a = b := by
  cases o with
  | none => cases h
  | some a => cases h; exact ⟨a, rfl, rfl⟩
noncomputable def Ent.val? : Ent → Option V
  | .val v => some v
  | .own _ => Option.none
noncomputable def Ent.own? : Ent → Option (List V)
  | .own l => some l
  | .val _ => Option.none
theorem Ent.val?_eq {e : Ent} {v : V} (h : e.val? = some v) : e = .val v := by
  cases e with
  | val _ => cases h; rfl
  | own _ => cases h
theorem Ent.own?_eq {e : Ent} {v : List V} (h : e.own? = some v) : e = .own v := by
  cases e with
  | val _ => cases h
  | own _ => cases h; rfl
noncomputable def refOf : Value → Option Addr
  | .ref a => some a
  | _ => Option.none
noncomputable def bltOf : Value → Option String
  | .builtin a => some a
  | _ => Option.none
noncomputable def typOf : Value → Option String
  | .type a => some a
  | _ => Option.none
noncomputable def strOf : Value → Option Str
  | .str a _ => some a
  | _ => Option.none
theorem refOf_eq {v : Value} {a : Addr} (h : refOf v = some a) : v = .ref a := by
  cases v with
  | ref _ => cases h; rfl
  | _ => exact no_some h
theorem bltOf_eq {v : Value} {a : String} (h : bltOf v = some a) : v = .builtin a := by
  cases v with
  | builtin _ => cases h; rfl
  | _ => exact no_some h
theorem typOf_eq {v : Value} {a : String} (h : typOf v = some a) : v = .type a := by
  cases v with
  | type _ => cases h; rfl
  | _ => exact no_some h
theorem strOf_eq {v : Value} {a : Str} (h : strOf v = some a) : ∃ t, v = .str a t := by
  cases v with
  | str _ t => cases h; exact ⟨t, rfl⟩
  | _ => exact no_some h

noncomputable def asNm : Expr → Option Str
  | .Name x _ => some x
  | _ => none
noncomputable def asTup : Expr → Option (List Expr)
  | .Tuple es _ _ => some es
  | _ => none
noncomputable def asCall : Expr → Option (Expr × List Expr × List Keyword × Pos)
  | .Call f args kws pos => some (f, args, kws, pos)
  | _ => none
noncomputable def asAtt : Expr → Option (Expr × Str × Pos)
  | .Attribute o name pos => some (o, name, pos)
  | _ => none
noncomputable def asStr : Expr → Option Str
  | .Constant (.str a) _ _ => some a
  | _ => none
theorem asNm_eq {e : Expr} {x : Str} (h : asNm e = some x) : ∃ p, e = .Name x p := by
  cases e with
  | Name y p => cases h; exact ⟨p, rfl⟩
  | _ => exact no_some h
theorem asTup_eq {e : Expr} {x : List Expr} (h : asTup e = some x) : ∃ k p, e = .Tuple x k p := by
  cases e with
  | Tuple y k p => cases h; exact ⟨k, p, rfl⟩
  | _ => exact no_some h
theorem asCall_eq {e : Expr} {x : Expr × List Expr × List Keyword × Pos} (h : asCall e = some x) : e = .Call x.1 x.2.1 x.2.2.1 x.2.2.2 := by
  cases e with
  | Call f args kws pos => cases h; rfl
  | _ => exact no_some h
theorem asAtt_eq {e : Expr} {x : Expr × Str × Pos} (h : asAtt e = some x) : e = .Attribute x.1 x.2.1 x.2.2 := by
  cases e with
  | Attribute f args kws => cases h; rfl
  | _ => exact no_some h
theorem asStr_eq {e : Expr} {x : Str} (h : asStr e = some x) : ∃ k p, e = .Constant (.str x) k p := by
  cases e with
  | Constant c k p =>
    cases c with
    | str y => cases h; exact ⟨k, p, rfl⟩
    | _ => exact no_some h
  | _ => exact no_some h
noncomputable def tup2N (e : Expr) : Option (Str × Str) := (asTup e).bind fun es => (two es).bind fun (p, q) => (asNm p).bind fun a => (asNm q).map fun b => (a, b)
theorem tup2N_eq {e : Expr} {a b : Str} (h : tup2N e = some (a, b)) : ∃ pa pb k pos, e = .Tuple [.Name a pa, .Name b pb] k pos := by
  obtain ⟨es, e1, h⟩ := bind_ex h
  obtain ⟨⟨p, q⟩, e2, h⟩ := bind_ex h
  obtain ⟨a', e3, h⟩ := bind_ex (f := fun a => (asNm q).map fun b => (a, b)) h
  obtain ⟨b', e4, h⟩ := map_ex h
  cases h
  obtain ⟨k, pos, rfl⟩ := asTup_eq e1
  obtain ⟨pa, rfl⟩ := asNm_eq e3
  obtain ⟨pb, rfl⟩ := asNm_eq e4
  cases two_eq e2
  exact ⟨pa, pb, k, pos, rfl⟩

noncomputable def debugS : Str := Str.ofString "__debug__"

structure Par where
  gl : Str → Option Value
  fs : Addr → Bool
  fn : Addr → List V → V → Prop
  mi : Addr → Str → Option String
  mt : Addr → Str → List V → V → Prop

noncomputable def vList (f : Expr → (V → Prop) → Prop) : List Expr → (List V → Prop) → Prop
  | [], K => K []
  | e :: es, K => f e fun v => vList f es fun vs => K (v :: vs)
noncomputable def isNoneV : V → Bool
  | .none => true
  | .bool _ => false
  | .int _ => false
  | .str _ => false
  | .list _ => false
  | .tup _ => false
  | .rng _ _ => false
  | .obj _ => false
theorem isNoneV_eq {v : V} (h : isNoneV v = true) : v = .none := by
  cases v with
  | none => rfl
  | _ => cases h
noncomputable def vPart (f : Expr → (V → Prop) → Prop) : Option Expr → (Option Int → Prop) → Prop
  | none, K => K none
  | some e, K => f e fun v => opt2 v.int? (fun i => K (some i)) (chk (isNoneV v) (K none))
noncomputable def vAll (g : Expr → (Bool → Prop) → Prop) (op : BoolOp) : List Expr → (Bool → Prop) → Prop
  | [], K => match op with
    | .And => K true
    | .Or => K false
  | e :: es, K => g e fun t => match op with
    | .And => (t = false → K false) ∧ (t = true → vAll g op es K)
    | .Or => (t = true → K true) ∧ (t = false → vAll g op es K)
noncomputable def vItems (x : V) (K : List V → Prop) : Prop :=
  opt2 x.list? (fun l => l.length ≤ 16777216 ∧ K l) (opt2 x.rng? (fun (lo, hi) =>
    (-(2 ^ 61) ≤ lo ∧ lo < 2 ^ 61 ∧ hi - lo ≤ 16777216 ∧ hi < 2 ^ 62 ∧ -(2 ^ 62) ≤ hi) ∧ K ((List.range (hi - lo).toNat).map fun k => V.int (lo + (k : Nat))))
    (optP x.str? fun s => s.length ≤ 16777216 ∧ K (s.cps.toList.map fun c => V.str ⟨#[c]⟩)))
noncomputable def vMap (g : V → (Option V → Prop) → Prop) : List V → List V → (List V → Prop) → Prop
  | [], acc, K => K acc
  | it :: r, acc, K => g it fun o => vMap g r (match o with | some v => acc ++ [v] | none => acc) K
noncomputable def vIfs (g : Expr → (Bool → Prop) → Prop) : List Expr → (Bool → Prop) → Prop
  | [], K => K true
  | e :: es, K => match es with
    | [] => g e K
    | _ :: _ => False
noncomputable def binds (target : Expr) (it : V) : Option Ctx :=
  match asNm target with
  | some x => some [(x, .val it)]
  | none => (tup2N target).bind fun (a, b) => it.tup?.bind fun l => (two l).bind fun (u, v) => match sameN a b with
    | true => none
    | false => some [(a, .val u), (b, .val v)]
noncomputable def targets (target : Expr) : List Str :=
  match asNm target with
  | some x => [x]
  | none => match tup2N target with
    | some (a, b) => [a, b]
    | none => []
theorem binds_or {target : Expr} {it : V} {b : Ctx} (h : binds target it = some b) : (∃ x p, target = .Name x p ∧ b = [(x, .val it)]) ∨
    ∃ a c pa pc k pos u v, target = .Tuple [.Name a pa, .Name c pc] k pos ∧ it = .tup [u, v] ∧ sameN a c = false ∧ b = [(a, .val u), (c, .val v)] := by
  unfold binds at h
  cases e : asNm target with
  | some x =>
    rw [e] at h
    cases h
    obtain ⟨p, rfl⟩ := asNm_eq e
    exact .inl ⟨x, p, rfl, rfl⟩
  | none =>
    rw [e] at h
    obtain ⟨⟨a, c⟩, e1, h⟩ := bind_ex h
    obtain ⟨l, e2, h⟩ := bind_ex (f := fun l => (two l).bind fun (u, v) => match sameN a c with
      | true => none
      | false => some [(a, Ent.val u), (c, Ent.val v)]) h
    obtain ⟨⟨u, v⟩, e3, h⟩ := bind_ex h
    obtain ⟨pa, pc, k, pos, rfl⟩ := tup2N_eq e1
    cases V.tup?_eq e2
    cases two_eq e3
    replace h : (match sameN a c with
      | true => none
      | false => some [(a, Ent.val u), (c, Ent.val v)]) = some b := h
    cases hs : sameN a c with
    | true => rw [hs] at h; cases h
    | false => rw [hs] at h; cases h; exact .inr ⟨a, c, pa, pc, k, pos, u, v, rfl, rfl, hs, rfl⟩
noncomputable def isFreeK : Option NameKind → Bool
  | some .free => true
  | _ => false
noncomputable def isCellK : Option NameKind → Bool
  | some .cell => true
  | some .free => true
  | _ => false
noncomputable def isLocalK : Option NameKind → Bool
  | some .local => true
  | _ => false
noncomputable def isLC : Option NameKind → Bool
  | some .local => true
  | some .cell => true
  | _ => false
noncomputable def relabelN (sc : Names) (names : Names) : Names := names.map fun (n, k) => if (k == .free && kindN sc n == some .cell) then (n, .cell) else (n, k)
noncomputable def capture (names : Names) (Γ : Ctx) : Ctx := Γ.filter fun p => isFreeK (kindN names p.1)
noncomputable def scopeOk (sc : Names) (scope : Scope) (target : Expr) : Bool :=
  (match scope.kind with | .function => true | _ => false) &&
  (scope.names.all fun p => match p.2 with
    | .cell => false
    | .local => isLocalK (kindN scope.names p.1)
    | .free => isCellK (kindN sc p.1)
    | _ => true) &&
  (targets target).all (fun x => isLocalK (kindN scope.names x))
noncomputable def isStarE : Expr → Bool
  | .Starred .. => true
  | _ => false
noncomputable def fewOk (args : List Expr) (apos pos : Pos) : Bool := args.all (fun e => !isStarE e) && Nat.blt args.length 29 && Nat.beq apos.endLine pos.line
noncomputable def baseOk : Expr → Bool
  | .Call _ [] _ _ => false
  | _ => true
noncomputable def twoConsts (es : List Expr) : Option (Str × Str) := (two es).bind fun (p, q) => (asStr p).bind fun a => (asStr q).map fun b => (a, b)
noncomputable def replaceS : Str := Str.ofString "replace"
noncomputable def ownL (Γ : Ctx) (x : Str) : Option (List V) := (Γ.find x).bind Ent.own?
theorem ownL_eq {Γ : Ctx} {x : Str} {l : List V} (h : ownL Γ x = some l) : Γ.find x = some (.own l) := by
  obtain ⟨e, h1, h2⟩ := bind_ex h
  rw [h1, Ent.own?_eq h2]
noncomputable def valL (Γ : Ctx) (x : Str) : Option V := (Γ.find x).bind Ent.val?
theorem valL_eq {Γ : Ctx} {x : Str} {l : V} (h : valL Γ x = some l) : Γ.find x = some (.val l) := by
  obtain ⟨e, h1, h2⟩ := bind_ex h
  rw [h1, Ent.val?_eq h2]
noncomputable def ownOf (Γ : Ctx) (value : Expr) : Option (Str × List V) := (asNm value).bind fun x => (ownL Γ x).map fun l => (x, l)
theorem ownOf_eq {Γ : Ctx} {value : Expr} {x : Str} {l : List V} (h : ownOf Γ value = some (x, l)) : ∃ p, value = .Name x p ∧ Γ.find x = some (.own l) := by
  obtain ⟨y, h1, h⟩ := bind_ex h
  obtain ⟨m, h2, h⟩ := map_ex h
  cases h
  obtain ⟨p, e⟩ := asNm_eq h1
  exact ⟨p, e, ownL_eq h2⟩
noncomputable def isGI : Option NameKind → Bool
  | some .globalImplicit => true
  | _ => false
theorem isGI_eq {k : Option NameKind} (h : isGI k = true) : k = some .globalImplicit := by
  cases k with
  | none => cases h
  | some k => cases k <;> first | rfl | cases h
theorem isLC_iff {k : Option NameKind} (h : isLC k = true) : k = some .local ∨ k = some .cell := by
  cases k with
  | none => cases h
  | some k => cases k <;> first | exact .inl rfl | exact .inr rfl | cases h
noncomputable def vName (P : Par) (sc : Names) (x : Str) (Γ : Ctx) (K : V → Prop) : Prop :=
  chk (!sameN x debugS) (match isLC (kindN sc x) with
    | true => optP (valL Γ x) K
    | false => chk (isGI (kindN sc x)) (optP (P.gl x) fun v => opt2 (strOf v) (fun s => K (.str s)) (K (.obj v))))
noncomputable def vConst (c : Const) (K : V → Prop) : Prop :=
  match c with
  | .int i => K (.int i)
  | .str s => K (.str s)
  | .bool b => K (.bool b)
  | .none => K .none
  | _ => False
noncomputable def noStars (es : List Expr) : Bool := es.all fun e => !isStarE e
noncomputable def vMCall (P : Par) (f : Expr → (V → Prop) → Prop) (o : Expr) (name : Str) (args : List Expr) (apos pos : Pos) (K : V → Prop) : Prop :=
  chk (fewOk args apos pos && baseOk o) (opt2 (match sameN name replaceS with | true => twoConsts args | false => none)
    (fun (a, b) => f o fun x => optP x.str? fun s => ((a == b) = false ∧ s.length ≤ 1048576 ∧ b.length ≤ 14) ∧ K (.str (Txt.replace s a b)))
    (f o fun x => opt2 x.obj? (fun v => optP (refOf v) fun a => chk (P.mi a name).isSome (vList f args fun vs => ∃ r, P.mt a name vs r ∧ K r))
      (chk (methOk name x) (vList f args fun vs => vMeth name x vs K))))
noncomputable def vFCall (P : Par) (f : Expr → (V → Prop) → Prop) (fe : Expr) (args : List Expr) (K : V → Prop) : Prop :=
  chk (noStars args) (f fe fun fv => optP fv.obj? fun v => opt2 (refOf v) (fun a => chk (P.fs a) (vList f args fun vs => ∃ r, P.fn a vs r ∧ K r))
    (opt2 (bltOf v) (fun id => vList f args fun vs => vCall id vs K) (optP (typOf v) fun id => vList f args fun vs => vType id vs K)))
noncomputable def isNotOp : UnaryOp → Bool
  | .Not => true
  | _ => false
mutual
noncomputable def ve (P : Par) : Nat → Names → Expr → Ctx → (V → Prop) → Prop
  | 0, _, _, _, _ => False
  | n + 1, sc, e, Γ, K => match e with
    | .Constant c _ _ => vConst c K
    | .Name x _ => vName P sc x Γ K
    | .BinOp l op r _ => ve P n sc l Γ fun a => ve P n sc r Γ fun b => vBin op a b K
    | .UnaryOp op x _ => ve P n sc x Γ fun a => vUn op a K
    | .Compare l ops rs _ => optP (one ops) fun op => optP (one rs) fun r => chk (!behindInMarks op r) (ve P n sc l Γ fun a => ve P n sc r Γ fun b => vCmp op a b fun c => K (.bool c))
    | .IfExp t b o _ => vt P n sc t Γ fun c => (c = true → ve P n sc b Γ K) ∧ (c = false → ve P n sc o Γ K)
    | .Call func args kws pos => chk kws.isEmpty (opt2 (asAtt func) (fun (o, name, apos) => vMCall P (fun e K => ve P n sc e Γ K) o name args apos pos K)
        (optP (asNm func) fun x => vFCall P (fun e K => ve P n sc e Γ K) (.Name x func.pos) args K))
    | .Subscript value slice _ => match slice with
      | .Slice lo hi st _ => ve P n sc value Γ fun o => vPart (fun e K => ve P n sc e Γ K) lo fun a => vPart (fun e K => ve P n sc e Γ K) hi fun b => vPart (fun e K => ve P n sc e Γ K) st fun c => vSlice o a b c K
      | _ => opt2 (ownOf Γ value) (fun (x, l) => chk (!sameN x debugS && isLC (kindN sc x)) (ve P n sc slice Γ fun i => vIdx (.list l) i K))
          (ve P n sc value Γ fun o => ve P n sc slice Γ fun i => vIdx o i K)
    | .List es _ => chk (noStars es) (vList (fun e K => ve P n sc e Γ K) es fun vs => chk (Nat.ble vs.length 16777216) (K (.list vs)))
    | .Tuple es _ _ => chk (noStars es) (vList (fun e K => ve P n sc e Γ K) es fun vs => chk (Nat.ble vs.length 16777216) (K (.tup vs)))
    | .ListComp elt gens scope _ => optP (one gens) fun g => match g with
      | ⟨target, iter, ifs, a⟩ => chk (decide (a = 0) && scopeOk sc scope target) (ve P n sc iter Γ fun x => vItems x fun items =>
          vMap (fun it K' => optP (binds target it) fun b => vIfs (fun e K'' => vt P n (relabelN sc scope.names) e (b ++ capture scope.names Γ) K'') ifs fun c =>
                (c = true → ve P n (relabelN sc scope.names) elt (b ++ capture scope.names Γ) fun v => K' (some v)) ∧ (c = false → K' none)) items [] fun out => K (.list out))
    | _ => False
noncomputable def vt (P : Par) : Nat → Names → Expr → Ctx → (Bool → Prop) → Prop
  | 0, _, _, _, _ => False
  | n + 1, sc, e, Γ, K => match e with
    | .UnaryOp op x _ => chk (isNotOp op) (vt P n sc x Γ fun b => K (!b))
    | .BoolOp op es _ => vAll (fun e K => vt P n sc e Γ K) op es K
    | .Compare l ops rs _ => optP (one ops) fun op => optP (one rs) fun r => chk (!behindInMarks op r) (ve P n sc l Γ fun a => ve P n sc r Γ fun b => vCmp op a b K)
    | .IfExp .. => False
    | e => ve P n sc e Γ fun v => vTruth v K
end
end Mine

-- part E8
open PySem
set_option Elab.async false
set_option maxRecDepth 100000
set_option linter.unusedVariables false
namespace Mine

section
variable {α β : Type} {M : Model} {A : Around} {X : Fix}
theorem wpH.holding {vs : List Value} {t : Sem α} {Q : α → Heap → Prop} {h : Heap} (w : wpH M X A t Q h) : wpH M X A (PySem.holding vs t) Q h :=
  ⟨fun tk htk => wpAny_holding (w.run tk htk)⟩
theorem wpH.standAt {p : Pos} {Q : Unit → Heap → Prop} {h : Heap} (q : Q () h) : wpH M X A (PySem.standAt p) Q h :=
  ⟨fun tk htk => wpAny_standAt ⟨h, tk, htk, rfl, q⟩⟩
theorem wpH.operate {vs : List Value} {t : Sem Value} {Q : Value → Heap → Prop} {h : Heap} (w : wpH M X A t Q h) : wpH M X A (PySem.operate vs t) Q h :=
  ⟨fun tk htk => wpAny_operating (w.run tk htk)⟩
theorem wpH.at {p : Pos} {f : Unit → Sem α} {Q : α → Heap → Prop} {h : Heap} (w : wpH M X A (f ()) Q h) : wpH M X A (PySem.standAt p >>= f) Q h := wpH.bind (wpH.standAt w)
end

noncomputable def EntR (G : GMap) (h : Heap) : Ent → Value → Prop
  | .val x, v => Rel G v x
  | .own l, v => ∃ a vs n, v = .ref a ∧ h.get? a = some (listO vs n) ∧ RelL G vs l
noncomputable def Loc (env : Env) (h : Heap) (x : Str) (v : Value) : Prop :=
  (env.kindOf x = some .local ∧ ∃ m, h.Ns env.locals m ∧ m x = some v) ∨ ((env.kindOf x = some .cell ∨ env.kindOf x = some .free) ∧ ∃ c, env.cells.lookup x = some c ∧ h.IsCell c (some v))
noncomputable def Rd (env : Env) (G : GMap) (Γ : Ctx) (h : Heap) : Prop := ∀ x e, Γ.find x = some e → ∃ v, Loc env h x v ∧ EntR G h e v
structure EnvOk (sc : Names) (env : Env) : Prop where
  names : env.scope.names = sc
  kind : env.scope.kind = .function
  globals : env.globals = mainGlobals
  builtins : env.builtins = builtinsNs
  cells : ∀ x, isCellK (kindN sc x) = true → ∃ c, env.cells.lookup x = some c
theorem EnvOk.kindOf {sc : Names} {env : Env} (o : EnvOk sc env) (x : Str) : env.kindOf x = kindN sc x := by
  rw [kindN_eq, ← o.names]; rfl

section
variable {X : Fix}
theorem EntR.mono {G G' : GMap} {h h' : Heap} (s : Sub X h h') (u : ∀ a o, G a = some o → G' a = some o) : ∀ {e : Ent} {v : Value}, EntR G h e v → EntR G' h' e v
  | .val x, v, r => Rel.mono u r
  | .own l, v, ⟨a, vs, n, e, hg, r⟩ => ⟨a, vs, n, e, s.get hg ((fun ⟨_, _, q⟩ => (nomatch q))), RelL.mono u r⟩
theorem Loc.mono {env : Env} {h h' : Heap} {x : Str} {v : Value} (s : Sub X h h') (l : Loc env h x v) : Loc env h' x v :=
  l.imp (fun ⟨k, m, n, e⟩ => ⟨k, m, s.ns n, e⟩) fun ⟨k, c, e, n⟩ => ⟨k, c, e, s.cell n⟩
theorem Rd.mono {env : Env} {G G' : GMap} {Γ : Ctx} {h h' : Heap} (r : Rd env G Γ h) (s : Sub X h h') (g : Grow h G G') : Rd env G' Γ h' :=
  fun x e q => let ⟨v, l, er⟩ := r x e q; ⟨v, l.mono s, er.mono s g.up⟩
end

structure OkAt (X : Fix) (ok : Around → Heap → Prop) : Prop where
  keep : ∀ A h h', ok A h → Sub X h h' → ok A h'
  room : ∀ A h, ok A h → Room A
  top : ∀ A h a o, ok A h → X.top.get? a = some o → h.get? a = some o

noncomputable def FnGives (prog : Program) (w : World) (X : Fix) (ok : Around → Heap → Prop) (a : Addr) (Vs : List V) (r : V) : Prop :=
  ∀ A h G vals, ok A h → LeH G h → RelL G vals Vs → Yl (model prog w) X A (call (.ref a) vals) G (fun x => x = r) h
noncomputable def MtGives (prog : Program) (w : World) (X : Fix) (ok : Around → Heap → Prop) (id : String) (a : Addr) (Vs : List V) (r : V) : Prop :=
  ∀ A h G vals, ok A h → LeH G h → RelL G vals Vs → Yl (model prog w) X A (call (.builtin id) (.ref a :: vals)) G (fun x => x = r) h

structure ParOk (prog : Program) (w : World) (X : Fix) (ok : Around → Heap → Prop) (P : Par) : Prop where
  gl : ∀ x v, P.gl x = some v → ∃ mg, X.top.Ns mainGlobals mg ∧ (mg x = some v ∨ (mg x = none ∧ ∃ mb, X.top.Ns builtinsNs mb ∧ mb x = some v))
  fs : ∀ a, P.fs a = true → ∃ o fd, X.top.get? a = some o ∧ o.data = .func fd
  fn : ∀ a Vs r, P.fn a Vs r → FnGives prog w X ok a Vs r
  mi : ∀ a name id, P.mi a name = some id → ∀ A h (Q : Value × List Value → Heap → Prop) pl, ok A h → Q (.builtin id, [.ref a]) h → wpH (model prog w) X A (getMethod (.ref a) name pl) Q h
  mt : ∀ a name Vs r id, P.mt a name Vs r → P.mi a name = some id → MtGives prog w X ok id a Vs r

section
variable {prog : Program} {w : World} {A : Around} {X : Fix} {G : GMap} {h : Heap} {K : V → Prop}

theorem Yl.ret {v : Value} {x : V} (l : LeH G h) (r : Rel G v x) (k : K x) : Yl (model prog w) X A (pure v) G K h :=
  wpH.pure ⟨Sub.refl h, x, G, Grow.refl h G, l, r, k⟩
theorem Yl.then {t : Sem Value} {f : Value → Sem Value} {K1 : V → Prop} (y : Yl (model prog w) X A t G K1 h)
    (k : ∀ v x h' G', Sub X h h' → Grow h G G' → LeH G' h' → Rel G' v x → K1 x → Yl (model prog w) X A (f v) G' K h') : Yl (model prog w) X A (t >>= f) G K h :=
  wpH.bind (wpH.mono y fun v h' ⟨s, x, G', g, l, r, k1⟩ => wpH.mono (k v x h' G' s g l r k1) fun v2 h2 ⟨s2, x2, G2, g2, l2, r2, k2⟩ => ⟨s.trans s2, x2, G2, g.trans s g2, l2, r2, k2⟩)

inductive LQ (X : Fix) (G : GMap) (K : List V → Prop) (h : Heap) (vs : List Value) (h' : Heap) : Prop
  | mk (s : Sub X h h') (xs : List V) (G' : GMap) (g : Grow h G G') (l : LeH G' h') (r : RelL G' vs xs) (k : K xs) : LQ X G K h vs h'
noncomputable def YL (M : Model) (X : Fix) (A : Around) (t : Sem (List Value)) (G : GMap) (K : List V → Prop) (h : Heap) : Prop := wpH M X A t (LQ X G K h) h
theorem Yb.then {t : Sem Bool} {f : Bool → Sem Value} {K1 : Bool → Prop} (y : Yb (model prog w) X A t G K1 h)
    (k : ∀ b h' G', Sub X h h' → Grow h G G' → LeH G' h' → K1 b → Yl (model prog w) X A (f b) G' K h') : Yl (model prog w) X A (t >>= f) G K h :=
  wpH.bind (wpH.mono y fun b h' ⟨s, G', g, l, k1⟩ => wpH.mono (k b h' G' s g l k1) fun v2 h2 ⟨s2, x2, G2, g2, l2, r2, k2⟩ => ⟨s.trans s2, x2, G2, g.trans s g2, l2, r2, k2⟩)
theorem Yb.thenB {t : Sem Bool} {f : Bool → Sem Bool} {K1 K : Bool → Prop} (y : Yb (model prog w) X A t G K1 h)
    (k : ∀ b h' G', Sub X h h' → Grow h G G' → LeH G' h' → K1 b → Yb (model prog w) X A (f b) G' K h') : Yb (model prog w) X A (t >>= f) G K h :=
  wpH.bind (wpH.mono y fun b h' ⟨s, G', g, l, k1⟩ => wpH.mono (k b h' G' s g l k1) fun v2 h2 ⟨s2, G2, g2, l2, k2⟩ => ⟨s.trans s2, G2, g.trans s g2, l2, k2⟩)
theorem Yl.thenB {t : Sem Value} {f : Value → Sem Bool} {K1 : V → Prop} {K : Bool → Prop} (y : Yl (model prog w) X A t G K1 h)
    (k : ∀ v x h' G', Sub X h h' → Grow h G G' → LeH G' h' → Rel G' v x → K1 x → Yb (model prog w) X A (f v) G' K h') : Yb (model prog w) X A (t >>= f) G K h :=
  wpH.bind (wpH.mono y fun v h' ⟨s, x, G', g, l, r, k1⟩ => wpH.mono (k v x h' G' s g l r k1) fun v2 h2 ⟨s2, G2, g2, l2, k2⟩ => ⟨s.trans s2, G2, g.trans s g2, l2, k2⟩)
theorem Yb.of {t : Sem Bool} {K : Bool → Prop} (l : LeH G h) (y : wpH (model prog w) X A t (fun b h' => h' = h ∧ K b) h) : Yb (model prog w) X A t G K h :=
  wpH.mono y fun b h' ⟨e, k⟩ => by subst e; exact ⟨Sub.refl _, G, Grow.refl _ G, l, k⟩
theorem Yb.ret {b : Bool} {K : Bool → Prop} (l : LeH G h) (k : K b) : Yb (model prog w) X A (pure b) G K h := wpH.pure ⟨Sub.refl h, G, Grow.refl h G, l, k⟩

theorem starEach_cons {e : Expr} {rest : List Expr} {env : Env} (he : isStarE e = false) : starEach (e :: rest) env = (false, eval e env) :: starEach rest env := by
  cases e <;> first | rfl | cases he

noncomputable def SndE (prog : Program) (w : World) (X : Fix) (A : Around) (env : Env) (Γ : Ctx) (ok : Around → Heap → Prop) (f : Expr → (V → Prop) → Prop) : Prop :=
  ∀ e K G h, Rd env G Γ h → LeH G h → ok A h → f e K → Yl (model prog w) X A (eval e env) G K h
noncomputable def SndT (prog : Program) (w : World) (X : Fix) (A : Around) (env : Env) (Γ : Ctx) (ok : Around → Heap → Prop) (g : Expr → (Bool → Prop) → Prop) : Prop :=
  ∀ e K G h, Rd env G Γ h → LeH G h → ok A h → g e K → Yb (model prog w) X A (isTrue e env (eval e env)) G K h

variable {env : Env} {Γ : Ctx} {ok : Around → Heap → Prop} {f : Expr → (V → Prop) → Prop} {g : Expr → (Bool → Prop) → Prop}

theorem list_sound (O : OkAt X ok) (S : SndE prog w X A env Γ ok f) {pos : Pos} : ∀ (es : List Expr) (K : List V → Prop) (G : GMap) (h : Heap), es.all (fun e => !isStarE e) = true → Rd env G Γ h → LeH G h → ok A h → vList f es K →
    YL (model prog w) X A (spliced (backTo pos (starEach es env))) G K h
  | [], K, G, h, _, _, l, _, hk => wpH.of fun tk _ => PyProof.Rows.args_nil ⟨h, tk, rfl, Sub.refl h, [], G, Grow.refl h G, l, .nil, hk⟩
  | e :: es, K, G, h, hs, rd, l, o, hk => by
    have hs' := Bool.and_eq_true_iff.mp (show (!isStarE e && es.all fun e => !isStarE e) = true from hs)
    have y := S e _ G h rd l o hk
    refine wpH.of fun tk htk => PyProof.Rows.args_cons ?_ (starEach_cons (by simpa using hs'.1))
    refine y.use htk fun v h' tk' l' ⟨s, x, G', gr, le, r, k1⟩ => ?_
    refine (list_sound O S es _ G' h' hs'.2 (rd.mono s gr) le (O.keep _ _ _ o s) k1).use l' fun vs h2 tk2 _ ⟨s2, xs, G2, g2, l2, r2, k2⟩ => ?_
    exact ⟨h2, tk2, rfl, s.trans s2, x :: xs, G2, gr.trans s g2, l2, .cons _ _ _ _ (Rel.mono g2.up r) r2, k2⟩

theorem all_sound (O : OkAt X ok) (S : SndT prog w X A env Γ ok g) {op : BoolOp} : ∀ (es : List Expr) (K : Bool → Prop) (G : GMap) (h : Heap), Rd env G Γ h → LeH G h → ok A h → vAll g op es K →
    Yb (model prog w) X A (allTrue op es env) G K h
  | [], K, G, h, _, l, _, hk => by
    cases op
    · exact Yb.ret l hk
    · exact Yb.ret l hk
  | e :: es, K, G, h, rd, l, o, hk => by
    show Yb _ X A (do
      match op, ← isTrue e env (eval e env) with
      | .And, false => pure false
      | .Or, true => pure true
      | _, _ => allTrue op es env) G K h
    refine Yb.thenB (S e _ G h rd l o hk) fun b h2 G2 s2 g2 l2 k2 => ?_
    cases op <;> cases b
    · exact Yb.ret l2 (k2.1 rfl)
    · exact all_sound O S es K G2 h2 (rd.mono s2 g2) l2 (O.keep _ _ _ o s2) (k2.2 rfl)
    · exact all_sound O S es K G2 h2 (rd.mono s2 g2) l2 (O.keep _ _ _ o s2) (k2.2 rfl)
    · exact Yb.ret l2 (k2.1 rfl)
end
end Mine

-- part E9
open PySem
set_option Elab.async false
set_option maxRecDepth 100000
set_option linter.unusedVariables false
namespace Mine

noncomputable def Chg (I : Addr) (h h' : Heap) : Prop := ∀ b o, b ≠ I → h.get? b = some o → h'.get? b = some o
theorem Chg.refl (I : Addr) (h : Heap) : Chg I h h := fun _ _ _ e => e
theorem Chg.trans {I : Addr} {h h' h'' : Heap} (x : Chg I h h') (y : Chg I h' h'') : Chg I h h'' := fun b o n e => y b o n (x b o n e)
theorem Sub.chg {X : Fix} {I : Addr} {h h' h'' : Heap} (s : Sub X h h') (n : h.get? I = Option.none) (c : Chg I h' h'') : Sub X h h'' := fun a o e => by
  have ha : a ≠ I := fun q => by subst q; rw [e] at n; cases n
  rcases s a o e with e1 | ⟨k, t, sl, e1⟩
  · exact .inl (c a o ha e1)
  · exact .inr ⟨k, t, sl, c a _ ha e1⟩
theorem LeH.chg {G : GMap} {I : Addr} {h h' : Heap} (l : LeH G h) (n : ∀ o, G I ≠ some o) (c : Chg I h h') : LeH G h' := fun a o e =>
  ⟨c a o (fun q => n o (q ▸ e)) (l a o e).1, (l a o e).2⟩
theorem Grow.notIn {G G' : GMap} {h : Heap} {I : Addr} {o : Obj} (g : Grow h G G') (n : ∀ o, G I ≠ some o) (e : h.get? I = some o) : ∀ o, G' I ≠ some o := fun o' q =>
  (g.new I o' q).elim (n o') fun z => by rw [e] at z; cases z

noncomputable def IterC (o : Obj) : Prop := o.cls ≠ .type "list" ∧ o.cls ≠ .type "tuple" ∧ o.cls ≠ .type "range"
structure WalkI (prog : Program) (w : World) (X : Fix) (A : Around) (G : GMap) (I : Addr) (items : List V) (St : Nat → Heap → Prop) : Prop where
  cls : ∀ i h, St i h → ∃ o, h.get? I = some o ∧ ¬ IsFr o
  itc : ∀ i h o, St i h → h.get? I = some o → IterC o
  frame : ∀ i h h', St i h → LeH G h → LeH G h' → (∀ o, h.get? I = some o → h'.get? I = some o) → St i h'
  item : ∀ i h, i < items.length → St i h → LeH G h → wpH (model prog w) X A (pyNext (.ref I)) (fun r h' => ∃ v y, r = some v ∧ items[i]? = some y ∧ Rel G v y ∧ St (i + 1) h' ∧ Chg I h h') h
  done : ∀ h, St items.length h → LeH G h → wpH (model prog w) X A (pyNext (.ref I)) (fun r h' => r = none ∧ Chg I h h') h
  self : ∀ i h, St i h → wpH (model prog w) X A (pyIter (.ref I)) (fun r h' => r = .ref I ∧ h' = h) h
  go : ∀ (i j : Nat) (h : Heap) (target : Expr) (v : Value) (y : V), items[j]? = some y → Rel G v y → St i h → wpH (model prog w) X A (letOwnedTupleGo target (.ref I) v) (fun _ h' => h' = h) h

section
variable {prog : Program} {w : World} {A : Around} {X : Fix} {G : GMap} {h : Heap}

theorem WalkI.of {I : Addr} {fp wr : List Addr} {n : Nat} {P : Nat → Value → Prop} {St : Nat → Heap → Prop} {items : List V} (W : Walks prog w A I fp wr n P St)
    (hwr : ∀ b ∈ wr, b = I) (hfp : ∀ b ∈ fp, b = I ∨ ∃ o, G b = some o) (hn : n = items.length) (hP : ∀ i v, i < n → P i v → ∃ y, items[i]? = some y ∧ Rel G v y)
    (cls' : ∀ i h, St i h → ∃ o, h.get? I = some o ∧ ¬ IsFr o ∧ IterC o)
    (go : ∀ (i j : Nat) (h : Heap) (target : Expr) (v : Value) (y : V), items[j]? = some y → Rel G v y → St i h → wpH (model prog w) X A (letOwnedTupleGo target (.ref I) v) (fun _ h' => h' = h) h) : WalkI prog w X A G I items St where
  cls := fun i h st => let ⟨o, e, c, _⟩ := cls' i h st; ⟨o, e, c⟩
  itc := fun i h o st e => by
    obtain ⟨o', e', _, c⟩ := cls' i h st
    rw [e] at e'; cases e'; exact c
  frame := fun i h h' st l l' k => W.frame i h h' st fun b hb o e => by
    rcases hfp b hb with rfl | ⟨o', g⟩
    · exact k o e
    · rw [(l b o' g).1] at e; cases e; exact (l' b _ g).1
  item := fun i h hi st l => wpH.of fun tk _ => W.item i (X.at h tk) _ _ (hn ▸ hi) st fun v h' tk' pv st' k =>
    let ⟨y, e, r⟩ := hP i v (hn ▸ hi) pv
    ⟨h', tk', rfl, v, y, rfl, e, r, st', fun b o nb e => k b o (fun q => nb (hwr b q)) e⟩
  done := fun h st l => wpH.of fun tk _ => W.done (X.at h tk) _ _ (hn ▸ st) fun h' tk' k =>
    ⟨h', tk', rfl, rfl, fun b o nb e => k b o (fun q => nb (hwr b q)) e⟩
  self := fun i h st => wpH.of fun tk _ => W.self i (X.at h tk) _ _ st ⟨h, tk, rfl, rfl, rfl⟩
  go := go

theorem go_plain {target : Expr} {I : Addr} {v : Value} (hv : ∀ a, v ≠ .ref a) : wpH (model prog w) X A (letOwnedTupleGo target (.ref I) v) (fun _ h' => h' = h) h := by
  have e : letOwnedTupleGo target (.ref I) v = pure () := by
    unfold letOwnedTupleGo
    split
    · cases v <;> first | rfl | exact absurd rfl (hv _)
    · cases v <;> first | rfl | exact absurd rfl (hv _)
    · rfl
  rw [e]
  exact wpH.pure rfl

theorem go_load {target : Expr} {I : Addr} {v : Value} {o : Obj} {n : String} {vs : Array Value} (ho : h.get? I = some o) (hc : o.cls = .type n) (hd : o.data = .fields vs)
    (hn : ["enumerate", "zip", "dict_itemiterator", "dict_reverseitemiterator", "odict_iterator", "itertools.zip_longest", "itertools.pairwise"].contains n = false) :
    wpH (model prog w) X A (letOwnedTupleGo target (.ref I) v) (fun _ h' => h' = h) h := by
  unfold letOwnedTupleGo
  have step : wpH (model prog w) X A (do
      let (.ref r, .ref a) := (Value.ref I, v) | return
      let o ← load r
      match o.cls, o.data with
      | .type n, .fields vs =>
        if ["enumerate", "zip", "dict_itemiterator", "dict_reverseitemiterator", "odict_iterator", "itertools.zip_longest", "itertools.pairwise"].contains n && vs[0]? == some (rawInt a) then
          rule "for.unpacks-the-owned-tuple"
          updateField r 0 .none
      | _, _ => pure ()) (fun _ h' => h' = h) h := by
    cases v with
    | ref a =>
      refine ⟨fun tk htk => wpAny_bind (wpAny_load (s := X.at h tk) ho ?_)⟩
      rw [hc, hd]
      dsimp only
      rw [hn, Bool.false_and]
      exact wpAny_pure ⟨h, tk, htk, rfl, rfl⟩
    | _ => exact wpH.pure rfl
  split
  · exact step
  · exact step
  · exact wpH.pure rfl

inductive IterQ (prog : Program) (w : World) (X : Fix) (A : Around) (G : GMap) (K : List V → Prop) (h : Heap) (it : Value) (h' : Heap) : Prop
  | mk (I : Addr) (items : List V) (St : Nat → Heap → Prop) (e : it = .ref I) (k : K items) (n : items.length ≤ 16777216) (s : Sub X h h') (f : h.get? I = none) (W : WalkI prog w X A G I items St) (st : St 0 h') : IterQ prog w X A G K h it h'
theorem iter_l {a : Addr} {vs : List Value} {n : Nat} {m : List V} {K : List V → Prop} (rm : Room A) (l : LeH G h) (e : G a = some (listO vs n)) (rs : RelL G vs m) (k : m.length ≤ 16777216 ∧ K m) : wpH (model prog w) X A (pyIter (.ref a)) (IterQ prog w X A G K h) h := by
  refine wpH.of fun tk _ => ?_
  have hl : (X.at h tk).heap.IsList a vs.toArray := isList l e
  refine wpAny_pyIter_list hl ?_
  have hne : a ≠ h.objs.size := Nat.ne_of_lt (Heap.lt_size (l _ _ e).1)
  have hlen := rs.length
  refine ⟨_, tk, rfl, h.objs.size, _, _, rfl, k.2, k.1, Sub.push _ _, get_size h,
    .of (Walks.list rm.hh h.objs.size a hne vs.toArray) (fun b hb => by simpa using hb) (fun b hb => ?_) (by simp [hlen]) (fun i v _ hv => ?_) (fun i h st => ?_) (fun i j h target v y _ _ st => ?_),
    ⟨_, Heap.get?_push_size _ rfl, rfl, rfl⟩, hl.push _⟩
  · simp only [List.mem_cons, List.not_mem_nil, or_false] at hb
    rcases hb with rfl | rfl
    · exact .inl rfl
    · exact .inr ⟨_, e⟩
  · have hv' : vs[i]? = some v := by simpa using hv
    have hi : i < vs.length := (List.getElem?_eq_some_iff.mp hv').1
    obtain ⟨u, eu, ru⟩ := rs.get i (x := _) (List.getElem?_eq_getElem (hlen ▸ hi))
    rw [hv'] at eu; cases eu
    exact ⟨_, List.getElem?_eq_getElem (hlen ▸ hi), ru⟩
  · obtain ⟨⟨o, ho, hc, hd⟩, _⟩ := st
    exact ⟨o, ho, fun ⟨_, _, q⟩ => (by rw [hd] at q; cases q), by unfold IterC; rw [hc]; exact ⟨fun q => absurd (Value.type.inj q) (by decide), fun q => absurd (Value.type.inj q) (by decide), fun q => absurd (Value.type.inj q) (by decide)⟩⟩
  · obtain ⟨⟨o, ho, hc, hd⟩, _⟩ := st
    exact go_load ho hc hd (by decide)
theorem iter_r {v : Value} {lo hi : Int} {K : List V → Prop} (rm : Room A) (l : LeH G h) (r : Rel G v (.rng lo hi)) (k : (-(2 ^ 61) ≤ lo ∧ lo < 2 ^ 61 ∧ hi - lo ≤ 16777216 ∧ hi < 2 ^ 62 ∧ -(2 ^ 62) ≤ hi) ∧ K ((List.range (hi - lo).toNat).map fun k => V.int (lo + (k : Nat)))) :
    wpH (model prog w) X A (pyIter v) (IterQ prog w X A G K h) h := by
  obtain ⟨⟨h1, h2, h3, h4, h5⟩, k⟩ := k
  cases r with
  | rng a _ _ t u v e =>
    refine wpH.of fun tk _ => ?_
    have hsz : Builtin.Range.rangeSize lo hi 1 = ((hi - lo).toNat : Int) := by rw [rangeSize_one]; split <;> omega
    have hr : IsRange (X.at h tk).heap a lo hi 1 t u v := (l _ _ e).1
    refine wpAny_pyIter_range hr ?_ ?_
    · refine small_one ?_ ?_ ?_ ?_ <;> omega
    refine ⟨_, tk, rfl, h.objs.size, _, _, rfl, k, ?_, Sub.push _ _, get_size h,
      .of (Walks.range rm.hh h.objs.size lo 1 (hi - lo).toNat) (fun b hb => by simpa using hb) (fun b hb => .inl (by simpa using hb)) (by simp) (fun i v hi ⟨t, hv⟩ => ?_) (fun i h st => ?_) (fun i j h target v y hy ry st => ?_), ?_⟩
    · simp only [List.length_map, List.length_range]; omega
    · subst hv
      refine ⟨V.int (lo + (i : Nat)), by simp [hi], ?_⟩
      rw [Int.mul_one]; exact .int _ _
    · exact ⟨_, st, (fun ⟨_, _, q⟩ => (nomatch q)), fun q => absurd (Value.type.inj q) (by decide), fun q => absurd (Value.type.inj q) (by decide), fun q => absurd (Value.type.inj q) (by decide)⟩
    · refine go_plain fun a q => ?_
      subst q
      have : y ∈ ((List.range (hi - lo).toNat).map fun k => V.int (lo + (k : Nat))) := List.mem_of_getElem? hy
      obtain ⟨k, _, e⟩ := List.mem_map.mp this
      subst e; cases ry
    · have e1 : (lo + ((0 : Nat) : Int) * 1) = lo := by simp
      have e2 : (((hi - lo).toNat : Int) - ((0 : Nat) : Int)) = Builtin.Range.rangeSize lo hi 1 := by rw [hsz]; simp
      show IsRangeIter _ _ (lo + ((0 : Nat) : Int) * 1) (((hi - lo).toNat : Int) - ((0 : Nat) : Int)) 1
      rw [e1, e2]
      exact Heap.get?_push_size _ rfl
theorem iter_s {x : Str} {t : Tok} {K : List V → Prop} (rm : Room A) (k : x.length ≤ 16777216 ∧ K (x.cps.toList.map fun c => V.str ⟨#[c]⟩)) : wpH (model prog w) X A (pyIter (.str x t)) (IterQ prog w X A G K h) h := by
  obtain ⟨h1, k⟩ := k
  have hx : x.length = x.cps.size := rfl
  have mk : ∀ ty : String, ty ≠ "frame" → ty ≠ "list" → ty ≠ "tuple" → ty ≠ "range" → (∀ A' : Around, A'.handled = none → Walks prog w A' h.objs.size [h.objs.size] [h.objs.size] x.cps.size (SignAt x) (fun i h' => h'.IsStrIter h.objs.size ty x t i)) →
      WalkI prog w X A G h.objs.size (x.cps.toList.map fun c => V.str ⟨#[c]⟩) (fun i h' => h'.IsStrIter h.objs.size ty x t i) := fun ty hty hl2 ht2 hr2 W => by
    refine .of (W A rm.hh) (fun b hb => by simpa using hb) (fun b hb => .inl (by simpa using hb)) (by simp) (fun i v hi ⟨c, u, hc, hv⟩ => ?_) (fun i h st => ?_) (fun i j h target v y hy ry st => ?_)
    · subst hv
      exact ⟨V.str ⟨#[c]⟩, by simp [hc], .str _ _⟩
    · obtain ⟨o, ho, hc, hd⟩ := st
      exact ⟨o, ho, fun ⟨_, _, q⟩ => (by rw [hd] at q; cases q), by unfold IterC; rw [hc]; exact ⟨fun q => hl2 (Value.type.inj q), fun q => ht2 (Value.type.inj q), fun q => hr2 (Value.type.inj q)⟩⟩
    · refine go_plain fun a q => ?_
      subst q
      have : y ∈ (x.cps.toList.map fun c => V.str ⟨#[c]⟩) := List.mem_of_getElem? hy
      obtain ⟨k, _, e⟩ := List.mem_map.mp this
      subst e; cases ry
  refine wpH.of fun tk _ => ?_
  cases ha : x.cps.all (· < 128)
  · refine wpAny_pyIter_wide ha ?_
    exact ⟨_, tk, rfl, h.objs.size, _, _, rfl, k, by simpa [hx] using h1, Sub.push _ _, get_size h, mk "str_iterator" (by decide) (by decide) (by decide) (by decide) (fun A' hA => Walks.strWide hA _ x t), ⟨_, Heap.get?_push_size _ rfl, rfl, rfl⟩⟩
  · refine wpAny_pyIter_ascii ha ?_
    exact ⟨_, tk, rfl, h.objs.size, _, _, rfl, k, by simpa [hx] using h1, Sub.push _ _, get_size h, mk "str_ascii_iterator" (by decide) (by decide) (by decide) (by decide) (fun A' hA => Walks.strAscii hA _ x t), ⟨_, Heap.get?_push_size _ rfl, rfl, rfl⟩⟩
theorem iter_sound {v : Value} {x : V} {K : List V → Prop} (rm : Room A) (l : LeH G h) (r : Rel G v x) (k : vItems x K) : wpH (model prog w) X A (pyIter v) (IterQ prog w X A G K h) h := by
  rcases opt2_or k with ⟨m, e, k⟩ | ⟨_, k⟩
  · cases V.list?_eq e
    obtain ⟨a, vs, n, rfl, e, rs⟩ := r.listI
    exact iter_l rm l e rs k
  rcases opt2_or k with ⟨⟨lo, hi⟩, e, k⟩ | ⟨_, k⟩
  · cases V.rng?_eq e
    exact iter_r rm l r k
  · obtain ⟨x, t, rfl, k⟩ := strP k r
    exact iter_s rm k
end
end Mine

-- part E10
open PySem
set_option Elab.async false
set_option maxRecDepth 100000
set_option linter.unusedVariables false
namespace Mine

section
variable {prog : Program} {w : World} {A : Around} {X : Fix} {G : GMap} {h : Heap}

theorem find_append (Γ Δ : Ctx) (x : Str) : Ctx.find (Γ ++ Δ) x = match Γ.find x with | some e => some e | none => Δ.find x := by
  induction Γ with
  | nil => rfl
  | cons p r ih =>
    show Ctx.find (p :: (r ++ Δ)) x = _
    cases hs : sameN x p.1 with
    | true => simp only [Ctx.find, hs]
    | false => simp only [Ctx.find, hs]; exact ih
theorem find_filter (f : Str → Bool) (Γ : Ctx) (x : Str) : Ctx.find (Γ.filter fun p => f p.1) x = if f x = true then Γ.find x else none := by
  induction Γ with
  | nil => simp [Ctx.find]
  | cons p r ih =>
    rw [List.filter_cons]
    cases hs : sameN x p.1 with
    | true =>
      have e := sameN_iff.mp hs
      cases hf : f p.1 with
      | true =>
        subst e
        simp only [if_true, hf, Ctx.find, hs]
      | false => rw [e] at ih ⊢; simp [hf] at ih ⊢; exact ih
    | false =>
      cases hf : f p.1 with
      | true => simp only [if_true, Ctx.find, hs]; exact ih
      | false => simp only [Ctx.find, hs, Bool.false_eq_true, if_false]; exact ih

theorem store_local {env : Env} {x : Str} {v : Value} {m : Str → Option Value} {Q : Unit → Heap → Prop} (hk : env.scope.kind = .function) (hl : env.kindOf x = some .local) (hn : h.Ns env.locals m)
    (hq : ∀ h', Chg env.locals h h' → h'.Ns env.locals (fun y => if y = x then some v else m y) → Q () h') : wpH (model prog w) X A (storeName env x v) Q h :=
  wpH.of fun tk _ => wpAny_storeName_local (s := X.at h tk) hl hn (fun h' hn' hs => ⟨h', tk + 1, rfl, hq h' hs.extBut hn'⟩) (by rw [hk]; rfl)

theorem find_two {a c : Str} {u v : V} {y : Str} : Ctx.find [(a, .val u), (c, .val v)] y = if y = a then some (.val u) else if y = c then some (.val v) else none := by
  unfold Ctx.find
  cases h1 : sameN y a with
  | true => rw [if_pos (sameN_iff.mp h1)]
  | false =>
    rw [if_neg (fun e => by rw [sameN_iff.mpr e] at h1; cases h1)]
    unfold Ctx.find
    cases h2 : sameN y c with
    | true => rw [if_pos (sameN_iff.mp h2)]
    | false => rw [if_neg (fun e => by rw [sameN_iff.mpr e] at h2; cases h2)]; rfl
theorem find_one {a : Str} {u : V} {y : Str} : Ctx.find [(a, .val u)] y = if y = a then some (.val u) else none := by
  unfold Ctx.find
  cases h1 : sameN y a with
  | true => rw [if_pos (sameN_iff.mp h1)]
  | false => rw [if_neg (fun e => by rw [sameN_iff.mpr e] at h1; cases h1)]; rfl
theorem assign_two {env : Env} {a c : Str} {pa pc : Pos} {x1 x2 : Value} {m : Str → Option Value} (ht : ∀ x ∈ [a, c], env.kindOf x = some .local) (hk : env.scope.kind = .function) (hn : h.Ns env.locals m) :
    wpH (model prog w) X A (assignInOrder [assign (.Name a pa) env, assign (.Name c pc) env] [x1, x2]) (fun _ h2 => Chg env.locals h h2 ∧ h2.Ns env.locals (fun y => if y = c then some x2 else if y = a then some x1 else m y)) h := by
  refine wpH.bind (wpH.holding ?_)
  refine wpH.of fun tk htk => wpAny_assign_Name ?_
  refine (store_local hk (ht a (.head _)) hn ?_).use htk (Q := fun _ h' => _) (fun _ h' tk' _ q => ⟨h', tk', rfl, q⟩)
  intro h2 c2 n2
  refine wpH.bind (wpH.holding ?_)
  refine wpH.of fun tk htk => wpAny_assign_Name ?_
  refine (store_local hk (ht c (.tail _ (.head _))) n2 ?_).use htk (Q := fun _ h' => _) (fun _ h' tk' _ q => ⟨h', tk', rfl, q⟩)
  intro h3 c3 n3
  exact wpH.pure ⟨c2.trans c3, n3⟩
theorem assign_sound {env : Env} {target : Expr} {it : V} {b : Ctx} {v : Value} {m : Str → Option Value} (rm : Room A) (hb : binds target it = some b)
    (ht : ∀ x ∈ targets target, env.kindOf x = some .local) (hk : env.scope.kind = .function) (r : Rel G v it) (l : LeH G h) (hL : ∀ o, G env.locals ≠ some o) (hn : h.Ns env.locals m) :
    wpH (model prog w) X A (assign target env v) (fun _ h' => Chg env.locals h h' ∧ ∃ m', h'.Ns env.locals m' ∧ (∀ x e, b.find x = some e → x ∈ targets target ∧ ∃ u, m' x = some u ∧ EntR G h' e u) ∧ ∀ x, b.find x = none → m' x = m x) h := by
  rcases binds_or hb with ⟨x, pos, rfl, rfl⟩ | ⟨a, b', pa, pb, c, pos, u1, v1, rfl, rfl, hab, rfl⟩
  · refine wpH.of fun tk htk => ?_
    refine wpAny_assign_Name ?_
    refine (store_local hk (ht x (.head _)) hn ?_).use htk (Q := fun _ h' => _) (fun _ h' tk' _ q => ⟨h', tk', rfl, q⟩)
    intro h' c n'
    refine ⟨c, _, n', fun y e he => ?_, fun y he => ?_⟩
    · rw [find_one] at he
      by_cases q : y = x
      · subst q
        rw [if_pos rfl] at he
        cases he
        exact ⟨.head _, v, if_pos rfl, r⟩
      · rw [if_neg q] at he; cases he
    · rw [find_one] at he
      by_cases q : y = x
      · rw [if_pos q] at he; cases he
      · exact if_neg q
  · obtain ⟨t, vs, n, rfl, e, rs⟩ := r.tupI
    obtain ⟨x1, x2, rfl, r1, r2⟩ := rs.two
    refine wpH.of fun tk htk => ?_
    have htp : (X.at h tk).heap.IsTuple t #[x1, x2] := ⟨_, (l _ _ e).1, rfl, n, rfl⟩
    refine wpAny_assign_Tuple rm.hh htp (by rfl) (by rfl) fun h' hx => ?_
    have hne : env.locals ≠ h.objs.size := Nat.ne_of_lt hn.lt
    show wpAny _ A (assignInOrder [assign (.Name a pa) env, assign (.Name b' pb) env] [x1, x2]) _ _ (X.at h' tk)
    refine (assign_two ht hk (hn.extBut hx hne)).use htk fun _ h2 tk2 _ ⟨c2, n2⟩ => ⟨h2, tk2, rfl, fun a' o' na q => c2 a' o' na (hx a' o' (Nat.ne_of_lt (Heap.lt_size q)) q), _, n2, fun y e' he => ?_, fun y he => ?_⟩
    · rw [find_two] at he
      by_cases q : y = a
      · subst q
        rw [if_pos rfl] at he
        cases he
        have hyb : y ≠ b' := by rintro rfl; rw [sameN_iff.mpr rfl] at hab; cases hab
        exact ⟨.head _, x1, (if_neg hyb).trans (if_pos rfl), r1⟩
      · rw [if_neg q] at he
        by_cases q2 : y = b'
        · subst q2
          rw [if_pos rfl] at he
          cases he
          exact ⟨.tail _ (.head _), x2, if_pos rfl, r2⟩
        · rw [if_neg q2] at he; cases he
    · rw [find_two] at he
      by_cases q : y = a
      · rw [if_pos q] at he; cases he
      · rw [if_neg q] at he
        by_cases q2 : y = b'
        · rw [if_pos q2] at he; cases he
        · exact (if_neg q2).trans (if_neg q)

inductive CQ (X : Fix) (R : Heap → Prop) (r : Except Value Flow) (s' : Shared) : Prop
  | mk (h' : Heap) (tk' : Nat) (l : 1 ≤ tk') (e : s' = X.at h' tk') (e2 : r = .ok .next) (q : R h') : CQ X R r s'
theorem comp_loop {elt target iter : Expr} {ifs : List Expr} {scope : Scope} {pos : Pos} {it acc : Value} {env : Env} (I : Nat → Heap → Prop) {R : Heap → Prop}
    (turn : ∀ n h, I n h → wpH (model prog w) X A (pyNext it) (fun r h1 => match r with
      | none => R h1
      | some v => wpH (model prog w) X A (letOwnedTupleGo target it v) (fun _ h2 => wpH (model prog w) X A (assign target env v) (fun _ h3 =>
          wpH (model prog w) X A (forIn ifs true fun c r => if r = true then do let ok ← isTrue c env (eval c env); pure (ForInStep.yield ok) else pure (ForInStep.yield r)) (fun ok h4 =>
            (ok = true → wpH (model prog w) X A (eval elt env) (fun x h5 => wpH (model prog w) X A (call (.builtin "list.append") [acc, x]) (fun _ h6 => ∃ m, m < n ∧ I m h6) h5) h4) ∧
            (ok = false → ∃ m, m < n ∧ I m h4)) h3) h2) h1) h)
    (n : Nat) (hI : I n h) (tk : Nat) (htk : 1 ≤ tk) : codeAny (model prog w) A (.compLoop (.ListComp elt [⟨target, iter, ifs, 0⟩] scope pos) 0 it acc env) (CQ X R) (X.at h tk) := by
  refine codeAny_loop rfl (fun n s => ∃ h tk, 1 ≤ tk ∧ s = X.at h tk ∧ I n h) (fun n s ⟨h, tk, htk, e, hI⟩ => ?_) n ⟨h, tk, htk, rfl, hI⟩
  subst e
  show wpAny _ A ((compTurn (.ListComp elt [⟨target, iter, ifs, 0⟩] scope pos) 0 it acc env).onRaise (fun x => do noteFrame x env; theTreesLotGoes x)) _ _ _
  refine wpAny_noted ?_
  rw [compTurn_list]
  refine wpAny_bind (wpAny_standAt (wpAny_bind ((turn n h hI).use htk fun r h1 tk1 l1 h₁ => ?_)))
  cases r with
  | none => exact wpAny_pure ⟨h1, tk1, l1, rfl, rfl, h₁⟩
  | some v =>
    refine wpAny_bind (h₁.use l1 fun _ h2 tk2 l2 h₂ => wpAny_bind (h₂.use l2 fun _ h3 tk3 l3 h₃ => wpAny_bind (h₃.use l3 fun ok h4 tk4 l4 h₄ => ?_)))
    cases ok with
    | false =>
      obtain ⟨m, hm, hI⟩ := h₄.2 rfl
      exact wpAny_pure ⟨rfl, m, hm, h4, tk4, l4, rfl, hI⟩
    | true =>
      refine wpAny_bind (wpAny_bind ((h₄.1 rfl).use l4 fun x h5 tk5 l5 h₅ => wpAny_bind (h₅.use l5 fun _ h6 tk6 l6 ⟨m, hm, hI⟩ => ?_)))
      exact wpAny_pure (wpAny_pure ⟨rfl, m, hm, h6, tk6, l6, rfl, hI⟩)

theorem closure_sound {scope : Scope} {env : Env} (hf : ∀ p ∈ scope.names, p.2 = .free → ∃ c, env.cells.lookup p.1 = some c) :
    ∃ cl, closureFor scope env = pure cl ∧ (∀ p ∈ cl, env.cells.lookup p.1 = some p.2) ∧ ∀ p ∈ scope.names, p.2 = .free → ∃ q ∈ cl, q.1 = p.1 := by
  unfold closureFor
  have key : ∀ (ns : List (Str × NameKind)) (cs : List (Str × Addr)), (∀ p ∈ ns, p.2 = .free → ∃ c, env.cells.lookup p.1 = some c) → (∀ p ∈ cs, env.cells.lookup p.1 = some p.2) →
      ∃ cl, (forIn ns cs (fun (p : Str × NameKind) (r : List (Str × Addr)) => if (p.2 == NameKind.free) = true then do let a ← cellOf env p.1; pure (ForInStep.yield ((p.1, a) :: r)) else pure (ForInStep.yield r)) : Sem (List (Str × Addr))) = pure cl ∧
        (∀ p ∈ cl, env.cells.lookup p.1 = some p.2) ∧ (∀ p ∈ cs, p ∈ cl) ∧ ∀ p ∈ ns, p.2 = .free → ∃ q ∈ cl, q.1 = p.1 := by
    intro ns
    induction ns with
    | nil => intro cs _ hc; exact ⟨cs, rfl, hc, fun _ q => q, fun _ q => absurd q (by simp)⟩
    | cons p ns ih =>
      intro cs hn hc
      rw [List.forIn_cons]
      by_cases hp : p.2 = .free
      · obtain ⟨c, e⟩ := hn p (by simp) hp
        obtain ⟨cl, e2, h1, h2, h3⟩ := ih ((p.1, c) :: cs) (fun q hq => hn q (by simp [hq])) (fun q hq => by
          rcases List.mem_cons.mp hq with rfl | hq
          · exact e
          · exact hc q hq)
        refine ⟨cl, ?_, h1, fun q hq => h2 q (by simp [hq]), fun q hq hqf => ?_⟩
        · rw [if_pos (by simp [hp])]
          unfold cellOf
          rw [e]
          exact e2
        · rcases List.mem_cons.mp hq with rfl | hq
          · exact ⟨(q.1, c), h2 _ List.mem_cons_self, rfl⟩
          · exact h3 q hq hqf
      · obtain ⟨cl, e2, h1, h2, h3⟩ := ih cs (fun q hq => hn q (by simp [hq])) hc
        refine ⟨cl, ?_, h1, h2, fun q hq hqf => ?_⟩
        · rw [if_neg (by simpa using hp)]
          exact e2
        · rcases List.mem_cons.mp hq with rfl | hq
          · exact absurd hqf hp
          · exact h3 q hq hqf
  obtain ⟨cl, e, h1, _, h3⟩ := key scope.names [] hf (fun _ q => absurd q (by simp))
  refine ⟨cl, ?_, h1, h3⟩
  have e' := congrArg (fun t => (t >>= fun (cs : List (Str × Addr)) => (pure cs : Sem (List (Str × Addr))))) e
  exact e'
theorem closure_lookup {cl : List (Str × Addr)} {f : Str → Option Addr} (h1 : ∀ p ∈ cl, f p.1 = some p.2) {x : Str} (h : ∃ q ∈ cl, q.1 = x) : cl.lookup x = f x := by
  induction cl with
  | nil => obtain ⟨q, hq, _⟩ := h; simp at hq
  | cons p r ih =>
    rw [List.lookup_cons]
    cases hx : x == p.1 with
    | true =>
      have e := eq_of_beq hx
      rw [e]; exact (h1 p (by simp)).symm
    | false =>
      refine ih (fun q hq => h1 q (by simp [hq])) ?_
      obtain ⟨q, hq, e⟩ := h
      rcases List.mem_cons.mp hq with rfl | hq
      · exact absurd (e ▸ hx : (x == x) = false) (by simp)
      · exact ⟨q, hq, e⟩
end
end Mine

-- part E11
open PySem
set_option Elab.async false
set_option maxRecDepth 100000
set_option linter.unusedVariables false
namespace Mine

theorem kindN_mem : ∀ {names : Names} {x : Str} {k : NameKind}, kindN names x = some k → (x, k) ∈ names
  | [], _, _, h => by cases h
  | p :: r, x, k, h => by
    unfold kindN at h
    cases hs : sameN x p.1 with
    | true =>
      rw [hs] at h; cases h
      rw [sameN_iff.mp hs]; exact List.mem_cons_self
    | false => rw [hs] at h; exact List.mem_cons_of_mem _ (kindN_mem h)
theorem kindN_hit {p : Str × NameKind} {r : Names} {x : Str} (h : sameN x p.1 = true) : kindN (p :: r) x = some p.2 := by simp only [kindN, h]
theorem kindN_miss {p : Str × NameKind} {r : Names} {x : Str} (h : sameN x p.1 = false) : kindN (p :: r) x = kindN r x := by simp only [kindN, h]
theorem kindN_relabel (sc : Names) : ∀ (names : Names) (x : Str), kindN (relabelN sc names) x = (kindN names x).map fun k => if (k == .free && kindN sc x == some .cell) = true then .cell else k
  | [], _ => rfl
  | (n, k) :: r, x => by
    have ih := kindN_relabel sc r x
    show kindN ((if (k == NameKind.free && kindN sc n == some .cell) = true then (n, NameKind.cell) else (n, k)) :: relabelN sc r) x = _
    by_cases hc : (k == NameKind.free && kindN sc n == some .cell) = true
    · rw [if_pos hc]
      cases hs : sameN x n with
      | true => rw [kindN_hit hs, kindN_hit hs, sameN_iff.mp hs, Option.map_some, if_pos hc]
      | false => rw [kindN_miss hs, kindN_miss hs]; exact ih
    · rw [if_neg hc]
      cases hs : sameN x n with
      | true => rw [kindN_hit hs, kindN_hit hs, sameN_iff.mp hs, Option.map_some, if_neg hc]
      | false => rw [kindN_miss hs, kindN_miss hs]; exact ih

section
variable {prog : Program} {w : World} {A : Around} {X : Fix} {G : GMap} {h : Heap}

theorem Rd.up {env : Env} {G G' : GMap} {Γ : Ctx} {h h' : Heap} (r : Rd env G Γ h) (s : Sub X h h') (u : ∀ a o, G a = some o → G' a = some o) : Rd env G' Γ h' :=
  fun x e q => let ⟨v, l, er⟩ := r x e q; ⟨v, l.mono s, er.mono s u⟩

structure CompOk (sc : Names) (scope : Scope) (target : Expr) : Prop where
  kind : scope.kind = .function
  cell : ∀ p ∈ scope.names, p.2 ≠ .cell
  loc : ∀ p ∈ scope.names, p.2 = .local → scope.names.lookup p.1 = some .local
  free : ∀ p ∈ scope.names, p.2 = .free → isCellK (kindN sc p.1) = true
  tgt : ∀ x ∈ targets target, kindN scope.names x = some .local
theorem isLocalK_iff {k : Option NameKind} : isLocalK k = true ↔ k = some .local := by
  cases k with
  | none => simp [isLocalK]
  | some k => cases k <;> simp [isLocalK]
theorem CompOk.of {sc : Names} {scope : Scope} {target : Expr} (h : scopeOk sc scope target = true) : CompOk sc scope target := by
  unfold scopeOk at h
  rw [Bool.and_eq_true, Bool.and_eq_true] at h
  obtain ⟨⟨h1, h2⟩, h3⟩ := h
  rw [List.all_eq_true] at h2 h3
  refine ⟨?_, fun p hp q => ?_, fun p hp q => ?_, fun p hp q => ?_, fun x hx => isLocalK_iff.mp (h3 x hx)⟩
  · cases e : scope.kind <;> rw [e] at h1 <;> first | rfl | cases h1
  · have := h2 p hp; rw [q] at this; cases this
  · have := h2 p hp; rw [q] at this
    rw [← kindN_eq]; exact isLocalK_iff.mp this
  · have := h2 p hp; rw [q] at this; exact this

theorem isCellK_iff {k : Option NameKind} : isCellK k = true ↔ k = some .cell ∨ k = some .free := by
  cases k with
  | none => simp [isCellK]
  | some k => cases k <;> simp [isCellK]
theorem isFreeK_iff {k : Option NameKind} : isFreeK k = true ↔ k = some .free := by
  cases k with
  | none => simp [isFreeK]
  | some k => cases k <;> simp [isFreeK]

theorem relabel_names {sc : Names} {env : Env} {scope : Scope} (oe : EnvOk sc env) : (relabel scope env).names = relabelN sc scope.names := by
  unfold relabel relabelN
  refine List.map_congr_left fun p _ => ?_
  obtain ⟨n, k⟩ := p
  dsimp only
  rw [oe.kind, oe.kindOf]
  simp

theorem comp_envOk {sc : Names} {env : Env} {scope : Scope} {target : Expr} {cl : List (Str × Addr)} {C : Addr} (oe : EnvOk sc env) (co : CompOk sc scope target)
    (h1 : ∀ p ∈ cl, env.cells.lookup p.1 = some p.2) (h3 : ∀ p ∈ scope.names, p.2 = .free → ∃ q ∈ cl, q.1 = p.1) : EnvOk (relabelN sc scope.names) (compEnvC scope cl C env) where
  names := relabel_names oe
  kind := co.kind
  globals := oe.globals
  builtins := oe.builtins
  cells := fun x hx => by
    rw [kindN_relabel] at hx
    cases hk : kindN scope.names x with
    | none => rw [hk] at hx; cases hx
    | some k =>
      rw [hk] at hx
      have hm := kindN_mem hk
      have hkf : k = .free := by
        cases k with
        | free => rfl
        | cell => exact absurd rfl (co.cell _ hm)
        | _ => cases hx
      have := h3 _ hm hkf
      obtain ⟨c, hc⟩ := oe.cells x (co.free _ hm hkf)
      exact ⟨c, (closure_lookup (f := fun y => env.cells.lookup y) h1 this).trans hc⟩

theorem rd_comp {sc : Names} {env : Env} {scope : Scope} {target : Expr} {cl : List (Str × Addr)} {C : Addr} {Γ b : Ctx} {m' : Str → Option Value} (oe : EnvOk sc env) (co : CompOk sc scope target)
    (h1 : ∀ p ∈ cl, env.cells.lookup p.1 = some p.2) (h3 : ∀ p ∈ scope.names, p.2 = .free → ∃ q ∈ cl, q.1 = p.1) (rd : Rd env G Γ h) (hn : h.Ns C m')
    (hb : ∀ x e, b.find x = some e → x ∈ targets target ∧ ∃ u, m' x = some u ∧ EntR G h e u) : Rd (compEnvC scope cl C env) G (b ++ capture scope.names Γ) h := by
  intro x e he
  have ek : (compEnvC scope cl C env).kindOf x = kindN (relabelN sc scope.names) x := by
    rw [kindN_eq, ← relabel_names (scope := scope) oe]; rfl
  rw [find_append] at he
  cases hbx : b.find x with
  | some e' =>
    rw [hbx] at he; cases he
    obtain ⟨ht, u, hu, er⟩ := hb x e hbx
    refine ⟨u, .inl ⟨?_, m', hn, hu⟩, er⟩
    rw [ek, kindN_relabel, co.tgt x ht]; rfl
  | none =>
    rw [hbx] at he
    dsimp only at he
    unfold capture at he
    rw [find_filter (fun x => isFreeK (kindN scope.names x))] at he
    split at he
    · rename_i hf
      have hk := isFreeK_iff.mp hf
      have hm := kindN_mem hk
      obtain ⟨v, lo, er⟩ := rd x e he
      have hc := co.free _ hm rfl
      rcases lo with ⟨hl, _⟩ | ⟨_, c, hc2, hcell⟩
      · rw [oe.kindOf] at hl; rw [hl] at hc; cases hc
      · refine ⟨v, .inr ⟨?_, c, ?_, hcell⟩, er⟩
        · rw [ek, kindN_relabel, hk]
          show some (if _ then NameKind.cell else NameKind.free) = _ ∨ some (if _ then NameKind.cell else NameKind.free) = _
          split
          · exact .inl rfl
          · exact .inr rfl
        · exact (closure_lookup (f := fun y => env.cells.lookup y) h1 (h3 _ hm rfl)).trans hc2
    · cases he
end
end Mine

-- part E12
open PySem
set_option Elab.async false
set_option maxRecDepth 100000
set_option linter.unusedVariables false
namespace Mine

section
variable {prog : Program} {w : World} {A : Around} {X : Fix} {G : GMap} {h : Heap} {ok : Around → Heap → Prop}

theorem folded {P : Par} {n : Nat} {sc : Names} {iter : Expr} {Γ : Ctx} {K : V → Prop} (k : ve P n sc iter Γ K) (env : Env) (x : Value) : foldedSetIterable iter env x = pure x := by
  cases iter with
  | Set es k2 p =>
    cases n with
    | zero => exact k.elim
    | succ n => exact k.elim
  | _ => rfl

noncomputable def Ih (prog : Program) (w : World) (X : Fix) (A : Around) (ok : Around → Heap → Prop) (P : Par) (n : Nat) : Prop :=
  ∀ sc env Γ, EnvOk sc env → SndE prog w X A env Γ ok (fun e K => ve P n sc e Γ K) ∧ SndT prog w X A env Γ ok (fun e K => vt P n sc e Γ K)

noncomputable def vTurn (P : Par) (n : Nat) (sc : Names) (scope : Scope) (target elt : Expr) (ifs : List Expr) (Γ : Ctx) (it : V) (K' : Option V → Prop) : Prop :=
  optP (binds target it) fun b => vIfs (fun e K'' => vt P n (relabelN sc scope.names) e (b ++ capture scope.names Γ) K'') ifs fun c =>
      (c = true → ve P n (relabelN sc scope.names) elt (b ++ capture scope.names Γ) fun v => K' (some v)) ∧ (c = false → K' none)

structure CInv (prog : Program) (w : World) (X : Fix) (A : Around) (P : Par) (n : Nat) (sc : Names) (scope : Scope) (target elt : Expr) (ifs : List Expr) (Γ : Ctx) (K : List V → Prop)
    (h₁ : Heap) (G₁ : GMap) (I D C : Addr) (items : List V) (St : Nat → Heap → Prop) (i : Nat) (G' : GMap) (ys : List Value) (c : Nat) (acc : List V) (H : Heap) : Prop where
  le : i ≤ items.length
  sub : Sub X h₁ H
  grow : Grow h₁ G₁ G'
  leh : LeH G' H
  st : St i H
  at' : H.get? D = some (listO ys c)
  rel : RelL G' ys acc
  len : acc.length ≤ i
  ns : ∃ m, H.Ns C m
  nC : ∀ o, G' C ≠ some o
  nD : ∀ o, G' D ≠ some o
  nI : ∀ o, G' I ≠ some o
  k : vMap (vTurn P n sc scope target elt ifs Γ) (items.drop i) acc K

theorem vMap_cons {g : V → (Option V → Prop) → Prop} {it : V} {r acc : List V} {K : List V → Prop} (k : vMap g (it :: r) acc K) : g it fun o => vMap g r (match o with | some v => acc ++ [v] | none => acc) K := k

theorem tests_sound {P : Par} {n : Nat} {sc : Names} {env : Env} {Γ : Ctx} {ifs : List Expr} {K : Bool → Prop} (ih : SndT prog w X A env Γ ok (fun e K => vt P n sc e Γ K)) (rd : Rd env G Γ h) (l : LeH G h) (o : ok A h)
    (k : vIfs (fun e K => vt P n sc e Γ K) ifs K) :
    wpH (model prog w) X A (forIn ifs true fun c r => if r = true then do let ok ← isTrue c env (eval c env); pure (ForInStep.yield ok) else pure (ForInStep.yield r))
      (BQ X G K h) h := by
  cases ifs with
  | nil => exact wpH.of fun tk htk => wpAny_tests_nil ⟨h, tk, rfl, Sub.refl h, G, Grow.refl h G, l, k⟩
  | cons e es =>
    cases es with
    | cons _ _ => exact k.elim
    | nil =>
      have y := ih e K G h rd l o k
      exact wpH.of fun tk htk => wpAny_tests_one (y.use htk fun b h' tk' _ q => ⟨h', tk', rfl, q⟩)

theorem comp_turn {P : Par} {n : Nat} {sc : Names} {env : Env} {Γ : Ctx} {scope : Scope} {target elt iter : Expr} {ifs : List Expr} {cl : List (Str × Addr)} {h₁ : Heap} {G₁ : GMap} {I D C : Addr} {items : List V} {St : Nat → Heap → Prop} {K : List V → Prop}
    (O : OkAt X ok) (IH : Ih prog w X A ok P n) (oe : EnvOk sc env) (co : CompOk sc scope target) (hc1 : ∀ p ∈ cl, env.cells.lookup p.1 = some p.2) (hc3 : ∀ p ∈ scope.names, p.2 = .free → ∃ q ∈ cl, q.1 = p.1)
    (rd : Rd env G₁ Γ h₁) (o₁ : ok A h₁) (W : WalkI prog w X A G₁ I items St) (hlen : items.length ≤ 16777216) (fI : h₁.get? I = none) (fD : h₁.get? D = none) (fC : h₁.get? C = none) (nID : I ≠ D) (nIC : I ≠ C) (nDC : D ≠ C)
    {i : Nat} {G' : GMap} {ys : List Value} {c : Nat} {acc : List V} {H : Heap} (z : CInv prog w X A P n sc scope target elt ifs Γ K h₁ G₁ I D C items St i G' ys c acc H) (hi : i < items.length) :
    wpH (model prog w) X A (pyNext (.ref I)) (fun r ha => ∃ v, r = some v ∧
      wpH (model prog w) X A (letOwnedTupleGo target (.ref I) v) (fun _ h2 => wpH (model prog w) X A (assign target (compEnvC scope cl C env) v) (fun _ h3 =>
          wpH (model prog w) X A (forIn ifs true fun c r => if r = true then do let ok ← isTrue c (compEnvC scope cl C env) (eval c (compEnvC scope cl C env)); pure (ForInStep.yield ok) else pure (ForInStep.yield r)) (fun ok h4 =>
            (ok = true → wpH (model prog w) X A (eval elt (compEnvC scope cl C env)) (fun x h5 => wpH (model prog w) X A (call (.builtin "list.append") [.ref D, x])
              (fun _ h6 => ∃ G' ys c acc, CInv prog w X A P n sc scope target elt ifs Γ K h₁ G₁ I D C items St (i + 1) G' ys c acc h6) h5) h4) ∧
            (ok = false → ∃ G' ys c acc, CInv prog w X A P n sc scope target elt ifs Γ K h₁ G₁ I D C items St (i + 1) G' ys c acc h4)) h3) h2) ha) H := by
  have rm := O.room _ _ o₁
  have l1 : LeH G₁ H := fun a o e => z.leh a o (z.grow.up a o e)
  refine wpH.mono (W.item i H hi z.st l1) fun r ha ⟨v, y, er, ey, rv, sta, ca⟩ => ⟨v, er, ?_⟩
  have k := z.k
  rw [List.drop_eq_getElem_cons hi] at k
  have ey2 : items[i] = y := by rw [List.getElem?_eq_getElem hi] at ey; exact Option.some.inj ey
  rw [ey2] at k
  have k := vMap_cons k
  obtain ⟨b, hb, k⟩ := optP_ex k
  · have suba := z.sub.chg fI ca
    have leha := z.leh.chg z.nI ca
    refine wpH.mono (W.go (i + 1) i ha target v y ey rv sta) fun _ h2 e2 => ?_
    subst e2
    obtain ⟨m, ns⟩ := z.ns
    have nsa : h2.Ns C m := ns.extBut (b := I) ca (Ne.symm nIC)
    have ht : ∀ x ∈ targets target, (compEnvC scope cl C env).kindOf x = some .local := fun x hx => by
      have ek : (compEnvC scope cl C env).kindOf x = kindN (relabelN sc scope.names) x := by
        rw [kindN_eq, ← relabel_names (scope := scope) oe]; rfl
      rw [ek, kindN_relabel, co.tgt x hx]; rfl
    refine wpH.mono (assign_sound (env := compEnvC scope cl C env) rm hb ht co.kind (Rel.mono z.grow.up rv) leha z.nC nsa) fun _ h3 ⟨cb, m', nsb, fb, _⟩ => ?_
    have cb' : Chg C h2 h3 := cb
    have subb := suba.chg fC cb'
    have lehb := leha.chg z.nC cb'
    have l1b : LeH G₁ h3 := fun a o e => lehb a o (z.grow.up a o e)
    have stb : St (i + 1) h3 := W.frame _ _ _ sta (fun a o e => leha a o (z.grow.up a o e)) l1b fun o e => cb' I o nIC e
    have rdb : Rd (compEnvC scope cl C env) G' (b ++ capture scope.names Γ) h3 := rd_comp oe co hc1 hc3 (rd.up subb z.grow.up) nsb fb
    have Db : h3.get? D = some (listO ys c) := cb' D _ nDC (ca D _ (Ne.symm nID) z.at')
    have okb := O.keep _ _ _ o₁ subb
    obtain ⟨ihE, ihT⟩ := IH (relabelN sc scope.names) (compEnvC scope cl C env) (b ++ capture scope.names Γ) (comp_envOk oe co hc1 hc3)
    refine wpH.mono (tests_sound ihT rdb lehb okb k) fun t h4 ⟨sc4, G4, g4, l4, kt⟩ => ?_
    have listc : ∀ (vs : List Value) (n : Nat), ¬ IsFr (listO vs n) := fun _ _ ⟨_, _, q⟩ => (nomatch q)
    obtain ⟨oI, eI, cI⟩ := W.cls _ _ stb
    have st4 : St (i + 1) h4 := W.frame _ _ _ stb l1b (fun a o e => l4 a o (g4.up a o (z.grow.up a o e))) fun o e => by rw [eI] at e; cases e; exact sc4.get eI cI
    have nIb : ∀ o, G4 I ≠ some o := g4.notIn z.nI eI
    have nDb : ∀ o, G4 D ≠ some o := g4.notIn z.nD Db
    obtain ⟨oC, es, ep, eC, rC⟩ := id nsb
    have nCb : ∀ o, G4 C ≠ some o := g4.notIn z.nC eC
    have D4 : h4.get? D = some (listO ys c) := sc4.get Db (listc _ _)
    refine ⟨fun et => ?_, fun ef => ?_⟩
    · refine wpH.mono (ihE elt _ G4 h4 (rdb.up sc4 g4.up) l4 (O.keep _ _ _ okb sc4) (kt.1 et)) fun xv h5 ⟨sc5, x5, G5, g5, l5, r5, k5⟩ => ?_
      obtain ⟨oI4, eI4, cI4⟩ := W.cls _ _ st4
      have st5 : St (i + 1) h5 := W.frame _ _ _ st4 (fun a o e => l4 a o (g4.up a o (z.grow.up a o e))) (fun a o e => l5 a o (g5.up a o (g4.up a o (z.grow.up a o e)))) fun o e => by rw [eI4] at e; cases e; exact sc5.get eI4 cI4
      have D5 : h5.get? D = some (listO ys c) := sc5.get D4 (listc _ _)
      have nI5 : ∀ o, G5 I ≠ some o := g5.notIn nIb eI4
      have nD5 : ∀ o, G5 D ≠ some o := g5.notIn nDb D4
      have ns4 : h4.Ns C m' := sc4.ns nsb
      obtain ⟨oC4, _, _, eC4, _⟩ := id ns4
      have nC5 : ∀ o, G5 C ≠ some o := g5.notIn nCb eC4
      have ns5 : h5.Ns C m' := sc5.ns ns4
      have hys : ys.length ≤ 16777216 := by rw [z.rel.length]; have := z.len; omega
      refine wpH.of fun tk htk => wpAny_list_append_plain (s := X.at h5 tk) (items := ys.toArray) ⟨c, D5⟩ (fun h6 pl hs => ⟨h6, tk, rfl, ?_⟩) (by rw [line_eq, List.size_toArray]; exact hys)
      obtain ⟨c6, e6⟩ := pl
      have e6' : h6.get? D = some (listO (ys ++ [xv]) c6) := by rw [e6, List.push_toArray]
      have c6 : Chg D h5 h6 := hs.extBut
      have l6 := l5.chg nD5 c6
      refine ⟨G5, ys ++ [xv], _, acc ++ [x5], hi, ((subb.trans sc4).trans sc5).chg fD c6, (z.grow.trans subb g4).trans (subb.trans sc4) g5, l6, ?_, e6', ?_, ?_, ⟨m', ns5.extBut (b := D) c6 (Ne.symm nDC)⟩, nC5, nD5, nI5, k5⟩
      · exact W.frame _ _ _ st5 (fun a o e => l5 a o (g5.up a o (g4.up a o (z.grow.up a o e)))) (fun a o e => l6 a o (g5.up a o (g4.up a o (z.grow.up a o e)))) fun o e => c6 I o nID e
      · exact RelL.snoc (RelL.mono (fun a o e => g5.up a o (g4.up a o e)) z.rel) r5
      · have := z.len; simp; omega
    · exact ⟨G4, ys, c, acc, hi, subb.trans sc4, z.grow.trans subb g4, l4, st4, D4, RelL.mono g4.up z.rel, Nat.le_succ_of_le z.len, ⟨m', sc4.ns nsb⟩, nCb, nDb, nIb, kt.2 ef⟩

inductive CI (prog : Program) (w : World) (X : Fix) (A : Around) (P : Par) (n : Nat) (sc : Names) (scope : Scope) (target elt : Expr) (ifs : List Expr) (Γ : Ctx) (K : List V → Prop) (h₁ : Heap) (G₁ : GMap) (I D C : Addr) (items : List V) (St : Nat → Heap → Prop) (n' : Nat) (H : Heap) : Prop
  | mk (i : Nat) (G' : GMap) (ys : List Value) (c : Nat) (acc : List V) (e : n' = items.length - i) (z : CInv prog w X A P n sc scope target elt ifs Γ K h₁ G₁ I D C items St i G' ys c acc H) : CI prog w X A P n sc scope target elt ifs Γ K h₁ G₁ I D C items St n' H
inductive CR (X : Fix) (h1 : Heap) (G1 : GMap) (D C : Addr) (K : List V → Prop) (H : Heap) : Prop
  | mk (G' : GMap) (ys : List Value) (c : Nat) (acc : List V) (m : Str → Option Value) (q1 : Sub X h1 H) (q2 : Grow h1 G1 G') (q3 : LeH G' H) (q4 : H.Ns C m) (q5 : H.get? D = some (listO ys c)) (q6 : RelL G' ys acc) (q7 : ∀ o, G' C ≠ some o) (q8 : ∀ o, G' D ≠ some o) (q9 : K acc) : CR X h1 G1 D C K H
theorem comp_core {P : Par} {n : Nat} {sc : Names} {env : Env} {Γ : Ctx} {scope : Scope} {target elt iter : Expr} {ifs : List Expr} {pos pos' : Pos} {K : List V → Prop} {use : Option (Value → Sem Unit)} {Q : Value → Shared → Prop} {E : Value → Shared → Prop} {tk : Nat}
    (O : OkAt X ok) (IH : Ih prog w X A ok P n) (oe : EnvOk sc env) (so : scopeOk sc scope target = true) (rd : Rd env G Γ h) (l : LeH G h) (o : ok A h) (htk : 1 ≤ tk)
    (k : ve P n sc iter Γ fun x => vItems x fun items => vMap (vTurn P n sc scope target elt ifs Γ) items [] K)
    (fin : ∀ D C H tk' G' ys c out m, 1 ≤ tk' → Sub X h H → Grow h G G' → LeH G' H → h.get? D = none → h.get? C = none → D ≠ C → H.Ns C m → H.get? D = some (listO ys c) → RelL G' ys out → (∀ o, G' C ≠ some o) → (∀ o, G' D ≠ some o) → K out →
      compPost (model prog w) A E use Q (.ref D) C (.ok .next) (X.at H tk')) :
    wpAny (model prog w) A (comprehension (.ListComp elt [⟨target, iter, ifs, 0⟩] scope pos) scope env pos' (newList []) false (eval iter env) use) Q E (X.at h tk) := by
  have co := CompOk.of so
  have rm := O.room _ _ o
  obtain ⟨cl, hclos, hc1, hc3⟩ := closure_sound (scope := scope) (env := env) fun p hp hf => oe.cells p.1 (co.free p hp hf)
  refine wpAny_comprehension_free (use := use) (cl := cl) rfl (folded k env) hclos co.kind co.loc ?_
  refine ((IH sc env Γ oe).1 iter _ G h rd l o k).use htk fun v h1 tk1 l1 ⟨s1, x, G1, g1, le1, r1, k1⟩ => ?_
  refine (iter_sound rm le1 r1 k1).use l1 fun it h2 tk2 l2 ⟨I, items, St, e, k2, hlen, s2, fI, W, st⟩ => ?_
  subst e
  refine wpAny_newObj_type (wpAny_newFunctionEnv co.cell (by intro y hy; simp at hy) (fun h3 hns hsb => ?_) co.kind)
  dsimp only at hns hsb ⊢
  have hC : (h2.push { cls := .type "list", dict := none, data := .seq ([] : List Value).toArray }).objs.size = h2.objs.size + 1 := by rw [Heap.size_push]
  rw [hC] at hns hsb ⊢
  obtain ⟨oI, eI, cI⟩ := W.cls _ _ st
  have nID : I ≠ h2.objs.size := Nat.ne_of_lt (Heap.lt_size eI)
  have nIC : I ≠ h2.objs.size + 1 := Nat.ne_of_lt (Nat.lt_succ_of_lt (Heap.lt_size eI))
  have nDC : h2.objs.size ≠ h2.objs.size + 1 := by omega
  have old : ∀ b o, h2.get? b = some o → h3.get? b = some o := fun b o e => hsb.extBut b o (Nat.ne_of_lt (Nat.lt_succ_of_lt (Heap.lt_size e))) (Heap.get?_push_of_some _ (Heap.get?_push_of_some _ e))
  have s3 : Sub X h1 h3 := s2.trans (.of old)
  have le3 : LeH G1 h3 := le1.sub s3
  have D3 : h3.get? h2.objs.size = some (listO [] 0) := hsb.extBut _ _ nDC (Heap.get?_push_of_some _ (Heap.get?_push_size _ rfl))
  have fD : h1.get? h2.objs.size = none := s2.none (get_size h2)
  have fC : h1.get? (h2.objs.size + 1) = none := s2.none (get_ge (Nat.le_succ _))
  have le2 : LeH G1 h2 := le1.sub s2
  have nn : ∀ a, h1.get? a = none → ∀ o, G1 a ≠ some o := fun a e o q => by rw [(le1 a o q).1] at e; cases e
  have st3 : St 0 h3 := W.frame _ _ _ st le2 le3 fun o e => old _ _ e
  have o1 := O.keep _ _ _ o s1
  have z0 : CInv prog w X A P n sc scope target elt ifs Γ K h1 G1 I h2.objs.size (h2.objs.size + 1) items St 0 G1 [] 0 [] h3 :=
    ⟨Nat.zero_le _, s3, Grow.refl _ _, le3, st3, D3, .nil, Nat.le_refl _, ⟨_, hns⟩, nn _ fC, nn _ fD, nn _ fI, k2⟩
  have loop : ∀ tk3, 1 ≤ tk3 → codeAny (model prog w) A (.compLoop (.ListComp elt [⟨target, iter, ifs, 0⟩] scope pos) 0 (.ref I) (.ref h2.objs.size) (compEnvC scope cl (h2.objs.size + 1) env))
      (compPost (model prog w) A E use Q (.ref h2.objs.size) (h2.objs.size + 1)) (X.at h3 tk3) := fun tk3 l3 => by
    refine codeAny_mono (comp_loop (X := X) (CI prog w X A P n sc scope target elt ifs Γ K h1 G1 I h2.objs.size (h2.objs.size + 1) items St)
      (R := CR X h1 G1 h2.objs.size (h2.objs.size + 1) K) ?_ items.length ⟨0, G1, [], 0, [], rfl, z0⟩ tk3 l3) ?_
    · rintro n' H ⟨i, G', ys, c, acc, rfl, z⟩
      by_cases hi : i < items.length
      · refine wpH.mono (comp_turn (iter := iter) O IH oe co hc1 hc3 (rd.mono s1 g1) o1 W hlen fI fD fC nID nIC nDC z hi) fun r ha ⟨v, e, q⟩ => ?_
        subst e
        refine wpH.mono q fun _ h2 q => wpH.mono q fun _ h3 q => wpH.mono q fun t h4 q => ⟨fun e => wpH.mono (q.1 e) fun _ h5 q => wpH.mono q fun _ h6 ⟨G', ys, c, acc, z⟩ => ⟨_, ?_, i + 1, G', ys, c, acc, rfl, z⟩, fun e => ?_⟩
        · omega
        · obtain ⟨G', ys, c, acc, z⟩ := q.2 e
          exact ⟨_, by omega, i + 1, G', ys, c, acc, rfl, z⟩
      · have hi : i = items.length := by have := z.le; omega
        subst hi
        refine wpH.mono (W.done H z.st fun a o e => z.leh a o (z.grow.up a o e)) fun r h' ⟨e, c'⟩ => ?_
        subst e
        obtain ⟨m, ns⟩ := z.ns
        have k := z.k
        rw [List.drop_length] at k
        exact ⟨G', ys, c, acc, m, z.sub.chg fI c', z.grow, z.leh.chg z.nI c', ns.extBut (b := I) c' (Ne.symm nIC), c' _ _ (Ne.symm nID) z.at', z.rel, z.nC, z.nD, k⟩
    · rintro r s' ⟨H, tk', l', rfl, rfl, G', ys, c, acc, m, q1, q2, q3, q4, q5, q6, q7, q8, q9⟩
      exact fin _ _ H tk' G' ys c acc m l' (s1.trans q1) (g1.trans s1 q2) q3 (s1.none fD) (s1.none fC) nDC q4 q5 q6 q7 q8 q9
  refine codeAny_compStart_list (loop _ l2) ?_
  exact (W.self 0 h3 st3).use l2 fun it' h4 tk4 l4 ⟨e1, e2⟩ => by subst e1; subst e2; exact loop _ l4
end
end Mine

namespace Mine
section
variable {prog : Program} {w : World} {A : Around} {X : Fix} {G : GMap} {h : Heap} {ok : Around → Heap → Prop}
theorem comp_sound {P : Par} {n : Nat} {sc : Names} {env : Env} {Γ : Ctx} {scope : Scope} {target elt iter : Expr} {ifs : List Expr} {pos : Pos} {K : V → Prop}
    (O : OkAt X ok) (IH : Ih prog w X A ok P n) (oe : EnvOk sc env) (so : scopeOk sc scope target = true) (rd : Rd env G Γ h) (l : LeH G h) (o : ok A h)
    (k : ve P n sc iter Γ fun x => vItems x fun items => vMap (vTurn P n sc scope target elt ifs Γ) items [] fun out => K (.list out)) :
    Yl (model prog w) X A (eval (.ListComp elt [⟨target, iter, ifs, 0⟩] scope pos) env) G K h := by
  rw [arm_eval_ListComp]
  refine ⟨fun tk htk => ?_⟩
  refine comp_core (use := none) O IH oe so rd l o htk k fun D C H tk' G' ys c out m l' s g le fD fC nDC ns eD r nC nD k => ?_
  refine ⟨m, ns, fun h' hs => ⟨h', tk', l', rfl, ?_⟩⟩
  have c' : Chg C H h' := hs.extBut
  have le' := le.chg nC c'
  have hD : h'.get? D = some (listO ys c) := c' D _ nDC eD
  refine ⟨s.chg fC c', .list out, G'.add D (listO ys c), ⟨fun a o e => ?_, fun a o e => ?_⟩, le'.add hD, .list D ys c out (GMap.add_self ..) (RelL.mono (fun a o e => ?_) r), k⟩
  · have : a ≠ D := fun q => nD o (q ▸ g.up a o e)
    simp [GMap.add, this, g.up a o e]
  · unfold GMap.add at e
    split at e
    · rename_i q; subst q; exact .inr fD
    · exact g.new a o e
  · have : a ≠ D := fun q => nD o (q ▸ e)
    simp [GMap.add, this, e]
end
end Mine

-- part E13
open PySem
set_option Elab.async false
set_option maxRecDepth 100000
set_option linter.unusedVariables false
namespace Mine

section
variable {prog : Program} {w : World} {A : Around} {X : Fix} {G : GMap} {h : Heap} {ok : Around → Heap → Prop} {env : Env} {Γ : Ctx} {f : Expr → (V → Prop) → Prop} {K : V → Prop}

theorem const_sound {c : Const} {a : Nat} {p : Pos} (l : LeH G h) (k : vConst c K) : Yl (model prog w) X A (eval (.Constant c a p) env) G K h := by
  rw [arm_eval_Constant]
  cases c with
  | int i => exact Yl.plain l _ k fun tk _ => fun _ _ _ => ⟨⟨_, rfl⟩, .int _ _⟩
  | str i => exact Yl.plain l _ k fun tk _ => fun _ _ _ => ⟨⟨_, rfl⟩, .str _ _⟩
  | bool i => exact Yl.ret l (.bool _) k
  | none => exact Yl.ret l .none k
  | _ => exact k.elim

theorem debug_ne {x : Str} (h : sameN x debugS = false) : (x == ("__debug__" : Str)) = false := by
  rw [← h, sameN_eq]; rfl

theorem load_sound {sc : Names} {x : Str} {v : Value} {Q : Value → Heap → Prop} (oe : EnvOk sc env) (hk : kindN sc x = some .local ∨ kindN sc x = some .cell) (lo : Loc env h x v) (q : Q v h) :
    wpH (model prog w) X A (loadName env x) Q h := by
  refine wpH.of fun tk _ => ?_
  rcases lo with ⟨hl, m, hn, hv⟩ | ⟨hl, c, hc, hv⟩
  · exact wpAny_loadName_local (s := X.at h tk) oe.kind hl hn hv ⟨h, tk, rfl, q⟩
  · have hl' : env.kindOf x = some .cell := by
      rw [oe.kindOf] at hl ⊢
      rcases hk with hk | hk <;> rcases hl with hl | hl <;> first | exact hl | (rw [hk] at hl; cases hl)
    exact wpAny_loadName_cell (s := X.at h tk) oe.kind hl' hc hv ⟨h, tk, rfl, q⟩

theorem name_sound {sc : Names} {x : Str} {v : Value} {p : Pos} {Q : Value → Heap → Prop} (oe : EnvOk sc env) (hd : sameN x debugS = false) (hk : kindN sc x = some .local ∨ kindN sc x = some .cell) (lo : Loc env h x v) (q : Q v h) :
    wpH (model prog w) X A (eval (.Name x p) env) Q h :=
  ⟨fun tk htk => wpAny_Name ((load_sound oe hk lo q).run tk htk) (debug_ne hd)⟩

theorem ns_top (O : OkAt X ok) (o : ok A h) {a : Addr} {m : Str → Option Value} (n : X.top.Ns a m) : h.Ns a m := n.at' fun ob e => O.top _ _ _ _ o e

theorem global_sound {P : Par} {sc : Names} {x : Str} {v : Value} {p : Pos} {Q : Value → Heap → Prop} (O : OkAt X ok) (PO : ParOk prog w X ok P) (o : ok A h) (oe : EnvOk sc env) (hd : sameN x debugS = false) (hk : kindN sc x = some .globalImplicit)
    (hg : P.gl x = some v) (q : Q v h) : wpH (model prog w) X A (eval (.Name x p) env) Q h := by
  obtain ⟨mg, n, hv⟩ := PO.gl x v hg
  have ng : h.Ns env.globals mg := by rw [oe.globals]; exact ns_top O o n
  refine wpH.of fun tk _ => Calls.Name_function_global oe.kind (by rw [oe.kindOf]; exact hk) ?_ (debug_ne hd)
  rcases hv with hv | ⟨hm, mb, nb, hv⟩
  · exact Calls.loadGlobal_global (s := X.at h tk) ng hv ⟨h, tk, rfl, q⟩
  · have nb' : h.Ns env.builtins mb := by rw [oe.builtins]; exact ns_top O o nb
    exact Calls.loadGlobal_builtin (s := X.at h tk) ng hm nb' hv ⟨h, tk, rfl, q⟩

theorem Yl.holding {t : Sem Value} {vs : List Value} (y : Yl (model prog w) X A t G K h) : Yl (model prog w) X A (PySem.holding vs t) G K h := wpH.holding y
theorem Yl.operate {t : Sem Value} {vs : List Value} (y : Yl (model prog w) X A t G K h) : Yl (model prog w) X A (PySem.operate vs t) G K h := wpH.operate y
theorem Yl.at {p : Pos} {t : Unit → Sem Value} (y : Yl (model prog w) X A (t ()) G K h) : Yl (model prog w) X A (PySem.standAt p >>= t) G K h := wpH.at y

theorem binop_sound {l r : Expr} {op : Operator} {p : Pos} (O : OkAt X ok) (S : SndE prog w X A env Γ ok f) (rd : Rd env G Γ h) (le : LeH G h) (o : ok A h) (k : f l fun a => f r fun b => vBin op a b K) :
    Yl (model prog w) X A (eval (.BinOp l op r p) env) G K h := by
  rw [arm_eval_BinOp]
  refine Yl.then (S l _ G h rd le o k) fun a x h1 G1 s1 g1 l1 r1 k1 => ?_
  refine Yl.then (Yl.holding (S r _ G1 h1 (rd.mono s1 g1) l1 (O.keep _ _ _ o s1) k1)) fun b y h2 G2 s2 g2 l2 r2 k2 => ?_
  exact Yl.at (Yl.operate (bin_sound l2 (Rel.mono g2.up r1) r2 k2))

theorem unop_sound {x : Expr} {op : UnaryOp} {p : Pos} (O : OkAt X ok) (S : SndE prog w X A env Γ ok f) (rd : Rd env G Γ h) (le : LeH G h) (o : ok A h) (k : f x fun a => vUn op a K) :
    Yl (model prog w) X A (eval (.UnaryOp op x p) env) G K h := by
  rw [arm_eval_UnaryOp]
  refine Yl.then (S x _ G h rd le o k) fun a x h1 G1 s1 g1 l1 r1 k1 => ?_
  exact Yl.at (Yl.holding (un_sound l1 r1 k1))

theorem compare_sound {l r : Expr} {op : CmpOp} {p : Pos} (O : OkAt X ok) (S : SndE prog w X A env Γ ok f) (rd : Rd env G Γ h) (le : LeH G h) (o : ok A h) (hm : behindInMarks op r = false)
    (k : f l fun a => f r fun b => vCmp op a b fun c => K (.bool c)) : Yl (model prog w) X A (eval (.Compare l [op] [r] p) env) G K h := by
  rw [eval_Compare1, markedBehindIn_of_false hm]
  refine Yl.then (S l _ G h rd le o k) fun a x h1 G1 s1 g1 l1 r1 k1 => ?_
  have o1 := O.keep _ _ _ o s1
  refine Yl.then (Yl.holding (S r _ G1 h1 (rd.mono s1 g1) l1 o1 k1)) fun b y h2 G2 s2 g2 l2 r2 k2 => ?_
  refine Yl.at (Yl.operate ?_)
  refine wpH.mono (cmp_sound (O.room _ _ o1) l2 (Rel.mono g2.up r1) r2 k2) fun v h' ⟨e, c, ev, kc⟩ => ?_
  subst e; subst ev
  exact ⟨Sub.refl _, .bool c, G2, Grow.refl _ _, l2, .bool _, kc⟩

theorem test_compare_sound {l r : Expr} {op : CmpOp} {p : Pos} {whole : Sem Value} {K : Bool → Prop} (O : OkAt X ok) (S : SndE prog w X A env Γ ok f) (rd : Rd env G Γ h) (le : LeH G h) (o : ok A h) (hm : behindInMarks op r = false)
    (k : f l fun a => f r fun b => vCmp op a b K) : Yb (model prog w) X A (isTrue (.Compare l [op] [r] p) env whole) G K h := by
  rw [isTrue_Compare1, markedBehindIn_of_false hm]
  refine Yl.thenB (S l _ G h rd le o k) fun a x h1 G1 s1 g1 l1 r1 k1 => ?_
  have o1 := O.keep _ _ _ o s1
  refine Yl.thenB (Yl.holding (S r _ G1 h1 (rd.mono s1 g1) l1 o1 k1)) fun b y h2 G2 s2 g2 l2 r2 k2 => ?_
  refine wpH.at (wpH.bind (wpH.operate ?_))
  refine wpH.mono (cmp_sound (O.room _ _ o1) l2 (Rel.mono g2.up r1) r2 k2) fun v h' ⟨e, c, ev, kc⟩ => ?_
  subst e; subst ev
  exact Yb.of l2 (wpH.holding (truth_sound (G := G2) (.bool c) kc))

theorem ifexp_sound {t b e : Expr} {p : Pos} {g : Expr → (Bool → Prop) → Prop} (O : OkAt X ok) (S : SndE prog w X A env Γ ok f) (T : SndT prog w X A env Γ ok g) (rd : Rd env G Γ h) (le : LeH G h) (o : ok A h)
    (k : g t fun c => (c = true → f b K) ∧ (c = false → f e K)) : Yl (model prog w) X A (eval (.IfExp t b e p) env) G K h := by
  rw [arm_eval_IfExp]
  refine Yb.then (T t _ G h rd le o k) fun c h1 G1 s1 g1 l1 k1 => ?_
  cases c with
  | true => exact S b _ G1 h1 (rd.mono s1 g1) l1 (O.keep _ _ _ o s1) (k1.1 rfl)
  | false => exact S e _ G1 h1 (rd.mono s1 g1) l1 (O.keep _ _ _ o s1) (k1.2 rfl)

theorem listE_sound {es : List Expr} {p : Pos} (O : OkAt X ok) (S : SndE prog w X A env Γ ok f) (rd : Rd env G Γ h) (le : LeH G h) (o : ok A h) (hs : es.all (fun e => !isStarE e) = true)
    (k : vList f es fun vs => chk (Nat.ble vs.length 16777216) (K (.list vs))) : Yl (model prog w) X A (eval (.List es p) env) G K h := by
  refine wpH.of fun tk htk => wpAny_List_spliced ((list_sound (pos := p) O S es _ G h hs rd le o k).use htk fun vs h' tk' l' ⟨s, xs, G', g, le', r, kb⟩ => ?_)
  obtain ⟨kb, kk⟩ := chk_and kb
  have hb : xs.length ≤ 16777216 := Nat.le_of_ble_eq_true kb
  refine ⟨by rw [line_eq, r.length]; exact hb, _, tk', rfl, s.trans (Sub.push _ _), .list xs, G'.add h'.objs.size (listO vs 0), g.trans s (Grow.add le' (get_size h')), ?_, .list _ vs 0 _ (GMap.add_self ..) (RelL.mono (Grow.add le' (get_size h')).up r), kk⟩
  exact (le'.sub (X := X) (Sub.push _ _)).add (Heap.get?_push_size _ rfl)
theorem tupE_sound {es : List Expr} {p : Pos} {c : Nat} (O : OkAt X ok) (S : SndE prog w X A env Γ ok f) (rd : Rd env G Γ h) (le : LeH G h) (o : ok A h) (hs : es.all (fun e => !isStarE e) = true)
    (k : vList f es fun vs => chk (Nat.ble vs.length 16777216) (K (.tup vs))) : Yl (model prog w) X A (eval (.Tuple es c p) env) G K h := by
  refine wpH.of fun tk htk => wpAny_Tuple_spliced ((list_sound (pos := p) O S es _ G h hs rd le o k).use htk fun vs h' tk' l' ⟨s, xs, G', g, le', r, kb⟩ => ?_)
  obtain ⟨kb, kk⟩ := chk_and kb
  have hb : xs.length ≤ 16777216 := Nat.le_of_ble_eq_true kb
  refine ⟨by rw [line_eq, r.length]; exact hb, _, tk', rfl, s.trans (Sub.push _ _), .tup xs, G'.add h'.objs.size (tupO vs 0), g.trans s (Grow.add le' (get_size h')), ?_, .tup _ vs 0 _ (GMap.add_self ..) (RelL.mono (Grow.add le' (get_size h')).up r), kk⟩
  exact (le'.sub (X := X) (Sub.push _ _)).add (Heap.get?_push_size _ rfl)
end
end Mine

-- part E14
open PySem
set_option Elab.async false
set_option maxRecDepth 100000
set_option linter.unusedVariables false
namespace Mine

section
variable {prog : Program} {w : World} {A : Around} {X : Fix} {G : GMap} {h : Heap} {ok : Around → Heap → Prop} {env : Env} {Γ : Ctx} {f : Expr → (V → Prop) → Prop} {K : V → Prop}

theorem subscripted_eq (slice : Expr) (o i : Value) : ∃ vs, subscripted slice false o i = operate vs (getItem o i) := by
  unfold subscripted
  split
  · exact ⟨_, rfl⟩
  · rename_i h; cases h
  · exact ⟨_, rfl⟩

theorem sub_tail {value slice : Expr} {o i : Value} {T id : String} (hT : ∀ tk, (X.at h tk).TypeIs o T) (hl : typeLookup (.type T) "__getitem__" = pure (some (.builtin id)))
    (y : Yl (model prog w) X A (getItem o i) G K h) :
    Yl (model prog w) X A (do let r ← subscripted slice (← getitemInPython o) o i; letTemporaryGo value o r; pure r) G K h := by
  refine ⟨fun tk htk => ?_⟩
  refine wpAny_bind ?_
  rw [getitemInPython_of_ne (hT tk).not_modules]
  refine wpAny_bind (wpAny_specialOf (hT tk) hl ?_)
  obtain ⟨vs, e⟩ := subscripted_eq slice o i
  have fin : wpAny (model prog w) A (subscripted slice false o i >>= fun r => letTemporaryGo value o r >>= fun _ => pure r) (HP X (YQ X G K h)) NoE (X.at h tk) := by
    rw [e]
    exact wpAny_bind (wpAny_operating (wpAny_mono (y.run tk htk) (fun v s' q => wpAny_bind (wpAny_letTemporaryGo (wpAny_pure q))) fun _ _ x => x))
  first
    | exact wpAny_pure (wpAny_bind fin)
    | exact wpAny_pure fin
    | exact wpAny_bind (wpAny_pure fin)

theorem idx_type {x y : V} (k : vIdx x y K) {v : Value} (r : Rel G v x) (l : LeH G h) : ∃ T id, (∀ tk, (X.at h tk).TypeIs v T) ∧ typeLookup (.type T) "__getitem__" = pure (some (.builtin id)) := by
  rcases opt2_or k with ⟨m, e, _⟩ | ⟨_, k⟩
  · cases V.list?_eq e
    obtain ⟨a, vs, n, rfl, e, _⟩ := r.listI
    exact ⟨"list", _, fun tk => ⟨_, (l _ _ e).1, rfl⟩, slot_list_getitem.lookup⟩
  · obtain ⟨s, t, rfl, _⟩ := strP k r
    exact ⟨"str", _, fun tk => typeIs_str _ _ _, F.slot_str_getitem.lookup⟩
theorem slice_type {x : V} {a b c : Option Int} (k : vSlice x a b c K) {v : Value} (r : Rel G v x) (l : LeH G h) : ∃ T id, (∀ tk, (X.at h tk).TypeIs v T) ∧ typeLookup (.type T) "__getitem__" = pure (some (.builtin id)) := by
  rcases opt2_or k with ⟨m, e, _⟩ | ⟨_, k⟩
  · cases V.str?_eq e
    obtain ⟨t, rfl⟩ := r.strI
    exact ⟨"str", _, fun tk => typeIs_str _ _ _, F.slot_str_getitem.lookup⟩
  · obtain ⟨m, a, vs, n, rfl, e, _⟩ := listP k r
    exact ⟨"list", _, fun tk => ⟨_, (l _ _ e).1, rfl⟩, slot_list_getitem.lookup⟩

theorem index_sound {value slice : Expr} {p : Pos} (O : OkAt X ok) (S : SndE prog w X A env Γ ok f) (rd : Rd env G Γ h) (le : LeH G h) (o : ok A h) (k : f value fun o => f slice fun i => vIdx o i K) :
    Yl (model prog w) X A (eval (.Subscript value slice p) env) G K h := by
  rw [arm_eval_Subscript]
  refine Yl.then (S value _ G h rd le o k) fun a x h1 G1 s1 g1 l1 r1 k1 => ?_
  refine Yl.then (Yl.holding (S slice _ G1 h1 (rd.mono s1 g1) l1 (O.keep _ _ _ o s1) k1)) fun b y h2 G2 s2 g2 l2 r2 k2 => ?_
  have r1' := Rel.mono g2.up r1
  obtain ⟨T, id, hT, hl⟩ := idx_type (X := X) k2 r1' l2
  exact Yl.at (sub_tail hT hl (item_sound l2 r1' r2 k2))

theorem own_index_sound {sc : Names} {x : Str} {px : Pos} {l : List V} {slice : Expr} {p : Pos} (O : OkAt X ok) (S : SndE prog w X A env Γ ok f) (oe : EnvOk sc env) (rd : Rd env G Γ h) (le : LeH G h) (o : ok A h)
    (hd : sameN x debugS = false) (hk : kindN sc x = some .local ∨ kindN sc x = some .cell) (hf : Γ.find x = some (.own l)) (k : f slice fun i => vIdx (.list l) i K) :
    Yl (model prog w) X A (eval (.Subscript (.Name x px) slice p) env) G K h := by
  rw [arm_eval_Subscript]
  obtain ⟨v, lo, a, vs, n, rfl, ea, ra⟩ := rd x _ hf
  refine wpH.bind (name_sound oe hd hk lo ?_)
  refine Yl.then (Yl.holding (S slice _ G h rd le o k)) fun b y h2 G2 s2 g2 l2 r2 k2 => ?_
  have ea2 : h2.get? a = some (listO vs n) := s2.get ea ((fun ⟨_, _, q⟩ => (nomatch q)))
  have hT : ∀ tk, (X.at h2 tk).TypeIs (.ref a) "list" := fun tk => ⟨_, ea2, rfl⟩
  refine Yl.at (sub_tail hT slot_list_getitem.lookup ?_)
  obtain ⟨j, t, rfl, hn, x', hx, hk'⟩ := intP k2 r2
  exact item_list ⟨_, ea2, rfl, n, rfl⟩ (RelL.mono g2.up ra) hn hx fun v rv => ⟨Sub.refl _, x', G2, Grow.refl _ _, l2, rv, hk'⟩

theorem part_sound {e : Option Expr} {K : Option Int → Prop} {β : Type} (S : SndE prog w X A env Γ ok f) (rd : Rd env G Γ h) (le : LeH G h) (o : ok A h) (k : vPart f e K) :
    wpH (model prog w) X A (valueOrNone (evalOpt e env)) (fun v h' => Sub X h h' ∧ ∃ p G', Grow h G G' ∧ LeH G' h' ∧ IsPart v p ∧ K p) h := by
  cases e with
  | none => exact wpH.pure ⟨Sub.refl h, none, G, Grow.refl _ _, le, .none, k⟩
  | some e =>
    refine wpH.mono (S e _ G h rd le o k) fun v h' ⟨s, x, G', g, l, r, k⟩ => ?_
    rcases opt2_or k with ⟨i, e, k⟩ | ⟨_, k⟩
    · cases V.int?_eq e
      obtain ⟨t, rfl⟩ := r.intI
      exact ⟨s, _, G', g, l, .int _ _, k⟩
    · obtain ⟨e, k⟩ := chk_and k
      cases isNoneV_eq e
      cases r
      exact ⟨s, _, G', g, l, .none, k⟩

theorem sliceE_sound {value : Expr} {lo hi st : Option Expr} {ps p : Pos} (O : OkAt X ok) (S : SndE prog w X A env Γ ok f) (rd : Rd env G Γ h) (le : LeH G h) (o : ok A h)
    (k : f value fun o => vPart f lo fun a => vPart f hi fun b => vPart f st fun c => vSlice o a b c K) :
    Yl (model prog w) X A (eval (.Subscript value (.Slice lo hi st ps) p) env) G K h := by
  rw [arm_eval_Subscript]
  refine Yl.then (S value _ G h rd le o k) fun a x h1 G1 s1 g1 l1 r1 k1 => ?_
  have o1 := O.keep _ _ _ o s1
  refine wpH.bind (wpH.holding ?_)
  rw [arm_eval_Slice]
  have rd1 := rd.mono s1 g1
  refine wpH.bind (wpH.mono (part_sound (β := Unit) S rd1 l1 o1 k1) fun vl h2 ⟨s2, pl, G2, g2, l2, ipl, k2⟩ => ?_)
  have o2 := O.keep _ _ _ o1 s2
  have rd2 := rd1.mono s2 g2
  refine wpH.bind (wpH.mono (wpH.holding (part_sound (β := Unit) S rd2 l2 o2 k2)) fun vu h3 ⟨s3, pu, G3, g3, l3, ipu, k3⟩ => ?_)
  have o3 := O.keep _ _ _ o2 s3
  have rd3 := rd2.mono s3 g3
  refine wpH.bind (wpH.mono (wpH.holding (part_sound (β := Unit) S rd3 l3 o3 k3)) fun vs h4 ⟨s4, pst, G4, g4, l4, ipst, k4⟩ => ?_)
  show wpH _ X A (newFields "slice" [vl, vu, vs]) _ _
  have s15 : Sub X h1 (h4.push { cls := .type "slice", data := .fields #[vl, vu, vs] }) := ((s2.trans s3).trans s4).trans (Sub.push _ _)
  have g14 : Grow h1 G1 G4 := (g2.trans s2 g3).trans (s2.trans s3) g4
  have l5 : LeH G4 (h4.push { cls := .type "slice", data := .fields #[vl, vu, vs] }) := l4.sub (X := X) (Sub.push _ _)
  refine wpH.of fun tk htk => wpAny_newObj_type ⟨_, tk, rfl, ?_⟩
  refine wpH.at ?_
  have r5 := Rel.mono g14.up r1
  obtain ⟨T, id, hT, hl⟩ := slice_type (X := X) k4 r5 l5
  refine wpH.mono (sub_tail hT hl (slice_sound l5 r5 (.new h4 vl vu vs) ipl ipu ipst k4)) fun v h6 ⟨s6, x6, G6, g6, l6, r6, k6⟩ => ⟨s15.trans s6, x6, G6, g14.trans s15 g6, l6, r6, k6⟩
end
end Mine

-- part E15
open PySem
set_option Elab.async false
set_option maxRecDepth 100000
set_option linter.unusedVariables false
namespace Mine

section
variable {prog : Program} {w : World} {A : Around} {X : Fix} {G : GMap} {h : Heap} {ok : Around → Heap → Prop} {env : Env} {Γ : Ctx} {f : Expr → (V → Prop) → Prop} {K : V → Prop}

theorem back_cons {e : Expr} {rest : List Expr} {pos : Pos} (he : isStarE e = false) : backTo pos (starEach (e :: rest) env) = (false, eval e env) :: backTo pos (starEach rest env) := by
  rw [starEach_cons he]; rfl
theorem back_plain {pos : Pos} : ∀ {args : List Expr}, args.all (fun e => !isStarE e) = true → (backTo pos (starEach args env)).any (·.1) = false
  | [], _ => rfl
  | e :: es, h => by
    have hs := Bool.and_eq_true_iff.mp (show (!isStarE e && es.all fun e => !isStarE e) = true from h)
    rw [back_cons (by simpa using hs.1), List.any_cons, back_plain hs.2]; rfl
theorem back_plain' {pos : Pos} : ∀ {args : List Expr}, args.all (fun e => !isStarE e) = true → (backTo pos (starEach args env)).all (fun x => !x.1) = true
  | [], _ => rfl
  | e :: es, h => by
    have hs := Bool.and_eq_true_iff.mp (show (!isStarE e && es.all fun e => !isStarE e) = true from h)
    rw [back_cons (by simpa using hs.1), List.all_cons, back_plain' hs.2]; rfl

theorem evalArgs_of {fv : Value} {args : List Expr} {pos : Pos} {Q : Args → Shared → Prop} {E : Value → Shared → Prop} {s : Shared} (hs : args.all (fun e => !isStarE e) = true)
    (y : wpAny (model prog w) A (spliced (backTo pos (starEach args env))) (fun vs s' => Q ⟨vs, []⟩ s') E s) : wpAny (model prog w) A (evalArgs fv true (backTo pos (starEach args env)) []) Q E s := by
  cases args with
  | nil =>
    unfold evalArgs
    show wpAny _ A (spliced [] >>= _) Q E s
    refine wpAny_bind (wpAny_mono y (fun vs s' h' => ?_) fun _ _ x => x)
    first
      | exact wpAny_holding (wpAny_bind (wpAny_pure (wpAny_bind (wpAny_pure (wpAny_pure h')))))
      | exact wpAny_bind (wpAny_pure (wpAny_holding (wpAny_bind (wpAny_pure (wpAny_bind (wpAny_pure (wpAny_pure h')))))))
  | cons e es =>
    have he := (Bool.and_eq_true_iff.mp (show (!isStarE e && es.all fun e => !isStarE e) = true from hs)).1
    rw [back_cons (by simpa using he)] at y ⊢
    exact Calls.evalArgs_plain y

theorem callB_sound {id : String} {first : List Value} {args : List Expr} {pos : Pos} {Ks : List V → Prop} (O : OkAt X ok) (S : SndE prog w X A env Γ ok f) (rd : Rd env G Γ h) (le : LeH G h) (o : ok A h)
    (hs : args.all (fun e => !isStarE e) = true) (k : vList f args Ks)
    (c : ∀ vals xs h' G', Sub X h h' → Grow h G G' → LeH G' h' → ok A h' → RelL G' vals xs → Ks xs → Yl (model prog w) X A (call (.builtin id) (first ++ vals)) G' K h') :
    Yl (model prog w) X A (callWith pos (.builtin id) first (backTo pos (starEach args env)) []) G K h := by
  refine wpH.of fun tk htk => Calls.callWith_builtin (back_plain hs) (evalArgs_of hs ((list_sound (pos := pos) O S args _ G h hs rd le o k).use htk fun vs h' tk' l' ⟨s, xs, G', g, le', r, kk⟩ => ?_))
  refine (c vs xs h' G' s g le' (O.keep _ _ _ o s) r kk).use l' fun v h2 tk2 _ ⟨s2, x, G2, g2, l2, r2, k2⟩ => ?_
  exact ⟨h2, tk2, rfl, s.trans s2, x, G2, g.trans s g2, l2, r2, k2⟩
theorem callT_sound {id : String} {args : List Expr} {pos : Pos} {Ks : List V → Prop} (O : OkAt X ok) (S : SndE prog w X A env Γ ok f) (rd : Rd env G Γ h) (le : LeH G h) (o : ok A h)
    (hs : args.all (fun e => !isStarE e) = true) (k : vList f args Ks)
    (c : ∀ vals xs h' G', Sub X h h' → Grow h G G' → LeH G' h' → ok A h' → RelL G' vals xs → Ks xs → Yl (model prog w) X A (call (.type id) vals) G' K h') :
    Yl (model prog w) X A (callWith pos (.type id) [] (backTo pos (starEach args env)) []) G K h := by
  refine wpH.of fun tk htk => PySem.callWith_type (back_plain hs) (evalArgs_of hs ((list_sound (pos := pos) O S args _ G h hs rd le o k).use htk fun vs h' tk' l' ⟨s, xs, G', g, le', r, kk⟩ => ?_))
  refine (c vs xs h' G' s g le' (O.keep _ _ _ o s) r kk).use l' fun v h2 tk2 _ ⟨s2, x, G2, g2, l2, r2, k2⟩ => ?_
  exact ⟨h2, tk2, rfl, s.trans s2, x, G2, g.trans s g2, l2, r2, k2⟩
theorem callF_sound {a : Addr} {args : List Expr} {pos : Pos} {Ks : List V → Prop} {ob : Obj} {fd : FuncData} (O : OkAt X ok) (S : SndE prog w X A env Γ ok f) (rd : Rd env G Γ h) (le : LeH G h) (o : ok A h)
    (ha : X.top.get? a = some ob) (hd : ob.data = .func fd) (hs : args.all (fun e => !isStarE e) = true) (k : vList f args Ks)
    (c : ∀ vals xs h' G', Sub X h h' → Grow h G G' → LeH G' h' → ok A h' → RelL G' vals xs → Ks xs → Yl (model prog w) X A (call (.ref a) vals) G' K h') :
    Yl (model prog w) X A (callWith pos (.ref a) [] (backTo pos (starEach args env)) []) G K h := by
  refine wpH.of fun tk htk => Calls.callWith_function (o := ob) (fd := fd) (evalArgs_of hs ((list_sound (pos := pos) O S args _ G h hs rd le o k).use htk fun vs h' tk' l' ⟨s, xs, G', g, le', r, kk⟩ => ?_))
  have o' := O.keep _ _ _ o s
  refine ⟨⟨O.top _ _ _ _ o' ha, hd⟩, ?_⟩
  refine (c vs xs h' G' s g le' o' r kk).use l' fun v h2 tk2 _ ⟨s2, x, G2, g2, l2, r2, k2⟩ => ?_
  exact ⟨h2, tk2, rfl, s.trans s2, x, G2, g.trans s g2, l2, r2, k2⟩

theorem base_eq {o : Expr} {name : Str} {whole : Sem Value} (h : baseOk o = true) : attributeBase o name env whole = whole := by
  cases o with
  | Call f args kws pos =>
    cases args with
    | nil => cases h
    | cons _ _ => cases f <;> rfl
  | _ => rfl

theorem few_form {args : List Expr} {apos pos : Pos} (h : fewOk args apos pos = true) : args.all (fun e => !isStarE e) = true ∧ methodCallForm (args.length + ([] : List Keyword).length) (backTo pos (starEach args env)) (backToKw pos (keywordEach [] env)) = true ∧ (apos.endLine == pos.line) = true := by
  unfold fewOk at h
  rw [Bool.and_eq_true, Bool.and_eq_true] at h
  obtain ⟨⟨h1, h2⟩, h3⟩ := h
  refine ⟨h1, ?_, by simpa using h3⟩
  unfold methodCallForm
  rw [back_plain' h1]
  have : args.length < 29 := by simpa [Nat.blt_eq] using h2
  show (true && true && decide (args.length + 0 + 0 < 30)) = true
  simp only [Bool.true_and, decide_eq_true_eq]
  omega

theorem method_sound {e : Expr} {name : Str} {args : List Expr} {apos pos : Pos} {K1 : V → Prop} (S : SndE prog w X A env Γ ok f) (rd : Rd env G Γ h) (le : LeH G h) (o : ok A h)
    (hf : fewOk args apos pos = true) (hb : baseOk e = true) (k : f e K1)
    (c : ∀ v x h' G', Sub X h h' → Grow h G G' → LeH G' h' → Rel G' v x → K1 x → ∃ id, (∀ (Q : Value × List Value → Heap → Prop) pl, Q (.builtin id, [v]) h' → wpH (model prog w) X A (getMethod v name pl) Q h') ∧
      Yl (model prog w) X A (callWith pos (.builtin id) [v] (backTo pos (starEach args env)) []) G' K h') :
    Yl (model prog w) X A (eval (.Call (.Attribute e name apos) args [] pos) env) G K h := by
  rw [arm_eval_Call, base_eq hb]
  obtain ⟨h1, h2, h3⟩ := few_form (env := env) hf
  refine Yl.then (S e _ G h rd le o k) fun v x h' G' s g l r kk => ?_
  obtain ⟨id, hg, hc⟩ := c v x h' G' s g l r kk
  refine Yl.at ?_
  have hpos : methodCallPos true e env apos pos = pure pos := by unfold methodCallPos; simp [h3]
  unfold methodCall
  rw [h2, hpos]
  refine wpH.bind (wpH.holding ?_)
  show wpH _ X A (getMethod v name _) _ _
  refine hg _ _ ?_
  exact hc
end
end Mine

-- part E16
open PySem
set_option Elab.async false
set_option maxRecDepth 100000
set_option linter.unusedVariables false
namespace Mine

section
variable {prog : Program} {w : World} {A : Around} {X : Fix} {G : GMap} {h : Heap} {ok : Around → Heap → Prop} {env : Env} {Γ : Ctx} {f : Expr → (V → Prop) → Prop} {K : V → Prop}

theorem twoConsts_eq {args : List Expr} {a b : Str} (h : twoConsts args = some (a, b)) : ∃ k1 p1 k2 p2, args = [.Constant (.str a) k1 p1, .Constant (.str b) k2 p2] := by
  obtain ⟨⟨p, q⟩, e1, h⟩ := bind_ex h
  obtain ⟨a', e2, h⟩ := bind_ex (f := fun a => (asStr q).map fun b => (a, b)) h
  obtain ⟨b', e3, h⟩ := map_ex h
  cases h
  obtain ⟨k1, p1, rfl⟩ := asStr_eq e2
  obtain ⟨k2, p2, rfl⟩ := asStr_eq e3
  exact ⟨k1, p1, k2, p2, two_eq e1⟩

theorem replace_sound {v : Value} {s a b : Str} {args : List Expr} {pos : Pos} (le : LeH G h) (r : Rel G v (.str s)) (hc : twoConsts args = some (a, b)) (hne : (a == b) = false) (hs : s.length ≤ 1048576) (hb : b.length ≤ 14)
    (k : K (.str (Txt.replace s a b))) : Yl (model prog w) X A (callWith pos (.builtin "str.replace") [v] (backTo pos (starEach args env)) []) G K h := by
  obtain ⟨k1, p1, k2, p2, rfl⟩ := twoConsts_eq hc
  obtain ⟨t, rfl⟩ := r.strI
  refine wpH.of fun tk htk => Calls.callWith_builtin (back_plain (by rfl)) (evalArgs_of (by rfl) ?_)
  refine PyProof.Rows.args_cons (Calls.Constant_str ?_)
  refine PyProof.Rows.args_cons (Calls.Constant_str ?_)
  refine PyProof.Rows.args_nil ?_
  show wpAny _ A (call (.builtin "str.replace") [.str s t, .str a tk, .str b (tk + 1)]) _ _ _
  have hlen : s.length + (s.length + 1) * b.length ≤ 16777216 := by
    have : (s.length + 1) * b.length ≤ (s.length + 1) * 14 := Nat.mul_le_mul_left _ hb
    omega
  refine SC.replace (u := tk) (v := tk + 1) (by exact Nat.ne_of_gt htk) (Nat.succ_ne_zero _) (by exact Nat.ne_of_lt (Nat.lt_succ_self _)) hne hlen ?_
  intro t' k'
  exact ⟨h, k', rfl, Sub.refl _, _, G, Grow.refl _ _, le, .str _ _, k⟩

theorem vmeth_vcall {P : Par} (O : OkAt X ok) (S : SndE prog w X A env Γ ok f) (rd : Rd env G Γ h) (le : LeH G h) (o : ok A h) {e : Expr} {name : Str} {args : List Expr} {apos pos : Pos}
    (PO : ParOk prog w X ok P) (k : vMCall P f e name args apos pos K) :
    Yl (model prog w) X A (eval (.Call (.Attribute e name apos) args [] pos) env) G K h := by
  obtain ⟨c, k⟩ := chk_and k
  obtain ⟨hf, hb⟩ := and2 c
  have hstar := (few_form (env := env) hf).1
  rcases opt2_or k with ⟨⟨a, b⟩, hm, k0⟩ | ⟨_, k⟩
  · cases hs : sameN name replaceS with
    | false => rw [hs] at hm; cases hm
    | true =>
      rw [hs] at hm
      cases sameN_iff.mp hs
      refine method_sound S rd le o hf hb k0 fun v x h' G' s g l r kk => ?_
      obtain ⟨st, e, kk⟩ := optP_ex kk
      cases V.str?_eq e
      exact ⟨"str.replace", fun Q pl q => get_sound (x := .str st) l r rfl q, replace_sound l r hm kk.1.1 kk.1.2.1 kk.1.2.2 kk.2⟩
  · refine method_sound S rd le o hf hb k fun v x h' G' s g l r kk => ?_
    have o' := O.keep _ _ _ o s
    rcases opt2_or kk with ⟨v', e, kk⟩ | ⟨_, kk⟩
    · cases V.obj?_eq e
      cases r.objI
      obtain ⟨a, e, kk⟩ := optP_ex kk
      cases refOf_eq e
      obtain ⟨hmi, kk⟩ := chk_and kk
      obtain ⟨id, hid⟩ := Option.isSome_iff_exists.mp hmi
      refine ⟨id, fun Q pl q => PO.mi a name id hid A h' Q pl o' q, ?_⟩
      refine callB_sound O S (rd.mono s g) l o' hstar kk fun vals xs h2 G2 s2 g2 l2 o2 r2 ⟨r3, m3, k3⟩ => ?_
      exact Yl.mono (PO.mt a name xs r3 id m3 hid A h2 G2 vals o2 l2 r2) fun x e => e ▸ k3
    · obtain ⟨hm, kk⟩ := chk_and kk
      refine ⟨methId name x, fun Q pl q => get_sound l r hm q, ?_⟩
      refine callB_sound O S (rd.mono s g) l o' hstar kk fun vals xs h2 G2 s2 g2 l2 o2 r2 k2 => ?_
      exact meth_sound l2 (Rel.mono g2.up r) r2 k2

theorem fcall_sound {P : Par} (O : OkAt X ok) (S : SndE prog w X A env Γ ok f) (rd : Rd env G Γ h) (le : LeH G h) (o : ok A h) {x : Str} {args : List Expr} {px pos : Pos}
    (PO : ParOk prog w X ok P) (k : vFCall P f (.Name x px) args K) :
    Yl (model prog w) X A (eval (.Call (.Name x px) args [] pos) env) G K h := by
  obtain ⟨hs, k⟩ := chk_and k
  rw [arm_eval_Call_Name']
  refine Yl.then (S _ _ G h rd le o k) fun fv x h1 G1 s1 g1 l1 r1 k1 => ?_
  have o1 := O.keep _ _ _ o s1
  have rd1 := rd.mono s1 g1
  obtain ⟨v, e, k1⟩ := optP_ex k1
  cases V.obj?_eq e
  cases r1.objI
  rcases opt2_or k1 with ⟨a, e, k1⟩ | ⟨_, k1⟩
  · cases refOf_eq e
    obtain ⟨hfs, k1⟩ := chk_and k1
    obtain ⟨ob, fd, ha, hd⟩ := PO.fs a hfs
    refine callF_sound O S rd1 l1 o1 ha hd hs k1 fun vals xs h2 G2 s2 g2 l2 o2 r2 ⟨r3, m3, k3⟩ => ?_
    exact Yl.mono (PO.fn a xs r3 m3 A h2 G2 vals o2 l2 r2) fun x e => e ▸ k3
  · rcases opt2_or k1 with ⟨a, e, k1⟩ | ⟨_, k1⟩
    · cases bltOf_eq e
      refine callB_sound O S rd1 l1 o1 hs k1 fun vals xs h2 G2 s2 g2 l2 o2 r2 k2 => ?_
      exact call_sound (O.room _ _ o) l2 r2 k2
    · obtain ⟨a, e, k1⟩ := optP_ex k1
      cases typOf_eq e
      refine callT_sound O S rd1 l1 o1 hs k1 fun vals xs h2 G2 s2 g2 l2 o2 r2 k2 => ?_
      exact type_sound (O.room _ _ o) l2 r2 k2

theorem vname_sound {P : Par} (O : OkAt X ok) (PO : ParOk prog w X ok P) {sc : Names} (oe : EnvOk sc env) (rd : Rd env G Γ h) (l : LeH G h) (o : ok A h) {x : Str} {p : Pos} (k : vName P sc x Γ K) :
    Yl (model prog w) X A (eval (.Name x p) env) G K h := by
  obtain ⟨hd, k⟩ := chk_and k
  have hd := not_true hd
  cases hk : isLC (kindN sc x) with
  | true =>
    rw [hk] at k
    obtain ⟨v, e, k⟩ := optP_ex k
    obtain ⟨u, lo, r⟩ := rd _ _ (valL_eq e)
    exact name_sound oe hd (isLC_iff hk) lo ⟨Sub.refl _, v, G, Grow.refl _ _, l, r, k⟩
  | false =>
    rw [hk] at k
    obtain ⟨hg, k⟩ := chk_and k
    obtain ⟨v, e, k⟩ := optP_ex k
    refine global_sound O PO o oe hd (isGI_eq hg) e ?_
    rcases opt2_or k with ⟨s, e, k⟩ | ⟨_, k⟩
    · obtain ⟨t, rfl⟩ := strOf_eq e
      exact ⟨Sub.refl _, _, G, Grow.refl _ _, l, .str _ _, k⟩
    · exact ⟨Sub.refl _, _, G, Grow.refl _ _, l, .obj _, k⟩

theorem vsub_sound {sc : Names} (O : OkAt X ok) (S : SndE prog w X A env Γ ok f) (oe : EnvOk sc env) (rd : Rd env G Γ h) (le : LeH G h) (o : ok A h) {value slice : Expr} {p : Pos}
    (k : opt2 (ownOf Γ value) (fun (x, l) => chk (!sameN x debugS && isLC (kindN sc x)) (f slice fun i => vIdx (.list l) i K)) (f value fun o => f slice fun i => vIdx o i K)) :
    Yl (model prog w) X A (eval (.Subscript value slice p) env) G K h := by
  rcases opt2_or k with ⟨⟨x, l⟩, e, k1⟩ | ⟨_, k⟩
  · obtain ⟨c, k2⟩ := chk_and k1
    obtain ⟨c1, c2⟩ := and2 c
    obtain ⟨p0, rfl, hf⟩ := ownOf_eq e
    exact own_index_sound O S oe rd le o (not_true c1) (isLC_iff c2) hf k2
  · exact index_sound O S rd le o k
theorem vcmp_sound {left : Expr} {ops : List CmpOp} {rs : List Expr} {p : Pos} (O : OkAt X ok) (S : SndE prog w X A env Γ ok f) (rd : Rd env G Γ h) (le : LeH G h) (o : ok A h)
    (k : optP (one ops) fun op => optP (one rs) fun r => chk (!behindInMarks op r) (f left fun a => f r fun b => vCmp op a b fun c => K (.bool c))) : Yl (model prog w) X A (eval (.Compare left ops rs p) env) G K h := by
  obtain ⟨op, e1, k1⟩ := optP_ex k
  obtain ⟨r, e2, k2⟩ := optP_ex k1
  obtain ⟨c, k3⟩ := chk_and k2
  cases one_eq e1
  cases one_eq e2
  exact compare_sound O S rd le o (not_true c) k3
theorem vtest_sound {left : Expr} {ops : List CmpOp} {rs : List Expr} {p : Pos} {whole : Sem Value} {K : Bool → Prop} (O : OkAt X ok) (S : SndE prog w X A env Γ ok f) (rd : Rd env G Γ h) (le : LeH G h) (o : ok A h)
    (k : optP (one ops) fun op => optP (one rs) fun r => chk (!behindInMarks op r) (f left fun a => f r fun b => vCmp op a b K)) : Yb (model prog w) X A (isTrue (.Compare left ops rs p) env whole) G K h := by
  obtain ⟨op, e1, k1⟩ := optP_ex k
  obtain ⟨r, e2, k2⟩ := optP_ex k1
  obtain ⟨c, k3⟩ := chk_and k2
  cases one_eq e1
  cases one_eq e2
  exact test_compare_sound O S rd le o (not_true c) k3
theorem vcall_sound {P : Par} {func : Expr} {args : List Expr} {kws : List Keyword} {pos : Pos} (O : OkAt X ok) (PO : ParOk prog w X ok P) (S : SndE prog w X A env Γ ok f) (rd : Rd env G Γ h) (le : LeH G h) (o : ok A h)
    (k : chk kws.isEmpty (opt2 (asAtt func) (fun (o, name, apos) => vMCall P f o name args apos pos K) (optP (asNm func) fun x => vFCall P f (.Name x func.pos) args K))) : Yl (model prog w) X A (eval (.Call func args kws pos) env) G K h := by
  obtain ⟨c, k⟩ := chk_and k
  cases List.isEmpty_iff.mp c
  rcases opt2_or k with ⟨t, e, k⟩ | ⟨_, k⟩
  · cases asAtt_eq e
    exact vmeth_vcall O S rd le o PO k
  · obtain ⟨x, e, k⟩ := optP_ex k
    obtain ⟨px, rfl⟩ := asNm_eq e
    exact fcall_sound O S rd le o PO k
end

theorem sound {prog : Program} {w : World} {A : Around} {X : Fix} {ok : Around → Heap → Prop} {P : Par} (O : OkAt X ok) (PO : ParOk prog w X ok P) : ∀ n, Ih prog w X A ok P n
  | 0 => fun sc env Γ oe => ⟨fun e K G h rd l o k => k.elim, fun e K G h rd l o k => k.elim⟩
  | n + 1 => by
    intro sc env Γ oe
    have IH := sound (A := A) O PO n
    obtain ⟨S, T⟩ := IH sc env Γ oe
    refine ⟨fun e K G h rd l o k => ?_, fun e K G h rd l o k => ?_⟩
    · cases e with
      | Constant c a p => exact const_sound l k
      | Name x p => exact vname_sound O PO oe rd l o k
      | BinOp a op b p => exact binop_sound O S rd l o k
      | UnaryOp op a p => exact unop_sound O S rd l o k
      | Compare a ops rs p => exact vcmp_sound O S rd l o k
      | IfExp t b c p => exact ifexp_sound O S T rd l o k
      | Call func args kws pos => exact vcall_sound O PO S rd l o k
      | Subscript value slice p =>
        cases slice with
        | Slice lo hi st p2 => exact sliceE_sound O S rd l o k
        | _ => exact vsub_sound O S oe rd l o k
      | List es p => exact listE_sound O S rd l o (chk_and k).1 (chk_and k).2
      | Tuple es c p => exact tupE_sound O S rd l o (chk_and k).1 (chk_and k).2
      | ListComp elt gens scope p =>
        obtain ⟨g, e, k1⟩ := optP_ex k
        cases one_eq e
        obtain ⟨target, iter, ifs, a⟩ := g
        obtain ⟨c, k2⟩ := chk_and k1
        obtain ⟨c1, c2⟩ := and2 c
        cases of_decide_eq_true c1
        exact comp_sound (P := P) O IH oe c2 rd l o k2
      | _ => exact k.elim
    · have dflt : ∀ t, t = (eval e env >>= fun v => standAt e.pos >>= fun _ => holding [v] (truthy v)) → ve P n sc e Γ (fun v => vTruth v K) → Yb (model prog w) X A t G K h := fun t et k => by
        rw [et]
        refine Yl.thenB (S e _ G h rd l o k) fun v x h1 G1 s1 g1 l1 r1 k1 => ?_
        exact wpH.at (Yb.of l1 (wpH.holding (truth_sound r1 k1)))
      cases e with
      | UnaryOp op x p =>
        obtain ⟨c, k⟩ := chk_and k
        cases op with
        | Not =>
          rw [arm_isTrue_UnaryOp]
          exact Yb.thenB (T _ _ G h rd l o k) fun b h1 G1 s1 g1 l1 k1 => Yb.ret l1 k1
        | _ => cases c
      | BoolOp op es p => exact all_sound O T _ K G h rd l o k
      | Compare left ops rs p => exact vtest_sound O S rd l o k
      | IfExp a b c p => exact k.elim
      | _ => exact dflt _ rfl k
end Mine

-- part E17
open PySem
set_option Elab.async false
set_option maxRecDepth 100000
set_option linter.unusedVariables false
namespace Mine

noncomputable def SubB (X : Fix) (B : GMap) (h : Heap) : Prop := ∀ a o, B a = some o → h.get? a = some o ∨ (IsFr o ∧ X.top.get? a = none ∧ ∃ sl, h.get? a = some { o with slots := sl })
structure GrowB (B : GMap) (G G' : GMap) : Prop where
  up : ∀ a o, G a = some o → G' a = some o
  new : ∀ a o, G' a = some o → G a = some o ∨ B a = none
noncomputable def LeB (G B : GMap) : Prop := ∀ a o, G a = some o → B a = some o ∧ ¬ IsFr o
section
variable {X : Fix} {B : GMap}
theorem SubB.trans {h h' : Heap} (x : SubB X B h) (y : Sub X h h') : SubB X B h' := fun a o e => by
  rcases x a o e with e1 | ⟨c, t, sl, e1⟩
  · exact y a o e1
  · rcases y a _ e1 with e2 | ⟨_, _, sl2, e2⟩
    · exact .inr ⟨c, t, sl, e2⟩
    · exact .inr ⟨c, t, sl2, e2⟩
theorem SubB.none {h : Heap} (s : SubB X B h) {a : Addr} (e : h.get? a = Option.none) : B a = Option.none := by
  cases q : B a with
  | none => rfl
  | some o => rcases s a o q with e1 | ⟨_, _, sl, e1⟩ <;> (rw [e1] at e; cases e)
theorem SubB.top {h : Heap} (s : SubB X B h) {a : Addr} {o : Obj} (e : B a = some o) (c : (X.top.get? a).isSome = true) : h.get? a = some o :=
  (s a o e).elim id fun q => by rw [q.2.1] at c; cases c
theorem SubB.data {h : Heap} (s : SubB X B h) {a : Addr} {o : Obj} (e : B a = some o) : ∃ o', h.get? a = some o' ∧ o'.data = o.data := by
  rcases s a o e with e1 | ⟨_, _, sl, e1⟩
  · exact ⟨_, e1, rfl⟩
  · exact ⟨_, e1, rfl⟩
theorem SubB.chg {I : Addr} {h h' : Heap} (s : SubB X B h) (n : B I = Option.none) (c : Chg I h h') : SubB X B h' := fun a o e => by
  have ha : a ≠ I := fun q => by subst q; rw [e] at n; cases n
  rcases s a o e with e1 | ⟨k, t, sl, e1⟩
  · exact .inl (c a o ha e1)
  · exact .inr ⟨k, t, sl, c a _ ha e1⟩
theorem GrowB.trans {h : Heap} {G G' G'' : GMap} (x : GrowB B G G') (s : SubB X B h) (y : Grow h G' G'') : GrowB B G G'' :=
  ⟨fun a o e => y.up a o (x.up a o e), fun a o e => (y.new a o e).elim (x.new a o) fun l => .inr (s.none l)⟩
end
inductive OwnA (h0 : GMap) (env : Env) (G : GMap) (h : Heap) (x : Str) (a : Addr) (l : List V) : Prop
  | mk (vs : List Value) (n : Nat) (lo : Loc env h x (.ref a)) (ho : h.get? a = some (listO vs n)) (r : RelL G vs l) (f : h0 a = none) (nn : ∀ o, G a ≠ some o) : OwnA h0 env G h x a l
structure FSt (X : Fix) (h0 : GMap) (G0 : GMap) (env : Env) (Γ : Ctx) (oa : Str → Addr) (G : GMap) (h : Heap) : Prop where
  leh : LeH G h
  l0 : LeB G0 h0
  sub : SubB X h0 h
  grow : GrowB h0 G0 G
  ns : ∃ m, h.Ns env.locals m
  fL : h0 env.locals = none
  nL : ∀ o, G env.locals ≠ some o
  cell : ∀ x c, env.cells.lookup x = some c → h0 c = none ∧ (∃ v, h.IsCell c v) ∧ ∀ o, G c ≠ some o
  cinj : ∀ x y c, env.cells.lookup x = some c → env.cells.lookup y = some c → x = y
  val : ∀ x v, Γ.find x = some (.val v) → ∃ u, Loc env h x u ∧ Rel G u v
  own : ∀ x l, Γ.find x = some (.own l) → OwnA h0 env G h x (oa x) l
  inj : ∀ x y l l', Γ.find x = some (.own l) → Γ.find y = some (.own l') → oa x = oa y → x = y

theorem ns_uniq {h : Heap} {a : Addr} {m m' : Str → Option Value} (n : h.Ns a m) (n' : h.Ns a m') (x : Str) : m x = m' x := by
  obtain ⟨o, es, ep, ho, hd, _, hf⟩ := n
  obtain ⟨o', es', ep', ho', hd', _, hf'⟩ := n'
  rw [ho] at ho'; cases ho'
  rw [hd] at hd'; cases hd'
  exact (hf x).symm.trans (hf' x)
theorem ns_not_list {h : Heap} {a : Addr} {m : Str → Option Value} {vs : List Value} {n : Nat} (x : h.Ns a m) (y : h.get? a = some (listO vs n)) : False := by
  obtain ⟨o, es, ep, ho, hd, _⟩ := x
  rw [y] at ho; cases ho; cases hd
theorem cell_not_list {h : Heap} {a : Addr} {v : Option Value} {vs : List Value} {n : Nat} (x : h.IsCell a v) (y : h.get? a = some (listO vs n)) : False := by
  obtain ⟨o, ho, hd⟩ := x
  rw [y] at ho; cases ho; cases hd
theorem ns_not_cell {h : Heap} {a : Addr} {m : Str → Option Value} {v : Option Value} (x : h.Ns a m) (y : h.IsCell a v) : False := by
  obtain ⟨o, es, ep, ho, hd, _⟩ := x
  obtain ⟨o', ho', hd'⟩ := y
  rw [ho] at ho'; cases ho'; rw [hd] at hd'; cases hd'

section
variable {prog : Program} {w : World} {A : Around} {X : Fix} {h : Heap} {h0 : GMap} {G0 G : GMap} {env : Env} {Γ : Ctx} {oa : Str → Addr}

theorem FSt.rd (z : FSt X h0 G0 env Γ oa G h) : Rd env G Γ h := fun x e he => by
  cases e with
  | val v => exact z.val x v he
  | own l => let ⟨vs, n, lo, ho, r, _, _⟩ := z.own x l he; exact ⟨_, lo, _, vs, n, rfl, ho, r⟩

theorem FSt.step {G' : GMap} {h' : Heap} (z : FSt X h0 G0 env Γ oa G h) (s : Sub X h h') (g : Grow h G G') (l : LeH G' h') : FSt X h0 G0 env Γ oa G' h' where
  leh := l
  l0 := z.l0
  sub := z.sub.trans s
  grow := z.grow.trans z.sub g
  ns := z.ns.imp fun _ n => s.ns n
  fL := z.fL
  nL := by obtain ⟨m, o, _, _, ho, _⟩ := z.ns; exact g.notIn z.nL ho
  cell := fun x c e => by
    obtain ⟨a, ⟨v, n⟩, b⟩ := z.cell x c e
    obtain ⟨o, ho, _⟩ := id n
    exact ⟨a, ⟨v, s.cell n⟩, g.notIn b ho⟩
  cinj := z.cinj
  val := fun x v e => let ⟨u, lo, r⟩ := z.val x v e; ⟨u, lo.mono s, Rel.mono g.up r⟩
  own := fun x l e => by
    obtain ⟨vs, n, lo, ho, r, f, nn⟩ := z.own x l e
    exact ⟨vs, n, lo.mono s, s.get ho ((fun ⟨_, _, q⟩ => (nomatch q))), RelL.mono g.up r, f, g.notIn nn ho⟩
  inj := z.inj

structure Stored (X : Fix) (h0 : GMap) (G : GMap) (env : Env) (x : Str) (v : Value) (h h' : Heap) (B : Addr) : Prop where
  chg : Chg B h h'
  fB : h0 B = none
  nB : ∀ o, G B ≠ some o
  lst : ∀ a vs n, h.get? a = some (listO vs n) → a ≠ B
  loc : Loc env h' x v
  oth : ∀ y u, y ≠ x → Loc env h y u → Loc env h' y u
  ns : ∃ m, h'.Ns env.locals m
  cell : ∀ y c, env.cells.lookup y = some c → ∃ v, h'.IsCell c v
  is : B = env.locals ∨ ∃ y, env.cells.lookup y = some B

theorem store_sound {sc : Names} {x : Str} {v : Value} {Q : Unit → Heap → Prop} (oe : EnvOk sc env) (z : FSt X h0 G0 env Γ oa G h) (hk : isLC (kindN sc x) = true) (q : ∀ h' B, Stored X h0 G env x v h h' B → Q () h') :
    wpH (model prog w) X A (storeName env x v) Q h := by
  obtain ⟨m, n⟩ := z.ns
  rcases isLC_iff hk with hk | hk
  · have hl : env.kindOf x = some .local := by rw [oe.kindOf]; exact hk
    refine store_local oe.kind hl n fun h' c n' => q h' env.locals ⟨c, z.fL, z.nL, ?_, .inl ⟨hl, _, n', by simp⟩, ?_, ⟨_, n'⟩, ?_, .inl rfl⟩
    · rintro a vs k e rfl; exact ns_not_list n e
    · rintro y u hy (⟨a, m2, n2, e⟩ | ⟨a, c2, e, n2⟩)
      · exact .inl ⟨a, _, n', by simp [hy, ns_uniq n n2, e]⟩
      · obtain ⟨o, ho, hd⟩ := id n2
        exact .inr ⟨a, c2, e, o, c _ _ (fun q => ns_not_cell n (q ▸ n2)) ho, hd⟩
    · intro y c2 e
      obtain ⟨_, ⟨v2, n2⟩, _⟩ := z.cell y c2 e
      obtain ⟨o, ho, hd⟩ := id n2
      exact ⟨v2, o, c _ _ (fun q => ns_not_cell n (q ▸ n2)) ho, hd⟩
  · have hl : env.kindOf x = some .cell := by rw [oe.kindOf]; exact hk
    obtain ⟨c, hc⟩ := oe.cells x (by rw [hk]; rfl)
    obtain ⟨fc, ⟨v0, n0⟩, nc⟩ := z.cell x c hc
    have nLc : env.locals ≠ c := fun q => ns_not_cell n (q ▸ n0)
    refine wpH.of fun tk _ => wpAny_storeName_cell (s := X.at h tk) oe.kind hl hc n0 fun h' n' hs => ⟨h', tk, rfl, q h' c ⟨hs.extBut, fc, nc, ?_, .inr ⟨.inl hl, c, hc, n'⟩, ?_, ⟨m, n.sameBut hs nLc⟩, ?_, .inr ⟨x, hc⟩⟩⟩
    · rintro a vs k e rfl; exact cell_not_list n0 e
    · rintro y u hy (⟨a, m2, n2, e⟩ | ⟨a, c2, e, n2⟩)
      · exact .inl ⟨a, _, n2.sameBut hs nLc, e⟩
      · exact .inr ⟨a, c2, e, n2.sameBut hs fun q => hy (z.cinj y x c (q ▸ e) hc)⟩
    · intro y c2 e
      by_cases q : c2 = c
      · subst q; exact ⟨_, n'⟩
      · obtain ⟨_, ⟨v2, n2⟩, _⟩ := z.cell y c2 e
        exact ⟨v2, n2.sameBut hs q⟩

theorem FSt.put_val {x : Str} {v : Value} {xv : V} {h' : Heap} {B : Addr} (z : FSt X h0 G0 env Γ oa G h) (s : Stored X h0 G env x v h h' B) (r : Rel G v xv) : FSt X h0 G0 env (Γ.put x (.val xv)) oa G h' where
  leh := z.leh.chg s.nB s.chg
  l0 := z.l0
  sub := z.sub.chg s.fB s.chg
  grow := z.grow
  ns := s.ns
  fL := z.fL
  nL := z.nL
  cell := fun y c e => let ⟨a, _, b⟩ := z.cell y c e; ⟨a, s.cell y c e, b⟩
  cinj := z.cinj
  val := fun y u e => by
    rw [find_put] at e
    split at e
    · rename_i q; cases e; subst q; exact ⟨v, s.loc, r⟩
    · rename_i q; obtain ⟨u2, lo, r2⟩ := z.val y u e; exact ⟨u2, s.oth y u2 q lo, r2⟩
  own := fun y l e => by
    rw [find_put] at e
    split at e
    · cases e
    · rename_i q
      obtain ⟨vs, n, lo, ho, r2, f, nn⟩ := z.own y l e
      exact ⟨vs, n, s.oth y _ q lo, s.chg _ _ (s.lst _ _ _ ho) ho, r2, f, nn⟩
  inj := fun y y' l l' e e' => by
    rw [find_put] at e e'
    split at e
    · cases e
    · split at e'
      · cases e'
      · exact z.inj y y' l l' e e'

theorem FSt.put_own {x : Str} {a : Addr} {vs : List Value} {k : Nat} {l : List V} {h' : Heap} {B : Addr} (z : FSt X h0 G0 env Γ oa G h) (s : Stored X h0 G env x (.ref a) h h' B) (ha : h.get? a = some (listO vs k)) (r : RelL G vs l)
    (fa : h0 a = none) (na : ∀ o, G a ≠ some o) (hne : ∀ y l, Γ.find y = some (.own l) → oa y ≠ a) : FSt X h0 G0 env (Γ.put x (.own l)) (fun y => if y = x then a else oa y) G h' where
  leh := z.leh.chg s.nB s.chg
  l0 := z.l0
  sub := z.sub.chg s.fB s.chg
  grow := z.grow
  ns := s.ns
  fL := z.fL
  nL := z.nL
  cell := fun y c e => let ⟨a, _, b⟩ := z.cell y c e; ⟨a, s.cell y c e, b⟩
  cinj := z.cinj
  val := fun y u e => by
    rw [find_put] at e
    split at e
    · cases e
    · rename_i q; obtain ⟨u2, lo, r2⟩ := z.val y u e; exact ⟨u2, s.oth y u2 q lo, r2⟩
  own := fun y l' e => by
    rw [find_put] at e
    split at e
    · rename_i q
      cases e; subst q
      exact ⟨vs, k, by simpa using s.loc, by simpa using s.chg _ _ (s.lst _ _ _ ha) ha, r, by simpa using fa, by simpa using na⟩
    · rename_i q
      obtain ⟨vs, n, lo, ho, r2, f, nn⟩ := z.own y l' e
      simp only [q, if_false]
      exact ⟨vs, n, s.oth y _ q lo, s.chg _ _ (s.lst _ _ _ ho) ho, r2, f, nn⟩
  inj := fun y y' l1 l2 e e' h => by
    rw [find_put] at e e'
    by_cases q : y = x
    · by_cases q' : y' = x
      · rw [q, q']
      · rw [if_neg q'] at e'; simp only [q, q', if_true, if_false] at h; exact absurd h.symm (hne y' _ e')
    · by_cases q' : y' = x
      · rw [if_neg q] at e; simp only [q, q', if_true, if_false] at h; exact absurd h (hne y _ e)
      · rw [if_neg q] at e; rw [if_neg q'] at e'; simp only [q, q', if_false] at h; exact z.inj y y' _ _ e e' h

theorem FSt.upd_own {x : Str} {vs' : List Value} {k' : Nat} {l l' : List V} {h' : Heap} (z : FSt X h0 G0 env Γ oa G h) (hx : Γ.find x = some (.own l)) (c : Chg (oa x) h h') (ha : h'.get? (oa x) = some (listO vs' k')) (r : RelL G vs' l') :
    FSt X h0 G0 env (Γ.put x (.own l')) oa G h' := by
  obtain ⟨vs, n, lo, ho, r0, f, nn⟩ := z.own x l hx
  have lc : ∀ y u, Loc env h y u → Loc env h' y u := by
    rintro y u (⟨a, m2, n2, e⟩ | ⟨a, c2, e, n2⟩)
    · exact .inl ⟨a, m2, n2.extBut (b := oa x) c (fun q => ns_not_list n2 (q ▸ ho)), e⟩
    · obtain ⟨o, ho2, hd⟩ := id n2
      exact .inr ⟨a, c2, e, o, c _ _ (fun q => cell_not_list n2 (q ▸ ho)) ho2, hd⟩
  exact {
    leh := z.leh.chg nn c
    l0 := z.l0
    sub := z.sub.chg f c
    grow := z.grow
    ns := by obtain ⟨m, n2⟩ := z.ns; exact ⟨m, n2.extBut (b := oa x) c (fun q => ns_not_list n2 (q ▸ ho))⟩
    fL := z.fL
    nL := z.nL
    cell := fun y c2 e => by
      obtain ⟨a, ⟨v, n2⟩, b⟩ := z.cell y c2 e
      obtain ⟨o, ho2, hd⟩ := id n2
      exact ⟨a, ⟨v, o, c _ _ (fun q => cell_not_list n2 (q ▸ ho)) ho2, hd⟩, b⟩
    cinj := z.cinj
    val := fun y u e => by
      rw [find_put] at e
      split at e
      · cases e
      · obtain ⟨u2, lo, r2⟩ := z.val y u e; exact ⟨u2, lc _ _ lo, r2⟩
    own := fun y l2 e => by
      rw [find_put] at e
      split at e
      · rename_i q; cases e; subst q; exact ⟨vs', k', lc _ _ lo, ha, r, f, nn⟩
      · rename_i q
        obtain ⟨vs2, n2, lo2, ho2, r2, f2, nn2⟩ := z.own y l2 e
        exact ⟨vs2, n2, lc _ _ lo2, c _ _ (fun h => q (z.inj y x _ _ e hx h)) ho2, r2, f2, nn2⟩
    inj := fun y y' l1 l2 e e' h => by
      rw [find_put] at e e'
      split at e
      · rename_i q
        split at e'
        · rename_i q'; rw [q, q']
        · rw [q] at h ⊢; exact z.inj x y' _ _ hx e' h
      · split at e'
        · rename_i q'; rw [q'] at h ⊢; exact z.inj y x _ _ e hx h
        · exact z.inj y y' _ _ e e' h }

noncomputable def froze (Γ : Ctx) : Ctx := Γ.map fun p => (p.1, match p.2 with | .own l => .val (.list l) | .val v => .val v)
theorem froze_find : ∀ (Γ : Ctx) (x : Str), (froze Γ).find x = (Γ.find x).map fun e => match e with | .own l => .val (.list l) | .val v => .val v
  | [], _ => rfl
  | p :: r, x => by
    have ih := froze_find r x
    show Ctx.find ((p.1, _) :: froze r) x = _
    unfold Ctx.find
    cases hs : sameN x p.1 with
    | true => simp only [hs, Option.map_some]
    | false => simp only [hs]; exact ih

theorem FSt.freeze (z : FSt X h0 G0 env Γ oa G h) : ∃ G', Rd env G' (froze Γ) h ∧ LeH G' h ∧ GrowB h0 G0 G' := by
  classical
  let P : Addr → Prop := fun a => ∃ x l, Γ.find x = some (.own l) ∧ oa x = a
  have up : ∀ a o, G a = some o → (fun a => if P a then h.get? a else G a) a = some o := fun a o e => by
    dsimp only
    rw [if_neg]
    · exact e
    · rintro ⟨x, l, hx, rfl⟩
      obtain ⟨vs, n, lo, ho, r, f, nn⟩ := z.own x l hx
      exact nn o e
  refine ⟨fun a => if P a then h.get? a else G a, fun x e he => ?_, fun a o e => ?_, fun a o e => up a o (z.grow.up a o e), fun a o e => ?_⟩
  · rw [froze_find] at he
    cases hx : Γ.find x with
    | none => rw [hx] at he; cases he
    | some e' =>
      rw [hx] at he; cases he
      cases e' with
      | val v => obtain ⟨u, lo, r⟩ := z.val x v hx; exact ⟨u, lo, Rel.mono up r⟩
      | own l =>
        obtain ⟨vs, n, lo, ho, r, f, nn⟩ := z.own x l hx
        exact ⟨_, lo, .list _ vs n l (by show (if P (oa x) then h.get? (oa x) else G (oa x)) = _; rw [if_pos ⟨x, l, hx, rfl⟩]; exact ho) (RelL.mono up r)⟩
  · replace e : (if P a then h.get? a else G a) = some o := e
    split at e
    · rename_i q
      obtain ⟨x, l, hx, rfl⟩ := q
      obtain ⟨vs, n, lo, ho, r, f, nn⟩ := z.own x l hx
      refine ⟨e, ?_⟩
      rw [ho] at e; cases e
      exact (fun ⟨_, _, q⟩ => (nomatch q))
    · exact z.leh a o e
  · replace e : (if P a then h.get? a else G a) = some o := e
    split at e
    · rename_i q
      obtain ⟨x, l, hx, rfl⟩ := q
      obtain ⟨vs, n, lo, ho, r, f, nn⟩ := z.own x l hx
      exact .inr f
    · exact z.grow.new a o e
end
end Mine

-- part E18
open PySem
set_option Elab.async false
set_option maxRecDepth 100000
set_option linter.unusedVariables false
namespace Mine

inductive Out
  | next (Γ : Ctx)
  | brk (Γ : Ctx)
  | cont (Γ : Ctx)
  | ret (v : V)

noncomputable def vAug (op : Operator) (a b : V) (K : V → Prop) : Prop :=
  match op with
  | .Add => opt2 a.int? (fun i => optP b.int? fun j => K (.int (i + j))) (optP a.str? fun x => optP b.str? fun y => x.length + y.length ≤ 16777216 ∧ K (.str (x ++ y)))
  | .Sub => optP a.int? fun i => optP b.int? fun j => K (.int (i - j))
  | .BitXor => optP a.int? fun i => optP b.int? fun j => K (.int (Builtin.bitXor i j))
  | .BitOr => optP a.int? fun i => optP b.int? fun j => K (.int (Builtin.bitOr i j))
  | .LShift => optP a.int? fun i => optP b.int? fun j => (0 ≤ j ∧ j ≤ 1000000 ∧ i.natAbs < 2 ^ 64) ∧ K (.int (i * 2 ^ j.toNat))
  | _ => False

noncomputable def putAll (Γ : Ctx) : Ctx → Ctx
  | [] => Γ
  | p :: r => putAll (Γ.put p.1 p.2) r

noncomputable def vFor (body : Ctx → (Out → Prop) → Prop) (els : Ctx → (Out → Prop) → Prop) (target : Expr) : List V → Ctx → (Out → Prop) → Prop
  | [], Γ, K => els Γ K
  | it :: r, Γ, K => match binds target it with
    | some b => body (putAll Γ b) fun out => match out with
      | .next Γ' => vFor body els target r Γ' K
      | .cont Γ' => vFor body els target r Γ' K
      | .brk Γ' => K (.next Γ')
      | .ret v => K (.ret v)
    | none => False
noncomputable def vWhile (test : Ctx → (Bool → Prop) → Prop) (body : Ctx → (Out → Prop) → Prop) : Nat → Ctx → (Out → Prop) → Prop
  | 0, _, _ => False
  | n + 1, Γ, K => test Γ fun b => (b = true → body Γ fun out => match out with
      | .next Γ' => vWhile test body n Γ' K
      | .cont Γ' => vWhile test body n Γ' K
      | .brk Γ' => K (.next Γ')
      | .ret v => K (.ret v)) ∧ (b = false → K (.next Γ))

noncomputable def appendS : Str := Str.ofString "append"
noncomputable def popS : Str := Str.ofString "pop"
noncomputable def zipS : Str := Str.ofString "zip"

noncomputable def asLst : Expr → Option (List Expr)
  | .List es _ => some es
  | _ => none
noncomputable def asBin : Expr → Option (Expr × Operator × Expr)
  | .BinOp a op b _ => some (a, op, b)
  | _ => none
noncomputable def asSub : Expr → Option (Expr × Expr)
  | .Subscript v i _ => some (v, i)
  | _ => none
theorem asLst_eq {e : Expr} {x : List Expr} (h : asLst e = some x) : ∃ p, e = .List x p := by
  cases e with
  | List y p => cases h; exact ⟨p, rfl⟩
  | _ => exact no_some h
theorem asBin_eq {e : Expr} {x : Expr × Operator × Expr} (h : asBin e = some x) : ∃ p, e = .BinOp x.1 x.2.1 x.2.2 p := by
  cases e with
  | BinOp a op b p => cases h; exact ⟨p, rfl⟩
  | _ => exact no_some h
theorem asSub_eq {e : Expr} {x : Expr × Expr} (h : asSub e = some x) : ∃ p, e = .Subscript x.1 x.2 p := by
  cases e with
  | Subscript a b p => cases h; exact ⟨p, rfl⟩
  | _ => exact no_some h
noncomputable def isMult : Operator → Bool
  | .Mult => true
  | _ => false
theorem isMult_eq {op : Operator} (h : isMult op = true) : op = .Mult := by
  cases op <;> first | rfl | cases h

noncomputable def vCopy (P : Par) (sc : Names) (value : Expr) (Γ : Ctx) (K : List V → Prop) : Prop :=
  optP (asCall value) fun (f, args, kws, _) => optP (asNm f) fun f => optP (one args) fun a => optP (asNm a) fun y =>
    chk (kws.isEmpty && (!sameN f debugS && (isGI (kindN sc f) && (!sameN y debugS && isLC (kindN sc y))))) (P.gl f = some (.type "list") ∧
      opt2 (ownL Γ y) (fun l => l.length ≤ 16777216 ∧ K l) (optP (valL Γ y) fun v => optP v.list? fun l => l.length ≤ 16777216 ∧ K l))
noncomputable def vFresh (P : Par) (sc : Names) (f : Expr → (V → Prop) → Prop) (value : Expr) (Γ : Ctx) (K : List V → Prop) : Prop :=
  opt2 (asLst value) (fun es => chk (noStars es) (vList f es fun vs => chk (Nat.ble vs.length 16777216) (K vs)))
  (opt2 (asBin value) (fun (a, op, r) => chk (isMult op) (optP (asLst a) fun es => chk (noStars es) (vList f es fun vs => chk (Nat.ble vs.length 1000) (f r fun m => optP m.int? fun j => (0 ≤ j ∧ j ≤ 1000) ∧ K (List.replicate j.toNat vs).flatten))))
  (vCopy P sc value Γ K)
  )
noncomputable def popOf (Γ : Ctx) (arg : Expr) : Option (Str × List V × Expr × Pos × Pos) :=
  (asCall arg).bind fun (f, args, kws, pos) => (asAtt f).bind fun (o, name, apos) => (asNm o).bind fun y => (one args).bind fun ie => (ownL Γ y).bind fun l => match sameN name popS && kws.isEmpty with
    | true => some (y, l, ie, apos, pos)
    | false => none
noncomputable def zipOf (iter : Expr) : Option (Str × Expr × Expr) :=
  (asCall iter).bind fun (f, args, kws, _) => (asNm f).bind fun f => (two args).bind fun (a, b) => match sameN f zipS && kws.isEmpty with
    | true => some (f, a, b)
    | false => none
noncomputable def zipV (xs ys : List V) : List V := List.zipWith (fun u v => V.tup [u, v]) xs ys
noncomputable def zipItems (x y : V) (K : List V → Prop) : Prop :=
  optP x.rng? fun (lo, hi) => optP y.list? fun l => ((-(2 ^ 61) ≤ lo ∧ lo < 2 ^ 61 ∧ hi - lo ≤ 16777216 ∧ hi < 2 ^ 61 ∧ -(2 ^ 61) ≤ hi) ∧ l.length ≤ 16777216) ∧ K (zipV ((List.range (hi - lo).toNat).map fun k => V.int (lo + (k : Nat))) l)
noncomputable def noTuple : Expr → Bool
  | .Tuple .. => false
  | .ListComp .. => false
  | .SetComp .. => false
  | .DictComp .. => false
  | _ => true
noncomputable def tupT : Expr → Bool
  | .Tuple .. => true
  | _ => false
noncomputable def lcs (sc : Names) (xs : List Str) : Bool := xs.all fun x => isLC (kindN sc x)
noncomputable def noSlice : Expr → Bool
  | .Slice .. => false
  | _ => true
noncomputable def inL (xs : List Str) (x : Str) : Bool := xs.any (sameN x)

noncomputable def vSetItem (f : Expr → (V → Prop) → Prop) (sc : Names) (x : Str) (i value : Expr) (Γ : Ctx) (K : Out → Prop) : Prop :=
  chk (noSlice i && (noTuple value && (!sameN x debugS && isLC (kindN sc x)))) (optP (ownL Γ x) fun l => f value fun v => f i fun iv => optP iv.int? fun j =>
    (0 ≤ j ∧ j < l.length ∧ l.length ≤ 16777216) ∧ K (.next (Γ.put x (.own (l.set j.toNat v)))))
noncomputable def vAssign (P : Par) (ow : List Str) (f : Expr → (V → Prop) → Prop) (sc : Names) (target value : Expr) (Γ : Ctx) (K : Out → Prop) : Prop :=
  opt2 (asNm target) (fun x => chk (isLC (kindN sc x)) (match inL ow x with
      | true => vFresh P sc f value Γ fun l => K (.next (Γ.put x (.own l)))
      | false => f value fun v => K (.next (Γ.put x (.val v)))))
    (opt2 (asSub target) (fun (a, i) => optP (asNm a) fun x => vSetItem f sc x i value Γ K)
      (chk (tupT target && (noTuple value && lcs sc (targets target))) (f value fun v => optP (binds target v) fun b => K (.next (putAll Γ b)))))
noncomputable def vAugItem (f : Expr → (V → Prop) → Prop) (sc : Names) (op : Operator) (x : Str) (i value : Expr) (Γ : Ctx) (K : Out → Prop) : Prop :=
  chk (noSlice i && (!sameN x debugS && isLC (kindN sc x))) (optP (ownL Γ x) fun l => f i fun iv => optP iv.int? fun j =>
    (0 ≤ j ∧ j < l.length ∧ l.length ≤ 16777216) ∧ ∃ old, l[j.toNat]? = some old ∧ f value fun v => vAug op old v fun r => K (.next (Γ.put x (.own (l.set j.toNat r)))))
noncomputable def vAugSt (f : Expr → (V → Prop) → Prop) (sc : Names) (target : Expr) (op : Operator) (value : Expr) (Γ : Ctx) (K : Out → Prop) : Prop :=
  opt2 (asNm target) (fun x => chk (isLC (kindN sc x)) (optP (valL Γ x) fun old => f value fun v => vAug op old v fun r => K (.next (Γ.put x (.val r)))))
    (optP (asSub target) fun (a, i) => optP (asNm a) fun x => vAugItem f sc op x i value Γ K)
noncomputable def vPush (f : Expr → (V → Prop) → Prop) (sc : Names) (x : Str) (l : List V) (arg : Expr) (Γ : Ctx) (K : Out → Prop) : Prop :=
  opt2 (popOf Γ arg) (fun (y, l2, ie, apos2, pos2) => chk (fewOk [ie] apos2 pos2 && (!sameN y debugS && (isLC (kindN sc y) && !sameN x y))) (f ie fun iv => optP iv.int? fun j =>
      (0 ≤ j ∧ j < l2.length ∧ l2.length ≤ 16777216 ∧ l.length ≤ 16777215) ∧ ∃ v, l2[j.toNat]? = some v ∧ K (.next ((Γ.put y (.own (l2.eraseIdx j.toNat))).put x (.own (l ++ [v]))))))
    (f arg fun v => l.length ≤ 16777215 ∧ K (.next (Γ.put x (.own (l ++ [v])))))
noncomputable def vExprSt (f : Expr → (V → Prop) → Prop) (sc : Names) (e : Expr) (Γ : Ctx) (K : Out → Prop) : Prop :=
  optP (asCall e) fun (g, args, kws, pos) => optP (asAtt g) fun (o, name, apos) => optP (asNm o) fun x => optP (one args) fun arg =>
    chk (kws.isEmpty && (fewOk [arg] apos pos && (!sameN x debugS && isLC (kindN sc x)))) (optP (ownL Γ x) fun l => match sameN name appendS with
      | true => vPush f sc x l arg Γ K
      | false => False)
noncomputable def zipOk (P : Par) (sc : Names) (f : Str) (a b target : Expr) : Prop := (sameN f debugS = false ∧ kindN sc f = some .globalImplicit ∧ P.gl f = some (.type "zip")) ∧ isStarE a = false ∧ isStarE b = false ∧ tupT target = true

mutual
noncomputable def vs (P : Par) (ow : List Str) : Nat → Names → Stmt → Ctx → (Out → Prop) → Prop
  | 0, _, _, _, _ => False
  | n + 1, sc, s, Γ, K => match s with
    | .Assign ts value _ => optP (one ts) fun target => vAssign P ow (fun e K => ve P n sc e Γ K) sc target value Γ K
    | .AugAssign target op value _ => vAugSt (fun e K => ve P n sc e Γ K) sc target op value Γ K
    | .Expr e _ => vExprSt (fun e K => ve P n sc e Γ K) sc e Γ K
    | .If test body orelse _ => vt P n sc test Γ fun b => (b = true → vss P ow n sc body Γ K) ∧ (b = false → vss P ow n sc orelse Γ K)
    | .While test body orelse _ => chk orelse.isEmpty (∃ m, vWhile (fun Γ K => vt P n sc test Γ K) (fun Γ K => vss P ow n sc body Γ K) m Γ K)
    | .For target iter body orelse _ => chk (lcs sc (targets target)) (opt2 (zipOf iter)
        (fun (f, a, b) => zipOk P sc f a b target ∧ ve P n sc a Γ fun x => ve P n sc b Γ fun y => zipItems x y fun its =>
          vFor (fun Γ K => vss P ow n sc body Γ K) (fun Γ K => vss P ow n sc orelse Γ K) target its Γ K)
        (ve P n sc iter Γ fun x => vItems x fun xs => vFor (fun Γ K => vss P ow n sc body Γ K) (fun Γ K => vss P ow n sc orelse Γ K) target xs Γ K))
    | .Return e _ => optP e fun e => ve P n sc e (froze Γ) fun v => K (.ret v)
    | .Break _ => K (.brk Γ)
    | .Pass _ => K (.next Γ)
    | _ => False
noncomputable def vss (P : Par) (ow : List Str) : Nat → Names → List Stmt → Ctx → (Out → Prop) → Prop
  | 0, _, _, _, _ => False
  | n + 1, sc, ss, Γ, K => match ss with
    | [] => K (.next Γ)
    | s :: r => vs P ow n sc s Γ fun out => match out with
      | .next Γ' => vss P ow n sc r Γ' K
      | o => K o
end
end Mine

-- part E19
open PySem
set_option Elab.async false
set_option maxRecDepth 100000
set_option linter.unusedVariables false
namespace Mine

inductive NQ (X : Fix) (h0 : GMap) (G0 : GMap) (env : Env) (G : GMap) (K : Ctx → Prop) (h' : Heap) : Prop
  | mk (Γ' : Ctx) (oa' : Str → Addr) (G' : GMap) (up : ∀ a o, G a = some o → G' a = some o) (z : FSt X h0 G0 env Γ' oa' G' h') (k : K Γ') : NQ X h0 G0 env G K h'
inductive RQ (X : Fix) (h0 : GMap) (G0 : GMap) (K : V → Prop) (v : Value) (h' : Heap) : Prop
  | mk (x : V) (G' : GMap) (s : SubB X h0 h') (g : GrowB h0 G0 G') (l : LeH G' h') (r : Rel G' v x) (k : K x) : RQ X h0 G0 K v h'
noncomputable def SPost (X : Fix) (h0 : GMap) (G0 : GMap) (env : Env) (G : GMap) (K : Out → Prop) (fl : Flow) (h' : Heap) : Prop :=
  match fl with
  | .next => NQ X h0 G0 env G (fun Γ' => K (.next Γ')) h'
  | .brk => NQ X h0 G0 env G (fun Γ' => K (.brk Γ')) h'
  | .cont => NQ X h0 G0 env G (fun Γ' => K (.cont Γ')) h'
  | .ret v => RQ X h0 G0 (fun x => K (.ret x)) v h'

section
variable {prog : Program} {w : World} {A : Around} {X : Fix} {h : Heap} {h0 : GMap} {G0 G : GMap} {env : Env} {Γ : Ctx} {oa : Str → Addr} {ok : Around → Heap → Prop} {sc : Names} {K : Out → Prop} {P : Par} {n : Nat}

theorem SPost.up {G' : GMap} {fl : Flow} {h' : Heap} (u : ∀ a o, G a = some o → G' a = some o) (p : SPost X h0 G0 env G' K fl h') : SPost X h0 G0 env G K fl h' := by
  cases fl with
  | next => obtain ⟨a, b, c, d, z, e⟩ := p; exact ⟨a, b, c, fun x o q => d x o (u x o q), z, e⟩
  | brk => obtain ⟨a, b, c, d, z, e⟩ := p; exact ⟨a, b, c, fun x o q => d x o (u x o q), z, e⟩
  | cont => obtain ⟨a, b, c, d, z, e⟩ := p; exact ⟨a, b, c, fun x o q => d x o (u x o q), z, e⟩
  | ret v => exact p

theorem FSt.aside {h' : Heap} {C : Addr} (z : FSt X h0 G0 env Γ oa G h) (c : Chg C h h') (fC : h0 C = none) (nC : ∀ o, G C ≠ some o) (neL : env.locals ≠ C) (neC : ∀ x c, env.cells.lookup x = some c → c ≠ C)
    (neO : ∀ x l, Γ.find x = some (.own l) → oa x ≠ C) : FSt X h0 G0 env Γ oa G h' := by
  have lc : ∀ y u, Loc env h y u → Loc env h' y u := by
    rintro y u (⟨a, m2, n2, e⟩ | ⟨a, c2, e, n2⟩)
    · exact .inl ⟨a, m2, n2.extBut (b := C) c neL, e⟩
    · obtain ⟨o, ho2, hd⟩ := id n2
      exact .inr ⟨a, c2, e, o, c _ _ (neC _ _ e) ho2, hd⟩
  exact {
    leh := z.leh.chg nC c
    l0 := z.l0
    sub := z.sub.chg fC c
    grow := z.grow
    ns := z.ns.imp fun _ n2 => n2.extBut (b := C) c neL
    fL := z.fL
    nL := z.nL
    cell := fun y c2 e => by
      obtain ⟨a, ⟨v, n2⟩, b⟩ := z.cell y c2 e
      obtain ⟨o, ho2, hd⟩ := id n2
      exact ⟨a, ⟨v, o, c _ _ (neC _ _ e) ho2, hd⟩, b⟩
    cinj := z.cinj
    val := fun y u e => let ⟨u2, lo, r2⟩ := z.val y u e; ⟨u2, lc _ _ lo, r2⟩
    own := fun y l2 e => let ⟨vs2, n2, lo2, ho2, r2, f2, nn2⟩ := z.own y l2 e; ⟨vs2, n2, lc _ _ lo2, c _ _ (neO _ _ e) ho2, r2, f2, nn2⟩
    inj := z.inj }

theorem FSt.fresh {C : Addr} (z : FSt X h0 G0 env Γ oa G h) (f : h.get? C = none) : h0 C = none ∧ (∀ o, G C ≠ some o) ∧ env.locals ≠ C ∧ (∀ x c, env.cells.lookup x = some c → c ≠ C) ∧ (∀ x l, Γ.find x = some (.own l) → oa x ≠ C) := by
  refine ⟨z.sub.none f, fun o e => ?_, ?_, fun x c e q => ?_, fun x l e q => ?_⟩
  · rw [(z.leh _ _ e).1] at f; cases f
  · rintro rfl; obtain ⟨m, o, _, _, ho, _⟩ := z.ns; rw [ho] at f; cases f
  · subst q; obtain ⟨_, ⟨v, o, ho, _⟩, _⟩ := z.cell _ _ e; rw [ho] at f; cases f
  · subst q; obtain ⟨vs, n, _, ho, _, _, _⟩ := z.own _ _ e; rw [ho] at f; cases f

theorem assign_plain {x : Str} {pos' pos : Pos} {value : Expr} (oe : EnvOk sc env) (z : FSt X h0 G0 env Γ oa G h) (hk : isLC (kindN sc x) = true) (hs : swapsWith value (some (.Name x pos')) pos.line env = pure false)
    (y : Yl (model prog w) X A (eval value env) G (fun v => K (.next (Γ.put x (.val v)))) h) : wpH (model prog w) X A (exec (.Assign [.Name x pos'] value pos) env) (SPost X h0 G0 env G K) h :=
  wpH.of fun tk htk => wpAny_Assign_Name (y.use htk fun v h1 tk1 l1 ⟨s, xv, G1, g, le, r, k⟩ =>
    have z1 := z.step s g le
    (store_sound (Q := fun _ h' => FSt X h0 G0 env (Γ.put x (.val xv)) oa G1 h') oe z1 hk fun h' B st => z1.put_val st r).use l1 fun _ h2 tk2 _ z2 => ⟨h2, tk2, rfl, _, oa, G1, g.up, z2, k⟩) hs

theorem assign_comp {x : Str} {pos' pos pos2 : Pos} {scope : Scope} {target elt iter : Expr} {ifs : List Expr} (O : OkAt X ok) (IH : Ih prog w X A ok P n) (oe : EnvOk sc env) (o : ok A h) (z : FSt X h0 G0 env Γ oa G h) (hk : isLC (kindN sc x) = true)
    (hs : swapsWith (.ListComp elt [⟨target, iter, ifs, 0⟩] scope pos2) (some (.Name x pos')) pos.line env = pure true) (so : scopeOk sc scope target = true)
    (k : ve P n sc iter Γ fun x => vItems x fun items => vMap (vTurn P n sc scope target elt ifs Γ) items [] fun out => K (.next (Γ.put x_ (.val (.list out))))) (hx : x_ = x) :
    wpH (model prog w) X A (exec (.Assign [.Name x pos'] (.ListComp elt [⟨target, iter, ifs, 0⟩] scope pos2) pos) env) (SPost X h0 G0 env G K) h := by
  subst hx
  rw [exec_Assign_Name_used _ _ _ _ hs]
  refine wpH.at ⟨fun tk htk => wpAny_bind ?_⟩
  show wpAny _ A (do let _ ← comprehension (.ListComp elt [⟨target, iter, ifs, 0⟩] scope pos2) scope env _ (newList []) false (eval iter env) (some (assign (.Name x_ pos') env))) _ _ _
  refine wpAny_bind ?_
  refine wpAny_mono (comp_core (use := some (assign (.Name x_ pos') env)) (Q := fun _ s' => HP X (SPost X h0 G0 env G K) .next s') O IH oe so z.rd z.leh o htk k fun D C H tk' G' ys c out m l' s g le fD fC nDC ns eD r nC nD k => ?_)
    (fun _ s' q => wpAny_pure (wpAny_pure q)) fun _ _ q => q
  have hD : H.get? D = some (listO ys c) := eD
  have up2 : ∀ a o, G' a = some o → (G'.add D (listO ys c)) a = some o := fun a o e => by
    have : a ≠ D := fun q => nD o (q ▸ e)
    simp [GMap.add, this, e]
  have g2 : Grow h G (G'.add D (listO ys c)) := ⟨fun a o e => up2 a o (g.up a o e), fun a o e => by
    unfold GMap.add at e
    split at e
    · rename_i q; subst q; exact .inr fD
    · exact g.new a o e⟩
  have z1 := z.step s g2 (le.add hD)
  obtain ⟨f1, f2, f3, f4, f5⟩ := z.fresh fC
  show wpAny _ A (assign (.Name x_ pos') env (.ref D)) _ _ _
  refine wpAny_assign_Name ?_
  refine (store_sound (Q := fun _ h' => FSt X h0 G0 env (Γ.put x_ (.val (.list out))) oa (G'.add D (listO ys c)) h' ∧ h'.Ns C m) oe z1 hk fun h' B st => ⟨z1.put_val st (.list D ys c out (GMap.add_self ..) (RelL.mono up2 r)), ?_⟩).use l' fun _ h2 tk2 l2 ⟨z2, ns2⟩ => ?_
  · refine ns.extBut (b := B) st.chg ?_
    rintro rfl
    rcases st.is with q | ⟨y, q⟩
    · exact f3 q.symm
    · exact f4 _ _ q rfl
  · refine ⟨m, ns2, fun h3 hs3 => ⟨h3, tk2, l2, rfl, _, oa, _, g2.up, z2.aside (C := C) hs3.extBut f1 ?_ f3 f4 ?_, k⟩⟩
    · intro o e
      unfold GMap.add at e
      split at e
      · rename_i q; exact nDC q.symm
      · exact nC o e
    · intro y l e
      rw [find_put] at e
      split at e
      · cases e
      · exact f5 y l e

theorem own_new {x : Str} {a : Addr} {vs : List Value} {k : Nat} {l : List V} {h1 : Heap} {G1 : GMap} {Q : Unit → Heap → Prop} (oe : EnvOk sc env) (z : FSt X h0 G0 env Γ oa G h) (hk : isLC (kindN sc x) = true)
    (s : Sub X h h1) (g : Grow h G G1) (le : LeH G1 h1) (fa : h.get? a = none) (na : ∀ o, G1 a ≠ some o) (ha : h1.get? a = some (listO vs k)) (r : RelL G1 vs l)
    (q : ∀ h2 oa', FSt X h0 G0 env (Γ.put x (.own l)) oa' G1 h2 → Q () h2) : wpH (model prog w) X A (storeName env x (.ref a)) Q h1 := by
  obtain ⟨f1, f2, f3, f4, f5⟩ := z.fresh fa
  have z1 := z.step s g le
  exact store_sound oe z1 hk fun h' B st => q h' _ (z1.put_own st ha r f1 na f5)

inductive OwnQ (X : Fix) (G : GMap) (h : Heap) (K : List V → Prop) (v : Value) (h1 : Heap) : Prop
  | mk (a : Addr) (vs : List Value) (k : Nat) (l : List V) (G1 : GMap) (e : v = .ref a) (s : Sub X h h1) (g : Grow h G G1) (le : LeH G1 h1) (f : h.get? a = none) (na : ∀ o, G1 a ≠ some o) (ea : h1.get? a = some (listO vs k)) (r : RelL G1 vs l) (q : K l) : OwnQ X G h K v h1
theorem assign_own {x : Str} {pos' pos : Pos} {value : Expr} {l : V → Prop} (oe : EnvOk sc env) (z : FSt X h0 G0 env Γ oa G h) (hk : isLC (kindN sc x) = true) (hs : swapsWith value (some (.Name x pos')) pos.line env = pure false)
    (y : wpH (model prog w) X A (eval value env) (OwnQ X G h fun l => K (.next (Γ.put x (.own l)))) h) :
    wpH (model prog w) X A (exec (.Assign [.Name x pos'] value pos) env) (SPost X h0 G0 env G K) h :=
  wpH.of fun tk htk => wpAny_Assign_Name (y.use htk fun v h1 tk1 l1 ⟨a, vs, k, l, G1, e, s, g, le, fa, na, ha, r, kk⟩ => by
    subst e
    exact (own_new (Q := fun _ h' => SPost X h0 G0 env G K .next h') oe z hk s g le fa na ha r fun h2 oa' z2 => ⟨_, oa', G1, g.up, z2, kk⟩).use l1 fun _ h2 tk2 _ q => ⟨h2, tk2, rfl, q⟩) hs

theorem fresh_list {es : List Expr} {p : Pos} {f : Expr → (V → Prop) → Prop} {K : List V → Prop} (O : OkAt X ok) (S : SndE prog w X A env Γ ok f) (rd : Rd env G Γ h) (le : LeH G h) (o : ok A h) (hs : es.all (fun e => !isStarE e) = true)
    (k : vList f es fun vs => chk (Nat.ble vs.length 16777216) (K vs)) :
    wpH (model prog w) X A (eval (.List es p) env) (OwnQ X G h K) h := by
  refine wpH.of fun tk htk => wpAny_List_spliced ((list_sound (pos := p) O S es _ G h hs rd le o k).use htk fun vs h' tk' l' ⟨s, xs, G', g, le', r, kb⟩ => ?_)
  obtain ⟨kb, kk⟩ := chk_and kb
  have hb : xs.length ≤ 16777216 := Nat.le_of_ble_eq_true kb
  refine ⟨by rw [line_eq, r.length]; exact hb, _, tk', rfl, h'.objs.size, vs, 0, xs, G', rfl, s.trans (Sub.push _ _), g, le'.sub (X := X) (Sub.push _ _), s.none (get_size h'), fun o e => ?_, Heap.get?_push_size _ rfl, r, kk⟩
  have := (le' _ _ e).1
  rw [get_size h'] at this; cases this

theorem fresh_mul {es : List Expr} {p p2 : Pos} {re : Expr} {f : Expr → (V → Prop) → Prop} {K : List V → Prop} (O : OkAt X ok) (S : SndE prog w X A env Γ ok f) (rd : Rd env G Γ h) (le : LeH G h) (o : ok A h) (hs : es.all (fun e => !isStarE e) = true)
    (k : vList f es fun vs => chk (Nat.ble vs.length 1000) (f re fun m => optP m.int? fun j => (0 ≤ j ∧ j ≤ 1000) ∧ K (List.replicate j.toNat vs).flatten)) :
    wpH (model prog w) X A (eval (.BinOp (.List es p) .Mult re p2) env) (OwnQ X G h K) h := by
  rw [arm_eval_BinOp]
  refine wpH.bind (wpH.of fun tk htk => wpAny_List_spliced ((list_sound (pos := p) O S es _ G h hs rd le o k).use htk fun vs h' tk' l' ⟨s, xs, G', g, le', r, kb⟩ => ?_))
  obtain ⟨kb, kk⟩ := chk_and kb
  have hb : xs.length ≤ 1000 := Nat.le_of_ble_eq_true kb
  refine ⟨by rw [line_eq, r.length]; omega, _, tk', rfl, ?_⟩
  have s2 : Sub X h (h'.push (listO vs 0)) := s.trans (Sub.push _ _)
  have e2 : (h'.push (listO vs 0)).get? h'.objs.size = some (listO vs 0) := Heap.get?_push_size _ rfl
  refine wpH.bind (wpH.holding (wpH.mono (S re _ G' (h'.push (listO vs 0)) (rd.mono (s2) g) (le'.sub (X := X) (Sub.push _ _)) (O.keep _ _ _ o s2) kk) fun b h3 ⟨s3, y, G3, g3, le3, r3, k3⟩ => ?_))
  · obtain ⟨j, t, rfl, ⟨j0, j1⟩, k3⟩ := intP k3 r3
    have e3 : h3.get? h'.objs.size = some (listO vs 0) := s3.get e2 (fun ⟨_, _, q⟩ => (nomatch q))
    refine wpH.at (wpH.operate (mulL e3 j0 (by rw [r.length]; exact hb) j1 fun h4 s4 e4 => ?_))
    refine ⟨_, _, 0, _, G3, rfl, (s2.trans s3).trans s4, (g.trans s (⟨fun a o e => g3.up a o e, fun a o e => (g3.new a o e).elim .inl fun q => .inr ((Sub.push (X := X) h' (listO vs 0)).none q)⟩ : Grow h' G' G3)), le3.sub s4, (s2.trans s3).none (get_size h3), fun o e => ?_, e4, relL_rep (RelL.mono g3.up r) _, k3⟩
    have := (le3 _ _ e).1
    rw [get_size h3] at this; cases this

theorem fresh_copy {f y : Str} {pf py pos : Pos} {K : List V → Prop} (O : OkAt X ok) (PO : ParOk prog w X ok P) (oe : EnvOk sc env) (z : FSt X h0 G0 env Γ oa G h) (o : ok A h)
    (c1 : sameN f debugS = false) (c2 : kindN sc f = some .globalImplicit) (c3 : P.gl f = some (.type "list")) (c4 : sameN y debugS = false) (c5 : isLC (kindN sc y) = true)
    (k : opt2 (ownL Γ y) (fun l => l.length ≤ 16777216 ∧ K l) (optP (valL Γ y) fun v => optP v.list? fun l => l.length ≤ 16777216 ∧ K l)) :
    wpH (model prog w) X A (eval (.Call (.Name f pf) [.Name y py] [] pos) env) (OwnQ X G h K) h := by
  have key : ∃ a vs n l, Loc env h y (.ref a) ∧ h.get? a = some (listO vs n) ∧ RelL G vs l ∧ l.length ≤ 16777216 ∧ K l := by
    rcases opt2_or k with ⟨l, hy, k⟩ | ⟨_, k⟩
    · obtain ⟨vs, n, lo, ho, r, _, _⟩ := z.own y l (ownL_eq hy)
      exact ⟨_, vs, n, l, lo, ho, r, k⟩
    · obtain ⟨v, hy, k⟩ := optP_ex k
      obtain ⟨u, lo, r⟩ := z.val y _ (valL_eq hy)
      obtain ⟨l, a, vs, n, ev, e, rl, k⟩ := listP k r
      clear r
      subst ev
      have r := rl
      exact ⟨_, vs, n, l, lo, (z.leh _ _ e).1, r, k⟩
  obtain ⟨a, vs, n, l, lo, ho, r, hl, kk⟩ := key
  rw [arm_eval_Call_Name']
  refine wpH.bind (global_sound O PO o oe c1 c2 c3 ?_)
  refine wpH.of fun tk htk => PySem.callWith_type (back_plain (by rfl)) (evalArgs_of (by rfl) ?_)
  refine PyProof.Rows.args_cons ((name_sound (Q := fun v h' => v = .ref a ∧ h' = h) oe c4 (isLC_iff c5) lo ⟨rfl, rfl⟩).use htk fun v h' tk' l' ⟨e1, e2⟩ => ?_)
  subst e1; subst e2
  refine PyProof.Rows.args_nil ?_
  show wpAny _ A (call (.type "list") [.ref a]) _ _ _
  refine (listCopy (X := X) (Q := OwnQ X G h' K) ho (by rw [r.length]; exact hl) fun h1 c s e => ?_).use l' fun v h2 tk2 _ q => ⟨h2, tk2, rfl, q⟩
  exact ⟨_, vs, c, l, G, rfl, s, Grow.refl _ _, z.leh.sub s, get_size _, (z.fresh (get_size _)).2.1, e, r, kk⟩
end
end Mine

-- part E20
open PySem
set_option Elab.async false
set_option maxRecDepth 100000
set_option linter.unusedVariables false
namespace Mine

section
variable {prog : Program} {w : World} {A : Around} {X : Fix} {h : Heap} {h0 : GMap} {G0 G : GMap} {env : Env} {Γ : Ctx} {oa : Str → Addr} {ok : Around → Heap → Prop} {sc : Names} {K : Out → Prop} {P : Par} {n : Nat}

theorem setItem_own {l : Addr} {items : Array Value} {n : Nat} {k : Int} {t : Tok} {v : Value} {s : Shared} {E : Value → Shared → Prop} {Q : Unit → Shared → Prop} (hl : s.heap.get? l = some { cls := .type "list", dict := none, data := .seq items n, slots := #[] })
    (h0 : 0 ≤ k) (hfit : k < 2 ^ 63) (hn : k < items.size) (hq : Q () { s with heap := s.heap.update l (Obj.mapSeq (·.setIfInBounds k.toNat v)) }) : wpAny (model prog w) A (setItem (.ref l) (.int k t) v) Q E s := by
  have hT : s.TypeIs (.ref l) "list" := ⟨_, hl, rfl⟩
  unfold setItem
  try with_reducible refine wpAny_holding ?_
  first | refine wpAny_bind (wpAny_pure ?_) | skip
  refine wpAny_bind (wpAny_sequenceKey hT (by decide) ?_)
  refine wpAny_bind (wpAny_callSpecial?_slot (name := Str.ofString "__setitem__") hT slot_list_setitem
    (wpAny_call_entry slot_list_setitem hT entry_list_setitem ?_ (args_list_setitem _ _ _)))
  show wpAny _ _ (Builtin.List.listSubscript? (.int k t) >>= _) _ _ s
  refine wpAny_bind (wpAny_listSubscript_int (fitsIndex_of h0 hfit) ?_)
  clear hfit
  obtain ⟨j, rfl⟩ := Int.eq_ofNat_of_zero_le h0
  have hj : j < items.size := by omega
  have hx : items[j]? = some items[j] := Array.getElem?_eq_getElem hj
  show wpAny _ _ ((seqItemAt l j >>= fun r => pure (r.map (j, ·))) >>= _) _ _ s
  refine wpAny_bind (wpAny_bind (wpAny_seqItemAt hl rfl (wpAny_pure ?_)))
  rw [hx]
  show wpAny _ _ (setSeqItemAt l j v >>= _) _ _ s
  refine wpAny_bind (wpAny_setSeqItemAt hl rfl ?_)
  first
    | exact wpAny_bind (wpAny_pure (wpAny_pure ⟨.none, rfl, wpAny_pure hq⟩))
    | exact wpAny_pure ⟨.none, rfl, wpAny_pure hq⟩
theorem set_own {l : Addr} {vs : List Value} {k : Nat} {j : Nat} {t : Tok} {v : Value} {Q : Unit → Heap → Prop} (hl : h.get? l = some (listO vs k)) (hj : j < vs.length) (hb : vs.length ≤ 16777216)
    (hq : ∀ h' k', Chg l h h' → h'.get? l = some (listO (vs.set j v) k') → Q () h') : wpH (model prog w) X A (setItem (.ref l) (.int (j : Nat) t) v) Q h := by
  refine wpH.of fun tk _ => setItem_own (s := X.at h tk) hl (by omega) (by omega) (by rw [List.size_toArray]; omega) ?_
  refine ⟨_, tk, rfl, hq _ (if (vs.toArray.setIfInBounds j v).size == vs.toArray.size then k else k + 1) (fun b o hb e => (Heap.SameBut.update h l _).extBut b o hb e) ?_⟩
  have := IsL.update (h := h) (l := l) (items := vs.toArray) (n := k) hl (·.setIfInBounds j v)
  refine Eq.trans this ?_
  simp

theorem assign_gen {target : Expr} {it : V} {b : Ctx} {v : Value} (rm : Room A) (oe : EnvOk sc env) (z : FSt X h0 G0 env Γ oa G h) (hb : binds target it = some b) (ht : lcs sc (targets target) = true) (r : Rel G v it) :
    wpH (model prog w) X A (assign target env v) (fun _ h' => FSt X h0 G0 env (putAll Γ b) oa G h') h := by
  rcases binds_or hb with ⟨x, px, rfl, rfl⟩ | ⟨a, b', pa, pb, c, pos, u1, v1, rfl, rfl, hab, rfl⟩
  · have hk : isLC (kindN sc x) = true := (and2 ht).1
    refine ⟨fun tk htk => wpAny_assign_Name ?_⟩
    exact (store_sound (Q := fun _ h' => FSt X h0 G0 env (Γ.put x (.val it)) oa G h') oe z hk fun h' B st => z.put_val st r).run tk htk
  · have hk : isLC (kindN sc a) = true ∧ isLC (kindN sc b') = true := ⟨(and2 ht).1, (and2 (and2 ht).2).1⟩
    obtain ⟨t, vs, n, rfl, e, rs⟩ := r.tupI
    obtain ⟨x1, x2, rfl, r1, r2⟩ := rs.two
    refine ⟨fun tk htk => ?_⟩
    have htp : (X.at h tk).heap.IsTuple t #[x1, x2] := ⟨_, (z.leh _ _ e).1, rfl, n, rfl⟩
    refine wpAny_assign_Tuple rm.hh htp (by rfl) (by rfl) fun h' hx => ?_
    have s : Sub X h h' := .of fun b o q => hx b o (Nat.ne_of_lt (Heap.lt_size q)) q
    have z1 := z.step s (Grow.refl h G) (z.leh.sub s)
    show wpAny _ A (assignInOrder [assign (.Name a pa) env, assign (.Name b' pb) env] [x1, x2]) _ _ (X.at h' tk)
    have goal : wpH (model prog w) X A (assignInOrder [assign (.Name a pa) env, assign (.Name b' pb) env] [x1, x2]) (fun _ h2 => FSt X h0 G0 env ((Γ.put a (.val u1)).put b' (.val v1)) oa G h2) h' := by
      refine wpH.bind (wpH.holding ?_)
      refine ⟨fun tk htk => wpAny_assign_Name ?_⟩
      refine (store_sound (Q := fun _ h' => _) oe z1 hk.1 fun h2 B st => ?_).run tk htk
      have z2 := z1.put_val st r1
      refine wpH.bind (wpH.holding ?_)
      refine ⟨fun tk htk => wpAny_assign_Name ?_⟩
      refine (store_sound (Q := fun _ h' => _) oe z2 hk.2 fun h3 B st => ?_).run tk htk
      exact wpH.pure (z2.put_val st r2)
    exact goal.run tk htk

theorem swaps_plain {value : Expr} (h : noTuple value = true) (t : Option Expr) (ln : Nat) (env : Env) : swapsWith value t ln env = pure false := by
  cases value <;> first | rfl | cases h

theorem swaps_sole {value t : Expr} (h : noTuple value = true) (ln : Nat) (env : Env) : swapsWithSole [t] value ln env = pure false := swaps_plain h _ _ _
theorem assign_tuple {ts : List Expr} {c : Nat} {pt pos : Pos} {value : Expr} (rm : Room A) (oe : EnvOk sc env) (z : FSt X h0 G0 env Γ oa G h) (hv : noTuple value = true) (ht : lcs sc (targets (.Tuple ts c pt)) = true)
    (y : Yl (model prog w) X A (eval value env) G (fun v => optP (binds (.Tuple ts c pt) v) fun b => K (.next (putAll Γ b))) h) : wpH (model prog w) X A (exec (.Assign [.Tuple ts c pt] value pos) env) (SPost X h0 G0 env G K) h := by
  have hw : swappedStores [.Tuple ts c pt] value env = pure none := by
    cases value <;> first | rfl | cases hv
  refine wpH.of fun tk htk => wpAny_Assign_stores (y.use htk fun v h1 tk1 l1 ⟨s, xv, G1, g, le, r, k⟩ => ?_) (swaps_sole hv _ _) hw
  have z1 := z.step s g le
  obtain ⟨b, hb, k⟩ := optP_ex k
  show wpAny _ A (assign (.Tuple ts c pt) env v) _ _ _
  exact (assign_gen rm oe z1 hb ht r).use l1 fun _ h2 tk2 _ z2 => ⟨h2, tk2, rfl, _, oa, G1, g.up, z2, k⟩

theorem assign_sub {x : Str} {px ps pos : Pos} {i value : Expr} {l : List V} {f : Expr → (V → Prop) → Prop} (O : OkAt X ok) (S : SndE prog w X A env Γ ok f) (oe : EnvOk sc env) (z : FSt X h0 G0 env Γ oa G h) (o : ok A h)
    (c1 : noSlice i = true) (c2 : noTuple value = true) (c3 : sameN x debugS = false) (c4 : isLC (kindN sc x) = true) (hx : Γ.find x = some (.own l))
    (k : f value fun v => f i fun iv => optP iv.int? fun j => (0 ≤ j ∧ j < l.length ∧ l.length ≤ 16777216) ∧ K (.next (Γ.put x (.own (l.set j.toNat v))))) : wpH (model prog w) X A (exec (.Assign [.Subscript (.Name x px) i ps] value pos) env) (SPost X h0 G0 env G K) h := by
  refine wpH.of fun tk htk => wpAny_Assign_stores ((S value _ G h z.rd z.leh o k).use htk fun v h1 tk1 l1 ⟨s, xv, G1, g, le, r, k⟩ => ?_) (swaps_sole c2 _ _) (by cases value <;> rfl)
  have z1 := z.step s g le
  have o1 := O.keep _ _ _ o s
  obtain ⟨vs, n, lo, ho, rl, fa, na⟩ := z1.own x l hx
  show wpAny _ A (assign (.Subscript (.Name x px) i ps) env v) _ _ _
  have goal : wpH (model prog w) X A (assign (.Subscript (.Name x px) i ps) env v) (fun _ h' => SPost X h0 G0 env G K .next h') h1 := by
    rw [arm_assign_Subscript]
    refine wpH.bind (wpH.holding (name_sound oe c3 (isLC_iff c4) lo ?_))
    refine wpH.bind (wpH.holding (wpH.mono (S i _ G1 h1 z1.rd z1.leh o1 k) fun iv h2 ⟨s2, xi, G2, g2, le2, r2, k2⟩ => ?_))
    have z2 := z1.step s2 g2 le2
    · obtain ⟨j, t, rfl, ⟨j0, j1, j2⟩, k2⟩ := intP k2 r2
      obtain ⟨jn, rfl⟩ := Int.eq_ofNat_of_zero_le j0
      obtain ⟨vs2, n2, lo2, ho2, rl2, fa2, na2⟩ := z2.own x l hx
      have hlen := rl2.length
      refine wpH.at (wpH.bind (wpH.holding (set_own (j := jn) ho2 (by omega) (by omega) fun h3 k' c' e' => ?_)))
      refine wpH.of fun tk htk => wpAny_release ⟨h3, tk, rfl, _, oa, G2, fun a o q => g2.up a o (g.up a o q), z2.upd_own hx c' e' (RelL.set jn rl2 (Rel.mono g2.up r)), k2⟩
  exact goal.use l1 fun _ h' tk' _ q => ⟨h', tk', rfl, q⟩
end
end Mine

-- part E21
open PySem
set_option Elab.async false
set_option maxRecDepth 100000
set_option linter.unusedVariables false
namespace Mine

section
variable {prog : Program} {w : World} {A : Around} {X : Fix} {h : Heap} {h0 : GMap} {G0 G : GMap} {env : Env} {Γ : Ctx} {oa : Str → Addr} {ok : Around → Heap → Prop} {sc : Names} {K : Out → Prop} {P : Par} {n : Nat}

theorem aug_sound {op : Operator} {a b : Value} {x y : V} {K : V → Prop} (l : LeH G h) (ra : Rel G a x) (rb : Rel G b y) (hk : vAug op x y K) : Yl (model prog w) X A (inplaceOp op a b) G K h := by
  cases op with
  | Add =>
    rcases opt2_or hk with ⟨i, e, hk⟩ | ⟨_, hk⟩
    · cases V.int?_eq e
      obtain ⟨t, rfl⟩ := ra.intI
      obtain ⟨j, u, rfl, hk⟩ := intP hk rb
      exact Yl.plain l _ hk fun tk _ => by (with_reducible refine AutoIntOps.iadd_0 ?_); exact ⟨⟨_, rfl⟩, .int _ _⟩
    · obtain ⟨i, t, rfl, hk⟩ := strP hk ra
      obtain ⟨j, u, rfl, hk⟩ := strP hk rb
      exact Yl.plain l _ hk.2 fun tk _ => SB.iadd (fun t' k => ⟨⟨_, rfl⟩, .str _ _⟩) (by rw [line_eq]; exact hk.1)
  | Sub =>
    obtain ⟨i, t, rfl, hk⟩ := intP hk ra
    obtain ⟨j, u, rfl, hk⟩ := intP hk rb
    exact Yl.plain l _ hk fun tk _ => by (with_reducible refine AutoIntOps.isub_0 ?_); exact ⟨⟨_, rfl⟩, .int _ _⟩
  | BitXor =>
    obtain ⟨i, t, rfl, hk⟩ := intP hk ra
    obtain ⟨j, u, rfl, hk⟩ := intP hk rb
    exact Yl.plain l _ hk fun tk _ => by (with_reducible refine PyProof.Rows.ixor_int ?_); exact ⟨⟨_, rfl⟩, .int _ _⟩
  | BitOr =>
    obtain ⟨i, t, rfl, hk⟩ := intP hk ra
    obtain ⟨j, u, rfl, hk⟩ := intP hk rb
    exact Yl.plain l _ hk fun tk _ => by (with_reducible refine PyProof.Rows.ior_int ?_); exact ⟨⟨_, rfl⟩, .int _ _⟩
  | LShift =>
    obtain ⟨i, t, rfl, hk⟩ := intP hk ra
    obtain ⟨j, u, rfl, hk⟩ := intP hk rb
    exact Yl.plain l _ hk.2 fun tk _ => by (with_reducible refine PyProof.Rows.ilshift_int_small hk.1.1 hk.1.2.1 hk.1.2.2 ?_); exact ⟨⟨_, rfl⟩, .int _ _⟩
  | _ => exact hk.elim

theorem aug_name {x : Str} {px pos : Pos} {op : Operator} {value : Expr} {old : V} {f : Expr → (V → Prop) → Prop} (O : OkAt X ok) (S : SndE prog w X A env Γ ok f) (oe : EnvOk sc env) (z : FSt X h0 G0 env Γ oa G h) (o : ok A h)
    (hk : isLC (kindN sc x) = true) (hx : Γ.find x = some (.val old)) (k : f value fun v => vAug op old v fun r => K (.next (Γ.put x (.val r)))) :
    wpH (model prog w) X A (exec (.AugAssign (.Name x px) op value pos) env) (SPost X h0 G0 env G K) h := by
  obtain ⟨u, lo, r⟩ := z.val x old hx
  refine wpH.of fun tk htk => wpAny_AugAssign_Name ((load_sound (Q := fun v h' => v = u ∧ h' = h) oe (isLC_iff hk) lo ⟨rfl, rfl⟩).use htk fun v h1 tk1 l1 ⟨e1, e2⟩ => ?_)
  subst e1; subst e2
  refine (S value _ G _ z.rd z.leh o k).use l1 fun v2 h2 tk2 l2 ⟨s2, x2, G2, g2, le2, r2, k2⟩ => ?_
  refine (aug_sound (K := fun r => K (.next (Γ.put x (.val r)))) le2 (Rel.mono g2.up r) r2 k2).use l2 fun v3 h3 tk3 l3 ⟨s3, x3, G3, g3, le3, r3, k3⟩ => ?_
  have z3 := (z.step s2 g2 le2).step s3 g3 le3
  exact (store_sound (Q := fun _ h' => FSt X h0 G0 env (Γ.put x (.val x3)) oa G3 h') oe z3 hk fun h' B st => z3.put_val st r3).use l3 fun _ h4 tk4 _ z4 => ⟨h4, tk4, rfl, _, oa, G3, fun a o q => g3.up a o (g2.up a o q), z4, k3⟩

theorem aug_sub {x : Str} {px ps pos : Pos} {op : Operator} {i value : Expr} {l : List V} {f : Expr → (V → Prop) → Prop} (O : OkAt X ok) (S : SndE prog w X A env Γ ok f) (oe : EnvOk sc env) (z : FSt X h0 G0 env Γ oa G h) (o : ok A h)
    (c1 : noSlice i = true) (c3 : sameN x debugS = false) (c4 : isLC (kindN sc x) = true) (hx : Γ.find x = some (.own l))
    (k : f i fun iv => optP iv.int? fun j => (0 ≤ j ∧ j < l.length ∧ l.length ≤ 16777216) ∧ ∃ old, l[j.toNat]? = some old ∧ f value fun v => vAug op old v fun r => K (.next (Γ.put x (.own (l.set j.toNat r))))) : wpH (model prog w) X A (exec (.AugAssign (.Subscript (.Name x px) i ps) op value pos) env) (SPost X h0 G0 env G K) h := by
  obtain ⟨vs, n, lo, ho, rl, fa, na⟩ := z.own x l hx
  refine wpH.of fun tk htk => wpAny_AugAssign_SubscriptAny ((name_sound (Q := fun v h' => v = .ref (oa x) ∧ h' = h) oe c3 (isLC_iff c4) lo ⟨rfl, rfl⟩).use htk fun v h1 tk1 l1 ⟨e1, e2⟩ => ?_) (fun ov iv new => by cases i <;> first | rfl | cases c1)
  subst e1; subst e2
  refine (S i _ G _ z.rd z.leh o k).use l1 fun iv h2 tk2 l2 ⟨s2, xi, G2, g2, le2, r2, k2⟩ => ?_
  have z2 := z.step s2 g2 le2
  have o2 := O.keep _ _ _ o s2
  · obtain ⟨j, t, rfl, ⟨j0, j1, j2⟩, old, hold, k2⟩ := intP k2 r2
    obtain ⟨jn, rfl⟩ := Int.eq_ofNat_of_zero_le j0
    obtain ⟨vs2, n2, lo2, ho2, rl2, fa2, na2⟩ := z2.own x l hx
    refine (item_list (Q := fun v h' => h' = h2 ∧ Rel G2 v old) (x := old) (l := l) ⟨_, ho2, rfl, n2, rfl⟩ rl2 j2 (by simpa [idx] using hold) fun v rv => ⟨rfl, rv⟩).use l2 fun vo h3 tk3 l3 ⟨e3, ro⟩ => ?_
    subst e3
    refine (S value _ G2 _ z2.rd z2.leh o2 k2).use l3 fun v4 h4 tk4 l4 ⟨s4, x4, G4, g4, le4, r4, k4⟩ => ?_
    have z4 := z2.step s4 g4 le4
    refine (aug_sound (K := fun r => K (.next (Γ.put x (.own (l.set jn r))))) le4 (Rel.mono g4.up ro) r4 k4).use l4 fun v5 h5 tk5 l5 ⟨s5, x5, G5, g5, le5, r5, k5⟩ => ?_
    have z5 := z4.step s5 g5 le5
    obtain ⟨vs6, n6, lo6, ho6, rl6, fa6, na6⟩ := z5.own x l hx
    have hlen := rl6.length
    refine (set_own (Q := fun _ h' => SPost X h0 G0 env G K .next h') (j := jn) ho6 (by omega) (by omega) fun h6 k' c' e' => ?_).use l5 fun _ h' tk' _ q => ⟨h', tk', rfl, q⟩
    exact ⟨_, oa, G5, fun a o q => g5.up a o (g4.up a o (g2.up a o q)), z5.upd_own hx c' e' (RelL.set jn rl6 r5), k5⟩

theorem own_method {x : Str} {px apos pos : Pos} {name : Str} {args : List Expr} {a : Addr} {id : String} {Q : Value → Heap → Prop} (oe : EnvOk sc env) (hd : sameN x debugS = false) (hk : isLC (kindN sc x) = true) (lo : Loc env h x (.ref a))
    (hf : fewOk args apos pos = true) (hg : ∀ (Q : Value × List Value → Heap → Prop) pl, Q (.builtin id, [.ref a]) h → wpH (model prog w) X A (getMethod (.ref a) name pl) Q h)
    (c : wpH (model prog w) X A (callWith pos (.builtin id) [.ref a] (backTo pos (starEach args env)) []) Q h) : wpH (model prog w) X A (eval (.Call (.Attribute (.Name x px) name apos) args [] pos) env) Q h := by
  rw [arm_eval_Call, base_eq (by rfl)]
  obtain ⟨h1, h2, h3⟩ := few_form (env := env) hf
  refine wpH.bind (name_sound oe hd (isLC_iff hk) lo ?_)
  refine wpH.at ?_
  have hpos : methodCallPos true (.Name x px) env apos pos = pure pos := by unfold methodCallPos; simp [h3]
  unfold methodCall
  rw [h2, hpos]
  refine wpH.bind (wpH.holding ?_)
  show wpH _ X A (getMethod (.ref a) name _) _ _
  exact hg _ _ c

theorem get_list {a : Addr} {vs : List Value} {k : Nat} {name : Str} {id : String} {Q : Value × List Value → Heap → Prop} {pl : Sem Bool} (ho : h.get? a = some (listO vs k)) (slot : Slot "list" name id) (ty : typeOf (.builtin id) = pure (.type "method_descriptor"))
    (q : Q (.builtin id, [.ref a]) h) : wpH (model prog w) X A (getMethod (.ref a) name pl) Q h :=
  wpH.of fun tk _ => getMethod_builtin (s := X.at h tk) (T := "list") ⟨_, ho, rfl⟩ F.plainAttrs_list slot ty (fun b q => by cases q; exact ⟨_, ho, rfl⟩) ⟨h, tk, rfl, q⟩

theorem expr_own {x : Str} {px apos pos pos2 : Pos} {name : Str} {arg : Expr} (oe : EnvOk sc env) (y : wpH (model prog w) X A (eval (.Call (.Attribute (.Name x px) name apos) [arg] [] pos) env) (fun v h' => v = .none ∧ SPost X h0 G0 env G K .next h') h) :
    wpH (model prog w) X A (exec (.Expr (.Call (.Attribute (.Name x px) name apos) [arg] [] pos) pos2) env) (SPost X h0 G0 env G K) h := by
  have hi : interactive env = false := by unfold interactive; rw [oe.kind]; rfl
  rw [exec_Expr _ _ _ hi (by rfl)]
  refine wpH.at (wpH.bind (wpH.mono y fun v h' ⟨e, q⟩ => ?_))
  subst e
  rw [dropValue_plain (by intro a q; cases q)]
  exact wpH.pure q

inductive AppQ (X : Fix) (h0 G0 : GMap) (env : Env) (oa : Str → Addr) (G : GMap) (K : Out → Prop) (x : Str) (l : List V) (u : Value) (h1 : Heap) : Prop
  | mk (Γ1 : Ctx) (G1 : GMap) (v : V) (up : ∀ a o, G a = some o → G1 a = some o) (z : FSt X h0 G0 env Γ1 oa G1 h1) (f : Γ1.find x = some (.own l)) (r : Rel G1 u v) (n : l.length ≤ 16777215) (k : K (.next (Γ1.put x (.own (l ++ [v]))))) : AppQ X h0 G0 env oa G K x l u h1
theorem append_gen {x : Str} {px apos pos pos2 : Pos} {arg : Expr} {l : List V} (oe : EnvOk sc env) (z : FSt X h0 G0 env Γ oa G h)
    (c1 : fewOk [arg] apos pos = true) (c2 : sameN x debugS = false) (c3 : isLC (kindN sc x) = true) (hx : Γ.find x = some (.own l)) (y : wpH (model prog w) X A (eval arg env) (AppQ X h0 G0 env oa G K x l) h) :
    wpH (model prog w) X A (exec (.Expr (.Call (.Attribute (.Name x px) appendS apos) [arg] [] pos) pos2) env) (SPost X h0 G0 env G K) h := by
  obtain ⟨vs, n, lo, ho, rl, fa, na⟩ := z.own x l hx
  refine expr_own oe (own_method (id := "list.append") oe c2 c3 lo c1 (fun Q pl q => get_list ho F.slot_list_append F.type_list_append q) ?_)
  have hst := (and2 (few_form (env := env) c1).1).1
  rw [back_cons (not_true hst)]
  refine wpH.of fun tk htk => P.append_list (y.use htk fun v h1 tk1 l1 ⟨Γ1, G1, xv, up, z1, hx1, r, hl, k1⟩ => ?_)
  obtain ⟨vs1, n1, lo1, ho1, rl1, fa1, na1⟩ := z1.own x l hx1
  have hlen : vs1.length ≤ 16777215 := by rw [rl1.length]; exact hl
  refine ⟨vs1.toArray, n1, by rw [List.size_toArray, line_eq]; exact Nat.le_succ_of_le hlen, ho1, _, tk1, rfl, rfl, _, oa, G1, up, z1.upd_own hx1 (l' := l ++ [xv]) (vs' := vs1 ++ [v]) (k' := if (vs1.toArray.push v).size == vs1.toArray.size then n1 else n1 + 1) (fun b o hb e => (Heap.SameBut.update h1 _ _).extBut b o hb e) ?_ (RelL.snoc rl1 r), k1⟩
  refine Eq.trans (IsL.update (h := h1) (l := oa x) (items := vs1.toArray) (n := n1) ho1 (·.push v)) ?_
  rw [List.push_toArray]
theorem append_own {x : Str} {px apos pos pos2 : Pos} {name : Str} {arg : Expr} {l : List V} {f : Expr → (V → Prop) → Prop} (O : OkAt X ok) (S : SndE prog w X A env Γ ok f) (oe : EnvOk sc env) (z : FSt X h0 G0 env Γ oa G h) (o : ok A h)
    (c1 : fewOk [arg] apos pos = true) (c2 : sameN x debugS = false) (c3 : isLC (kindN sc x) = true) (hn : name = appendS) (hx : Γ.find x = some (.own l)) (k : f arg fun v => l.length ≤ 16777215 ∧ K (.next (Γ.put x (.own (l ++ [v]))))) :
    wpH (model prog w) X A (exec (.Expr (.Call (.Attribute (.Name x px) name apos) [arg] [] pos) pos2) env) (SPost X h0 G0 env G K) h := by
  subst hn
  exact append_gen oe z c1 c2 c3 hx (wpH.mono (S arg _ G h z.rd z.leh o k) fun v h1 ⟨s, xv, G1, g, le, r, hl, k1⟩ => ⟨Γ, G1, xv, g.up, z.step s g le, hx, r, hl, k1⟩)

theorem popOf_eq {arg : Expr} {r : Str × List V × Expr × Pos × Pos} (h : popOf Γ arg = some r) : ∃ py, arg = .Call (.Attribute (.Name r.1 py) popS r.2.2.2.1) [r.2.2.1] [] r.2.2.2.2 ∧ Γ.find r.1 = some (.own r.2.1) := by
  obtain ⟨⟨f, args, kws, pos'⟩, e1, h⟩ := bind_ex h
  obtain ⟨⟨o, name, apos'⟩, e2, h⟩ := bind_ex h
  obtain ⟨y', e3, h⟩ := bind_ex (f := fun y => (one args).bind fun ie => (ownL Γ y).bind fun l => match sameN name popS && kws.isEmpty with
    | true => some (y, l, ie, apos', pos')
    | false => none) h
  obtain ⟨ie', e4, h⟩ := bind_ex h
  obtain ⟨l', e5, h⟩ := bind_ex h
  cases hs : sameN name popS && kws.isEmpty with
  | false => rw [hs] at h; exact no_some h
  | true =>
    rw [hs] at h
    cases h
    obtain ⟨h1, h2⟩ := and2 hs
    obtain ⟨p, e6⟩ := asNm_eq e3
    refine ⟨p, ?_, ownL_eq e5⟩
    have q2 : f = .Attribute o name apos' := asAtt_eq e2
    rw [show arg = .Call f args kws pos' from asCall_eq e1, q2, e6, one_eq e4, List.isEmpty_iff.mp h2, sameN_iff.mp h1]

theorem pop_fits {jn n : Nat} (h : jn < n) (hb : n ≤ 16777216) : Builtin.List.listFitsIndex (jn : Int) = true := by
  simp [Builtin.List.listFitsIndex]; omega
theorem append_pop {x y : Str} {px py apos pos pos2 apos2 pos3 : Pos} {name : Str} {ie : Expr} {l l2 : List V} {f : Expr → (V → Prop) → Prop} (O : OkAt X ok) (S : SndE prog w X A env Γ ok f) (oe : EnvOk sc env) (z : FSt X h0 G0 env Γ oa G h) (o : ok A h)
    (c1 : fewOk [.Call (.Attribute (.Name y py) popS apos2) [ie] [] pos3] apos pos = true) (c2 : sameN x debugS = false) (c3 : isLC (kindN sc x) = true) (hn : name = appendS) (hx : Γ.find x = some (.own l)) (hy : Γ.find y = some (.own l2))
    (d1 : fewOk [ie] apos2 pos3 = true) (d2 : sameN y debugS = false) (d3 : isLC (kindN sc y) = true) (d4 : sameN x y = false)
    (k : f ie fun iv => optP iv.int? fun j => (0 ≤ j ∧ j < l2.length ∧ l2.length ≤ 16777216 ∧ l.length ≤ 16777215) ∧ ∃ v, l2[j.toNat]? = some v ∧ K (.next ((Γ.put y (.own (l2.eraseIdx j.toNat))).put x (.own (l ++ [v]))))) :
    wpH (model prog w) X A (exec (.Expr (.Call (.Attribute (.Name x px) name apos) [.Call (.Attribute (.Name y py) popS apos2) [ie] [] pos3] [] pos) pos2) env) (SPost X h0 G0 env G K) h := by
  subst hn
  have hxy : x ≠ y := by rintro rfl; rw [sameN_iff.mpr rfl] at d4; cases d4
  refine append_gen oe z c1 c2 c3 hx ?_
  obtain ⟨ws, m, lo2, ho2, rl2, fa2, na2⟩ := z.own y l2 hy
  have hst := (and2 (few_form (env := env) d1).1).1
  refine own_method (id := "list.pop") oe d2 d3 lo2 d1 (fun Q pl q => get_list ho2 F.slot_list_pop F.type_list_pop q) ?_
  rw [back_cons (not_true hst)]
  refine wpH.of fun tk htk => P.pop_at_list ((S ie _ G h z.rd z.leh o k).use htk fun v h1 tk1 l1 ⟨s, xv, G1, g, le, r, k1⟩ => ?_)
  have z1 := z.step s g le
  obtain ⟨vs1, n1, lo1, ho1, rl1, fa1, na1⟩ := z1.own y l2 hy
  have hlen := rl1.length
  obtain ⟨j, t, rfl, ⟨j0, j1, j2, j3⟩, v', hv, k1⟩ := intP k1 r
  obtain ⟨jn, rfl⟩ := Int.eq_ofNat_of_zero_le j0
  obtain ⟨u, hu, ru⟩ := rl1.get jn hv
  have hjn : jn < vs1.length := by rw [hlen]; exact Int.ofNat_lt.mp j1
  have hb : vs1.length ≤ 16777216 := by rw [hlen]; exact j2
  refine ⟨vs1.toArray, n1, _, t, jn, u, by rw [List.size_toArray, line_eq]; exact hb, rfl, ho1, ?_, ?_, by rw [List.getElem?_toArray]; exact hu, _, tk1, rfl, _, G1, v', g.up, z1.upd_own hy (l' := l2.eraseIdx jn) (vs' := vs1.eraseIdx jn) (k' := if (vs1.toArray.eraseIdxIfInBounds jn).size == vs1.toArray.size then n1 else n1 + 1) (fun b o hb e => (Heap.SameBut.update h1 _ _).extBut b o hb e) ?_ (RelL.eraseIdx jn rl1), ?_, ru, j3, k1⟩
  · exact pop_fits hjn hb
  · rw [seqIndex_of j0 (by rw [List.size_toArray]; exact Int.ofNat_lt.mpr hjn)]; rfl
  · refine Eq.trans (IsL.update (h := h1) (l := oa y) (items := vs1.toArray) (n := n1) ho1 (fun xs => xs.eraseIdxIfInBounds jn)) ?_
    simp
  · rw [find_put, if_neg hxy]; exact hx
end
end Mine

-- part E22
open PySem
set_option Elab.async false
set_option maxRecDepth 100000
set_option linter.unusedVariables false
namespace Mine

noncomputable def GMap.upd (G : GMap) (I : Addr) (q : Option Obj) : GMap := fun b => if b = I then q else G b
mutual
theorem Rel.upd {G : GMap} {I : Addr} {o1 : Obj} {q : Option Obj} (hI : G I = some o1) (c : IterC o1) : ∀ {v : Value} {x : V}, Rel G v x → Rel (G.upd I q) v x
  | _, _, .none => .none
  | _, _, .bool b => .bool b
  | _, _, .int i t => .int i t
  | _, _, .str s t => .str s t
  | _, _, .list a vs n l e r => .list a vs n l (by
      have : a ≠ I := by rintro rfl; rw [hI] at e; cases e; exact c.1 rfl
      simp [GMap.upd, this, e]) (RelL.upd hI c r)
  | _, _, .tup a vs n l e r => .tup a vs n l (by
      have : a ≠ I := by rintro rfl; rw [hI] at e; cases e; exact c.2.1 rfl
      simp [GMap.upd, this, e]) (RelL.upd hI c r)
  | _, _, .rng a lo hi t u v e => .rng a lo hi t u v (by
      have : a ≠ I := by rintro rfl; rw [hI] at e; cases e; exact c.2.2 rfl
      simp [GMap.upd, this, e])
  | _, _, .obj v => .obj v
theorem RelL.upd {G : GMap} {I : Addr} {o1 : Obj} {q : Option Obj} (hI : G I = some o1) (c : IterC o1) : ∀ {v : List Value} {x : List V}, RelL G v x → RelL (G.upd I q) v x
  | _, _, .nil => .nil
  | _, _, .cons v x vs xs r rs => .cons v x vs xs (Rel.upd hI c r) (RelL.upd hI c rs)
end

section
variable {prog : Program} {w : World} {A : Around} {X : Fix} {h : Heap} {h0 : GMap} {G0 G : GMap} {env : Env} {Γ : Ctx} {oa : Str → Addr} {ok : Around → Heap → Prop} {sc : Names} {K : Out → Prop} {P : Par} {n : Nat}

theorem FSt.updI {h' : Heap} {I : Addr} {o1 : Obj} {q : Option Obj} (z : FSt X h0 G0 env Γ oa G h) (hI : G I = some o1) (c : IterC o1) (fI : h0 I = none) (ch : Chg I h h') (hq : ∀ o, q = some o → h'.get? I = some o ∧ ¬ IsFr o) :
    FSt X h0 G0 env Γ oa (G.upd I q) h' := by
  have ne : True := trivial
  have nu : ∀ a, (∀ o : Obj, G a ≠ some o) → ∀ o : Obj, G.upd I q a ≠ some o := fun a n o e => by
    have : a ≠ I := fun e => n o1 (e ▸ hI)
    simp only [GMap.upd, this, if_false] at e
    exact n o e
  have neI : ∀ a, (∀ o : Obj, G a ≠ some o) → a ≠ I := fun a n e => n o1 (e ▸ hI)
  have lc : ∀ y u, Loc env h y u → Loc env h' y u := by
    rintro y u (⟨a, m2, n2, e⟩ | ⟨a, c2, e, n2⟩)
    · exact .inl ⟨a, m2, n2.extBut (b := I) ch (neI _ z.nL), e⟩
    · obtain ⟨o, ho2, hd⟩ := id n2
      exact .inr ⟨a, c2, e, o, ch _ _ (neI _ (z.cell _ _ e).2.2) ho2, hd⟩
  exact {
    leh := fun a o e => by
      unfold GMap.upd at e
      split at e
      · rename_i e1; subst e1; exact hq o e
      · rename_i e1; exact ⟨ch a o e1 (z.leh a o e).1, (z.leh a o e).2⟩
    l0 := z.l0
    sub := z.sub.chg fI ch
    grow := ⟨fun a o e => by
        have e2 := z.grow.up a o e
        have : a ≠ I := by rintro rfl; rw [(z.l0 a o e).1] at fI; cases fI
        simp [GMap.upd, this, e2],
      fun a o e => by
        unfold GMap.upd at e
        split at e
        · rename_i e1; subst e1; exact .inr fI
        · exact z.grow.new a o e⟩
    ns := z.ns.imp fun _ n2 => n2.extBut (b := I) ch (neI _ z.nL)
    fL := z.fL
    nL := nu _ z.nL
    cell := fun y c2 e => by
      obtain ⟨a, ⟨v, n2⟩, b⟩ := z.cell y c2 e
      obtain ⟨o, ho2, hd⟩ := id n2
      exact ⟨a, ⟨v, o, ch _ _ (neI _ b) ho2, hd⟩, nu _ b⟩
    cinj := z.cinj
    val := fun y u e => let ⟨u2, lo, r2⟩ := z.val y u e; ⟨u2, lc _ _ lo, Rel.upd hI c r2⟩
    own := fun y l2 e => let ⟨vs2, n2, lo2, ho2, r2, f2, nn2⟩ := z.own y l2 e; ⟨vs2, n2, lc _ _ lo2, ch _ _ (neI _ nn2) ho2, RelL.upd hI c r2, f2, nu _ nn2⟩
    inj := z.inj }

noncomputable def SndB (prog : Program) (w : World) (X : Fix) (A : Around) (h0 : GMap) (G0 : GMap) (env : Env) (ss : List Stmt) (f : Ctx → (Out → Prop) → Prop) : Prop :=
  ∀ K Γ oa G h, FSt X h0 G0 env Γ oa G h → f Γ K → wpH (model prog w) X A (execs ss env) (SPost X h0 G0 env G K) h

noncomputable def forK (body els : Ctx → (Out → Prop) → Prop) (target : Expr) (r : List V) (K : Out → Prop) (out : Out) : Prop :=
  match out with
  | .next Γ' => vFor body els target r Γ' K
  | .cont Γ' => vFor body els target r Γ' K
  | .brk Γ' => K (.next Γ')
  | .ret v => K (.ret v)
theorem vFor_cons {body els : Ctx → (Out → Prop) → Prop} {target : Expr} {it : V} {r : List V} {Γ : Ctx} {K : Out → Prop} (k : vFor body els target (it :: r) Γ K) : ∃ b, binds target it = some b ∧ body (putAll Γ b) (forK body els target r K) := by
  unfold vFor at k
  split at k
  · rename_i b hb
    exact ⟨b, hb, k⟩
  · exact k.elim

structure Turns (prog : Program) (w : World) (X : Fix) (A : Around) (h0 : GMap) (G0 : GMap) (env : Env) (G : GMap) (I : Addr) (target : Expr) (items : List V) (StG : Nat → GMap → Heap → Prop) : Prop where
  stable : ∀ i G' G'' H H', StG i G' H → LeH G'' H' → (∀ a o, G' a = some o → G'' a = some o) → StG i G'' H'
  turn : ∀ i (hi : i < items.length) Γ oa G' H b, (∀ a o, G a = some o → G' a = some o) → FSt X h0 G0 env Γ oa G' H → StG i G' H → binds target items[i] = some b →
    wpH (model prog w) X A (pyNext (.ref I)) (fun r h1 => ∃ v, r = some v ∧ wpH (model prog w) X A (letOwnedTupleGo target (.ref I) v) (fun _ h2 => wpH (model prog w) X A (assign target env v) (fun _ h3 =>
      ∃ G'', (∀ a o, G a = some o → G'' a = some o) ∧ FSt X h0 G0 env (putAll Γ b) oa G'' h3 ∧ StG (i + 1) G'' h3) h2) h1) H
  done : ∀ Γ oa G' H, (∀ a o, G a = some o → G' a = some o) → FSt X h0 G0 env Γ oa G' H → StG items.length G' H →
    wpH (model prog w) X A (pyNext (.ref I)) (fun r h1 => r = none ∧ ∃ G'', (∀ a o, G a = some o → G'' a = some o) ∧ FSt X h0 G0 env Γ oa G'' h1) H

inductive LPost (X : Fix) (h0 G0 : GMap) (env : Env) (G : GMap) (K : Out → Prop) (r : Except Value Flow) (s' : Shared) : Prop
  | mk (f : Flow) (e : r = .ok f) (h' : Heap) (tk' : Nat) (l : 1 ≤ tk') (e2 : s' = X.at h' tk') (p : SPost X h0 G0 env G K f h') : LPost X h0 G0 env G K r s'
inductive ForI (X : Fix) (h0 G0 : GMap) (env : Env) (G : GMap) (K : Out → Prop) (target : Expr) (items : List V) (StG : Nat → GMap → Heap → Prop) (fb fe : Ctx → (Out → Prop) → Prop) (n : Nat) (s : Shared) : Prop
  | mk (i : Nat) (Γ' : Ctx) (oa' : Str → Addr) (G' : GMap) (H : Heap) (tk : Nat) (l : 1 ≤ tk) (e : s = X.at H tk) (e2 : n = items.length - i) (hi : i ≤ items.length) (up : ∀ a o, G a = some o → G' a = some o) (z : FSt X h0 G0 env Γ' oa' G' H) (st : StG i G' H) (k : vFor fb fe target (items.drop i) Γ' K) : ForI X h0 G0 env G K target items StG fb fe n s
inductive WhI (X : Fix) (h0 G0 : GMap) (env : Env) (G : GMap) (K : Out → Prop) (ft : Ctx → (Bool → Prop) → Prop) (fb : Ctx → (Out → Prop) → Prop) (n : Nat) (s : Shared) : Prop
  | mk (Γ' : Ctx) (oa' : Str → Addr) (G' : GMap) (H : Heap) (tk : Nat) (l : 1 ≤ tk) (e : s = X.at H tk) (up : ∀ a o, G a = some o → G' a = some o) (z : FSt X h0 G0 env Γ' oa' G' H) (k : vWhile ft fb n Γ' K) : WhI X h0 G0 env G K ft fb n s
theorem for_core {target : Expr} {I : Addr} {body orelse : List Stmt} {items : List V} {StG : Nat → GMap → Heap → Prop} {fb fe : Ctx → (Out → Prop) → Prop} {G' : GMap} {tk : Nat}
    (T : Turns prog w X A h0 G0 env G I target items StG) (B : SndB prog w X A h0 G0 env body fb) (L : SndB prog w X A h0 G0 env orelse fe) (up : ∀ a o, G a = some o → G' a = some o) (z : FSt X h0 G0 env Γ oa G' h) (st : StG 0 G' h) (htk : 1 ≤ tk)
    (k : vFor fb fe target items Γ K) :
    codeAny (model prog w) A (.forLoop target (.ref I) body orelse env) (LPost X h0 G0 env G K) (X.at h tk) := by
  refine codeAny_forLoop_any (ForI X h0 G0 env G K target items StG fb fe) ?_
    items.length ⟨0, Γ, oa, G', h, tk, htk, rfl, rfl, Nat.zero_le _, up, z, st, k⟩
  rintro n s ⟨i, Γ', oa', G', H, tk, htk, rfl, rfl, hi, up, z, st, k⟩
  by_cases hlt : i < items.length
  · rw [List.drop_eq_getElem_cons hlt] at k
    obtain ⟨b, hb, k⟩ := vFor_cons k
    refine (T.turn i hlt Γ' oa' G' H b up z st hb).use htk fun r h1 tk1 l1 ⟨v, e, q⟩ => ?_
    subst e
    refine q.use l1 fun _ h2 tk2 l2 q => q.use l2 fun _ h3 tk3 l3 ⟨G'', up2, z2, st2⟩ => ?_
    refine (B _ _ _ _ _ z2 k).use l3 fun f h4 tk4 l4 p => ?_
    cases f with
    | next =>
      obtain ⟨Γ3, oa3, G3, up3, z3, k3⟩ := p
      exact ⟨items.length - (i + 1), by omega, i + 1, Γ3, oa3, G3, h4, tk4, l4, rfl, rfl, hlt, fun a o e => up3 a o (up2 a o e), z3, T.stable _ _ _ _ _ st2 z3.leh up3, k3⟩
    | cont =>
      obtain ⟨Γ3, oa3, G3, up3, z3, k3⟩ := p
      exact ⟨items.length - (i + 1), by omega, i + 1, Γ3, oa3, G3, h4, tk4, l4, rfl, rfl, hlt, fun a o e => up3 a o (up2 a o e), z3, T.stable _ _ _ _ _ st2 z3.leh up3, k3⟩
    | brk =>
      obtain ⟨Γ3, oa3, G3, up3, z3, k3⟩ := p
      exact ⟨.next, rfl, h4, tk4, l4, rfl, Γ3, oa3, G3, fun a o e => up3 a o (up2 a o e), z3, k3⟩
    | ret v => exact ⟨.ret v, rfl, h4, tk4, l4, rfl, p⟩
  · have hi : i = items.length := by omega
    subst hi
    rw [List.drop_length] at k
    refine (T.done Γ' oa' G' H up z st).use htk fun r h1 tk1 l1 ⟨e, G'', up2, z2⟩ => ?_
    subst e
    refine (L _ _ _ _ _ z2 k).use l1 fun f h4 tk4 l4 p => ⟨f, rfl, h4, tk4, l4, rfl, p.up up2⟩

theorem turns_walk {G1 : GMap} {I : Addr} {target : Expr} {items : List V} {St : Nat → Heap → Prop} (rm : Room A) (oe : EnvOk sc env) (ht : lcs sc (targets target) = true) (W : WalkI prog w X A G1 I items St) (fI : h0 I = none) (nI : ∀ o, G I ≠ some o) (nI1 : ∀ o, G1 I ≠ some o) :
    Turns prog w X A h0 G0 env G I target items (fun i G' H => St i H ∧ LeH G1 H ∧ (∀ a o, G1 a = some o → G' a = some o) ∧ ∃ oI, G' I = some oI ∧ H.get? I = some oI) where
  stable := fun i G' G'' H H' ⟨st, l1, up, oI, e1, e2⟩ l u => by
    have l1' : LeH G1 H' := fun a o e => l a o (u a o (up a o e))
    exact ⟨W.frame _ _ _ st l1 l1' fun o e => by rw [e2] at e; cases e; exact (l I _ (u _ _ e1)).1, l1', fun a o e => u a o (up a o e), oI, u _ _ e1, (l I _ (u _ _ e1)).1⟩
  turn := fun i hi Γ oa G' H b upG z ⟨st, l1, up, oI, e1, e2⟩ hb => by
    refine wpH.mono (W.item i H hi st l1) fun r ha ⟨v, y, er, ey, rv, sta, ca⟩ => ⟨v, er, ?_⟩
    have ey2 : items[i] = y := by rw [List.getElem?_eq_getElem hi] at ey; exact Option.some.inj ey
    rw [ey2] at hb
    obtain ⟨oJ, eJ, cJ⟩ := W.cls _ _ sta
    have cI := W.itc _ _ _ st e2
    have ne1 : ∀ a o, G1 a = some o → a ≠ I := fun a o e q => nI1 o (q ▸ e)
    have z1 := z.updI (q := some oJ) e1 cI fI ca (fun o e => by cases e; exact ⟨eJ, cJ⟩)
    refine wpH.mono (W.go (i + 1) i ha target v y ey rv sta) fun _ h2 eh => ?_
    subst eh
    have up1 : ∀ a o, G1 a = some o → (G'.upd I (some oJ)) a = some o := fun a o e => by simp [GMap.upd, ne1 a o e, up a o e]
    refine wpH.mono (assign_gen rm oe z1 hb ht (Rel.mono up1 rv)) fun _ h3 z3 => ?_
    have upG' : ∀ a o, G a = some o → (G'.upd I (some oJ)) a = some o := fun a o e => by
      have : a ≠ I := by rintro rfl; exact nI o e
      simp [GMap.upd, this, upG a o e]
    have l3 : LeH G1 h3 := fun a o e => z3.leh a o (up1 a o e)
    have eI3 : (G'.upd I (some oJ)) I = some oJ := by simp [GMap.upd]
    have eI4 := (z3.leh _ _ eI3).1
    exact ⟨_, upG', z3, W.frame _ _ _ sta (fun a o e => ca a o (ne1 a o e) (l1 a o e).1 |> fun q => ⟨q, (l1 a o e).2⟩) l3 (fun o e => by rw [eJ] at e; cases e; exact eI4), l3, up1, oJ, eI3, eI4⟩
  done := fun Γ oa G' H upG z ⟨st, l1, up, oI, e1, e2⟩ => by
    refine wpH.mono (W.done H st l1) fun r ha ⟨er, ca⟩ => ⟨er, ?_⟩
    have cI := W.itc _ _ _ st e2
    have z1 := z.updI (q := none) e1 cI fI ca (fun o e => by cases e)
    refine ⟨_, fun a o e => ?_, z1⟩
    have : a ≠ I := by rintro rfl; exact nI o e
    simp [GMap.upd, this, upG a o e]

theorem for_plain {target iter : Expr} {pos : Pos} {body orelse : List Stmt} {fb fe : Ctx → (Out → Prop) → Prop} (O : OkAt X ok) (S : SndE prog w X A env Γ ok (fun e K => ve P n sc e Γ K)) (oe : EnvOk sc env) (z : FSt X h0 G0 env Γ oa G h) (o : ok A h)
    (B : SndB prog w X A h0 G0 env body fb) (L : SndB prog w X A h0 G0 env orelse fe) (ht : lcs sc (targets target) = true)
    (k : ve P n sc iter Γ fun x => vItems x fun xs => vFor fb fe target xs Γ K) : wpH (model prog w) X A (exec (.For target iter body orelse pos) env) (SPost X h0 G0 env G K) h := by
  have rm := O.room _ _ o
  refine ⟨fun tk htk => wpAny_For ((S iter _ G h z.rd z.leh o k).use htk fun v h1 tk1 l1 ⟨s1, x, G1, g1, le1, r1, k1⟩ => ?_) (folded k env)⟩
  refine (iter_sound rm le1 r1 k1).use l1 fun it h2 tk2 l2 ⟨I, items, St, e, k2, hlen, s2, fI, W, st⟩ => ?_
  subst e
  obtain ⟨oI, eI, cI⟩ := W.cls _ _ st
  have z1 := z.step s1 g1 le1
  have nI1 : ∀ o, G1 I ≠ some o := fun o e => by rw [(le1 _ _ e).1] at fI; cases fI
  have up1 : ∀ a o, G1 a = some o → (G1.upd I (some oI)) a = some o := fun a o e => by
    have : a ≠ I := by rintro rfl; exact nI1 o e
    simp [GMap.upd, this, e]
  have z2 : FSt X h0 G0 env Γ oa (G1.upd I (some oI)) h2 := z1.step s2 ⟨up1, fun a o e => by
      unfold GMap.upd at e
      split at e
      · rename_i q; subst q; exact .inr fI
      · exact .inl e⟩ (fun a o e => by
      unfold GMap.upd at e
      split at e
      · rename_i q; subst q; cases e; exact ⟨eI, cI⟩
      · exact le1.sub s2 a o e)
  have T := turns_walk (h0 := h0) (G0 := G0) (G := G) rm oe ht W (z1.sub.none fI) (fun o e => nI1 o (g1.up _ _ e)) nI1
  have := for_core T B L (fun a o e => up1 a o (g1.up a o e)) z2 ⟨st, le1.sub s2, up1, oI, by simp [GMap.upd], eI⟩ l2 k2
  refine codeAny_mono this ?_
  rintro r s' ⟨f, rfl, h', tk', l', rfl, p⟩
  exact ⟨h', tk', l', rfl, p⟩

theorem while_sound {test : Expr} {pos : Pos} {body : List Stmt} {ft : Ctx → (Bool → Prop) → Prop} {fb : Ctx → (Out → Prop) → Prop} (O : OkAt X ok) (o0 : ∀ Γ oa G h, FSt X h0 G0 env Γ oa G h → ok A h) (T : ∀ Γ, SndT prog w X A env Γ ok (fun e K => e = test ∧ ft Γ K)) (z : FSt X h0 G0 env Γ oa G h)
    (B : SndB prog w X A h0 G0 env body fb) (k : ∃ m, vWhile ft fb m Γ K) : wpH (model prog w) X A (exec (.While test body [] pos) env) (SPost X h0 G0 env G K) h := by
  obtain ⟨m, k⟩ := k
  refine ⟨fun tk htk => wpAny_While ?_⟩
  have key : codeAny (model prog w) A (.whileLoop test body [] env) (LPost X h0 G0 env G K) (X.at h tk) := by
    refine codeAny_whileLoop (WhI X h0 G0 env G K ft fb) ?_ m ⟨Γ, oa, G, h, tk, htk, rfl, fun _ _ e => e, z, k⟩
    rintro n s ⟨Γ', oa', G', H, tk, htk, rfl, up, z, k⟩
    cases n with
    | zero => exact k.elim
    | succ n =>
      have o := o0 _ _ _ _ z
      refine (T Γ' test _ G' H z.rd z.leh o ⟨rfl, k⟩).use htk fun b h1 tk1 l1 ⟨s1, G1, g1, le1, k1⟩ => ?_
      have z1 := z.step s1 g1 le1
      have up1 : ∀ a o, G a = some o → G1 a = some o := fun a o e => g1.up a o (up a o e)
      cases b with
      | false => exact wpAny_execs_nil ⟨.next, rfl, h1, tk1, l1, rfl, Γ', oa', G1, up1, z1, k1.2 rfl⟩
      | true =>
        refine (B _ _ _ _ _ z1 (k1.1 rfl)).use l1 fun f h4 tk4 l4 p => ?_
        cases f with
        | next =>
          obtain ⟨Γ3, oa3, G3, up3, z3, k3⟩ := p
          exact ⟨n, Nat.lt_succ_self n, Γ3, oa3, G3, h4, tk4, l4, rfl, fun a o e => up3 a o (up1 a o e), z3, k3⟩
        | cont =>
          obtain ⟨Γ3, oa3, G3, up3, z3, k3⟩ := p
          exact ⟨n, Nat.lt_succ_self n, Γ3, oa3, G3, h4, tk4, l4, rfl, fun a o e => up3 a o (up1 a o e), z3, k3⟩
        | brk =>
          obtain ⟨Γ3, oa3, G3, up3, z3, k3⟩ := p
          exact ⟨.next, rfl, h4, tk4, l4, rfl, Γ3, oa3, G3, fun a o e => up3 a o (up1 a o e), z3, k3⟩
        | ret v => exact ⟨.ret v, rfl, h4, tk4, l4, rfl, p⟩
  refine codeAny_mono key ?_
  rintro r s' ⟨f, rfl, h', tk', l', rfl, p⟩
  exact ⟨h', tk', l', rfl, p⟩
end
end Mine

-- part E23
open PySem
set_option Elab.async false
set_option maxRecDepth 100000
set_option linter.unusedVariables false
namespace Mine

noncomputable def Adm (X : Fix) (A : Around) (ok : Around → Heap → Prop) (env : Env) (B G0 : GMap) : Prop := ∀ Γ oa G h, FSt X B G0 env Γ oa G h → ok A h
noncomputable def ZipSnd (prog : Program) (w : World) (X : Fix) (A : Around) (ok : Around → Heap → Prop) (P : Par) : Prop :=
  ∀ (n : Nat) (sc : Names) (env : Env) (Γ : Ctx) (oa : Str → Addr) (G : GMap) (h : Heap) (h0 G0 : GMap) (K : Out → Prop) (f : Str) (pf pos pos2 : Pos) (a b target : Expr) (body orelse : List Stmt) (fb fe : Ctx → (Out → Prop) → Prop),
    EnvOk sc env → SndE prog w X A env Γ ok (fun e K => ve P n sc e Γ K) → FSt X h0 G0 env Γ oa G h → Adm X A ok env h0 G0 → (∀ B G0, Adm X A ok env B G0 → SndB prog w X A B G0 env body fb) → (∀ B G0, Adm X A ok env B G0 → SndB prog w X A B G0 env orelse fe) → lcs sc (targets target) = true →
    zipOk P sc f a b target →
    (ve P n sc a Γ fun x => ve P n sc b Γ fun y => zipItems x y fun its => vFor fb fe target its Γ K) →
    wpH (model prog w) X A (exec (.For target (.Call (.Name f pf) [a, b] [] pos) body orelse pos2) env) (SPost X h0 G0 env G K) h

theorem zipOf_eq {iter : Expr} {r : Str × Expr × Expr} (h : zipOf iter = some r) : ∃ pf pos, iter = .Call (.Name r.1 pf) [r.2.1, r.2.2] [] pos := by
  obtain ⟨⟨g, args, kws, pos⟩, e1, h⟩ := bind_ex h
  obtain ⟨f', e2, h⟩ := bind_ex (f := fun f => (two args).bind fun (a, b) => match sameN f zipS && kws.isEmpty with
    | true => some (f, a, b)
    | false => none) h
  obtain ⟨⟨a', b'⟩, e3, h⟩ := bind_ex h
  replace h : (match sameN f' zipS && kws.isEmpty with
    | true => some (f', a', b')
    | false => none) = some r := h
  cases hs : sameN f' zipS && kws.isEmpty with
  | false => rw [hs] at h; exact no_some h
  | true =>
    rw [hs] at h
    cases h
    obtain ⟨p, e4⟩ := asNm_eq e2
    refine ⟨p, pos, ?_⟩
    rw [show iter = .Call g args kws pos from asCall_eq e1, e4, show args = [a', b'] from two_eq e3, List.isEmpty_iff.mp (and2 hs).2]

section
variable {prog : Program} {w : World} {A : Around} {X : Fix} {h0 : GMap} {G0 : GMap} {ok : Around → Heap → Prop} {P : Par} {ow : List Str}

theorem froze_ret {env : Env} {Γ : Ctx} {oa : Str → Addr} {G : GMap} {h : Heap} {K : Out → Prop} {e : Expr} {pos : Pos} {f : Expr → (V → Prop) → Prop} (z : FSt X h0 G0 env Γ oa G h) (o : ok A h) (S : SndE prog w X A env (froze Γ) ok f) (k : f e fun v => K (.ret v)) :
    wpH (model prog w) X A (exec (.Return (some e) pos) env) (SPost X h0 G0 env G K) h := by
  obtain ⟨G', rd, l, g⟩ := z.freeze
  exact ⟨fun tk htk => wpAny_Return_some ((S e _ G' h rd l o k).use htk fun v h1 tk1 l1 ⟨s, x, G1, g1, le, r, k1⟩ => ⟨h1, tk1, l1, rfl, x, G1, z.sub.trans s, g.trans z.sub g1, le, r, k1⟩)⟩

theorem assign_any {sc : Names} {env : Env} {Γ : Ctx} {oa : Str → Addr} {G : GMap} {h : Heap} {K : Out → Prop} {x : Str} {px pos : Pos} {value : Expr} {n : Nat} (O : OkAt X ok) (PO : ParOk prog w X ok P) (oe : EnvOk sc env) (z : FSt X h0 G0 env Γ oa G h) (o : ok A h)
    (hk : isLC (kindN sc x) = true) (k : ve P n sc value Γ fun v => K (.next (Γ.put x (.val v)))) : wpH (model prog w) X A (exec (.Assign [.Name x px] value pos) env) (SPost X h0 G0 env G K) h := by
  have S : SndE prog w X A env Γ ok (fun e K => ve P n sc e Γ K) := (sound (A := A) O PO n sc env Γ oe).1
  have plain : swapsWith value (some (.Name x px)) pos.line env = pure false → wpH (model prog w) X A (exec (.Assign [.Name x px] value pos) env) (SPost X h0 G0 env G K) h := fun hs => assign_plain oe z hk hs (S _ _ G h z.rd z.leh o k)
  cases value with
  | ListComp elt gens scope pos2 =>
    obtain ⟨b, hb⟩ : ∃ b, swapsWith (.ListComp elt gens scope pos2) (some (.Name x px)) pos.line env = pure b := ⟨_, rfl⟩
    cases b with
    | false => exact plain hb
    | true =>
      cases n with
      | zero => exact k.elim
      | succ n =>
        obtain ⟨g, e, k1⟩ := optP_ex k
        cases one_eq e
        obtain ⟨target, iter, ifs, a⟩ := g
        obtain ⟨c, k2⟩ := chk_and k1
        obtain ⟨c1, c2⟩ := and2 c
        cases of_decide_eq_true c1
        exact assign_comp O (sound (A := A) O PO n) oe o z hk hb c2 k2 rfl
  | SetComp a b c d => cases n <;> exact k.elim
  | DictComp a b c d e => cases n <;> exact k.elim
  | _ => exact plain rfl

section
variable {sc : Names} {env : Env} {n : Nat} {h : Heap} {Γ : Ctx} {oa : Str → Addr} {G : GMap} {K : Out → Prop}
theorem vfresh_sound {x : Str} {px pos : Pos} {value : Expr} {f : Expr → (V → Prop) → Prop} (O : OkAt X ok) (PO : ParOk prog w X ok P) (S : SndE prog w X A env Γ ok f) (oe : EnvOk sc env) (z : FSt X h0 G0 env Γ oa G h) (o : ok A h) (hk : isLC (kindN sc x) = true)
    (k : vFresh P sc f value Γ fun l => K (.next (Γ.put x (.own l)))) : wpH (model prog w) X A (exec (.Assign [.Name x px] value pos) env) (SPost X h0 G0 env G K) h := by
  rcases opt2_or k with ⟨es, e, k⟩ | ⟨_, k⟩
  · obtain ⟨p, rfl⟩ := asLst_eq e
    obtain ⟨c, k⟩ := chk_and k
    exact assign_own (l := fun _ => True) oe z hk (by rfl) (fresh_list O S z.rd z.leh o c k)
  rcases opt2_or k with ⟨⟨a, op, r⟩, e, k⟩ | ⟨_, k⟩
  · obtain ⟨p, rfl⟩ := asBin_eq e
    obtain ⟨c, k1⟩ := chk_and k
    obtain ⟨es, e2, k2⟩ := optP_ex k1
    obtain ⟨c2, k3⟩ := chk_and k2
    obtain ⟨p2, e3⟩ := asLst_eq e2
    replace e3 : a = .List es p2 := e3
    subst e3
    cases isMult_eq c
    exact assign_own (l := fun _ => True) oe z hk (by rfl) (fresh_mul O S z.rd z.leh o c2 k3)
  · obtain ⟨⟨g, args, kws, pos⟩, e1, k1⟩ := optP_ex k
    obtain ⟨f', e2, k2⟩ := optP_ex (f := fun f => optP (one args) fun a => optP (asNm a) fun y =>
      chk (kws.isEmpty && (!sameN f debugS && (isGI (kindN sc f) && (!sameN y debugS && isLC (kindN sc y))))) (P.gl f = some (.type "list") ∧
        opt2 (ownL Γ y) (fun l => l.length ≤ 16777216 ∧ K (.next (Γ.put x (.own l)))) (optP (valL Γ y) fun v => optP v.list? fun l => l.length ≤ 16777216 ∧ K (.next (Γ.put x (.own l)))))) k1
    obtain ⟨a, e3, k3⟩ := optP_ex k2
    obtain ⟨y, e4, k4⟩ := optP_ex k3
    obtain ⟨c, hg, k5⟩ := chk_and k4
    obtain ⟨c0, c⟩ := and2 c
    obtain ⟨c1, c⟩ := and2 c
    obtain ⟨c2, c⟩ := and2 c
    obtain ⟨c3, c4⟩ := and2 c
    obtain ⟨pf, rfl⟩ := asNm_eq e2
    obtain ⟨py, rfl⟩ := asNm_eq e4
    cases asCall_eq e1
    cases one_eq e3
    cases List.isEmpty_iff.mp c0
    exact assign_own (l := fun _ => True) oe z hk (by rfl) (fresh_copy O PO oe z o (not_true c1) (isGI_eq c2) hg (not_true c3) c4 k5)
theorem vassign_sound {target value : Expr} {pos : Pos} (O : OkAt X ok) (PO : ParOk prog w X ok P) (oe : EnvOk sc env) (z : FSt X h0 G0 env Γ oa G h) (o : ok A h)
    (k : vAssign P ow (fun e K => ve P n sc e Γ K) sc target value Γ K) : wpH (model prog w) X A (exec (.Assign [target] value pos) env) (SPost X h0 G0 env G K) h := by
  have S : SndE prog w X A env Γ ok (fun e K => ve P n sc e Γ K) := (sound (A := A) O PO n sc env Γ oe).1
  rcases opt2_or k with ⟨x, e, k⟩ | ⟨_, k⟩
  · obtain ⟨px, rfl⟩ := asNm_eq e
    obtain ⟨hk, k⟩ := chk_and k
    cases hi : inL ow x with
    | true => rw [hi] at k; exact vfresh_sound O PO S oe z o hk k
    | false => rw [hi] at k; exact assign_any O PO oe z o hk k
  rcases opt2_or k with ⟨⟨a, i⟩, e, k⟩ | ⟨_, k⟩
  · obtain ⟨ps, e⟩ := asSub_eq e
    replace e : target = .Subscript a i ps := e
    subst e
    obtain ⟨x, e, k⟩ := optP_ex k
    obtain ⟨px, rfl⟩ := asNm_eq e
    obtain ⟨c, k⟩ := chk_and k
    obtain ⟨c1, c⟩ := and2 c
    obtain ⟨c2, c⟩ := and2 c
    obtain ⟨c3, c4⟩ := and2 c
    obtain ⟨l, hl, k⟩ := optP_ex k
    exact assign_sub O S oe z o c1 c2 (not_true c3) c4 (ownL_eq hl) k
  · obtain ⟨c, k⟩ := chk_and k
    obtain ⟨c1, c⟩ := and2 c
    obtain ⟨c2, c3⟩ := and2 c
    cases target with
    | Tuple ts cc pt => exact assign_tuple (O.room _ _ o) oe z c2 c3 (S _ _ G h z.rd z.leh o k)
    | _ => cases c1
theorem vaug_sound {target value : Expr} {op : Operator} {pos : Pos} {f : Expr → (V → Prop) → Prop} (O : OkAt X ok) (S : SndE prog w X A env Γ ok f) (oe : EnvOk sc env) (z : FSt X h0 G0 env Γ oa G h) (o : ok A h)
    (k : vAugSt f sc target op value Γ K) : wpH (model prog w) X A (exec (.AugAssign target op value pos) env) (SPost X h0 G0 env G K) h := by
  rcases opt2_or k with ⟨x, e, k⟩ | ⟨_, k⟩
  · obtain ⟨px, rfl⟩ := asNm_eq e
    obtain ⟨hk, k⟩ := chk_and k
    obtain ⟨old, hf, k⟩ := optP_ex k
    exact aug_name O S oe z o hk (valL_eq hf) k
  · obtain ⟨⟨a, i⟩, e0, k0⟩ := optP_ex k
    obtain ⟨ps, e⟩ := asSub_eq e0
    replace e : target = .Subscript a i ps := e
    clear e0 k
    subst e
    obtain ⟨x, e, k⟩ := optP_ex k0
    obtain ⟨px, rfl⟩ := asNm_eq e
    obtain ⟨c, k⟩ := chk_and k
    obtain ⟨c1, c⟩ := and2 c
    obtain ⟨c3, c4⟩ := and2 c
    obtain ⟨l, hl, k⟩ := optP_ex k
    exact aug_sub O S oe z o c1 (not_true c3) c4 (ownL_eq hl) k
theorem vexpr_sound {e : Expr} {pos2 : Pos} {f : Expr → (V → Prop) → Prop} (O : OkAt X ok) (S : SndE prog w X A env Γ ok f) (oe : EnvOk sc env) (z : FSt X h0 G0 env Γ oa G h) (o : ok A h)
    (k : vExprSt f sc e Γ K) : wpH (model prog w) X A (exec (.Expr e pos2) env) (SPost X h0 G0 env G K) h := by
  obtain ⟨⟨g, args, kws, pos⟩, e1, k1⟩ := optP_ex k
  obtain ⟨⟨b, name, apos⟩, e2, k2⟩ := optP_ex k1
  obtain ⟨x, e3, k3⟩ := optP_ex k2
  obtain ⟨arg, e4, k4⟩ := optP_ex k3
  obtain ⟨c, k5⟩ := chk_and k4
  obtain ⟨c0, c⟩ := and2 c
  obtain ⟨c1, c⟩ := and2 c
  obtain ⟨c2, c3⟩ := and2 c
  obtain ⟨l, hl, k6⟩ := optP_ex k5
  clear k k1 k2 k3 k4 k5
  obtain ⟨px, rfl⟩ := asNm_eq e3
  cases asAtt_eq e2
  cases asCall_eq e1
  cases one_eq e4
  cases List.isEmpty_iff.mp c0
  have hx := ownL_eq hl
  cases hn : sameN name appendS with
  | true =>
    rw [hn] at k6
    have hn := sameN_iff.mp hn
    rcases opt2_or k6 with ⟨⟨y, l2, ie, apos2, pos3⟩, hp, k7⟩ | ⟨_, k7⟩
    · obtain ⟨d, k8⟩ := chk_and k7
      obtain ⟨d1, d⟩ := and2 d
      obtain ⟨d2, d⟩ := and2 d
      obtain ⟨d3, d4⟩ := and2 d
      clear k6 k7
      obtain ⟨py, e, hy⟩ := popOf_eq hp
      replace e : arg = .Call (.Attribute (.Name y py) popS apos2) [ie] [] pos3 := e
      clear hp
      subst e
      exact append_pop O S oe z o c1 (not_true c2) c3 hn hx hy d1 (not_true d2) d3 (not_true d4) k8
    · exact append_own O S oe z o c1 (not_true c2) c3 hn hx k7
  | false =>
    rw [hn] at k6
    exact k6.elim
end

theorem vs_sound {sc : Names} {env : Env} (oe : EnvOk sc env) (O : OkAt X ok) (PO : ParOk prog w X ok P) (Z : ZipSnd prog w X A ok P) : ∀ n (h0 G0 : GMap), Adm X A ok env h0 G0 →
    (∀ s K Γ oa G h, FSt X h0 G0 env Γ oa G h → vs P ow n sc s Γ K → wpH (model prog w) X A (exec s env) (SPost X h0 G0 env G K) h) ∧
    (∀ ss K Γ oa G h, FSt X h0 G0 env Γ oa G h → vss P ow n sc ss Γ K → wpH (model prog w) X A (execs ss env) (SPost X h0 G0 env G K) h)
  | 0, h0, G0, o0 => ⟨fun s K Γ oa G h z k => k.elim, fun s K Γ oa G h z k => k.elim⟩
  | n + 1, h0, G0, o0 => by
    have IH : Ih prog w X A ok P n := sound O PO n
    have S : ∀ Γ, SndE prog w X A env Γ ok (fun e K => ve P n sc e Γ K) := fun Γ => (IH sc env Γ oe).1
    have T : ∀ Γ, SndT prog w X A env Γ ok (fun e K => vt P n sc e Γ K) := fun Γ => (IH sc env Γ oe).2
    have BB : ∀ ss B G0, Adm X A ok env B G0 → SndB prog w X A B G0 env ss (fun Γ K => vss P ow n sc ss Γ K) := fun ss B G0 o0 K Γ oa G h z k => (vs_sound oe O PO Z n B G0 o0).2 ss K Γ oa G h z k
    have B : ∀ ss, SndB prog w X A h0 G0 env ss (fun Γ K => vss P ow n sc ss Γ K) := fun ss => BB ss h0 G0 o0
    refine ⟨fun s K Γ oa G h z k => ?_, fun ss K Γ oa G h z k => ?_⟩
    · have o : ok A h := o0 _ _ _ _ z
      cases s with
      | Assign ts value pos =>
        obtain ⟨t, e, k⟩ := optP_ex k
        cases one_eq e
        exact vassign_sound O PO oe z o k
      | AugAssign target op value pos => exact vaug_sound O (S Γ) oe z o k
      | Expr e pos => exact vexpr_sound O (S Γ) oe z o k
      | If test body orelse pos =>
        refine ⟨fun tk htk => wpAny_If ((T Γ _ _ G h z.rd z.leh o k).use htk fun b h1 tk1 l1 ⟨s1, G1, g1, le1, k1⟩ => ?_)⟩
        have z1 := z.step s1 g1 le1
        cases b with
        | true => exact (B _ _ _ _ _ _ z1 (k1.1 rfl)).use l1 fun f h2 tk2 l2 p => ⟨h2, tk2, l2, rfl, p.up g1.up⟩
        | false => exact (B _ _ _ _ _ _ z1 (k1.2 rfl)).use l1 fun f h2 tk2 l2 p => ⟨h2, tk2, l2, rfl, p.up g1.up⟩
      | While test body orelse pos =>
        obtain ⟨c, k⟩ := chk_and k
        cases List.isEmpty_iff.mp c
        refine while_sound (ft := fun Γ K => vt P n sc _ Γ K) O o0 (fun Γ e K G h rd l o ke => ?_) z (B _) k
        obtain ⟨rfl, ke⟩ := ke
        exact T Γ _ _ G h rd l o ke
      | For target iter body orelse pos =>
        obtain ⟨ht, k⟩ := chk_and k
        rcases opt2_or k with ⟨⟨f, a, b⟩, hz, k1⟩ | ⟨_, k⟩
        · obtain ⟨zo, k2⟩ := k1
          clear k
          obtain ⟨pf, pos, e⟩ := zipOf_eq hz
          replace e : iter = .Call (.Name f pf) [a, b] [] pos := e
          clear hz
          subst e
          exact Z n sc env Γ oa G h h0 G0 K _ pf pos _ _ _ _ _ _ _ _ oe (S Γ) z o0 (BB _) (BB _) ht zo k2
        · exact for_plain O (S Γ) oe z o (B _) (B _) ht k
      | Return e pos =>
        obtain ⟨e', q, k⟩ := optP_ex k
        subst q
        exact froze_ret z o (S _) k
      | Break pos => exact ⟨fun tk htk => wpAny_Break ⟨h, tk, htk, rfl, Γ, oa, G, fun _ _ e => e, z, k⟩⟩
      | Pass pos =>
        rw [exec_Pass]
        exact wpH.at (wpH.pure ⟨Γ, oa, G, fun _ _ e => e, z, k⟩)
      | _ => exact k.elim
    · cases ss with
      | nil => exact ⟨fun tk htk => wpAny_execs_nil ⟨h, tk, htk, rfl, Γ, oa, G, fun _ _ e => e, z, k⟩⟩
      | cons s r =>
        rw [execs_cons]
        refine wpH.bind (wpH.mono ((vs_sound oe O PO Z n h0 G0 o0).1 _ _ Γ oa G h z k) fun f h1 p => ?_)
        cases f with
        | next =>
          obtain ⟨Γ1, oa1, G1, up, z1, k1⟩ := p
          exact wpH.mono (B _ _ Γ1 oa1 G1 h1 z1 k1) fun f h2 p2 => p2.up up
        | brk => exact wpH.pure p
        | cont => exact wpH.pure p
        | ret v => exact wpH.pure p
end
end Mine

-- part E24
open PySem
set_option Elab.async false
set_option maxRecDepth 100000
set_option linter.unusedVariables false
namespace Mine

noncomputable def FrOk (X : Fix) (l : List Env) (h : Heap) : Prop := ∀ env ∈ l, env.scope.kind ≠ .module ∧ ∃ L m, env.frame = some L ∧ X.top.get? L = none ∧ h.Ns L m
structure okN (X : Fix) (n : Nat) (A : Around) (h : Heap) : Prop where
  hh : A.handled = none
  depth : A.depth + n < 900
  units : A.units + 3 * n < 5000
  top : ∀ a o, X.top.get? a = some o → h.get? a = some o
  below : ∃ outer, PyProof.Rows.Below A X.top outer h ∧ FrOk X outer h

theorem okN_ok (X : Fix) (n : Nat) : OkAt X (okN X n) where
  keep := fun A h h' o s => ⟨o.hh, o.depth, o.units, fun a ob e => s.top (o.top a ob e) (by rw [e]; rfl), by
    obtain ⟨outer, b, fr⟩ := o.below
    refine ⟨outer, ⟨b.stack, fun a ob e => s.top (o.top a ob e) (by rw [e]; rfl), b.frames.of_keeps fun a ob e _ => ?_⟩, fun env he => ?_⟩
    · obtain ⟨o', e', d⟩ := s.data e
      exact ⟨o', e', d⟩
    · obtain ⟨k, L, m, e1, e2, e3⟩ := fr env he
      exact ⟨k, L, m, e1, e2, s.ns e3⟩⟩
  room := fun A h o => ⟨o.hh, by have := o.units; omega⟩
  top := fun A h a ob o e => o.top a ob e

structure FnAt (X : Fix) (a : Addr) (ps : List Str) (names : Names) (body : List Stmt) (o : Obj) (fd : FuncData) : Prop where
  ho : X.top.get? a = some o
  hd : o.data = .func fd
  hb : fd.body = .stmts body
  hn : fd.scope.names = names
  lim : X.top.NoLimit
  cd : X.top.CodeRec fd.code fd.qualname
  bind : ∀ s vals, vals.length = ps.length → BindsTo s fd ⟨vals, []⟩ (ps.zip vals)
  cell : ∀ x ∈ fd.scope.names, x.2 ≠ .cell
  free : ∀ x ∈ fd.scope.names, x.2 ≠ .free
  loc : ∀ p ∈ ps, fd.scope.names.lookup p = some .local
  nodup : ps.Nodup
  gl : fd.globals = mainGlobals
  bi : fd.builtins = builtinsNs
  clo : fd.closure = []
  co : fd.scope.isCoroutine = false
  gen : fd.scope.isGenerator = false
  kind : fd.scope.kind = .function

noncomputable def argsΓ (ps : List Str) (Vs : List V) : Ctx := ps.zip (Vs.map Ent.val)

theorem args_find {G : GMap} : ∀ {ps : List Str} {vals : List Value} {Vs : List V} {x : Str} {e : Ent}, ps.Nodup → vals.length = ps.length → RelL G vals Vs → (argsΓ ps Vs).find x = some e →
    ∃ u xv, e = .val xv ∧ (ps.zip vals).lookup x = some u ∧ Rel G u xv ∧ x ∈ ps
  | [], _, _, _, _, _, _, _, h => by cases h
  | p :: ps, [], _, _, _, _, hl, _, _ => by simp at hl
  | p :: ps, v :: vals, _, x, e, nd, hl, .cons _ xv _ Vs r rs, h => by
    replace h : Ctx.find ((p, .val xv) :: argsΓ ps Vs) x = some e := h
    unfold Ctx.find at h
    cases hs : sameN x p with
    | true =>
      have e1 := sameN_iff.mp hs
      subst e1
      simp only [hs] at h
      cases h
      exact ⟨v, xv, rfl, by simp, r, by simp⟩
    | false =>
      simp only [hs] at h
      obtain ⟨u, y, e1, e2, r2, m⟩ := args_find (List.nodup_cons.mp nd).2 (by simpa using hl) rs h
      have : (x == p) = false := by rw [← hs, sameN_eq]
      exact ⟨u, y, e1, by simp [List.lookup_cons, this, e2], r2, by simp [m]⟩

theorem lookup_mem {α β : Type} [BEq α] [LawfulBEq α] : ∀ {l : List (α × β)} {x : α} {u : β}, l.lookup x = some u → (x, u) ∈ l
  | (y, v) :: r, x, u, h => by
    rw [List.lookup_cons] at h
    cases hx : x == y with
    | true => rw [hx] at h; cases h; rw [eq_of_beq hx]; simp
    | false => rw [hx] at h; exact List.mem_cons_of_mem _ (lookup_mem h)
theorem lookup_of_mem {α β : Type} [BEq α] [LawfulBEq α] : ∀ {l : List (α × β)} {x : α} {u : β}, (l.map (·.1)).Nodup → (x, u) ∈ l → l.lookup x = some u
  | (y, v) :: r, x, u, nd, h => by
    rw [List.map_cons, List.nodup_cons] at nd
    rw [List.lookup_cons]
    rcases List.mem_cons.mp h with h1 | h1
    · cases h1; simp
    · have : x ≠ y := fun q => nd.1 (List.mem_map.mpr ⟨(x, u), h1, q⟩)
      rw [beq_false_of_ne this]
      exact lookup_of_mem nd.2 h1
theorem zip_fst : ∀ {ps : List Str} {vals : List Value}, vals.length = ps.length → (ps.zip vals).map (·.1) = ps
  | [], _, _ => rfl
  | p :: ps, [], h => by simp at h
  | p :: ps, v :: vals, h => by simp [zip_fst (ps := ps) (vals := vals) (by simpa using h)]
theorem lookup_rev {ps : List Str} {vals : List Value} {x : Str} {u : Value} (nd : ps.Nodup) (hl : vals.length = ps.length) (h : (ps.zip vals).lookup x = some u) : (ps.zip vals).reverse.lookup x = some u := by
  refine lookup_of_mem ?_ (List.mem_reverse.mpr (lookup_mem h))
  rw [List.map_reverse, zip_fst hl]
  exact (List.reverse_perm ps).nodup_iff.mpr nd

theorem fn_gives {prog : Program} {w : World} {X : Fix} {P : Par} {ow : List Str} {a : Addr} {ps : List Str} {names : Names} {body : List Stmt} {o : Obj} {fd : FuncData} {n fuel : Nat} {Vs : List V} {r : V}
    (Fa : FnAt X a ps names body o fd) (PO : ParOk prog w X (okN X n) P) (Z : ∀ A, ZipSnd prog w X A (okN X n) P) (hlen : Vs.length = ps.length)
    (vc : vss P ow fuel names body (argsΓ ps Vs) (fun out => out = .ret r)) : FnGives prog w X (okN X (n + 1)) a Vs r := by
  intro A h G vals ok le rl
  have hl : vals.length = ps.length := rl.length.trans hlen
  have lim : h.NoLimit := Fa.lim.keeps ok.top
  refine ⟨fun tk htk => wpAny_call ?_⟩
  refine codeAny_call_def (s := X.at h tk) (by have := ok.depth; have e : recursionLimit = recursionLimit := rfl; exact Nat.lt_of_lt_of_le (by omega : A.depth < 900) (by decide)) (ok.top _ _ Fa.ho) Fa.hd lim (Fa.cd.keeps ok.top) Fa.hb (Fa.bind _ vals hl) Fa.cell (fun x hx => ?_) (fun h₁ hns hkeep => ?_) Fa.co Fa.gen Fa.kind
  · have : x.1 ∈ ps := by rw [← zip_fst hl]; exact List.mem_map.mpr ⟨x, hx, rfl⟩
    exact Fa.loc _ this
  have hns : h₁.Ns h.objs.size (fun x => (ps.zip vals).reverse.lookup x) := hns
  have oe : EnvOk names (callEnv fd h.objs.size a) := ⟨Fa.hn, Fa.kind, Fa.gl, Fa.bi, fun x hx => by
    exfalso
    rcases isCellK_iff.mp hx with q | q
    · have := kindN_mem q; rw [← Fa.hn] at this; exact Fa.cell _ this rfl
    · have := kindN_mem q; rw [← Fa.hn] at this; exact Fa.free _ this rfl⟩
  have sub1 : Sub X h h₁ := .of hkeep
  have cl : (callEnv fd h.objs.size a).cells = [] := Fa.clo
  have z : FSt X (fun a => h.get? a) G (callEnv fd h.objs.size a) (argsΓ ps Vs) (fun _ => 0) G h₁ := {
    leh := le.sub sub1
    l0 := le
    sub := sub1
    grow := ⟨fun _ _ e => e, fun _ _ e => .inl e⟩
    ns := ⟨_, hns⟩
    fL := get_size h
    nL := fun o e => by have := (le _ _ e).1; rw [show (callEnv fd h.objs.size a).locals = h.objs.size from rfl, get_size] at this; cases this
    cell := fun x c e => by rw [cl] at e; cases e
    cinj := fun x y c e => by rw [cl] at e; cases e
    val := fun x v e => by
      obtain ⟨u, xv, e1, e2, r2, m⟩ := args_find Fa.nodup hl rl e
      cases e1
      exact ⟨u, .inl ⟨Fa.loc x m, _, hns, lookup_rev Fa.nodup hl e2⟩, r2⟩
    own := fun x l e => by obtain ⟨u, xv, e1, _⟩ := args_find Fa.nodup hl rl e; cases e1
    inj := fun x y l l' e => by obtain ⟨u, xv, e1, _⟩ := args_find Fa.nodup hl rl e; cases e1 }
  obtain ⟨outer, bl, frs⟩ := ok.below
  have topL : X.top.get? h.objs.size = none := by
    cases q : X.top.get? h.objs.size with
    | none => rfl
    | some o => exact absurd (ok.top _ _ q) (by rw [get_size]; exact fun e => by cases e)
  have o0 : ∀ Γ oa G' h', FSt X (fun a => h.get? a) G (callEnv fd h.objs.size a) Γ oa G' h' → okN X n (A.deeper (callEnv fd h.objs.size a)) h' := fun Γ oa G' h' z' => by
    refine ⟨ok.hh, by have := ok.depth; show A.depth + 1 + n < 900; omega, by have := ok.units; show A.units + 3 + 3 * n < 5000; omega, fun b ob e => z'.sub.top (ok.top b ob e) (by rw [e]; rfl), callEnv fd h.objs.size a :: outer, ⟨Around.frames_deeper bl.stack, fun b ob e => z'.sub.top (ok.top b ob e) (by rw [e]; rfl), ?_⟩, ?_⟩
    · obtain ⟨m, n'⟩ := z'.ns
      refine .cons (by show fd.scope.kind ≠ .module; rw [Fa.kind]; decide) rfl n' topL (bl.frames.of_keeps fun b ob e _ => ?_)
      obtain ⟨o', e', d⟩ := z'.sub.data e
      exact ⟨o', e', d⟩
    · intro env' he
      rcases List.mem_cons.mp he with rfl | he
      · obtain ⟨m, n'⟩ := z'.ns
        exact ⟨by show fd.scope.kind ≠ .module; rw [Fa.kind]; decide, _, m, rfl, topL, n'⟩
      · obtain ⟨k, L, m, e1, e2, e3⟩ := frs env' he
        refine ⟨k, L, m, e1, e2, ?_⟩
        obtain ⟨o, es, ep, ho, hd, r⟩ := e3
        obtain ⟨o', e', d⟩ := z'.sub.data (a := L) ho
        exact ⟨o', es, ep, e', d.trans hd, r⟩
  have tk' : 1 ≤ tk + (ps.zip vals).length := Nat.le_add_right_of_le htk
  refine ((vs_sound (P := P) (ow := ow) oe (okN_ok X n) PO (Z _) fuel _ _ o0).2 body _ _ _ _ _ z vc).use tk' fun f h2 tk2 l2 p => ?_
  cases f with
  | next => obtain ⟨_, _, _, _, _, q⟩ := p; cases q
  | brk => obtain ⟨_, _, _, _, _, q⟩ := p; cases q
  | cont => obtain ⟨_, _, _, _, _, q⟩ := p; cases q
  | ret v =>
    obtain ⟨x, G', s, g, le', r', q⟩ := p
    cases q
    exact ⟨h2, tk2, l2, rfl, s, r, G', ⟨g.up, g.new⟩, le', r', rfl⟩
end Mine

-- part Z1
open PySem
set_option Elab.async false
set_option maxRecDepth 100000
set_option linter.unusedVariables false
namespace Mine

section
variable {prog : Program} {w : World} {A : Around} {E : Value → Shared → Prop} {s : Shared}

theorem draw_range {it : Addr} {x left step : Int} {Q : Value → Shared → Prop} (hit : IsRangeIter s.heap it x left step) (hleft : 0 < left)
    (hQ : ∀ h', IsRangeIter h' it (x + step) (left - 1) step → Heap.SameBut it s.heap h' → Q (.int x s.toks) { s with heap := h', toks := s.toks + 1 }) :
    wpAny (model prog w) A (Builtin.SmallTypes.nextOf (.ref it)) Q E s := by
  have hT : s.TypeIs (.ref it) "range_iterator" := ⟨_, hit, rfl⟩
  unfold Builtin.SmallTypes.nextOf
  refine wpAny_bind (wpAny_callSpecial?_slot (name := Str.ofString "__next__") hT F.slot_range_iterator_next
    (call_meets F.slot_range_iterator_next hT F.entry_range_iterator_next (F.args_range_iterator_next_1 _) (AutoRange.range_iterator___next___range_iterator_1 it x left step (by omega)) ⟨hit, ?_⟩))
  exact wpAny_pure (hQ _ (Heap.get?_update_self _ (Heap.get?_update_self _ hit rfl) rfl) ((Heap.SameBut.update ..).trans (Heap.SameBut.update ..)))

theorem draw_range_end {it : Addr} {x left step : Int} {Q : Value → Shared → Prop} (hh : A.handled = none) (hit : IsRangeIter s.heap it x left step) (hleft : left ≤ 0)
    (hE : ∀ h' e, Heap.ExtBut it s.heap h' → (∃ o, h'.get? e = some o ∧ o.cls = .type "StopIteration") → E (.ref e) { s with heap := h' }) : wpAny (model prog w) A (Builtin.SmallTypes.nextOf (.ref it)) Q E s := by
  have hT : s.TypeIs (.ref it) "range_iterator" := ⟨_, hit, rfl⟩
  unfold Builtin.SmallTypes.nextOf
  refine wpAny_bind (wpAny_callSpecial?_slot (name := Str.ofString "__next__") hT F.slot_range_iterator_next
    (wpAny_call_entry F.slot_range_iterator_next hT F.entry_range_iterator_next ?_ (F.args_range_iterator_next_1 _)))
  show wpAny _ _ (field (.ref it) 0 >>= _) _ _ s
  refine wpAny_bind (wpAny_field hit rfl (x := rawInt x) rfl ?_)
  show wpAny _ _ (field (.ref it) 1 >>= _) _ _ s
  refine wpAny_bind (wpAny_field hit rfl (x := rawInt left) rfl ?_)
  show wpAny _ _ (field (.ref it) 2 >>= _) _ _ s
  refine wpAny_bind (wpAny_field hit rfl (x := rawInt step) rfl ?_)
  show wpAny _ _ (if left ≤ 0 then _ else _) _ _ s
  rw [if_pos hleft]
  refine wpAny_bind (wpAny_rule ?_)
  refine wpAny_bind ?_
  show wpAny _ _ (newExc (.type "StopIteration") [] >>= _) _ _ _
  refine wpAny_bind ?_
  simp only [newExc, newTuple]
  refine wpAny_bind (wpAny_newObj_type ?_ (by size_fits))
  refine wpAny_bind (m := firstArgMember _ _) (wpAny_of_eq (a := Value.none) (by first | rfl | (simp only [firstArgMember]; rfl)) ?_)
  refine wpAny_newObj_type ?_ (by size_fits)
  simp only [raiseNew]
  refine wpAny_bind (wpAny_handled ?_)
  first | rw [show A.in1.handled = none from hh] | rw [hh]
  refine wpAny_bind (wpAny_pure (wpAny_throw ?_))
  exact hE _ _ (((Heap.ExtBut.refl it s.heap).push _).push _) ⟨_, Heap.get?_push_size _ rfl, rfl⟩

structure Apart (z TI TO i1 i2 l2 : Addr) : Prop where
  TIz : TI ≠ z
  TOz : TO ≠ z
  i1z : i1 ≠ z
  i2z : i2 ≠ z
  TITO : TI ≠ TO
  TIi1 : TI ≠ i1
  TIi2 : TI ≠ i2
  TOi1 : TO ≠ i1
  TOi2 : TO ≠ i2
  i12 : i1 ≠ i2
  l2z : l2 ≠ z
  l2TO : l2 ≠ TO
  l2i1 : l2 ≠ i1
  l2i2 : l2 ≠ i2

theorem zip_item {z TI TO i1 i2 l2 : Addr} {lo left : Int} {k2 : Nat} {ys : Array Value} {y a b : Value} {Q : Option Value → Shared → Prop} (D : Apart z TI TO i1 i2 l2)
    (hz : IsZip s.heap z TI TO .none) (hTI : IsPair s.heap TI (.ref i1) (.ref i2)) (hTO : IsPair s.heap TO a b)
    (h1 : IsRangeIter s.heap i1 lo left 1) (h2 : s.heap.IsListIter i2 l2 k2) (hl2 : s.heap.IsList l2 ys) (hx : 0 < left) (hy : ys[k2]? = some y)
    (hQ : ∀ h', IsZip h' z TI TO (rawInt s.heap.objs.size) → IsPair h' TO (.int lo s.toks) y → IsRangeIter h' i1 (lo + 1) (left - 1) 1 → h'.IsListIter i2 l2 (k2 + 1) → IsPair h' s.heap.objs.size (.int lo s.toks) y → h'.objs.size = s.heap.objs.size + 1 →
      (∀ c o, c ≠ z → c ≠ TO → c ≠ i1 → c ≠ i2 → s.heap.get? c = some o → h'.get? c = some o) → Q (some (.ref s.heap.objs.size)) { s with heap := h', toks := s.toks + 1 }) :
    wpAny (model prog w) A (pyNext (.ref z)) Q E s := by
  have hT : s.TypeIs (.ref z) "zip" := ⟨_, hz, rfl⟩
  unfold pyNext
  refine wpAny_bind (wpAny_attempt (wpAny_callSpecial?_slot (name := Str.ofString "__next__") hT F.slot_zip_next
    (wpAny_call_entry F.slot_zip_next hT F.entry_zip_next ?_ (F.args_zip_next_1 _))))
  show wpAny _ _ (field (.ref z) 2 >>= _) _ _ _
  refine wpAny_bind (wpAny_field hz rfl (x := .bool false) rfl ?_)
  show wpAny _ _ (field (.ref z) 3 >>= _) _ _ _
  refine wpAny_bind (wpAny_field hz rfl (x := .ref TI) rfl ?_)
  refine wpAny_bind (wpAny_seqItems hTI rfl ?_)
  show wpAny _ _ (Builtin.SmallTypes.ownedTupleIsFree (.ref z) >>= _) _ _ _
  refine wpAny_bind ?_
  unfold Builtin.SmallTypes.ownedTupleIsFree
  refine wpAny_bind (wpAny_field hz rfl (x := .none) rfl (wpAny_pure ?_))
  simp only [if_true]
  refine wpAny_bind (wpAny_rule ?_)
  refine wpAny_bind (wpAny_field hz rfl (x := .ref TO) rfl ?_)
  refine wpAny_bind (wpAny_setField_rec hz (by simp) fun h₁ hz₁ hs₁ => ?_)
  replace hz₁ : IsZip h₁ z TI TO .ellipsis := hz₁
  refine wpAny_bind ?_
  simp only [List.zipIdx_cons, List.zipIdx_nil, List.forIn_cons, List.forIn_nil]
  refine wpAny_bind (wpAny_bind (wpAny_onRaise ?_))
  show wpAny _ _ (Builtin.SmallTypes.nextOf (.ref i1) >>= _) _ _ _
  have h1₁ : IsRangeIter h₁ i1 lo left 1 := hs₁.extBut _ _ D.i1z h1
  refine wpAny_bind (draw_range (s := { s with heap := h₁ }) h1₁ hx fun h₂ h1₂ hs₂ => wpAny_pure ?_)
  replace hs₂ : Heap.SameBut i1 h₁ h₂ := hs₂
  have hTO₂ : IsPair h₂ TO a b := hs₂.extBut _ _ D.TOi1 (hs₁.extBut _ _ D.TOz hTO)
  refine wpAny_bind (wpAny_seqItems hTO₂ rfl ?_)
  refine wpAny_bind (wpAny_updateSeq_pair hTO₂ fun h₃ hTO₃ hs₃ => ?_)
  replace hTO₃ : IsPair h₃ TO (.int lo s.toks) b := hTO₃
  replace hs₃ : Heap.SameBut TO h₂ h₃ := hs₃
  refine wpAny_bind (wpAny_letGo (wpAny_pure ?_))
  refine wpAny_bind (wpAny_bind (wpAny_onRaise ?_))
  show wpAny _ _ (Builtin.SmallTypes.nextOf (.ref i2) >>= _) _ _ _
  refine wpAny_bind (wpAny_nextOf_list_item (((h2.extBut hs₁.extBut D.i2z).extBut hs₂.extBut D.i12.symm).extBut hs₃.extBut D.TOi2.symm)
    (((hl2.extBut hs₁.extBut D.l2z).extBut hs₂.extBut D.l2i1).extBut hs₃.extBut D.l2TO) hy fun h₄ h2₄ hs₄ => wpAny_pure ?_)
  replace hs₄ : Heap.SameBut i2 h₃ h₄ := hs₄
  have hTO₄ : IsPair h₄ TO (.int lo s.toks) b := hs₄.extBut _ _ D.TOi2 hTO₃
  refine wpAny_bind (wpAny_seqItems hTO₄ rfl ?_)
  refine wpAny_bind (wpAny_updateSeq_pair hTO₄ fun h₅ hTO₅ hs₅ => ?_)
  replace hTO₅ : IsPair h₅ TO (.int lo s.toks) y := hTO₅
  replace hs₅ : Heap.SameBut TO h₄ h₅ := hs₅
  refine wpAny_bind (wpAny_letGo (wpAny_pure (wpAny_pure ?_)))
  refine wpAny_bind (wpAny_seqItems hTO₅ rfl ?_)
  refine wpAny_bind (wpAny_newTuple ?_)
  have hsz : h₅.objs.size = s.heap.objs.size := by rw [hs₅.1, hs₄.1, hs₃.1, hs₂.1, hs₁.1]
  have hz₅ : IsZip h₅ z TI TO .ellipsis := hs₅.extBut _ _ D.TOz.symm (hs₄.extBut _ _ D.i2z.symm (hs₃.extBut _ _ D.TOz.symm (hs₂.extBut _ _ D.i1z.symm hz₁)))
  have hk₅ : ∀ c o, c ≠ z → c ≠ TO → c ≠ i1 → c ≠ i2 → s.heap.get? c = some o → h₅.get? c = some o := fun c o c1 c2 c3 c4 e =>
    hs₅.extBut _ _ c2 (hs₄.extBut _ _ c4 (hs₃.extBut _ _ c2 (hs₂.extBut _ _ c3 (hs₁.extBut _ _ c1 e))))
  have h1₅ : IsRangeIter h₅ i1 (lo + 1) (left - 1) 1 := hs₅.extBut _ _ D.TOi1.symm (hs₄.extBut _ _ D.i12 (hs₃.extBut _ _ D.TOi1.symm h1₂))
  have h2₅ : h₅.IsListIter i2 l2 (k2 + 1) := h2₄.extBut hs₅.extBut D.TOi2.symm
  have hzlt : z < h₅.objs.size := Heap.lt_size hz₅
  show wpAny _ _ (Builtin.SmallTypes.ownedTupleHandOut (.ref z) (.ref h₅.objs.size) >>= _) _ _ _
  refine wpAny_bind ?_
  unfold Builtin.SmallTypes.ownedTupleHandOut
  have hz₆ : IsZip (h₅.push { cls := .type "tuple", data := .seq #[.int lo s.toks, y] }) z TI TO .ellipsis := Heap.get?_push_of_some _ hz₅
  refine wpAny_bind (wpAny_setField_rec hz₆ (by simp) fun h₇ hz₇ hs₇ => ?_)
  replace hz₇ : IsZip h₇ z TI TO (rawInt h₅.objs.size) := hz₇
  refine wpAny_setField_rec hz₇ (by simp) fun h₈ hz₈ hs₈ => ?_
  replace hz₈ : IsZip h₈ z TI TO (rawInt h₅.objs.size) := hz₈
  have up : ∀ c o, c ≠ z → h₅.get? c = some o → h₈.get? c = some o := fun c o c1 e => hs₈.extBut _ _ c1 (hs₇.extBut _ _ c1 (Heap.get?_push_of_some _ e))
  have hT₈ : IsPair h₈ h₅.objs.size (.int lo s.toks) y := hs₈.extBut _ _ (Nat.ne_of_gt hzlt) (hs₇.extBut _ _ (Nat.ne_of_gt hzlt) (Heap.get?_push_size _ rfl))
  have hz8 : h₈.objs.size = h₅.objs.size + 1 := by rw [hs₈.1, hs₇.1, Heap.size_push]
  rw [hsz] at hz₈ hT₈ hz8
  refine wpAny_pure ⟨_, rfl, ?_⟩
  refine wpAny_pure ?_
  rw [hsz]
  exact hQ h₈ hz₈ (up _ _ D.TOz hTO₅) (up _ _ D.i1z h1₅) (h2₅.at fun o e => up _ o D.i2z e) hT₈ hz8 fun c o c1 c2 c3 c4 e => up c o c1 (hk₅ c o c1 c2 c3 c4 e)

theorem zip_end {z TI TO i1 i2 l2 : Addr} {lo left : Int} {k2 : Nat} {ys : Array Value} {a b : Value} {Q : Option Value → Shared → Prop} (hh : A.handled = none) (D : Apart z TI TO i1 i2 l2)
    (hz : IsZip s.heap z TI TO .none) (hTI : IsPair s.heap TI (.ref i1) (.ref i2)) (hTO : IsPair s.heap TO a b)
    (h1 : IsRangeIter s.heap i1 lo left 1) (h2 : s.heap.IsListIter i2 l2 k2) (hl2 : s.heap.IsList l2 ys) (hend : left ≤ 0 ∨ ys[k2]? = none)
    (hQ : ∀ h' tk, (∀ c o, c ≠ z → c ≠ TO → c ≠ i1 → c ≠ i2 → s.heap.get? c = some o → h'.get? c = some o) → Q none { s with heap := h', toks := tk }) : wpAny (model prog w) A (pyNext (.ref z)) Q E s := by
  have hT : s.TypeIs (.ref z) "zip" := ⟨_, hz, rfl⟩
  unfold pyNext
  have fin : ∀ h' e tk, (∀ c o, c ≠ z → c ≠ TO → c ≠ i1 → c ≠ i2 → s.heap.get? c = some o → h'.get? c = some o) → (∃ o, h'.get? e = some o ∧ o.cls = .type "StopIteration") →
      wpAny (model prog w) A (isInstance (.ref e) (.type "StopIteration")) (fun b s' => b = true ∧ s' = { s with heap := h', toks := tk }) E { s with heap := h', toks := tk } := fun h' e tk _ ⟨o, ho, hc⟩ =>
    wpAny_isInstance (T := "StopIteration") (b := true) ⟨o, ho, hc⟩ isSubtype_stop ⟨rfl, rfl⟩
  refine wpAny_bind (wpAny_attempt (wpAny_callSpecial?_slot (name := Str.ofString "__next__") hT F.slot_zip_next
    (wpAny_call_entry F.slot_zip_next hT F.entry_zip_next ?_ (F.args_zip_next_1 _))))
  show wpAny _ _ (field (.ref z) 2 >>= _) _ _ _
  refine wpAny_bind (wpAny_field hz rfl (x := .bool false) rfl ?_)
  show wpAny _ _ (field (.ref z) 3 >>= _) _ _ _
  refine wpAny_bind (wpAny_field hz rfl (x := .ref TI) rfl ?_)
  refine wpAny_bind (wpAny_seqItems hTI rfl ?_)
  show wpAny _ _ (Builtin.SmallTypes.ownedTupleIsFree (.ref z) >>= _) _ _ _
  refine wpAny_bind ?_
  unfold Builtin.SmallTypes.ownedTupleIsFree
  refine wpAny_bind (wpAny_field hz rfl (x := .none) rfl (wpAny_pure ?_))
  simp only [if_true]
  refine wpAny_bind (wpAny_rule ?_)
  refine wpAny_bind (wpAny_field hz rfl (x := .ref TO) rfl ?_)
  refine wpAny_bind (wpAny_setField_rec hz (by simp) fun h₁ hz₁ hs₁ => ?_)
  replace hz₁ : IsZip h₁ z TI TO .ellipsis := hz₁
  refine wpAny_bind ?_
  simp only [List.zipIdx_cons, List.zipIdx_nil, List.forIn_cons, List.forIn_nil]
  refine wpAny_bind (wpAny_bind (wpAny_onRaise ?_))
  show wpAny _ _ (Builtin.SmallTypes.nextOf (.ref i1) >>= _) _ _ _
  have h1₁ : IsRangeIter h₁ i1 lo left 1 := hs₁.extBut _ _ D.i1z h1
  by_cases hleft : left ≤ 0
  · refine wpAny_bind (draw_range_end (s := { s with heap := h₁ }) hh h1₁ hleft fun h₂ e hs₂ he => ?_)
    replace hs₂ : Heap.ExtBut i1 h₁ h₂ := hs₂
    obtain ⟨oe, hoe, hce⟩ := he
    have hz₂ : IsZip h₂ z TI TO .ellipsis := hs₂ _ _ D.i1z.symm hz₁
    have hez : e ≠ z := fun x => by subst x; rw [hz₂] at hoe; cases hoe; simp at hce
    refine wpAny_setField_rec hz₂ (by simp) fun h₃ _ hs₃ => ?_
    have hk := fun c o (c1 : c ≠ z) (c2 : c ≠ TO) (c3 : c ≠ i1) (c4 : c ≠ i2) x => hs₃.extBut c o c1 (hs₂ c o c3 (hs₁.extBut c o c1 x))
    refine wpAny_bind (wpAny_mono (fin h₃ e s.toks hk ⟨oe, hs₃.extBut _ _ hez hoe, hce⟩) (fun b s' ⟨e1, e2⟩ => ?_) fun _ _ x => x)
    subst e1; subst e2
    exact wpAny_pure (hQ _ _ hk)
  · have hy : ys[k2]? = none := hend.resolve_left hleft
    refine wpAny_bind (draw_range (s := { s with heap := h₁ }) h1₁ (by omega) fun h₂ h1₂ hs₂ => wpAny_pure ?_)
    replace hs₂ : Heap.SameBut i1 h₁ h₂ := hs₂
    have hTO₂ : IsPair h₂ TO a b := hs₂.extBut _ _ D.TOi1 (hs₁.extBut _ _ D.TOz hTO)
    refine wpAny_bind (wpAny_seqItems hTO₂ rfl ?_)
    refine wpAny_bind (wpAny_updateSeq_pair hTO₂ fun h₃ hTO₃ hs₃ => ?_)
    replace hs₃ : Heap.SameBut TO h₂ h₃ := hs₃
    refine wpAny_bind (wpAny_letGo (wpAny_pure ?_))
    refine wpAny_bind (wpAny_bind (wpAny_onRaise ?_))
    show wpAny _ _ (Builtin.SmallTypes.nextOf (.ref i2) >>= _) _ _ _
    refine wpAny_bind (wpAny_nextOf_list_end hh (((h2.extBut hs₁.extBut D.i2z).extBut hs₂.extBut D.i12.symm).extBut hs₃.extBut D.TOi2.symm)
      (((hl2.extBut hs₁.extBut D.l2z).extBut hs₂.extBut D.l2i1).extBut hs₃.extBut D.l2TO) hy fun h₄ e hs₄ he => ?_)
    replace hs₄ : Heap.ExtBut i2 h₃ h₄ := hs₄
    obtain ⟨oe, hoe, hce⟩ := he
    have hz₄ : IsZip h₄ z TI TO .ellipsis := hs₄ _ _ D.i2z.symm (hs₃.extBut _ _ D.TOz.symm (hs₂.extBut _ _ D.i1z.symm hz₁))
    have hez : e ≠ z := fun x => by subst x; rw [hz₄] at hoe; cases hoe; simp at hce
    refine wpAny_setField_rec hz₄ (by simp) fun h₅ _ hs₅ => ?_
    have hk := fun c o (c1 : c ≠ z) (c2 : c ≠ TO) (c3 : c ≠ i1) (c4 : c ≠ i2) x => hs₅.extBut c o c1 (hs₄ c o c4 (hs₃.extBut c o c2 (hs₂.extBut c o c3 (hs₁.extBut c o c1 x))))
    refine wpAny_bind (wpAny_mono (fin h₅ e (s.toks + 1) hk ⟨oe, hs₅.extBut _ _ hez hoe, hce⟩) (fun b s' ⟨e1, e2⟩ => ?_) fun _ _ x => x)
    subst e1; subst e2
    exact wpAny_pure (hQ _ _ hk)
end
end Mine

-- part Z2
open PySem
set_option Elab.async false
set_option maxRecDepth 100000
set_option linter.unusedVariables false
namespace Mine

noncomputable abbrev zH1 (h : Heap) (lo hi : Int) : Heap := h.push { cls := .type "range_iterator", data := .fields #[rawInt lo, rawInt (Builtin.Range.rangeSize lo hi 1), rawInt 1] }
noncomputable abbrev zH2 (h : Heap) (lo hi : Int) (l2 : Addr) : Heap := (zH1 h lo hi).push { cls := .type "list_iterator", data := .fields #[.ref l2, .int 0 0] }
noncomputable abbrev zH3 (h : Heap) (lo hi : Int) (l2 : Addr) : Heap := (zH2 h lo hi l2).push { cls := .type "tuple", data := .seq #[.ref h.objs.size, .ref (zH1 h lo hi).objs.size] }
noncomputable abbrev zH4 (h : Heap) (lo hi : Int) (l2 : Addr) : Heap := (zH3 h lo hi l2).push { cls := .type "tuple", data := .seq #[.none, .none] }
noncomputable abbrev zH5 (h : Heap) (lo hi : Int) (l2 : Addr) : Heap := (zH4 h lo hi l2).push { cls := .type "zip", data := .fields #[.none, .bool false, .bool false, .ref (zH2 h lo hi l2).objs.size, .ref (zH3 h lo hi l2).objs.size] }

theorem meets_zip (r l2 : Addr) (lo hi : Int) (t u v : Tok) (ys : Array Value) (hsm : Builtin.Range.small lo hi 1 = true) :
    Meets (Builtin.«zip.__new__» ⟨[.type "zip", .ref r, .ref l2], []⟩) (fun _ R s => IsRange s.heap r lo hi 1 t u v ∧ s.heap.IsList l2 ys ∧
      R (.ok (.ret (.ref (zH4 s.heap lo hi l2).objs.size))) { s with heap := zH5 s.heap lo hi l2 }) :=
  .of_wp fun prog w A R s h => by
    obtain ⟨hp, g, d, tk, os⟩ := s; obtain ⟨hl1, hl2, h⟩ := h
    have hsub := sub_zip
    have hL1 : IsRange (Shared.heap ⟨hp, g, d, tk, os⟩) r lo hi 1 t u v := hl1
    have hL2 : Heap.IsList (Shared.heap ⟨hp.push { cls := .type "range_iterator", data := .fields #[rawInt lo, rawInt (Builtin.Range.rangeSize lo hi 1), rawInt 1] }, g, d, tk, os⟩) l2 ys := Heap.IsList.push hl2 _
    wp_walk using wpAny_pyIter_range hL1 hsm, wpAny_pyIter_list hL2
    exact ⟨_, rfl, h⟩

section
variable {prog : Program} {w : World} {A : Around} {E : Value → Shared → Prop} {s : Shared}

theorem call_zip {r l2 : Addr} {lo hi : Int} {t u v : Tok} {ys : Array Value} {Q : Value → Shared → Prop} (hl1 : IsRange s.heap r lo hi 1 t u v) (hsm : Builtin.Range.small lo hi 1 = true) (hl2 : s.heap.IsList l2 ys)
    (h : ∀ h', IsZip h' (s.heap.objs.size + 4) (s.heap.objs.size + 2) (s.heap.objs.size + 3) .none → IsPair h' (s.heap.objs.size + 2) (.ref s.heap.objs.size) (.ref (s.heap.objs.size + 1)) →
      IsPair h' (s.heap.objs.size + 3) .none .none → IsRangeIter h' s.heap.objs.size lo (Builtin.Range.rangeSize lo hi 1) 1 → h'.IsListIter (s.heap.objs.size + 1) l2 0 → h'.objs.size = s.heap.objs.size + 5 →
      (∀ c o, s.heap.get? c = some o → h'.get? c = some o) → Q (.ref (s.heap.objs.size + 4)) { s with heap := h' }) :
    wpAny (model prog w) A (call (.type "zip") [.ref r, .ref l2]) Q E s := by
  refine callType_new F.called_zip (by decide) (F.typeCall_zip_2 _ _) (F.newCall_zip_2 _ _) (fun obj => F.args_object_init_3 obj _ _) F.entry_zip_new
    (meets_zip r l2 lo hi t u v ys hsm) ⟨hl1, hl2, ?_⟩
  have z1 : (zH1 s.heap lo hi).objs.size = s.heap.objs.size + 1 := Heap.size_push ..
  have z2 : (zH2 s.heap lo hi l2).objs.size = s.heap.objs.size + 2 := by rw [Heap.size_push, z1]
  have z3 : (zH3 s.heap lo hi l2).objs.size = s.heap.objs.size + 3 := by rw [Heap.size_push, z2]
  have z4 : (zH4 s.heap lo hi l2).objs.size = s.heap.objs.size + 4 := by rw [Heap.size_push, z3]
  have z5 : (zH5 s.heap lo hi l2).objs.size = s.heap.objs.size + 5 := by rw [Heap.size_push, z4]
  have g5 : (zH5 s.heap lo hi l2).get? (zH4 s.heap lo hi l2).objs.size = some _ := Heap.get?_push_size _ rfl
  have g4 : (zH5 s.heap lo hi l2).get? (zH3 s.heap lo hi l2).objs.size = some _ := Heap.get?_push_of_some _ (Heap.get?_push_size _ rfl)
  have g3 : (zH5 s.heap lo hi l2).get? (zH2 s.heap lo hi l2).objs.size = some _ := Heap.get?_push_of_some _ (Heap.get?_push_of_some _ (Heap.get?_push_size _ rfl))
  have g2 : (zH5 s.heap lo hi l2).get? (zH1 s.heap lo hi).objs.size = some _ := Heap.get?_push_of_some _ (Heap.get?_push_of_some _ (Heap.get?_push_of_some _ (Heap.get?_push_size _ rfl)))
  have g1 : (zH5 s.heap lo hi l2).get? s.heap.objs.size = some _ := Heap.get?_push_of_some _ (Heap.get?_push_of_some _ (Heap.get?_push_of_some _ (Heap.get?_push_of_some _ (Heap.get?_push_size _ rfl))))
  show _ ∧ _
  rw [z2, z3, z4] at g5
  rw [z1, z2] at g3
  rw [z3] at g4
  rw [z1] at g2
  rw [z4]
  exact ⟨⟨_, g5, rfl⟩, h _ g5 g3 g4 g1 ⟨_, g2, rfl, rfl⟩ z5 fun c o x =>
    Heap.get?_push_of_some _ (Heap.get?_push_of_some _ (Heap.get?_push_of_some _ (Heap.get?_push_of_some _ (Heap.get?_push_of_some _ x))))⟩
end
end Mine

-- part Z3
open PySem
set_option Elab.async false
set_option maxRecDepth 100000
set_option linter.unusedVariables false
namespace Mine

noncomputable def Own (env : Env) (Γ : Ctx) (oa : Str → Addr) (a : Addr) : Prop := a = env.locals ∨ (∃ y, env.cells.lookup y = some a) ∨ ∃ x l, Γ.find x = some (.own l) ∧ oa x = a
open Classical in
noncomputable def reB (env : Env) (Γ : Ctx) (oa : Str → Addr) (H : Heap) : GMap := fun a => if Own env Γ oa a then none else H.get? a

section
variable {prog : Program} {w : World} {A : Around} {X : Fix} {B G0 G : GMap} {H h : Heap} {env : Env} {Γ : Ctx} {oa : Str → Addr} {ok : Around → Heap → Prop}

theorem reB_no {a : Addr} (n : ¬ Own env Γ oa a) : reB env Γ oa H a = H.get? a := by unfold reB; rw [if_neg n]
theorem reB_own {a : Addr} (n : Own env Γ oa a) : reB env Γ oa H a = none := by unfold reB; rw [if_pos n]
theorem FSt.base_no (z : FSt X B G0 env Γ oa G H) {a : Addr} (n : Own env Γ oa a) : B a = none := by
  rcases n with rfl | ⟨y, e⟩ | ⟨x, l, e, rfl⟩
  · exact z.fL
  · exact (z.cell y a e).1
  · obtain ⟨_, _, _, _, _, f, _⟩ := z.own x l e; exact f
theorem FSt.own_g (z : FSt X B G0 env Γ oa G H) {a : Addr} (n : Own env Γ oa a) : ∀ o, G a ≠ some o := by
  rcases n with rfl | ⟨y, e⟩ | ⟨x, l, e, rfl⟩
  · exact z.nL
  · exact (z.cell y a e).2.2
  · obtain ⟨_, _, _, _, _, _, f⟩ := z.own x l e; exact f
theorem FSt.own_in (z : FSt X B G0 env Γ oa G H) {a : Addr} (n : Own env Γ oa a) : ∃ o, H.get? a = some o := by
  rcases n with rfl | ⟨y, e⟩ | ⟨x, l, e, rfl⟩
  · obtain ⟨m, o, _, _, ho, _⟩ := z.ns; exact ⟨o, ho⟩
  · obtain ⟨_, ⟨v, o, ho, _⟩, _⟩ := z.cell y a e; exact ⟨o, ho⟩
  · obtain ⟨vs, n, _, ho, _, _, _⟩ := z.own x l e; exact ⟨_, ho⟩

theorem FSt.rebase (z : FSt X B G0 env Γ oa G H) : FSt X (reB env Γ oa H) G env Γ oa G H where
  leh := z.leh
  l0 := fun a o e => ⟨by rw [reB_no fun n => z.own_g n o e]; exact (z.leh a o e).1, (z.leh a o e).2⟩
  sub := fun a o e => by
    by_cases n : Own env Γ oa a
    · rw [reB_own n] at e; cases e
    · rw [reB_no n] at e; exact .inl e
  grow := ⟨fun _ _ e => e, fun _ _ e => .inl e⟩
  ns := z.ns
  fL := reB_own (.inl rfl)
  nL := z.nL
  cell := fun x c e => ⟨reB_own (.inr (.inl ⟨x, e⟩)), (z.cell x c e).2⟩
  cinj := z.cinj
  val := z.val
  own := fun x l e => let ⟨vs, n, a, b, c, _, f⟩ := z.own x l e; ⟨vs, n, a, b, c, reB_own (.inr (.inr ⟨x, l, e, rfl⟩)), f⟩
  inj := z.inj

theorem FSt.back_sub (z : FSt X B G0 env Γ oa G H) {h2 : Heap} (s : SubB X (reB env Γ oa H) h2) : SubB X B h2 := fun a o e => by
  have n : ¬ Own env Γ oa a := fun n => by rw [z.base_no n] at e; cases e
  rcases z.sub a o e with e1 | ⟨c, t, sl, e1⟩
  · exact s a o (by rw [reB_no n]; exact e1)
  · rcases s a _ (by rw [reB_no n]; exact e1) with e2 | ⟨_, _, sl2, e2⟩
    · exact .inr ⟨c, t, sl, e2⟩
    · exact .inr ⟨c, t, sl2, e2⟩
theorem FSt.back_none (z : FSt X B G0 env Γ oa G H) {a : Addr} (e : reB env Γ oa H a = none) : B a = none := by
  by_cases n : Own env Γ oa a
  · exact z.base_no n
  · rw [reB_no n] at e; exact z.sub.none e
theorem FSt.back_grow (z : FSt X B G0 env Γ oa G H) {G2 : GMap} (g : GrowB (reB env Γ oa H) G G2) : GrowB B G0 G2 :=
  ⟨fun a o e => g.up a o (z.grow.up a o e), fun a o e => (g.new a o e).elim (z.grow.new a o) fun q => .inr (z.back_none q)⟩
theorem FSt.back (z : FSt X B G0 env Γ oa G H) {Γ2 : Ctx} {oa2 : Str → Addr} {G2 : GMap} {h2 : Heap} (z2 : FSt X (reB env Γ oa H) G env Γ2 oa2 G2 h2) : FSt X B G0 env Γ2 oa2 G2 h2 where
  leh := z2.leh
  l0 := z.l0
  sub := z.back_sub z2.sub
  grow := z.back_grow z2.grow
  ns := z2.ns
  fL := z.fL
  nL := z2.nL
  cell := fun x c e => ⟨(z.cell x c e).1, (z2.cell x c e).2⟩
  cinj := z.cinj
  val := z2.val
  own := fun x l e => let ⟨vs, n, a, b, c, d, f⟩ := z2.own x l e; ⟨vs, n, a, b, c, z.back_none d, f⟩
  inj := z2.inj
theorem reB_keep {h2 : Heap} (s : SubB X (reB env Γ oa H) h2) {a : Addr} {o : Obj} (n : ¬ Own env Γ oa a) (e : H.get? a = some o) (c : ¬ IsFr o) : h2.get? a = some o :=
  (s a o (by rw [reB_no n]; exact e)).elim id fun q => absurd q.1 c
theorem adm_rebase (z : FSt X B G0 env Γ oa G H) (o0 : Adm X A ok env B G0) : Adm X A ok env (reB env Γ oa H) G := fun Γ2 oa2 G2 h2 z2 => o0 _ _ _ _ (z.back z2)

theorem FSt.asideS {h' : Heap} {S : Addr → Prop} (z : FSt X B G0 env Γ oa G h) (c : ∀ a o, ¬ S a → h.get? a = some o → h'.get? a = some o) (nS : ∀ a, S a → B a = none ∧ (∀ o, G a ≠ some o) ∧ ¬ Own env Γ oa a) : FSt X B G0 env Γ oa G h' := by
  have nL : ¬ S env.locals := fun q => (nS _ q).2.2 (.inl rfl)
  have nC : ∀ y c, env.cells.lookup y = some c → ¬ S c := fun y c e q => (nS _ q).2.2 (.inr (.inl ⟨y, e⟩))
  have nO : ∀ x l, Γ.find x = some (.own l) → ¬ S (oa x) := fun x l e q => (nS _ q).2.2 (.inr (.inr ⟨x, l, e, rfl⟩))
  have lc : ∀ y u, Loc env h y u → Loc env h' y u := by
    rintro y u (⟨a, m2, n2, e⟩ | ⟨a, c2, e, n2⟩)
    · exact .inl ⟨a, m2, n2.at' fun o q => c _ o nL q, e⟩
    · obtain ⟨o, ho2, hd⟩ := id n2
      exact .inr ⟨a, c2, e, o, c _ _ (nC _ _ e) ho2, hd⟩
  exact {
    leh := fun a o e => ⟨c a o (fun q => (nS a q).2.1 o e) (z.leh a o e).1, (z.leh a o e).2⟩
    l0 := z.l0
    sub := fun a o e => by
      have na : ¬ S a := fun q => by rw [(nS a q).1] at e; cases e
      rcases z.sub a o e with e1 | ⟨k, t, sl, e1⟩
      · exact .inl (c a o na e1)
      · exact .inr ⟨k, t, sl, c a _ na e1⟩
    grow := z.grow
    ns := z.ns.imp fun _ n2 => n2.at' fun o q => c _ o nL q
    fL := z.fL
    nL := z.nL
    cell := fun y c2 e => by
      obtain ⟨a, ⟨v, n2⟩, b⟩ := z.cell y c2 e
      obtain ⟨o, ho2, hd⟩ := id n2
      exact ⟨a, ⟨v, o, c _ _ (nC _ _ e) ho2, hd⟩, b⟩
    cinj := z.cinj
    val := fun y u e => let ⟨u2, lo, r2⟩ := z.val y u e; ⟨u2, lc _ _ lo, r2⟩
    own := fun y l2 e => let ⟨vs2, n2, lo2, ho2, r2, f2, nn2⟩ := z.own y l2 e; ⟨vs2, n2, lc _ _ lo2, c _ _ (nO _ _ e) ho2, r2, f2, nn2⟩
    inj := z.inj }

theorem FSt.add {T : Addr} {o : Obj} (z : FSt X B G0 env Γ oa G h) (ho : h.get? T = some o) (hc : ¬ IsFr o) (fT : B T = none) (nG : ∀ o, G T ≠ some o) (nO : ¬ Own env Γ oa T) : FSt X B G0 env Γ oa (G.add T o) h := by
  have up : ∀ a ob, G a = some ob → (G.add T o) a = some ob := fun a ob e => by
    have : a ≠ T := fun q => nG ob (q ▸ e)
    simp [GMap.add, this, e]
  have nu : ∀ a, a ≠ T → (∀ ob, G a ≠ some ob) → ∀ ob, (G.add T o) a ≠ some ob := fun a n q ob e => by
    simp only [GMap.add, n, if_false] at e
    exact q ob e
  exact {
    leh := z.leh.add ho hc
    l0 := z.l0
    sub := z.sub
    grow := ⟨fun a ob e => up a ob (z.grow.up a ob e), fun a ob e => by
      unfold GMap.add at e
      split at e
      · rename_i q; subst q; exact .inr fT
      · exact z.grow.new a ob e⟩
    ns := z.ns
    fL := z.fL
    nL := nu _ (fun q => nO (.inl q.symm)) z.nL
    cell := fun y c e => let ⟨a, b, d⟩ := z.cell y c e; ⟨a, b, nu _ (fun q => nO (.inr (.inl ⟨y, q ▸ e⟩))) d⟩
    cinj := z.cinj
    val := fun y u e => let ⟨u2, lo, r2⟩ := z.val y u e; ⟨u2, lo, Rel.mono up r2⟩
    own := fun y l2 e => let ⟨vs2, n2, lo2, ho2, r2, f2, nn2⟩ := z.own y l2 e; ⟨vs2, n2, lo2, ho2, RelL.mono up r2, f2, nu _ (fun q => nO (.inr (.inr ⟨y, l2, e, q⟩))) nn2⟩
    inj := z.inj }
end
end Mine

-- part Z4
open PySem
set_option Elab.async false
set_option maxRecDepth 100000
set_option linter.unusedVariables false
namespace Mine

structure ZSt (z TI TO i1 i2 l2 : Addr) (lo : Int) (N : Nat) (i : Nat) (H : Heap) : Prop where
  hz : IsZip H z TI TO .none
  hTI : IsPair H TI (.ref i1) (.ref i2)
  hTO : ∃ a b, IsPair H TO a b
  h1 : IsRangeIter H i1 (lo + (i : Nat)) ((N : Int) - (i : Nat)) 1
  h2 : H.IsListIter i2 l2 i

section
variable {prog : Program} {w : World} {A : Around} {X : Fix} {B G0 G : GMap} {H h : Heap} {env : Env} {Γ : Ctx} {oa : Str → Addr} {ok : Around → Heap → Prop} {sc : Names} {K : Out → Prop}

theorem ZSt.keep {z TI TO i1 i2 l2 : Addr} {lo : Int} {N i : Nat} (s : ZSt z TI TO i1 i2 l2 lo N i H) (k : ∀ a o, (a = z ∨ a = TI ∨ a = TO ∨ a = i1 ∨ a = i2) → H.get? a = some o → ¬ IsFr o → h.get? a = some o) : ZSt z TI TO i1 i2 l2 lo N i h where
  hz := k _ _ (.inl rfl) s.hz ((fun ⟨_, _, q⟩ => (nomatch q)))
  hTI := k _ _ (.inr (.inl rfl)) s.hTI ((fun ⟨_, _, q⟩ => (nomatch q)))
  hTO := s.hTO.imp fun a q => q.imp fun b q => k _ _ (.inr (.inr (.inl rfl))) q ((fun ⟨_, _, q⟩ => (nomatch q)))
  h1 := k _ _ (.inr (.inr (.inr (.inl rfl)))) s.h1 ((fun ⟨_, _, q⟩ => (nomatch q)))
  h2 := by
    obtain ⟨o, ho, hc, hd⟩ := s.h2
    exact ⟨o, k _ _ (.inr (.inr (.inr (.inr rfl)))) ho (fun ⟨_, _, q⟩ => (by rw [hd] at q; cases q)), hc, hd⟩

noncomputable def ZA (z TI TO i1 i2 a : Addr) : Prop := a = z ∨ a = TI ∨ a = TO ∨ a = i1 ∨ a = i2

theorem zip_turn {z TI TO i1 i2 l2 : Addr} {lo : Int} {N i k2 : Nat} {ys : List Value} {l : List V} {G1 G' : GMap} {target : Expr} {b : Ctx} {y : V} (rm : Room A) (oe : EnvOk sc env) (ht : lcs sc (targets target) = true) (hT : tupT target = true) (D : Apart z TI TO i1 i2 l2)
    (hi : i < N) (hy : l[i]? = some y) (e2 : G1 l2 = some (listO ys k2)) (r2 : RelL G1 ys l) (up1 : ∀ a o, G1 a = some o → G' a = some o)
    (zf : FSt X B G0 env Γ oa G' H) (st : ZSt z TI TO i1 i2 l2 lo N i H) (nB : ∀ a, ZA z TI TO i1 i2 a → B a = none ∧ (∀ o, G' a ≠ some o) ∧ ¬ Own env Γ oa a) (hb : binds target (.tup [.int (lo + (i : Nat)), y]) = some b) :
    wpH (model prog w) X A (pyNext (.ref z)) (fun r h1 => ∃ v, r = some v ∧ wpH (model prog w) X A (letOwnedTupleGo target (.ref z) v) (fun _ h2 => wpH (model prog w) X A (assign target env v) (fun _ h3 =>
      ∃ G'', (∀ a o, G' a = some o → G'' a = some o) ∧ FSt X B G0 env Γ oa G'' h2 ∧ (∀ a, ZA z TI TO i1 i2 a → ∀ o, G'' a ≠ some o) ∧ ZSt z TI TO i1 i2 l2 lo N (i + 1) h2 ∧ FSt X (reB env Γ oa h2) G'' env (putAll Γ b) oa G'' h3) h2) h1) H := by
  have hl2 : H.IsList l2 ys.toArray := ⟨_, (zf.leh _ _ (up1 _ _ e2)).1, rfl, k2, rfl⟩
  obtain ⟨u, hu, ru⟩ := r2.get i hy
  obtain ⟨a0, b0, hTO⟩ := st.hTO
  refine wpH.of fun tk _ => ?_
  refine zip_item (s := X.at H tk) D st.hz st.hTI hTO st.h1 st.h2 hl2 (by omega) (y := u) (by simpa using hu) fun h' q1 q2 q3 q4 q5 q6 q7 => ⟨h', tk + 1, rfl, _, rfl, ?_⟩
  replace q1 : IsZip h' z TI TO (rawInt H.objs.size) := q1
  replace q5 : IsPair h' H.objs.size (.int (lo + (i : Nat)) tk) u := q5
  replace q7 : ∀ c o, c ≠ z → c ≠ TO → c ≠ i1 → c ≠ i2 → H.get? c = some o → h'.get? c = some o := q7
  have z1 : FSt X B G0 env Γ oa G' h' := zf.asideS (S := ZA z TI TO i1 i2) (fun a o n e => q7 a o (fun q => n (.inl q)) (fun q => n (.inr (.inr (.inl q)))) (fun q => n (.inr (.inr (.inr (.inl q))))) (fun q => n (.inr (.inr (.inr (.inr q))))) e) nB
  have ne : ∀ a, (∃ o, H.get? a = some o) → H.objs.size ≠ a := fun a ⟨o, e⟩ => Nat.ne_of_gt (Heap.lt_size e)
  have zin : ∀ a, ZA z TI TO i1 i2 a → ∃ o, H.get? a = some o := by
    rintro a (rfl | rfl | rfl | rfl | rfl)
    · exact ⟨_, st.hz⟩
    · exact ⟨_, st.hTI⟩
    · exact ⟨_, hTO⟩
    · exact ⟨_, st.h1⟩
    · obtain ⟨o, ho, _⟩ := st.h2; exact ⟨o, ho⟩
  have nOT : ¬ Own env Γ oa H.objs.size := fun n => ne _ (zf.own_in n) rfl
  have fBT : B H.objs.size = none := zf.sub.none (get_size H)
  have nGT : ∀ o, G' H.objs.size ≠ some o := fun o e => by have := (zf.leh _ _ e).1; rw [get_size] at this; cases this
  have z2 := z1.add (T := H.objs.size) (o := tupO [.int (lo + (i : Nat)) tk, u] 0) q5 ((fun ⟨_, _, q⟩ => (nomatch q))) fBT nGT nOT
  have up2 : ∀ a o, G' a = some o → (G'.add H.objs.size (tupO [.int (lo + (i : Nat)) tk, u] 0)) a = some o := fun a o e => by
    have : a ≠ H.objs.size := fun q => nGT o (q ▸ e)
    simp [GMap.add, this, e]
  have nZ : ∀ a, ZA z TI TO i1 i2 a → ∀ o, (G'.add H.objs.size (tupO [.int (lo + (i : Nat)) tk, u] 0)) a ≠ some o := fun a q o e => by
    have : a ≠ H.objs.size := fun q2 => ne a (zin a q) q2.symm
    simp only [GMap.add, this, if_false] at e
    exact (nB a q).2.1 o e
  cases target with
  | Tuple elts c pt =>
    refine wpH.of fun tk2 _ => wpAny_letOwnedTupleGo_zip (s := X.at h' tk2) q1 fun h2 qz qs => ⟨h2, tk2, rfl, ?_⟩
    replace qz : IsZip h2 z TI TO .none := qz
    replace qs : Heap.SameBut z h' h2 := qs
    have z3 : FSt X B G0 env Γ oa (G'.add H.objs.size (tupO [.int (lo + (i : Nat)) tk, u] 0)) h2 := z2.asideS (S := fun a => a = z) (fun a o n e => qs.extBut a o n e) (fun a q => by
      subst q
      exact ⟨(nB _ (.inl rfl)).1, nZ _ (.inl rfl), (nB _ (.inl rfl)).2.2⟩)
    have st3 : ZSt z TI TO i1 i2 l2 lo N (i + 1) h2 := {
      hz := qz
      hTI := qs.extBut _ _ D.TIz (q7 _ _ D.TIz D.TITO D.TIi1 D.TIi2 st.hTI)
      hTO := ⟨_, _, qs.extBut _ _ D.TOz q2⟩
      h1 := by
        have e1 : lo + ((i + 1 : Nat) : Int) = lo + (i : Int) + 1 := by push_cast; omega
        have e3 : (N : Int) - ((i + 1 : Nat) : Int) = (N : Int) - (i : Int) - 1 := by push_cast; omega
        rw [e1, e3]
        exact qs.extBut _ _ D.i1z q3
      h2 := q4.extBut qs.extBut D.i2z }
    have rT : Rel (G'.add H.objs.size (tupO [.int (lo + (i : Nat)) tk, u] 0)) (.ref H.objs.size) (.tup [.int (lo + (i : Nat)), y]) :=
      .tup _ [.int (lo + (i : Nat)) tk, u] 0 _ (GMap.add_self ..) (.cons _ _ _ _ (.int _ _) (.cons _ _ _ _ (Rel.mono (fun a o e => up2 a o (up1 a o e)) ru) .nil))
    exact wpH.mono (assign_gen rm oe z3.rebase hb ht rT) fun _ h3 z4 => ⟨_, up2, z3, nZ, st3, z4⟩
  | _ => cases hT

theorem zip_done {z TI TO i1 i2 l2 : Addr} {lo : Int} {N i k2 : Nat} {ys : List Value} {l : List V} {G1 G' : GMap} (rm : Room A) (D : Apart z TI TO i1 i2 l2)
    (hi : N ≤ i ∨ l[i]? = none) (e2 : G1 l2 = some (listO ys k2)) (r2 : RelL G1 ys l) (up1 : ∀ a o, G1 a = some o → G' a = some o)
    (zf : FSt X B G0 env Γ oa G' H) (st : ZSt z TI TO i1 i2 l2 lo N i H) (nB : ∀ a, ZA z TI TO i1 i2 a → B a = none ∧ (∀ o, G' a ≠ some o) ∧ ¬ Own env Γ oa a) :
    wpH (model prog w) X A (pyNext (.ref z)) (fun r h1 => r = none ∧ FSt X B G0 env Γ oa G' h1) H := by
  have hl2 : H.IsList l2 ys.toArray := ⟨_, (zf.leh _ _ (up1 _ _ e2)).1, rfl, k2, rfl⟩
  obtain ⟨a0, b0, hTO⟩ := st.hTO
  have hlen := r2.length
  refine wpH.of fun tk _ => ?_
  refine zip_end (s := X.at H tk) rm.hh D st.hz st.hTI hTO st.h1 st.h2 hl2 (hi.imp (fun q => by omega) fun q => ?_) fun h' tk' q7 => ⟨h', tk', rfl, rfl, ?_⟩
  · have : l.length ≤ i := by simpa using q
    simp; omega
  · exact zf.asideS (S := ZA z TI TO i1 i2) (fun a o n e => q7 a o (fun q => n (.inl q)) (fun q => n (.inr (.inr (.inl q)))) (fun q => n (.inr (.inr (.inr (.inl q))))) (fun q => n (.inr (.inr (.inr (.inr q))))) e) nB
end
end Mine

-- part Z5
open PySem
set_option Elab.async false
set_option maxRecDepth 100000
set_option linter.unusedVariables false
namespace Mine

theorem zipV_len {N : Nat} {lo : Int} {l : List V} : (zipV ((List.range N).map fun k => V.int (lo + (k : Nat))) l).length = min N l.length := by simp [zipV]
theorem zipV_get {N i : Nat} {lo : Int} {l : List V} (h : i < (zipV ((List.range N).map fun k => V.int (lo + (k : Nat))) l).length) : ∃ y, i < N ∧ l[i]? = some y ∧ (zipV ((List.range N).map fun k => V.int (lo + (k : Nat))) l)[i] = .tup [.int (lo + (i : Nat)), y] := by
  have h' := h
  rw [zipV_len] at h'
  have h2 : i < l.length := by omega
  exact ⟨l[i], by omega, List.getElem?_eq_getElem h2, by simp [zipV]⟩

section
variable {prog : Program} {w : World} {A : Around} {X : Fix} {B G0 G : GMap} {h : Heap} {env : Env} {Γ : Ctx} {oa : Str → Addr} {ok : Around → Heap → Prop} {sc : Names} {K : Out → Prop} {P : Par}

inductive ZipI (X : Fix) (B G0 : GMap) (env : Env) (G1 : GMap) (K : Out → Prop) (target : Expr) (its : List V) (z TI TO i1 i2 l2 : Addr) (lo : Int) (N : Nat) (fb fe : Ctx → (Out → Prop) → Prop) (n : Nat) (s : Shared) : Prop
  | mk (i : Nat) (Γ' : Ctx) (oa' : Str → Addr) (G' : GMap) (H : Heap) (tk : Nat) (l : 1 ≤ tk) (e : s = X.at H tk) (e2 : n = its.length - i) (hi : i ≤ its.length) (up : ∀ a o, G1 a = some o → G' a = some o) (zf : FSt X B G0 env Γ' oa' G' H) (st : ZSt z TI TO i1 i2 l2 lo N i H)
      (nB : ∀ a, ZA z TI TO i1 i2 a → B a = none ∧ (∀ o, G' a ≠ some o) ∧ ¬ Own env Γ' oa' a) (k : vFor fb fe target (its.drop i) Γ' K) : ZipI X B G0 env G1 K target its z TI TO i1 i2 l2 lo N fb fe n s
theorem zip_loop {z TI TO i1 i2 l2 : Addr} {lo : Int} {N k2 : Nat} {ys : List Value} {l : List V} {G1 : GMap} {target : Expr} {body orelse : List Stmt} {fb fe : Ctx → (Out → Prop) → Prop} {tk : Nat} (rm : Room A) (oe : EnvOk sc env) (ht : lcs sc (targets target) = true) (hT : tupT target = true) (D : Apart z TI TO i1 i2 l2)
    (adm : Adm X A ok env B G0) (Bb : ∀ B G0, Adm X A ok env B G0 → SndB prog w X A B G0 env body fb) (Be : ∀ B G0, Adm X A ok env B G0 → SndB prog w X A B G0 env orelse fe)
    (e2 : G1 l2 = some (listO ys k2)) (r2 : RelL G1 ys l) (zf : FSt X B G0 env Γ oa G1 h) (st : ZSt z TI TO i1 i2 l2 lo N 0 h) (nB : ∀ a, ZA z TI TO i1 i2 a → B a = none ∧ (∀ o, G1 a ≠ some o) ∧ ¬ Own env Γ oa a) (htk : 1 ≤ tk)
    (k : vFor fb fe target (zipV ((List.range N).map fun k => V.int (lo + (k : Nat))) l) Γ K) :
    codeAny (model prog w) A (.forLoop target (.ref z) body orelse env) (LPost X B G0 env G1 K) (X.at h tk) := by
  generalize hits : (zipV ((List.range N).map fun k => V.int (lo + (k : Nat))) l) = its at k
  refine codeAny_forLoop_any (ZipI X B G0 env G1 K target its z TI TO i1 i2 l2 lo N fb fe) ?_
    its.length ⟨0, Γ, oa, G1, h, tk, htk, rfl, rfl, Nat.zero_le _, fun _ _ e => e, zf, st, nB, k⟩
  rintro n s ⟨i, Γ', oa', G', H, tk, htk, rfl, rfl, hi, up, zf, st, nB, k⟩
  by_cases hlt : i < its.length
  · rw [List.drop_eq_getElem_cons hlt] at k
    obtain ⟨b, hb, k⟩ := vFor_cons k
    subst hits
    obtain ⟨y, hiN, hy, ey⟩ := zipV_get hlt
    rw [ey] at hb
    refine (zip_turn rm oe ht hT D hiN hy e2 r2 up zf st nB hb).use htk fun r h1 tk1 l1 ⟨v, e, q⟩ => ?_
    subst e
    refine q.use l1 fun _ h2 tk2 l2' q => q.use l2' fun _ h3 tk3 l3 ⟨G'', up2, z3, nZ, st3, z4⟩ => ?_
    have zin : ∀ a, ZA z TI TO i1 i2 a → ∃ o, h2.get? a = some o := by
      obtain ⟨a0, b0, hTO⟩ := st3.hTO
      rintro a (rfl | rfl | rfl | rfl | rfl)
      · exact ⟨_, st3.hz⟩
      · exact ⟨_, st3.hTI⟩
      · exact ⟨_, hTO⟩
      · exact ⟨_, st3.h1⟩
      · obtain ⟨o, ho, _⟩ := st3.h2; exact ⟨o, ho⟩
    have nxt : ∀ Γ3 oa3 G3 h4, FSt X (reB env Γ' oa' h2) G'' env Γ3 oa3 G3 h4 → ZSt z TI TO i1 i2 l2 lo N (i + 1) h4 ∧ ∀ a, ZA z TI TO i1 i2 a → B a = none ∧ (∀ o, G3 a ≠ some o) ∧ ¬ Own env Γ3 oa3 a := fun Γ3 oa3 G3 h4 z5 => by
      refine ⟨st3.keep fun a o za e c => reB_keep z5.sub (nB a za).2.2 e c, fun a za => ⟨(nB a za).1, fun o e => ?_, fun n => ?_⟩⟩
      · obtain ⟨o', e'⟩ := zin a za
        rcases z5.grow.new a o e with q | q
        · exact nZ a za o q
        · rw [reB_no (nB a za).2.2, e'] at q; cases q
      · obtain ⟨o', e'⟩ := zin a za
        rcases n with q | q | ⟨x, lx, ex, q⟩
        · exact (nB a za).2.2 (.inl q)
        · exact (nB a za).2.2 (.inr (.inl q))
        · obtain ⟨_, _, _, _, _, f, _⟩ := z5.own x lx ex
          rw [q, reB_no (nB a za).2.2, e'] at f; cases f
    refine (Bb _ _ (adm_rebase z3 adm) _ _ _ _ _ z4 k).use l3 fun f h4 tk4 l4 p => ?_
    have upB : ∀ {G3 : GMap}, (∀ a o, G'' a = some o → G3 a = some o) → ∀ a o, G1 a = some o → G3 a = some o := fun u a o e => u a o (up2 a o (up a o e))
    cases f with
    | next =>
      obtain ⟨Γ3, oa3, G3, up3, z5, k3⟩ := p
      obtain ⟨st5, nB5⟩ := nxt _ _ _ _ z5
      exact ⟨_, by omega, i + 1, Γ3, oa3, G3, h4, tk4, l4, rfl, rfl, hlt, upB up3, z3.back z5, st5, nB5, k3⟩
    | cont =>
      obtain ⟨Γ3, oa3, G3, up3, z5, k3⟩ := p
      obtain ⟨st5, nB5⟩ := nxt _ _ _ _ z5
      exact ⟨_, by omega, i + 1, Γ3, oa3, G3, h4, tk4, l4, rfl, rfl, hlt, upB up3, z3.back z5, st5, nB5, k3⟩
    | brk =>
      obtain ⟨Γ3, oa3, G3, up3, z5, k3⟩ := p
      exact ⟨.next, rfl, h4, tk4, l4, rfl, Γ3, oa3, G3, upB up3, z3.back z5, k3⟩
    | ret v =>
      obtain ⟨x, G3, s5, g5, le5, r5, k5⟩ := p
      exact ⟨.ret v, rfl, h4, tk4, l4, rfl, x, G3, z3.back_sub s5, z3.back_grow g5, le5, r5, k5⟩
  · have hi : i = its.length := by omega
    subst hi
    rw [List.drop_length] at k
    have hend : N ≤ its.length ∨ l[its.length]? = none := by
      rw [← hits, zipV_len]
      rcases Nat.le_total N l.length with q | q
      · exact .inl (by omega)
      · exact .inr (by simp; omega)
    refine (zip_done rm D hend e2 r2 up zf st nB).use htk fun r h1 tk1 l1 ⟨e, z2⟩ => ?_
    subst e
    exact (Be _ _ adm _ _ _ _ _ z2 k).use l1 fun f h4 tk4 l4 p => ⟨f, rfl, h4, tk4, l4, rfl, p.up up⟩

theorem apart_of {n al : Nat} (h : al < n) : Apart (n + 4) (n + 2) (n + 3) n (n + 1) al := by
  have ne : ∀ a b : Nat, a ≠ b → @Ne Addr a b := fun _ _ q => q
  exact ⟨ne _ _ (by omega), ne _ _ (by omega), ne _ _ (by omega), ne _ _ (by omega), ne _ _ (by omega), ne _ _ (by omega), ne _ _ (by omega), ne _ _ (by omega), ne _ _ (by omega), ne _ _ (by omega), ne _ _ (by omega), ne _ _ (by omega), ne _ _ (by omega), ne _ _ (by omega)⟩
theorem za_ge {n a : Nat} (h : ZA (n + 4) (n + 2) (n + 3) n (n + 1) a) : n ≤ a := by
  rcases h with rfl | rfl | rfl | rfl | rfl
  · exact Nat.le_add_right _ _
  · exact Nat.le_add_right _ _
  · exact Nat.le_add_right _ _
  · exact Nat.le_refl _
  · exact Nat.le_add_right _ _
theorem rng_ok {lo hi : Int} (q1 : -(2 ^ 61) ≤ lo) (q2 : lo < 2 ^ 61) (q4 : hi < 2 ^ 61) (q5 : -(2 ^ 61) ≤ hi) : Builtin.divisionGoesByPylong 0 1 = Builtin.divisionGoesByPylong 0 1 ∧ Builtin.Range.rangeSize lo hi 1 = ((hi - lo).toNat : Int) := by
  refine ⟨rfl, ?_⟩
  rw [rangeSize_one]; split <;> omega
theorem zip_snd (O : OkAt X ok) (PO : ParOk prog w X ok P) : ZipSnd prog w X A ok P := by
  intro n sc env Γ oa G h h0 G0 K f pf pos pos2 a b target body orelse fb fe oe S z adm Bb Be ht c k
  obtain ⟨⟨c1, c2, c3⟩, c4, c5, c6⟩ := c
  have o := adm _ _ _ _ z
  have rm := O.room _ _ o
  refine ⟨fun tk htk => wpAny_For ?_ (fun x => rfl)⟩
  rw [arm_eval_Call_Name']
  refine wpAny_bind ((global_sound (Q := fun v h' => v = .type "zip" ∧ h' = h) O PO o oe c1 c2 c3 ⟨rfl, rfl⟩).use htk fun v h1 tk1 l1 ⟨e1, e2⟩ => ?_)
  subst e1; subst e2
  have hs : [a, b].all (fun e => !isStarE e) = true := by simp [c4, c5]
  refine PySem.callWith_type (back_plain hs) (evalArgs_of hs ((list_sound (pos := pos) O S [a, b] (fun vs => optP (two vs) fun (x, y) => zipItems x y fun its => vFor fb fe target its Γ K) G h1 hs z.rd z.leh o k).use l1 fun vs h2 tk2 l2 ⟨s2, xs, G2, g2, le2, r2, k2⟩ => ?_))
  obtain ⟨⟨x, y⟩, e, k3⟩ := optP_ex k2
  clear k2
  cases two_eq e
  clear e
  · obtain ⟨v1, v2, rfl, rx, ry⟩ := r2.two
    obtain ⟨⟨lo, hi⟩, e1, k4⟩ := optP_ex k3
    clear k3
    cases V.rng?_eq e1
    clear e1
    obtain ⟨l, e2, k2⟩ := optP_ex k4
    clear k4
    cases V.list?_eq e2
    clear e2
    · obtain ⟨⟨⟨q1, q2, q3, q4, q5⟩, q6⟩, k2⟩ := k2
      cases rx with
      | rng r _ _ t u v er =>
        obtain ⟨al, ws, nw, rfl, el, rl⟩ := ry.listI
        have hr : IsRange (X.at h2 tk2).heap r lo hi 1 t u v := (le2 _ _ er).1
        have hl : (X.at h2 tk2).heap.IsList al ws.toArray := isList le2 el
        show wpAny _ A (call (.type "zip") [.ref r, .ref al]) _ _ _
        refine call_zip (s := X.at h2 tk2) hr (small_one (by omega) (by omega) (by omega) (by omega)) hl fun h' y1 y2 y3 y4 y5 y6 y7 => ?_
        replace y1 : IsZip h' (h2.objs.size + 4) (h2.objs.size + 2) (h2.objs.size + 3) .none := y1
        refine wpAny_pyIter_zip (s := X.at h' tk2) y1 ?_
        have zz := (z.step s2 g2 le2)
        have s3 : Sub X h2 h' := .of y7
        have z3 := zz.step s3 (Grow.refl _ _) (le2.sub s3)
        have hX : (X.at h2 tk2).heap.objs.size = h2.objs.size := rfl
        have hall : h2.objs.size > al := Heap.lt_size (le2 _ _ el).1
        have hsz : Builtin.Range.rangeSize lo hi 1 = ((hi - lo).toNat : Int) := (rng_ok q1 q2 q4 q5).2
        have nB : ∀ a', ZA (h2.objs.size + 4) (h2.objs.size + 2) (h2.objs.size + 3) h2.objs.size (h2.objs.size + 1) a' → h0 a' = none ∧ (∀ o, G2 a' ≠ some o) ∧ ¬ Own env Γ oa a' := fun a' za => by
          have hn : h2.get? a' = none := get_ge (za_ge za)
          refine ⟨zz.sub.none hn, fun o e => ?_, fun n => ?_⟩
          · rw [(le2 _ _ e).1] at hn; cases hn
          · obtain ⟨o, e⟩ := zz.own_in n
            rw [e] at hn; cases hn
        have L := zip_loop (lo := lo) (N := (hi - lo).toNat) (K := K) (z := h2.objs.size + 4) (TI := h2.objs.size + 2) (TO := h2.objs.size + 3) (i1 := h2.objs.size) (i2 := h2.objs.size + 1) (l2 := al) rm oe ht c6
          (apart_of hall) adm Bb Be el rl z3
          ⟨y1, y2, ⟨_, _, y3⟩, by have e1 : lo + ((0 : Nat) : Int) = lo := by simp
                                  have e2 : (((hi - lo).toNat : Nat) : Int) - ((0 : Nat) : Int) = Builtin.Range.rangeSize lo hi 1 := by rw [hsz]; simp
                                  rw [e1, e2]; exact y4, y5⟩ nB l2 k2
        refine codeAny_mono L ?_
        rintro r s' ⟨f, rfl, h', tk', l', rfl, p⟩
        exact ⟨h', tk', l', rfl, p.up g2.up⟩
end
end Mine

-- part F1
open PySem
set_option Elab.async false
set_option maxRecDepth 100000
set_option linter.unusedVariables false
namespace Mine

theorem funFrames {X : Fix} : ∀ {l : List Env} {h : Heap}, FrOk X l h → h.FunFrames X.top l
  | [], _, _ => trivial
  | env :: l, h, f => by
    obtain ⟨k, L, m, e1, e2, o, es, ep, ho, hd, _⟩ := f env List.mem_cons_self
    exact ⟨k, ⟨L, o, e1, e2, ho, fun vs q => by rw [hd] at q; cases q⟩, funFrames fun env' he => f env' (List.mem_cons_of_mem _ he)⟩

theorem FrOk.sub {X : Fix} {l : List Env} {h h' : Heap} (f : FrOk X l h) (s : Sub X h h') : FrOk X l h' := fun env he =>
  let ⟨k, L, m, e1, e2, n⟩ := f env he; ⟨k, L, m, e1, e2, s.ns n⟩

theorem sub_slots {X : Fix} {l : List Env} {h h' : Heap} (f : FrOk X l h) (s : Heap.SlotsOnly (l.filterMap (·.frame)) h h') : Sub X h h' := fun a o e => by
  by_cases q : a ∈ l.filterMap (·.frame)
  · obtain ⟨env, he, hf⟩ := List.mem_filterMap.mp q
    obtain ⟨k, L, m, e1, e2, o', es, ep, ho, hd, _⟩ := f env he
    rw [hf] at e1; cases e1
    rw [e] at ho; cases ho
    obtain ⟨sl, e3⟩ := s.2.2 a o e
    exact .inr ⟨⟨es, ep, hd⟩, e2, sl, e3⟩
  · exact .inl ((s.2.1 a q).trans e)

structure Fl (B : GMap) (e : Addr) (h : Heap) : Prop where
  fresh : B e = none
  there : ∃ ob vs, h.get? e = some ob ∧ ob.cls = .type "StopIteration" ∧ ob.data = .fields vs ∧ 1 < vs.size ∧
    (vs[1]? = some .none ∨ ∃ tb otb tvs, vs[1]? = some (.ref tb) ∧ tb ≠ e ∧ B tb = none ∧ h.get? tb = some otb ∧ otb.data = .fields tvs ∧ 3 < tvs.size)

structure Fl1 (B : GMap) (e : Addr) (h : Heap) : Prop where
  fresh : B e = none
  there : ∃ ob vs, h.get? e = some ob ∧ ob.cls = .type "StopIteration" ∧ ob.data = .fields vs ∧ 1 < vs.size ∧
    ∃ tb otb tvs, vs[1]? = some (.ref tb) ∧ tb ≠ e ∧ B tb = none ∧ h.get? tb = some otb ∧ otb.data = .fields tvs ∧ 3 < tvs.size
theorem Fl1.fl {B : GMap} {e : Addr} {h : Heap} (f : Fl1 B e h) : Fl B e h := by
  obtain ⟨fr, ob, vs, a, b, c, d, t⟩ := f
  exact ⟨fr, ob, vs, a, b, c, d, .inr t⟩
theorem Fl1.typeIs {B : GMap} {e : Addr} {h : Heap} {X : Fix} {tk : Nat} (f : Fl1 B e h) : (X.at h tk).TypeIs (.ref e) "StopIteration" := by
  obtain ⟨fr, ob, vs, a, b, _⟩ := f
  exact ⟨ob, a, b⟩

section
variable {M : Model} {A : Around} {X : Fix} {B : GMap} {h : Heap} {env : Env} {l : List Env} {e : Addr}

theorem upd_fields {a : Addr} {o : Obj} {vs : Array Value} (ho : h.get? a = some o) (hd : o.data = .fields vs) (f : Array Value → Array Value) :
    (h.update a (Obj.mapFields f)).get? a = some (o.mapFields f) ∧ (o.mapFields f).data = .fields (f vs) ∧ (o.mapFields f).cls = o.cls ∧ Chg a h (h.update a (Obj.mapFields f)) := by
  have hd' := Obj.data_mapFields hd f
  exact ⟨Heap.get?_update_self _ ho (Obj.isFreed_of_fields hd'), hd', Obj.cls_mapFields .., fun b o' n q => (Heap.SameBut.update h a _).extBut b o' n q⟩

theorem setField_sound {a : Addr} {o : Obj} {vs : Array Value} {k : Nat} {x : Value} {Q : Unit → Heap → Prop} (ho : h.get? a = some o) (hd : o.data = .fields vs) (hk : k < vs.size)
    (q : ∀ h' o', h'.get? a = some o' → o'.data = .fields (vs.setIfInBounds k x) → o'.cls = o.cls → Chg a h h' → Q () h') : wpH M X A (setField (.ref a) k x) Q h :=
  wpH.of fun tk _ => wpAny_setField (s := X.at h tk) ho hd hk (by
    obtain ⟨h1, h2, h3, h4⟩ := upd_fields ho hd (·.setIfInBounds k x)
    exact ⟨_, tk, rfl, q _ _ h1 h2 h3 h4⟩)

theorem field_sound {a : Addr} {o : Obj} {vs : Array Value} {k : Nat} {x : Value} {Q : Value → Heap → Prop} (ho : h.get? a = some o) (hd : o.data = .fields vs) (hk : vs[k]? = some x) (q : Q x h) : wpH M X A (field (.ref a) k) Q h :=
  wpH.of fun tk _ => wpAny_field (s := X.at h tk) ho hd hk ⟨h, tk, rfl, q⟩

theorem flight_sound {fr : Option Addr} {Q : Unit → Heap → Prop} (s : SubB X B h) (f : Fl1 B e h) (q : ∀ h', SubB X B h' → Fl1 B e h' → Q () h') : wpH M X A (setFlight (.ref e) fr) Q h := by
  obtain ⟨fB, ob, vs, he, hc, hd, hsz, tb, otb, tvs, ht, hne, hB, htb, htd, h3⟩ := f
  unfold setFlight
  refine wpH.bind (field_sound he hd ht ?_)
  rw [if_pos (show (Value.ref tb != Value.none) = true from by simp)]
  refine setField_sound htb htd h3 fun h' o' h1 h2 h3' c => q h' (s.chg hB c) ⟨fB, ob, vs, c e ob (Ne.symm hne) he, hc, hd, hsz, tb, o', _, ht, hne, hB, h1, h2, by simpa using h3⟩

theorem came_sound {E : Value → Shared → Prop} {tk : Nat} (s : SubB X B h) (f : Fl1 B e h) (htk : 1 ≤ tk) (q : ∀ h' tk', 1 ≤ tk' → SubB X B h' → Fl1 B e h' → E (.ref e) (X.at h' tk')) : cameBackBy M A env E (.ref e) (X.at h tk) := by
  unfold cameBackBy
  have w : wpH M X A (do
    if (← field (.ref e) 1) == .none then unsupported "frame.own-activation:exception-without-traceback"
    setFlight (.ref e) env.frame) (fun _ h' => SubB X B h' ∧ Fl1 B e h') h := by
    obtain ⟨fB, ob, vs, he, hc, hd, hsz, tb, otb, tvs, ht, hne, hB, htb, htd, h3⟩ := id f
    refine wpH.bind (field_sound he hd ht ?_)
    rw [if_neg (show ¬ (Value.ref tb == Value.none) = true from by simp)]
    exact flight_sound s f fun h' s' f' => ⟨s', f'⟩
  exact w.use htk fun _ h' tk' l' ⟨a, b⟩ => q h' tk' l' a b
end
end Mine

-- part F2
open PySem
set_option Elab.async false
set_option maxRecDepth 100000
set_option linter.unusedVariables false
namespace Mine

section
variable {M : Model} {A : Around} {X : Fix} {B : GMap} {h : Heap} {env : Env} {l : List Env} {e L : Addr}

theorem entry_sound {head : Value} {hn : Bool} {Q : Unit → Heap → Prop} (hfr : A.frames = some (env :: l)) (fr : FrOk X (env :: l) h) (hf : env.frame = some L) (s : SubB X B h) (f : Fl B e h)
    (q : ∀ h', SubB X B h' → Fl1 B e h' → FrOk X (env :: l) h' → Q () h') :
    wpH M X A (do setField (.ref e) 1 (← EntryCells.newEntry head (← frameOf env) .none (rawInt L) .none (← entryPlaceOf L hn))) Q h := by
  obtain ⟨fB, ob, vs, he, hc, hd, hsz, ht⟩ := f
  refine wpH.bind (wpH.of fun tk _ => wpAny_frameOf_fun (s := X.at h tk) hfr (funFrames fr) hf fun h₁ hs₁ => ⟨h₁, tk, rfl, ?_⟩)
  replace hs₁ : Heap.SlotsOnly ((env :: l).filterMap (·.frame)) h h₁ := hs₁
  have s1 : Sub X h h₁ := sub_slots fr hs₁
  have he1 : h₁.get? e = some ob := s1.get he fun ⟨es, ep, q⟩ => by rw [hd] at q; cases q
  refine wpH.bind (wpH.of fun tk _ => wpAny_entryPlaceOf (s := X.at h₁ tk) fun pl hpl => ⟨h₁, tk, rfl, ?_⟩)
  unfold EntryCells.newEntry newFields
  refine wpH.bind (wpH.of fun tk _ => wpAny_newObj_type (s := X.at h₁ tk) ⟨_, tk, rfl, ?_⟩ (hpl.sizeOk5 _ _ _ _ _))
  have s2 : Sub X h (h₁.push { cls := .type "traceback", dict := none, data := .fields ([head, .ref L, .none, rawInt L, .none] ++ (if pl.isEmpty then List.replicate 6 Value.none else pl)).toArray }) := s1.trans (Sub.push _ _)
  have hne : h₁.objs.size ≠ e := Nat.ne_of_gt (Heap.lt_size he1)
  refine setField_sound (Heap.get?_push_of_some _ he1) hd hsz fun h' o' e1 e2 e3 c => q h' ((s.trans s2).chg fB c) ⟨fB, o', _, e1, e3.trans hc, e2, by simpa using hsz, ⟨h₁.objs.size, _, _, by simp [hsz], hne, (s.trans s1).none (get_size h₁), c _ _ hne (Heap.get?_push_size _ rfl), rfl, by simp⟩⟩ ?_
  · have fr2 := fr.sub s2
    intro env' he'
    obtain ⟨k, L', m, f1, f2, n⟩ := fr2 env' he'
    refine ⟨k, L', m, f1, f2, n.extBut (b := e) c fun q => ?_⟩
    subst q
    obtain ⟨o2, es, ep, ho2, hd2, _⟩ := n
    rw [Heap.get?_push_of_some _ he1] at ho2
    cases ho2
    rw [hd] at hd2; cases hd2

theorem note_sound {Q : Unit → Heap → Prop} (hfr : A.frames = some (env :: l)) (fr : FrOk X (env :: l) h) (s : SubB X B h) (f : Fl B e h)
    (q : ∀ h', SubB X B h' → Fl1 B e h' → FrOk X (env :: l) h' → Q () h') : wpH M X A (noteFrame (.ref e) env) Q h := by
  obtain ⟨_, L, m, hf, _, _⟩ := fr env List.mem_cons_self
  obtain ⟨fB, ob, vs, he, hc, hd, hsz, ht⟩ := id f
  unfold noteFrame
  rw [hf]
  dsimp only
  rcases ht with ht | ⟨tb, otb, tvs, ht, hne, hB, htb, htd, h3⟩
  · refine wpH.bind (field_sound he hd ht ?_)
    rw [if_neg (by decide)]
    exact entry_sound hfr fr hf s f q
  · refine wpH.bind (field_sound he hd ht ?_)
    rw [if_pos (show (Value.ref tb != Value.none) = true from by simp)]
    have hx : tvs[3]? = some tvs[3] := Array.getElem?_eq_getElem h3
    refine wpH.bind (field_sound htb htd hx ?_)
    split
    · exact wpH.pure (q h s ⟨fB, ob, vs, he, hc, hd, hsz, tb, otb, tvs, ht, hne, hB, htb, htd, h3⟩ fr)
    · refine wpH.bind (setField_sound htb htd h3 fun h' o' e1 e2 e3 c => ?_)
      have fr' : FrOk X (env :: l) h' := fun env' he' => by
        obtain ⟨k, L', m', f1, f2, n⟩ := fr env' he'
        refine ⟨k, L', m', f1, f2, n.extBut (b := tb) c fun q => ?_⟩
        subst q
        obtain ⟨o2, es, ep, ho2, hd2, _⟩ := n
        rw [htb] at ho2; cases ho2
        rw [htd] at hd2; cases hd2
      exact entry_sound hfr fr' hf (s.chg hB c) ⟨fB, ob, vs, c e ob (Ne.symm hne) he, hc, hd, hsz, .inr ⟨tb, o', _, ht, hne, hB, e1, e2, by simpa using h3⟩⟩ q
end
end Mine

-- part F3
open PySem
set_option Elab.async false
set_option maxRecDepth 100000
set_option linter.unusedVariables false
namespace Mine

theorem entry_next : entryFor table "next" = some Builtin.«next» := entryFor_of_fast (by kernel_rfl)
theorem args_next (a : Value) : argsOk "next" ⟨[a], []⟩ := by unfold argsOk; kernel_rfl
theorem entry_iter : entryFor table "iter" = some Builtin.«iter» := entryFor_of_fast (by kernel_rfl)
theorem args_iter (a : Value) : argsOk "iter" ⟨[a], []⟩ := by unfold argsOk; kernel_rfl

section
variable {prog : Program} {w : World} {A : Around} {E : Value → Shared → Prop} {s : Shared}

theorem iter_list {a : Addr} {items : Array Value} {Q : Value → Shared → Prop} (hl : s.heap.IsList a items)
    (hQ : Q (.ref s.heap.objs.size) { s with heap := s.heap.push { cls := .type "list_iterator", data := .fields #[.ref a, .int 0 0] } }) : wpAny (model prog w) A (call (.builtin "iter") [.ref a]) Q E s := by
  refine Calls.call_function_entry (by decide +kernel) (by decide +kernel) entry_iter (args_iter _) ?_
  unfold Builtin.«iter»
  refine wpAny_bind (m := someArgs "iter" 1 2 _) (wpAny_of_eq (a := [Value.ref a]) (by first | rfl | kernel_rfl!) ?_)
  dsimp only
  refine wpAny_bind (wpAny_pyIter_list hl ?_)
  exact wpAny_pure ⟨_, rfl, hQ⟩

theorem next_list {it l : Addr} {i : Nat} {items : Array Value} {x : Value} {Q : Value → Shared → Prop} (hit : s.heap.IsListIter it l i) (hl : s.heap.IsList l items) (hx : items[i]? = some x)
    (hQ : ∀ h', h'.IsListIter it l (i + 1) → Heap.SameBut it s.heap h' → Q x { s with heap := h' }) : wpAny (model prog w) A (call (.builtin "next") [.ref it]) Q E s := by
  refine Calls.call_function_entry (by decide +kernel) (by decide +kernel) entry_next (args_next _) ?_
  unfold Builtin.«next»
  refine wpAny_bind (m := someArgs "next" 1 2 _) (wpAny_of_eq (a := [Value.ref it]) (by first | rfl | kernel_rfl!) ?_)
  dsimp only
  refine wpAny_bind (wpAny_specialOf (name := Str.ofString "__next__") hit.typeIs slot_listiter_next.lookup ?_)
  refine wpAny_ite_split (fun hab => absurd hab (by decide)) (fun _ => ?_)
  obtain ⟨o, ho, hc, hd⟩ := id hit
  obtain ⟨ol, hol, _, nl, hdl⟩ := hl
  refine wpAny_bind (wpAny_callSpecial?_slot (name := Str.ofString "__next__") hit.typeIs slot_listiter_next
    (wpAny_call_entry slot_listiter_next hit.typeIs entry_listiter_next ?_ (args_listiter_next _)))
  show wpAny _ _ (field (.ref it) 0 >>= _) _ _ s
  refine wpAny_bind (wpAny_field ho hd (x := .ref l) rfl ?_)
  show wpAny _ _ (if (Value.ref l == Value.none) = true then _ else _) _ _ s
  rw [if_neg (show ¬ ((Value.ref l == Value.none) = true) from Bool.false_ne_true)]
  show wpAny _ _ (field (.ref it) 1 >>= _) _ _ s
  refine wpAny_bind (wpAny_field ho hd (x := .int i 0) rfl ?_)
  show wpAny _ _ (seqItems? (.ref l) >>= _) _ _ s
  refine wpAny_bind (wpAny_seqItems hol hdl ?_)
  simp only [Int.toNat_natCast, hx]
  refine wpAny_bind (wpAny_setField ho hd (by simp) (wpAny_pure ⟨x, rfl, wpAny_pure ⟨x, rfl, hQ _ ?_ (Heap.SameBut.update ..)⟩⟩))
  exact ⟨_, Heap.get?_update_self _ ho (Obj.isFreed_of_fields (Obj.data_mapFields hd _)), (Obj.cls_mapFields ..).trans hc, by
    rw [Obj.data_mapFields hd]; simp [rawInt]⟩

theorem next_list_end {it l : Addr} {i : Nat} {items : Array Value} {Q : Value → Shared → Prop} (hh : A.handled = none) (hit : s.heap.IsListIter it l i) (hl : s.heap.IsList l items) (hx : items[i]? = none)
    (hE : ∀ h' e, Heap.ExtBut it s.heap h' → s.heap.get? e = none → (∃ o vs, h'.get? e = some o ∧ o.cls = .type "StopIteration" ∧ o.data = .fields vs ∧ 1 < vs.size ∧ vs[1]? = some .none) → (∃ o2, h'.get? it = some o2 ∧ o2.cls = .type "list_iterator" ∧ ∃ vs, o2.data = .fields vs) → E (.ref e) { s with heap := h' }) : wpAny (model prog w) A (call (.builtin "next") [.ref it]) Q E s := by
  refine Calls.call_function_entry (by decide +kernel) (by decide +kernel) entry_next (args_next _) ?_
  unfold Builtin.«next»
  refine wpAny_bind (m := someArgs "next" 1 2 _) (wpAny_of_eq (a := [Value.ref it]) (by first | rfl | kernel_rfl!) ?_)
  dsimp only
  refine wpAny_bind (wpAny_specialOf (name := Str.ofString "__next__") hit.typeIs slot_listiter_next.lookup ?_)
  refine wpAny_ite_split (fun hab => absurd hab (by decide)) (fun _ => ?_)
  obtain ⟨o, ho, hc, hd⟩ := id hit
  obtain ⟨ol, hol, _, nl, hdl⟩ := hl
  refine wpAny_bind (wpAny_callSpecial?_slot (name := Str.ofString "__next__") hit.typeIs slot_listiter_next
    (wpAny_call_entry slot_listiter_next hit.typeIs entry_listiter_next ?_ (args_listiter_next _)))
  show wpAny _ _ (field (.ref it) 0 >>= _) _ _ s
  refine wpAny_bind (wpAny_field ho hd (x := .ref l) rfl ?_)
  show wpAny _ _ (if (Value.ref l == Value.none) = true then _ else _) _ _ s
  rw [if_neg (show ¬ ((Value.ref l == Value.none) = true) from Bool.false_ne_true)]
  show wpAny _ _ (field (.ref it) 1 >>= _) _ _ s
  refine wpAny_bind (wpAny_field ho hd (x := .int i 0) rfl ?_)
  show wpAny _ _ (seqItems? (.ref l) >>= _) _ _ s
  refine wpAny_bind (wpAny_seqItems hol hdl ?_)
  simp only [Int.toNat_natCast, hx]
  refine wpAny_bind (wpAny_rule (wpAny_bind (wpAny_setField ho hd (by simp) ?_)))
  show wpAny _ _ (newExc (.type "StopIteration") [] >>= _) _ _ _
  refine wpAny_bind ?_
  simp only [newExc, newTuple]
  refine wpAny_bind (wpAny_newObj_type ?_ (by size_fits))
  refine wpAny_bind (m := firstArgMember _ _) (wpAny_of_eq (a := Value.none) (by first | rfl | (simp only [firstArgMember]; rfl)) ?_)
  refine wpAny_newObj_type ?_ (by size_fits)
  simp only [raiseNew]
  refine wpAny_bind (wpAny_handled ?_)
  first | rw [show A.in1.in1.handled = none from hh] | rw [show A.in1.handled = none from hh] | rw [hh]
  refine wpAny_bind (wpAny_pure (wpAny_throw ?_))
  refine hE _ _ ((((Heap.SameBut.update ..).extBut).push _).push _) (get_ge ?_) ⟨_, _, Heap.get?_push_size _ rfl, rfl, rfl, ?_, ?_⟩ ⟨_, Heap.get?_push_of_some _ (Heap.get?_push_of_some _ (Heap.get?_update_self _ ho (Obj.isFreed_of_fields (Obj.data_mapFields hd _)))), (Obj.cls_mapFields ..).trans hc, _, Obj.data_mapFields hd _⟩
  · rw [Heap.size_push]
    show s.heap.objs.size ≤ (s.heap.update it _).objs.size + 1
    rw [Heap.size_after_update]; exact Nat.le_succ _
  · rw [Array.size_append]; exact Nat.lt_of_lt_of_le (by simp : 1 < 6) (Nat.le_add_right _ _)
  · rw [Array.getElem?_append_left (by simp)]; rfl
end
end Mine

-- part F4
open PySem
set_option Elab.async false
set_option maxRecDepth 100000
set_option linter.unusedVariables false
namespace Mine

theorem fn_enter {prog : Program} {w : World} {X : Fix} {a : Addr} {ps : List Str} {names : Names} {body : List Stmt} {o : Obj} {fd : FuncData} {n : Nat} {Vs : List V} {A : Around} {h : Heap} {G G0 B : GMap} {vals : List Value} {Q : Value → Shared → Prop} {E : Value → Shared → Prop}
    (Fa : FnAt X a ps names body o fd) (hlen : Vs.length = ps.length) (ok : okN X (n + 1) A h) (le : LeH G h) (rl : RelL G vals Vs)
    (hB : ∀ a o, B a = some o → h.get? a = some o) (tB : ∀ a o, X.top.get? a = some o → B a = some o) (fB : ∀ a o, h.get? a = some o → IsFr o → B a = some o) (l0 : LeB G0 B) (gB : GrowB B G0 G)
    (k : ∀ env h₁ tk₁ outer, 1 ≤ tk₁ → EnvOk names env → FSt X B G0 env (argsΓ ps Vs) (fun _ => 0) G h₁ → Adm X (A.deeper env) (okN X n) env B G0 → (A.deeper env).frames = some (env :: outer) → env.cells = [] → h.get? env.locals = none →
      wpAny (model prog w) (A.deeper env) (execs body env) (fun f s' => Q (match f with | .ret v => v | _ => .none) s')
        (fun e s' => wpAny (model prog w) (A.deeper env) (leaving env e) (fun _ s'' => E e s'') (fun e' s'' => E e' s'') s') (X.at h₁ tk₁)) :
    ∀ tk, 1 ≤ tk → wpAny (model prog w) A (call (.ref a) vals) Q E (X.at h tk) := by
  intro tk htk
  have hl : vals.length = ps.length := rl.length.trans hlen
  have lim : h.NoLimit := Fa.lim.keeps ok.top
  refine wpAny_call ?_
  refine codeAny_call_def (s := X.at h tk) (by have := ok.depth; have e : recursionLimit = recursionLimit := rfl; exact Nat.lt_of_lt_of_le (by omega : A.depth < 900) (by decide)) (ok.top _ _ Fa.ho) Fa.hd lim (Fa.cd.keeps ok.top) Fa.hb (Fa.bind _ vals hl) Fa.cell (fun x hx => ?_) (fun h₁ hns hkeep => ?_) Fa.co Fa.gen Fa.kind
  · have : x.1 ∈ ps := by rw [← zip_fst hl]; exact List.mem_map.mpr ⟨x, hx, rfl⟩
    exact Fa.loc _ this
  have hns : h₁.Ns h.objs.size (fun x => (ps.zip vals).reverse.lookup x) := hns
  have oe : EnvOk names (callEnv fd h.objs.size a) := ⟨Fa.hn, Fa.kind, Fa.gl, Fa.bi, fun x hx => by
    exfalso
    rcases isCellK_iff.mp hx with q | q
    · have := kindN_mem q; rw [← Fa.hn] at this; exact Fa.cell _ this rfl
    · have := kindN_mem q; rw [← Fa.hn] at this; exact Fa.free _ this rfl⟩
  have sub1 : Sub X h h₁ := .of hkeep
  have cl : (callEnv fd h.objs.size a).cells = [] := Fa.clo
  have z : FSt X B G0 (callEnv fd h.objs.size a) (argsΓ ps Vs) (fun _ => 0) G h₁ := {
    leh := le.sub sub1
    l0 := l0
    sub := fun b o e => sub1 b o (hB b o e)
    grow := gB
    ns := ⟨_, hns⟩
    fL := by
      cases q : B h.objs.size with
      | none => exact q
      | some o => have := hB _ _ q; rw [get_size] at this; cases this
    nL := fun o e => by have := (le _ _ e).1; rw [show (callEnv fd h.objs.size a).locals = h.objs.size from rfl, get_size] at this; cases this
    cell := fun x c e => by rw [cl] at e; cases e
    cinj := fun x y c e => by rw [cl] at e; cases e
    val := fun x v e => by
      obtain ⟨u, xv, e1, e2, r2, m⟩ := args_find Fa.nodup hl rl e
      cases e1
      exact ⟨u, .inl ⟨Fa.loc x m, _, hns, lookup_rev Fa.nodup hl e2⟩, r2⟩
    own := fun x l e => by obtain ⟨u, xv, e1, _⟩ := args_find Fa.nodup hl rl e; cases e1
    inj := fun x y l l' e => by obtain ⟨u, xv, e1, _⟩ := args_find Fa.nodup hl rl e; cases e1 }
  obtain ⟨outer, bl, frs⟩ := ok.below
  have topL : X.top.get? h.objs.size = none := by
    cases q : X.top.get? h.objs.size with
    | none => rfl
    | some o => exact absurd (ok.top _ _ q) (by rw [get_size]; exact fun e => by cases e)
  refine k _ h₁ _ outer (Nat.le_add_right_of_le htk) oe z (fun Γ oa G' h' z' => ?_) (Around.frames_deeper bl.stack) cl (get_size h)
  have fr : FrOk X (callEnv fd h.objs.size a :: outer) h' := by
    intro env' he
    rcases List.mem_cons.mp he with rfl | he
    · obtain ⟨m, n'⟩ := z'.ns
      exact ⟨by show fd.scope.kind ≠ .module; rw [Fa.kind]; decide, _, m, rfl, topL, n'⟩
    · obtain ⟨k, L, m, e1, e2, e3⟩ := frs env' he
      refine ⟨k, L, m, e1, e2, ?_⟩
      obtain ⟨o, es, ep, ho, hd, r⟩ := e3
      obtain ⟨o', e', d⟩ := z'.sub.data (a := L) (fB _ _ ho ⟨es, ep, hd⟩)
      exact ⟨o', es, ep, e', d.trans hd, r⟩
  have tp : ∀ b ob, X.top.get? b = some ob → h'.get? b = some ob := fun b ob e => z'.sub.top (tB b ob e) (by rw [e]; rfl)
  exact ⟨ok.hh, by have := ok.depth; show A.depth + 1 + n < 900; omega, by have := ok.units; show A.units + 3 + 3 * n < 5000; omega, tp, callEnv fd h.objs.size a :: outer, ⟨Around.frames_deeper bl.stack, tp, funFrames fr⟩, fr⟩
end Mine

-- part F5
open PySem
set_option Elab.async false
set_option maxRecDepth 100000
set_option linter.unusedVariables false
namespace Mine

noncomputable def ItO (L : Addr) (i : Nat) (o : Obj) : Prop := o.cls = .type "list_iterator" ∧ o.data = .fields #[.ref L, .int (i : Int) 0]
theorem ItO.nf {L : Addr} {i : Nat} {o : Obj} (t : ItO L i o) : ¬ IsFr o := fun ⟨es, ep, q⟩ => by rw [t.2] at q; cases q
theorem itc_of {o : Obj} (t : o.cls = .type "list_iterator") : IterC o := ⟨by rw [t]; exact (fun q => by injection q with q; exact absurd q (by decide)), by rw [t]; exact (fun q => by injection q with q; exact absurd q (by decide)), by rw [t]; exact (fun q => by injection q with q; exact absurd q (by decide))⟩
theorem ItO.itc {L : Addr} {i : Nat} {o : Obj} (t : ItO L i o) : IterC o := itc_of t.1

section
variable {prog : Program} {w : World} {A : Around} {X : Fix} {h : Heap} {h0 : GMap} {G0 G : GMap} {env : Env} {Γ : Ctx} {oa : Str → Addr} {ok : Around → Heap → Prop} {sc : Names} {P : Par}

theorem exec_call1B {id : String} {nx y : Str} {p1 p2 p3 : Pos} {v : Value} {Q : Value → Shared → Prop} {E : Value → Shared → Prop} (O : OkAt X ok) (PO : ParOk prog w X ok P) (o : ok A h) (oe : EnvOk sc env)
    (c1 : sameN nx debugS = false) (c2 : kindN sc nx = some .globalImplicit) (c3 : P.gl nx = some (.builtin id)) (c4 : sameN y debugS = false) (c5 : isLC (kindN sc y) = true) (lo : Loc env h y v)
    (k : ∀ tk, 1 ≤ tk → wpAny (model prog w) A (call (.builtin id) [v]) Q E (X.at h tk)) : ∀ tk, 1 ≤ tk → wpAny (model prog w) A (eval (.Call (.Name nx p1) [.Name y p2] [] p3) env) Q E (X.at h tk) := by
  intro tk htk
  rw [arm_eval_Call_Name']
  refine wpAny_bind ((global_sound (Q := fun v h' => v = .builtin id ∧ h' = h) O PO o oe c1 c2 c3 ⟨rfl, rfl⟩).use htk fun f h' tk' l' ⟨e1, e2⟩ => ?_)
  subst e1; subst e2
  refine Calls.callWith_builtin (back_plain (by rfl)) (evalArgs_of (by rfl) ?_)
  refine PyProof.Rows.args_cons ((name_sound (Q := fun u h2 => u = v ∧ h2 = h') oe c4 (isLC_iff c5) lo ⟨rfl, rfl⟩).use l' fun u h2 tk' l' ⟨e1, e2⟩ => ?_)
  subst e1; subst e2
  exact PyProof.Rows.args_nil (k tk' l')

theorem exec_call1F {a : Addr} {ob : Obj} {fd : FuncData} {nx y : Str} {p1 p2 p3 : Pos} {v : Value} {Q : Value → Shared → Prop} {E : Value → Shared → Prop} (O : OkAt X ok) (PO : ParOk prog w X ok P) (o : ok A h) (oe : EnvOk sc env)
    (c1 : sameN nx debugS = false) (c2 : kindN sc nx = some .globalImplicit) (c3 : P.gl nx = some (.ref a)) (ha : X.top.get? a = some ob) (hd : ob.data = .func fd) (c4 : sameN y debugS = false) (c5 : isLC (kindN sc y) = true) (lo : Loc env h y v)
    (k : ∀ tk, 1 ≤ tk → wpAny (model prog w) A (call (.ref a) [v]) Q E (X.at h tk)) : ∀ tk, 1 ≤ tk → wpAny (model prog w) A (eval (.Call (.Name nx p1) [.Name y p2] [] p3) env) Q E (X.at h tk) := by
  intro tk htk
  rw [arm_eval_Call_Name']
  refine wpAny_bind ((global_sound (Q := fun v h' => v = .ref a ∧ h' = h) O PO o oe c1 c2 c3 ⟨rfl, rfl⟩).use htk fun f h' tk' l' ⟨e1, e2⟩ => ?_)
  subst e1; subst e2
  refine Calls.callWith_function (o := ob) (fd := fd) (evalArgs_of (by rfl) ?_)
  refine PyProof.Rows.args_cons ((name_sound (Q := fun u h2 => u = v ∧ h2 = h') oe c4 (isLC_iff c5) lo ⟨rfl, rfl⟩).use l' fun u h2 tk' l' ⟨e1, e2⟩ => ?_)
  subst e1; subst e2
  exact PyProof.Rows.args_nil ⟨⟨O.top _ _ _ _ o ha, hd⟩, k tk' l'⟩

theorem FSt.stepI {h' : Heap} {I : Addr} {o1 o2 : Obj} (z : FSt X h0 G0 env Γ oa G h) (hI : G I = some o1) (c : IterC o1) (fI : h0 I = none) (s : SubB X (GMap.upd (fun a => h.get? a) I (some o2)) h') (c2 : ¬ IsFr o2) :
    FSt X h0 G0 env Γ oa (G.upd I (some o2)) h' ∧ h'.get? I = some o2 := by
  have e2 : h'.get? I = some o2 := (s I o2 (by simp [GMap.upd])).elim id fun q => absurd q.1 c2
  have i1 := z.leh I o1 hI
  have e3 : (h'.update I fun _ => o1).get? I = some o1 := Heap.get?_update_self _ e2 (Heap.get?_some_iff.mp i1.1).2
  have sub : Sub X h (h'.update I fun _ => o1) := fun a o e => by
    by_cases q : a = I
    · subst q; rw [i1.1] at e; cases e; exact .inl e3
    · rw [Heap.get?_update_other _ _ (Ne.symm q)]
      exact s a o (by simp only [GMap.upd, q, if_false]; exact e)
  have z1 := z.step sub (Grow.refl h G) (z.leh.sub sub)
  refine ⟨z1.updI (o1 := o1) hI c fI (fun b o n e => ?_) fun o e => ?_, e2⟩
  · rw [Heap.get?_update_other _ _ (Ne.symm n)] at e; exact e
  · cases e; exact ⟨e2, c2⟩

theorem obj_at {v w : Value} (r : Rel G v (.obj w)) : v = w := by cases r; rfl

theorem next_item {nx y x : Str} {px p1 p2 p3 pos : Pos} {I L : Addr} {i k : Nat} {oI : Obj} {vs : List Value} {octs : List Int} {c : Int} (O : OkAt X ok) (PO : ParOk prog w X ok P) (o : ok A h) (oe : EnvOk sc env)
    (c1 : sameN nx debugS = false) (c2 : kindN sc nx = some .globalImplicit) (c3 : P.gl nx = some (.builtin "next")) (c4 : sameN y debugS = false) (c5 : isLC (kindN sc y) = true) (hk : isLC (kindN sc x) = true)
    (z : FSt X h0 G0 env Γ oa G h) (hy : Γ.find y = some (.val (.obj (.ref I)))) (hI : G I = some oI) (it : ItO L i oI) (fI : h0 I = none) (hL : G L = some (listO vs k)) (r : RelL G vs (octs.map V.int)) (hc : octs[i]? = some c) :
    wpH (model prog w) X A (exec (.Assign [.Name x px] (.Call (.Name nx p1) [.Name y p2] [] p3) pos) env) (fun fl h' => fl = .next ∧ ∃ oI', FSt X h0 G0 env (Γ.put x (.val (.int c))) oa (G.upd I (some oI')) h' ∧ ItO L (i + 1) oI') h := by
  obtain ⟨u, lo, ru⟩ := z.val y _ hy
  have := obj_at ru
  subst this
  refine wpH.of fun tk htk => wpAny_Assign_Name (exec_call1B O PO o oe c1 c2 c3 c4 c5 lo (fun tk htk => ?_) tk htk) rfl
  have hl := isList z.leh hL
  obtain ⟨v, hv, rv⟩ := r.get i (x := V.int c) (by rw [List.getElem?_map, hc]; rfl)
  have hit : h.IsListIter I L i := ⟨oI, (z.leh _ _ hI).1, it.1, it.2⟩
  refine wpAny_with_toks htk (next_list (s := X.at h tk) hit hl (by simpa using hv) fun h' hit' hs l' => ?_)
  obtain ⟨oI', e1, e2, e3⟩ := hit'
  have it' : ItO L (i + 1) oI' := ⟨e2, e3⟩
  have z1 := z.updI hI it.itc fI (q := some oI') (fun b o n e => hs.extBut b o n e) fun o e => by cases e; exact ⟨e1, it'.nf⟩
  have rv' : Rel (G.upd I (some oI')) v (.int c) := Rel.upd hI it.itc rv
  refine (store_sound (Q := fun _ h2 => FSt X h0 G0 env (Γ.put x (.val (.int c))) oa (G.upd I (some oI')) h2) oe z1 hk fun h2 B st => z1.put_val st rv').use l' fun _ h2 tk2 _ z2 => ⟨h2, tk2, rfl, rfl, oI', z2, it'⟩

theorem next_end {nx y x : Str} {px p1 p2 p3 pos : Pos} {I L : Addr} {i k : Nat} {oI : Obj} {vs : List Value} {octs : List Int} {Q : Flow → Shared → Prop} {E : Value → Shared → Prop} (O : OkAt X ok) (PO : ParOk prog w X ok P) (o : ok A h) (oe : EnvOk sc env)
    (c1 : sameN nx debugS = false) (c2 : kindN sc nx = some .globalImplicit) (c3 : P.gl nx = some (.builtin "next")) (c4 : sameN y debugS = false) (c5 : isLC (kindN sc y) = true)
    (z : FSt X h0 G0 env Γ oa G h) (hy : Γ.find y = some (.val (.obj (.ref I)))) (hI : G I = some oI) (it : ItO L i oI) (fI : h0 I = none) (hL : G L = some (listO vs k)) (r : RelL G vs (octs.map V.int)) (hc : octs[i]? = none)
    (hE : ∀ h' tk' e oI', 1 ≤ tk' → FSt X h0 G0 env Γ oa (G.upd I (some oI')) h' → oI'.cls = .type "list_iterator" → ¬ IsFr oI' → h'.get? I = some oI' → h.get? e = none → (∀ B : GMap, B e = none → Fl B e h') → e ≠ I → E (.ref e) (X.at h' tk')) :
    ∀ tk, 1 ≤ tk → wpAny (model prog w) A (exec (.Assign [.Name x px] (.Call (.Name nx p1) [.Name y p2] [] p3) pos) env) Q E (X.at h tk) := by
  obtain ⟨u, lo, ru⟩ := z.val y _ hy
  have := obj_at ru
  subst this
  refine fun tk htk => wpAny_Assign_Name (exec_call1B O PO o oe c1 c2 c3 c4 c5 lo (fun tk htk => ?_) tk htk) rfl
  have hl := isList z.leh hL
  have hlen := r.length
  have hit : h.IsListIter I L i := ⟨oI, (z.leh _ _ hI).1, it.1, it.2⟩
  refine next_list_end (s := X.at h tk) (O.room _ _ o).hh hit hl (by
    have h1 : octs.length ≤ i := List.getElem?_eq_none_iff.mp hc
    rw [List.getElem?_toArray, List.getElem?_eq_none_iff, hlen, List.length_map]; exact h1) fun h' e xb fe ex o2 => ?_
  obtain ⟨oI', e1, e2, vs2, e3⟩ := o2
  have nf : ¬ IsFr oI' := fun ⟨es, ep, q⟩ => by rw [e3] at q; cases q
  have z1 := z.updI hI it.itc fI (q := some oI') (fun b o n e => xb b o n e) fun o e => by cases e; exact ⟨e1, nf⟩
  have neI : e ≠ I := by
    rintro rfl
    have := (z.leh _ _ hI).1
    rw [show h.get? e = none from fe] at this; cases this
  obtain ⟨ob, vs3, f1, f2, f3, f4, f5⟩ := ex
  exact hE h' tk e oI' htk z1 e2 nf e1 fe (fun B fB => ⟨fB, ob, vs3, f1, f2, f3, f4, .inl f5⟩) neI
end
end Mine

-- part F6
open PySem
set_option Elab.async false
set_option maxRecDepth 100000
set_option linter.unusedVariables false
namespace Mine

theorem frok_of {X : Fix} {n : Nat} {A : Around} {h : Heap} {l : List Env} (o : okN X n A h) (hfr : A.frames = some l) : FrOk X l h := by
  obtain ⟨outer, b, fr⟩ := o.below
  have := b.stack
  rw [hfr] at this
  cases this
  exact fr

inductive Vi : Int → Int → List Int → Int → Nat → Prop
  | stop (c v : Int) (l : List Int) : (Builtin.bitAnd c 64 != 0) = false → Vi c v l v 0
  | more (c v c2 : Int) (l : List Int) (r : Int) (m : Nat) : (Builtin.bitAnd c 64 != 0) = true → v.natAbs < 2 ^ 64 → Vi c2 (Builtin.bitOr (v * 2 ^ 6) (Builtin.bitAnd c2 63)) l r m → Vi c v (c2 :: l) r (m + 1)

noncomputable def nm (s : String) : Str := Str.ofString s
noncomputable def pvNames : Names := [(nm "iterator", .local), (nm "b", .local), (nm "val", .local), (nm "next", .globalImplicit)]
noncomputable def pvΓ (I : Addr) (c v : Int) : Ctx := [(nm "iterator", .val (.obj (.ref I))), (nm "b", .val (.int c)), (nm "val", .val (.int v))]

structure ItAt (X : Fix) (G : GMap) (I L : Addr) (i : Nat) (octs : List Int) : Prop where
  it : ∃ oI, G I = some oI ∧ ItO L i oI
  top : X.top.get? I = none
  li : ∃ vs k, G L = some (listO vs k) ∧ RelL G vs (octs.map V.int)

structure VarOk (prog : Program) (w : World) (X : Fix) (ok : Around → Heap → Prop) (a : Addr) : Prop where
  run : ∀ A h G I L i octs c l r m, ok A h → LeH G h → ItAt X G I L i octs → octs.drop i = c :: l → Vi c (Builtin.bitAnd c 63) l r m →
    wpH (model prog w) X A (call (.ref a) [.ref I]) (fun v h' => ∃ oI', (∃ t, v = .int r t) ∧ ItO L (i + 1 + m) oI' ∧ SubB X (GMap.upd (fun a => h.get? a) I (some oI')) h') h
  fin : ∀ A h G I L i octs, ok A h → LeH G h → ItAt X G I L i octs → octs.length ≤ i → ∀ (Q E : Value → Shared → Prop),
    (∀ h' tk' e oI', 1 ≤ tk' → oI'.cls = .type "list_iterator" → ¬ IsFr oI' → SubB X (GMap.upd (fun a => h.get? a) I (some oI')) h' → Fl1 (GMap.upd (fun a => h.get? a) I (some oI')) e h' → E (.ref e) (X.at h' tk')) →
    ∀ tk, 1 ≤ tk → wpAny (model prog w) A (call (.ref a) [.ref I]) Q E (X.at h tk)

structure PvBase (X : Fix) (h : Heap) (G : GMap) (I : Addr) : Prop where
  hB : ∀ a o, (GMap.upd (fun a => h.get? a) I none) a = some o → h.get? a = some o
  tB : ∀ a o, X.top.get? a = some o → (GMap.upd (fun a => h.get? a) I none) a = some o
  fB : ∀ a o, h.get? a = some o → IsFr o → (GMap.upd (fun a => h.get? a) I none) a = some o
  l0 : LeB (G.upd I none) (GMap.upd (fun a => h.get? a) I none)
  gB : GrowB (GMap.upd (fun a => h.get? a) I none) (G.upd I none) G
theorem pvBase {X : Fix} {h : Heap} {G : GMap} {I : Addr} {oI : Obj} (le : LeH G h) (hI : G I = some oI) (topI : X.top.get? I = none) (top : ∀ a o, X.top.get? a = some o → h.get? a = some o) : PvBase X h G I where
  hB := fun a o e => by
    unfold GMap.upd at e
    split at e
    · cases e
    · exact e
  tB := fun a o e => by
    have : a ≠ I := by rintro rfl; rw [topI] at e; cases e
    simp only [GMap.upd, this, if_false]
    exact top a o e
  fB := fun a o e f => by
    have : a ≠ I := by
      rintro rfl
      have := le _ _ hI
      rw [this.1] at e; cases e
      exact this.2 f
    simp only [GMap.upd, this, if_false]
    exact e
  l0 := fun a o e => by
    unfold GMap.upd at e
    split at e
    · cases e
    · rename_i q
      refine ⟨?_, (le a o e).2⟩
      simp only [GMap.upd, q, if_false]
      exact (le a o e).1
  gB := ⟨fun a o e => by
      unfold GMap.upd at e
      split at e
      · cases e
      · exact e,
    fun a o e => by
      by_cases q : a = I
      · subst q; right; simp [GMap.upd]
      · left; simp only [GMap.upd, q, if_false]; exact e⟩

theorem sub_up {X : Fix} {h h' : Heap} {I : Addr} {o2 : Obj} (s : SubB X (GMap.upd (fun a => h.get? a) I none) h') (e : h'.get? I = some o2) : SubB X (GMap.upd (fun a => h.get? a) I (some o2)) h' := fun a o q => by
  by_cases c : a = I
  · subst c
    simp only [GMap.upd, if_true] at q
    cases q
    exact .inl e
  · refine s a o ?_
    simp only [GMap.upd, c, if_false] at q ⊢
    exact q

section
variable {prog : Program} {w : World} {X : Fix} {P : Par} {a : Addr} {o : Obj} {fd : FuncData} {n : Nat} {p0 p1 p2 p3 p4 p5 p6 p7 p8 p9 p10 p11 p12 p13 p14 p15 p16 p17 p18 p19 p20 p21 p22 p23 p24 p25 p26 p27 p28 : Pos}

theorem var_fin {rest : List Stmt} (Fa : FnAt X a [nm "iterator"] pvNames (.Assign [.Name (nm "b") p0] (.Call (.Name (nm "next") p1) [.Name (nm "iterator") p2] [] p3) p4 :: rest) o fd) (PO : ParOk prog w X (okN X n) P) (hn : P.gl (nm "next") = some (.builtin "next")) :
    ∀ A h G I L i octs, okN X (n + 1) A h → LeH G h → ItAt X G I L i octs → octs.length ≤ i → ∀ (Q E : Value → Shared → Prop),
    (∀ h' tk' e oI', 1 ≤ tk' → oI'.cls = .type "list_iterator" → ¬ IsFr oI' → SubB X (GMap.upd (fun a => h.get? a) I (some oI')) h' → Fl1 (GMap.upd (fun a => h.get? a) I (some oI')) e h' → E (.ref e) (X.at h' tk')) →
    ∀ tk, 1 ≤ tk → wpAny (model prog w) A (call (.ref a) [.ref I]) Q E (X.at h tk) := by
  rintro A h G I L i octs ok le ⟨⟨oI, hI, it⟩, topI, vs, k, hL, r⟩ hi Q E hE
  have B := pvBase le hI topI ok.top
  refine fn_enter (Vs := [.obj (.ref I)]) Fa rfl ok le (.cons _ _ _ _ (.obj _) .nil) B.hB B.tB B.fB B.l0 B.gB fun env h₁ tk₁ outer l₁ oe z adm hfr cl fL => ?_
  have fI : (GMap.upd (fun a => h.get? a) I none) I = none := by simp [GMap.upd]
  rw [execs_cons]
  refine wpAny_bind (next_end (okN_ok X n) PO (adm _ _ _ _ z) oe (by rfl) (by rfl) hn (by rfl) (by rfl) z (by rfl) hI it fI hL r (List.getElem?_eq_none_iff.mpr hi) (fun h' tk' e oI' l' z1 cI nI eI fe fl ne => ?_) tk₁ l₁)
  have sB := sub_up z1.sub eI
  have fB : (GMap.upd (fun a => h.get? a) I (some oI')) e = none := by
    have := z.sub.none fe
    simp only [GMap.upd, ne, if_false] at this ⊢
    exact this
  unfold leaving
  refine wpAny_bind ((note_sound (Q := fun _ h2 => SubB X (GMap.upd (fun a => h.get? a) I (some oI')) h2 ∧ Fl1 (GMap.upd (fun a => h.get? a) I (some oI')) e h2) hfr (frok_of (adm _ _ _ _ z1) hfr) sB (fl _ fB) fun h2 s2 f2 _ => ⟨s2, f2⟩).use l' fun _ h2 tk2 l2 ⟨s2, f2⟩ => ?_)
  exact (flight_sound (Q := fun _ h2 => SubB X (GMap.upd (fun a => h.get? a) I (some oI')) h2 ∧ Fl1 (GMap.upd (fun a => h.get? a) I (some oI')) e h2) s2 f2 fun h3 s3 f3 => ⟨s3, f3⟩).use l2 fun _ h3 tk3 l3 ⟨s3, f3⟩ => hE h3 tk3 e oI' l3 cI nI s3 f3
end
end Mine

-- part F7
open PySem
set_option Elab.async false
set_option maxRecDepth 100000
set_option linter.unusedVariables false
namespace Mine

section
variable {prog : Program} {w : World} {X : Fix} {P : Par} {a : Addr} {o : Obj} {fd : FuncData} {n : Nat} {p0 p1 p2 p3 p4 p5 p6 p7 p8 p9 p10 p11 p12 p13 p14 p15 p16 p17 p18 p19 p20 p21 p22 p23 p24 p25 p26 p27 p28 p29 p30 p31 p32 : Pos} {k0 k1 k2 k3 k4 : Nat}

noncomputable abbrev pvS1 (p0 p1 p2 p3 p4 : Pos) : Stmt := .Assign [.Name (nm "b") p0] (.Call (.Name (nm "next") p1) [.Name (nm "iterator") p2] [] p3) p4
noncomputable abbrev pvS2 (p5 p6 p7 p8 p9 : Pos) (k0 : Nat) : Stmt := .Assign [.Name (nm "val") p5] (.BinOp (.Name (nm "b") p6) .BitAnd (.Constant (.int 63) k0 p7) p8) p9
noncomputable abbrev pvT (p10 p11 p12 : Pos) (k1 : Nat) : Expr := .BinOp (.Name (nm "b") p10) .BitAnd (.Constant (.int 64) k1 p11) p12
noncomputable abbrev pvB1 (p13 p14 p15 : Pos) (k2 : Nat) : Stmt := .AugAssign (.Name (nm "val") p13) .LShift (.Constant (.int 6) k2 p14) p15
noncomputable abbrev pvB3 (p21 p22 p23 p24 p25 : Pos) (k3 : Nat) : Stmt := .AugAssign (.Name (nm "val") p21) .BitOr (.BinOp (.Name (nm "b") p22) .BitAnd (.Constant (.int 63) k3 p23) p24) p25
noncomputable abbrev pvBody (p0 p1 p2 p3 p4 p5 p6 p7 p8 p9 p10 p11 p12 p13 p14 p15 p16 p17 p18 p19 p20 p21 p22 p23 p24 p25 p26 p27 p28 : Pos) (k0 k1 k2 k3 : Nat) : List Stmt :=
  [pvS1 p0 p1 p2 p3 p4, pvS2 p5 p6 p7 p8 p9 k0, .While (pvT p10 p11 p12 k1) [pvB1 p13 p14 p15 k2, pvS1 p16 p17 p18 p19 p20, pvB3 p21 p22 p23 p24 p25 k3] [] p26, .Return (some (.Name (nm "val") p27)) p28]

theorem vc_s2 (I : Addr) (c : Int) : vs P [] 20 pvNames (pvS2 p5 p6 p7 p8 p9 k0) [(nm "iterator", .val (.obj (.ref I))), (nm "b", .val (.int c))] (fun out => out = .next (pvΓ I c (Builtin.bitAnd c 63))) := by
  exact rfl
theorem vc_t (I : Addr) (c v : Int) : vt P 20 pvNames (pvT p10 p11 p12 k1) (pvΓ I c v) (fun b => b = (Builtin.bitAnd c 64 != 0)) := by
  exact rfl
theorem vc_b1 (I : Addr) (c v : Int) (hv : v.natAbs < 2 ^ 64) : vs P [] 20 pvNames (pvB1 p13 p14 p15 k2) (pvΓ I c v) (fun out => out = .next (pvΓ I c (v * 2 ^ 6))) := by
  exact ⟨⟨by decide, by decide, hv⟩, rfl⟩
theorem vc_b3 (I : Addr) (c v : Int) : vs P [] 20 pvNames (pvB3 p21 p22 p23 p24 p25 k3) (pvΓ I c v) (fun out => out = .next (pvΓ I c (Builtin.bitOr v (Builtin.bitAnd c 63)))) := by
  exact rfl

inductive VarQ (X : Fix) (B G0 : GMap) (env : Env) (I L : Addr) (N : Nat) (r : Int) (rr : Result) (s' : Shared) : Prop
  | mk (e : rr = .ok .next) (c' : Int) (oa' : Str → Addr) (G' : GMap) (H : Heap) (tk : Nat) (oI' : Obj) (l : 1 ≤ tk) (e2 : s' = X.at H tk) (z : FSt X B G0 env (pvΓ I c' r) oa' G' H) (hI : G' I = some oI') (it : ItO L N oI') : VarQ X B G0 env I L N r rr s'
inductive VarI (X : Fix) (B G0 : GMap) (env : Env) (I L : Addr) (N : Nat) (r : Int) (octs : List Int) (m' : Nat) (s : Shared) : Prop
  | mk (c v : Int) (j : Nat) (oa' : Str → Addr) (G' : GMap) (H : Heap) (tk : Nat) (oI' : Obj) (l : 1 ≤ tk) (e : s = X.at H tk) (z : FSt X B G0 env (pvΓ I c v) oa' G' H) (hI : G' I = some oI') (it : ItO L j oI') (hL : ∃ vs k, G' L = some (listO vs k) ∧ RelL G' vs (octs.map V.int)) (hv : Vi c v (octs.drop j) r m') (hj : j + m' = N) : VarI X B G0 env I L N r octs m' s
noncomputable def CallQ (L : Addr) (X : Fix) (B : GMap) (I : Addr) (N : Nat) (r : Int) (v : Value) (h' : Heap) : Prop := ∃ oI', (∃ t, v = .int r t) ∧ ItO L N oI' ∧ SubB X (GMap.upd B I (some oI')) h'
theorem upd_self (G : GMap) (I : Addr) (q : Option Obj) : G.upd I q I = q := if_pos rfl
theorem upd_ne {G : GMap} {I b : Addr} {q : Option Obj} (h : b ≠ I) : G.upd I q b = G b := if_neg h
theorem drop_head {octs : List Int} {j : Nat} {c : Int} {l : List Int} (e : octs.drop j = c :: l) : octs[j]? = some c ∧ octs.drop (j + 1) = l := by
  have hj : j < octs.length := by
    rcases Nat.lt_or_ge j octs.length with q | q
    · exact q
    · rw [List.drop_eq_nil_of_le q] at e; cases e
  rw [List.drop_eq_getElem_cons hj] at e
  cases e
  exact ⟨List.getElem?_eq_getElem hj, rfl⟩
section
variable {A : Around} {B G0 : GMap} {env : Env} {I L : Addr} {N : Nat} {r : Int} {octs : List Int} {h : Heap} {G : GMap} {oa : Str → Addr} {tk : Nat} {Q : Flow → Shared → Prop} {E : Value → Shared → Prop} {rest : List Stmt}
theorem exec_next {names : Names} {st : Stmt} {Γ Γ' : Ctx} {m : Nat} (VS : ∀ s K Γ oa G h, FSt X B G0 env Γ oa G h → vs P [] m names s Γ K → wpH (model prog w) X A (exec s env) (SPost X B G0 env G K) h)
    (z : FSt X B G0 env Γ oa G h) (vc : vs P [] m names st Γ (fun out => out = .next Γ')) (htk : 1 ≤ tk)
    (q : ∀ oa' G' h' tk', 1 ≤ tk' → (∀ a o, G a = some o → G' a = some o) → FSt X B G0 env Γ' oa' G' h' → wpAny (model prog w) A (execs rest env) Q E (X.at h' tk')) : wpAny (model prog w) A (execs (st :: rest) env) Q E (X.at h tk) := by
  rw [execs_cons]
  refine wpAny_bind ((VS _ _ _ _ _ _ z vc).use htk fun fl h' tk' l' p => ?_)
  cases fl with
  | brk => obtain ⟨_, _, _, _, _, q⟩ := p; cases q
  | cont => obtain ⟨_, _, _, _, _, q⟩ := p; cases q
  | ret v => obtain ⟨_, _, _, _, _, _, q⟩ := p; cases q
  | next =>
    obtain ⟨Γ3, oa3, G3, up3, z3, q3⟩ := p
    cases q3
    exact q _ _ _ _ l' up3 z3
theorem exec_item {Γ Γ' : Ctx} {i k : Nat} {oI : Obj} {vs : List Value} {c : Int} (O : OkAt X (okN X n)) (PO : ParOk prog w X (okN X n) P) (o : okN X n A h) (oe : EnvOk pvNames env) (hn : P.gl (nm "next") = some (.builtin "next"))
    (z : FSt X B G0 env Γ oa G h) (hy : Γ.find (nm "iterator") = some (.val (.obj (.ref I)))) (hI : G I = some oI) (it : ItO L i oI) (fI : B I = none) (hL : G L = some (listO vs k)) (rl : RelL G vs (octs.map V.int)) (hc : octs[i]? = some c) (e : Γ.put (nm "b") (.val (.int c)) = Γ') (htk : 1 ≤ tk)
    (q : ∀ oI' h' tk', 1 ≤ tk' → FSt X B G0 env Γ' oa (G.upd I (some oI')) h' → ItO L (i + 1) oI' → wpAny (model prog w) A (execs rest env) Q E (X.at h' tk')) : wpAny (model prog w) A (execs (pvS1 p0 p1 p2 p3 p4 :: rest) env) Q E (X.at h tk) := by
  subst e
  rw [execs_cons]
  refine wpAny_bind ((next_item O PO o oe (by rfl) (by rfl) hn (by rfl) (by rfl) (by rfl) z hy hI it fI hL rl hc).use htk fun fl h' tk' l' ⟨e, oI', z', it'⟩ => ?_)
  subst e
  exact q _ _ _ l' z' it'
theorem var_loop (oe : EnvOk pvNames env) (PO : ParOk prog w X (okN X n) P) (adm : Adm X A (okN X n) env B G0) (hn : P.gl (nm "next") = some (.builtin "next")) (fI : B I = none) (neL : L ≠ I)
    (VS : ∀ s K Γ oa G h, FSt X B G0 env Γ oa G h → vs P [] 20 pvNames s Γ K → wpH (model prog w) X A (exec s env) (SPost X B G0 env G K) h) {m : Nat} {s : Shared} (hi : VarI X B G0 env I L N r octs m s) :
    codeAny (model prog w) A (.whileLoop (pvT p10 p11 p12 k1) [pvB1 p13 p14 p15 k2, pvS1 p16 p17 p18 p19 p20, pvB3 p21 p22 p23 p24 p25 k3] [] env) (VarQ X B G0 env I L N r) s := by
  have O := okN_ok X n
  refine codeAny_whileLoop (VarI X B G0 env I L N r octs) ?_ m hi
  rintro m' s ⟨c, v, j, oa', G', H, tk, oI', l', rfl, z, hI, it, ⟨vs, k, hL, rl⟩, hv, hj⟩
  refine (((sound (A := A) O PO 20 pvNames env (pvΓ I c v) oe).2 _ _ _ _ z.rd z.leh (adm _ _ _ _ z) (vc_t (P := P) I c v))).use l' fun b h1 tk1 l1 ⟨s1, G1, g1, le1, k1⟩ => ?_
  have z1 := z.step s1 g1 le1
  have hI1 := g1.up _ _ hI
  have hL1 := g1.up _ _ hL
  have rl1 := RelL.mono g1.up rl
  clear z hI hL rl
  generalize el : octs.drop j = dj at hv
  cases hv with
  | stop _ _ _ hb =>
    rw [hb] at k1; subst k1
    exact wpAny_execs_nil ⟨rfl, c, oa', G1, h1, tk1, oI', l1, rfl, z1, hI1, by rw [← hj]; exact it⟩
  | more _ _ c2 l2 _ m'' hb hv2 hv3 =>
    rw [hb] at k1; subst k1
    obtain ⟨ei, ed⟩ := drop_head el
    rw [← ed] at hv3
    clear ed el hb
    refine exec_next VS z1 (vc_b1 (P := P) I c v hv2) l1 fun oa4 G4 h4 tk4 l4 up4 z4 => ?_
    clear z1
    have hI4 := up4 _ _ hI1
    have hL4 := up4 _ _ hL1
    have rl4 := RelL.mono up4 rl1
    clear hI1 hL1 rl1
    refine exec_item O PO (adm _ _ _ _ z4) oe hn z4 (by rfl) hI4 it fI hL4 rl4 ei (by rfl) l4 fun oI5 h5 tk5 l5 z5 it5 => ?_
    clear z4
    refine exec_next VS z5 (vc_b3 (P := P) I c2 (v * 2 ^ 6)) l5 fun oa6 G6 h6 tk6 l6 up6 z6 => ?_
    clear z5
    exact wpAny_execs_nil ⟨m'', Nat.lt_succ_self _, c2, _, j + 1, oa6, G6, h6, tk6, oI5, l6, rfl, z6, up6 _ _ (upd_self ..), it5, ⟨vs, k, up6 _ _ ((upd_ne neL).trans hL4), RelL.mono up6 (RelL.upd hI4 it.itc rl4)⟩, hv3, by rw [Nat.add_right_comm]; exact hj⟩
theorem var_body (oe : EnvOk pvNames env) (PO : ParOk prog w X (okN X n) P) (adm : Adm X A (okN X n) env B G0) (hn : P.gl (nm "next") = some (.builtin "next")) (fI : B I = none) (neL : L ≠ I)
    (VS : ∀ s K Γ oa G h, FSt X B G0 env Γ oa G h → vs P [] 20 pvNames s Γ K → wpH (model prog w) X A (exec s env) (SPost X B G0 env G K) h) {i k m : Nat} {oI : Obj} {vs : List Value} {c : Int} {l : List Int}
    (z : FSt X B G0 env [(nm "iterator", .val (.obj (.ref I)))] oa G h) (hI : G I = some oI) (it : ItO L i oI) (hL : G L = some (listO vs k)) (rl : RelL G vs (octs.map V.int)) (hd : octs.drop i = c :: l) (hv : Vi c (Builtin.bitAnd c 63) l r m) (htk : 1 ≤ tk)
    (q : ∀ t c' oa' G' H tk oI', 1 ≤ tk → FSt X B G0 env (pvΓ I c' r) oa' G' H → G' I = some oI' → ItO L (i + 1 + m) oI' → Q (.ret (.int r t)) (X.at H tk)) :
    wpAny (model prog w) A (execs (pvBody p0 p1 p2 p3 p4 p5 p6 p7 p8 p9 p10 p11 p12 p13 p14 p15 p16 p17 p18 p19 p20 p21 p22 p23 p24 p25 p26 p27 p28 k0 k1 k2 k3) env) Q E (X.at h tk) := by
  have O := okN_ok X n
  obtain ⟨ei, ed⟩ := drop_head hd
  rw [← ed] at hv
  refine exec_item O PO (adm _ _ _ _ z) oe hn z (by rfl) hI it fI hL rl ei (by rfl) htk fun oI2 h2 tk2 l2 z2 it2 => ?_
  refine exec_next VS z2 (vc_s2 (P := P) I c) l2 fun oa3 G3 h3 tk3 l3 up3 z3 => ?_
  rw [execs_cons]
  refine wpAny_bind (wpAny_While (codeAny_mono (var_loop (N := i + 1 + m) (r := r) (octs := octs) (m := m) oe PO adm hn fI neL VS ⟨c, _, i + 1, oa3, G3, h3, tk3, oI2, l3, rfl, z3, up3 _ _ (upd_self ..), it2, ⟨vs, k, up3 _ _ ((upd_ne neL).trans hL), RelL.mono up3 (RelL.upd hI it.itc rl)⟩, hv, rfl⟩) ?_))
  rintro rr s' ⟨rfl, c', oa', G', H, tk', oI5, l', rfl, z5, hI5, it5⟩
  show wpAny _ _ (execs (_ :: _) env) _ _ _
  rw [execs_cons]
  obtain ⟨u, lo, ru⟩ := z5.val (nm "val") (.int r) (by rfl)
  obtain ⟨t, rfl⟩ := ru.intI
  refine wpAny_bind (wpAny_Return_some ((name_sound (Q := fun u h' => u = .int r t ∧ h' = H) oe (by rfl) (by exact .inl rfl) lo ⟨rfl, rfl⟩).use l' fun u h7 tk7 l7 ⟨e1, e2⟩ => ?_))
  subst e1; subst e2
  exact wpAny_pure (q t c' oa' G' _ tk7 oI5 l7 z5 hI5 it5)
end
theorem var_run (Fa : FnAt X a [nm "iterator"] pvNames (pvBody p0 p1 p2 p3 p4 p5 p6 p7 p8 p9 p10 p11 p12 p13 p14 p15 p16 p17 p18 p19 p20 p21 p22 p23 p24 p25 p26 p27 p28 k0 k1 k2 k3) o fd) (PO : ParOk prog w X (okN X n) P) (hn : P.gl (nm "next") = some (.builtin "next")) :
    ∀ A h G I L i octs c l r m, okN X (n + 1) A h → LeH G h → ItAt X G I L i octs → octs.drop i = c :: l → Vi c (Builtin.bitAnd c 63) l r m →
    wpH (model prog w) X A (call (.ref a) [.ref I]) (CallQ L X (fun a => h.get? a) I (i + 1 + m) r) h := by
  rintro A h G I L i octs c l r m ok le ⟨⟨oI, hI, it⟩, topI, vs, k, hL, rl⟩ hd hv
  have B := pvBase le hI topI ok.top
  have neL : L ≠ I := by
    rintro rfl
    rw [hI] at hL; cases hL
    have := it.1
    exact absurd this (by intro q; injection q with q; exact absurd q (by decide))
  have O := okN_ok X n
  refine wpH.of fun tk htk => fn_enter (Vs := [.obj (.ref I)]) Fa rfl ok le (.cons _ _ _ _ (.obj _) .nil) B.hB B.tB B.fB B.l0 B.gB (fun env h₁ tk₁ outer l₁ oe z adm hfr cl fL => ?_) tk htk
  have Z : ZipSnd prog w X (A.deeper env) (okN X n) P := zip_snd O PO
  exact var_body oe PO adm hn (upd_self ..) neL (vs_sound (P := P) (ow := []) oe O PO Z 20 _ _ adm).1 z hI it hL rl hd hv l₁ fun t c' oa' G' H tk7 oI5 l7 z5 hI5 it5 => ⟨_, tk7, rfl, oI5, ⟨t, rfl⟩, it5, sub_up z5.sub (z5.leh _ _ hI5).1⟩

theorem var_ok (Fa : FnAt X a [nm "iterator"] pvNames (pvBody p0 p1 p2 p3 p4 p5 p6 p7 p8 p9 p10 p11 p12 p13 p14 p15 p16 p17 p18 p19 p20 p21 p22 p23 p24 p25 p26 p27 p28 k0 k1 k2 k3) o fd) (PO : ParOk prog w X (okN X n) P) (hn : P.gl (nm "next") = some (.builtin "next")) : VarOk prog w X (okN X (n + 1)) a :=
  ⟨var_run Fa PO hn, var_fin Fa PO hn⟩
end
end Mine

-- part F8
open PySem
set_option Elab.async false
set_option maxRecDepth 100000
set_option linter.unusedVariables false
namespace Mine

noncomputable def WR (P : Par) (ow : List Str) (names : Names) (rest : List Stmt) (I : Addr) (K : List V → Prop) : Nat → Ctx → List Int → Prop
  | n, Γ, [] => Γ.find (nm "octets") = some (.val (.obj (.ref I))) ∧ ∃ l, Γ.find (nm "rows") = some (.own l) ∧ K l
  | 0, Γ, _ :: _ => False
  | n + 1, Γ, c :: l => Γ.find (nm "octets") = some (.val (.obj (.ref I))) ∧ ∃ r m, Vi c (Builtin.bitAnd c 63) l r m ∧ vss P ow 40 names rest (Γ.put (nm "number") (.val (.int r))) (fun out => ∃ Γ', out = .next Γ' ∧ WR P ow names rest I K n Γ' (l.drop m))

inductive Thrown (X : Fix) (B G0 : GMap) (env : Env) (I : Addr) (K : List V → Prop) (e : Addr) (H' : Heap) : Prop
  | mk (Γ : Ctx) (oa : Str → Addr) (G : GMap) (H : Heap) (oI oI' : Obj) (l : List V) (z : FSt X B G0 env Γ oa G H) (hI : G I = some oI) (c : IterC oI) (fI : B I = none) (c2 : ¬ IsFr oI') (s : SubB X (GMap.upd (fun a => H.get? a) I (some oI')) H') (f : Fl1 (GMap.upd (fun a => H.get? a) I (some oI')) e H') (hr : Γ.find (nm "rows") = some (.own l)) (k : K l) : Thrown X B G0 env I K e H'

section
variable {prog : Program} {w : World} {A : Around} {X : Fix} {B G0 : GMap} {env : Env} {I e : Addr} {K : List V → Prop} {h : Heap} {n : Nat} {l : List Env} {Q : Unit → Heap → Prop}

theorem Thrown.typeIs {tk : Nat} (t : Thrown X B G0 env I K e h) : (X.at h tk).TypeIs (.ref e) "StopIteration" := by
  obtain ⟨_, _, _, _, _, _, _, _, _, _, _, _, _, f, _⟩ := t
  exact f.typeIs
theorem Thrown.st (t : Thrown X B G0 env I K e h) : ∃ Γ oa G l, FSt X B G0 env Γ oa G h ∧ Γ.find (nm "rows") = some (.own l) ∧ K l := by
  obtain ⟨Γ, oa, G, H, oI, oI', l, z, hI, c, fI, c2, s, f, hr, k⟩ := t
  exact ⟨Γ, oa, _, l, (z.stepI hI c fI s c2).1, hr, k⟩
theorem thrown_note {A : Around} (adm : Adm X A (okN X n) env B G0) (hfr : A.frames = some (env :: l)) (t : Thrown X B G0 env I K e h) (q : ∀ h', Thrown X B G0 env I K e h' → Q () h') : wpH (model prog w) X A (noteFrame (.ref e) env) Q h := by
  have t0 := t
  obtain ⟨Γ, oa, G, H, oI, oI', l, z, hI, c, fI, c2, s, f, hr, k⟩ := t
  have z1 := (z.stepI hI c fI s c2).1
  exact note_sound hfr (frok_of (adm _ _ _ _ z1) hfr) s f.fl fun h' s' f' _ => q h' ⟨Γ, oa, G, H, oI, oI', l, z, hI, c, fI, c2, s', f', hr, k⟩
theorem thrown_flight {fr : Option Addr} (t : Thrown X B G0 env I K e h) (q : ∀ h', Thrown X B G0 env I K e h' → Q () h') : wpH (model prog w) X A (setFlight (.ref e) fr) Q h := by
  obtain ⟨Γ, oa, G, H, oI, oI', l, z, hI, c, fI, c2, s, f, hr, k⟩ := t
  exact flight_sound s f fun h' s' f' => q h' ⟨Γ, oa, G, H, oI, oI', l, z, hI, c, fI, c2, s', f', hr, k⟩
theorem thrown_came {E : Value → Shared → Prop} {tk : Nat} (t : Thrown X B G0 env I K e h) (htk : 1 ≤ tk) (q : ∀ h' tk', 1 ≤ tk' → Thrown X B G0 env I K e h' → E (.ref e) (X.at h' tk')) : cameBackBy (model prog w) A env E (.ref e) (X.at h tk) := by
  obtain ⟨Γ, oa, G, H, oI, oI', l, z, hI, c, fI, c2, s, f, hr, k⟩ := t
  exact came_sound s f htk fun h' tk' l' s' f' => q h' tk' l' ⟨Γ, oa, G, H, oI, oI', l, z, hI, c, fI, c2, s', f', hr, k⟩
end

section
variable {prog : Program} {w : World} {A : Around} {X : Fix} {B G0 : GMap} {env : Env} {I L av : Addr} {K : List V → Prop} {P : Par} {ow : List Str} {names : Names} {rest : List Stmt} {n : Nat} {outer : List Env} {oav : Obj} {fdv : FuncData} {octs : List Int} {p0 p1 p2 p3 p4 p5 p6 : Pos} {k0 : Nat}

inductive RowQ (X : Fix) (B G0 : GMap) (env : Env) (I : Addr) (K : List V → Prop) (r : Except Value Flow) (s' : Shared) : Prop
  | mk (e : Addr) (h' : Heap) (tk' : Nat) (er : r = .error (.ref e)) (l : 1 ≤ tk') (es : s' = X.at h' tk') (t : Thrown X B G0 env I K e h') : RowQ X B G0 env I K r s'
inductive RowI (X : Fix) (B G0 : GMap) (env : Env) (I L : Addr) (K : List V → Prop) (P : Par) (ow : List Str) (names : Names) (rest : List Stmt) (octs : List Int) (m : Nat) (s : Shared) : Prop
  | mk (Γ : Ctx) (oa : Str → Addr) (G : GMap) (h : Heap) (tk i : Nat) (l : 1 ≤ tk) (e : s = X.at h tk) (z : FSt X B G0 env Γ oa G h) (it : ItAt X G I L i octs) (wr : WR P ow names rest I K m Γ (octs.drop i)) : RowI X B G0 env I L K P ow names rest octs m s
theorem rows_loop (oe : EnvOk names env) (PO : ParOk prog w X (okN X n) P) (adm : Adm X A (okN X n) env B G0) (hfr : A.frames = some (env :: outer)) (fI : B I = none)
    (g1 : P.gl (nm "_parse_varint") = some (.ref av)) (ha : X.top.get? av = some oav) (hd : oav.data = .func fdv) (V : VarOk prog w X (okN X n) av)
    (k1 : kindN names (nm "_parse_varint") = some .globalImplicit) (k2 : isLC (kindN names (nm "octets")) = true) (k3 : isLC (kindN names (nm "number")) = true)
    {Γ : Ctx} {oa : Str → Addr} {G : GMap} {h : Heap} {i m : Nat} (z : FSt X B G0 env Γ oa G h) (it : ItAt X G I L i octs) (wr : WR P ow names rest I K m Γ (octs.drop i)) :
    ∀ tk, 1 ≤ tk → codeAny (model prog w) A (.whileLoop (.Constant (.bool true) k0 p0) (.Assign [.Name (nm "number") p1] (.Call (.Name (nm "_parse_varint") p2) [.Name (nm "octets") p3] [] p4) p5 :: rest) [] env)
      (RowQ X B G0 env I K) (X.at h tk) := by
  intro tk htk
  have O := okN_ok X n
  have Z : ZipSnd prog w X A (okN X n) P := zip_snd O PO
  refine codeAny_whileLoop (RowI X B G0 env I L K P ow names rest octs) ?_ m ⟨Γ, oa, G, h, tk, i, htk, rfl, z, it, wr⟩
  rintro m s ⟨Γ, oa, G, h, tk, i, htk, rfl, z, it, wr⟩
  refine (((sound (A := A) O PO 20 names env Γ oe).2 (.Constant (.bool true) k0 p0) (fun b => b = true) _ _ z.rd z.leh (adm _ _ _ _ z) (by rfl))).use htk fun b h1 tk1 l1 ⟨s1, G1, g1', le1, e⟩ => ?_
  subst e
  have z1 := z.step s1 g1' le1
  obtain ⟨⟨oI, hI, itO⟩, topI, vs, k, hL, rl⟩ := it
  have hI1 := g1'.up _ _ hI
  have it1 : ItAt X G1 I L i octs := ⟨⟨oI, hI1, itO⟩, topI, vs, k, g1'.up _ _ hL, RelL.mono g1'.up rl⟩
  have hoct : Γ.find (nm "octets") = some (.val (.obj (.ref I))) := by
    revert wr
    cases octs.drop i with
    | nil => intro wr; cases m <;> exact wr.1
    | cons c l => intro wr; cases m with
      | zero => exact wr.elim
      | succ m => exact wr.1
  obtain ⟨u, lo, ru⟩ := z1.val _ _ hoct
  have := obj_at ru
  subst this
  show wpAny _ _ (execs (_ :: _) env) _ _ _
  rw [execs_cons]
  cases ed : octs.drop i with
  | nil =>
    rw [ed] at wr
    have hlen : octs.length ≤ i := List.drop_eq_nil_iff.mp ed
    refine wpAny_bind (wpAny_Assign_Name (exec_call1F O PO (adm _ _ _ _ z1) oe (by rfl) k1 g1 ha hd (by rfl) k2 lo (V.fin A h1 G1 I L i octs (adm _ _ _ _ z1) z1.leh it1 hlen _ _ fun h' tk' e oI' l' cI nI s2 f2 => ?_) tk1 l1) rfl)
    have wr2 : ∃ l, Γ.find (nm "rows") = some (.own l) ∧ K l := by cases m <;> exact wr.2
    obtain ⟨l, hr, kk⟩ := wr2
    have T : Thrown X B G0 env I K e h' := ⟨Γ, oa, G1, h1, oI, oI', l, z1, hI1, itO.itc, fI, nI, s2, f2, hr, kk⟩
    unfold notedBy
    exact (thrown_note (Q := fun _ h2 => Thrown X B G0 env I K e h2) adm hfr T fun h2 t => t).use l' fun _ h2 tk2 l2 t => ⟨e, h2, tk2, rfl, l2, rfl, t⟩
  | cons c l =>
    rw [ed] at wr
    cases m with
    | zero => exact wr.elim
    | succ m =>
      obtain ⟨_, r, mm, vi, vc⟩ := wr
      have dl : octs.drop (i + 1) = l := by rw [← List.tail_drop, ed]; rfl
      refine wpAny_bind (wpAny_Assign_Name (exec_call1F O PO (adm _ _ _ _ z1) oe (by rfl) k1 g1 ha hd (by rfl) k2 lo (fun tk htk => (V.run A h1 G1 I L i octs c l r mm (adm _ _ _ _ z1) z1.leh it1 ed vi).use htk fun v h2 tk2 l2 ⟨oI', ⟨t, e⟩, it2, s2⟩ => ?_) tk1 l1) rfl)
      subst e
      obtain ⟨z2, hI2⟩ := z1.stepI hI1 itO.itc fI s2 it2.nf
      have neL : L ≠ I := by
        rintro rfl
        rw [hI] at hL; cases hL
        have := itO.1
        exact absurd this (by intro q; injection q with q; exact absurd q (by decide))
      refine (store_sound (Q := fun _ h3 => FSt X B G0 env (Γ.put (nm "number") (.val (.int r))) oa (G1.upd I (some oI')) h3) oe z2 k3 fun h3 B st => z2.put_val st (.int r t)).use l2 fun _ h3 tk3 l3 z3 => ?_
      show wpAny _ _ (execs rest env) _ _ _
      refine ((vs_sound (P := P) (ow := ow) oe O PO Z 40 _ _ adm).2 rest _ _ _ _ _ z3 vc).use l3 fun f h4 tk4 l4 p => ?_
      cases f with
      | brk => obtain ⟨_, _, _, _, _, _, q, _⟩ := p; cases q
      | cont => obtain ⟨_, _, _, _, _, _, q, _⟩ := p; cases q
      | ret v => obtain ⟨_, _, _, _, _, _, _, q, _⟩ := p; cases q
      | next =>
        obtain ⟨Γ4, oa4, G4, up4, z4, Γ5, q, wr4⟩ := p
        cases q
        refine ⟨m, Nat.lt_succ_self m, Γ4, oa4, G4, h4, tk4, i + 1 + mm, l4, rfl, z4, ⟨⟨oI', up4 _ _ (by simp [GMap.upd]), it2⟩, topI, vs, k, up4 _ _ (by simp only [GMap.upd, neL, if_false]; exact it1.li.elim fun vs' ⟨k', e1, _⟩ => g1'.up _ _ hL), RelL.mono up4 (RelL.upd hI1 itO.itc (RelL.mono g1'.up rl))⟩, ?_⟩
        rw [← List.drop_drop, dl]
        exact wr4
end
end Mine

-- part F9
open PySem
set_option Elab.async false
set_option maxRecDepth 100000
set_option linter.unusedVariables false
namespace Mine

theorem sub_stop : isSubtype (.type "StopIteration") (.type "BaseException") = pure true := by rw [isSubtype_type]; kernel_rfl
theorem sub_stop2 : isSubtype (.type "StopIteration") (.type "StopIteration") = pure true := by rw [isSubtype_type]; kernel_rfl
theorem sub_stop3 : isSubtype (.type ((Manifest.find? "StopIteration").elim "type" fun x => x.metatype)) (.type "tuple") = pure false := by
  rw [show ((Manifest.find? "StopIteration").elim "type" fun x => x.metatype) = "type" from by kernel_rfl]
  rw [isSubtype_type]; kernel_rfl

section
variable {prog : Program} {w : World} {A : Around} {X : Fix} {h : Heap} {env : Env} {ok : Around → Heap → Prop} {P : Par} {sc : Names}
theorem global_at {x : Str} {v : Value} {p : Pos} {Q : Value → Heap → Prop} (PO : ParOk prog w X ok P) (top : ∀ a o, X.top.get? a = some o → h.get? a = some o) (oe : EnvOk sc env) (hd : sameN x debugS = false) (hk : kindN sc x = some .globalImplicit)
    (hg : P.gl x = some v) (q : Q v h) : wpH (model prog w) X A (eval (.Name x p) env) Q h := by
  obtain ⟨mg, n, hv⟩ := PO.gl x v hg
  have ns : ∀ {a : Addr} {m : Str → Option Value}, X.top.Ns a m → h.Ns a m := fun n => n.at' fun ob e => top _ _ e
  have ng : h.Ns env.globals mg := by rw [oe.globals]; exact ns n
  refine wpH.of fun tk _ => Calls.Name_function_global oe.kind (by rw [oe.kindOf]; exact hk) ?_ (debug_ne hd)
  rcases hv with hv | ⟨hm, mb, nb, hv⟩
  · exact Calls.loadGlobal_global (s := X.at h tk) ng hv ⟨h, tk, rfl, q⟩
  · have nb' : h.Ns env.builtins mb := by rw [oe.builtins]; exact ns nb
    exact Calls.loadGlobal_builtin (s := X.at h tk) ng hm nb' hv ⟨h, tk, rfl, q⟩

theorem iter_step {B G0 G : GMap} {Γ : Ctx} {oa : Str → Addr} {n : Nat} {x nx : Str} {e : Expr} {px p1 p3 pos : Pos} {octs : List Int} {m : Nat} (oe : EnvOk sc env) (PO : ParOk prog w X (okN X n) P) (o : okN X n A h)
    (z : FSt X B G0 env Γ oa G h) (k1 : kindN sc nx = some .globalImplicit) (d1 : sameN nx debugS = false) (g1 : P.gl nx = some (.builtin "iter")) (k2 : isLC (kindN sc x) = true) (hs : isStarE e = false) (vc : ve P m sc e Γ (fun v => v = .list (octs.map V.int))) :
    wpH (model prog w) X A (exec (.Assign [.Name x px] (.Call (.Name nx p1) [e] [] p3) pos) env) (fun fl h' => fl = .next ∧ ∃ I L G', FSt X B G0 env (Γ.put x (.val (.obj (.ref I)))) oa G' h' ∧ ItAt X G' I L 0 octs ∧ B I = none) h := by
  have O := okN_ok X n
  refine wpH.of fun tk htk => wpAny_Assign_Name ?_ rfl
  rw [arm_eval_Call_Name']
  refine wpAny_bind ((global_sound (Q := fun v h' => v = .builtin "iter" ∧ h' = h) O PO o oe d1 k1 g1 ⟨rfl, rfl⟩).use htk fun f h1 tk1 l1 ⟨e1, e2⟩ => ?_)
  subst e1; subst e2
  refine Calls.callWith_builtin (back_plain (by simp [hs])) (evalArgs_of (by simp [hs]) ?_)
  refine PyProof.Rows.args_cons (((sound (A := A) O PO m sc env Γ oe).1 e _ G h1 z.rd z.leh o vc).use l1 fun u h2 tk2 l2 ⟨s2, xv, G2, g2, le2, r2, k⟩ => ?_) (starEach_cons hs)
  subst k
  obtain ⟨L, vs, k, rfl, hL, rl⟩ := r2.listI
  have z2 := z.step s2 g2 le2
  refine PyProof.Rows.args_nil ?_
  show wpAny _ A (call (.builtin "iter") [.ref L]) _ _ _
  refine wpAny_with_toks l2 (iter_list (s := X.at h2 tk2) (isList le2 hL) fun l3 => ?_)
  have fr : h2.get? h2.objs.size = none := get_size h2
  obtain ⟨f1, f2, f3, f4, f5⟩ := z2.fresh fr
  have e3 : (h2.push { cls := .type "list_iterator", data := .fields #[.ref L, .int 0 0] }).get? h2.objs.size = some { cls := .type "list_iterator", data := .fields #[.ref L, .int 0 0] } := Heap.get?_push_size _ rfl
  have itO : ItO L 0 { cls := .type "list_iterator", data := .fields #[.ref L, .int 0 0] } := ⟨rfl, rfl⟩
  have z3 := (z2.step (Sub.push h2 _) (Grow.refl h2 G2) (le2.sub (X := X) (Sub.push _ _))).add e3 itO.nf f1 f2 (by
    rintro (q | ⟨y, q⟩ | ⟨y, l, q1, q2⟩)
    · exact f3 q.symm
    · exact f4 _ _ q rfl
    · exact f5 _ _ q1 q2)
  refine (store_sound (Q := fun _ h4 => FSt X B G0 env (Γ.put x (.val (.obj (.ref h2.objs.size)))) oa (G2.add h2.objs.size { cls := .type "list_iterator", data := .fields #[.ref L, .int 0 0] }) h4) oe z3 k2 fun h4 B st => z3.put_val st (.obj _)).use l3 fun _ h4 tk4 l4 z4 => ?_
  have up : ∀ a ob, G2 a = some ob → (G2.add h2.objs.size { cls := .type "list_iterator", data := .fields #[.ref L, .int 0 0] }) a = some ob := fun a ob e => by
    have : a ≠ h2.objs.size := fun q => f2 ob (q ▸ e)
    simp [GMap.add, this, e]
  refine ⟨h4, tk4, rfl, rfl, h2.objs.size, L, _, z4, ⟨⟨_, GMap.add_self .., itO⟩, ?_, vs, k, up _ _ hL, RelL.mono up rl⟩, f1⟩
  cases q : X.top.get? h2.objs.size with
  | none => rfl
  | some ob =>
    have := (O.keep _ _ _ o s2).top _ _ q
    rw [fr] at this; cases this

theorem one_step {B G0 G : GMap} {Γ : Ctx} {oa : Str → Addr} {n m : Nat} {ow : List Str} {s1 : Stmt} {r : List Stmt} {K : Out → Prop} (oe : EnvOk sc env) (PO : ParOk prog w X (okN X n) P) (adm : Adm X A (okN X n) env B G0)
    (z : FSt X B G0 env Γ oa G h) (hK : ∀ out, K out → ∃ Γ, out = .next Γ) (vc : vss P ow (m + 1) sc (s1 :: r) Γ K) :
    wpH (model prog w) X A (exec s1 env) (fun fl h' => fl = .next ∧ ∃ Γ' oa' G', (∀ a o, G a = some o → G' a = some o) ∧ FSt X B G0 env Γ' oa' G' h' ∧ vss P ow m sc r Γ' K) h := by
  have O := okN_ok X n
  have Z : ZipSnd prog w X A (okN X n) P := zip_snd O PO
  refine wpH.mono ((vs_sound (P := P) (ow := ow) oe O PO Z m _ _ adm).1 s1 _ _ _ _ _ z vc) fun fl h' p => ?_
  cases fl with
  | brk => obtain ⟨_, _, _, _, _, q⟩ := p; obtain ⟨_, q⟩ := hK _ q; cases q
  | cont => obtain ⟨_, _, _, _, _, q⟩ := p; obtain ⟨_, q⟩ := hK _ q; cases q
  | ret v => obtain ⟨_, _, _, _, _, _, q⟩ := p; obtain ⟨_, q⟩ := hK _ q; cases q
  | next => obtain ⟨Γ', oa', G', up, z', q⟩ := p; exact ⟨rfl, Γ', oa', G', up, z', q⟩

theorem rows_body {n : Nat} {av : Addr} {oav : Obj} {fdv : FuncData} {B G0 G : GMap} {oa : Str → Addr} {outer : List Env} {tk : Nat} {Q : Flow → Shared → Prop} {E : Value → Shared → Prop} {ow : List Str} {x : Str} {octs : List Int} {res : List V} {e : Expr} {rest : List Stmt} {s1 s2 s3 : Stmt} {k0 : Nat} {p0 p1 p2 p3 p4 p5 p6 p7 p8 p9 p10 p11 p12 p13 p14 p15 : Pos}
    (PO : ParOk prog w X (okN X n) P) (VK : VarOk prog w X (okN X n) av)
    (g1 : P.gl (nm "_parse_varint") = some (.ref av)) (ha : X.top.get? av = some oav) (hd : oav.data = .func fdv) (g2 : P.gl (nm "iter") = some (.builtin "iter")) (g3 : P.gl (nm "StopIteration") = some (.type "StopIteration"))
    (k1 : kindN sc (nm "_parse_varint") = some .globalImplicit) (k2 : isLC (kindN sc (nm "octets")) = true) (k3 : isLC (kindN sc (nm "number")) = true) (k4 : kindN sc (nm "iter") = some .globalImplicit)
    (k5 : kindN sc (nm "StopIteration") = some .globalImplicit) (k6 : isLC (kindN sc (nm "rows")) = true) (hs : isStarE e = false)
    (vc0 : ve P 20 sc e [(nm "text", .val (.str x))] (fun v => v = .list (octs.map V.int)))
    (vc1 : ∀ I, vss P ow 20 sc [s1, s2, s3] [(nm "text", .val (.str x)), (nm "octets", .val (.obj (.ref I)))] (fun out => ∃ Γ m, out = .next Γ ∧ WR P ow sc rest I (fun l => l = res) m Γ octs)) :
    EnvOk sc env → Adm X A (okN X n) env B G0 → A.frames = some (env :: outer) → FSt X B G0 env [(nm "text", .val (.str x))] oa G h → 1 ≤ tk →
    (∀ v G' h' tk', 1 ≤ tk' → SubB X B h' → GrowB B G0 G' → LeH G' h' → Rel G' v (.list res) → Q (.ret v) (X.at h' tk')) →
    wpAny (model prog w) A (execs (.Assign [.Name (nm "octets") p0] (.Call (.Name (nm "iter") p1) [e] [] p2) p3 :: s1 :: s2 :: s3 ::
      [.Try [.While (.Constant (.bool true) k0 p4) (.Assign [.Name (nm "number") p5] (.Call (.Name (nm "_parse_varint") p6) [.Name (nm "octets") p7] [] p8) p9 :: rest) [] p10]
        [.ExceptHandler (some (.Name (nm "StopIteration") p11)) none [.Return (some (.Name (nm "rows") p12)) p13] p14] [] [] p15]) env) Q E (X.at h tk) := by
  intro oe adm hfr z htk qf
  rw [execs_cons]
  refine wpAny_bind ((iter_step oe PO (adm _ _ _ _ z) z k4 (by rfl) g2 k2 hs vc0).use htk fun fl h2 tk2 l2 ⟨e, I, L, G2, z2, it2, fI⟩ => ?_)
  subst e
  have hK : ∀ out, (∃ Γ m, out = Out.next Γ ∧ WR P ow sc rest I (fun l => l = res) m Γ octs) → ∃ Γ, out = .next Γ := fun out ⟨Γ, m, e, _⟩ => ⟨Γ, e⟩
  show wpAny _ _ (execs (_ :: _) env) _ _ _
  rw [execs_cons]
  refine wpAny_bind ((one_step oe PO adm z2 hK (vc1 I)).use l2 fun fl h3 tk3 l3 ⟨e, Γ3, oa3, G3, up3, z3, vc3⟩ => ?_)
  subst e
  show wpAny _ _ (execs (_ :: _) env) _ _ _
  rw [execs_cons]
  refine wpAny_bind ((one_step oe PO adm z3 hK vc3).use l3 fun fl h4 tk4 l4 ⟨e, Γ4, oa4, G4, up4, z4, vc4⟩ => ?_)
  subst e
  show wpAny _ _ (execs (_ :: _) env) _ _ _
  rw [execs_cons]
  refine wpAny_bind ((one_step oe PO adm z4 hK vc4).use l4 fun fl h5 tk5 l5 ⟨e, Γ5, oa5, G5, up5, z5, vc5⟩ => ?_)
  subst e
  obtain ⟨Γ6, m, e6, wr⟩ : ∃ Γ m, Out.next Γ5 = .next Γ ∧ WR P ow sc rest I (fun l => l = res) m Γ octs := vc5
  cases e6
  have it5 : ItAt X G5 I L 0 octs := by
    obtain ⟨⟨oI, e1, e2⟩, tp, vs, k, e3, e4⟩ := it2
    have up : ∀ a o, G2 a = some o → G5 a = some o := fun a o e => up5 a o (up4 a o (up3 a o e))
    exact ⟨⟨oI, up _ _ e1, e2⟩, tp, vs, k, up _ _ e3, RelL.mono up e4⟩
  show wpAny _ _ (execs (_ :: _) env) _ _ _
  rw [execs_cons]
  refine wpAny_bind (wpAny_Try_except ?_)
  rw [execs_cons]
  refine wpAny_bind (wpAny_While (codeAny_mono (rows_loop oe PO adm hfr fI g1 ha hd VK k1 k2 k3 z5 it5 wr tk5 l5) ?_))
  rintro r s' ⟨e, h6, tk6, rfl, l6, rfl, T6⟩
  refine thrown_came T6 l6 fun h7 tk7 l7 T7 => ?_
  refine (thrown_note (Q := fun _ h2 => Thrown X B G0 env I (fun l => l = res) e h2) adm hfr T7 fun h2 t => t).use l7 fun _ h8 tk8 l8 T8 => ?_
  refine (thrown_flight (Q := fun _ h2 => Thrown X B G0 env I (fun l => l = res) e h2) T8 fun h2 t => t).use l8 fun _ h9 tk9 l9 T9 => ?_
  refine wpAny_handleBy_builtin (X := "StopIteration") (T := "StopIteration") (b := true) sub_stop sub_stop3 sub_stop2 ?_
  obtain ⟨Γa, oaa, Ga, la, za, _, _⟩ := T9.st
  refine (global_at (Q := fun v h2 => v = .type "StopIteration" ∧ h2 = h9) PO (adm _ _ _ _ za).top oe (by rfl) k5 g3 ⟨rfl, rfl⟩).use l9 fun v h10 tk10 l10 ⟨e1, e2⟩ => ?_
  subst e2
  refine ⟨e1, T9.typeIs, ?_⟩
  rw [if_pos rfl]
  refine (thrown_flight (Q := fun _ h2 => Thrown X B G0 env I (fun l => l = res) e h2) T9 fun h2 t => t).use l10 fun _ h11 tk11 l11 T11 => ?_
  obtain ⟨Γb, oab, Gb, lb, zb, hr, kb⟩ := T11.st
  subst kb
  obtain ⟨Gf, rd, lf, gf⟩ := zb.freeze
  have hr2 : (froze Γb).find (nm "rows") = some (.val (.list lb)) := by rw [froze_find, hr]; rfl
  obtain ⟨v, lo, rv⟩ := rd _ _ hr2
  rw [execs_cons]
  refine wpAny_bind (wpAny_Return_some ((name_sound (Q := fun u h' => u = v ∧ h' = h11) oe (by rfl) (isLC_iff k6) lo ⟨rfl, rfl⟩).use l11 fun u h12 tk12 l12 ⟨e1, e2⟩ => ?_))
  subst e1; subst e2
  exact wpAny_pure (wpAny_pure (qf _ Gf _ tk12 l12 zb.sub gf lf rv))
theorem rows_gives {n : Nat} {a av : Addr} {o oav : Obj} {fd fdv : FuncData} {ow : List Str} {x : Str} {octs : List Int} {res : List V} {e : Expr} {rest : List Stmt} {s1 s2 s3 : Stmt} {k0 : Nat} {p0 p1 p2 p3 p4 p5 p6 p7 p8 p9 p10 p11 p12 p13 p14 p15 : Pos}
    (Fa : FnAt X a [nm "text"] sc (.Assign [.Name (nm "octets") p0] (.Call (.Name (nm "iter") p1) [e] [] p2) p3 :: s1 :: s2 :: s3 ::
      [.Try [.While (.Constant (.bool true) k0 p4) (.Assign [.Name (nm "number") p5] (.Call (.Name (nm "_parse_varint") p6) [.Name (nm "octets") p7] [] p8) p9 :: rest) [] p10]
        [.ExceptHandler (some (.Name (nm "StopIteration") p11)) none [.Return (some (.Name (nm "rows") p12)) p13] p14] [] [] p15]) o fd)
    (PO : ParOk prog w X (okN X n) P) (VK : VarOk prog w X (okN X n) av)
    (g1 : P.gl (nm "_parse_varint") = some (.ref av)) (ha : X.top.get? av = some oav) (hd : oav.data = .func fdv) (g2 : P.gl (nm "iter") = some (.builtin "iter")) (g3 : P.gl (nm "StopIteration") = some (.type "StopIteration"))
    (k1 : kindN sc (nm "_parse_varint") = some .globalImplicit) (k2 : isLC (kindN sc (nm "octets")) = true) (k3 : isLC (kindN sc (nm "number")) = true) (k4 : kindN sc (nm "iter") = some .globalImplicit)
    (k5 : kindN sc (nm "StopIteration") = some .globalImplicit) (k6 : isLC (kindN sc (nm "rows")) = true) (hs : isStarE e = false)
    (vc0 : ve P 20 sc e [(nm "text", .val (.str x))] (fun v => v = .list (octs.map V.int)))
    (vc1 : ∀ I, vss P ow 20 sc [s1, s2, s3] [(nm "text", .val (.str x)), (nm "octets", .val (.obj (.ref I)))] (fun out => ∃ Γ m, out = .next Γ ∧ WR P ow sc rest I (fun l => l = res) m Γ octs)) :
    FnGives prog w X (okN X (n + 1)) a [.str x] (.list res) := by
  intro A h G vals ok le rl
  refine wpH.of fun tk htk => fn_enter (B := fun a => h.get? a) (G0 := G) (Vs := [.str x]) Fa rfl ok le rl (fun _ _ e => e) ok.top (fun _ _ e _ => e) le ⟨fun _ _ e => e, fun _ _ e => .inl e⟩ (fun env h₁ tk₁ outer l₁ oe z adm hfr cl fL => ?_) tk htk
  exact rows_body PO VK g1 ha hd g2 g3 k1 k2 k3 k4 k5 k6 hs vc0 vc1 oe adm hfr z l₁ fun v Gf h' tk12 l12 sb gf lf rv => ⟨_, tk12, rfl, sb, _, Gf, ⟨gf.up, gf.new⟩, lf, rv, rfl⟩
end
end Mine

-- part R1
open PySem
set_option Elab.async false
set_option maxRecDepth 100000
set_option linter.unusedVariables false
set_option linter.unusedSimpArgs false
namespace Mine
open PySem.Sre

noncomputable def itS : Nat → M → M
  | 0, m => m
  | n + 1, m => itS n m.step
theorem step_done {m : M} (h : m.outcome.isSome = true) : m.step = m := by unfold M.step; rw [if_pos h]
theorem itS_done {m : M} (h : m.outcome.isSome = true) : ∀ n, itS n m = m
  | 0 => rfl
  | n + 1 => by unfold itS; rw [step_done h]; exact itS_done h n
theorem itS_add (a b : Nat) (m : M) : itS (a + b) m = itS b (itS a m) := by
  induction a generalizing m with
  | zero => rw [Nat.zero_add]; rfl
  | succ a ih => rw [Nat.succ_add]; exact ih m.step
theorem runFor_eq : ∀ (n : Nat) (m : M), m.runFor n = itS n m
  | 0, m => rfl
  | n + 1, m => by
    unfold M.runFor
    split
    · rename_i h; exact (itS_done h (n + 1)).symm
    · exact runFor_eq n m.step
theorem itS_eq {m : M} {a b : Nat} (h : (itS a m).outcome.isSome = true) (l : a ≤ b) : itS b m = itS a m := by
  obtain ⟨c, rfl⟩ := Nat.exists_eq_add_of_le l
  rw [itS_add, itS_done h]

theorem drive_sound {M : Model} {A : Around} {E : Value → Shared → Prop} {s : Shared} {Q : Sre.M → Shared → Prop} : ∀ (turns : Nat) (k : Nat) (m : Sre.M), 1 ≤ turns → k ≤ 4 * turns → (itS k m).outcome.isSome = true → Q (itS k m) s →
    wpAny M A (Builtin.Re.reDrive turns m) Q E s
  | 0, _, _, h, _, _, _ => absurd h (by decide)
  | t + 1, k, m, _, hk, ho, q => by
    unfold Builtin.Re.reDrive
    show wpAny M A (if (m.runFor 4).outcome.isSome then pure (m.runFor 4) else do rule "sre.turn"; Builtin.Re.reDrive t (m.runFor 4)) Q E s
    rw [runFor_eq]
    by_cases h4 : (itS 4 m).outcome.isSome = true
    · rw [if_pos h4]
      refine wpAny_pure ?_
      have : itS 4 m = itS k m := by
        rcases Nat.le_total k 4 with h | h
        · exact itS_eq ho h
        · exact (itS_eq h4 h).symm
      rw [this]; exact q
    · rw [if_neg h4]
      refine wpAny_bind (wpAny_rule ?_)
      have hgt : 4 < k := by
        rcases Nat.lt_or_ge 4 k with h | h
        · exact h
        · exfalso; apply h4; rw [itS_eq ho h]; exact ho
      have e : itS k m = itS (k - 4) (itS 4 m) := by rw [← itS_add]; congr 1; omega
      rw [e] at ho q
      exact drive_sound t (k - 4) (itS 4 m) (by omega) (by omega) ho q

structure Mc (code text : Array Nat) (lim ls start pc pos handed : Nat) (om : Bool) (fr : List Sre.Frame) (ans : Option Bool) (w : Nat) (m : M) : Prop where
  code : m.code = code
  text : m.text = text
  lim : m.lim = lim
  ls : m.lastStart = ls
  start : m.start = start
  pc : m.pc = pc
  pos : m.pos = pos
  handed : m.handed = handed
  om : m.outermost = om
  fr : m.frames = fr
  ans : m.answer = ans
  w : m.weight = w
  whole : m.wholeText = false
  must : m.mustAdvance = false
  inner : m.inner = none
  marks : m.marks = #[]
  lastmark : m.lastmark = -1
  out : m.outcome = none

section
variable {code text : Array Nat} {lim ls start pc pos handed w : Nat} {om : Bool} {fr : List Sre.Frame} {m : M}

theorem mc_exec (c : Mc code text lim ls start pc pos handed om fr none w m) (hp : pc < code.size) : m.step = m.exec := by
  unfold M.step
  rw [c.out, c.ans, c.pc, c.code, if_pos hp]
  rfl

theorem mc_lit_ok (c : Mc code text lim ls start pc pos handed om fr none w m) (hp : pc < code.size) (hw : code.getD pc 0 = 16) (hl : pos < lim) (ht : text.getD pos 0 = code.getD (pc + 1) 0) :
    Mc code text lim ls start (pc + 2) (pos + 1) handed om fr none w m.step := by
  rw [mc_exec c hp]
  obtain ⟨rfl, rfl, rfl, rfl, rfl, rfl, rfl, rfl, rfl, rfl, c11, rfl, c13, c14, c15, c16, c17, c18⟩ := c
  have hn : ¬ (m.pos ≥ m.lim) := by omega
  constructor <;> simp [M.exec, M.word, hw, ops, accepts, itemWidth, hn, ht, *]
theorem mc_lit_no (c : Mc code text lim ls start pc pos handed om fr none w m) (hp : pc < code.size) (hw : code.getD pc 0 = 16) (hl : lim ≤ pos ∨ text.getD pos 0 ≠ code.getD (pc + 1) 0) :
    Mc code text lim ls start pc pos handed om fr (some false) w m.step := by
  rw [mc_exec c hp]
  obtain ⟨rfl, rfl, rfl, rfl, rfl, rfl, rfl, rfl, rfl, rfl, c11, rfl, c13, c14, c15, c16, c17, c18⟩ := c
  by_cases hn : m.pos ≥ m.lim
  · constructor <;> simp [M.exec, M.word, hw, ops, hn, M.say, *]
  · have ht : m.text.getD m.pos 0 ≠ m.code.getD (m.pc + 1) 0 := hl.resolve_left hn
    have hb : (m.text[m.pos]?.getD 0 == m.code[m.pc + 1]?.getD 0) = false := beq_false_of_ne (by simpa using ht)
    constructor <;> simp [M.exec, M.word, hw, ops, hn, M.say, accepts, hb, *]
theorem mc_bol_ok (c : Mc code text lim ls start pc pos handed om fr none w m) (hp : pc < code.size) (hw : code.getD pc 0 = 6) (hw1 : code.getD (pc + 1) 0 = 1) (hl : pos = 0 ∨ text.getD (pos - 1) 0 = 10) :
    Mc code text lim ls start (pc + 2) pos handed om fr none w m.step := by
  rw [mc_exec c hp]
  obtain ⟨rfl, rfl, rfl, rfl, rfl, rfl, rfl, rfl, rfl, rfl, c11, rfl, c13, c14, c15, c16, c17, c18⟩ := c
  have hb : m.pos = 0 ∨ m.text[m.pos - 1]?.getD 0 = 10 := by simpa using hl
  constructor <;> simp [M.exec, M.word, hw, hw1, ops, M.isAt, hb, *]
theorem mc_bol_no (c : Mc code text lim ls start pc pos handed om fr none w m) (hp : pc < code.size) (hw : code.getD pc 0 = 6) (hw1 : code.getD (pc + 1) 0 = 1) (hl : pos ≠ 0 ∧ text.getD (pos - 1) 0 ≠ 10) :
    Mc code text lim ls start pc pos handed om fr (some false) w m.step := by
  rw [mc_exec c hp]
  obtain ⟨rfl, rfl, rfl, rfl, rfl, rfl, rfl, rfl, rfl, rfl, c11, rfl, c13, c14, c15, c16, c17, c18⟩ := c
  have h0 := hl.1
  have hb : ¬ (m.text[m.pos - 1]?.getD 0 = 10) := by simpa using hl.2
  constructor <;> simp [M.exec, M.word, hw, hw1, ops, M.isAt, hb, M.say, *]
theorem mc_jump (c : Mc code text lim ls start pc pos handed om fr none w m) (hp : pc < code.size) (hw : code.getD pc 0 = 15) :
    Mc code text lim ls start (pc + 1 + code.getD (pc + 1) 0) pos handed om fr none w m.step := by
  rw [mc_exec c hp]
  obtain ⟨rfl, rfl, rfl, rfl, rfl, rfl, rfl, rfl, rfl, rfl, c11, rfl, c13, c14, c15, c16, c17, c18⟩ := c
  constructor <;> simp [M.exec, M.word, hw, ops, *]
theorem mc_success (c : Mc code text lim ls start pc pos handed om fr none w m) (hp : pc < code.size) (hw : code.getD pc 0 = 1) :
    Mc code text lim ls start pc pos pos om fr (some true) w m.step := by
  rw [mc_exec c hp]
  obtain ⟨rfl, rfl, rfl, rfl, rfl, rfl, rfl, rfl, rfl, rfl, c11, rfl, c13, c14, c15, c16, c17, c18⟩ := c
  constructor <;> simp [M.exec, M.word, hw, ops, M.say, *]
structure FrIs (wt : Wait) (pc pos : Nat) (om : Bool) (f : Sre.Frame) : Prop where
  wait : f.wait = wt
  pc : f.pc = pc
  pos : f.pos = pos
  om : f.outermost = om
  kw : f.kept.whole = false
  km : f.kept.marks = #[]
  kl : f.kept.lastmark = -1

theorem mc_branch (c : Mc code text lim ls start pc pos handed om fr none w m) (hp : pc < code.size) (hw : code.getD pc 0 = 7) (hz : code.getD (pc + 1) 0 ≠ 0) (hwt : w < 1000) :
    ∃ f, FrIs .nextBranch (pc + 1) pos om f ∧ Mc code text lim ls start (pc + 2) pos pos om (f :: fr) none (w + 1) m.step := by
  rw [mc_exec c hp]
  obtain ⟨rfl, rfl, rfl, rfl, rfl, rfl, rfl, rfl, rfl, rfl, c11, rfl, c13, c14, c15, c16, c17, c18⟩ := c
  have hz' : (m.code[m.pc + 1]?.getD 0 == 0) = false := beq_false_of_ne (by simpa using hz)
  have hz2 : ¬ m.code[m.pc + 1]?.getD 0 = 0 := by simpa using hz
  have hl : ¬ (16777216 < m.weight + 1) := by omega
  refine ⟨{ m.frame .nextBranch with pc := m.pc + 1, kept := m.keep m.inner.isSome }, ⟨rfl, rfl, rfl, rfl, by simp [M.keep, c15], by simp [M.keep, c15], by simp [M.keep, c17]⟩, ?_⟩
  constructor <;> simp [M.exec, M.word, hw, ops, M.alternative, hz', hz2, M.attempt, M.keep, M.frame, hl, *]
theorem mc_assert (c : Mc code text lim ls start pc pos handed om fr none w m) (hp : pc < code.size) (hw : code.getD pc 0 = 5) (hz : code.getD (pc + 2) 0 = 0) (hwt : w < 1000) :
    ∃ f, FrIs .lookNot pc pos om f ∧ Mc code text lim ls start (pc + 3) pos pos false (f :: fr) none (w + 1) m.step := by
  rw [mc_exec c hp]
  obtain ⟨rfl, rfl, rfl, rfl, rfl, rfl, rfl, rfl, rfl, rfl, c11, rfl, c13, c14, c15, c16, c17, c18⟩ := c
  have hz' : m.code[m.pc + 2]?.getD 0 = 0 := by simpa using hz
  have hl : ¬ (16777216 < m.weight + 1) := by omega
  refine ⟨{ m.frame .lookNot with kept := m.keep (true && m.inner.isSome) }, ⟨rfl, rfl, rfl, rfl, by simp [M.keep, c15], by simp [M.keep, c15], by simp [M.keep, c17]⟩, ?_⟩
  constructor <;> simp [M.exec, M.word, hw, ops, hz', M.attempt, M.keep, M.frame, hl, *]

theorem mc_yes_branch {f : Sre.Frame} {fpc fpos : Nat} {fom : Bool} (c : Mc code text lim ls start pc pos handed om (f :: fr) (some true) w m) (hf : FrIs .nextBranch fpc fpos fom f) :
    Mc code text lim ls start fpc fpos handed fom fr (some true) (w - 1) m.step := by
  obtain ⟨rfl, rfl, rfl, rfl, rfl, rfl, rfl, rfl, rfl, c10, c11, rfl, c13, c14, c15, c16, c17, c18⟩ := c
  obtain ⟨f1, rfl, rfl, rfl, f5, f6, f7⟩ := hf
  constructor <;> simp [M.step, M.resume, M.say, *]
theorem mc_yes_start {f : Sre.Frame} {fpc fpos : Nat} {fom : Bool} (c : Mc code text lim ls start pc pos handed om (f :: fr) (some true) w m) (hf : FrIs .nextStart fpc fpos fom f) :
    Mc code text lim ls start fpc fpos handed fom fr (some true) (w - 1) m.step := by
  obtain ⟨rfl, rfl, rfl, rfl, rfl, rfl, rfl, rfl, rfl, c10, c11, rfl, c13, c14, c15, c16, c17, c18⟩ := c
  obtain ⟨f1, rfl, rfl, rfl, f5, f6, f7⟩ := hf
  constructor <;> simp [M.step, M.resume, M.say, *]
theorem mc_no_branch {f : Sre.Frame} {fpc fpos : Nat} {fom : Bool} (c : Mc code text lim ls start pc pos handed om (f :: fr) (some false) w m) (hf : FrIs .nextBranch fpc fpos fom f) (hz : code.getD (fpc + code.getD fpc 0) 0 ≠ 0) (hwt : w < 1000) (hw0 : 1 ≤ w) :
    ∃ f', FrIs .nextBranch (fpc + code.getD fpc 0) fpos fom f' ∧ Mc code text lim ls start (fpc + code.getD fpc 0 + 1) fpos fpos fom (f' :: fr) none w m.step := by
  obtain ⟨rfl, rfl, rfl, rfl, rfl, rfl, rfl, rfl, rfl, c10, c11, rfl, c13, c14, c15, c16, c17, c18⟩ := c
  obtain ⟨f1, rfl, rfl, rfl, f5, f6, f7⟩ := hf
  have hz' : (m.code[f.pc + m.code[f.pc]?.getD 0]?.getD 0 == 0) = false := beq_false_of_ne (by simpa using hz)
  have hz2 : ¬ m.code[f.pc + m.code[f.pc]?.getD 0]?.getD 0 = 0 := by simpa using hz
  have hl : ¬ (16777216 < m.weight - 1 + 1) := by omega
  have hw1 : m.weight - 1 + 1 = m.weight := by omega
  have hl2 : ¬ (16777216 < m.weight) := by omega
  refine ⟨{ wait := .nextBranch, pc := f.pc + m.code.getD f.pc 0, pos := f.pos, outermost := f.outermost, kept := f.kept }, ⟨rfl, rfl, rfl, rfl, f5, f6, f7⟩, ?_⟩
  constructor <;> simp [M.step, M.resume, M.say, M.alternative, M.putBack, M.attempt, M.frame, hz', hz2, hl, hw1, *]
theorem mc_no_look {f : Sre.Frame} {fpc fpos : Nat} {fom : Bool} (c : Mc code text lim ls start pc pos handed om (f :: fr) (some false) w m) (hf : FrIs .lookNot fpc fpos fom f) :
    Mc code text lim ls start (fpc + 1 + code.getD (fpc + 1) 0) fpos handed fom fr none (w - 1) m.step := by
  obtain ⟨rfl, rfl, rfl, rfl, rfl, rfl, rfl, rfl, rfl, c10, c11, rfl, c13, c14, c15, c16, c17, c18⟩ := c
  obtain ⟨f1, rfl, rfl, rfl, f5, f6, f7⟩ := hf
  constructor <;> simp [M.step, M.resume, M.say, M.putBack, M.word, *]
theorem mc_end {b : Bool} (c : Mc code text lim ls start pc pos handed om [] (some b) w m) : m.step.outcome = some (if b = true then .matched else .failed) ∧ m.step.start = start ∧ m.step.handed = handed := by
  obtain ⟨rfl, rfl, rfl, rfl, rfl, rfl, rfl, rfl, rfl, c10, c11, rfl, c13, c14, c15, c16, c17, c18⟩ := c
  simp [M.step, *]
end
end Mine

-- part R2
open PySem
set_option Elab.async false
set_option maxRecDepth 100000
set_option linter.unusedVariables false
set_option linter.unusedSimpArgs false
namespace Mine
open PySem.Sre

section
variable {code text : Array Nat} {lim ls start pc pos handed w : Nat} {om : Bool} {fr : List Sre.Frame} {m : M}

theorem mc_start_next {f : Sre.Frame} {fpc fpos : Nat} {fom : Bool} (c : Mc code text lim ls start pc pos handed om [f] (some false) w m) (hf : FrIs .nextStart fpc fpos fom f) (hlt : fpos < ls) (hs : m.hasFirstSet = false) (hw0 : 1 ≤ w) (hwt : w < 1000) :
    ∃ f', FrIs .nextStart fpc (fpos + 1) false f' ∧ Mc code text lim ls (fpos + 1) fpc (fpos + 1) (fpos + 1) false [f'] none w m.step := by
  obtain ⟨rfl, rfl, rfl, rfl, rfl, rfl, rfl, rfl, rfl, c10, c11, rfl, c13, c14, c15, c16, c17, c18⟩ := c
  obtain ⟨f1, rfl, rfl, rfl, f5, f6, f7⟩ := hf
  have hl : ¬ (16777216 < m.weight - 1 + 1) := by omega
  have hl2 : ¬ (16777216 < m.weight) := by omega
  have hw1 : m.weight - 1 + 1 = m.weight := by omega
  refine ⟨{ wait := .nextStart, pc := f.pc, pos := f.pos + 1, outermost := false }, ⟨rfl, rfl, rfl, rfl, rfl, rfl, rfl⟩, ?_⟩
  have e : m.step = M.attemptAt { m with answer := none, frames := [], weight := m.weight - (1 + f.kept.marks.size), pc := f.pc, pos := f.pos, outermost := f.outermost, mustAdvance := false } (f.pos + 1) false := by
    unfold M.step
    rw [c18, c11, c10]
    show M.resume _ f false = _
    unfold M.resume
    rw [f1]
    show (if f.pos < m.lastStart then M.attemptFrom _ (f.pos + 1) false else _) = _
    rw [if_pos hlt]
    unfold M.attemptFrom
    show (if (!m.hasFirstSet) = true then _ else _) = _
    rw [if_pos (by rw [hs]; rfl)]
  rw [e]
  constructor <;> simp [M.attemptAt, M.attempt, hl, hl2, hw1, *]
theorem mc_start_last {f : Sre.Frame} {fpc fpos : Nat} {fom : Bool} (c : Mc code text lim ls start pc pos handed om [f] (some false) w m) (hf : FrIs .nextStart fpc fpos fom f) (hlt : ls ≤ fpos) :
    Mc code text lim ls start fpc fpos handed fom [] (some false) (w - 1) m.step := by
  obtain ⟨rfl, rfl, rfl, rfl, rfl, rfl, rfl, rfl, rfl, c10, c11, rfl, c13, c14, c15, c16, c17, c18⟩ := c
  obtain ⟨f1, rfl, rfl, rfl, f5, f6, f7⟩ := hf
  have hn : ¬ (f.pos < m.lastStart) := by omega
  constructor <;> simp [M.step, M.resume, M.say, hn, *]
end

noncomputable def code1 : Array Nat := #[14, 4, 0, 1, 1, 6, 1, 16, 46, 1]
noncomputable def DotAt (text : Array Nat) (j : Nat) : Prop := (j = 0 ∨ text.getD (j - 1) 0 = 10) ∧ text.getD j 0 = 46
inductive Ends (P : Nat → Prop) (wd : Nat → Nat) (s lim : Nat) (m : M) : Prop
  | found (s' : Nat) : s ≤ s' → s' < lim → P s' → (∀ j, s ≤ j → j < s' → ¬ P j) → m.outcome = some .matched → m.start = s' → m.handed = s' + wd s' → Ends P wd s lim m
  | none : (∀ j, s ≤ j → j < lim → ¬ P j) → m.outcome = some .failed → Ends P wd s lim m

theorem Ends.back {P : Nat → Prop} {wd : Nat → Nat} {s lim : Nat} {m : M} (e : Ends P wd (s + 1) lim m) (n : ¬ P s) : Ends P wd s lim m := by
  have key : ∀ t, (∀ j, s + 1 ≤ j → j < t → ¬ P j) → ∀ j, s ≤ j → j < t → ¬ P j := fun t d j h1 h2 => by
    rcases Nat.lt_or_ge s j with h | h
    · exact d j h h2
    · have : j = s := by omega
      rw [this]; exact n
  cases e with
  | found s' a b c d e f g => exact .found s' (by omega) b c (key _ d) e f g
  | none a b => exact .none (key _ a) b

theorem scan_at {text : Array Nat} {lim s : Nat} {om : Bool} {f : Sre.Frame} {m : M} (hf : FrIs .nextStart 5 s om f) (c : Mc code1 text lim lim s 5 s s om [f] none 1 m) :
    (s < lim ∧ DotAt text s ∧ (itS 5 m).outcome = some .matched ∧ (itS 5 m).start = s ∧ (itS 5 m).handed = s + 1) ∨ (¬ (s < lim ∧ DotAt text s) ∧ ∃ k pc pos, k ≤ 2 ∧ Mc code1 text lim lim s pc pos s om [f] (some false) 1 (itS k m)) := by
  by_cases hb : s = 0 ∨ text.getD (s - 1) 0 = 10
  · have c1 := mc_bol_ok c (by decide) (by decide) (by decide) hb
    by_cases hl : s < lim ∧ text.getD s 0 = 46
    · have c2 := mc_lit_ok c1 (by decide) (by decide) hl.1 hl.2
      exact .inl ⟨hl.1, ⟨hb, hl.2⟩, mc_end (mc_yes_start (mc_success c2 (by decide) (by decide)) hf)⟩
    · refine .inr ⟨fun q => hl ⟨q.1, q.2.2⟩, 2, _, _, Nat.le_refl _, mc_lit_no c1 (by decide) (by decide) ?_⟩
      rcases Nat.lt_or_ge s lim with h | h
      · exact .inr fun q => hl ⟨h, q⟩
      · exact .inl h
  · exact .inr ⟨fun q => hb q.2.1, 1, _, _, by decide, mc_bol_no c (by decide) (by decide) (by decide) ⟨fun q => hb (.inl q), fun q => hb (.inr q)⟩⟩
theorem k_more {k j d : Nat} (hk : k ≤ 2) (hj : j ≤ 4 * (d + 2)) : k + 1 + j ≤ 4 * (d + 1 + 2) := by omega
theorem scan1 {text : Array Nat} {lim : Nat} : ∀ (d s : Nat) (om : Bool) (f : Sre.Frame) (m : M), s + d = lim → FrIs .nextStart 5 s om f → Mc code1 text lim lim s 5 s s om [f] none 1 m → ∃ k, k ≤ 4 * (d + 2) ∧ Ends (DotAt text) (fun _ => 1) s lim (itS k m)
  | 0, s, om, f, m, hd, hf, c => by
    have hge : lim ≤ s := Nat.le_of_eq hd.symm
    rcases scan_at hf c with ⟨hl, _⟩ | ⟨_, k, pc, pos, hk, c2⟩
    · exact absurd hl (Nat.not_lt.mpr hge)
    · have e := (mc_end (mc_start_last c2 hf hge)).1
      exact ⟨k + 2, Nat.le_trans (Nat.add_le_add_right hk 2) (by decide), .none (fun j h1 h2 => absurd (Nat.lt_of_lt_of_le h2 hge) (Nat.not_lt.mpr h1)) (by rw [itS_add]; exact e)⟩
  | d + 1, s, om, f, m, hd, hf, c => by
    have hlt : s < lim := by rw [← hd]; exact Nat.lt_add_of_pos_right (Nat.succ_pos _)
    rcases scan_at hf c with ⟨hl, hp, e1, e2, e3⟩ | ⟨hno, k, pc, pos, hk, c2⟩
    · exact ⟨5, Nat.le_trans (by decide) (Nat.mul_le_mul_left 4 (Nat.le_add_left 2 _)), .found s (Nat.le_refl _) hl hp (fun j h1 h2 => absurd h2 (Nat.not_lt.mpr h1)) e1 e2 e3⟩
    · obtain ⟨f', hf', c3⟩ := mc_start_next c2 hf hlt (by unfold M.hasFirstSet; rw [c2.code]; rfl) (by decide) (by decide)
      obtain ⟨j, hj, e⟩ := scan1 d (s + 1) false f' _ (by rw [Nat.add_right_comm]; exact hd) hf' c3
      refine ⟨k + 1 + j, k_more hk hj, ?_⟩
      rw [itS_add, itS_add]
      exact e.back fun q => hno ⟨hlt, q⟩

theorem search1 {text : Array Nat} {s lim : Nat} (hs : s ≤ lim) : ∃ k, k ≤ 4 * (lim + 3) ∧ Ends (DotAt text) (fun _ => 1) s lim (itS k (forSearch code1 text 0 s lim false)) := by
  by_cases h : s = lim
  · subst h
    refine ⟨1, by omega, .none (fun j h1 h2 => absurd h2 (by omega)) ?_⟩
    have : (forSearch code1 text 0 s s false).step.outcome = some .failed := by
      have e : forSearch code1 text 0 s s false = if (decide (s > s) || decide (s - s < 1)) = true then _ else _ := rfl
      rw [e, if_pos (by simp)]
      rfl
    exact this
  · have e : forSearch code1 text 0 s lim false = if (decide (s > lim) || decide (lim - s < 1)) = true then _ else _ := rfl
    rw [e, if_neg (by simp; omega)]
    obtain ⟨k, hk, x⟩ := scan1 (text := text) (lim := lim) (lim - s) s true { wait := .nextStart, pc := 5, pos := s, outermost := true } (M.attemptAt { code := code1, text, lim, start := s, lastStart := lim, pc := 5, pos := s, handed := s, marks := #[], seen := ({} : Seen).add 14 } s true) (by omega)
      ⟨rfl, rfl, rfl, rfl, rfl, rfl, rfl⟩ (by constructor <;> simp [M.attemptAt, M.attempt])
    exact ⟨k, by omega, x⟩
end Mine

-- part R3
open PySem
set_option Elab.async false
set_option maxRecDepth 100000
set_option linter.unusedVariables false
set_option linter.unusedSimpArgs false
namespace Mine
open PySem.Sre

noncomputable def code2 : Array Nat := #[14, 9, 4, 1, 2, 16, 10, 16, 13, 0, 7, 7, 16, 13, 16, 10, 15, 18, 5, 16, 10, 15, 13, 11, 16, 13, 5, 5, 0, 16, 10, 1, 15, 2, 0, 1]
noncomputable def EndAt (text : Array Nat) (j : Nat) : Prop := text.getD j 0 = 10 ∨ text.getD j 0 = 13
noncomputable def endW (text : Array Nat) (lim j : Nat) : Nat := if text.getD j 0 = 13 ∧ j + 1 < lim ∧ text.getD (j + 1) 0 = 10 then 2 else 1

theorem set2 (c : Nat) (n : Nat) (seen : Seen) : ∃ seen', inSet code2 c (n + 3) 5 true seen = .ok (c == 10 || c == 13, seen') := by
  unfold inSet
  by_cases h1 : c = 10
  · subst h1
    exact ⟨seen.add 16, rfl⟩
  · have e1 : (c == 10) = false := beq_false_of_ne h1
    by_cases h2 : c = 13
    · subst h2
      exact ⟨(seen.add 16).add 16, rfl⟩
    · have e2 : (c == 13) = false := beq_false_of_ne h2
      refine ⟨((seen.add 16).add 16).add 0, ?_⟩
      rw [e1, e2]
      show (if (c == 10) = true then _ else inSet code2 c (n + 2) 7 true (seen.add 16)) = _
      rw [e1]
      unfold inSet
      show (if (c == 13) = true then _ else inSet code2 c (n + 1) 9 true ((seen.add 16).add 16)) = _
      rw [e2]
      rfl

theorem admit2 {text : Array Nat} {lim : Nat} {m : M} (hc : m.code = code2) (ht : m.text = text) (hl : m.lim = lim) : ∀ (fuel s : Nat) (seen : Seen), lim + 1 ≤ fuel + s →
    (∃ s' seen', s ≤ s' ∧ s' < lim ∧ EndAt text s' ∧ (∀ j, s ≤ j → j < s' → ¬ EndAt text j) ∧ m.admitted fuel s seen = .ok (some s', seen')) ∨ ((∀ j, s ≤ j → j < lim → ¬ EndAt text j) ∧ ∃ seen', m.admitted fuel s seen = .ok (none, seen'))
  | 0, s, seen, h => .inr ⟨fun j h1 h2 => absurd h2 (by omega), seen, rfl⟩
  | fuel + 1, s, seen, h => by
    unfold M.admitted
    by_cases hs : s ≥ lim
    · rw [if_pos (by rw [hl]; exact hs)]
      exact .inr ⟨fun j h1 h2 => absurd h2 (by omega), seen, rfl⟩
    · rw [if_neg (by rw [hl]; exact hs)]
      obtain ⟨seen', e⟩ := set2 (text.getD s 0) 33 seen
      have e' : inSet m.code (m.text.getD s 0) m.code.size 5 true seen = .ok (text.getD s 0 == 10 || text.getD s 0 == 13, seen') := by rw [hc, ht]; exact e
      rw [e']
      cases hb : (text.getD s 0 == 10 || text.getD s 0 == 13) with
      | true =>
        refine .inl ⟨s, seen', Nat.le_refl _, by omega, ?_, fun j h1 h2 => absurd h2 (by omega), rfl⟩
        simpa [EndAt] using hb
      | false =>
        have hn : ¬ EndAt text s := by
          intro q
          have : (text.getD s 0 == 10 || text.getD s 0 == 13) = true := by simpa [EndAt] using q
          rw [hb] at this; cases this
        have key : ∀ t, (∀ j, s + 1 ≤ j → j < t → ¬ EndAt text j) → ∀ j, s ≤ j → j < t → ¬ EndAt text j := fun t d j h1 h2 => by
          rcases Nat.lt_or_ge s j with h | h
          · exact d j h h2
          · have : j = s := by omega
            rw [this]; exact hn
        rcases admit2 hc ht hl fuel (s + 1) seen' (by omega) with ⟨s', q, a, b, c, d, e⟩ | ⟨a, q, b⟩
        · exact .inl ⟨s', q, by omega, b, c, key _ d, e⟩
        · exact .inr ⟨key _ a, q, b⟩

section
variable {text : Array Nat} {lim s : Nat} {om : Bool} {f : Sre.Frame} {m : M}

theorem match2 (hf : FrIs .nextStart 10 s om f) (c : Mc code2 text lim lim s 10 s s om [f] none 1 m) (hl : s < lim) (he : EndAt text s) :
    ∃ k, k ≤ 40 ∧ (itS k m).outcome = some .matched ∧ (itS k m).start = s ∧ (itS k m).handed = s + endW text lim s := by
  obtain ⟨f1, hf1, c1⟩ := mc_branch c (by decide) (by decide) (by decide) (by decide)
  rcases he with he | he
  · -- a feed
    have c2 := mc_lit_no c1 (by decide) (by decide) (.inr (by rw [he]; decide))
    obtain ⟨f2, hf2, c3⟩ := mc_no_branch c2 hf1 (by decide) (by decide) (by decide)
    have c4 := mc_lit_ok (c3 : Mc code2 text lim lim s 19 s s om [f2, f] none 2 _) (by decide) (by decide) hl (by rw [he]; decide)
    have c5 := mc_jump c4 (by decide) (by decide)
    have c6 := mc_success (c5 : Mc code2 text lim lim s 35 (s + 1) s om [f2, f] none 2 _) (by decide) (by decide)
    have c7 := mc_yes_branch c6 hf2
    have c8 := mc_yes_start c7 hf
    obtain ⟨e1, e2, e3⟩ := mc_end c8
    have hw : endW text lim s = 1 := by unfold endW; rw [if_neg]; rintro ⟨q, _⟩; rw [he] at q; cases q
    exact ⟨9, by decide, e1, e2, by rw [hw]; exact e3⟩
  · have c2 := mc_lit_ok c1 (by decide) (by decide) hl (by rw [he]; decide)
    by_cases h2 : s + 1 < lim ∧ text.getD (s + 1) 0 = 10
    · have c3 := mc_lit_ok c2 (by decide) (by decide) h2.1 (by rw [h2.2]; decide)
      have c4 := mc_jump c3 (by decide) (by decide)
      have c5 := mc_success (c4 : Mc code2 text lim lim s 35 (s + 1 + 1) s om [f1, f] none 2 _) (by decide) (by decide)
      have c6 := mc_yes_branch c5 hf1
      have c7 := mc_yes_start c6 hf
      obtain ⟨e1, e2, e3⟩ := mc_end c7
      have hw : endW text lim s = 2 := by unfold endW; rw [if_pos ⟨he, h2⟩]
      exact ⟨8, by decide, e1, e2, by rw [hw]; exact e3⟩
    · have hn : lim ≤ s + 1 ∨ text.getD (s + 1) 0 ≠ 10 := by
        rcases Nat.lt_or_ge (s + 1) lim with q | q
        · exact .inr fun r => h2 ⟨q, r⟩
        · exact .inl q
      have c3 := mc_lit_no c2 (by decide) (by decide) (hn.imp id fun q => by intro r; exact q (r.trans (by decide)))
      obtain ⟨f2, hf2, c4⟩ := mc_no_branch c3 hf1 (by decide) (by decide) (by decide)
      have c5 := mc_lit_no (c4 : Mc code2 text lim lim s 19 s s om [f2, f] none 2 _) (by decide) (by decide) (.inr (by rw [he]; decide))
      obtain ⟨f3, hf3, c6⟩ := mc_no_branch c5 hf2 (by decide) (by decide) (by decide)
      have c7 := mc_lit_ok (c6 : Mc code2 text lim lim s 24 s s om [f3, f] none 2 _) (by decide) (by decide) hl (by rw [he]; decide)
      obtain ⟨f4, hf4, c8⟩ := mc_assert c7 (by decide) (by decide) (by decide) (by decide)
      have c9 := mc_lit_no c8 (by decide) (by decide) (hn.imp id fun q => by intro r; exact q (r.trans (by decide)))
      have c10 := mc_no_look c9 hf4
      have c11 := mc_jump (c10 : Mc code2 text lim lim s 32 (s + 1) (s + 1) om [f3, f] none 2 _) (by decide) (by decide)
      have c12 := mc_success (c11 : Mc code2 text lim lim s 35 (s + 1) (s + 1) om [f3, f] none 2 _) (by decide) (by decide)
      have c13 := mc_yes_branch c12 hf3
      have c14 := mc_yes_start c13 hf
      obtain ⟨e1, e2, e3⟩ := mc_end c14
      have hw : endW text lim s = 1 := by unfold endW; rw [if_neg]; rintro ⟨_, q⟩; exact h2 q
      exact ⟨15, by decide, e1, e2, by rw [hw]; exact e3⟩
end

theorem search2 {text : Array Nat} {s lim : Nat} (hs : s ≤ lim) : ∃ k, k ≤ 40 ∧ Ends (EndAt text) (endW text lim) s lim (itS k (forSearch code2 text 0 s lim false)) := by
  by_cases h : s = lim
  · subst h
    refine ⟨1, by omega, .none (fun j h1 h2 => absurd h2 (by omega)) ?_⟩
    have : (forSearch code2 text 0 s s false).step.outcome = some .failed := by
      have e : forSearch code2 text 0 s s false = if (decide (s > s) || decide (s - s < 1)) = true then _ else _ := rfl
      rw [e, if_pos (by simp)]
      rfl
    exact this
  · have e : forSearch code2 text 0 s lim false = if (decide (s > lim) || decide (lim - s < 1)) = true then _ else M.attemptFrom { code := code2, text, lim, start := s, lastStart := lim, pc := 10, pos := s, handed := s, marks := #[], seen := ({} : Seen).add 14 } s true := rfl
    rw [e, if_neg (by simp; omega)]
    have e2 : ∀ m : M, m.code = code2 → m.attemptFrom s true = match m.admitted (m.lim + 1 - s) s m.seen with
        | .ok (some s, seen) => { m with mustAdvance := false, seen }.attemptAt s true
        | .ok (none, seen) => { m with seen }.say false
        | .error why => m.stick why := fun m hm => by
      unfold M.attemptFrom
      have : m.hasFirstSet = true := by unfold M.hasFirstSet; rw [hm]; rfl
      rw [this]; rfl
    rw [e2 _ rfl]
    rcases admit2 (m := { code := code2, text, lim, start := s, lastStart := lim, pc := 10, pos := s, handed := s, marks := #[], seen := ({} : Seen).add 14 }) rfl rfl rfl (lim + 1 - s) s (({} : Seen).add 14) (by show lim + 1 ≤ lim + 1 - s + s; omega) with ⟨s', seen', a, b, c, d, e⟩ | ⟨a, seen', b⟩
    · rw [e]
      obtain ⟨k, hk, e1, e3, e4⟩ := match2 (text := text) (lim := lim) (s := s') (om := true) (f := { wait := .nextStart, pc := 10, pos := s', outermost := true }) (m := M.attemptAt { code := code2, text, lim, start := s, lastStart := lim, pc := 10, pos := s, handed := s, marks := #[], seen := seen' } s' true)
        ⟨rfl, rfl, rfl, rfl, rfl, rfl, rfl⟩ (by constructor <;> simp [M.attemptAt, M.attempt]) b c
      exact ⟨k, hk, .found s' a b c d e1 e3 e4⟩
    · rw [b]
      exact ⟨1, by decide, .none a rfl⟩
end Mine

-- part R4
open PySem
set_option Elab.async false
set_option maxRecDepth 100000
set_option linter.unusedVariables false
set_option linter.unusedSimpArgs false
namespace Mine
open Builtin Builtin.Re

structure PatIs (h : Heap) (a : Addr) (code : Array Nat) : Prop where
  is : ∃ o vs ct oc items n, h.get? a = some o ∧ o.cls = .type "re.Pattern" ∧ o.dict = none ∧ o.data = .fields vs ∧ reRawNat (vs.getD 2 .none) = 0 ∧ vs.getD 5 .none = .ref ct ∧ reRawNat (vs.getD 6 .none) = 0 ∧
    h.get? ct = some oc ∧ oc.data = .seq items n ∧ (items.map reRawOf).map (·.toNat) = code

section
variable {prog : Program} {w : World} {A : Around} {X : Fix} {h : Heap} {E : Value → Shared → Prop} {s : Shared}

noncomputable def tgt (pat : Value) (str : Value) (code text : Array Nat) : ReTarget := { pattern := pat, string := str, code, text, kind := 0, groups := 0, pos := 0, lim := text.size }

theorem whole_target {a : Addr} {code : Array Nat} {x : Str} {t : Tok} {Q : ReTarget → Shared → Prop} (p : PatIs s.heap a code) (q : Q (tgt (.ref a) (.str x t) code x.cps) s) : wpAny (model prog w) A (reWholeTarget (.ref a) (.str x t)) Q E s := by
  obtain ⟨o, vs, ct, oc, items, n, ho, hc, hdd, hd, h2, h5, h6, hct, hcd, hcode⟩ := p.is
  unfold reWholeTarget
  refine wpAny_bind (wpAny_fieldsOf ho hd ?_)
  unfold reTextOf
  refine wpAny_bind (wpAny_bind ?_)
  show wpAny _ A (asStr? (.str x t)) _ E s
  unfold asStr?
  refine wpAny_pure ?_
  refine wpAny_pure ?_
  dsimp only
  rw [h6, h5, h2]
  simp only [beq_self_eq_true, Bool.true_and, Bool.and_true, Nat.reduceBEq, if_true, Bool.false_eq_true, if_false, Bool.and_false]
  refine wpAny_bind ?_
  unfold reNoCollectionInside
  simp only [Nat.reduceBEq, Bool.false_eq_true, if_false]
  refine wpAny_pure (wpAny_bind ?_)
  unfold reRawItems
  refine wpAny_bind (wpAny_seqItems hct hcd (wpAny_pure (wpAny_pure ?_)))
  simp only [Option.getD_some]
  rw [hcode]
  exact q

theorem rules_all {f : Nat → Bool} {g : Nat → String} : ∀ (l : List Nat) {Q : PUnit → Shared → Prop}, Q ⟨⟩ s →
    wpAny (model prog w) A (forIn l PUnit.unit fun i r => if f i = true then do rule (g i); pure (ForInStep.yield PUnit.unit) else pure (ForInStep.yield PUnit.unit)) Q E s
  | [], _, q => wpAny_pure q
  | i :: l, Q, q => by
    rw [List.forIn_cons]
    refine wpAny_bind ?_
    split
    · exact wpAny_bind (wpAny_rule (wpAny_pure (rules_all l q)))
    · exact wpAny_pure (rules_all l q)

theorem run_to_end {m : Sre.M} {k : Nat} {Q : Option Sre.M → Shared → Prop} (hk : k ≤ 4 * 2 ^ 64) (ho : (itS k m).outcome.isSome = true)
    (q : ((itS k m).outcome = some .matched → Q (some (itS k m)) s) ∧ ((itS k m).outcome = some .failed → Q none s)) (hn : (itS k m).outcome = some .matched ∨ (itS k m).outcome = some .failed) : wpAny (model prog w) A (reRunToEnd m) Q E s := by
  unfold reRunToEnd
  refine wpAny_bind (drive_sound _ k m (by decide) hk ho ?_)
  refine wpAny_bind ?_
  refine rules_all (f := fun i => (itS k m).seen.has i) (g := fun i => Sre.names.getD i "") _ ?_
  rcases hn with h | h
  · rw [h]; exact wpAny_pure (q.1 h)
  · rw [h]; exact wpAny_pure (q.2 h)
end

structure Searches (P : Nat → Prop) (wd : Nat → Nat) (code text : Array Nat) : Prop where
  pos : ∀ j, 1 ≤ wd j
  fit : ∀ j, j < text.size → P j → j + wd j ≤ text.size
  run : ∀ s, s ≤ text.size → ∃ k, k ≤ 4 * (text.size + 20) ∧ Ends P wd s text.size (itS k (Sre.forSearch code text 0 s text.size false))

theorem searches1 (text : Array Nat) : Searches (DotAt text) (fun _ => 1) code1 text where
  pos := fun _ => Nat.le_refl _
  fit := fun j h _ => h
  run := fun s hs => let ⟨k, a, b⟩ := search1 hs; ⟨k, by omega, b⟩
theorem searches2 (text : Array Nat) : Searches (EndAt text) (endW text text.size) code2 text where
  pos := fun j => by unfold endW; split <;> decide
  fit := fun j h _ => by
    unfold endW
    by_cases q : text.getD j 0 = 13 ∧ j + 1 < text.size ∧ text.getD (j + 1) 0 = 10
    · rw [if_pos q]; have := q.2.1; omega
    · rw [if_neg q]; omega
  run := fun s hs => let ⟨k, a, b⟩ := search2 hs; ⟨k, by omega, b⟩

inductive SubR (P : Nat → Prop) (wd : Nat → Nat) (text : Array Nat) (rep : List Nat) : Nat → List Nat → Prop
  | done (s : Nat) : (∀ j, s ≤ j → j < text.size → ¬ P j) → SubR P wd text rep s (text.extract s text.size).toList
  | found (s s' : Nat) (out : List Nat) : s ≤ s' → s' < text.size → P s' → (∀ j, s ≤ j → j < s' → ¬ P j) → SubR P wd text rep (s' + wd s') out → SubR P wd text rep s ((text.extract s s').toList ++ rep ++ out)

theorem Ends.uniq {P : Nat → Prop} {wd : Nat → Nat} {s s' lim : Nat} {m : Sre.M} (e : Ends P wd s lim m) (h1 : s ≤ s') (h2 : s' < lim) (h3 : P s') (h4 : ∀ j, s ≤ j → j < s' → ¬ P j) : m.outcome = some .matched ∧ m.start = s' ∧ m.handed = s' + wd s' := by
  cases e with
  | found t a b c d e f g =>
    have : t = s' := by
      rcases Nat.lt_trichotomy t s' with q | q | q
      · exact absurd c (h4 t a q)
      · exact q
      · exact absurd h3 (d s' h1 q)
    subst this
    exact ⟨e, f, g⟩
  | none a b => exact absurd h3 (a s' h1 h2)
theorem Ends.fails {P : Nat → Prop} {wd : Nat → Nat} {s lim : Nat} {m : Sre.M} (e : Ends P wd s lim m) (h : ∀ j, s ≤ j → j < lim → ¬ P j) : m.outcome = some .failed := by
  cases e with
  | found t a b c d e f g => exact absurd c (h t a b)
  | none a b => exact b
end Mine

-- part R5
open PySem
set_option Elab.async false
set_option maxRecDepth 100000
set_option linter.unusedVariables false
set_option linter.unusedSimpArgs false
namespace Mine
open Builtin Builtin.Re

theorem entry_sub_loop : entryFor table "re.Pattern.sub.loop" = some Builtin.«re.Pattern.sub.loop» := entryFor_of_tree (by kernel_rfl)
theorem entry_sub : entryFor table "re.Pattern.sub" = some Builtin.«re.Pattern.sub» := entryFor_of_tree (by kernel_rfl)

section
variable {prog : Program} {w : World} {A : Around} {X : Fix} {h : Heap} {E : Value → Shared → Prop} {s : Shared}

noncomputable def loopArgs (a : Addr) (x : Str) (t : Tok) (rp : Str) (rt : Tok) (n done : Nat) (list : Addr) : Args :=
  ⟨[.ref a, .str x t, .str rp rt, rawInt 0, rawInt 0, rawInt n, rawInt done, rawInt done, .bool false, .ref list, .bool false], []⟩

theorem lit_turn {rp : Str} {rt : Tok} {Q : Unit → Shared → Prop} (q : Q () s) : wpAny (model prog w) A (reLiteralCannotBeTurned (.str rp rt)) Q E s := by
  unfold reLiteralCannotBeTurned
  refine wpAny_bind ?_
  show wpAny _ A (asStr? (.str rp rt)) _ E s
  unfold asStr?
  exact wpAny_pure (wpAny_pure q)

theorem slice_text {text : Array Nat} {b e : Nat} {Q : Value → Shared → Prop} (hb : (text.extract b e).size ≤ 16777216) (q : Q (.str ⟨text.extract b e⟩ s.toks) { s with toks := s.toks + 1 }) : wpAny (model prog w) A (reSlice text 0 b e) Q E s := by
  unfold reSlice
  exact wpAny_mkStr q (by rw [line_eq]; exact hb)

theorem glued_nil : ∀ ys : List Str, (Txt.join ⟨#[]⟩ ys).cps.toList = (ys.map fun y => y.cps.toList).flatten
  | [] => rfl
  | y :: ys => by
    have key : ∀ (ys : List Str) (acc : Array Nat), (ys.foldl (fun acc p => acc ++ #[] ++ p.cps) acc).toList = acc.toList ++ (ys.map fun y => y.cps.toList).flatten := by
      intro ys
      induction ys with
      | nil => intro acc; simp
      | cons z r ih => intro acc; rw [List.foldl_cons, ih]; simp
    exact key ys y.cps

noncomputable def gl (l : List (Str × Tok)) : Nat := (l.map (·.1.length)).sum
noncomputable def glT (l : List (Str × Tok)) : List Nat := (l.map (·.1.cps.toList)).flatten
theorem gl_snoc (l : List (Str × Tok)) (y : Str) (u : Tok) : gl (l ++ [(y, u)]) = gl l + y.cps.size := by
  unfold gl
  rw [List.map_append, List.sum_append]; rfl
theorem glT_snoc (l : List (Str × Tok)) (y : Str) (u : Tok) : glT (l ++ [(y, u)]) = glT l ++ y.cps.toList := by
  unfold glT
  rw [List.map_append, List.flatten_append]
  show _ ++ (y.cps.toList ++ []) = _
  rw [List.append_nil]
theorem glued (ys : List (Str × Tok)) : Txt.join ⟨#[]⟩ (ys.map (·.1)) = ⟨(glT ys).toArray⟩ := by
  have h1 := glued_nil (ys.map (·.1))
  rw [List.map_map] at h1
  have h2 : (Txt.join ⟨#[]⟩ (ys.map (·.1))).cps = (glT ys).toArray := by
    rw [← Array.toList_inj]; exact h1
  cases hq : Txt.join ⟨#[]⟩ (ys.map (·.1)) with
  | mk c => rw [hq] at h2; exact congrArg Str.mk h2
noncomputable def SubQ (X : Fix) (list : Addr) (h : Heap) (res : List Nat) (r : Result) (s' : Shared) : Prop := ∃ h' tk' t', 1 ≤ tk' ∧ s' = X.at h' tk' ∧ r = .ok (.ret (.str ⟨res.toArray⟩ t')) ∧ Chg list h h'
theorem sub_tail2 {text : Array Nat} {list : Addr} {l : List (Str × Tok)} {k : Nat} {tk : Nat} {Q : Fin → Shared → Prop} (htk : 1 ≤ tk) (hl : h.get? list = some (listO (strValues l) k)) (hb : gl l ≤ 16000000)
    (q : ∀ tk' t', 1 ≤ tk' → Q (.done (.ret (.str ⟨(glT l).toArray⟩ t'))) (X.at h tk')) :
    wpAny (model prog w) A (do
      let joiner ← reSlice text 0 0 0
      let __do_lift ← seqItems? (Value.ref list)
      if (__do_lift.getD #[]).isEmpty = true then do
          let __do_lift ← pure joiner
          ret __do_lift
        else do
          let __do_lift ← call (Value.builtin "str.join") [joiner, Value.ref list]
          ret __do_lift) Q E (X.at h tk) := by
  have he : text.extract 0 0 = #[] := by simp
  refine wpAny_bind (slice_text (by rw [he]; decide) ?_)
  refine wpAny_bind (wpAny_seqItems (s := X.at h (tk + 1)) hl rfl ?_)
  simp only [Option.getD_some]
  rw [he]
  cases l with
  | nil =>
    rw [if_pos (by rfl)]
    exact wpAny_bind (wpAny_pure (wpAny_pure (q _ _ (Nat.succ_le_succ (Nat.zero_le _)))))
  | cons p l =>
    rw [if_neg (by simp [strValues])]
    refine wpAny_bind ?_
    have hok : JoinOk ⟨#[]⟩ ((p :: l).map (·.1)) = true := PyProof.Rows.joinOk_of (by
      rw [List.map_map]
      have : (⟨#[]⟩ : Str).length = 0 := rfl
      rw [this, Nat.mul_zero, Nat.add_zero]
      exact Nat.le_trans hb (by decide))
    refine wpAny_with_toks (n := 1) (s := X.at h (tk + 1)) (Nat.succ_le_succ (Nat.zero_le _)) (SC.join (s := X.at h (tk + 1)) (D := list) ⟨_, hl, rfl, k, rfl⟩ rfl hok fun t' k' l' => ?_)
    rw [glued]
    exact wpAny_pure (q k' t' l')
end

theorem PatIs.keeps {h h' : Heap} {a : Addr} {code : Array Nat} (p : PatIs h a code) (c : ∀ b o, h.get? b = some o → h'.get? b = some o) : PatIs h' a code := by
  obtain ⟨o, ws, ct, oc, items, n, ho, hc, hdd, hd, h2, h5, h6, hct, hcd, hcode⟩ := p.is
  exact ⟨o, ws, ct, oc, items, n, c a o ho, hc, hdd, hd, h2, h5, h6, c ct oc hct, hcd, hcode⟩

section
variable {prog : Program} {w : World} {A : Around} {X : Fix} {E : Value → Shared → Prop} {s : Shared}

theorem push_str {h : Heap} {list : Addr} {l : List (Str × Tok)} {k : Nat} {y : Str} {u : Tok} {tk : Nat} {Q : Unit → Shared → Prop} (hl : h.get? list = some (listO (strValues l) k)) (hb : l.length ≤ 16777216)
    (q : ∀ h' k', Chg list h h' → h'.get? list = some (listO (strValues (l ++ [(y, u)])) k') → Q () (X.at h' tk)) : wpAny (model prog w) A (updateSeq list fun x => x.push (.str y u)) Q E (X.at h tk) := by
  have hsz : (strValues l).toArray.size ≤ sizeLine := by simp [strValues, line_eq]; exact hb
  refine wpAny_updateSeq (s := X.at h tk) hl rfl (hz := hsz) (_hz' := by rw [Array.size_push]; omega) ?_
  refine q _ (if ((strValues l).toArray.push (.str y u)).size == (strValues l).toArray.size then k else k + 1) (fun b o hb e => (Heap.SameBut.update h _ _).extBut b o hb e) ?_
  refine Eq.trans (IsL.update (h := h) (l := list) (items := (strValues l).toArray) (n := k) hl (·.push (.str y u))) ?_
  simp [strValues]

theorem ext_le {xs : Array Nat} (h : xs.size ≤ 1000000) (i j : Nat) : (xs.extract i j).size ≤ 16777216 := by
  rw [Array.size_extract]; omega
theorem ext_pos {xs : Array Nat} {i j : Nat} (h : i < j) (hj : j < xs.size) : 1 ≤ (xs.extract i j).size := by
  rw [Array.size_extract]; omega
theorem ext_nil {xs : Array Nat} {i j : Nat} (h : ¬ i < j) : (xs.extract i j).toList = [] := by
  apply List.eq_nil_of_length_eq_zero
  rw [Array.length_toList, Array.size_extract]; omega
theorem ar1 {a g o : Nat} (h : a ≤ g) (h2 : g + o ≤ 16000000) : a ≤ 16777216 := by omega
theorem ar2 {a g e r o : Nat} (h : a ≤ g) (h2 : g + (e + r + o) ≤ 16000000) : a + 1 ≤ 16777216 := by omega
theorem ar3 {a g e r : Nat} (h : a ≤ g) (he : 1 ≤ e) (hr : 1 ≤ r) : a + 1 + 1 ≤ g + e + r := by omega
theorem ar4 {a g r : Nat} (h : a ≤ g) (hr : 1 ≤ r) : a + 1 ≤ g + r := by omega
theorem ar5 {j n : Nat} (h : j ≤ 4 * (n + 20)) (hx : n ≤ 1000000) : j ≤ 4 * 2 ^ 64 := by omega
theorem ar6 {g r o : Nat} (h2 : g + (0 + r + o) ≤ 16000000) : g + r + o ≤ 16000000 := by omega
theorem loop_head {P : Nat → Prop} {wd : Nat → Nat} {code : Array Nat} {a list : Addr} {x : Str} {t : Tok} {rp : Str} {rt : Tok} {h : Heap} {s n tk : Nat} {Q : Fin → Shared → Prop} {f : Option Sre.M → Sem Fin} (hx : x.cps.size ≤ 1000000) (p : PatIs h a code) {j : Nat} (hj : j ≤ 4 * (x.cps.size + 20)) {r : Option Sre.M}
    (hr : r = some (itS j (Sre.forSearch code x.cps 0 s x.cps.size false)) ∧ (itS j (Sre.forSearch code x.cps 0 s x.cps.size false)).outcome = some .matched ∨ r = none ∧ (itS j (Sre.forSearch code x.cps 0 s x.cps.size false)).outcome = some .failed)
    (q : wpAny (model prog w) A (f r) Q E (X.at h tk)) : wpAny (model prog w) A (reRunToEnd (Sre.forSearch code x.cps 0 s x.cps.size false) >>= f) Q E (X.at h tk) := by
  rcases hr with ⟨rfl, e⟩ | ⟨rfl, e⟩
  · exact wpAny_bind (run_to_end (m := Sre.forSearch code x.cps 0 s x.cps.size false) (k := j) (ar5 hj hx) (by rw [e]; rfl) ⟨fun _ => q, fun q => (by rw [e] at q; cases q)⟩ (.inl e))
  · exact wpAny_bind (run_to_end (m := Sre.forSearch code x.cps 0 s x.cps.size false) (k := j) (ar5 hj hx) (by rw [e]; rfl) ⟨fun q => (by rw [e] at q; cases q), fun _ => q⟩ (.inr e))

theorem sub_loop {P : Nat → Prop} {wd : Nat → Nat} {code : Array Nat} {a list : Addr} {x : Str} {t : Tok} {rp : Str} {rt : Tok} {h0 : Heap} (S : Searches P wd code x.cps) (hrp : 1 ≤ rp.cps.size) (hx : x.cps.size ≤ 1000000) (p0 : PatIs h0 a code) (n0 : h0.get? list = none) {done : Nat} {out : List Nat}
    (r : SubR P wd x.cps rp.cps.toList done out) : done ≤ x.cps.size → ∀ (h : Heap) (tk : Nat) (l : List (Str × Tok)) (k n : Nat), 1 ≤ tk → (∀ b o, h0.get? b = some o → h.get? b = some o) → h.get? list = some (listO (strValues l) k) → l.length ≤ gl l → gl l + out.length ≤ 16000000 →
    codeAny (model prog w) A (.builtin "re.Pattern.sub.loop" (loopArgs a x t rp rt n done list)) (SubQ X list h (glT l ++ out)) (X.at h tk) := by
  induction r with
  | done s hno =>
    intro hs h tk l k n htk hk hl hc hb
    refine codeAny_builtin entry_sub_loop ?_
    show wpAny _ _ (reWholeTarget (.ref a) (.str x t) >>= _) _ _ _
    refine wpAny_bind (whole_target (s := X.at h tk) (p0.keeps hk) ?_)
    dsimp only [tgt]
    simp only [beq_self_eq_true, if_true, bne_self_eq_false, Bool.false_and, Bool.false_eq_true, if_false, Int.toNat_natCast]
    refine wpAny_bind (lit_turn ?_)
    obtain ⟨j, hj, e⟩ := S.run s hs
    refine loop_head (P := P) (wd := wd) (list := list) (t := t) (rp := rp) (rt := rt) (n := n) hx (p0.keeps hk) hj (.inr ⟨rfl, e.fails hno⟩) ?_
    clear e hj
    dsimp only
    rw [Array.length_toList] at hb
    by_cases hlt : s < x.cps.size
    · rw [if_pos hlt]
      refine wpAny_bind (slice_text (ext_le hx _ _) ?_)
      refine wpAny_bind (push_str (X := X) (tk := tk + 1) hl (ar1 hc hb) fun h1 k1 c1 e1 => ?_)
      refine sub_tail2 (X := X) (tk := tk + 1) (Nat.le_succ_of_le htk) e1 (by rw [gl_snoc]; exact hb) fun tk2 t2 l2 => ⟨h1, tk2, t2, l2, rfl, ?_, c1⟩
      rw [glT_snoc]
    · rw [if_neg hlt]
      refine sub_tail2 (X := X) htk hl (Nat.le_trans (Nat.le_add_right _ _) hb) fun tk2 t2 l2 => ⟨h, tk2, t2, l2, rfl, ?_, Chg.refl _ _⟩
      rw [ext_nil hlt, List.append_nil]
  | found s s' out h1 h2 h3 h4 r ih =>
    intro hs h tk l k n htk hk hl hc hb
    refine codeAny_builtin entry_sub_loop ?_
    show wpAny _ _ (reWholeTarget (.ref a) (.str x t) >>= _) _ _ _
    refine wpAny_bind (whole_target (s := X.at h tk) (p0.keeps hk) ?_)
    dsimp only [tgt]
    simp only [beq_self_eq_true, if_true, bne_self_eq_false, Bool.false_and, Bool.false_eq_true, if_false, Int.toNat_natCast]
    refine wpAny_bind (lit_turn ?_)
    obtain ⟨j, hj, e⟩ := S.run s hs
    obtain ⟨em, es, eh⟩ := e.uniq h1 h2 h3 h4
    refine loop_head (P := P) (wd := wd) (list := list) (t := t) (rp := rp) (rt := rt) (n := n) hx (p0.keeps hk) hj (.inl ⟨rfl, em⟩) ?_
    dsimp only
    rw [es, eh]
    clear e em es eh hj
    have hfit := S.fit s' h2 h3
    have hbe : (s' + wd s' == s') = false := beq_false_of_ne (Nat.ne_of_gt (Nat.lt_add_of_pos_right (S.pos s')))
    rw [hbe]
    rw [List.length_append, List.length_append, Array.length_toList, Array.length_toList] at hb
    have hne : ((Value.str rp rt) != Value.none) = true := by rfl
    have kk : ∀ {h1 : Heap}, Chg list h h1 → ∀ b o, h0.get? b = some o → h1.get? b = some o := fun c b o q => c b o (fun e => by subst e; rw [n0] at q; cases q) (hk b o q)
    by_cases hlt : s < s'
    · rw [if_pos hlt]
      have he1 := ext_pos hlt h2
      refine wpAny_bind (slice_text (ext_le hx _ _) ?_)
      refine wpAny_bind (push_str (X := X) (tk := tk + 1) hl (ar1 hc hb) fun h1 k1 c1 e1 => ?_)
      refine wpAny_bind (wpAny_pure ?_)
      rw [if_pos hne]
      refine wpAny_bind (push_str (X := X) (tk := tk + 1) e1 (by rw [List.length_append]; exact ar2 hc hb) fun h2 k2 c2 e2 => ?_)
      refine wpAny_pure ⟨Code.quiet_builtin _ (by decide +kernel), ?_⟩
      refine codeAny_mono (ih hfit h2 (tk + 1) _ k2 (n + 1) (Nat.le_succ_of_le htk) (kk (c1.trans c2)) e2 (by rw [gl_snoc, gl_snoc, List.length_append, List.length_append]; exact ar3 hc he1 hrp) (by rw [gl_snoc, gl_snoc, Nat.add_assoc, Nat.add_assoc, ← Nat.add_assoc _ _ out.length]; exact hb)) ?_
      rintro r s'' ⟨h3, tk3, t3, l3, rfl, rfl, c3⟩
      exact ⟨h3, tk3, t3, l3, rfl, by rw [glT_snoc, glT_snoc, List.append_assoc, List.append_assoc, List.append_assoc], (c1.trans c2).trans c3⟩
    · rw [if_neg hlt]
      refine wpAny_bind (wpAny_pure ?_)
      rw [if_pos hne]
      refine wpAny_bind (push_str (X := X) (tk := tk) hl (ar1 hc hb) fun h2 k2 c2 e2 => ?_)
      refine wpAny_pure ⟨Code.quiet_builtin _ (by decide +kernel), ?_⟩
      have hz : (x.cps.extract s s').size = 0 := by rw [← Array.length_toList, ext_nil hlt]; rfl
      rw [hz] at hb
      refine codeAny_mono (ih hfit h2 tk _ k2 (n + 1) htk (kk c2) e2 (by rw [gl_snoc, List.length_append]; exact ar4 hc hrp) (by rw [gl_snoc]; exact ar6 hb)) ?_
      rintro r s'' ⟨h3, tk3, t3, l3, rfl, rfl, c3⟩
      exact ⟨h3, tk3, t3, l3, rfl, by rw [glT_snoc, List.append_assoc, ext_nil hlt, List.nil_append], c2.trans c3⟩
end
end Mine

-- part R6
open PySem
set_option Elab.async false
set_option maxRecDepth 100000
set_option linter.unusedVariables false
set_option linter.unusedSimpArgs false
namespace Mine
open Builtin Builtin.Re

theorem slot_sub : Slot "re.Pattern" "sub" "re.Pattern.sub" :=
  .of (owner := "re.Pattern") (n := "sub") (by rw [typeLookup_type, builtinLookup_eq_fast]; kernel_rfl) (by decide +kernel) (by decide +kernel) (by decide +kernel)
    (by first | exact .inl (by decide +kernel) | exact .inr (by decide +kernel)) (by rw [isSubtype_type]; kernel_rfl)
theorem plainAttrs_pat : PlainAttrs "re.Pattern" :=
  ⟨⟨"object.__getattribute__", by rw [typeLookup_type, builtinLookup_eq_fast]; kernel_rfl, by decide +kernel⟩, by rw [typeLookup_type, builtinLookup_eq_fast]; kernel_rfl⟩
theorem type_sub : typeOf (.builtin "re.Pattern.sub") = pure (.type "method_descriptor") := by show builtinType _ = _; rw [builtinType_eq_fast]; kernel_rfl
theorem args_sub (a b c : Value) : argsOk "re.Pattern.sub" ⟨[a, b, c], []⟩ := by
  unfold argsOk
  kernel_rfl
theorem str_call : typeLookup (.type "str") "__call__" = pure none := by rw [typeLookup_type, builtinLookup_eq_fast]; kernel_rfl
theorem named_sub (a b : Value) : reNamed "re.Pattern.sub" "sub" ["repl", "string", "count"] 2 [a, b] [] = pure [some a, some b, none] := by rfl

section
variable {prog : Program} {w : World} {A : Around} {X : Fix} {ok : Around → Heap → Prop}

theorem sub_get (O : OkAt X ok) {a : Addr} {code : Array Nat} (p : PatIs X.top a code) : ∀ A h (Q : Value × List Value → Heap → Prop) pl, ok A h → Q (.builtin "re.Pattern.sub", [.ref a]) h → wpH (model prog w) X A (getMethod (.ref a) ("sub" : Str) pl) Q h := by
  intro A h Q pl o q
  have p' := p.keeps fun b ob e => O.top _ _ _ _ o e
  obtain ⟨ob, ws, ct, oc, items, n, ho, hc, hdd, _⟩ := p'.is
  exact wpH.of fun tk _ => getMethod_builtin (s := X.at h tk) (T := "re.Pattern") ⟨_, ho, hc⟩ plainAttrs_pat slot_sub type_sub (fun b q => by cases q; exact ⟨_, ho, hdd⟩) ⟨h, tk, rfl, q⟩

theorem sub_gives (O : OkAt X ok) {P : Nat → Prop} {wd : Nat → Nat} {a : Addr} {code : Array Nat} {x rp : Str} {out : List Nat} (p : PatIs X.top a code) (S : Searches P wd code x.cps) (hrp : 1 ≤ rp.length) (h92 : rp.cps.contains 92 = false)
    (hx : x.length ≤ 1000000) (r : SubR P wd x.cps rp.cps.toList 0 out) (hout : out.length ≤ 16000000) : MtGives prog w X ok "re.Pattern.sub" a [.str rp, .str x] (.str ⟨out.toArray⟩) := by
  intro A h G vals o le rl
  obtain ⟨v, u, rfl, r1, r2⟩ := rl.two
  obtain ⟨rt, rfl⟩ := r1.strI
  obtain ⟨t, rfl⟩ := r2.strI
  have p' := p.keeps fun b ob e => O.top _ _ _ _ o e
  obtain ⟨ob, ws, ct, oc, items, n, ho, hc, hdd, _⟩ := id p'.is
  refine ⟨fun tk htk => wpAny_call (codeAny_call_builtin_at (Code.quiet_builtin _ (by decide +kernel)) entry_sub (slot_sub.check _ _ _ _ _ _ _ _ ⟨_, ho, hc⟩ (args_sub _ _ _) ?_))⟩
  show wpAny _ _ (reNamed "re.Pattern.sub" "sub" ["repl", "string", "count"] 2 [.str rp rt, .str x t] [] >>= _) _ _ _
  rw [named_sub]
  refine wpAny_bind (wpAny_pure ?_)
  dsimp only
  refine wpAny_bind (wpAny_pure ?_)
  refine wpAny_bind (wpAny_specialOf (s := X.at h tk) (typeIs_str _ _ _) str_call ?_)
  simp only [Option.isSome_none, Bool.false_eq_true, if_false]
  refine wpAny_bind ?_
  show wpAny _ _ (asStr? (.str rp rt)) _ _ _
  unfold asStr?
  refine wpAny_pure ?_
  dsimp only
  rw [h92]
  refine wpAny_bind (wpAny_pure ?_)
  simp only [Bool.not_false, if_true]
  refine wpAny_bind (wpAny_pure ?_)
  dsimp only
  refine wpAny_bind (wpAny_holding (whole_target (s := X.at h tk) p' ?_))
  rw [if_neg (by decide)]
  refine wpAny_bind (wpAny_newObj_type ?_)
  refine wpAny_pure ⟨Code.quiet_builtin _ (by decide +kernel), ?_⟩
  have L := sub_loop (prog := prog) (w := w) (A := A) (X := X) (list := h.objs.size) (t := t) (rt := rt) S hrp hx p' (get_size h) r (Nat.zero_le _) (h.push (listO [] 0)) tk [] 0 0 htk (fun b ob e => Heap.get?_push_of_some _ e) (Heap.get?_push_size _ rfl) (Nat.le_refl 0) (by rw [show gl [] = 0 from rfl, Nat.zero_add]; exact hout)
  refine codeAny_mono L ?_
  rintro r s' ⟨h', tk', t', l', rfl, rfl, c⟩
  refine ⟨h', tk', l', rfl, ?_, _, G, Grow.refl _ _, ?_, .str _ _, by rw [show glT [] = [] from rfl, List.nil_append]⟩
  · exact (Sub.push (X := X) h _).chg (get_size h) c
  · exact le.sub ((Sub.push (X := X) h _).chg (get_size h) c)
end
end Mine

-- part R7
open PySem
set_option Elab.async false
set_option maxRecDepth 100000
set_option linter.unusedVariables false
set_option linter.unusedSimpArgs false
namespace Mine
open PyProof.Rows PyProof.V

section
variable {prog : Program} {w : World} {A : Around} {X : Fix} {ok : Around → Heap → Prop}
theorem get_get (O : OkAt X ok) {d : Addr} {D : List (PyData × PyData)} (p : IntTab prog w X.top d D) : ∀ A h (Q : Value × List Value → Heap → Prop) pl, ok A h → Q (.builtin "dict.get", [.ref d]) h → wpH (model prog w) X A (getMethod (.ref d) ("get" : Str) pl) Q h := by
  intro A h Q pl o q
  have p' : IntTab prog w (X.at h 0).heap d D := p.keep fun b ob e => O.top _ _ _ _ o e
  exact wpH.of fun tk _ => getMethod_tab (s := X.at h tk) PySem.F.slot_dict_get PySem.F.type_dict_get p' ⟨h, tk, rfl, q⟩
theorem get_gives (O : OkAt X ok) {d : Addr} {D : List (PyData × PyData)} {i : Int} {dflt y : Str} (p : IntTab prog w X.top d D) (hy : (PySem.Spec.lookup (.int i) D).getD (.str dflt) = .str y) : MtGives prog w X ok "dict.get" d [.int i, .str dflt] (.str y) := by
  intro A h G vals o le rl
  obtain ⟨v, u, rfl, r1, r2⟩ := rl.two
  obtain ⟨rt, rfl⟩ := r1.intI
  obtain ⟨t, rfl⟩ := r2.strI
  have p' : IntTab prog w (X.at h 0).heap d D := p.keep fun b ob e => O.top _ _ _ _ o e
  refine wpH.of fun tk _ => call_get2_intTab (s := X.at h tk) (D := D) p' (Flat.str dflt t) fun v hv => ?_
  rw [hy] at hv
  obtain ⟨t2, rfl⟩ := hv.str_inv
  exact ⟨h, _, rfl, Sub.refl _, _, G, Grow.refl _ _, le, .str _ _, rfl⟩
end
end Mine

-- part T1
open PySem
set_option Elab.async false
set_option maxRecDepth 100000
set_option linter.unusedVariables false
set_option linter.unusedSimpArgs false
namespace Mine
open Builtin Builtin.Str

noncomputable def mkS (l : List Nat) : Str := ⟨l.toArray⟩
theorem mkS_list (l : List Nat) : (mkS l).cps.toList = l := rfl
theorem mkS_len (l : List Nat) : (mkS l).length = l.length := by show l.toArray.size = _; simp
theorem mkS_app (a b : List Nat) : mkS a ++ mkS b = mkS (a ++ b) := by
  apply Str.ext'
  show a.toArray ++ b.toArray = (a ++ b).toArray
  simp
theorem mkS_inj {a b : List Nat} (h : mkS a = mkS b) : a = b := by have := congrArg (fun s : Str => s.cps.toList) h; exact this

theorem mul_dots (c : Nat) (d : Nat) : Txt.mul (mkS [c]) (d : Int) = mkS (List.replicate d c) := by
  have key : ∀ (n : Nat) (acc : Array Nat), (List.replicate n #[c]).foldl (· ++ ·) acc = acc ++ (List.replicate n c).toArray := by
    intro n
    induction n with
    | zero => intro acc; simp
    | succ n ih => intro acc; rw [List.replicate_succ, List.foldl_cons, ih, List.replicate_succ]; apply Array.ext'; simp
  unfold Txt.mul
  by_cases h : (d : Int) < 1
  · have : d = 0 := by omega
    subst this; rfl
  · rw [if_neg h]
    by_cases h2 : d = 1
    · subst h2; rfl
    · have e1 : ((d : Int) == 1 || (mkS [c]).length == 0) = false := by
        have : ((d : Int) == 1) = false := beq_false_of_ne (by omega)
        rw [this]; rfl
      rw [e1]
      apply Str.ext'
      show (List.replicate (d : Int).toNat #[c]).foldl (· ++ ·) #[] = _
      rw [Int.toNat_natCast, key]
      simp [mkS]

theorem count_list (l : List Nat) (c : Nat) : Txt.count (mkS l) (mkS [c]) = (l.count c : Nat) := by
  show Txt.count (mkS l) ⟨#[c]⟩ = _
  rw [PyProof.Rows.count_is]
  show PyProof.Rows.cnt c l = _
  induction l with
  | nil => rfl
  | cons a r ih =>
    rw [PyProof.Rows.cnt_cons, ih, List.count_cons]
    by_cases h : a = c
    · subst h; simp; omega
    · simp [h]

noncomputable def sw (c d : Nat) (l : List Nat) : List Nat := l.map fun x => if x = c then d else x
theorem sw_app (c d : Nat) (a b : List Nat) : sw c d (a ++ b) = sw c d a ++ sw c d b := by simp [sw]
theorem sw_free (c d : Nat) {l : List Nat} (h : c ∉ l) : sw c d l = l := by
  unfold sw
  conv => rhs; rw [← List.map_id l]
  exact List.map_congr_left fun x hx => by
    have : x ≠ c := fun e => h (e ▸ hx)
    simp [this]
theorem sw_join (c d : Nat) : ∀ parts : List Str, (∀ p ∈ parts, c ∉ p.cps.toList) → sw c d (Str.join ⟨#[c]⟩ parts).cps.toList = (Str.join ⟨#[d]⟩ parts).cps.toList
  | [], _ => rfl
  | [p], h => sw_free c d (h p (List.mem_singleton.mpr rfl))
  | p :: q :: r, h => by
    have ih := sw_join c d (q :: r) fun a ha => h a (List.mem_cons_of_mem _ ha)
    show sw c d (p ++ ⟨#[c]⟩ ++ Str.join ⟨#[c]⟩ (q :: r)).cps.toList = (p ++ ⟨#[d]⟩ ++ Str.join ⟨#[d]⟩ (q :: r)).cps.toList
    simp only [Str.cps_append, Array.toList_append]
    rw [sw_app, sw_app, ih, sw_free c d (h p (List.mem_cons_self ..))]
    show p.cps.toList ++ sw c d [c] ++ _ = _
    simp [sw]
theorem replace_list (l : List Nat) (c d : Nat) : Txt.replace (mkS l) (mkS [c]) (mkS [d]) = mkS (sw c d l) := by
  show Txt.replace (mkS l) ⟨#[c]⟩ ⟨#[d]⟩ = _
  rw [StrLaws.replace_one]
  apply Str.ext'
  apply Array.toList_inj.mp
  rw [← sw_join c d _ (StrLaws.split_free _ _), StrLaws.join_split]
  rfl

theorem at_drop {l : List Nat} {c : Nat} (h : StrLaws.At (mkS l) (mkS [13, 10]) l.length c) : ∃ r, l.drop c = 13 :: 10 :: r := by
  have h2 := h.2
  rw [StrLaws.subAt_eq] at h2
  have e := eq_of_beq h2
  have e2 : (l.drop c).take 2 = [13, 10] := e
  refine ⟨(l.drop c).drop 2, ?_⟩
  rw [← List.take_append_drop 2 (l.drop c), e2]
  simp
theorem at_of {l r : List Nat} {c : Nat} (h : l.drop c = 13 :: 10 :: r) : StrLaws.At (mkS l) (mkS [13, 10]) l.length c := by
  have hl : c + 2 ≤ l.length := by
    have := congrArg List.length h
    simp at this
    omega
  refine ⟨hl, ?_⟩
  rw [StrLaws.subAt_eq]
  show ((l.drop c).take 2 == [13, 10]) = true
  rw [h]; rfl
theorem strSub_list (l : List Nat) (i j : Nat) : strSub (mkS l) i j = mkS ((l.drop i).take (j - i)) := by
  apply Str.ext'
  apply Array.toList_inj.mp
  rw [StrLaws.strSub_toList]; rfl

theorem parts_of {l : List Nat} : ∀ (ps : List (List Nat)) (last : List Nat) (a : Nat) (cuts : List Nat) (f : Nat), (∀ p ∈ ps, 13 ∉ p) → 13 ∉ last → l.drop a = (ps.map (· ++ [13, 10])).flatten ++ last → a ≤ l.length →
    StrLaws.ChainG (mkS l) (mkS [13, 10]) l.length a cuts f → (∀ k, f ≤ k → ¬ StrLaws.At (mkS l) (mkS [13, 10]) l.length k) →
    StrLaws.partsFrom (mkS l) 2 a cuts = ps.map mkS ++ [mkS last]
  | [], last, a, cuts, f, hp, hl, hd, ha, ch, hn => by
    have hd' : l.drop a = last := by simpa using hd
    cases cuts with
    | nil =>
      show [strSub (mkS l) a (mkS l).length] = _
      rw [strSub_list, mkS_len, hd', List.take_of_length_le (by rw [← hd']; simp)]
      rfl
    | cons c r =>
      exfalso
      obtain ⟨r2, e⟩ := at_drop ch.2.1
      have h1 : l.drop c = (l.drop a).drop (c - a) := by rw [List.drop_drop]; congr 1; have := ch.1; omega
      rw [hd'] at h1
      apply hl
      refine List.mem_of_mem_drop (i := c - a) ?_
      rw [← h1, e]; simp
  | p :: ps, last, a, cuts, f, hp, hl, hd, ha, ch, hn => by
    have hd1 : l.drop a = p ++ 13 :: 10 :: ((ps.map (· ++ [13, 10])).flatten ++ last) := by rw [hd]; simp
    have hat : l.drop (a + p.length) = 13 :: 10 :: ((ps.map (· ++ [13, 10])).flatten ++ last) := by
      rw [← List.drop_drop, hd1]; simp
    have At1 := at_of hat
    have no : ∀ k, a ≤ k → k < a + p.length → ¬ StrLaws.At (mkS l) (mkS [13, 10]) l.length k := fun k h1 h2 q => by
      obtain ⟨r2, e⟩ := at_drop q
      have h3 : l.drop k = (l.drop a).drop (k - a) := by rw [List.drop_drop]; congr 1; omega
      rw [hd1] at h3
      have h4 : (l.drop k)[0]? = p[k - a]? := by
        rw [h3, List.getElem?_drop, Nat.add_zero, List.getElem?_append_left (by omega)]
      rw [e] at h4
      exact hp p (by simp) (List.mem_of_getElem? h4.symm)
    cases cuts with
    | nil =>
      exfalso
      have e : f = a := ch
      exact hn (a + p.length) (by omega) At1
    | cons c r =>
      obtain ⟨h1, h2, h3, h4⟩ := ch
      have hc : c = a + p.length := by
        rcases Nat.lt_trichotomy c (a + p.length) with q | q | q
        · exact absurd h2 (no c h1 q)
        · exact q
        · exact absurd At1 (h3 _ (by omega) q)
      subst hc
      have hlen : a + p.length + 2 ≤ l.length := At1.1
      show strSub (mkS l) a (a + p.length) :: StrLaws.partsFrom (mkS l) 2 (a + p.length + 2) r = _
      rw [parts_of ps last (a + p.length + 2) r f (fun q hq => hp q (List.mem_cons_of_mem _ hq)) hl (by rw [← List.drop_drop, hat]; rfl) hlen h4 hn]
      rw [strSub_list, hd1, Nat.add_sub_cancel_left, List.take_left']
      · rfl
      · rfl

theorem split_crlf (ps : List (List Nat)) (last : List Nat) (hp : ∀ p ∈ ps, 13 ∉ p) (hl : 13 ∉ last) :
    Txt.split (mkS ((ps.map (· ++ [13, 10])).flatten ++ last)) (mkS [13, 10]) = ps.map mkS ++ [mkS last] := by
  generalize hL : (ps.map (· ++ [13, 10])).flatten ++ last = L
  obtain ⟨f, ch, hn⟩ := StrLaws.occ_tight (mkS L) (mkS [13, 10]) (by decide)
  have hlen : (mkS L).length = L.length := mkS_len L
  rw [hlen] at ch hn
  have key := parts_of ps last 0 _ f hp hl (by rw [List.drop_zero, hL]) (Nat.zero_le _) ch hn
  unfold Txt.split
  rw [hlen]
  have kind : decide (Str.strKind (mkS L) < Str.strKind (mkS [13, 10])) = false := by
    have : Str.strKind (mkS [13, 10]) = 1 := by decide +kernel
    rw [this]
    refine decide_eq_false ?_
    unfold Str.strKind
    split
    · decide
    · split <;> decide
  rw [kind, Bool.or_false]
  have whole : ∀ (c : occurrences (mkS L) (mkS [13, 10]) 0 L.length (L.length + 1) = []), [mkS L] = ps.map mkS ++ [mkS last] := fun c => by
    rw [c] at key
    rw [← key]
    show _ = [strSub (mkS L) 0 (mkS L).length]
    rw [StrLaws.sub_whole]
  by_cases h2 : L.length < (mkS [13, 10]).length
  · rw [if_pos (by simpa using h2)]
    refine whole ?_
    cases ho : occurrences (mkS L) (mkS [13, 10]) 0 L.length (L.length + 1) with
    | nil => rfl
    | cons c r =>
      rw [ho] at ch
      have := ch.2.1.1
      omega
  · rw [if_neg (by simpa using h2)]
    cases he : (occurrences (mkS L) (mkS [13, 10]) 0 L.length (L.length + 1)).isEmpty with
    | true => rw [if_pos rfl]; exact whole (List.isEmpty_iff.mp he)
    | false =>
      rw [if_neg Bool.false_ne_true, StrLaws.partsBetween_eq]
      exact key

theorem slice_list (l : List Nat) {a b : Nat} (hab : a ≤ b) (hb : b ≤ l.length) : Txt.slice (mkS l) (some (a : Int)) (some (b : Int)) = mkS ((l.drop a).take (b - a)) := by
  unfold Txt.slice
  have hs := StrLaws.sliced_plain (mkS l) hab (by rw [mkS_len]; exact hb)
  split
  · rename_i hc
    have hc2 : (strSliceIndices (some (a : Int)) (some (b : Int)) 1 (mkS l).length).length = (mkS l).length := by
      have := (Bool.and_eq_true_iff.mp hc).2
      simpa using this
    rw [StrLaws.strSliceIndices_plain hab (by rw [mkS_len]; exact hb), mkS_len] at hc2
    have h3 : b - a = l.length := by simpa using hc2
    have ha : a = 0 := by omega
    have hb2 : b = l.length := by omega
    subst ha; subst hb2
    simp
  · rw [hs]; rfl
theorem slice_head (l : List Nat) {b : Nat} (hb : b ≤ l.length) : Txt.slice (mkS l) none (some (b : Int)) = mkS (l.take b) := by
  have e : Txt.slice (mkS l) none (some (b : Int)) = Txt.slice (mkS l) (some ((0 : Nat) : Int)) (some (b : Int)) := by
    unfold Txt.slice
    have : strSliceIndices none (some (b : Int)) 1 (mkS l).length = strSliceIndices (some ((0 : Nat) : Int)) (some (b : Int)) 1 (mkS l).length := by
      unfold strSliceIndices
      have e0 : max (0 : Int) (min 0 ((mkS l).length : Int)) = 0 := by omega
      simp [e0]
    rw [this]
  rw [e, slice_list l (Nat.zero_le _) hb]
  simp
end Mine

-- part T2
open PySem
set_option Elab.async false
set_option maxRecDepth 100000
set_option linter.unusedVariables false
set_option linter.unusedSimpArgs false
namespace Mine

noncomputable def crlf : List Nat → List Nat
  | [] => []
  | c :: r => if c = 10 then 13 :: 10 :: crlf r else if c = 13 then match r with
    | 10 :: r2 => 13 :: 10 :: crlf r2
    | r => 13 :: 10 :: crlf r
    else c :: crlf r
noncomputable def dotd : Bool → List Nat → List Nat
  | _, [] => []
  | b, c :: r => if b = true ∧ c = 46 then 46 :: 46 :: dotd false r else c :: dotd (c == 10) r

section
variable {P : Nat → Prop} {wd : Nat → Nat} {text : Array Nat} {rep : List Nat} {s : Nat} {out : List Nat}
theorem ext_cons {xs : Array Nat} {i j : Nat} (h : i < xs.size) (hj : i + 1 ≤ j) : xs[i] :: (xs.extract (i + 1) j).toList = (xs.extract i j).toList := by
  obtain ⟨k, rfl⟩ := Nat.exists_eq_add_of_le hj
  rw [Array.toList_extract, Array.toList_extract, List.extract_eq_take_drop, List.extract_eq_take_drop, List.drop_eq_getElem_cons (i := i) (by rw [Array.length_toList]; exact h), Nat.add_sub_cancel_left, Nat.add_assoc, Nat.add_sub_cancel_left, Nat.add_comm 1 k, List.take_succ_cons]
  rfl
theorem SubR.skip (hs : s < text.size) (n : ¬ P s) (r : SubR P wd text rep (s + 1) out) : SubR P wd text rep s (text[s] :: out) := by
  cases r with
  | done _ h =>
    rw [ext_cons hs hs]
    refine SubR.done (P := P) (wd := wd) (text := text) (rep := rep) s fun j h1 h2 => ?_
    rcases Nat.lt_or_eq_of_le h1 with q | q
    · exact h j q h2
    · subst q; exact n
  | found _ s' out' h1 h2 h3 h4 h5 =>
    rw [← List.cons_append, ← List.cons_append, ext_cons hs h1]
    refine SubR.found (P := P) (wd := wd) (text := text) (rep := rep) s s' out' (Nat.le_of_succ_le h1) h2 h3 (fun j q1 q2 => ?_) h5
    rcases Nat.lt_or_eq_of_le q1 with q | q
    · exact h4 j q q2
    · subst q; exact n
theorem SubR.hit (hs : s < text.size) (p : P s) (r : SubR P wd text rep (s + wd s) out) : SubR P wd text rep s (rep ++ out) := by
  have := SubR.found (P := P) (wd := wd) (text := text) (rep := rep) s s out (Nat.le_refl _) hs p (fun j h1 h2 => absurd h2 (Nat.not_lt.mpr h1)) r
  simpa using this
theorem SubR.stop : SubR P wd text rep text.size [] := by
  have := SubR.done (P := P) (wd := wd) (text := text) (rep := rep) text.size (fun j h1 h2 => absurd h2 (Nat.not_lt.mpr h1))
  simpa using this
end

theorem drop_at {l : List Nat} {s c : Nat} {r : List Nat} (h : l.drop s = c :: r) : s < l.length ∧ l[s]? = some c ∧ l.drop (s + 1) = r := by
  have h1 : s < l.length := by
    rcases Nat.lt_or_ge s l.length with q | q
    · exact q
    · rw [List.drop_eq_nil_of_le q] at h; cases h
  rw [List.drop_eq_getElem_cons h1] at h
  cases h
  exact ⟨h1, by simp [h1], rfl⟩
theorem getD_at {l : List Nat} {s c : Nat} {d : Nat} (h : l[s]? = some c) : l.toArray.getD s d = c := by
  simp [Array.getD, List.getElem?_eq_some_iff] at h ⊢
  obtain ⟨h1, h2⟩ := h
  simp [h1, h2]
theorem endW_one {text : Array Nat} {lim s : Nat} (h : ¬ (text.getD s 0 = 13 ∧ s + 1 < lim ∧ text.getD (s + 1) 0 = 10)) : endW text lim s = 1 := if_neg h
theorem crlf_r13 {c2 : Nat} {r2 : List Nat} (d : c2 ≠ 10) : (match c2 :: r2 with | 10 :: r2 => 13 :: 10 :: crlf r2 | r => 13 :: 10 :: crlf r) = 13 :: 10 :: crlf (c2 :: r2) := by
  split
  · rename_i q; cases q; exact absurd rfl d
  · rfl
theorem subR_crlf (l : List Nat) : ∀ (n s : Nat), l.length ≤ s + n → s ≤ l.length → SubR (EndAt l.toArray) (endW l.toArray l.toArray.size) l.toArray [13, 10] s (crlf (l.drop s))
  | 0, s, hs, hl => by
    have hs : l.length ≤ s := hs
    rw [List.drop_eq_nil_of_le hs, show s = l.toArray.size from Nat.le_antisymm hl hs]
    exact SubR.stop
  | n + 1, s, hs, hl => by
    have st : l.length ≤ s + 1 + n := by rw [Nat.add_right_comm]; exact hs
    cases hd : l.drop s with
    | nil =>
      rw [show s = l.toArray.size from Nat.le_antisymm hl (List.drop_eq_nil_iff.mp hd)]
      exact SubR.stop
    | cons c r =>
      obtain ⟨h1, h2, h3⟩ := drop_at hd
      have g : l.toArray.getD s 0 = c := getD_at h2
      have e0 : l.toArray[s]'h1 = c := (List.getElem?_eq_some_iff.mp h2).2
      have nx := subR_crlf l n (s + 1) st h1
      rw [h3] at nx
      clear hs hl hd
      unfold crlf
      by_cases c10 : c = 10
      · rw [if_pos c10]
        have w : endW l.toArray l.toArray.size s = 1 := endW_one fun q => by rw [g, c10] at q; exact absurd q.1 (by decide)
        exact SubR.hit (rep := [13, 10]) h1 (.inl (by rw [g, c10])) (by rw [w]; exact nx)
      · rw [if_neg c10]
        by_cases c13 : c = 13
        · rw [if_pos c13]
          have p : EndAt l.toArray s := .inr (by rw [g, c13])
          cases r with
          | nil =>
            have w : endW l.toArray l.toArray.size s = 1 := endW_one fun q => absurd (List.drop_eq_nil_iff.mp h3) (Nat.not_le.mpr q.2.1)
            exact SubR.hit (rep := [13, 10]) h1 p (by rw [w]; exact nx)
          | cons c2 r2 =>
            obtain ⟨k1, k2, k3⟩ := drop_at h3
            have g2 : l.toArray.getD (s + 1) 0 = c2 := getD_at k2
            by_cases d10 : c2 = 10
            · subst d10
              have w : endW l.toArray l.toArray.size s = 2 := if_pos ⟨by rw [g, c13], k1, g2⟩
              have nx2 := subR_crlf l n (s + 2) (Nat.le_trans st (Nat.add_le_add_right (Nat.le_succ _) _)) k1
              rw [k3] at nx2
              exact SubR.hit (rep := [13, 10]) h1 p (by rw [w]; exact nx2)
            · have w : endW l.toArray l.toArray.size s = 1 := endW_one fun q => d10 (by rw [← g2]; exact q.2.2)
              rw [crlf_r13 d10]
              exact SubR.hit (rep := [13, 10]) h1 p (by rw [w]; exact nx)
        · rw [if_neg c13]
          have np : ¬ EndAt l.toArray s := by
            rintro (q | q)
            · rw [g] at q; exact c10 q
            · rw [g] at q; exact c13 q
          have := SubR.skip h1 np nx
          rw [e0] at this
          exact this

theorem subR_dots (l : List Nat) : ∀ (n s : Nat) (b : Bool), s + n = l.length → (b = true ↔ (s = 0 ∨ l.toArray.getD (s - 1) 0 = 10)) → SubR (DotAt l.toArray) (fun _ => 1) l.toArray [46, 46] s (dotd b (l.drop s))
  | 0, s, b, hs, hb => by
    have : l.drop s = [] := List.drop_eq_nil_of_le (by omega)
    rw [this]
    have e : s = l.toArray.size := by simp; omega
    rw [e]; exact SubR.stop
  | n + 1, s, b, hs, hb => by
    have h1 : s < l.length := by omega
    have hd : l.drop s = l[s] :: l.drop (s + 1) := List.drop_eq_getElem_cons h1
    have g : l.toArray.getD s 0 = l[s] := getD_at (by simp [h1])
    have hs2 : s < l.toArray.size := by simpa using h1
    rw [hd]
    unfold dotd
    by_cases c : b = true ∧ l[s] = 46
    · rw [if_pos c]
      have p : DotAt l.toArray s := ⟨hb.mp c.1, by rw [g]; exact c.2⟩
      have := subR_dots l n (s + 1) false (by omega) (by
        simp only [Bool.false_eq_true, Nat.add_sub_cancel, false_iff]
        rintro (q | q)
        · omega
        · rw [g, c.2] at q; exact absurd q (by decide))
      exact SubR.hit (rep := [46, 46]) hs2 p this
    · rw [if_neg c]
      have np : ¬ DotAt l.toArray s := fun q => c ⟨hb.mpr q.1, by rw [← g]; exact q.2⟩
      have := subR_dots l n (s + 1) (l[s] == 10) (by omega) (by
        rw [Nat.add_sub_cancel, g]
        simp)
      have e0 : l.toArray[s] = l[s] := by simp
      rw [← e0]
      exact SubR.skip hs2 np (by rw [e0]; exact this)

noncomputable def quoteL (l : List Nat) : List Nat := dotd true (crlf l)

theorem crlf_len : ∀ l : List Nat, (crlf l).length ≤ 2 * l.length := by
  intro l
  induction h : l.length using Nat.strongRecOn generalizing l with
  | _ n ih =>
    cases l with
    | nil => simp [crlf]
    | cons c r =>
      simp only [List.length_cons] at h
      unfold crlf
      split
      · have := ih r.length (by omega) r rfl; simp; omega
      · split
        · split
          · rename_i r2
            have := ih r2.length (by simp at h; omega) r2 rfl
            simp at h ⊢; omega
          · have := ih r.length (by omega) r rfl; simp; omega
        · have := ih r.length (by omega) r rfl; simp; omega
theorem dotd_len : ∀ (l : List Nat) (b : Bool), (dotd b l).length ≤ 2 * l.length
  | [], _ => by simp [dotd]
  | c :: r, b => by
    unfold dotd
    split
    · have := dotd_len r false; simp; omega
    · have := dotd_len r (c == 10); simp; omega

section
variable {prog : Program} {w : World} {X : Fix} {ok : Around → Heap → Prop}
theorem crlf_gives (O : OkAt X ok) {a : Addr} (p : PatIs X.top a code2) {l : List Nat} (hl : l.length ≤ 100000) : MtGives prog w X ok "re.Pattern.sub" a [.str (mkS [13, 10]), .str (mkS l)] (.str (mkS (crlf l))) :=
  sub_gives O p (searches2 l.toArray) (by decide) (by decide +kernel) (by rw [mkS_len]; omega) (subR_crlf l l.length 0 (Nat.le_add_left _ _) (Nat.zero_le _)) (by have := crlf_len l; omega)
theorem dots_gives (O : OkAt X ok) {a : Addr} (p : PatIs X.top a code1) {l : List Nat} (hl : l.length ≤ 200000) : MtGives prog w X ok "re.Pattern.sub" a [.str (mkS [46, 46]), .str (mkS l)] (.str (mkS (dotd true l))) :=
  sub_gives O p (searches1 l.toArray) (by decide) (by decide +kernel) (by rw [mkS_len]; omega) (subR_dots l l.length 0 true (by omega) (by simp)) (by have := dotd_len l true; omega)
end
end Mine

-- part T3
open PySem
set_option Elab.async false
set_option maxRecDepth 100000
set_option linter.unusedVariables false
set_option linter.unusedSimpArgs false
namespace Mine

noncomputable def okEnd (e : List Nat) : Prop := e = [10] ∨ e = [13] ∨ e = [13, 10]
structure okRow (p : List Nat) : Prop where
  ne : p ≠ []
  n10 : 10 ∉ p
  n13 : 13 ∉ p

theorem crlf_cons {c : Nat} (r : List Nat) (h1 : c ≠ 10) (h2 : c ≠ 13) : crlf (c :: r) = c :: crlf r := by
  conv => lhs; unfold crlf
  rw [if_neg h1, if_neg h2]
theorem crlf_10 (r : List Nat) : crlf (10 :: r) = 13 :: 10 :: crlf r := by
  conv => lhs; unfold crlf
  rw [if_pos rfl]
theorem crlf_1310 (r : List Nat) : crlf (13 :: 10 :: r) = 13 :: 10 :: crlf r := by
  conv => lhs; unfold crlf
  rw [if_neg (by decide), if_pos rfl]
  rfl
theorem crlf_13 (r : List Nat) (h : ∀ r2, r ≠ 10 :: r2) : crlf (13 :: r) = 13 :: 10 :: crlf r := by
  conv => lhs; unfold crlf
  rw [if_neg (by decide), if_pos rfl]
  split
  · rename_i r2; exact absurd rfl (h r2)
  · rfl
theorem crlf_free : ∀ (a b : List Nat), 10 ∉ a → 13 ∉ a → crlf (a ++ b) = a ++ crlf b
  | [], b, _, _ => rfl
  | c :: a, b, h1, h2 => by
    have e1 : c ≠ 10 := fun q => h1 (q ▸ List.mem_cons_self ..)
    have e2 : c ≠ 13 := fun q => h2 (q ▸ List.mem_cons_self ..)
    rw [List.cons_append, crlf_cons _ e1 e2, crlf_free a b (fun q => h1 (List.mem_cons_of_mem _ q)) (fun q => h2 (List.mem_cons_of_mem _ q))]
    rfl
theorem crlf_end {e b : List Nat} (he : okEnd e) (hb : ∀ r, b ≠ 10 :: r) : crlf (e ++ b) = 13 :: 10 :: crlf b := by
  rcases he with rfl | rfl | rfl
  · exact crlf_10 b
  · exact crlf_13 b hb
  · exact crlf_1310 b

noncomputable def mailL (rows : List (List Nat × List Nat)) : List Nat := (rows.map fun p => p.1 ++ p.2).flatten
theorem mailL_cons (p : List Nat × List Nat) (r : List (List Nat × List Nat)) : mailL (p :: r) = p.1 ++ (p.2 ++ mailL r) := by simp [mailL]
theorem mailL_ne10 {rows : List (List Nat × List Nat)} (h : ∀ p ∈ rows, okRow p.1) : ∀ r, mailL rows ≠ 10 :: r := by
  intro r e
  cases rows with
  | nil => cases e
  | cons p ps =>
    rw [mailL_cons] at e
    have hp := h p (by simp)
    cases q : p.1 with
    | nil => exact hp.ne q
    | cons c cs =>
      rw [q, List.cons_append] at e
      cases e
      exact hp.n10 (by rw [q]; simp)
theorem crlf_mail : ∀ rows : List (List Nat × List Nat), (∀ p ∈ rows, okRow p.1) → (∀ p ∈ rows, okEnd p.2) → crlf (mailL rows) = mailL (rows.map fun p => (p.1, [13, 10]))
  | [], _, _ => rfl
  | p :: r, h1, h2 => by
    have hp := h1 p (by simp)
    rw [mailL_cons, crlf_free _ _ hp.n10 hp.n13, crlf_end (h2 p (by simp)) (mailL_ne10 fun q hq => h1 q (List.mem_cons_of_mem _ hq)), crlf_mail r (fun q hq => h1 q (List.mem_cons_of_mem _ hq)) (fun q hq => h2 q (List.mem_cons_of_mem _ hq))]
    rw [List.map_cons, mailL_cons]; rfl

noncomputable def stuff : List Nat → List Nat
  | [] => []
  | c :: r => if c = 46 then 46 :: 46 :: r else c :: r
theorem dotd_free : ∀ (a b : List Nat), 10 ∉ a → dotd false (a ++ b) = a ++ dotd false b
  | [], b, _ => rfl
  | c :: a, b, h => by
    have e1 : c ≠ 10 := fun q => h (q ▸ List.mem_cons_self ..)
    rw [List.cons_append]
    conv => lhs; unfold dotd
    rw [if_neg (by simp)]
    rw [show (c == 10) = false from by simpa using e1, dotd_free a b (fun q => h (List.mem_cons_of_mem _ q))]
    rfl
theorem dotd_crlf (b : List Nat) : dotd false (13 :: 10 :: b) = 13 :: 10 :: dotd true b := by
  conv => lhs; unfold dotd
  rw [if_neg (by simp), show ((13 : Nat) == 10) = false from rfl]
  conv => lhs; arg 2; unfold dotd
  rw [if_neg (by simp), show ((10 : Nat) == 10) = true from rfl]
theorem dotd_row {p : List Nat} (b : List Nat) (h : okRow p) : dotd true (p ++ (13 :: 10 :: b)) = stuff p ++ (13 :: 10 :: dotd true b) := by
  cases p with
  | nil => exact absurd rfl h.ne
  | cons c r =>
    have e1 : c ≠ 10 := fun q => h.n10 (q ▸ List.mem_cons_self ..)
    have h2 : 10 ∉ r := fun q => h.n10 (List.mem_cons_of_mem _ q)
    rw [List.cons_append]
    conv => lhs; unfold dotd
    have es : stuff (c :: r) = if c = 46 then 46 :: 46 :: r else c :: r := rfl
    rw [es]
    by_cases c46 : c = 46
    · rw [if_pos ⟨rfl, c46⟩, if_pos c46, dotd_free _ _ h2, dotd_crlf]; rfl
    · rw [if_neg (fun q => c46 q.2), if_neg c46, show (c == 10) = false from by simpa using e1, dotd_free _ _ h2, dotd_crlf]; rfl
theorem dotd_mail : ∀ rows : List (List Nat), (∀ p ∈ rows, okRow p) → dotd true (mailL (rows.map fun p => (p, [13, 10]))) = mailL (rows.map fun p => (stuff p, [13, 10]))
  | [], _ => rfl
  | p :: r, h => by
    rw [List.map_cons, mailL_cons, List.map_cons, mailL_cons]
    show dotd true (p ++ (13 :: 10 :: mailL (r.map fun p => (p, [13, 10])))) = stuff p ++ (13 :: 10 :: mailL (r.map fun p => (stuff p, [13, 10])))
    rw [dotd_row _ (h p (by simp)), dotd_mail r fun q hq => h q (List.mem_cons_of_mem _ hq)]
theorem quote_mail (rows : List (List Nat × List Nat)) (h1 : ∀ p ∈ rows, okRow p.1) (h2 : ∀ p ∈ rows, okEnd p.2) : quoteL (mailL rows) = mailL (rows.map fun p => (stuff p.1, [13, 10])) := by
  unfold quoteL
  rw [crlf_mail rows h1 h2]
  have := dotd_mail (rows.map (·.1)) (by intro p hp; obtain ⟨q, hq, rfl⟩ := List.mem_map.mp hp; exact h1 q hq)
  rw [List.map_map, List.map_map] at this
  exact this

noncomputable def unq : List Nat → List Nat
  | [] => []
  | c :: r => if c = 34 then match r with
    | 34 :: r2 => 34 :: unq r2
    | _ => []
    else c :: unq r
theorem unq_free : ∀ (a b : List Nat), 34 ∉ a → unq (a ++ b) = a ++ unq b
  | [], b, _ => rfl
  | c :: a, b, h => by
    have e1 : c ≠ 34 := fun q => h (q ▸ List.mem_cons_self ..)
    rw [List.cons_append]
    conv => lhs; unfold unq
    rw [if_neg e1, unq_free a b (fun q => h (List.mem_cons_of_mem _ q))]
    rfl
theorem unq_two (b : List Nat) : unq (34 :: 34 :: b) = 34 :: unq b := by
  conv => lhs; unfold unq
  rw [if_pos rfl]
  rfl
theorem unq_marks : ∀ (n : Nat) (b : List Nat), unq (List.replicate (2 * n) 34 ++ b) = List.replicate n 34 ++ unq b
  | 0, b => rfl
  | n + 1, b => by
    have : 2 * (n + 1) = 2 * n + 1 + 1 := by omega
    rw [this, List.replicate_succ, List.replicate_succ, List.cons_append, List.cons_append, unq_two, unq_marks n b, List.replicate_succ, List.cons_append]
end Mine

-- part V0
open PySem
set_option Elab.async false
set_option maxRecDepth 100000
set_option linter.unusedVariables false
set_option linter.unusedSimpArgs false
namespace Mine
open Builtin Builtin.Str Builtin.Int

noncomputable def bodyOf (p : Program) (n : Nat) : List Stmt := match p.main.body[n]? with | some (.FunctionDef _ _ b _ _ _ _ _ _ _) => b | _ => []
noncomputable def scopeOf (p : Program) (n : Nat) : Names := match p.main.body[n]? with | some (.FunctionDef _ _ _ _ _ _ s _ _ _) => s.names | _ => []
noncomputable def glOf : List (Str × Value) → Str → Option Value
  | [], _ => none
  | p :: r, x => match sameN x p.1 with
    | true => some p.2
    | false => glOf r x
theorem glOf_mem : ∀ {l : List (Str × Value)} {x : Str} {v : Value}, glOf l x = some v → (x, v) ∈ l
  | [], _, _, h => by cases h
  | p :: r, x, v, h => by
    unfold glOf at h
    split at h
    · rename_i q
      cases h
      rw [sameN_iff.mp q]
      simp
    · exact List.mem_cons_of_mem _ (glOf_mem h)

noncomputable def flagsD : List (PyData × PyData) := [(.int 1, .str (nm "OPTIMIZED")), (.int 2, .str (nm "NEWLOCALS")), (.int 4, .str (nm "VARARGS")), (.int 8, .str (nm "VARKEYWORDS")), (.int 16, .str (nm "NESTED")), (.int 32, .str (nm "GENERATOR")), (.int 64, .str (nm "NOFREE")), (.int 128, .str (nm "COROUTINE")), (.int 256, .str (nm "ITERABLE_COROUTINE")), (.int 512, .str (nm "ASYNC_GENERATOR"))]
noncomputable def nameOf (f : Int) : Str := match (Spec.lookup (.int f) flagsD).getD (.str (baseText "0x" 16 f)) with
  | .str y => y
  | _ => Str.empty
theorem nameOf_is : ∀ i, i < 32 → (Spec.lookup (.int (1 * 2 ^ i)) flagsD).getD (.str (baseText "0x" 16 (1 * 2 ^ i))) = .str (nameOf (1 * 2 ^ i)) := by
  intro i h
  have : ∃ y, (Spec.lookup (.int (1 * 2 ^ i)) flagsD).getD (.str (baseText "0x" 16 (1 * 2 ^ i))) = .str y := by
    match i, h with
    | 0, _ => exact ⟨_, rfl⟩
    | 1, _ => exact ⟨_, rfl⟩
    | 2, _ => exact ⟨_, rfl⟩
    | 3, _ => exact ⟨_, rfl⟩
    | 4, _ => exact ⟨_, rfl⟩
    | 5, _ => exact ⟨_, rfl⟩
    | 6, _ => exact ⟨_, rfl⟩
    | 7, _ => exact ⟨_, rfl⟩
    | 8, _ => exact ⟨_, rfl⟩
    | 9, _ => exact ⟨_, rfl⟩
    | 10, _ => exact ⟨_, rfl⟩
    | 11, _ => exact ⟨_, rfl⟩
    | 12, _ => exact ⟨_, rfl⟩
    | 13, _ => exact ⟨_, rfl⟩
    | 14, _ => exact ⟨_, rfl⟩
    | 15, _ => exact ⟨_, rfl⟩
    | 16, _ => exact ⟨_, rfl⟩
    | 17, _ => exact ⟨_, rfl⟩
    | 18, _ => exact ⟨_, rfl⟩
    | 19, _ => exact ⟨_, rfl⟩
    | 20, _ => exact ⟨_, rfl⟩
    | 21, _ => exact ⟨_, rfl⟩
    | 22, _ => exact ⟨_, rfl⟩
    | 23, _ => exact ⟨_, rfl⟩
    | 24, _ => exact ⟨_, rfl⟩
    | 25, _ => exact ⟨_, rfl⟩
    | 26, _ => exact ⟨_, rfl⟩
    | 27, _ => exact ⟨_, rfl⟩
    | 28, _ => exact ⟨_, rfl⟩
    | 29, _ => exact ⟨_, rfl⟩
    | 30, _ => exact ⟨_, rfl⟩
    | 31, _ => exact ⟨_, rfl⟩
    | n + 32, h => omega
  obtain ⟨y, e⟩ := this
  rw [e]
  unfold nameOf
  rw [e]
theorem hex_small (i : Nat) (h : i < 32) : (baseText "0x" 16 (1 * 2 ^ i)).length ≤ sizeLine := by
  have : ∀ i : Fin 32, (baseText "0x" 16 (1 * 2 ^ (i : Nat))).length ≤ 20 := by decide +kernel
  have := this ⟨i, h⟩
  rw [line_eq]
  exact Nat.le_trans this (by decide)

noncomputable def pfl : List Nat → Int → List Str → List Str
  | [], x, acc => acc ++ [baseText "0x" 16 x]
  | i :: r, x, acc => if (bitAnd x (1 * 2 ^ i) != 0) = true then
      (if (bitXor x (1 * 2 ^ i) != 0) = true then pfl r (bitXor x (1 * 2 ^ i)) (acc ++ [nameOf (1 * 2 ^ i)]) else acc ++ [nameOf (1 * 2 ^ i)])
    else pfl r x acc
noncomputable def pflOk : List Nat → Int → Bool
  | [], x => Nat.ble (baseText "0x" 16 x).length 100
  | i :: r, x => if (bitAnd x (1 * 2 ^ i) != 0) = true then
      (if (bitXor x (1 * 2 ^ i) != 0) = true then pflOk r (bitXor x (1 * 2 ^ i)) else true)
    else pflOk r x
noncomputable def pfS (x : Int) : Str := Txt.join (mkS [44, 32]) (pfl (List.range 32) x [])
noncomputable def pfOk (x : Int) : Bool := pflOk (List.range 32) x && JoinOk (mkS [44, 32]) (pfl (List.range 32) x [])

theorem vMap_all {g : V → (Option V → Prop) → Prop} {f : V → V} {K : List V → Prop} : ∀ (items acc : List V), (∀ it ∈ items, ∀ K', K' (some (f it)) → g it K') → K (acc ++ items.map f) → vMap g items acc K
  | [], acc, _, k => by simpa [vMap] using k
  | it :: r, acc, h, k => by
    unfold vMap
    refine h it (by simp) _ ?_
    exact vMap_all r (acc ++ [f it]) (fun q hq => h q (List.mem_cons_of_mem _ hq)) (by simpa using k)

theorem vFor_inv {body els : Ctx → (Out → Prop) → Prop} {target : Expr} {K : Out → Prop} (Inv : List V → Ctx → Prop)
    (h : ∀ it r Γ, Inv (it :: r) Γ → ∃ b, binds target it = some b ∧ ∀ K' : Out → Prop, (∀ Γ', Inv r Γ' → K' (.next Γ')) → (∀ Γ', K (.next Γ') → K' (.brk Γ')) → (∀ v, K (.ret v) → K' (.ret v)) → body (putAll Γ b) K')
    (e : ∀ Γ, Inv [] Γ → els Γ K) : ∀ xs Γ, Inv xs Γ → vFor body els target xs Γ K
  | [], Γ, i => by unfold vFor; exact e Γ i
  | it :: r, Γ, i => by
    unfold vFor
    obtain ⟨b, hb, hk⟩ := h it r Γ i
    rw [hb]
    exact hk _ (fun Γ' i' => vFor_inv Inv h e r Γ' i') (fun _ k => k) (fun _ k => k)

theorem vss_cons {P : Par} {ow : List Str} {n : Nat} {sc : Names} {s : Stmt} {r : List Stmt} {Γ : Ctx} {K : Out → Prop}
    (h : vs P ow n sc s Γ (fun out => match out with | .next Γ' => vss P ow n sc r Γ' K | o => K o)) : vss P ow (n + 1) sc (s :: r) Γ K := h
theorem vFor_step {body els : Ctx → (Out → Prop) → Prop} {target : Expr} {it : V} {r : List V} {Γ : Ctx} {K : Out → Prop} (b : Ctx) (hb : binds target it = some b) (h : body (putAll Γ b) (forK body els target r K)) : vFor body els target (it :: r) Γ K := by
  unfold vFor; rw [hb]; exact h
theorem forK_next {body els : Ctx → (Out → Prop) → Prop} {target : Expr} {r : List V} {Γ : Ctx} {K : Out → Prop} (h : vFor body els target r Γ K) : forK body els target r K (.next Γ) := h
noncomputable def nthS (l : List Stmt) (j : Nat) : Stmt := match l[j]? with | some s => s | none => .Pass default
noncomputable def inB (s : Stmt) : List Stmt := match s with | .For _ _ b _ _ => b | _ => []
end Mine

-- part WA2
open PySem PySem.Challenge
set_option Elab.async false
set_option maxRecDepth 100000
set_option linter.unusedVariables false
set_option linter.unusedSimpArgs false
namespace Mine
open Builtin Builtin.Str Builtin.Int

noncomputable def gl1 (t : Tok) : List (Str × Value) := [(nm "_twin_re_1", .ref 83), (nm "_twin_re_2", .ref 88), (nm "CRLF", .str (mkS [13, 10]) t), (nm "COMPILER_FLAG_NAMES", .ref 64), (nm "quotedata", .ref 95), (nm "pretty_flags", .ref 71), (nm "_parse_varint", .ref 78),
  (nm "parse257", .ref 63), (nm "_law_word", .ref 102), (nm "_law_tail", .ref 109), (nm "_law_mail", .ref 116), (nm "_law_rows", .ref 121), (nm "_law_read", .ref 128), (nm "_law_twos", .ref 135), (nm "_law_order", .ref 142),
  (nm "len", .builtin "len"), (nm "sum", .builtin "sum"), (nm "max", .builtin "max"), (nm "sorted", .builtin "sorted"), (nm "ord", .builtin "ord"), (nm "chr", .builtin "chr"), (nm "hex", .builtin "hex"), (nm "iter", .builtin "iter"), (nm "next", .builtin "next"),
  (nm "range", .type "range"), (nm "list", .type "list"), (nm "zip", .type "zip"), (nm "StopIteration", .type "StopIteration")]
noncomputable def fs1 (a : Addr) : Bool := Nat.beq a 95 || Nat.beq a 71 || Nat.beq a 78 || Nat.beq a 63 || Nat.beq a 102 || Nat.beq a 109 || Nat.beq a 116 || Nat.beq a 121 || Nat.beq a 128 || Nat.beq a 135 || Nat.beq a 142
noncomputable def mi1 (a : Addr) (name : Str) : Option String :=
  match (Nat.beq a 83 || Nat.beq a 88) && sameN name (nm "sub") with
  | true => some "re.Pattern.sub"
  | false => match Nat.beq a 64 && sameN name (nm "get") with
    | true => some "dict.get"
    | false => none
noncomputable def mt1 (a : Addr) (name : Str) (Vs : List V) (r : V) : Prop :=
  (a = 88 ∧ ∃ l : List Nat, l.length ≤ 100000 ∧ Vs = [.str (mkS [13, 10]), .str (mkS l)] ∧ r = .str (mkS (crlf l))) ∨
  (a = 83 ∧ ∃ l : List Nat, l.length ≤ 200000 ∧ Vs = [.str (mkS [46, 46]), .str (mkS l)] ∧ r = .str (mkS (dotd true l))) ∨
  (a = 64 ∧ ∃ i dflt y, Vs = [.int i, .str dflt] ∧ r = .str y ∧ (Spec.lookup (.int i) flagsD).getD (.str dflt) = .str y)
noncomputable def P1 (t : Tok) : Par := ⟨glOf (gl1 t), fs1, fun _ _ _ => False, mi1, mt1⟩

theorem vc_quote (t : Tok) (l : List Nat) (hl : l.length ≤ 100000) : vss (P1 t) [] 40 (scopeOf pw_ty0004_02 13) (bodyOf pw_ty0004_02 13) [(nm "data", .val (.str (mkS l)))] (fun out => out = .ret (.str (mkS (quoteL l)))) := by
  repeat (first | refine ⟨rfl, ?_⟩ | refine ⟨⟨rfl, rfl⟩, ?_⟩ | refine ⟨⟨rfl, rfl, rfl⟩, ?_⟩ | refine ⟨⟨rfl, rfl, rfl, rfl⟩, ?_⟩ | refine ⟨⟨rfl, rfl, rfl, rfl, rfl⟩, ?_⟩ | refine ⟨⟨⟨rfl, rfl, rfl⟩, rfl, rfl, rfl⟩, ?_⟩)
  refine ⟨_, .inl ⟨rfl, l, hl, rfl, rfl⟩, ?_⟩
  refine ⟨_, .inr (.inl ⟨rfl, crlf l, ?_, rfl, rfl⟩), rfl⟩
  have := crlf_len l
  omega

noncomputable abbrev scP : Names := scopeOf pw_ty0004_02 7
noncomputable abbrev boP (i : Nat) : Stmt := nthS (bodyOf pw_ty0004_02 7) i
noncomputable abbrev pfΓ (x : Int) (acc : List Str) (C : Ctx) : Ctx := (nm "flags", Ent.val (.int x)) :: (nm "names", Ent.own (acc.map V.str)) :: C
section
variable {t : Tok} {K : Out → Prop} {x f : Int} {acc : List Str} {iv : V} {y : Str}
theorem str_len {n : Nat} (h : acc.length ≤ n) (hn : n ≤ 16777215) : (acc.map V.str).length ≤ 16777215 := by rw [List.length_map]; exact Nat.le_trans h hn
theorem str_snoc : acc.map V.str ++ [V.str y] = (acc ++ [y]).map V.str := by rw [List.map_append]; rfl
theorem pf_flag {i : Nat} {C : Ctx} (hi : i < 32) (hC : C = [] ∨ ∃ b, C = [(nm "flag", Ent.val b)]) (k : K (.next (pfΓ x acc [(nm "i", .val (.int (0 + (i : Nat)))), (nm "flag", .val (.int (1 * 2 ^ i)))]))) :
    vs (P1 t) [nm "names"] 36 scP (nthS (inB (boP 1)) 0) (pfΓ x acc ((nm "i", .val (.int (0 + (i : Nat)))) :: C)) K := by
  have e0 : (0 : Int) + (i : Nat) = i := Int.zero_add _
  have pw : (1 : Int) * 2 ^ ((0 : Int) + (i : Nat)).toNat = 1 * 2 ^ i := by rw [e0]; rfl
  have c : 0 ≤ (0 : Int) + (i : Nat) ∧ (0 : Int) + (i : Nat) ≤ 1000000 ∧ (1 : Int).natAbs < 2 ^ 64 := by
    rw [e0]; exact ⟨Int.natCast_nonneg i, Int.ofNat_le.mpr (Nat.le_trans (Nat.le_of_lt hi) (by decide)), by decide⟩
  rw [← pw] at k
  rcases hC with rfl | ⟨b, rfl⟩
  · exact ⟨c, k⟩
  · exact ⟨c, k⟩
theorem pf_if (hn : (Spec.lookup (.int f) flagsD).getD (.str (baseText "0x" 16 f)) = .str y) (hx : (baseText "0x" 16 f).length ≤ sizeLine) (len : acc.length ≤ 1000)
    (k1 : (bitAnd x f != 0) = true → (bitXor x f != 0) = true → K (.next (pfΓ (bitXor x f) (acc ++ [y]) [(nm "i", .val iv), (nm "flag", .val (.int f))])))
    (k2 : (bitAnd x f != 0) = true → (bitXor x f != 0) = false → K (.brk (pfΓ (bitXor x f) (acc ++ [y]) [(nm "i", .val iv), (nm "flag", .val (.int f))])))
    (k3 : (bitAnd x f != 0) = false → K (.next (pfΓ x acc [(nm "i", .val iv), (nm "flag", .val (.int f))]))) :
    vs (P1 t) [nm "names"] 35 scP (nthS (inB (boP 1)) 1) (pfΓ x acc [(nm "i", .val iv), (nm "flag", .val (.int f))]) K := by
  refine ⟨fun hb => ?_, fun hb => k3 hb⟩
  refine ⟨hx, ?_⟩
  refine ⟨_, .inr (.inr ⟨rfl, _, _, _, rfl, rfl, hn⟩), ?_⟩
  refine ⟨str_len len (by decide), ?_⟩
  rw [str_snoc]
  refine ⟨fun hc => k2 hb (not_true hc), fun hc => k1 hb ?_⟩
  cases h : (bitXor x f != 0) with
  | true => rfl
  | false => rw [show (!(bitXor x f != 0)) = true from by rw [h]; rfl] at hc; cases hc
end
noncomputable def PfI (y : Int) (its : List V) (Γ : Ctx) : Prop := ∃ r x acc C, its = r.map (fun k : Nat => V.int (0 + (k : Nat))) ∧ (∀ i ∈ r, i < 32) ∧ Γ = pfΓ x acc C ∧
    (C = [] ∨ ∃ a b, C = [(nm "i", Ent.val a), (nm "flag", Ent.val b)]) ∧ Txt.join (mkS [44, 32]) (pfl r x acc) = pfS y ∧ JoinOk (mkS [44, 32]) (pfl r x acc) = true ∧ pflOk r x = true ∧ acc.length + r.length ≤ 40
theorem pfl_0 {i : Nat} {r : List Nat} {x : Int} {acc : List Str} (h : (bitAnd x (1 * 2 ^ i) != 0) = false) : pfl (i :: r) x acc = pfl r x acc ∧ pflOk (i :: r) x = pflOk r x := by
  have h' : ¬ (bitAnd x (1 * 2 ^ i) != 0) = true := by rw [h]; decide
  constructor
  · conv => lhs; unfold pfl
    rw [if_neg h']
  · conv => lhs; unfold pflOk
    rw [if_neg h']
theorem pfl_1 {i : Nat} {r : List Nat} {x : Int} {acc : List Str} (h : (bitAnd x (1 * 2 ^ i) != 0) = true) (h2 : (bitXor x (1 * 2 ^ i) != 0) = true) : pfl (i :: r) x acc = pfl r (bitXor x (1 * 2 ^ i)) (acc ++ [nameOf (1 * 2 ^ i)]) ∧ pflOk (i :: r) x = pflOk r (bitXor x (1 * 2 ^ i)) := by
  constructor
  · conv => lhs; unfold pfl
    rw [if_pos h, if_pos h2]
  · conv => lhs; unfold pflOk
    rw [if_pos h, if_pos h2]
theorem pfl_2 {i : Nat} {r : List Nat} {x : Int} {acc : List Str} (h : (bitAnd x (1 * 2 ^ i) != 0) = true) (h2 : (bitXor x (1 * 2 ^ i) != 0) = false) : pfl (i :: r) x acc = acc ++ [nameOf (1 * 2 ^ i)] := by
  conv => lhs; unfold pfl
  rw [if_pos h, if_neg (by rw [h2]; decide)]
theorem pf_ret {t : Tok} {y : Int} {x : Int} {acc : List Str} {C : Ctx} (hC : C = [] ∨ ∃ a b, C = [(nm "i", Ent.val a), (nm "flag", Ent.val b)]) (h3 : Txt.join (mkS [44, 32]) acc = pfS y) (h4 : JoinOk (mkS [44, 32]) acc = true) :
    vss (P1 t) [nm "names"] 38 scP [boP 2] (pfΓ x acc C) (fun out => out = .ret (.str (pfS y))) := by
  rcases hC with rfl | ⟨a, b, rfl⟩
  · exact ⟨_, rfl, h4, congrArg (fun s => Out.ret (V.str s)) h3⟩
  · exact ⟨_, rfl, h4, congrArg (fun s => Out.ret (V.str s)) h3⟩

theorem vc_pretty (t : Tok) (y : Int) (hx : pfOk y = true) : vss (P1 t) [nm "names"] 40 (scopeOf pw_ty0004_02 7) (bodyOf pw_ty0004_02 7) [(nm "flags", .val (.int y))] (fun out => out = .ret (.str (pfS y))) := by
  obtain ⟨h1, h2⟩ := Bool.and_eq_true_iff.mp hx
  show vss (P1 t) [nm "names"] 40 scP [boP 0, boP 1, boP 2] _ _
  refine vss_cons ?_
  show vss (P1 t) [nm "names"] 39 scP [boP 1, boP 2] (pfΓ y [] []) _
  refine vss_cons ?_
  refine ⟨⟨by decide, by decide⟩, ?_⟩
  refine ⟨⟨by decide, by decide, by decide, by decide, by decide⟩, ?_⟩
  refine vFor_inv (PfI y) ?_ ?_ _ _ ⟨List.range 32, y, [], [], rfl, fun i hi => List.mem_range.mp hi, rfl, .inl rfl, rfl, h2, h1, by decide⟩
  · rintro it r Γ ⟨r0, x, acc, C, e, hr, rfl, hC, h3, h4, h5, h6⟩
    cases r0 with
    | nil => cases e
    | cons i r0 =>
    cases e
    have hi : i < 32 := hr i (.head _)
    have hr' : ∀ j ∈ r0, j < 32 := fun j hj => hr j (List.mem_cons_of_mem _ hj)
    have h7 : acc.length + r0.length + 1 ≤ 40 := h6
    have len : acc.length ≤ 1000 := Nat.le_trans (Nat.le_add_right _ _) (Nat.le_trans h6 (by decide))
    refine ⟨_, rfl, fun K' kn kb kr => ?_⟩
    have fin : ∀ C2 : Ctx, (C2 = [] ∨ ∃ b, C2 = [(nm "flag", Ent.val b)]) → vss (P1 t) [nm "names"] 37 scP (inB (boP 1)) (pfΓ x acc ((nm "i", .val (.int (0 + (i : Nat)))) :: C2)) K' := fun C2 hC2 => by
      show vss (P1 t) [nm "names"] 37 scP [nthS (inB (boP 1)) 0, nthS (inB (boP 1)) 1] _ _
      refine vss_cons (pf_flag hi hC2 ?_)
      refine vss_cons (pf_if (nameOf_is i hi) (hex_small i hi) len (fun hb hc => ?_) (fun hb hc => ?_) fun hb => ?_)
      · rw [(pfl_1 hb hc).1] at h3 h4
        rw [(pfl_1 (acc := acc) hb hc).2] at h5
        refine kn _ ⟨r0, _, _, _, rfl, hr', rfl, .inr ⟨_, _, rfl⟩, h3, h4, h5, ?_⟩
        rw [List.length_append, Nat.add_right_comm]; exact h7
      · rw [pfl_2 hb hc] at h3 h4
        exact kb _ (pf_ret (.inr ⟨_, _, rfl⟩) h3 h4)
      · rw [(pfl_0 hb).1] at h3 h4
        rw [(pfl_0 (acc := acc) hb).2] at h5
        exact kn _ ⟨r0, _, _, _, rfl, hr', rfl, .inr ⟨_, _, rfl⟩, h3, h4, h5, Nat.le_of_succ_le h7⟩
    rcases hC with rfl | ⟨a, b, rfl⟩
    · exact fin [] (.inl rfl)
    · exact fin _ (.inr ⟨b, rfl⟩)
  · rintro Γ ⟨r0, x, acc, C, e, hr, rfl, hC, h3, h4, h5, h6⟩
    cases r0 with
    | cons i r0 => cases e
    | nil =>
    have h7 : (baseText "0x" 16 x).length ≤ sizeLine := by
      rw [line_eq]; exact Nat.le_trans (Nat.le_of_ble_eq_true (show Nat.ble (baseText "0x" 16 x).length 100 = true from h5)) (by decide)
    have len : (acc.map V.str).length ≤ 16777215 := str_len h6 (by decide)
    have fin := pf_ret (t := t) (x := x) hC (show Txt.join (mkS [44, 32]) (acc ++ [baseText "0x" 16 x]) = pfS y from h3) h4
    rcases hC with rfl | ⟨a, b, rfl⟩
    all_goals
      refine ⟨h7, ?_⟩
      refine ⟨len, ?_⟩
      rw [str_snoc]
      exact fin
end Mine

-- part WB2
open PySem PySem.Challenge
set_option Elab.async false
set_option maxRecDepth 100000
set_option linter.unusedVariables false
set_option linter.unusedSimpArgs false
namespace Mine
open Builtin Builtin.Str Builtin.Int

theorem sign_eq (c d : Nat) : ((⟨#[c]⟩ : Str) == ⟨#[d]⟩) = decide (c = d) := by
  by_cases h : c = d
  · subst h; simp
  · rw [decide_eq_false h]
    refine beq_false_of_ne fun q => h ?_
    have := congrArg (fun s : Str => s.cps.toList) q
    simpa using this

noncomputable def whileOf (l : List Stmt) (n : Nat) : Expr × List Stmt := match l[n]? with | some (.While t b _ _) => (t, b) | _ => (.Constant .none 0 default, [])

noncomputable abbrev scQ : Names := scopeOf pw_ty0004_02 4
noncomputable abbrev wB : List Stmt := (whileOf (bodyOf pw_ty0004_02 4) 5).2
noncomputable abbrev uqΓ (L d : List Nat) (i : Int) (C : Ctx) : Ctx := (nm "resp", Ent.val (.str (mkS L))) :: (nm "dirname", Ent.val (.str (mkS d))) :: (nm "i", Ent.val (.int i)) :: (nm "n", Ent.val (.int L.length)) :: C
noncomputable abbrev cC (c : Nat) : Ctx := [(nm "c", Ent.val (.str ⟨#[c]⟩))]
section
variable {t : Tok} {L d : List Nat} {K : Out → Prop}
theorem at_nat {i c : Nat} (h : L[i]? = some c) : (mkS L).cps[((i : Nat) : Int).toNat]? = some c := by
  show L.toArray[i]? = some c
  rw [List.getElem?_toArray]; exact h
theorem uq_get {i c : Nat} {C : Ctx} (hL : (mkS L).length ≤ 16777216) (h : L[i]? = some c) (hC : C = [] ∨ ∃ a, C = [(nm "c", Ent.val a)]) (k : K (.next (uqΓ L d (i : Nat) (cC c)))) : vs (P1 t) [] 32 scQ (nthS wB 0) (uqΓ L d (i : Nat) C) K := by
  rcases hC with rfl | ⟨a, rfl⟩
  · exact ⟨hL, c, Int.natCast_nonneg i, at_nat h, k⟩
  · exact ⟨hL, c, Int.natCast_nonneg i, at_nat h, k⟩
theorem uq_inc {i c : Nat} (k : K (.next (uqΓ L d ((i + 1 : Nat) : Int) (cC c)))) : vs (P1 t) [] 31 scQ (nthS wB 1) (uqΓ L d (i : Nat) (cC c)) K := k
theorem uq_put {i c : Nat} (hd : d.length + 1 ≤ 16777216) (k : K (.next (uqΓ L (d ++ [c]) i (cC c)))) : vs (P1 t) [] 29 scQ (nthS wB 3) (uqΓ L d i (cC c)) K := by
  refine ⟨by rw [mkS_len]; exact hd, ?_⟩
  rw [show mkS d ++ (⟨#[c]⟩ : Str) = mkS (d ++ [c]) from mkS_app d [c]]
  exact k
theorem uq_other {i c : Nat} (h : c ≠ 34) (k : K (.next (uqΓ L d i (cC c)))) : vs (P1 t) [] 30 scQ (nthS wB 2) (uqΓ L d i (cC c)) K := by
  refine ⟨fun hb => ?_, fun _ => k⟩
  exact absurd (of_decide_eq_true ((sign_eq c 34).symm.trans hb)) h
theorem uq_mark {i : Nat} (hL : (mkS L).length ≤ 16777216) (k1 : (∀ c2, L[i]? = some c2 → c2 ≠ 34) → K (.brk (uqΓ L d i (cC 34)))) (k2 : L[i]? = some 34 → K (.next (uqΓ L d ((i + 1 : Nat) : Int) (cC 34)))) :
    vs (P1 t) [] 30 scQ (nthS wB 2) (uqΓ L d i (cC 34)) K := by
  refine ⟨fun _ => ?_, fun hb => absurd hb (by decide +kernel)⟩
  refine ⟨fun hb => ?_, fun hb => ?_⟩
  · have hge : L.length ≤ i := Int.ofNat_le.mp (of_decide_eq_true hb)
    refine ⟨fun _ => ?_, fun q => Bool.noConfusion q⟩
    exact k1 fun c2 h => by rw [List.getElem?_eq_none hge] at h; cases h
  · have hlt : i < L.length := Nat.lt_of_not_le fun q => of_decide_eq_false hb (Int.ofNat_le.mpr q)
    have h := List.getElem?_eq_getElem hlt
    refine ⟨hL, L[i], Int.natCast_nonneg i, at_nat h, ?_⟩
    refine ⟨fun hb => ?_, fun hb => ?_⟩
    · refine ⟨fun _ => ?_, fun q => Bool.noConfusion q⟩
      refine k1 fun c2 h2 q => ?_
      rw [h] at h2
      cases h2
      rw [q] at hb
      exact absurd hb (by decide +kernel)
    · refine ⟨fun q => Bool.noConfusion q, fun _ => ?_⟩
      refine k2 (h.trans (congrArg some (Classical.byContradiction fun n34 => ?_)))
      have : ((⟨#[L[i]]⟩ : Str) != ⟨#[34]⟩) = true := by rw [bne, sign_eq, decide_eq_false n34]; rfl
      rw [show ((⟨#[L[i]]⟩ : Str) != ⟨#[34]⟩) = false from hb] at this
      cases this
end
theorem unq_end {c : Nat} {r : List Nat} (h : ∀ c2 r2, r = c2 :: r2 → c2 ≠ 34) : unq (34 :: r) = [] := by
  conv => lhs; unfold unq
  rw [if_pos rfl]
  split
  · exact absurd rfl (h _ _ rfl)
  · rfl
theorem unq_ne {c : Nat} {r : List Nat} (h : c ≠ 34) : unq (c :: r) = c :: unq r := by
  conv => lhs; unfold unq
  rw [if_neg h]
theorem drop_ge {l : List Nat} {s c : Nat} {r : List Nat} (h : l.drop s = c :: r) : l[s]? = some c := (drop_at h).2.1

noncomputable abbrev wV (t : Tok) (m : Nat) (Γ : Ctx) (K : Out → Prop) : Prop := vWhile (fun Γ K => vt (P1 t) 33 (scopeOf pw_ty0004_02 4) (whileOf (bodyOf pw_ty0004_02 4) 5).1 Γ K) (fun Γ K => vss (P1 t) [] 33 (scopeOf pw_ty0004_02 4) (whileOf (bodyOf pw_ty0004_02 4) 5).2 Γ K) m Γ K
theorem wh_step {t : Tok} {L d : List Nat} {C : Ctx} {m i : Nat} {K : Out → Prop} (hC : C = [] ∨ ∃ a, C = [(nm "c", Ent.val a)]) (h1 : i < L.length → vss (P1 t) [] 33 scQ wB (uqΓ L d i C) (fun out => match out with
      | .next Γ' => wV t m Γ' K
      | .cont Γ' => wV t m Γ' K
      | .brk Γ' => K (.next Γ')
      | .ret v => K (.ret v))) (h2 : L.length ≤ i → K (.next (uqΓ L d i C))) : wV t (m + 1) (uqΓ L d i C) K := by
  have tst : ∀ Q : Bool → Prop, Q (decide (((i : Nat) : Int) < ((L.length : Nat) : Int))) → vt (P1 t) 33 (scopeOf pw_ty0004_02 4) (whileOf (bodyOf pw_ty0004_02 4) 5).1 (uqΓ L d i C) Q := fun Q q => by
    rcases hC with rfl | ⟨a, rfl⟩ <;> exact q
  unfold wV vWhile
  refine tst _ ⟨fun hb => ?_, fun hb => ?_⟩
  · exact h1 (Int.ofNat_lt.mp (of_decide_eq_true hb))
  · exact h2 (Nat.le_of_not_lt fun q => of_decide_eq_false hb (Int.ofNat_lt.mpr q))
theorem vc_unq (t : Tok) (L : List Nat) (hL : L.length ≤ 1000000) (K : Out → Prop) : ∀ (m i : Nat) (d : List Nat) (C : Ctx), L.length ≤ i + m → (C = [] ∨ ∃ a, C = [(nm "c", Ent.val a)]) → d.length ≤ i →
    (∀ C', K (.next ((nm "resp", Ent.val (.str (mkS L))) :: (nm "dirname", Ent.val (.str (mkS (d ++ unq (L.drop i))))) :: C'))) → wV t (m + 1) (uqΓ L d i C) K
  | 0, i, d, C, hm, hC, hd, k => by
    refine wh_step hC (fun q => absurd q (Nat.not_lt.mpr hm)) fun hge => ?_
    rw [List.drop_eq_nil_of_le hge, show unq [] = [] from rfl, List.append_nil] at k
    exact k _
  | m + 1, i, d, C, hm, hC, hd, k => by
    refine wh_step hC (fun hlt => ?_) fun hge => ?_
    · have hLs : (mkS L).length ≤ 16777216 := by rw [mkS_len]; exact Nat.le_trans hL (by decide)
      have hc := List.getElem?_eq_getElem hlt
      rw [List.drop_eq_getElem_cons hlt] at k
      have hd1 : d.length + 1 ≤ i + 1 := Nat.succ_le_succ hd
      have hd2 : d.length + 1 ≤ 16777216 := Nat.le_trans hd1 (Nat.le_trans hlt (Nat.le_trans hL (by decide)))
      have hm1 : L.length ≤ i + 1 + m := by rw [Nat.add_right_comm]; exact hm
      clear hm hd
      refine vss_cons (uq_get hLs hc hC ?_)
      refine vss_cons (uq_inc ?_)
      clear hC
      generalize L[i] = c at k hc
      by_cases c34 : c = 34
      · subst c34
        refine vss_cons (uq_mark hLs (fun hno => ?_) fun h2 => ?_)
        · rw [unq_end (c := 0) fun c2 r2 e => hno c2 (drop_ge e), List.append_nil] at k
          exact k _
        · have hlt2 := List.getElem?_eq_some_iff.mp h2
          refine vss_cons (uq_put hd2 ?_)
          refine vc_unq t L hL K m (i + 1 + 1) (d ++ [34]) _ (Nat.le_trans hm1 (Nat.add_le_add_right (Nat.le_succ _) _)) (.inr ⟨_, rfl⟩) (by rw [List.length_append]; exact Nat.le_succ_of_le hd1) fun C' => ?_
          have k' := k C'
          rw [List.drop_eq_getElem_cons hlt2.1, hlt2.2, unq_two] at k'
          rw [List.append_assoc]
          exact k'
      · refine vss_cons (uq_other c34 ?_)
        refine vss_cons (uq_put hd2 ?_)
        refine vc_unq t L hL K m (i + 1) (d ++ [c]) _ hm1 (.inr ⟨_, rfl⟩) (by rw [List.length_append]; exact hd1) fun C' => ?_
        have k' := k C'
        rw [unq_ne c34] at k'
        rw [List.append_assoc]
        exact k'
    · rw [List.drop_eq_nil_of_le hge, show unq [] = [] from rfl, List.append_nil] at k
      exact k _

theorem vc_parse (t : Tok) (l : List Nat) (hl : l.length ≤ 900000) : vss (P1 t) [] 40 (scopeOf pw_ty0004_02 4) (bodyOf pw_ty0004_02 4) [(nm "resp", .val (.str (mkS (50 :: 53 :: 55 :: 32 :: 34 :: l))))] (fun out => out = .ret (.str (mkS (unq l)))) := by
  have hlen : (mkS (50 :: 53 :: 55 :: 32 :: 34 :: l)).length ≤ 16777216 := by rw [mkS_len]; simp; omega
  have s1 : Txt.slice (mkS (50 :: 53 :: 55 :: 32 :: 34 :: l)) none (some 3) = mkS [50, 53, 55] := slice_head (50 :: 53 :: 55 :: 32 :: 34 :: l) (b := 3) (by simp)
  have s2 : Txt.slice (mkS (50 :: 53 :: 55 :: 32 :: 34 :: l)) (some 3) (some 5) = mkS [32, 34] := slice_list (50 :: 53 :: 55 :: 32 :: 34 :: l) (a := 3) (b := 5) (by decide) (by simp)
  repeat (first | refine ⟨rfl, ?_⟩ | refine ⟨⟨rfl, rfl⟩, ?_⟩ | refine ⟨⟨rfl, rfl, rfl⟩, ?_⟩ | refine ⟨⟨rfl, rfl, rfl, rfl⟩, ?_⟩ | refine ⟨⟨rfl, rfl, rfl, rfl, rfl⟩, ?_⟩ | refine ⟨⟨⟨rfl, rfl, rfl⟩, rfl, rfl, rfl⟩, ?_⟩)
  refine ⟨⟨hlen, rfl⟩, ?_⟩
  rw [s1]
  repeat (first | refine ⟨rfl, ?_⟩ | refine ⟨⟨rfl, rfl⟩, ?_⟩ | refine ⟨⟨rfl, rfl, rfl⟩, ?_⟩ | refine ⟨⟨rfl, rfl, rfl, rfl⟩, ?_⟩ | refine ⟨⟨rfl, rfl, rfl, rfl, rfl⟩, ?_⟩ | refine ⟨⟨⟨rfl, rfl, rfl⟩, rfl, rfl, rfl⟩, ?_⟩)
  refine ⟨fun hb => absurd hb (by decide +kernel), fun _ => ?_⟩
  repeat (first | refine ⟨rfl, ?_⟩ | refine ⟨⟨rfl, rfl⟩, ?_⟩ | refine ⟨⟨rfl, rfl, rfl⟩, ?_⟩ | refine ⟨⟨rfl, rfl, rfl, rfl⟩, ?_⟩ | refine ⟨⟨rfl, rfl, rfl, rfl, rfl⟩, ?_⟩ | refine ⟨⟨⟨rfl, rfl, rfl⟩, rfl, rfl, rfl⟩, ?_⟩)
  refine ⟨⟨hlen, rfl⟩, ?_⟩
  rw [s2]
  repeat (first | refine ⟨rfl, ?_⟩ | refine ⟨⟨rfl, rfl⟩, ?_⟩ | refine ⟨⟨rfl, rfl, rfl⟩, ?_⟩ | refine ⟨⟨rfl, rfl, rfl, rfl⟩, ?_⟩ | refine ⟨⟨rfl, rfl, rfl, rfl, rfl⟩, ?_⟩ | refine ⟨⟨⟨rfl, rfl, rfl⟩, rfl, rfl, rfl⟩, ?_⟩)
  refine ⟨fun hb => absurd hb (by decide +kernel), fun _ => ?_⟩
  repeat (first | refine ⟨rfl, ?_⟩ | refine ⟨⟨rfl, rfl⟩, ?_⟩ | refine ⟨⟨rfl, rfl, rfl⟩, ?_⟩ | refine ⟨⟨rfl, rfl, rfl, rfl⟩, ?_⟩ | refine ⟨⟨rfl, rfl, rfl, rfl, rfl⟩, ?_⟩ | refine ⟨⟨⟨rfl, rfl, rfl⟩, rfl, rfl, rfl⟩, ?_⟩)
  refine ⟨hlen, ?_⟩
  rw [show ((mkS (50 :: 53 :: 55 :: 32 :: 34 :: l)).length : Int) = ((50 :: 53 :: 55 :: 32 :: 34 :: l).length : Nat) from by rw [mkS_len]]
  refine ⟨_, vc_unq t (50 :: 53 :: 55 :: 32 :: 34 :: l) (by simp; omega) _ (50 :: 53 :: 55 :: 32 :: 34 :: l).length 5 [] [] (Nat.le_add_left _ _) (.inl rfl) (Nat.zero_le _) fun C' => ?_⟩
  repeat (first | refine ⟨rfl, ?_⟩ | refine ⟨⟨rfl, rfl⟩, ?_⟩ | refine ⟨⟨rfl, rfl, rfl⟩, ?_⟩ | refine ⟨⟨rfl, rfl, rfl, rfl⟩, ?_⟩ | refine ⟨⟨rfl, rfl, rfl, rfl, rfl⟩, ?_⟩ | refine ⟨⟨⟨rfl, rfl, rfl⟩, rfl, rfl, rfl⟩, ?_⟩)
  rfl
end Mine

-- part WC2
open PySem PySem.Challenge
set_option Elab.async false
set_option maxRecDepth 100000
set_option linter.unusedVariables false
set_option linter.unusedSimpArgs false
namespace Mine
open Builtin Builtin.Str Builtin.Int

noncomputable def intsV (l : List Nat) : List V := l.map fun n => V.int (n : Nat)
theorem fmod_nat (c m : Nat) : (c : Int).fmod m = ((c % m : Nat) : Int) := by
  rw [Int.fmod_eq_emod_of_nonneg _ (by omega)]; rfl
theorem fdiv_nat (c m : Nat) : (c : Int).fdiv m = ((c / m : Nat) : Int) := by
  rw [Int.fdiv_eq_ediv_of_nonneg _ (by omega)]; rfl
theorem pylong_nat (c m : Nat) (h : m < 8000) : divisionGoesByPylong (c : Int) (m : Int) = false := by
  unfold divisionGoesByPylong
  have : ¬ ((if ((m : Int) == 0) = true then 0 else (m : Int).natAbs.log2 / 30 + 1) > 300) := by
    split
    · omega
    · have : (m : Int).natAbs.log2 ≤ m := by
        rw [Int.natAbs_natCast]
        exact Nat.log2_le_self m
      omega
  simp only [decide_eq_false this, Bool.false_and]

noncomputable def pickW : Nat → List Nat → Nat → List Nat → List Nat
  | 0, L, c, G => G
  | s + 1, L, c, G => pickW s (L.eraseIdx (c % (s + 1))) (c / (s + 1)) (G ++ [L.getD (c % (s + 1)) 0])
theorem get_ints (L : List Nat) (n : Nat) (h : n < L.length) : (intsV L)[((n : Nat) : Int).toNat]? = some (.int (L.getD n 0 : Nat)) := by
  show (intsV L)[n]? = _
  simp [intsV, h]
theorem erase_ints (L : List Nat) (n : Nat) : (intsV L).eraseIdx ((n : Nat) : Int).toNat = intsV (L.eraseIdx n) := by
  show (intsV L).eraseIdx n = _
  induction L generalizing n with
  | nil => rfl
  | cons a r ih =>
    cases n with
    | zero => rfl
    | succ n => exact congrArg (V.int (a : Nat) :: ·) (ih n)
theorem snoc_ints (L : List Nat) (n : Nat) : intsV L ++ [V.int (n : Nat)] = intsV (L ++ [n]) := by simp [intsV]
noncomputable def downF : Nat → List Nat
  | 0 => []
  | n + 1 => (n + 1) :: downF n

theorem idx_at (g : List Nat) (z y : Nat) (h : g[z]? = some y) : idx (intsV g) (z : Nat) = some (.int (y : Nat)) := by
  show (intsV g)[z]? = _
  simp [intsV, h]

inductive Tl : List Str → Ctx → Prop
  | nil (ns : List Str) : Tl ns []
  | cons (n : Str) (ns : List Str) (a : Ent) (E : Ctx) : Tl ns E → Tl (n :: ns) ((n, a) :: E)
theorem okEnd_len {e : List Nat} (h : okEnd e) : e.length ≤ 2 := by rcases h with rfl | rfl | rfl <;> decide
theorem app3 (a b c : List Nat) : mkS a ++ (mkS b ++ mkS c) = mkS (a ++ (b ++ c)) := by rw [mkS_app, mkS_app]
theorem app2_len {b c : List Nat} {n : Nat} (h : b.length + c.length ≤ n) (hn : n ≤ 16777216) : (mkS b).length + (mkS c).length ≤ 16777216 := by rw [mkS_len, mkS_len]; omega
theorem app3_len {a b c : List Nat} {n : Nat} (h : a.length + (b.length + c.length) ≤ n) (hn : n ≤ 16777216) : (mkS a).length + (mkS b ++ mkS c).length ≤ 16777216 := by rw [mkS_app, mkS_len, mkS_len]; simp; omega
theorem ints_len (l : List Nat) : (intsV l).length = l.length := by simp [intsV]
theorem idx_get {L : List Nat} {n : Nat} (h : n < L.length) : idx (intsV L) (n : Nat) = some (.int (L.getD n 0 : Nat)) := idx_at L n _ (by rw [List.getElem?_eq_getElem h]; simp [List.getD, List.getElem?_eq_getElem h])
theorem rng_nat {a n : Nat} {hi : Int} (h : (hi - (a : Int)).toNat = n) : ((List.range (hi - (a : Int)).toNat).map fun k : Nat => V.int ((a : Int) + (k : Nat))) = (List.range' a n).map fun j : Nat => V.int (j : Nat) := by
  rw [h, List.range'_eq_map_range, List.map_map]; rfl
noncomputable def forTgt (s : Stmt) : Expr := match s with | .For t _ _ _ _ => t | _ => default

noncomputable def tailL (w : Nat) : List Nat := [64 + w / 64, 64 + w % 64]
theorem chr_ok {a n : Nat} (h : n ≤ 1000) : 0 ≤ (64 : Int) + (n : Nat) ∧ (64 : Int) + (n : Nat) ≤ 0x10FFFF := by omega
theorem vc_tail (t : Tok) (w : Nat) (hw : w ≤ 4000) : vss (P1 t) [] 40 (scopeOf pw_ty0004_02 16) (bodyOf pw_ty0004_02 16) [(nm "weight", .val (.int w))] (fun out => out = .ret (.str (mkS (tailL w)))) := by
  have m1 : (w : Int).fmod 64 = ((w % 64 : Nat) : Int) := fmod_nat w 64
  have d1 : (w : Int).fdiv 64 = ((w / 64 : Nat) : Int) := fdiv_nat w 64
  have c1 : 0 ≤ (64 : Int) + (w : Int).fdiv 64 ∧ (64 : Int) + (w : Int).fdiv 64 ≤ 0x10FFFF := by
    rw [d1]; exact chr_ok (a := 0) (Nat.le_trans (Nat.div_le_self w 64 |> fun _ => Nat.div_le_div_right hw) (by decide))
  have c2 : 0 ≤ (64 : Int) + (w : Int).fmod 64 ∧ (64 : Int) + (w : Int).fmod 64 ≤ 0x10FFFF := by
    rw [m1]; exact chr_ok (a := 0) (Nat.le_trans (Nat.le_of_lt (Nat.mod_lt w (by decide))) (by decide))
  have e : (⟨#[((64 : Int) + (w : Int).fdiv 64).toNat]⟩ ++ ⟨#[((64 : Int) + (w : Int).fmod 64).toNat]⟩ : Str) = mkS (tailL w) := by
    rw [m1, d1]; exact mkS_app [64 + w / 64] [64 + w % 64]
  refine ⟨⟨by decide, pylong_nat w 64 (by decide)⟩, ?_⟩
  refine ⟨c1, ?_⟩
  refine ⟨by decide, ?_⟩
  refine ⟨c2, ?_⟩
  refine ⟨Nat.le_of_ble_eq_true rfl, ?_⟩
  exact congrArg (fun s => Out.ret (V.str s)) e

noncomputable def wordS (j : Nat) : Str := nameOf (1 * 2 ^ j)
noncomputable def pow8 : List Nat := [1, 2, 4, 8, 16, 32, 64, 128]
noncomputable def pow8I : List Int := [1, 2, 4, 8, 16, 32, 64, 128]
noncomputable def words8 : List Str := [Str.ofString "OPTIMIZED", Str.ofString "NEWLOCALS", Str.ofString "VARARGS", Str.ofString "VARKEYWORDS", Str.ofString "NESTED", Str.ofString "GENERATOR", Str.ofString "NOFREE", Str.ofString "COROUTINE"]
theorem w_all : ∀ j : Fin 8, ((2 ^ (j : Nat) : Nat) : Int) ∈ pow8I ∧ pow8I.idxOf ((2 ^ (j : Nat) : Nat) : Int) = j ∧ words8[(j : Nat)]? = some (wordS j) := by decide +kernel
theorem vc_word (t : Tok) (j : Nat) (hj : j < 8) : vss (P1 t) [] 40 (scopeOf pw_ty0004_02 15) (bodyOf pw_ty0004_02 15) [(nm "weight", .val (.int (2 ^ j : Nat)))] (fun out => out = .ret (.str (wordS j))) := by
  obtain ⟨a, b, c⟩ := w_all ⟨j, hj⟩
  have ix : idx (words8.map V.str) ((pow8I.idxOf ((2 ^ j : Nat) : Int) : Nat) : Int) = some (.str (wordS j)) := by
    rw [b]
    show (words8.map V.str)[j]? = _
    rw [List.getElem?_map, c]; rfl
  refine ⟨pow8I, rfl, by decide, a, ?_⟩
  refine ⟨by decide, _, ix, ?_⟩
  rfl

noncomputable abbrev ow6 : List Str := [nm "left", nm "weights"]
noncomputable abbrev scO : Names := scopeOf pw_ty0004_02 21
noncomputable abbrev oS (j : Nat) : Stmt := nthS (bodyOf pw_ty0004_02 21) j
noncomputable abbrev oΓ (c : Nat) (L G : List Nat) (C : Ctx) : Ctx := (nm "code", Ent.val (.int (c : Nat))) :: (nm "left", Ent.own (intsV L)) :: (nm "weights", Ent.own (intsV G)) :: C
section
variable {t : Tok} {K : Out → Prop} {c s : Nat} {L G : List Nat}
theorem o_turn (hL : L.length = s + 1) (hG : G.length + (s + 1) ≤ 100) (q : K (.next (oΓ (c / (s + 1)) (L.eraseIdx (c % (s + 1))) (G ++ [L.getD (c % (s + 1)) 0]) [(nm "size", .val (.int (s + 1 : Nat)))]))) :
    vss (P1 t) ow6 36 scO (inB (oS 2)) (oΓ c L G [(nm "size", .val (.int (s + 1 : Nat)))]) K := by
  have m1 : (c : Int).fmod ((s + 1 : Nat) : Int) = ((c % (s + 1) : Nat) : Int) := fmod_nat c (s + 1)
  have s1 : s + 1 ≤ 100 := Nat.le_trans (Nat.le_add_left _ _) hG
  have p1 : divisionGoesByPylong (c : Int) ((s + 1 : Nat) : Int) = false := pylong_nat c (s + 1) (Nat.lt_of_le_of_lt s1 (by decide))
  have hm : c % (s + 1) < L.length := by rw [hL]; exact Nat.mod_lt _ (Nat.succ_pos s)
  have n0 : ((s + 1 : Nat) : Int) ≠ 0 := Int.ne_of_gt (Int.ofNat_lt.mpr (Nat.succ_pos s))
  have ix : (intsV L)[((c : Int).fmod ((s + 1 : Nat) : Int)).toNat]? = some (.int (L.getD (c % (s + 1)) 0 : Nat)) := by rw [m1]; exact get_ints L _ hm
  have b0 : 0 ≤ (c : Int).fmod ((s + 1 : Nat) : Int) ∧ (c : Int).fmod ((s + 1 : Nat) : Int) < (intsV L).length ∧ (intsV L).length ≤ 16777216 ∧ (intsV G).length ≤ 16777215 := by
    rw [m1, ints_len, ints_len, hL]
    exact ⟨Int.natCast_nonneg _, Int.ofNat_lt.mpr (Nat.mod_lt _ (Nat.succ_pos s)), Nat.le_trans s1 (by decide), Nat.le_trans (Nat.le_trans (Nat.le_add_right _ _) hG) (by decide)⟩
  unfold oΓ at q
  rw [← snoc_ints, ← erase_ints, ← m1, show ((c / (s + 1) : Nat) : Int) = (c : Int).fdiv ((s + 1 : Nat) : Int) from (fdiv_nat c (s + 1)).symm] at q
  refine ⟨n0, ?_⟩
  refine ⟨b0, _, ix, ?_⟩
  refine ⟨⟨n0, p1⟩, ?_⟩
  exact q
theorem o_loop : ∀ (s : Nat) (L G : List Nat) (c : Nat) (C : Ctx), L.length = s → G.length + s ≤ 100 → (C = [] ∨ ∃ a, C = [(nm "size", Ent.val a)]) →
    (∀ c' L' C', (C' = [] ∨ ∃ a, C' = [(nm "size", Ent.val a)]) → K (.next (oΓ c' L' (pickW s L c G) C'))) →
    vFor (fun Γ K => vss (P1 t) ow6 36 scO (inB (oS 2)) Γ K) (fun Γ K => vss (P1 t) ow6 36 scO [] Γ K) (forTgt (oS 2)) (intsV (downF s)) (oΓ c L G C) K
  | 0, L, G, c, C, hL, hG, hC, q => q c L C hC
  | s + 1, L, G, c, C, hL, hG, hC, q => by
    have hm : c % (s + 1) < L.length := by rw [hL]; exact Nat.mod_lt _ (Nat.succ_pos s)
    have nx := o_loop s (L.eraseIdx (c % (s + 1))) (G ++ [L.getD (c % (s + 1)) 0]) (c / (s + 1)) [(nm "size", .val (.int (s + 1 : Nat)))] (by rw [List.length_eraseIdx_of_lt hm, hL]; rfl)
      (by rw [List.length_append, Nat.add_assoc, Nat.add_comm [L.getD (c % (s + 1)) 0].length]; exact hG) (.inr ⟨_, rfl⟩) q
    refine vFor_step _ rfl ?_
    rcases hC with rfl | ⟨a, rfl⟩
    · exact o_turn hL hG (forK_next nx)
    · exact o_turn hL hG (forK_next nx)
theorem o_0 (q : K (.next [(nm "code", .val (.int (c : Nat))), (nm "left", .own (intsV pow8))])) : vs (P1 t) ow6 39 scO (oS 0) [(nm "code", .val (.int (c : Nat)))] K := q
theorem o_1 (q : K (.next (oΓ c pow8 [] []))) : vs (P1 t) ow6 38 scO (oS 1) [(nm "code", .val (.int (c : Nat))), (nm "left", .own (intsV pow8))] K := q
theorem o_3 {C : Ctx} (hC : C = [] ∨ ∃ a, C = [(nm "size", Ent.val a)]) (q : K (.ret (.list (intsV G)))) : vs (P1 t) ow6 36 scO (oS 3) (oΓ c L G C) K := by
  rcases hC with rfl | ⟨a, rfl⟩
  · exact q
  · exact q
theorem o_for (q : ∀ c' L' C', (C' = [] ∨ ∃ a, C' = [(nm "size", Ent.val a)]) → K (.next (oΓ c' L' (pickW 8 pow8 c []) C'))) : vs (P1 t) ow6 37 scO (oS 2) (oΓ c pow8 [] []) K :=
  ⟨by decide, o_loop 8 pow8 [] c [] rfl (by decide) (.inl rfl) q⟩
end
theorem vc_order (t : Tok) (c : Nat) : vss (P1 t) [nm "left", nm "weights"] 40 (scopeOf pw_ty0004_02 21) (bodyOf pw_ty0004_02 21) [(nm "code", .val (.int c))] (fun out => out = .ret (.list (intsV (pickW 8 pow8 c [])))) := by
  show vss (P1 t) ow6 40 scO [oS 0, oS 1, oS 2, oS 3] _ _
  refine vss_cons (o_0 ?_)
  refine vss_cons (o_1 ?_)
  refine vss_cons (o_for fun c' L' C' hC => ?_)
  refine vss_cons (o_3 hC ?_)
  exact Eq.refl (Out.ret (V.list (intsV (pickW 8 pow8 c []))))
end Mine

-- part WD2
open PySem PySem.Challenge
set_option Elab.async false
set_option maxRecDepth 100000
set_option linter.unusedVariables false
set_option linter.unusedSimpArgs false
namespace Mine
open Builtin Builtin.Str Builtin.Int

noncomputable def P3 (t : Tok) : Par := { P1 t with fn := fun a Vs r => a = 109 ∧ ∃ w : Nat, w ≤ 4000 ∧ Vs = [.int w] ∧ r = .str (mkS (tailL w)) }
noncomputable def endS (e k : Nat) : List Nat := ([[13, 10], [10], [13]] : List (List Nat)).getD (e / 3 ^ k % 3) []
noncomputable def rowW (w d : Nat) : List Nat := List.replicate d 46 ++ tailL w
theorem rowW_len (w d : Nat) : (rowW w d).length = d + 2 := by simp [rowW, tailL]
noncomputable def mailF (W ds : List Nat) (e n : Nat) : List Nat := ((List.range n).map fun k => rowW (W.getD k 0) (ds.getD k 0) ++ endS e k).flatten
theorem mailF_succ (W ds : List Nat) (e n : Nat) : mailF W ds e (n + 1) = mailF W ds e n ++ (rowW (W.getD n 0) (ds.getD n 0) ++ endS e n) := by
  unfold mailF
  rw [List.range_succ, List.map_append, List.flatten_append]
  simp
theorem lt3 : ∀ {r : Nat}, r < 3 → r = 0 ∨ r = 1 ∨ r = 2
  | 0, _ => .inl rfl
  | 1, _ => .inr (.inl rfl)
  | 2, _ => .inr (.inr rfl)
theorem mod3 (x : Nat) : x % 3 = 0 ∨ x % 3 = 1 ∨ x % 3 = 2 := lt3 (Nat.mod_lt x (by decide))
theorem endS_ok (e k : Nat) : okEnd (endS e k) := by
  unfold endS
  rcases mod3 (e / 3 ^ k) with h | h | h <;> rw [h]
  · exact .inr (.inr rfl)
  · exact .inl rfl
  · exact .inr (.inl rfl)
theorem endS_idx (e k : Nat) : idx [V.str (Str.ofString "\r\n"), V.str (Str.ofString "\n"), V.str (Str.ofString "\r")] ((e / 3 ^ k % 3 : Nat) : Int) = some (V.str (mkS (endS e k))) := by
  unfold endS
  rcases mod3 (e / 3 ^ k) with h | h | h <;> rw [h] <;> rfl
theorem row_len {d e n l : Nat} (h1 : l ≤ n * 104) (h2 : d ≤ 100) (h3 : e ≤ 2) : l + (d + 2 + e) ≤ (n + 1) * 104 := by
  rw [Nat.succ_mul]; exact Nat.add_le_add h1 (Nat.add_le_add (Nat.add_le_add_right h2 2) h3)
theorem mailF_len {W ds : List Nat} {e : Nat} : ∀ {n : Nat}, (∀ k, ds.getD k 0 ≤ 100) → (mailF W ds e n).length ≤ n * 104
  | 0, _ => Nat.zero_le _
  | n + 1, h => by
    rw [mailF_succ, List.length_append, List.length_append, rowW_len]
    exact row_len (mailF_len h) (h n) (okEnd_len (endS_ok e n))

noncomputable abbrev scM : Names := scopeOf pw_ty0004_02 17
noncomputable abbrev mS (j : Nat) : Stmt := nthS (bodyOf pw_ty0004_02 17) j
noncomputable abbrev mΓ (W ds : List Nat) (e : Nat) (m : List Nat) (C : Ctx) : Ctx := (nm "weights", Ent.val (.list (intsV W))) :: (nm "dots", Ent.val (.list (intsV ds))) :: (nm "ends", Ent.val (.int e)) :: (nm "mail", Ent.val (.str (mkS m))) :: C
section
variable {t : Tok} {K : Out → Prop} {W ds : List Nat} {e k : Nat}
theorem m_turn (hk : k < W.length) (hl : ds.length = W.length) (hn : W.length ≤ 8) (hw : ∀ k, W.getD k 0 ≤ 4000) (hd : ∀ k, ds.getD k 0 ≤ 100)
    (q : K (.next (mΓ W ds e (mailF W ds e (k + 1)) [(nm "k", .val (.int (k : Nat)))]))) : vss (P3 t) [] 37 scM (inB (mS 1)) (mΓ W ds e (mailF W ds e k) [(nm "k", .val (.int (k : Nat)))]) K := by
  have k7 : k ≤ 7 := Nat.le_of_lt_succ (Nat.lt_of_lt_of_le hk hn)
  have hk2 : k < ds.length := by rw [hl]; exact hk
  have lW : (intsV W).length ≤ 16777216 := by rw [ints_len]; exact Nat.le_trans hn (by decide)
  have lD : (intsV ds).length ≤ 16777216 := by rw [ints_len, hl]; exact Nat.le_trans hn (by decide)
  have d1 := hd k
  have mm : Txt.mul (Str.ofString ".") ((ds.getD k 0 : Nat) : Int) = mkS (List.replicate (ds.getD k 0) 46) := mul_dots 46 _
  have le := okEnd_len (endS_ok e k)
  have ml := mailF_len (W := W) (e := e) (n := k) hd
  have b1 : 0 ≤ ((ds.getD k 0 : Nat) : Int) ∧ (Str.ofString ".").length ≤ 1000 ∧ ((ds.getD k 0 : Nat) : Int) ≤ 1000 := ⟨Int.natCast_nonneg _, by decide, Int.ofNat_le.mpr (Nat.le_trans d1 (by decide))⟩
  have pw : (3 : Int) ^ ((k : Nat) : Int).toNat = ((3 ^ k : Nat) : Int) := by
    show (3 : Int) ^ k = _
    rw [Int.natCast_pow]; rfl
  have p3 : 3 ^ k ≤ 2187 := Nat.pow_le_pow_right (by decide) k7
  have b2 : (1 : Nat) < (3 : Int).natAbs ∧ (3 : Int).natAbs < 1000 ∧ 0 ≤ ((k : Nat) : Int) ∧ ((k : Nat) : Int) < 1000 := ⟨by decide, by decide, Int.natCast_nonneg _, Int.ofNat_lt.mpr (Nat.lt_of_le_of_lt k7 (by decide))⟩
  have b3 : (3 : Int) ^ ((k : Nat) : Int).toNat ≠ 0 ∧ divisionGoesByPylong (e : Int) ((3 : Int) ^ ((k : Nat) : Int).toNat) = false := by
    rw [pw]; exact ⟨Int.ne_of_gt (Int.ofNat_lt.mpr (Nat.pow_pos (by decide))), pylong_nat e (3 ^ k) (Nat.lt_of_le_of_lt p3 (by decide))⟩
  have ix : idx [V.str (Str.ofString "\r\n"), V.str (Str.ofString "\n"), V.str (Str.ofString "\r")] (((e : Int).fdiv ((3 : Int) ^ ((k : Nat) : Int).toNat)).fmod 3) = some (V.str (mkS (endS e k))) := by
    rw [pw, fdiv_nat, show ((e / 3 ^ k : Nat) : Int).fmod 3 = ((e / 3 ^ k % 3 : Nat) : Int) from fmod_nat _ 3]; exact endS_idx e k
  have ap : Txt.mul (Str.ofString ".") ((ds.getD k 0 : Nat) : Int) ++ mkS (tailL (W.getD k 0)) = mkS (rowW (W.getD k 0) (ds.getD k 0)) := by rw [mm]; exact mkS_app _ _
  have s1 : (Txt.mul (Str.ofString ".") ((ds.getD k 0 : Nat) : Int)).length + (mkS (tailL (W.getD k 0))).length ≤ 16777216 := by
    rw [mm, mkS_len, mkS_len, List.length_replicate]; exact Nat.le_trans (Nat.add_le_add_right d1 2) (by decide)
  have s2 : (Txt.mul (Str.ofString ".") ((ds.getD k 0 : Nat) : Int) ++ mkS (tailL (W.getD k 0))).length + (mkS (endS e k)).length ≤ 16777216 := by
    rw [ap, mkS_len, mkS_len, rowW_len]; exact Nat.le_trans (Nat.add_le_add (Nat.add_le_add_right d1 2) le) (by decide)
  have s3 : (mkS (mailF W ds e k)).length + (Txt.mul (Str.ofString ".") ((ds.getD k 0 : Nat) : Int) ++ mkS (tailL (W.getD k 0)) ++ mkS (endS e k)).length ≤ 16777216 := by
    rw [ap, mkS_app, mkS_len, mkS_len, List.length_append, rowW_len]
    exact Nat.le_trans (row_len ml d1 le) (Nat.le_trans (Nat.mul_le_mul_right 104 (Nat.succ_le_succ k7)) (by decide))
  unfold mΓ at q
  rw [mailF_succ, ← app3, ← ap] at q
  clear ap mm pw ml le p3 d1
  refine ⟨lD, _, idx_get hk2, ?_⟩
  refine ⟨b1, ?_⟩
  refine ⟨lW, _, idx_get hk, ?_⟩
  refine ⟨_, ⟨rfl, _, hw k, rfl, rfl⟩, ?_⟩
  refine ⟨s1, ?_⟩
  refine ⟨b2, ?_⟩
  refine ⟨b3, ?_⟩
  refine ⟨by decide, ?_⟩
  refine ⟨by decide, _, ix, ?_⟩
  refine ⟨s2, ?_⟩
  refine ⟨s3, ?_⟩
  exact q
theorem m_loop (hl : ds.length = W.length) (hn : W.length ≤ 8) (hw : ∀ k, W.getD k 0 ≤ 4000) (hd : ∀ k, ds.getD k 0 ≤ 100) : ∀ (m k : Nat) (C : Ctx), k + m = W.length → (C = [] ∨ ∃ a, C = [(nm "k", Ent.val a)]) →
    (∀ C', (C' = [] ∨ ∃ a, C' = [(nm "k", Ent.val a)]) → K (.next (mΓ W ds e (mailF W ds e W.length) C'))) →
    vFor (fun Γ K => vss (P3 t) [] 37 scM (inB (mS 1)) Γ K) (fun Γ K => vss (P3 t) [] 37 scM [] Γ K) (forTgt (mS 1)) ((List.range' k m).map fun j : Nat => V.int (j : Nat)) (mΓ W ds e (mailF W ds e k) C) K
  | 0, k, C, hk, hC, q => by
    rw [← hk] at q
    exact q C hC
  | m + 1, k, C, hk, hC, q => by
    have k1 : k < W.length := by rw [← hk]; exact Nat.lt_add_of_pos_right (Nat.succ_pos m)
    have nx := m_loop hl hn hw hd m (k + 1) [(nm "k", .val (.int (k : Nat)))] (by rw [Nat.add_assoc, Nat.add_comm 1]; exact hk) (.inr ⟨_, rfl⟩) q
    rw [List.range'_succ, List.map_cons]
    refine vFor_step _ rfl ?_
    rcases hC with rfl | ⟨a, rfl⟩
    · exact m_turn k1 hl hn hw hd (forK_next nx)
    · exact m_turn k1 hl hn hw hd (forK_next nx)
theorem m_for (hl : ds.length = W.length) (hn : W.length ≤ 8) (hw : ∀ k, W.getD k 0 ≤ 4000) (hd : ∀ k, ds.getD k 0 ≤ 100) (q : ∀ C', (C' = [] ∨ ∃ a, C' = [(nm "k", Ent.val a)]) → K (.next (mΓ W ds e (mailF W ds e W.length) C'))) :
    vs (P3 t) [] 38 scM (mS 1) (mΓ W ds e [] []) K := by
  have lp := m_loop (t := t) (e := e) (K := K) hl hn hw hd W.length 0 [] (Nat.zero_add _) (.inl rfl) q
  rw [← rng_nat (a := 0) (hi := ((intsV W).length : Nat)) (n := W.length) (by rw [ints_len]; exact Int.toNat_sub W.length 0)] at lp
  have b : ((intsV W).length : Int) ≤ 16777216 := by rw [ints_len]; exact Int.ofNat_le.mpr (Nat.le_trans hn (by decide))
  have b0 : -(2 ^ 62 : Int) ≤ ((intsV W).length : Int) := Int.le_trans (by decide) (Int.natCast_nonneg _)
  refine ⟨Int.ofNat_le.mp b, ?_⟩
  refine ⟨⟨b0, Int.lt_of_le_of_lt b (by decide)⟩, ?_⟩
  refine ⟨⟨by decide, by decide, by rw [Int.sub_zero]; exact b, Int.lt_of_le_of_lt b (by decide), b0⟩, ?_⟩
  exact lp
theorem m_ret {C : Ctx} (hC : C = [] ∨ ∃ a, C = [(nm "k", Ent.val a)]) {m : List Nat} (q : K (.ret (.str (mkS m)))) : vs (P3 t) [] 37 scM (mS 2) (mΓ W ds e m C) K := by
  rcases hC with rfl | ⟨a, rfl⟩
  · exact q
  · exact q
theorem m_0 (q : K (.next (mΓ W ds e [] []))) : vs (P3 t) [] 39 scM (mS 0) [(nm "weights", .val (.list (intsV W))), (nm "dots", .val (.list (intsV ds))), (nm "ends", .val (.int e))] K := q
end
theorem vc_mail (t : Tok) (W ds : List Nat) (e : Nat) (hl : ds.length = W.length) (hn : W.length ≤ 8) (hw : ∀ k, W.getD k 0 ≤ 4000) (hd : ∀ k, ds.getD k 0 ≤ 100) :
    vss (P3 t) [] 40 (scopeOf pw_ty0004_02 17) (bodyOf pw_ty0004_02 17) [(nm "weights", .val (.list (intsV W))), (nm "dots", .val (.list (intsV ds))), (nm "ends", .val (.int e))] (fun out => out = .ret (.str (mkS (mailF W ds e W.length)))) := by
  show vss (P3 t) [] 40 scM [mS 0, mS 1, mS 2] _ _
  refine vss_cons (m_0 ?_)
  refine vss_cons (m_for hl hn hw hd fun C hC => ?_)
  refine vss_cons (m_ret hC ?_)
  exact Eq.refl (Out.ret (V.str (mkS (mailF W ds e W.length))))
end Mine

-- part WE2
open PySem PySem.Challenge
set_option Elab.async false
set_option maxRecDepth 100000
set_option linter.unusedVariables false
set_option linter.unusedSimpArgs false
namespace Mine
open Builtin Builtin.Str Builtin.Int

noncomputable def tryRest (l : List Stmt) (n : Nat) : List Stmt := match l[n]? with | some (.Try [.While _ (_ :: r) _ _] _ _ _ _) => r | _ => []
noncomputable def rwΓ (x : Str) (I : Addr) (R : List V) (a d : Int) (C : Ctx) : Ctx := (nm "text", .val (.str x)) :: (nm "octets", .val (.obj (.ref I))) :: (nm "rows", .own R) :: (nm "weight", .val (.int a)) :: (nm "dots", .val (.int d)) :: C
noncomputable def stA (r a : Int) : Int := if r = 46 then a else if r = 10 then a else if r.fmod 64 = 13 then r.fdiv 64 else a
noncomputable def stD (r d : Int) : Int := if r = 46 then d + 1 else d
theorem vc_rest (t : Tok) (x : Str) (I : Addr) (R : List V) (a d r : Int) (hR : R.length ≤ 1000) (hdiv : divisionGoesByPylong r 64 = false) (K : Out → Prop)
    (k1 : r = 10 → K (.next (rwΓ x I (R ++ [V.tup [.int (stA r a), .int (stD r d)]]) 0 0 [(nm "number", .val (.int r))])))
    (k2 : r ≠ 10 → K (.next (rwΓ x I R (stA r a) (stD r d) [(nm "number", .val (.int r))]))) :
    vss (P1 t) [nm "rows"] 40 (scopeOf pw_ty0004_02 18) (tryRest (bodyOf pw_ty0004_02 18) 4) (rwΓ x I R a d [(nm "number", .val (.int r))]) K := by
  repeat (first | refine ⟨rfl, ?_⟩ | refine ⟨⟨rfl, rfl⟩, ?_⟩ | refine ⟨⟨rfl, rfl, rfl⟩, ?_⟩ | refine ⟨⟨rfl, rfl, rfl, rfl⟩, ?_⟩ | refine ⟨⟨rfl, rfl, rfl, rfl, rfl⟩, ?_⟩ | refine ⟨⟨⟨rfl, rfl, rfl⟩, rfl, rfl, rfl⟩, ?_⟩)
  refine ⟨fun h1 => ?_, fun h1 => ?_⟩
  · have e : r = 46 := eq_of_beq h1
    subst e
    repeat (first | refine ⟨rfl, ?_⟩ | refine ⟨⟨rfl, rfl⟩, ?_⟩ | refine ⟨⟨rfl, rfl, rfl⟩, ?_⟩ | refine ⟨⟨rfl, rfl, rfl, rfl⟩, ?_⟩ | refine ⟨⟨rfl, rfl, rfl, rfl, rfl⟩, ?_⟩ | refine ⟨⟨⟨rfl, rfl, rfl⟩, rfl, rfl, rfl⟩, ?_⟩)
    exact k2 (by decide)
  · have n46 : r ≠ 46 := fun q => by rw [show (r == 46) = true from by rw [q]; rfl] at h1; cases h1
    have eD : stD r d = d := if_neg n46
    rw [eD] at k1 k2
    repeat (first | refine ⟨rfl, ?_⟩ | refine ⟨⟨rfl, rfl⟩, ?_⟩ | refine ⟨⟨rfl, rfl, rfl⟩, ?_⟩ | refine ⟨⟨rfl, rfl, rfl, rfl⟩, ?_⟩ | refine ⟨⟨rfl, rfl, rfl, rfl, rfl⟩, ?_⟩ | refine ⟨⟨⟨rfl, rfl, rfl⟩, rfl, rfl, rfl⟩, ?_⟩)
    refine ⟨fun h2 => ?_, fun h2 => ?_⟩
    · have e : r = 10 := eq_of_beq h2
      subst e
      repeat (first | refine ⟨rfl, ?_⟩ | refine ⟨⟨rfl, rfl⟩, ?_⟩ | refine ⟨⟨rfl, rfl, rfl⟩, ?_⟩ | refine ⟨⟨rfl, rfl, rfl, rfl⟩, ?_⟩ | refine ⟨⟨rfl, rfl, rfl, rfl, rfl⟩, ?_⟩ | refine ⟨⟨⟨rfl, rfl, rfl⟩, rfl, rfl, rfl⟩, ?_⟩)
      refine ⟨by omega, ?_⟩
      repeat (first | refine ⟨rfl, ?_⟩ | refine ⟨⟨rfl, rfl⟩, ?_⟩ | refine ⟨⟨rfl, rfl, rfl⟩, ?_⟩ | refine ⟨⟨rfl, rfl, rfl, rfl⟩, ?_⟩ | refine ⟨⟨rfl, rfl, rfl, rfl, rfl⟩, ?_⟩ | refine ⟨⟨⟨rfl, rfl, rfl⟩, rfl, rfl, rfl⟩, ?_⟩)
      exact k1 rfl
    · have n10 : r ≠ 10 := fun q => by rw [show (r == 10) = true from by rw [q]; rfl] at h2; cases h2
      repeat (first | refine ⟨rfl, ?_⟩ | refine ⟨⟨rfl, rfl⟩, ?_⟩ | refine ⟨⟨rfl, rfl, rfl⟩, ?_⟩ | refine ⟨⟨rfl, rfl, rfl, rfl⟩, ?_⟩ | refine ⟨⟨rfl, rfl, rfl, rfl, rfl⟩, ?_⟩ | refine ⟨⟨⟨rfl, rfl, rfl⟩, rfl, rfl, rfl⟩, ?_⟩)
      refine ⟨by decide, ?_⟩
      repeat (first | refine ⟨rfl, ?_⟩ | refine ⟨⟨rfl, rfl⟩, ?_⟩ | refine ⟨⟨rfl, rfl, rfl⟩, ?_⟩ | refine ⟨⟨rfl, rfl, rfl, rfl⟩, ?_⟩ | refine ⟨⟨rfl, rfl, rfl, rfl, rfl⟩, ?_⟩ | refine ⟨⟨⟨rfl, rfl, rfl⟩, rfl, rfl, rfl⟩, ?_⟩)
      refine ⟨fun h3 => ?_, fun h3 => ?_⟩
      · have e : r.fmod 64 = 13 := eq_of_beq h3
        have eA : stA r a = r.fdiv 64 := by unfold stA; rw [if_neg n46, if_neg n10, if_pos e]
        rw [eA] at k2
        repeat (first | refine ⟨rfl, ?_⟩ | refine ⟨⟨rfl, rfl⟩, ?_⟩ | refine ⟨⟨rfl, rfl, rfl⟩, ?_⟩ | refine ⟨⟨rfl, rfl, rfl, rfl⟩, ?_⟩ | refine ⟨⟨rfl, rfl, rfl, rfl, rfl⟩, ?_⟩ | refine ⟨⟨⟨rfl, rfl, rfl⟩, rfl, rfl, rfl⟩, ?_⟩)
        refine ⟨⟨by decide, hdiv⟩, ?_⟩
        exact k2 n10
      · have n13 : ¬ r.fmod 64 = 13 := fun q => by rw [show (r.fmod 64 == 13) = true from by rw [q]; rfl] at h3; cases h3
        have eA : stA r a = a := by unfold stA; rw [if_neg n46, if_neg n10, if_neg n13]
        rw [eA] at k2
        exact k2 n10

noncomputable def octL (l : List Nat) : List Int := l.map Int.ofNat
noncomputable def WW (t : Tok) (x : Str) (I : Addr) (K : List V → Prop) (R : List V) (a d : Int) (l : List Nat) : Prop :=
  ∀ C : Ctx, (C = [] ∨ ∃ v, C = [(nm "number", Ent.val v)]) → ∃ n, WR (P1 t) [nm "rows"] (scopeOf pw_ty0004_02 18) (tryRest (bodyOf pw_ty0004_02 18) 4) I K n (rwΓ x I R a d C) (octL l)
theorem WW.nil {t : Tok} {x : Str} {I : Addr} {K : List V → Prop} {R : List V} {a d : Int} (k : K R) : WW t x I K R a d [] := by
  rintro C (rfl | ⟨v, rfl⟩)
  · exact ⟨0, rfl, R, rfl, k⟩
  · exact ⟨0, rfl, R, rfl, k⟩
theorem WW.step {t : Tok} {x : Str} {I : Addr} {K : List V → Prop} {R : List V} {a d r : Int} {c m : Nat} {l : List Nat} (hR : R.length ≤ 1000) (vi : Vi c (bitAnd c 63) (octL l) r m) (hdiv : divisionGoesByPylong r 64 = false)
    (k1 : r = 10 → WW t x I K (R ++ [V.tup [.int (stA r a), .int (stD r d)]]) 0 0 (l.drop m)) (k2 : r ≠ 10 → WW t x I K R (stA r a) (stD r d) (l.drop m)) : WW t x I K R a d (c :: l) := by
  have key : ∃ n, ∀ C : Ctx, (C = [] ∨ ∃ v, C = [(nm "number", Ent.val v)]) → WR (P1 t) [nm "rows"] (scopeOf pw_ty0004_02 18) (tryRest (bodyOf pw_ty0004_02 18) 4) I K (n + 1) (rwΓ x I R a d C) (octL (c :: l)) := by
    have dr : (l.map Int.ofNat).drop m = octL (l.drop m) := by simp [octL, List.map_drop]
    by_cases h : r = 10
    · obtain ⟨n, w⟩ := k1 h [(nm "number", Ent.val (.int r))] (.inr ⟨_, rfl⟩)
      refine ⟨n, fun C hC => ?_⟩
      rcases hC with rfl | ⟨v, rfl⟩
      all_goals
        refine ⟨rfl, r, m, vi, ?_⟩
        refine vc_rest t x I R a d r hR hdiv _ (fun _ => ⟨_, rfl, ?_⟩) (fun q => absurd h q)
        rw [dr]; exact w
    · obtain ⟨n, w⟩ := k2 h [(nm "number", Ent.val (.int r))] (.inr ⟨_, rfl⟩)
      refine ⟨n, fun C hC => ?_⟩
      rcases hC with rfl | ⟨v, rfl⟩
      all_goals
        refine ⟨rfl, r, m, vi, ?_⟩
        refine vc_rest t x I R a d r hR hdiv _ (fun q => absurd q h) (fun _ => ⟨_, rfl, ?_⟩)
        rw [dr]; exact w
  intro C hC
  obtain ⟨n, w⟩ := key
  exact ⟨n + 1, w C hC⟩

section
variable {t : Tok} {x : Str} {I : Addr} {K : List V → Prop} {R : List V} {a d : Int} {l : List Nat}
theorem WW.dot (hR : R.length ≤ 1000) (k : WW t x I K R a (d + 1) l) : WW t x I K R a d (46 :: l) :=
  WW.step (c := 46) hR (Vi.stop 46 _ _ (by decide +kernel)) (by decide +kernel) (fun q => absurd q (by decide +kernel)) fun _ => k
theorem WW.feed (hR : R.length ≤ 1000) (k : WW t x I K (R ++ [V.tup [.int a, .int d]]) 0 0 l) : WW t x I K R a d (10 :: l) :=
  WW.step (c := 10) hR (Vi.stop 10 _ _ (by decide +kernel)) (by decide +kernel) (fun _ => k) fun q => absurd (by decide +kernel) q
theorem WW.tail {w : Nat} (hw : w ∈ pow8) (hR : R.length ≤ 1000) (k : WW t x I K R (w : Nat) d l) : WW t x I K R a d (tailL w ++ 13 :: l) := by
  simp only [pow8, List.mem_cons, List.not_mem_nil, or_false] at hw
  rcases hw with rfl | rfl | rfl | rfl | rfl | rfl | rfl | rfl
  · exact WW.step (r := 1 * 64 + 13) (m := 2) (c := 64) hR (.more 64 0 65 _ _ 1 (by decide +kernel) (by decide) (.more 65 1 13 _ _ 0 (by decide +kernel) (by decide) (.stop 13 _ _ (by decide +kernel)))) (by decide +kernel) (fun q => absurd q (by decide +kernel)) fun _ => (by rw [show stA (1 * 64 + 13) a = ((1 : Nat) : Int) from by unfold stA; rw [if_neg (by decide +kernel), if_neg (by decide +kernel), if_pos (by decide +kernel)]; decide +kernel, show stD (1 * 64 + 13) d = d from if_neg (by decide +kernel)]; exact k)
  · exact WW.step (r := 2 * 64 + 13) (m := 2) (c := 64) hR (.more 64 0 66 _ _ 1 (by decide +kernel) (by decide) (.more 66 2 13 _ _ 0 (by decide +kernel) (by decide) (.stop 13 _ _ (by decide +kernel)))) (by decide +kernel) (fun q => absurd q (by decide +kernel)) fun _ => (by rw [show stA (2 * 64 + 13) a = ((2 : Nat) : Int) from by unfold stA; rw [if_neg (by decide +kernel), if_neg (by decide +kernel), if_pos (by decide +kernel)]; decide +kernel, show stD (2 * 64 + 13) d = d from if_neg (by decide +kernel)]; exact k)
  · exact WW.step (r := 4 * 64 + 13) (m := 2) (c := 64) hR (.more 64 0 68 _ _ 1 (by decide +kernel) (by decide) (.more 68 4 13 _ _ 0 (by decide +kernel) (by decide) (.stop 13 _ _ (by decide +kernel)))) (by decide +kernel) (fun q => absurd q (by decide +kernel)) fun _ => (by rw [show stA (4 * 64 + 13) a = ((4 : Nat) : Int) from by unfold stA; rw [if_neg (by decide +kernel), if_neg (by decide +kernel), if_pos (by decide +kernel)]; decide +kernel, show stD (4 * 64 + 13) d = d from if_neg (by decide +kernel)]; exact k)
  · exact WW.step (r := 8 * 64 + 13) (m := 2) (c := 64) hR (.more 64 0 72 _ _ 1 (by decide +kernel) (by decide) (.more 72 8 13 _ _ 0 (by decide +kernel) (by decide) (.stop 13 _ _ (by decide +kernel)))) (by decide +kernel) (fun q => absurd q (by decide +kernel)) fun _ => (by rw [show stA (8 * 64 + 13) a = ((8 : Nat) : Int) from by unfold stA; rw [if_neg (by decide +kernel), if_neg (by decide +kernel), if_pos (by decide +kernel)]; decide +kernel, show stD (8 * 64 + 13) d = d from if_neg (by decide +kernel)]; exact k)
  · exact WW.step (r := 16 * 64 + 13) (m := 2) (c := 64) hR (.more 64 0 80 _ _ 1 (by decide +kernel) (by decide) (.more 80 16 13 _ _ 0 (by decide +kernel) (by decide) (.stop 13 _ _ (by decide +kernel)))) (by decide +kernel) (fun q => absurd q (by decide +kernel)) fun _ => (by rw [show stA (16 * 64 + 13) a = ((16 : Nat) : Int) from by unfold stA; rw [if_neg (by decide +kernel), if_neg (by decide +kernel), if_pos (by decide +kernel)]; decide +kernel, show stD (16 * 64 + 13) d = d from if_neg (by decide +kernel)]; exact k)
  · exact WW.step (r := 32 * 64 + 13) (m := 2) (c := 64) hR (.more 64 0 96 _ _ 1 (by decide +kernel) (by decide) (.more 96 32 13 _ _ 0 (by decide +kernel) (by decide) (.stop 13 _ _ (by decide +kernel)))) (by decide +kernel) (fun q => absurd q (by decide +kernel)) fun _ => (by rw [show stA (32 * 64 + 13) a = ((32 : Nat) : Int) from by unfold stA; rw [if_neg (by decide +kernel), if_neg (by decide +kernel), if_pos (by decide +kernel)]; decide +kernel, show stD (32 * 64 + 13) d = d from if_neg (by decide +kernel)]; exact k)
  · exact WW.step (r := 64 * 64 + 13) (m := 2) (c := 65) hR (.more 65 1 64 _ _ 1 (by decide +kernel) (by decide) (.more 64 64 13 _ _ 0 (by decide +kernel) (by decide) (.stop 13 _ _ (by decide +kernel)))) (by decide +kernel) (fun q => absurd q (by decide +kernel)) fun _ => (by rw [show stA (64 * 64 + 13) a = ((64 : Nat) : Int) from by unfold stA; rw [if_neg (by decide +kernel), if_neg (by decide +kernel), if_pos (by decide +kernel)]; decide +kernel, show stD (64 * 64 + 13) d = d from if_neg (by decide +kernel)]; exact k)
  · exact WW.step (r := 128 * 64 + 13) (m := 2) (c := 66) hR (.more 66 2 64 _ _ 1 (by decide +kernel) (by decide) (.more 64 128 13 _ _ 0 (by decide +kernel) (by decide) (.stop 13 _ _ (by decide +kernel)))) (by decide +kernel) (fun q => absurd q (by decide +kernel)) fun _ => (by rw [show stA (128 * 64 + 13) a = ((128 : Nat) : Int) from by unfold stA; rw [if_neg (by decide +kernel), if_neg (by decide +kernel), if_pos (by decide +kernel)]; decide +kernel, show stD (128 * 64 + 13) d = d from if_neg (by decide +kernel)]; exact k)
theorem WW.dots (hR : R.length ≤ 1000) : ∀ (n : Nat) (d : Int), WW t x I K R a (d + n) l → WW t x I K R a d (List.replicate n 46 ++ l)
  | 0, d, w => by simpa using w
  | n + 1, d, w => by
    rw [List.replicate_succ, List.cons_append]
    exact WW.dot hR (WW.dots hR n (d + 1) (by rw [show d + 1 + (n : Int) = d + ((n + 1 : Nat) : Int) from by omega]; exact w))
theorem WW.row {w n : Nat} (hw : w ∈ pow8) (hR : R.length ≤ 1000) (k : WW t x I K (R ++ [V.tup [.int (w : Nat), .int (n : Nat)]]) 0 0 l) : WW t x I K R 0 0 (rowW w n ++ [13, 10] ++ l) := by
  unfold rowW
  rw [List.append_assoc, List.append_assoc]
  refine WW.dots hR n 0 ?_
  rw [Int.zero_add]
  exact WW.tail hw hR (WW.feed hR k)
end
noncomputable def mailP (ps : List (Nat × Nat)) : List Nat := (ps.map fun p => rowW p.1 p.2 ++ [13, 10]).flatten
noncomputable def rowsP (ps : List (Nat × Nat)) : List V := ps.map fun p => V.tup [.int (p.1 : Nat), .int (p.2 : Nat)]
theorem ww_mail {t : Tok} {x : Str} {I : Addr} {K : List V → Prop} : ∀ (ps : List (Nat × Nat)) (R : List V), (∀ p ∈ ps, p.1 ∈ pow8) → R.length + ps.length ≤ 1000 → K (R ++ rowsP ps) → WW t x I K R 0 0 (mailP ps)
  | [], R, _, _, k => WW.nil (by simpa [rowsP] using k)
  | p :: ps, R, h, hl, k => by
    have e : mailP (p :: ps) = rowW p.1 p.2 ++ [13, 10] ++ mailP ps := by simp [mailP]
    rw [e]
    refine WW.row (h p (by simp)) (by simp at hl; omega) (ww_mail ps _ (fun q hq => h q (List.mem_cons_of_mem _ hq)) (by simp at hl ⊢; omega) ?_)
    rw [List.append_assoc]
    exact k
theorem range_zip {α : Type} (f : Nat → Nat → α) (W ds : List Nat) (h : ds.length = W.length) : ((List.range W.length).map fun k => f (W.getD k 0) (ds.getD k 0)) = (W.zip ds).map fun p => f p.1 p.2 := by
  apply List.ext_getElem
  · simp [h]
  · intro i h1 h2
    simp at h1 h2
    have h3 : i < ds.length := by omega
    simp [List.getD, h1, h3]
theorem mailF_zip (W ds : List Nat) (h : ds.length = W.length) : mailF W ds 0 W.length = mailP (W.zip ds) := by
  unfold mailF mailP
  rw [← range_zip (fun w d => rowW w d ++ [13, 10]) W ds h]
  congr 1
  refine List.map_congr_left fun k hk => ?_
  have : endS 0 k = [13, 10] := by unfold endS; rw [Nat.zero_div, Nat.zero_mod]; rfl
  rw [this]

noncomputable def assignV (l : List Stmt) (n : Nat) : Expr := match l[n]? with | some (.Assign _ (.Call _ (e :: _) _ _) _) => e | _ => .Constant .none 0 default
theorem vc_octs (t : Tok) (l : List Nat) (hl : l.length ≤ 100000) : ve (P1 t) 20 (scopeOf pw_ty0004_02 18) (assignV (bodyOf pw_ty0004_02 18) 0) [(nm "text", .val (.str (mkS l)))] (fun v => v = .list ((octL l).map V.int)) := by
  repeat (first | refine ⟨rfl, ?_⟩ | refine ⟨⟨rfl, rfl⟩, ?_⟩ | refine ⟨⟨rfl, rfl, rfl⟩, ?_⟩ | refine ⟨⟨rfl, rfl, rfl, rfl⟩, ?_⟩ | refine ⟨⟨rfl, rfl, rfl, rfl, rfl⟩, ?_⟩ | refine ⟨⟨⟨rfl, rfl, rfl⟩, rfl, rfl, rfl⟩, ?_⟩)
  refine ⟨by rw [mkS_len]; omega, ?_⟩
  rw [mkS_list]
  refine vMap_all (f := fun v => match v with | .str s => .int (s.cps.getD 0 0 : Nat) | v => v) _ _ ?_ ?_
  · intro it hit K' k'
    obtain ⟨c, hc, rfl⟩ := List.mem_map.mp hit
    repeat (first | refine ⟨rfl, ?_⟩ | refine ⟨⟨rfl, rfl⟩, ?_⟩ | refine ⟨⟨rfl, rfl, rfl⟩, ?_⟩ | refine ⟨⟨rfl, rfl, rfl, rfl⟩, ?_⟩ | refine ⟨⟨rfl, rfl, rfl, rfl, rfl⟩, ?_⟩ | refine ⟨⟨⟨rfl, rfl, rfl⟩, rfl, rfl, rfl⟩, ?_⟩)
    refine ⟨fun _ => ?_, fun q => Bool.noConfusion q⟩
    repeat (first | refine ⟨rfl, ?_⟩ | refine ⟨⟨rfl, rfl⟩, ?_⟩ | refine ⟨⟨rfl, rfl, rfl⟩, ?_⟩ | refine ⟨⟨rfl, rfl, rfl, rfl⟩, ?_⟩ | refine ⟨⟨rfl, rfl, rfl, rfl, rfl⟩, ?_⟩ | refine ⟨⟨⟨rfl, rfl, rfl⟩, rfl, rfl, rfl⟩, ?_⟩)
    refine ⟨c, rfl, ?_⟩
    exact k'
  · rw [List.nil_append, List.map_map, octL, List.map_map]
    rfl

noncomputable def midOf (l : List Stmt) : List Stmt := (l.drop 1).take 3
theorem vc_rows (t : Tok) (l : List Nat) (res : List V) (w : ∀ I, WW t (mkS l) I (fun r => r = res) [] 0 0 l) : ∀ I, vss (P1 t) [nm "rows"] 20 (scopeOf pw_ty0004_02 18) (midOf (bodyOf pw_ty0004_02 18)) [(nm "text", .val (.str (mkS l))), (nm "octets", .val (.obj (.ref I)))]
    (fun out => ∃ Γ m, out = .next Γ ∧ WR (P1 t) [nm "rows"] (scopeOf pw_ty0004_02 18) (tryRest (bodyOf pw_ty0004_02 18) 4) I (fun r => r = res) m Γ (octL l)) := by
  intro I
  obtain ⟨n, w⟩ := w I [] (.inl rfl)
  repeat (first | refine ⟨rfl, ?_⟩ | refine ⟨⟨rfl, rfl⟩, ?_⟩ | refine ⟨⟨rfl, rfl, rfl⟩, ?_⟩ | refine ⟨⟨rfl, rfl, rfl, rfl⟩, ?_⟩ | refine ⟨⟨rfl, rfl, rfl, rfl, rfl⟩, ?_⟩ | refine ⟨⟨⟨rfl, rfl, rfl⟩, rfl, rfl, rfl⟩, ?_⟩)
  exact ⟨_, n, rfl, w⟩
end Mine

-- part WF2
open PySem PySem.Challenge
set_option Elab.async false
set_option maxRecDepth 100000
set_option linter.unusedVariables false
set_option linter.unusedSimpArgs false
namespace Mine
open Builtin Builtin.Str Builtin.Int

noncomputable def txtL : List (Nat × Nat) → List Nat
  | [] => []
  | p :: r => if p.2 % 2 = 0 then List.replicate (p.2 / 2) 34 ++ tailL p.1 ++ [13, 10] ++ txtL r else List.replicate (p.2 / 2) 34
noncomputable def pcsL : List (Nat × Nat) → List (List Nat)
  | [] => [[]]
  | p :: r => if p.2 % 2 = 0 then (List.replicate (p.2 / 2) 34 ++ tailL p.1) :: pcsL r else [List.replicate (p.2 / 2) 34]

theorem tail_ge (w : Nat) : ∀ c ∈ tailL w, 64 ≤ c := fun c hc => by
  rcases List.mem_cons.mp hc with rfl | hc
  · exact Nat.le_add_right 64 _
  · rw [List.mem_singleton.mp hc]; exact Nat.le_add_right 64 _
theorem sw_mailP : ∀ ps : List (Nat × Nat), sw 46 34 (mailP ps) = (ps.map fun p => List.replicate p.2 34 ++ (tailL p.1 ++ [13, 10])).flatten
  | [] => rfl
  | p :: ps => by
    have e : mailP (p :: ps) = List.replicate p.2 46 ++ (tailL p.1 ++ [13, 10]) ++ mailP ps := by simp [mailP, rowW]
    have e1 : sw 46 34 (List.replicate p.2 46) = List.replicate p.2 34 := by simp [sw]
    have e2 : sw 46 34 (tailL p.1 ++ [13, 10]) = tailL p.1 ++ [13, 10] := sw_free 46 34 (by
      intro q
      rcases List.mem_append.mp q with q | q
      · have := tail_ge _ _ q; omega
      · simp at q)
    rw [e, sw_app, sw_app, e1, e2, sw_mailP ps]
    simp
theorem unq_mail : ∀ ps : List (Nat × Nat), unq (sw 46 34 (mailP ps)) = txtL ps := by
  intro ps
  rw [sw_mailP]
  induction ps with
  | nil => rfl
  | cons p ps ih =>
    rw [List.map_cons, List.flatten_cons]
    unfold txtL
    have free : 34 ∉ tailL p.1 ++ [13, 10] := by
      intro q
      rcases List.mem_append.mp q with q | q
      · have := tail_ge _ _ q; omega
      · simp at q
    by_cases h : p.2 % 2 = 0
    · rw [if_pos h]
      have e : List.replicate p.2 34 = List.replicate (2 * (p.2 / 2)) 34 := by rw [show 2 * (p.2 / 2) = p.2 from by omega]
      rw [e, List.append_assoc, unq_marks, unq_free _ _ free, ih]
      simp
    · rw [if_neg h]
      have e : List.replicate p.2 34 = List.replicate (2 * (p.2 / 2)) 34 ++ [34] := by
        rw [← List.replicate_succ', show 2 * (p.2 / 2) + 1 = p.2 from by omega]
      rw [e, List.append_assoc, List.append_assoc, unq_marks]
      have z : ∀ r, unq ([34] ++ (tailL p.1 ++ [13, 10] ++ r)) = [] := by
        intro r
        show unq (34 :: (64 + p.1 / 64) :: _) = []
        conv => lhs; unfold unq
        rw [if_pos rfl]
        split
        · rename_i q
          have := (List.cons.inj q).1
          omega
        · rfl
      rw [z]; simp
theorem split_parts : ∀ ps : List (Nat × Nat), ∃ qs last, pcsL ps = qs ++ [last] ∧ txtL ps = (qs.map (· ++ [13, 10])).flatten ++ last ∧ (∀ q ∈ qs, 13 ∉ q) ∧ 13 ∉ last
  | [] => ⟨[], [], rfl, rfl, by simp, by simp⟩
  | p :: ps => by
    have rep : ∀ n, 13 ∉ List.replicate n 34 := fun n q => absurd (List.mem_replicate.mp q).2 (by decide)
    by_cases h : p.2 % 2 = 0
    · obtain ⟨qs, last, e1, e2, e3, e4⟩ := split_parts ps
      refine ⟨(List.replicate (p.2 / 2) 34 ++ tailL p.1) :: qs, last, ?_, ?_, ?_, e4⟩
      · unfold pcsL; rw [if_pos h, e1]; rfl
      · unfold txtL; rw [if_pos h, e2]; simp
      · intro q hq
        rcases List.mem_cons.mp hq with rfl | hq
        · intro z
          rcases List.mem_append.mp z with z | z
          · exact rep _ z
          · have := tail_ge _ _ z; omega
        · exact e3 q hq
    · exact ⟨[], List.replicate (p.2 / 2) 34, by unfold pcsL; rw [if_neg h]; rfl, by unfold txtL; rw [if_neg h]; simp, by simp, rep _⟩
theorem split_txt (ps : List (Nat × Nat)) : Txt.split (mkS (txtL ps)) (mkS [13, 10]) = (pcsL ps).map mkS := by
  obtain ⟨qs, last, e1, e2, e3, e4⟩ := split_parts ps
  rw [e2, split_crlf qs last e3 e4, e1]
  simp
theorem txtL_len : ∀ ps : List (Nat × Nat), (∀ p ∈ ps, p.2 ≤ 100) → (txtL ps).length ≤ ps.length * 104
  | [], _ => by simp [txtL]
  | p :: ps, h => by
    have h1 := txtL_len ps fun q hq => h q (List.mem_cons_of_mem _ hq)
    have h2 := h p (by simp)
    unfold txtL
    split
    · rw [List.length_append, List.length_append, List.length_append, List.length_replicate, show (tailL p.1).length = 2 from rfl, show ([13, 10] : List Nat).length = 2 from rfl, List.length_cons]
      omega
    · rw [List.length_replicate, List.length_cons]; omega

theorem idx_tail {a n : Nat} (h : a ≤ n) : strSliceIndices (some (a : Int)) none 1 n = (List.range (n - a)).map fun k => a + k := by
  have e : max (0 : Int) (min (n : Int) (n : Int)) = n := by rw [Int.min_self]; exact Int.max_eq_right (Int.natCast_nonneg n)
  rw [← StrLaws.strSliceIndices_plain h (Nat.le_refl n)]
  show sliceRange _ (n : Int) 1 = sliceRange _ (max 0 (min (if (n : Int) < 0 then (n : Int) + n else n) n)) 1
  rw [if_neg (Int.not_lt.mpr (Int.natCast_nonneg n)), e]
theorem pick_drop {α : Type} (l : List α) {a : Nat} (h : a ≤ l.length) : ((sliceRange (sliceBounds (some (a : Int)) none none l.length).1 (sliceBounds (some (a : Int)) none none l.length).2.1 (sliceBounds (some (a : Int)) none none l.length).2.2).filterMap (l[·]?)) = l.drop a := by
  show (strSliceIndices (some (a : Int)) none 1 l.length).filterMap (l[·]?) = _
  rw [idx_tail h, StrLaws.picks l (l.length - a) a (Nat.le_of_eq (Nat.add_sub_cancel' h)), List.take_of_length_le (by rw [List.length_drop]; exact Nat.le_refl _)]
theorem vpick_drop (l : List V) {a : Nat} (h : a ≤ l.length) : vPick l (some (a : Int)) none none = l.drop a := pick_drop l h
theorem neg_two (n : Nat) : -2 + ((n + 2 : Nat) : Int) = ((n : Nat) : Int) := by omega
theorem clip2 : ∀ n : Nat, max (0 : Int) (min (-2 + (n : Int)) (n : Int)) = max (0 : Int) (min ((n - 2 : Nat) : Int) (n : Int))
  | 0 => rfl
  | 1 => rfl
  | n + 2 => by rw [neg_two]; rfl
theorem idx_neg2 (n : Nat) : strSliceIndices (some (-2)) none 1 n = strSliceIndices (some ((n - 2 : Nat) : Int)) (some (n : Int)) 1 n := by
  rw [StrLaws.strSliceIndices_plain (Nat.sub_le n 2) (Nat.le_refl n), ← idx_tail (Nat.sub_le n 2)]
  show sliceRange (max 0 (min (-2 + (n : Int)) n)) n 1 = sliceRange (max 0 (min (if ((n - 2 : Nat) : Int) < 0 then ((n - 2 : Nat) : Int) + n else ((n - 2 : Nat) : Int)) n)) n 1
  rw [if_neg (Int.not_lt.mpr (Int.natCast_nonneg _)), clip2]
theorem slice_neg2 (l : List Nat) : Txt.slice (mkS l) (some (-2)) none = mkS (l.drop (l.length - 2)) := by
  have e : Txt.slice (mkS l) (some (-2)) none = Txt.slice (mkS l) (some ((l.length - 2 : Nat) : Int)) (some (l.length : Int)) := by
    unfold Txt.slice
    rw [mkS_len, idx_neg2]
  rw [e, slice_list l (Nat.sub_le _ _) (Nat.le_refl _), List.take_of_length_le (by rw [List.length_drop]; exact Nat.le_refl _)]
end Mine

-- part WG2
open PySem PySem.Challenge
set_option Elab.async false
set_option maxRecDepth 100000
set_option linter.unusedVariables false
set_option linter.unusedSimpArgs false
namespace Mine
open Builtin Builtin.Str Builtin.Int

noncomputable def fr1 (W ds F : List Nat) (k : Nat) : List Nat := F.set k (F.getD k 0 - ds.getD k 0 + ds.getD k 0 % 2)
noncomputable def fr2 (W ds F : List Nat) (k : Nat) : List Nat := if 0 < ds.getD k 0 / 2 then (fr1 W ds F k).set (W.idxOf (2 * W.getD k 0)) ((fr1 W ds F k).getD (W.idxOf (2 * W.getD k 0)) 0 + ds.getD k 0 / 2) else fr1 W ds F k
noncomputable def readF (W ds : List Nat) : Nat → Nat → List Nat → List Nat → List Nat × List Nat
  | 0, _, F, G => (F, G)
  | n + 1, k, F, G => if ds.getD k 0 % 2 = 0 then readF W ds n (k + 1) (fr2 W ds F k) (G.set k (ds.getD k 0 / 2)) else (fr2 W ds F k, G.set k (ds.getD k 0 / 2))

noncomputable def fn4 (a : Addr) (Vs : List V) (r : V) : Prop :=
  (a = 116 ∧ ∃ (W ds : List Nat) (e : Nat), ds.length = W.length ∧ W.length ≤ 8 ∧ (∀ k, W.getD k 0 ≤ 4000) ∧ (∀ k, ds.getD k 0 ≤ 100) ∧ Vs = [.list (intsV W), .list (intsV ds), .int e] ∧ r = .str (mkS (mailF W ds e W.length))) ∨
  (a = 109 ∧ ∃ w : Nat, w ≤ 4000 ∧ Vs = [.int w] ∧ r = .str (mkS (tailL w))) ∨
  (a = 63 ∧ ∃ l s, l.length ≤ 900000 ∧ unq l = s ∧ Vs = [.str (mkS (50 :: 53 :: 55 :: 32 :: 34 :: l))] ∧ r = .str (mkS s))
noncomputable def P4 (t : Tok) : Par := { P1 t with fn := fn4 }
noncomputable def ow4 : List Str := [nm "fresh", nm "given"]
noncomputable abbrev scR : Names := scopeOf pw_ty0004_02 19
noncomputable abbrev rS (j : Nat) : Stmt := nthS (bodyOf pw_ty0004_02 19) j
noncomputable abbrev rZ (j : Nat) : Stmt := nthS (inB (rS 4)) j

noncomputable def cR (W ds : List Nat) (av mv nv : V) (F G : List Nat) (C : Ctx) : Ctx := (nm "weights", Ent.val (.list (intsV W))) :: (nm "dots", Ent.val (.list (intsV ds))) :: (nm "at", Ent.val av) :: (nm "mail", Ent.val mv) :: (nm "name", Ent.val nv) :: (nm "fresh", Ent.own (intsV F)) :: (nm "given", Ent.own (intsV G)) :: C
noncomputable def kp (k : Nat) (p : List Nat) : Ctx := [(nm "k", Ent.val (.int (k : Nat))), (nm "piece", Ent.val (.str (mkS p)))]

theorem set_ints (L : List Nat) (n v : Nat) : (intsV L).set ((n : Nat) : Int).toNat (V.int (v : Nat)) = intsV (L.set n v) := by
  show (intsV L).set n _ = _
  simp [intsV, List.map_set]

variable {t : Tok} {W ds F G : List Nat} {av mv nv : V} {k : Nat} {p : List Nat} {K : Out → Prop}

theorem z0 (hk : k < G.length) (hG : G.length = 8) (q : K (.next (cR W ds av mv nv F (G.set k (p.count 34)) (kp k p)))) :
    vs (P4 t) ow4 32 scR (rZ 0) (cR W ds av mv nv F G (kp k p)) K := by
  have c0 : Txt.count (mkS p) (Str.ofString "\"") = (p.count 34 : Nat) := count_list p 34
  have lG := ints_len G
  refine ⟨⟨by omega, by omega, by omega⟩, ?_⟩
  rw [c0, set_ints]
  exact q
theorem z1 (hk : k < F.length) (hF : F.length = 8) (hd : k < ds.length) (hl : ds.length = 8) (hle : ds.getD k 0 ≤ F.getD k 0) (q : K (.next (cR W ds av mv nv (F.set k (F.getD k 0 - ds.getD k 0)) G (kp k p)))) :
    vs (P4 t) ow4 31 scR (rZ 1) (cR W ds av mv nv F G (kp k p)) K := by
  have lF := ints_len F
  have lD := ints_len ds
  repeat (first | refine ⟨rfl, ?_⟩ | refine ⟨⟨rfl, rfl⟩, ?_⟩ | refine ⟨⟨rfl, rfl, rfl⟩, ?_⟩ | refine ⟨⟨rfl, rfl, rfl, rfl⟩, ?_⟩ | refine ⟨⟨rfl, rfl, rfl, rfl, rfl⟩, ?_⟩ | refine ⟨⟨⟨rfl, rfl, rfl⟩, rfl, rfl, rfl⟩, ?_⟩)
  refine ⟨⟨by omega, by omega, by omega⟩, _, get_ints F k hk, ?_⟩
  repeat (first | refine ⟨rfl, ?_⟩ | refine ⟨⟨rfl, rfl⟩, ?_⟩ | refine ⟨⟨rfl, rfl, rfl⟩, ?_⟩ | refine ⟨⟨rfl, rfl, rfl, rfl⟩, ?_⟩ | refine ⟨⟨rfl, rfl, rfl, rfl, rfl⟩, ?_⟩ | refine ⟨⟨⟨rfl, rfl, rfl⟩, rfl, rfl, rfl⟩, ?_⟩)
  refine ⟨by omega, _, idx_get hd, ?_⟩
  have e : ((F.getD k 0 : Nat) : Int) - ((ds.getD k 0 : Nat) : Int) = ((F.getD k 0 - ds.getD k 0 : Nat) : Int) := by omega
  have q' := q
  unfold cR at q'
  rw [← set_ints, ← e] at q'
  exact q'
theorem tail_ne (w : Nat) (n : Nat) : (List.replicate n 34).drop ((List.replicate n 34).length - 2) ≠ tailL w := by
  intro e
  have h : (64 + w / 64) ∈ (List.replicate n 34).drop ((List.replicate n 34).length - 2) := by rw [e]; simp [tailL]
  have := (List.mem_replicate.mp (List.mem_of_mem_drop h)).2
  omega
theorem tail_eq (w : Nat) (m : List Nat) : (m ++ tailL w).drop ((m ++ tailL w).length - 2) = tailL w := by
  rw [List.length_append, show (tailL w).length = 2 from rfl, Nat.add_sub_cancel]
  simp
theorem z2 (hk : k < F.length) (hF : F.length = 8) (hW : W.length = 8) (hw : W.getD k 0 ≤ 4000) {b : Bool} (hp : p.length ≤ 1000) (hb : decide (p.drop (p.length - 2) = tailL (W.getD k 0)) = !b) (q : K (.next (cR W ds av mv nv (F.set k (F.getD k 0 + b.toNat)) G (kp k p)))) :
    vs (P4 t) ow4 30 scR (rZ 2) (cR W ds av mv nv F G (kp k p)) K := by
  have lF := ints_len F
  have lW := ints_len W
  have kW : k < W.length := by omega
  have sl : Txt.slice (mkS p) (some (-2)) none = mkS (p.drop (p.length - 2)) := slice_neg2 p
  have cm : (mkS (p.drop (p.length - 2)) != mkS (tailL (W.getD k 0))) = b := by
    cases b with
    | true =>
      have : ¬ (p.drop (p.length - 2) = tailL (W.getD k 0)) := of_decide_eq_false (by rw [hb]; rfl)
      exact bne_iff_ne.mpr fun e => this (mkS_inj e)
    | false =>
      have : p.drop (p.length - 2) = tailL (W.getD k 0) := of_decide_eq_true (by rw [hb]; rfl)
      rw [this]; simp
  repeat (first | refine ⟨rfl, ?_⟩ | refine ⟨⟨rfl, rfl⟩, ?_⟩ | refine ⟨⟨rfl, rfl, rfl⟩, ?_⟩ | refine ⟨⟨rfl, rfl, rfl, rfl⟩, ?_⟩ | refine ⟨⟨rfl, rfl, rfl, rfl, rfl⟩, ?_⟩ | refine ⟨⟨⟨rfl, rfl, rfl⟩, rfl, rfl, rfl⟩, ?_⟩)
  refine ⟨⟨by rw [mkS_len]; omega, rfl⟩, ?_⟩
  repeat (first | refine ⟨rfl, ?_⟩ | refine ⟨⟨rfl, rfl⟩, ?_⟩ | refine ⟨⟨rfl, rfl, rfl⟩, ?_⟩ | refine ⟨⟨rfl, rfl, rfl, rfl⟩, ?_⟩ | refine ⟨⟨rfl, rfl, rfl, rfl, rfl⟩, ?_⟩ | refine ⟨⟨⟨rfl, rfl, rfl⟩, rfl, rfl, rfl⟩, ?_⟩)
  refine ⟨by omega, _, idx_get kW, ?_⟩
  refine ⟨_, .inr (.inl ⟨rfl, _, hw, rfl, rfl⟩), ?_⟩
  show ((Txt.slice (mkS p) (some (-2)) none != mkS (tailL (W.getD k 0))) = true → _) ∧ _
  rw [sl, cm]
  refine ⟨fun hb2 => ?_, fun hb2 => ?_⟩
  · subst hb2
    repeat (first | refine ⟨rfl, ?_⟩ | refine ⟨⟨rfl, rfl⟩, ?_⟩ | refine ⟨⟨rfl, rfl, rfl⟩, ?_⟩ | refine ⟨⟨rfl, rfl, rfl, rfl⟩, ?_⟩ | refine ⟨⟨rfl, rfl, rfl, rfl, rfl⟩, ?_⟩ | refine ⟨⟨⟨rfl, rfl, rfl⟩, rfl, rfl, rfl⟩, ?_⟩)
    refine ⟨⟨by omega, by omega, by omega⟩, _, get_ints F k hk, ?_⟩
    repeat (first | refine ⟨rfl, ?_⟩ | refine ⟨⟨rfl, rfl⟩, ?_⟩ | refine ⟨⟨rfl, rfl, rfl⟩, ?_⟩ | refine ⟨⟨rfl, rfl, rfl, rfl⟩, ?_⟩ | refine ⟨⟨rfl, rfl, rfl, rfl, rfl⟩, ?_⟩ | refine ⟨⟨⟨rfl, rfl, rfl⟩, rfl, rfl, rfl⟩, ?_⟩)
    have e : ((F.getD k 0 : Nat) : Int) + 1 = ((F.getD k 0 + 1 : Nat) : Int) := rfl
    have q' := q
    unfold cR at q'
    rw [← set_ints] at q'
    exact q'
  · subst hb2
    have e : F.set k (F.getD k 0 + false.toNat) = F := by
      rw [show F.getD k 0 + false.toNat = F.getD k 0 from rfl]
      apply List.ext_getElem
      · simp
      · intro i h1 h2
        rw [List.getElem_set]
        split
        · rename_i e; subst e; simp [List.getD, h2]
        · rfl
    rw [e] at q
    exact q
end Mine

-- part WH2
open PySem PySem.Challenge
set_option Elab.async false
set_option maxRecDepth 100000
set_option linter.unusedVariables false
set_option linter.unusedSimpArgs false
namespace Mine
open Builtin Builtin.Str Builtin.Int

theorem ints_map (F : List Nat) : intsV F = (F.map fun n => ((n : Nat) : Int)).map V.int := by simp [intsV]
theorem idxOf_cast (x : Nat) : ∀ W : List Nat, (W.map fun n => ((n : Nat) : Int)).idxOf (x : Int) = W.idxOf x
  | [] => rfl
  | w :: W => by
    rw [List.map_cons, List.idxOf_cons, List.idxOf_cons, idxOf_cast x W]
    have : (((w : Nat) : Int) == (x : Int)) = (w == x) := by
      rw [Bool.eq_iff_iff]; simp; omega
    rw [this]
theorem lay_of (W : List Nat) (h : ∀ w ∈ W, w ≤ 4000) (hl : W.length ≤ 100) : PyData.layable0 (.list ((W.map fun n => ((n : Nat) : Int)).map .int)) = true := by
  have key : ∀ W : List Nat, (∀ w ∈ W, w ≤ 4000) → PyData.canLayAll0 ((W.map fun n => ((n : Nat) : Int)).map .int) = true ∧ PyData.depthAll ((W.map fun n => ((n : Nat) : Int)).map .int) ≤ 1 ∧ PyData.weightAll ((W.map fun n => ((n : Nat) : Int)).map .int) ≤ 4002 * W.length := by
    intro W
    induction W with
    | nil => intro _; exact ⟨rfl, by simp [PyData.depthAll], by simp [PyData.weightAll]⟩
    | cons w W ih =>
      intro h
      obtain ⟨a, b, c⟩ := ih fun q hq => h q (List.mem_cons_of_mem _ hq)
      have hw := h w (by simp)
      have hl : (w : Int).natAbs.log2 ≤ w := by rw [Int.natAbs_natCast]; exact Nat.log2_le_self w
      refine ⟨?_, ?_, ?_⟩
      · simp only [List.map_cons, PyData.canLayAll0, PyData.canLay0, Bool.true_and]; exact a
      · simp only [List.map_cons, PyData.depthAll, PyData.depth]; omega
      · simp only [List.map_cons, PyData.weightAll, PyData.weight, List.length_cons]
        split <;> omega
  obtain ⟨a, b, c⟩ := key W h
  unfold PyData.layable0
  rw [show PyData.canLay0 (.list ((W.map fun n => ((n : Nat) : Int)).map .int)) = true from by simp only [PyData.canLay0]; exact a]
  rw [show decide (PyData.depth (.list ((W.map fun n => ((n : Nat) : Int)).map .int)) ≤ 64) = true from decide_eq_true (by simp only [PyData.depth]; omega)]
  rw [show decide (PyData.weight (.list ((W.map fun n => ((n : Nat) : Int)).map .int)) ≤ 2 ^ 20) = true from decide_eq_true (by simp only [PyData.weight]; omega)]
  rfl

variable {t : Tok} {W ds F G : List Nat} {av mv nv : V} {k : Nat} {p : List Nat} {K : Out → Prop}
theorem z3 (hk : k < G.length) (hG : G.length = 8) (hF : F.length = 8) (hW : W.length = 8) (hw : ∀ w ∈ W, w ≤ 4000) (h2 : 0 < G.getD k 0 → 2 * W.getD k 0 ∈ W)
    (q : K (.next (cR W ds av mv nv (if 0 < G.getD k 0 then F.set (W.idxOf (2 * W.getD k 0)) (F.getD (W.idxOf (2 * W.getD k 0)) 0 + G.getD k 0) else F) G (kp k p)))) :
    vs (P4 t) ow4 29 scR (rZ 3) (cR W ds av mv nv F G (kp k p)) K := by
  have lF := ints_len F
  have lW := ints_len W
  have lG := ints_len G
  have kW : k < W.length := by omega
  repeat (first | refine ⟨rfl, ?_⟩ | refine ⟨⟨rfl, rfl⟩, ?_⟩ | refine ⟨⟨rfl, rfl, rfl⟩, ?_⟩ | refine ⟨⟨rfl, rfl, rfl, rfl⟩, ?_⟩ | refine ⟨⟨rfl, rfl, rfl, rfl, rfl⟩, ?_⟩ | refine ⟨⟨⟨rfl, rfl, rfl⟩, rfl, rfl, rfl⟩, ?_⟩)
  refine ⟨by omega, _, idx_get hk, ?_⟩
  repeat (first | refine ⟨rfl, ?_⟩ | refine ⟨⟨rfl, rfl⟩, ?_⟩ | refine ⟨⟨rfl, rfl, rfl⟩, ?_⟩ | refine ⟨⟨rfl, rfl, rfl, rfl⟩, ?_⟩ | refine ⟨⟨rfl, rfl, rfl, rfl, rfl⟩, ?_⟩ | refine ⟨⟨⟨rfl, rfl, rfl⟩, rfl, rfl, rfl⟩, ?_⟩)
  refine ⟨fun hb => ?_, fun hb => ?_⟩
  · have hpos : 0 < G.getD k 0 := by have := of_decide_eq_true hb; omega
    have hm := h2 hpos
    have hi : W.idxOf (2 * W.getD k 0) < W.length := List.idxOf_lt_length_of_mem hm
    rw [if_pos hpos] at q
    unfold cR at q
    rw [← set_ints] at q
    have e2 : (2 : Int) * ((W.getD k 0 : Nat) : Int) = ((2 * W.getD k 0 : Nat) : Int) := (Int.natCast_mul 2 _).symm
    have ix : ((W.map fun n => ((n : Nat) : Int)).idxOf ((2 * W.getD k 0 : Nat) : Int)) = W.idxOf (2 * W.getD k 0) := idxOf_cast _ W
    repeat (first | refine ⟨rfl, ?_⟩ | refine ⟨⟨rfl, rfl⟩, ?_⟩ | refine ⟨⟨rfl, rfl, rfl⟩, ?_⟩ | refine ⟨⟨rfl, rfl, rfl, rfl⟩, ?_⟩ | refine ⟨⟨rfl, rfl, rfl, rfl, rfl⟩, ?_⟩ | refine ⟨⟨⟨rfl, rfl, rfl⟩, rfl, rfl, rfl⟩, ?_⟩)
    refine ⟨by omega, _, idx_get kW, ?_⟩
    refine ⟨IntMulOk.of_left (Nat.le_trans (bits_small (i := 2) (by decide)) (by decide)), ?_⟩
    rw [e2]
    refine ⟨W.map fun n => ((n : Nat) : Int), ints_map W, lay_of W hw (by omega), List.mem_map.mpr ⟨_, hm, rfl⟩, ?_⟩
    rw [ix]
    refine ⟨⟨by omega, by omega, by omega⟩, _, get_ints F _ (by omega), ?_⟩
    repeat (first | refine ⟨rfl, ?_⟩ | refine ⟨⟨rfl, rfl⟩, ?_⟩ | refine ⟨⟨rfl, rfl, rfl⟩, ?_⟩ | refine ⟨⟨rfl, rfl, rfl, rfl⟩, ?_⟩ | refine ⟨⟨rfl, rfl, rfl, rfl, rfl⟩, ?_⟩ | refine ⟨⟨⟨rfl, rfl, rfl⟩, rfl, rfl, rfl⟩, ?_⟩)
    refine ⟨by omega, _, idx_get hk, ?_⟩
    exact q
  · have hz : ¬ 0 < G.getD k 0 := by have := of_decide_eq_false hb; omega
    rw [if_neg hz] at q
    exact q

theorem zbody_eq : inB (rS 4) = [rZ 0, rZ 1, rZ 2, rZ 3] := rfl
theorem getD_set_self {l : List Nat} {k v : Nat} (h : k < l.length) : (l.set k v).getD k 0 = v := by simp [List.getD, h]
theorem set_set (l : List Nat) (k v w : Nat) : (l.set k v).set k w = l.set k w := List.set_set ..
theorem pc_count {w d : Nat} {b : Bool} : (List.replicate (d / 2) 34 ++ (if b = true then tailL w else [])).count 34 = d / 2 := by
  rw [List.count_append]
  have : (if b = true then tailL w else []).count 34 = 0 := by
    split
    · refine List.count_eq_zero_of_not_mem fun q => ?_
      have := tail_ge _ _ q; omega
    · rfl
  rw [this]; simp
theorem zturn (hk : k < 8) (hF : F.length = 8) (hG : G.length = 8) (hW : W.length = 8) (hds : ds.length = 8) (hw : ∀ w ∈ W, w ≤ 4000) (h2 : 0 < ds.getD k 0 / 2 → 2 * W.getD k 0 ∈ W) (hle : ds.getD k 0 ≤ F.getD k 0) (hd : ds.getD k 0 ≤ 100)
    (hp : p = List.replicate (ds.getD k 0 / 2) 34 ++ (if ds.getD k 0 % 2 = 0 then tailL (W.getD k 0) else []))
    (q : K (.next (cR W ds av mv nv (fr2 W ds F k) (G.set k (ds.getD k 0 / 2)) (kp k p)))) :
    vss (P4 t) ow4 33 scR (inB (rS 4)) (cR W ds av mv nv F G (kp k p)) K := by
  have hwk : W.getD k 0 ≤ 4000 := hw _ (by rw [show W.getD k 0 = W[k] from by simp [List.getD, show k < W.length from by omega]]; exact List.getElem_mem _)
  have pc : p.count 34 = ds.getD k 0 / 2 := by
    rw [hp]
    have := pc_count (w := W.getD k 0) (d := ds.getD k 0) (b := decide (ds.getD k 0 % 2 = 0))
    simpa using this
  have pl : p.length ≤ 1000 := by
    rw [hp, List.length_append, List.length_replicate]
    split
    · show _ + 2 ≤ 1000; omega
    · show _ + 0 ≤ 1000; omega
  have hb : decide (p.drop (p.length - 2) = tailL (W.getD k 0)) = !(ds.getD k 0 % 2 == 1) := by
    by_cases h : ds.getD k 0 % 2 = 0
    · rw [hp, if_pos h, tail_eq, h]; simp
    · rw [hp, if_neg h, List.append_nil]
      rw [decide_eq_false (tail_ne _ _), show ds.getD k 0 % 2 = 1 from by omega]; rfl
  rw [zbody_eq]
  refine vss_cons (z0 (by omega) hG ?_)
  rw [pc]
  refine vss_cons (z1 (by omega) hF (by omega) hds hle ?_)
  refine vss_cons (z2 (b := (ds.getD k 0 % 2 == 1)) (by simp; omega) (by simp; omega) hW hwk pl hb ?_)
  have f1 : ((F.set k (F.getD k 0 - ds.getD k 0)).set k ((F.set k (F.getD k 0 - ds.getD k 0)).getD k 0 + (ds.getD k 0 % 2 == 1).toNat)) = fr1 W ds F k := by
    rw [getD_set_self (by omega), set_set]
    unfold fr1
    have : (ds.getD k 0 % 2 == 1).toNat = ds.getD k 0 % 2 := by
      have h : ds.getD k 0 % 2 = 0 ∨ ds.getD k 0 % 2 = 1 := by omega
      rcases h with h | h <;> rw [h] <;> rfl
    rw [this]
  rw [f1]
  have g1 : (G.set k (ds.getD k 0 / 2)).getD k 0 = ds.getD k 0 / 2 := getD_set_self (by omega)
  refine vss_cons (z3 (by simp; omega) (by simp; omega) (by simp [fr1]; omega) hW hw (by rw [g1]; exact h2) ?_)
  rw [g1]
  exact q
end Mine

-- part WI2
open PySem PySem.Challenge
set_option Elab.async false
set_option maxRecDepth 100000
set_option linter.unusedVariables false
set_option linter.unusedSimpArgs false
namespace Mine
open Builtin Builtin.Str Builtin.Int

variable {t : Tok} {W ds F G : List Nat} {av mv nv : V} {k : Nat} {p : List Nat} {K : Out → Prop}

theorem getD_set_ne {l : List Nat} {k j v : Nat} (h : j ≠ k) : (l.set k v).getD j 0 = l.getD j 0 := by
  rw [List.getD_eq_getElem?_getD, List.getElem?_set, if_neg (Ne.symm h), ← List.getD_eq_getElem?_getD]
theorem le_set_add {l : List Nat} {i j v : Nat} : l.getD j 0 ≤ (l.set i (l.getD i 0 + v)).getD j 0 := by
  by_cases h : j = i
  · subst h
    by_cases hl : j < l.length
    · rw [getD_set_self hl]; exact Nat.le_add_right _ _
    · rw [show l.getD j 0 = 0 from by rw [List.getD_eq_getElem?_getD, List.getElem?_eq_none (Nat.le_of_not_lt hl)]; rfl]; exact Nat.zero_le _
  · rw [getD_set_ne h]; exact Nat.le_refl _
theorem fr1_len : (fr1 W ds F k).length = F.length := List.length_set
theorem fr2_len : (fr2 W ds F k).length = F.length := by
  unfold fr2
  split
  · rw [List.length_set, fr1_len]
  · exact fr1_len
theorem fr2_ge {j : Nat} (h : j ≠ k) : F.getD j 0 ≤ (fr2 W ds F k).getD j 0 := by
  have e : (fr1 W ds F k).getD j 0 = F.getD j 0 := getD_set_ne h
  unfold fr2
  split
  · rw [← e]; exact le_set_add
  · rw [e]; exact Nat.le_refl _

noncomputable def zIts (W ds : List Nat) (k n : Nat) : List V := zipV ((List.range' k n).map fun j : Nat => V.int (j : Nat)) ((pcsL ((W.drop k).zip (ds.drop k))).map fun p => V.str (mkS p))
theorem drop_getD {l : List Nat} {k : Nat} (h : k < l.length) : l.drop k = l.getD k 0 :: l.drop (k + 1) := by
  rw [List.drop_eq_getElem_cons h, List.getD_eq_getElem?_getD, List.getElem?_eq_getElem h]; rfl
theorem zIts_cons {n : Nat} (hk : k < W.length) (hd : k < ds.length) : zIts W ds k (n + 1) = .tup [.int (k : Nat), .str (mkS (List.replicate (ds.getD k 0 / 2) 34 ++ (if ds.getD k 0 % 2 = 0 then tailL (W.getD k 0) else [])))] ::
    (if ds.getD k 0 % 2 = 0 then zIts W ds (k + 1) n else []) := by
  unfold zIts
  rw [drop_getD hk, drop_getD hd, List.range'_succ, List.map_cons, List.zip_cons_cons]
  by_cases h : ds.getD k 0 % 2 = 0
  · rw [show pcsL ((W.getD k 0, ds.getD k 0) :: (W.drop (k + 1)).zip (ds.drop (k + 1))) = (List.replicate (ds.getD k 0 / 2) 34 ++ tailL (W.getD k 0)) :: pcsL ((W.drop (k + 1)).zip (ds.drop (k + 1))) from if_pos h, if_pos h, if_pos h]
    rfl
  · rw [show pcsL ((W.getD k 0, ds.getD k 0) :: (W.drop (k + 1)).zip (ds.drop (k + 1))) = [List.replicate (ds.getD k 0 / 2) 34] from if_neg h, if_neg h, if_neg h, List.append_nil]
    rw [List.map_cons, List.map_nil]
    unfold zipV
    rw [List.zipWith_cons_cons, List.zipWith_nil_right]
noncomputable abbrev zV (t : Tok) (its : List V) (Γ : Ctx) (K : Out → Prop) : Prop := vFor (fun Γ K => vss (P4 t) ow4 33 scR (inB (rS 4)) Γ K) (fun Γ K => vss (P4 t) ow4 33 scR [] Γ K) (forTgt (rS 4)) its Γ K
structure WOk (W ds : List Nat) : Prop where
  hW : W.length = 8
  hds : ds.length = 8
  hw : ∀ w ∈ W, w ≤ 4000
  h2 : ∀ k, k < 8 → 0 < ds.getD k 0 / 2 → 2 * W.getD k 0 ∈ W
  hd : ∀ k, ds.getD k 0 ≤ 100
theorem zloop (o : WOk W ds) : ∀ (n k : Nat) (F G : List Nat) (C : Ctx), k + n = 8 → F.length = 8 → G.length = 8 → (∀ j, k ≤ j → ds.getD j 0 ≤ F.getD j 0) → (C = [] ∨ ∃ j p, C = kp j p) →
    (∀ C', K (.next (cR W ds av mv nv (readF W ds n k F G).1 (readF W ds n k F G).2 C'))) → zV t (zIts W ds k n) (cR W ds av mv nv F G C) K
  | 0, k, F, G, C, hk, hF, hG, hle, hC, q => by
    show zV t [] _ K
    exact q C
  | n + 1, k, F, G, C, hk, hF, hG, hle, hC, q => by
    have k8 : k < 8 := by rw [← hk]; exact Nat.lt_add_of_pos_right (Nat.succ_pos n)
    rw [zIts_cons (by rw [o.hW]; exact k8) (by rw [o.hds]; exact k8)]
    have st := fun K' q' => zturn (t := t) (av := av) (mv := mv) (nv := nv) (K := K') k8 hF hG o.hW o.hds o.hw (o.h2 k k8) (hle k (Nat.le_refl _)) (o.hd k) rfl q'
    have go : ∀ r, zV t r (cR W ds av mv nv (fr2 W ds F k) (G.set k (ds.getD k 0 / 2)) (kp k (List.replicate (ds.getD k 0 / 2) 34 ++ (if ds.getD k 0 % 2 = 0 then tailL (W.getD k 0) else [])))) K → zV t (.tup [.int (k : Nat), .str (mkS (List.replicate (ds.getD k 0 / 2) 34 ++ (if ds.getD k 0 % 2 = 0 then tailL (W.getD k 0) else [])))] :: r) (cR W ds av mv nv F G C) K := fun r hr => by
      refine vFor_step _ rfl ?_
      rcases hC with rfl | ⟨j, p, rfl⟩
      · exact st _ (forK_next hr)
      · exact st _ (forK_next hr)
    refine go _ ?_
    clear go st
    unfold readF at q
    by_cases h : ds.getD k 0 % 2 = 0
    · rw [if_pos h] at q ⊢
      refine zloop o n (k + 1) _ _ _ (by rw [Nat.add_assoc, Nat.add_comm 1]; exact hk) (fr2_len.trans hF) (List.length_set.trans hG) (fun j hj => Nat.le_trans (hle j (Nat.le_of_succ_le hj)) (fr2_ge (Nat.ne_of_gt hj))) (.inr ⟨_, _, rfl⟩) q
    · rw [if_neg h] at q ⊢
      exact q _
end Mine

-- part WJ2
open PySem PySem.Challenge
set_option Elab.async false
set_option maxRecDepth 100000
set_option linter.unusedVariables false
set_option linter.unusedSimpArgs false
namespace Mine
open Builtin Builtin.Str Builtin.Int

variable {t : Tok} {W ds F G : List Nat} {av mv nv : V} {k : Nat} {p : List Nat} {K : Out → Prop}

noncomputable abbrev rΓ (W ds : List Nat) (a : Nat) (C : Ctx) : Ctx := (nm "weights", Ent.val (.list (intsV W))) :: (nm "dots", Ent.val (.list (intsV ds))) :: (nm "at", Ent.val (.int (a : Nat))) :: C
theorem pick_ints {l : List Nat} {a : Nat} (h : a ≤ l.length) : vPick (intsV l) (some (a : Int)) none none = intsV (l.drop a) := by
  rw [vpick_drop (intsV l) (by rw [ints_len]; exact h), intsV, ← List.map_drop]; rfl
theorem getD_drop_le {l : List Nat} {a n : Nat} (h : ∀ k, l.getD k 0 ≤ n) : ∀ k, (l.drop a).getD k 0 ≤ n := fun k => by
  rw [List.getD_eq_getElem?_getD, List.getElem?_drop, ← List.getD_eq_getElem?_getD]; exact h _
theorem getD_le_mem {l : List Nat} {n : Nat} (h : ∀ w ∈ l, w ≤ n) (k : Nat) : l.getD k 0 ≤ n := by
  rw [List.getD_eq_getElem?_getD]
  cases e : l[k]? with
  | none => exact Nat.zero_le _
  | some y => exact h y (List.mem_of_getElem? e)
theorem r0 {a : Nat} (o : WOk W ds) (ha : a ≤ 8) (q : K (.next (rΓ W ds a [(nm "mail", .val (.str (mkS (mailP ((W.drop a).zip (ds.drop a))))))]))) : vs (P4 t) ow4 38 scR (rS 0) (rΓ W ds a []) K := by
  have l1 : (intsV W).length ≤ 16777216 := by rw [ints_len, o.hW]; decide
  have l2 : (intsV ds).length ≤ 16777216 := by rw [ints_len, o.hds]; decide
  have lW : (W.drop a).length = 8 - a := by rw [List.length_drop, o.hW]
  have lD : (ds.drop a).length = 8 - a := by rw [List.length_drop, o.hds]
  refine ⟨⟨l1, fun e => by cases e⟩, ?_⟩
  rw [pick_ints (by rw [o.hW]; exact ha)]
  refine ⟨⟨l2, fun e => by cases e⟩, ?_⟩
  rw [pick_ints (by rw [o.hds]; exact ha)]
  refine ⟨_, .inl ⟨rfl, W.drop a, ds.drop a, 0, by rw [lW, lD], by rw [lW]; exact Nat.sub_le _ _, getD_drop_le (getD_le_mem o.hw), getD_drop_le o.hd, rfl, rfl⟩, ?_⟩
  rw [mailF_zip _ _ (by rw [lW, lD])]
  exact q
theorem zip_le {W ds : List Nat} (o : WOk W ds) (a : Nat) : ∀ p ∈ (W.drop a).zip (ds.drop a), p.2 ≤ 100 := fun p hp => by
  have hm : p.2 ∈ ds := List.mem_of_mem_drop (List.of_mem_zip (show (p.1, p.2) ∈ _ from hp)).2
  obtain ⟨i, hi, e⟩ := List.getElem_of_mem hm
  rw [← e]
  have := o.hd i
  rw [List.getD_eq_getElem?_getD, List.getElem?_eq_getElem hi] at this
  exact this
theorem mailP_len : ∀ (ps : List (Nat × Nat)), (∀ p ∈ ps, p.2 ≤ 100) → (mailP ps).length ≤ ps.length * 104
  | [], _ => Nat.zero_le _
  | p :: r, h => by
    have ih := mailP_len r fun q hq => h q (List.mem_cons_of_mem _ hq)
    have hp := h p (.head _)
    show (rowW p.1 p.2 ++ [13, 10] ++ mailP r).length ≤ _
    rw [List.length_append, List.length_append, rowW_len]
    have e : (p :: r).length * 104 = r.length * 104 + 104 := Nat.succ_mul _ _
    rw [e]
    show p.2 + 2 + 2 + _ ≤ _
    omega
theorem r1 {a : Nat} {ps : List (Nat × Nat)} (hp : ∀ p ∈ ps, p.2 ≤ 100) (hl : ps.length ≤ 8) (q : K (.next (rΓ W ds a [(nm "mail", .val (.str (mkS (mailP ps)))), (nm "name", .val (.str (mkS (txtL ps))))]))) : vs (P4 t) ow4 37 scR (rS 1) (rΓ W ds a [(nm "mail", .val (.str (mkS (mailP ps))))]) K := by
  have ml := mailP_len ps hp
  have ml2 : (mailP ps).length ≤ 1000 := by omega
  have rp : Txt.replace (mkS (mailP ps)) (Str.ofString ".") (Str.ofString "\"") = mkS (sw 46 34 (mailP ps)) := replace_list _ 46 34
  have swl : (sw 46 34 (mailP ps)).length = (mailP ps).length := by rw [sw, List.length_map]
  refine ⟨⟨by decide +kernel, by rw [mkS_len]; exact Nat.le_trans ml2 (by decide), by decide⟩, ?_⟩
  rw [rp]
  refine ⟨by rw [mkS_len, swl]; show 5 + _ ≤ _; omega, ?_⟩
  rw [show Str.ofString "257 \"" ++ mkS (sw 46 34 (mailP ps)) = mkS (50 :: 53 :: 55 :: 32 :: 34 :: sw 46 34 (mailP ps)) from mkS_app [50, 53, 55, 32, 34] _]
  refine ⟨_, .inr (.inr ⟨rfl, sw 46 34 (mailP ps), _, by rw [swl]; omega, unq_mail ps, rfl, rfl⟩), ?_⟩
  exact q
theorem r2 {a : Nat} (o : WOk W ds) (q : K (.next (rΓ W ds a [(nm "mail", .val mv), (nm "name", .val nv), (nm "fresh", .own (intsV ds))]))) : vs (P4 t) ow4 36 scR (rS 2) (rΓ W ds a [(nm "mail", .val mv), (nm "name", .val nv)]) K := by
  refine ⟨rfl, by rw [ints_len, o.hds]; decide, ?_⟩
  exact q
theorem r3 {a : Nat} (q : K (.next (rΓ W ds a [(nm "mail", .val mv), (nm "name", .val nv), (nm "fresh", .own (intsV ds)), (nm "given", .own (intsV [0, 0, 0, 0, 0, 0, 0, 0]))]))) : vs (P4 t) ow4 35 scR (rS 3) (rΓ W ds a [(nm "mail", .val mv), (nm "name", .val nv), (nm "fresh", .own (intsV ds))]) K := by
  refine ⟨⟨by decide, by decide⟩, ?_⟩
  exact q
theorem rng_at {a : Nat} (ha : a ≤ 8) : ((List.range ((8 : Int) - (a : Int)).toNat).map fun k : Nat => V.int ((a : Int) + (k : Nat))) = (List.range' a (8 - a)).map fun j : Nat => V.int (j : Nat) := by
  rw [show ((8 : Int) - (a : Int)).toNat = 8 - a from congrArg Int.toNat (Int.ofNat_sub ha).symm, List.range'_eq_map_range, List.map_map]
  rfl
theorem pcsL_len : ∀ ps : List (Nat × Nat), (pcsL ps).length ≤ ps.length + 1
  | [] => Nat.le_refl _
  | p :: r => by
    unfold pcsL
    split
    · exact Nat.succ_le_succ (pcsL_len r)
    · exact Nat.succ_le_succ (Nat.zero_le _)
noncomputable abbrev g8 : List Nat := [0, 0, 0, 0, 0, 0, 0, 0]
theorem r4 {a : Nat} {ps : List (Nat × Nat)} (hp : ∀ p ∈ ps, p.2 ≤ 100) (hl : ps.length ≤ 8) (ha : a ≤ 8) (q : zV t (zipV ((List.range' a (8 - a)).map fun j : Nat => V.int (j : Nat)) ((pcsL ps).map fun p => V.str (mkS p))) (cR W ds (.int (a : Nat)) mv (.str (mkS (txtL ps))) F G []) K) :
    vs (P4 t) ow4 34 scR (rS 4) (rΓ W ds a [(nm "mail", .val mv), (nm "name", .val (.str (mkS (txtL ps)))), (nm "fresh", .own (intsV F)), (nm "given", .own (intsV G))]) K := by
  have tl : (mkS (txtL ps)).length ≤ 1000000 := by rw [mkS_len]; exact Nat.le_trans (txtL_len _ hp) (by omega)
  have pl : ((pcsL ps).map fun p => V.str (mkS p)).length ≤ 16777216 := by rw [List.length_map]; exact Nat.le_trans (pcsL_len ps) (by omega)
  have b1 : -(2 ^ 61 : Int) ≤ (a : Int) := by omega
  have b2 : (a : Int) < 2 ^ 61 := by omega
  have b3 : (8 : Int) - (a : Int) ≤ 16777216 := by omega
  have sp : (Txt.split (mkS (txtL ps)) (Str.ofString "\r\n")).map V.str = (pcsL ps).map fun p => V.str (mkS p) := by
    rw [show Txt.split (mkS (txtL ps)) (Str.ofString "\r\n") = (pcsL ps).map mkS from split_txt _, List.map_map]; rfl
  have rg := rng_at ha
  rw [← rg, ← sp] at q
  rw [← sp] at pl
  clear rg sp hp hl ha
  refine ⟨⟨⟨rfl, rfl, rfl⟩, rfl, rfl, rfl⟩, ?_⟩
  refine ⟨⟨b1, b2, by decide, by decide⟩, ?_⟩
  refine ⟨⟨by decide, tl⟩, ?_⟩
  refine ⟨⟨⟨b1, b2, b3, by decide, by decide⟩, pl⟩, ?_⟩
  exact q

theorem vc_read (t : Tok) (W ds : List Nat) (a : Nat) (o : WOk W ds) (ha : a ≤ 8) :
    vss (P4 t) [nm "fresh", nm "given"] 39 (scopeOf pw_ty0004_02 19) (bodyOf pw_ty0004_02 19) [(nm "weights", .val (.list (intsV W))), (nm "dots", .val (.list (intsV ds))), (nm "at", .val (.int (a : Nat)))]
      (fun out => out = .ret (.tup [.list (intsV (readF W ds (8 - a) a ds [0, 0, 0, 0, 0, 0, 0, 0]).1), .list (intsV (readF W ds (8 - a) a ds [0, 0, 0, 0, 0, 0, 0, 0]).2)])) := by
  show vss (P4 t) ow4 39 scR [rS 0, rS 1, rS 2, rS 3, rS 4, rS 5] (rΓ W ds a []) _
  have zl : ((W.drop a).zip (ds.drop a)).length ≤ 8 := by rw [List.length_zip, List.length_drop, List.length_drop, o.hW, o.hds, Nat.min_self]; exact Nat.sub_le _ _
  refine vss_cons (r0 o ha ?_)
  refine vss_cons (r1 (zip_le o a) zl ?_)
  refine vss_cons (r2 o ?_)
  refine vss_cons (r3 ?_)
  refine vss_cons (r4 (zip_le o a) zl ha (zloop o (8 - a) a ds g8 [] (Nat.add_sub_cancel' ha) o.hds rfl (fun j _ => Nat.le_refl _) (.inl rfl) fun C' => ?_))
  exact Eq.refl (Out.ret (V.tup [V.list (intsV (readF W ds (8 - a) a ds [0, 0, 0, 0, 0, 0, 0, 0]).1), V.list (intsV (readF W ds (8 - a) a ds [0, 0, 0, 0, 0, 0, 0, 0]).2)]))
end Mine

-- part WK2
open PySem PySem.Challenge
set_option Elab.async false
set_option maxRecDepth 100000
set_option linter.unusedVariables false
set_option linter.unusedSimpArgs false
namespace Mine
open Builtin Builtin.Str Builtin.Int

noncomputable def wIn (nu hd : Nat) : List Nat → Nat → Nat
  | [], w => w
  | k :: r, w => wIn nu hd r (w * (hd * nu + k) / k)
noncomputable def wOut (nu : Nat) : List Nat → Nat → Nat
  | [], w => w
  | h :: r, w => wOut nu r (wIn nu h (List.range' 1 nu) w)
noncomputable def twoF : Nat → Nat → Nat
  | 0, _ => 0
  | n + 1, w => if w % 2 = 0 then twoF n (w / 2) + 1 else 0
noncomputable abbrev scT : Names := scopeOf pw_ty0004_02 20
noncomputable abbrev tS (j : Nat) : Stmt := nthS (bodyOf pw_ty0004_02 20) j
noncomputable abbrev tI : Stmt := nthS (inB (tS 1)) 0
noncomputable abbrev tΓ (nu hn w : Nat) (C : Ctx) : Ctx := (nm "number", Ent.val (.int (nu : Nat))) :: (nm "hands", Ent.val (.int (hn : Nat))) :: (nm "ways", Ent.val (.int (w : Nat))) :: C
section
variable {t : Tok} {nu hn hn' w h k : Nat} {K : Out → Prop}
theorem t_turn (hh : h < 1000) (hk : 0 < k) (hk2 : k < 8000) (hb : h * nu + k < 1000) (q : K (.next (tΓ nu hn (w * (h * nu + k) / k) [(nm "hand", .val (.int (h : Nat))), (nm "k", .val (.int (k : Nat)))]))) :
    vss (P1 t) [] 34 scT (inB tI) (tΓ nu hn w [(nm "hand", .val (.int (h : Nat))), (nm "k", .val (.int (k : Nat)))]) K := by
  have e1 : ((h : Int) * (nu : Int) + (k : Int)) = ((h * nu + k : Nat) : Int) := by rw [← Int.natCast_mul, ← Int.natCast_add]
  have e2 : ((w : Int) * ((h * nu + k : Nat) : Int)).fdiv (k : Int) = ((w * (h * nu + k) / k : Nat) : Int) := by rw [← Int.natCast_mul, fdiv_nat]
  refine ⟨IntMulOk.of_left (Nat.le_trans (bits_small (i := ((h : Nat) : Int)) hh) (by decide)), ?_⟩
  refine ⟨IntMulOk.of_right (by rw [e1]; exact Nat.le_trans (bits_small (i := ((h * nu + k : Nat) : Int)) hb) (by decide)), ?_⟩
  refine ⟨⟨Int.ne_of_gt (Int.ofNat_lt.mpr hk), by rw [e1, ← Int.natCast_mul]; exact pylong_nat _ k hk2⟩, ?_⟩
  unfold tΓ at q
  rw [← e2, ← e1] at q
  exact q
theorem t_inner (hh : h < 100) (hnu : nu ≤ 40) : ∀ (ks : List Nat) (w : Nat) (C : Ctx), (∀ k ∈ ks, 0 < k ∧ k ≤ 40) → (C = [] ∨ ∃ a, C = [(nm "k", Ent.val a)]) → h * nu ≤ 900 →
    (∀ C', (C' = [] ∨ ∃ a, C' = [(nm "k", Ent.val a)]) → K (.next (tΓ nu hn' (wIn nu h ks w) ((nm "hand", .val (.int (h : Nat))) :: C')))) →
    vFor (fun Γ K => vss (P1 t) [] 34 scT (inB tI) Γ K) (fun Γ K => vss (P1 t) [] 34 scT [] Γ K) (forTgt tI) (ks.map fun j : Nat => V.int (j : Nat)) (tΓ nu hn' w ((nm "hand", .val (.int (h : Nat))) :: C)) K
  | [], w, C, hk, hC, hb, q => q C hC
  | k :: ks, w, C, hk, hC, hb, q => by
    have ⟨k0, k1⟩ := hk k (.head _)
    have st := fun K' q' => t_turn (t := t) (hn := hn') (w := w) (K := K') (Nat.lt_trans hh (by decide)) k0 (Nat.lt_of_le_of_lt k1 (by decide)) (show h * nu + k < 1000 by omega) q'
    have nx := t_inner hh hnu ks (w * (h * nu + k) / k) [(nm "k", .val (.int (k : Nat)))] (fun j hj => hk j (List.mem_cons_of_mem _ hj)) (.inr ⟨_, rfl⟩) hb q
    rw [List.map_cons]
    refine vFor_step _ rfl ?_
    rcases hC with rfl | ⟨a, rfl⟩
    · exact st _ (forK_next nx)
    · exact st _ (forK_next nx)
theorem t_hand {C : Ctx} (hh : h < 100) (hnu : nu ≤ 40) (hb : h * nu ≤ 900) (hC : C = [] ∨ ∃ a, C = [(nm "k", Ent.val a)])
    (q : ∀ C', (C' = [] ∨ ∃ a, C' = [(nm "k", Ent.val a)]) → K (.next (tΓ nu hn (wIn nu h (List.range' 1 nu) w) ((nm "hand", .val (.int (h : Nat))) :: C')))) :
    vs (P1 t) [] 35 scT tI (tΓ nu hn w ((nm "hand", .val (.int (h : Nat))) :: C)) K := by
  have e : ((nu : Int) + 1 - ((1 : Nat) : Int)).toNat = nu := by omega
  have b1 : (nu : Int) + 1 < 2 ^ 61 := by omega
  have b0 : -(2 ^ 61 : Int) ≤ (nu : Int) + 1 := by omega
  have b2 : (nu : Int) + 1 - 1 ≤ 16777216 := by omega
  have b3 : (nu : Int) + 1 < 2 ^ 62 := by omega
  have b4 : -(2 ^ 62 : Int) ≤ (nu : Int) + 1 := by omega
  have lp := t_inner (t := t) (hn' := hn) hh hnu (List.range' 1 nu) w C (fun k hk => by
    obtain ⟨i, hi, rfl⟩ := List.mem_range'.mp hk
    exact ⟨by omega, by omega⟩) hC hb q
  rw [← rng_nat e] at lp
  clear e
  rcases hC with rfl | ⟨a, rfl⟩
  · refine ⟨⟨by decide, by decide, b0, b1⟩, ?_⟩
    refine ⟨⟨by decide, by decide, b2, b3, b4⟩, ?_⟩
    exact lp
  · refine ⟨⟨by decide, by decide, b0, b1⟩, ?_⟩
    refine ⟨⟨by decide, by decide, b2, b3, b4⟩, ?_⟩
    exact lp
theorem t_outer (hnu : nu ≤ 40) : ∀ (hs : List Nat) (w : Nat) (C : Ctx), (∀ h ∈ hs, h < 8) → (C = [] ∨ ∃ a C', C = (nm "hand", Ent.val a) :: C' ∧ (C' = [] ∨ ∃ b, C' = [(nm "k", Ent.val b)])) →
    (∀ C', (C' = [] ∨ ∃ a C2, C' = (nm "hand", Ent.val a) :: C2 ∧ (C2 = [] ∨ ∃ b, C2 = [(nm "k", Ent.val b)])) → K (.next (tΓ nu hn (wOut nu hs w) C'))) →
    vFor (fun Γ K => vss (P1 t) [] 36 scT (inB (tS 1)) Γ K) (fun Γ K => vss (P1 t) [] 36 scT [] Γ K) (forTgt (tS 1)) (hs.map fun j : Nat => V.int (j : Nat)) (tΓ nu hn w C) K
  | [], w, C, hh, hC, q => q C hC
  | h :: hs, w, C, hh, hC, q => by
    have h8 := hh h (.head _)
    have hb : h * nu ≤ 900 := Nat.le_trans (Nat.mul_le_mul (Nat.le_of_lt h8) hnu) (by decide)
    have nx : ∀ C', (C' = [] ∨ ∃ a, C' = [(nm "k", Ent.val a)]) → vFor (fun Γ K => vss (P1 t) [] 36 scT (inB (tS 1)) Γ K) (fun Γ K => vss (P1 t) [] 36 scT [] Γ K) (forTgt (tS 1)) (hs.map fun j : Nat => V.int (j : Nat)) (tΓ nu hn (wIn nu h (List.range' 1 nu) w) ((nm "hand", .val (.int (h : Nat))) :: C')) K := fun C' hC' =>
      t_outer hnu hs _ _ (fun j hj => hh j (List.mem_cons_of_mem _ hj)) (.inr ⟨_, _, rfl, hC'⟩) q
    rw [List.map_cons]
    refine vFor_step _ rfl ?_
    have st : ∀ C2, (C2 = [] ∨ ∃ b, C2 = [(nm "k", Ent.val b)]) → ∀ K' : Out → Prop, (∀ C', (C' = [] ∨ ∃ a, C' = [(nm "k", Ent.val a)]) → K' (.next (tΓ nu hn (wIn nu h (List.range' 1 nu) w) ((nm "hand", .val (.int (h : Nat))) :: C')))) → vss (P1 t) [] 36 scT (inB (tS 1)) (tΓ nu hn w ((nm "hand", .val (.int (h : Nat))) :: C2)) K' := fun C2 hC2 K' q' => by
      show vss (P1 t) [] 36 scT [tI] _ _
      exact vss_cons (t_hand (t := t) (hn := hn) (w := w) (Nat.lt_trans h8 (by decide)) hnu hb hC2 q')
    rcases hC with rfl | ⟨a, C2, rfl, hC2⟩
    · exact st [] (.inl rfl) _ fun C' hC' => forK_next (nx C' hC')
    · exact st C2 hC2 _ fun C' hC' => forK_next (nx C' hC')
end
inductive HK : Ctx → Prop
  | a : HK []
  | b (x : Ent) : HK [(nm "hand", x)]
  | c (x y : Ent) : HK [(nm "hand", x), (nm "k", y)]
theorem HK.of {C : Ctx} (h : C = [] ∨ ∃ a C2, C = (nm "hand", Ent.val a) :: C2 ∧ (C2 = [] ∨ ∃ b, C2 = [(nm "k", Ent.val b)])) : HK C := by
  rcases h with rfl | ⟨a, C2, rfl, rfl | ⟨b, rfl⟩⟩
  · exact .a
  · exact .b _
  · exact .c _ _
noncomputable def whT (s : Stmt) : Expr := match s with | .While t _ _ _ => t | _ => default
noncomputable def whB (s : Stmt) : List Stmt := match s with | .While _ b _ _ => b | _ => []
section
variable {t : Tok} {nu hn w s : Nat} {C : Ctx} {K : Out → Prop}
theorem t_test (hC : HK C) {Q : Bool → Prop} (q : Q (((w % 2 : Nat) : Int) == 0)) : vt (P1 t) 34 scT (whT (tS 3)) (tΓ nu hn w (C ++ [(nm "twos", .val (.int (s : Nat)))])) Q := by
  rw [← fmod_nat w 2] at q
  cases hC <;> exact ⟨by decide, q⟩
theorem t_half (hC : HK C) (q : K (.next (tΓ nu hn (w / 2) (C ++ [(nm "twos", .val (.int (s : Nat)))])))) : vs (P1 t) [] 33 scT (nthS (whB (tS 3)) 0) (tΓ nu hn w (C ++ [(nm "twos", .val (.int (s : Nat)))])) K := by
  unfold tΓ at q
  rw [← fdiv_nat w 2] at q
  cases hC <;> exact ⟨⟨by decide, pylong_nat w 2 (by decide)⟩, q⟩
theorem t_more (hC : HK C) (q : K (.next (tΓ nu hn w (C ++ [(nm "twos", .val (.int ((s + 1 : Nat) : Int)))])))) : vs (P1 t) [] 32 scT (nthS (whB (tS 3)) 1) (tΓ nu hn w (C ++ [(nm "twos", .val (.int (s : Nat)))])) K := by
  cases hC <;> exact q
noncomputable abbrev tW (t : Tok) (m : Nat) (Γ : Ctx) (K : Out → Prop) : Prop := vWhile (fun Γ K => vt (P1 t) 34 scT (whT (tS 3)) Γ K) (fun Γ K => vss (P1 t) [] 34 scT (whB (tS 3)) Γ K) m Γ K
theorem t_while (hC : HK C) : ∀ (m w s : Nat), 0 < w → w < 2 ^ m → (∀ w', K (.next (tΓ nu hn w' (C ++ [(nm "twos", .val (.int ((s + twoF m w : Nat) : Int)))])))) → tW t (m + 1) (tΓ nu hn w (C ++ [(nm "twos", .val (.int (s : Nat)))])) K
  | 0, w, s, h0, h1, q => absurd h1 (Nat.not_lt.mpr h0)
  | m + 1, w, s, h0, h1, q => by
    have e : w % 2 = 0 → (s + twoF (m + 1) w) = s + 1 + twoF m (w / 2) := fun h => by
      show s + (if w % 2 = 0 then twoF m (w / 2) + 1 else 0) = _
      rw [if_pos h]; omega
    have e2 : ¬ w % 2 = 0 → (s + twoF (m + 1) w) = s := fun h => by
      show s + (if w % 2 = 0 then twoF m (w / 2) + 1 else 0) = _
      rw [if_neg h]; rfl
    unfold tW vWhile
    refine t_test hC ⟨fun hb => ?_, fun hb => ?_⟩
    · have hz : w % 2 = 0 := by have := eq_of_beq hb; omega
      rw [e hz] at q
      have nx := t_while hC m (w / 2) (s + 1) (by omega) (by rw [Nat.pow_succ] at h1; omega) q
      refine vss_cons (t_half hC ?_)
      refine vss_cons (t_more hC ?_)
      exact nx
    · have hz : ¬ w % 2 = 0 := fun h => by rw [h] at hb; cases hb
      rw [e2 hz] at q
      exact q w
theorem t_ret (hC : HK C) {v : Int} (q : K (.ret (.int v))) : vss (P1 t) [] 35 scT [tS 4] (tΓ nu hn w (C ++ [(nm "twos", .val (.int v))])) K := by
  cases hC <;> exact q
theorem t_zero (hC : HK C) (q : K (.next (tΓ nu hn w (C ++ [(nm "twos", .val (.int ((0 : Nat) : Int)))])))) : vs (P1 t) [] 36 scT (tS 2) (tΓ nu hn w C) K := by
  cases hC <;> exact q
end
noncomputable def waysF (nu hn : Nat) : Nat := wOut nu (List.range' 0 hn) 1
noncomputable def twosF (nu hn : Nat) : Nat := twoF 1000 (waysF nu hn)
theorem vc_twos (t : Tok) (nu hn : Nat) (hnu : nu ≤ 40) (hhn : hn ≤ 8) (h0 : 0 < waysF nu hn) (h1 : waysF nu hn < 2 ^ 1000) :
    vss (P1 t) [] 39 (scopeOf pw_ty0004_02 20) (bodyOf pw_ty0004_02 20) [(nm "number", .val (.int (nu : Nat))), (nm "hands", .val (.int (hn : Nat)))] (fun out => out = .ret (.int (twosF nu hn : Nat))) := by
  have b0 : -(2 ^ 62 : Int) ≤ (hn : Int) := by omega
  have b1 : (hn : Int) < 2 ^ 62 := by omega
  have b2 : (hn : Int) - 0 ≤ 16777216 := by omega
  have e : ((hn : Int) - ((0 : Nat) : Int)).toNat = hn := by omega
  show vss (P1 t) [] 39 scT [tS 0, tS 1, tS 2, tS 3, tS 4] _ _
  refine vss_cons ?_
  show vss (P1 t) [] 38 scT [tS 1, tS 2, tS 3, tS 4] (tΓ nu hn 1 []) _
  refine vss_cons ?_
  refine ⟨⟨b0, b1⟩, ?_⟩
  refine ⟨⟨by decide, by decide, b2, b1, b0⟩, ?_⟩
  have lp := fun K q => t_outer (t := t) (hn := hn) (K := K) hnu (List.range' 0 hn) 1 [] (fun h hh => by
    obtain ⟨i, hi, rfl⟩ := List.mem_range'.mp hh
    omega) (.inl rfl) q
  rw [← rng_nat e] at lp
  refine lp _ fun C' hC' => ?_
  have hC := HK.of hC'
  refine vss_cons (t_zero hC ?_)
  refine vss_cons ?_
  refine ⟨1001, ?_⟩
  refine t_while hC 1000 (waysF nu hn) 0 h0 h1 fun w' => ?_
  rw [Nat.zero_add]
  exact t_ret hC rfl
end Mine

-- part WL2
open PySem PySem.Challenge
set_option Elab.async false
set_option maxRecDepth 100000
set_option linter.unusedVariables false
set_option linter.unusedSimpArgs false
namespace Mine
open Builtin Builtin.Str Builtin.Int

noncomputable def updF (φ : Nat → Nat) (w v : Nat) : Nat → Nat := fun x => if x = w then v else φ x
theorem updF_self (φ : Nat → Nat) (w v : Nat) : updF φ w v w = v := if_pos rfl
theorem updF_ne {φ : Nat → Nat} {w v x : Nat} (h : x ≠ w) : updF φ w v x = φ x := if_neg h
theorem nodup_inj {l : List Nat} (nd : l.Nodup) {i j : Nat} (hi : i < l.length) (hj : j < l.length) (e : l[i] = l[j]) : i = j := by
  rcases Nat.lt_trichotomy i j with h | h | h
  · exact absurd e (List.pairwise_iff_getElem.mp nd i j hi hj h)
  · exact h
  · exact absurd e.symm (List.pairwise_iff_getElem.mp nd j i hj hi h)
theorem map_getD {W : List Nat} {k : Nat} (hk : k < W.length) (φ : Nat → Nat) : (W.map φ).getD k 0 = φ (W.getD k 0) := by
  rw [List.getD_eq_getElem?_getD, List.getD_eq_getElem?_getD, List.getElem?_map, List.getElem?_eq_getElem hk]; rfl
theorem map_set {W : List Nat} (nd : W.Nodup) {k : Nat} (hk : k < W.length) (φ : Nat → Nat) (v : Nat) : (W.map φ).set k v = W.map (updF φ (W.getD k 0) v) := by
  have hg : W.getD k 0 = W[k] := by rw [List.getD_eq_getElem?_getD, List.getElem?_eq_getElem hk]; rfl
  rw [hg]
  apply List.ext_getElem
  · rw [List.length_set, List.length_map, List.length_map]
  · intro i h1 h2
    rw [List.getElem_set, List.getElem_map, List.getElem_map]
    unfold updF
    by_cases h : k = i
    · subst h; rw [if_pos rfl, if_pos rfl]
    · rw [if_neg h, if_neg]
      intro e
      exact h (nodup_inj nd _ _ e.symm)
noncomputable def up1 (D φ : Nat → Nat) (w : Nat) : Nat → Nat := updF φ w (φ w - D w + D w % 2)
noncomputable def up2 (D φ : Nat → Nat) (w : Nat) : Nat → Nat := if 0 < D w / 2 then updF (up1 D φ w) (2 * w) (up1 D φ w (2 * w) + D w / 2) else up1 D φ w
noncomputable def rd (D : Nat → Nat) : List Nat → (Nat → Nat) → (Nat → Nat) → (Nat → Nat) × (Nat → Nat)
  | [], φ, γ => (φ, γ)
  | w :: r, φ, γ => if D w % 2 = 0 then rd D r (up2 D φ w) (updF γ w (D w / 2)) else (up2 D φ w, updF γ w (D w / 2))
theorem rd_cons (D : Nat → Nat) (w : Nat) (r : List Nat) (φ γ : Nat → Nat) : rd D (w :: r) φ γ = if D w % 2 = 0 then rd D r (up2 D φ w) (updF γ w (D w / 2)) else (up2 D φ w, updF γ w (D w / 2)) := rfl
theorem fr2_map {W : List Nat} (nd : W.Nodup) {D φ : Nat → Nat} {k : Nat} (hk : k < W.length) (h2 : 0 < D (W.getD k 0) / 2 → 2 * W.getD k 0 ∈ W) :
    fr2 W (W.map D) (W.map φ) k = W.map (up2 D φ (W.getD k 0)) := by
  have e1 : fr1 W (W.map D) (W.map φ) k = W.map (up1 D φ (W.getD k 0)) := by
    unfold fr1
    rw [map_getD hk, map_getD hk, map_set nd hk]; rfl
  unfold fr2 up2
  rw [map_getD hk, e1]
  by_cases h : 0 < D (W.getD k 0) / 2
  · have hm := h2 h
    have hi : W.idxOf (2 * W.getD k 0) < W.length := List.idxOf_lt_length_of_mem hm
    have hw : W.getD (W.idxOf (2 * W.getD k 0)) 0 = 2 * W.getD k 0 := by
      rw [List.getD_eq_getElem?_getD, List.getElem?_eq_getElem hi]
      exact List.getElem_idxOf hi
    rw [if_pos h, if_pos h, map_getD hi, map_set nd hi, hw]
  · rw [if_neg h, if_neg h]
theorem readF_map {W : List Nat} (nd : W.Nodup) {D : Nat → Nat} (h2 : ∀ w ∈ W, 0 < D w / 2 → 2 * w ∈ W) : ∀ (n k : Nat) (φ γ : Nat → Nat), k + n = W.length →
    readF W (W.map D) n k (W.map φ) (W.map γ) = (W.map (rd D (W.drop k) φ γ).1, W.map (rd D (W.drop k) φ γ).2)
  | 0, k, φ, γ, hk => by
    have hk : k = W.length := hk
    rw [List.drop_eq_nil_of_le (Nat.le_of_eq hk.symm)]; rfl
  | n + 1, k, φ, γ, hk => by
    have k8 : k < W.length := by rw [← hk]; exact Nat.lt_add_of_pos_right (Nat.succ_pos n)
    have hm : W.getD k 0 ∈ W := by rw [List.getD_eq_getElem?_getD, List.getElem?_eq_getElem k8]; exact List.getElem_mem _
    rw [drop_getD k8]
    unfold readF
    rw [map_getD k8, fr2_map nd k8 (h2 _ hm), map_set nd k8]
    by_cases h : D (W.getD k 0) % 2 = 0
    · rw [if_pos h, readF_map nd h2 n (k + 1) _ _ (by rw [Nat.add_assoc, Nat.add_comm 1]; exact hk)]
      rw [rd_cons, if_pos h]
    · rw [if_neg h]
      rw [rd_cons, if_neg h]
noncomputable def hfG (γ : Nat → Nat) (w : Nat) : Nat := if w % 2 = 0 then γ (w / 2) else 0
theorem hfG_two (γ : Nat → Nat) (w : Nat) : hfG γ (2 * w) = γ w := by
  unfold hfG
  rw [if_pos (Nat.mul_mod_right 2 w), Nat.mul_div_cancel_left w (by decide)]
theorem wr1 {p d h : Nat} (e : p = d + h) : p - d + d % 2 + 2 * (d / 2) = d + h := by rw [e, Nat.add_sub_cancel_left, Nat.add_assoc, Nat.mod_add_div, Nat.add_comm]
theorem wr2 {p g d k : Nat} (e : p + 2 * g = d + 0) : p + k + 2 * g = d + k := by rw [Nat.add_right_comm, e, Nat.add_zero]
theorem wr3 {p g d k : Nat} (h : ¬ 0 < k) (e : p + 2 * g = d + 0) : p + 2 * g = d + k := by rw [e, Nat.eq_zero_of_not_pos h]
theorem two_ne {w : Nat} (h : 0 < w) : w ≠ 2 * w := by rw [Nat.two_mul]; exact Nat.ne_of_lt (Nat.lt_add_of_pos_right h)
theorem half_ne {x : Nat} (h : 0 < x) : x / 2 ≠ x := Nat.ne_of_lt (Nat.div_lt_self h (by decide))
theorem hf_self {γ : Nat → Nat} {x v : Nat} (h : 0 < x) : hfG (updF γ x v) x = hfG γ x := by
  unfold hfG
  rw [updF_ne (half_ne h)]
theorem hf_ne {γ : Nat → Nat} {w x v : Nat} (h : x ≠ 2 * w) : hfG (updF γ w v) x = hfG γ x := by
  unfold hfG
  by_cases h2 : x % 2 = 0
  · rw [if_pos h2, if_pos h2, updF_ne fun e => h (by rw [← e, Nat.mul_div_cancel' (Nat.dvd_of_mod_eq_zero h2)])]
  · rw [if_neg h2, if_neg h2]
theorem up2_self {D φ : Nat → Nat} {w : Nat} (h : 0 < w) : up2 D φ w w = φ w - D w + D w % 2 := by
  unfold up2
  split
  · rw [updF_ne (two_ne h)]; exact updF_self ..
  · exact updF_self ..
theorem up2_two {D φ : Nat → Nat} {w : Nat} (h : 0 < w) : up2 D φ w (2 * w) = if 0 < D w / 2 then φ (2 * w) + D w / 2 else φ (2 * w) := by
  have e : up1 D φ w (2 * w) = φ (2 * w) := updF_ne (two_ne h).symm
  unfold up2
  rw [e]
  split
  · exact updF_self ..
  · exact e
theorem up2_ne {D φ : Nat → Nat} {w x : Nat} (h1 : x ≠ w) (h2 : x ≠ 2 * w) : up2 D φ w x = φ x := by
  have e : up1 D φ w x = φ x := updF_ne h1
  unfold up2
  split
  · rw [updF_ne h2]; exact e
  · exact e
theorem rd_key {D φ γ : Nat → Nat} {w : Nat} (wp : 0 < w) (gw : γ w = 0) (hi : ∀ w, φ w + 2 * γ w = D w + hfG γ w) (x : Nat) : up2 D φ w x + 2 * updF γ w (D w / 2) x = D x + hfG (updF γ w (D w / 2)) x := by
  have hx := hi x
  by_cases e : x = w
  · subst e
    rw [gw, Nat.mul_zero, Nat.add_zero] at hx
    rw [hf_self wp, up2_self wp, updF_self]
    exact wr1 hx
  · rw [updF_ne (φ := γ) e]
    by_cases e4 : x = 2 * w
    · subst e4
      rw [hfG_two, gw] at hx
      rw [hfG_two, updF_self, up2_two wp]
      split
      · exact wr2 hx
      · rename_i h; exact wr3 h hx
    · rw [hf_ne e4, up2_ne e e4]; exact hx
theorem rd_inv {D : Nat → Nat} : ∀ (r : List Nat) (φ γ : Nat → Nat), r.Nodup → (∀ w ∈ r, 0 < w) → (∀ w ∈ r, γ w = 0) → (∀ w, φ w + 2 * γ w = D w + hfG γ w) →
    (∀ w, (rd D r φ γ).1 w + 2 * (rd D r φ γ).2 w = D w + hfG (rd D r φ γ).2 w) ∧ (∀ w, γ w ≤ (rd D r φ γ).2 w) ∧ ∀ w0 r0, r = w0 :: r0 → D w0 / 2 ≤ (rd D r φ γ).2 w0
  | [], φ, γ, nd, hp, h0, hi => ⟨hi, fun _ => Nat.le_refl _, fun _ _ e => by cases e⟩
  | w :: r, φ, γ, nd, hp, h0, hi => by
    have gw := h0 w (.head _)
    have key := rd_key (hp w (.head _)) gw hi
    have nd' := List.nodup_cons.mp nd
    have hge : ∀ x, γ x ≤ updF γ w (D w / 2) x := fun x => by
      by_cases e : x = w
      · subst e; rw [gw]; exact Nat.zero_le _
      · rw [updF_ne e]; exact Nat.le_refl _
    rw [rd_cons]
    by_cases h : D w % 2 = 0
    · rw [if_pos h]
      obtain ⟨a, c, _⟩ := rd_inv r _ (updF γ w (D w / 2)) nd'.2 (fun x hx => hp x (List.mem_cons_of_mem _ hx)) (fun x hx => by
        rw [updF_ne (fun e => by subst e; exact nd'.1 hx)]; exact h0 x (List.mem_cons_of_mem _ hx)) key
      exact ⟨a, fun x => Nat.le_trans (hge x) (c x), fun w0 r0 e => by cases e; have := c w; rw [updF_self] at this; exact this⟩
    · rw [if_neg h]
      exact ⟨key, hge, fun w0 r0 e => by cases e; show _ ≤ updF γ w (D w / 2) w; rw [updF_self]; exact Nat.le_refl _⟩
end Mine

-- part WM2
open PySem PySem.Challenge
set_option Elab.async false
set_option maxRecDepth 100000
set_option linter.unusedVariables false
set_option linter.unusedSimpArgs false
namespace Mine
open Builtin Builtin.Str Builtin.Int

noncomputable def bitN (n w : Nat) : Nat := n / w % 2
noncomputable def d0F (n f : Nat) (w : Nat) : Nat := f * bitN n w
noncomputable def gmN (n f : Nat) : Nat → Nat
  | 0 => d0F n f 1 / 2
  | e + 1 => (d0F n f (2 ^ (e + 1)) + gmN n f e) / 2
noncomputable def pvN (n f : Nat) : Nat → Nat
  | 0 => 0
  | e + 1 => gmN n f e
noncomputable def gmSum (n f : Nat) : Nat := ((List.range 8).map (gmN n f)).sum
theorem pow_half (e : Nat) : 2 ^ (e + 1) % 2 = 0 ∧ 2 ^ (e + 1) / 2 = 2 ^ e := by
  rw [Nat.pow_succ]; exact ⟨Nat.mul_mod_left _ _, Nat.mul_div_cancel _ (by decide)⟩
theorem hfG_pow (γ : Nat → Nat) (e : Nat) : hfG γ (2 ^ (e + 1)) = γ (2 ^ e) := by
  unfold hfG
  rw [if_pos (pow_half e).1, (pow_half e).2]
theorem hfG_one (γ : Nat → Nat) : hfG γ 1 = 0 := rfl
theorem half_le2 {a b c : Nat} (h : a + 2 * b = c) : b ≤ c / 2 := (Nat.le_div_iff_mul_le (by decide)).mpr (by rw [← h, Nat.mul_comm]; exact Nat.le_add_left _ _)
theorem gm_ge {n f : Nat} {D γ : Nat → Nat} (h : ∀ w, D w + 2 * γ w = d0F n f w + hfG γ w) : ∀ e, γ (2 ^ e) ≤ gmN n f e
  | 0 => by
    have h1 := h 1
    rw [hfG_one, Nat.add_zero] at h1
    exact half_le2 h1
  | e + 1 => by
    have h1 := h (2 ^ (e + 1))
    rw [hfG_pow] at h1
    exact Nat.le_trans (half_le2 h1) (Nat.div_le_div_right (Nat.add_le_add_left (gm_ge h e) _))
theorem le_pv {n f : Nat} {D γ : Nat → Nat} (h : ∀ w, D w + 2 * γ w = d0F n f w + hfG γ w) : ∀ e, D (2 ^ e) ≤ d0F n f (2 ^ e) + pvN n f e
  | 0 => by
    have h1 := h 1
    rw [hfG_one, Nat.add_zero] at h1
    exact Nat.le_trans (Nat.le_add_right _ _) (Nat.le_of_eq h1)
  | e + 1 => by
    have h1 := h (2 ^ (e + 1))
    rw [hfG_pow] at h1
    exact Nat.le_trans (Nat.le_trans (Nat.le_add_right _ _) (Nat.le_of_eq h1)) (Nat.add_le_add_left (gm_ge h e) _)
theorem one_half {a b c : Nat} (h : a + 2 * b = c) (ha : a ≤ 1) : b = c / 2 ∧ a = c % 2 := by
  have h2 : a < 2 := Nat.lt_succ_of_le ha
  rw [← h, Nat.add_mul_div_left _ _ (by decide), Nat.div_eq_of_lt h2, Nat.zero_add, Nat.add_mul_mod_self_left, Nat.mod_eq_of_lt h2]
  exact ⟨rfl, rfl⟩
theorem gm_eq {n f : Nat} {D γ : Nat → Nat} (h : ∀ w, D w + 2 * γ w = d0F n f w + hfG γ w) (h1 : ∀ e, e < 8 → D (2 ^ e) ≤ 1) : ∀ e, e < 8 → γ (2 ^ e) = gmN n f e ∧ D (2 ^ e) = (d0F n f (2 ^ e) + pvN n f e) % 2
  | 0, he => by
    have h2 := h 1
    rw [hfG_one, Nat.add_zero] at h2
    exact one_half h2 (h1 0 he)
  | e + 1, he => by
    have h2 := h (2 ^ (e + 1))
    rw [hfG_pow, (gm_eq h h1 e (Nat.lt_of_succ_lt he)).1] at h2
    exact one_half h2 (h1 _ he)
noncomputable def okNF (n f : Nat) : Bool :=
  decide (gmSum n f ≤ 15) && decide (d0F n f 128 + gmN n f 6 ≤ 1) && (List.range 8).all (fun e => decide (d0F n f (2 ^ e) + pvN n f e ≤ 100)) &&
  (List.range 8).all (fun e => decide ((d0F n f (2 ^ e) + pvN n f e) % 2 = bitN (f * n) (2 ^ e))) &&
  decide (gmSum n f = twosF n f) && decide (0 < waysF n f) && decide (waysF n f < 2 ^ 1000) &&
  (List.range 8).all (fun e => decide (gmN n f e + f * (n / (2 * 2 ^ e)) = f * n / (2 * 2 ^ e))) && decide (f * n ≤ 160)
theorem okNF_all : ∀ n, n ≤ 40 → ∀ f, f ≤ 4 → 2 ≤ f → okNF n f = true := by decide +kernel
end Mine

-- part WN2
open PySem PySem.Challenge
set_option Elab.async false
set_option maxRecDepth 100000
set_option linter.unusedVariables false
set_option linter.unusedSimpArgs false
namespace Mine
open Builtin Builtin.Str Builtin.Int

theorem erase_perm : ∀ (L : List Nat) (i : Nat), i < L.length → (L.getD i 0 :: L.eraseIdx i).Perm L
  | [], i, h => absurd h (Nat.not_lt_zero i)
  | a :: L, 0, h => List.Perm.refl _
  | a :: L, i + 1, h => (List.Perm.swap a _ _).trans (List.Perm.cons a (erase_perm L i (Nat.lt_of_succ_lt_succ h)))
theorem pickW_perm : ∀ (s : Nat) (L : List Nat) (c : Nat) (G : List Nat), L.length = s → (pickW s L c G).Perm (G ++ L)
  | 0, L, c, G, h => by
    have : L = [] := List.eq_nil_of_length_eq_zero h
    subst this
    rw [List.append_nil]
    exact List.Perm.refl _
  | s + 1, L, c, G, h => by
    have hm : c % (s + 1) < L.length := by rw [h]; exact Nat.mod_lt _ (Nat.succ_pos s)
    have ih := pickW_perm s (L.eraseIdx (c % (s + 1))) (c / (s + 1)) (G ++ [L.getD (c % (s + 1)) 0]) (by rw [List.length_eraseIdx_of_lt hm, h]; rfl)
    refine ih.trans ?_
    rw [List.append_assoc]
    exact List.Perm.append_left G (erase_perm L _ hm)
structure W8 (W : List Nat) : Prop where
  perm : W.Perm pow8
theorem W8.of (c : Nat) : W8 (pickW 8 pow8 c []) := ⟨pickW_perm 8 pow8 c [] rfl⟩
section
variable {W : List Nat} (o : W8 W)
include o
theorem W8.len : W.length = 8 := o.perm.length_eq
theorem W8.nd : W.Nodup := o.perm.nodup_iff.mpr (by decide)
theorem W8.mem {w : Nat} (h : w ∈ W) : ∃ e, e < 8 ∧ w = 2 ^ e := by
  have h := o.perm.mem_iff.mp h
  have : ∀ w ∈ pow8, ∃ e, e < 8 ∧ w = 2 ^ e := by
    intro w hw
    simp only [pow8, List.mem_cons, List.not_mem_nil, or_false] at hw
    rcases hw with rfl | rfl | rfl | rfl | rfl | rfl | rfl | rfl
    · exact ⟨0, by decide, rfl⟩
    · exact ⟨1, by decide, rfl⟩
    · exact ⟨2, by decide, rfl⟩
    · exact ⟨3, by decide, rfl⟩
    · exact ⟨4, by decide, rfl⟩
    · exact ⟨5, by decide, rfl⟩
    · exact ⟨6, by decide, rfl⟩
    · exact ⟨7, by decide, rfl⟩
  exact this w h
theorem W8.has {e : Nat} (h : e < 8) : 2 ^ e ∈ W := o.perm.mem_iff.mpr ((by decide : ∀ e : Fin 8, 2 ^ (e : Nat) ∈ pow8) ⟨e, h⟩)
theorem W8.pos {w : Nat} (h : w ∈ W) : 0 < w := by
  obtain ⟨e, _, rfl⟩ := o.mem h
  exact Nat.two_pow_pos e
theorem W8.small {w : Nat} (h : w ∈ W) : w ≤ 128 := by
  obtain ⟨e, he, rfl⟩ := o.mem h
  exact Nat.pow_le_pow_right (by decide) (Nat.le_of_lt_succ he : e ≤ 7)
end
structure RSt (n f : Nat) (D γ : Nat → Nat) : Prop where
  inv : ∀ w, D w + 2 * γ w = d0F n f w + hfG γ w
noncomputable def sum8 (γ : Nat → Nat) : Nat := ((List.range 8).map fun e => γ (2 ^ e)).sum
theorem sum_le {a b : Nat → Nat} : ∀ l : List Nat, (∀ e ∈ l, a e ≤ b e) → (l.map a).sum ≤ (l.map b).sum
  | [], _ => Nat.le_refl _
  | e :: l, h => Nat.add_le_add (h e (.head _)) (sum_le l fun x hx => h x (List.mem_cons_of_mem _ hx))
theorem sum_lt {a b : Nat → Nat} : ∀ (l : List Nat) (e : Nat), (∀ e ∈ l, a e ≤ b e) → e ∈ l → a e < b e → (l.map a).sum < (l.map b).sum
  | x :: l, e, h, he, hl => by
    rcases List.mem_cons.mp he with rfl | he
    · exact Nat.add_lt_add_of_lt_of_le hl (sum_le l fun y hy => h y (List.mem_cons_of_mem _ hy))
    · exact Nat.add_lt_add_of_le_of_lt (h x (.head _)) (sum_lt l e (fun y hy => h y (List.mem_cons_of_mem _ hy)) he hl)
theorem RSt.sum {n f : Nat} {D γ : Nat → Nat} (r : RSt n f D γ) : sum8 γ ≤ gmSum n f := sum_le _ fun e _ => gm_ge r.inv e
theorem hfG_add (a b : Nat → Nat) (w : Nat) : hfG (fun x => a x + b x) w = hfG a w + hfG b w := by
  unfold hfG
  split <;> rfl
theorem hfG_zero (w : Nat) : hfG (fun _ => 0) w = 0 := by
  unfold hfG
  split <;> rfl
theorem add_inv {d g x h z k y : Nat} (h1 : d + 2 * g = z + k) (h2 : x + 2 * y = d + h) : x + 2 * (g + y) = z + (k + h) := by rw [Nat.mul_add, Nat.add_comm (2 * g), ← Nat.add_assoc, h2, Nat.add_right_comm, h1, Nat.add_assoc]
theorem RSt.read {n f : Nat} {D γ : Nat → Nat} {W : List Nat} {j : Nat} (o : W8 W) (r : RSt n f D γ) (hj : j < W.length) (hD : 1 < D (W.getD j 0)) :
    RSt n f (rd D (W.drop j) D fun _ => 0).1 (fun w => γ w + (rd D (W.drop j) D fun _ => 0).2 w) ∧ sum8 γ < sum8 (fun w => γ w + (rd D (W.drop j) D fun _ => 0).2 w) := by
  have nd : (W.drop j).Nodup := o.nd.sublist (List.drop_sublist j W)
  have hm : W.getD j 0 ∈ W := by rw [List.getD_eq_getElem?_getD, List.getElem?_eq_getElem hj]; exact List.getElem_mem _
  obtain ⟨a, c, d⟩ := rd_inv (D := D) (W.drop j) D (fun _ => 0) nd (fun w hw => o.pos (List.mem_of_mem_drop hw)) (fun _ _ => rfl) (fun w => by rw [hfG_zero])
  refine ⟨⟨fun w => ?_⟩, ?_⟩
  · rw [hfG_add]
    exact add_inv (r.inv w) (a w)
  · obtain ⟨e, he, e1⟩ := o.mem hm
    have d1 := d _ _ (drop_getD hj)
    refine sum_lt (a := fun e => γ (2 ^ e)) _ e (fun x _ => Nat.le_add_right _ _) (List.mem_range.mpr he) ?_
    rw [e1] at d1 hD
    have : 1 ≤ D (2 ^ e) / 2 := by omega
    exact Nat.lt_add_of_pos_right (Nat.lt_of_lt_of_le this d1)
end Mine

-- part WO2
open PySem PySem.Challenge
set_option Elab.async false
set_option maxRecDepth 100000
set_option linter.unusedVariables false
set_option linter.unusedSimpArgs false
namespace Mine
open Builtin Builtin.Str Builtin.Int

noncomputable def st1 (d : Nat) : Nat := if d = 0 then 0 else d + 1
theorem row_ok (w d : Nat) : okRow (rowW w d) where
  ne := fun e => by have := congrArg List.length e; rw [rowW_len] at this; cases this
  n10 := fun h => by
    rcases List.mem_append.mp h with h | h
    · exact absurd (List.mem_replicate.mp h).2 (by decide)
    · exact absurd (tail_ge w _ h) (by decide)
  n13 := fun h => by
    rcases List.mem_append.mp h with h | h
    · exact absurd (List.mem_replicate.mp h).2 (by decide)
    · exact absurd (tail_ge w _ h) (by decide)
theorem stuff_row (w d : Nat) : stuff (rowW w d) = rowW w (st1 d) := by
  cases d with
  | zero =>
    show (if 64 + w / 64 = 46 then _ else _) = tailL w
    rw [if_neg (by omega)]; rfl
  | succ d =>
    show stuff (List.replicate (d + 1) 46 ++ tailL w) = List.replicate (st1 (d + 1)) 46 ++ tailL w
    rw [show st1 (d + 1) = d + 2 from if_neg (Nat.succ_ne_zero d)]
    rfl
theorem mailF_L (W ds : List Nat) (e n : Nat) : mailF W ds e n = mailL ((List.range n).map fun k => (rowW (W.getD k 0) (ds.getD k 0), endS e k)) := by
  unfold mailF mailL
  rw [List.map_map]; rfl
theorem endS_0 (k : Nat) : endS 0 k = [13, 10] := by
  unfold endS
  rw [Nat.zero_div]; rfl
theorem quote_F (W : List Nat) (D : Nat → Nat) (e : Nat) : quoteL (mailF W (W.map D) e W.length) = mailF W (W.map fun w => st1 (D w)) 0 W.length := by
  rw [mailF_L, quote_mail _ (fun p hp => by obtain ⟨k, _, rfl⟩ := List.mem_map.mp hp; exact row_ok _ _) (fun p hp => by obtain ⟨k, _, rfl⟩ := List.mem_map.mp hp; exact endS_ok _ _), mailF_L, List.map_map]
  refine congrArg mailL (List.map_congr_left fun k hk => ?_)
  have hk := List.mem_range.mp hk
  show (stuff (rowW _ _), [13, 10]) = (rowW _ _, endS 0 k)
  rw [stuff_row, endS_0, map_getD hk, map_getD hk]
noncomputable def sentT (W : List Nat) (b : Nat → Nat) (e : Nat) : Nat → List Nat
  | 0 => mailF W (W.map b) e W.length
  | m + 1 => mailF W (W.map fun w => (m + 2) * b w) 0 W.length
theorem st1_bit {b m : Nat} (h : b ≤ 1) : st1 ((m + 1) * b) = (m + 2) * b := by
  have : b = 0 ∨ b = 1 := by omega
  rcases this with rfl | rfl
  · rfl
  · rw [Nat.mul_one, Nat.mul_one]; exact if_neg (Nat.succ_ne_zero m)
theorem sentT_succ {W : List Nat} {b : Nat → Nat} (hb : ∀ w, b w ≤ 1) (e : Nat) : ∀ m, quoteL (sentT W b e m) = sentT W b e (m + 1)
  | 0 => by
    show quoteL (mailF W (W.map b) e W.length) = mailF W (W.map fun w => 2 * b w) 0 W.length
    rw [quote_F, show (fun w => st1 (b w)) = fun w => 2 * b w from funext fun w => by have := st1_bit (m := 0) (hb w); rw [Nat.zero_add, Nat.one_mul] at this; exact this]
  | m + 1 => by
    show quoteL (mailF W (W.map fun w => (m + 2) * b w) 0 W.length) = mailF W (W.map fun w => (m + 3) * b w) 0 W.length
    rw [quote_F, show (fun w => st1 ((m + 2) * b w)) = fun w => (m + 3) * b w from funext fun w => st1_bit (hb w)]
theorem map_le {W : List Nat} {D : Nat → Nat} {n : Nat} (h : ∀ w ∈ W, D w ≤ n) (k : Nat) : (W.map D).getD k 0 ≤ n := by
  rw [List.getD_eq_getElem?_getD, List.getElem?_map]
  cases e : W[k]? with
  | none => exact Nat.zero_le _
  | some w => exact h w (List.mem_of_getElem? e)
theorem sentT_len {W : List Nat} {b : Nat → Nat} (hW : W.length = 8) (hb : ∀ w, b w ≤ 1) (e : Nat) : ∀ m, m ≤ 20 → (sentT W b e m).length ≤ 1000
  | 0, hm => Nat.le_trans (mailF_len (map_le fun w _ => Nat.le_trans (hb w) (by decide))) (by rw [hW]; decide)
  | m + 1, hm => Nat.le_trans (mailF_len (map_le fun w _ => Nat.le_trans (Nat.mul_le_mul_left _ (hb w)) (by omega))) (by rw [hW]; decide)
theorem bit_le (n w : Nat) : bitN n w ≤ 1 := Nat.le_of_lt_succ (Nat.mod_lt _ (by decide))
end Mine

-- part WP2
open PySem PySem.Challenge
set_option Elab.async false
set_option maxRecDepth 100000
set_option linter.unusedVariables false
set_option linter.unusedSimpArgs false
namespace Mine
open Builtin Builtin.Str Builtin.Int

noncomputable def wordL (p : Nat) : List Str := ((List.range 8).filter fun e => bitN p (2 ^ e) == 1).map wordS
noncomputable def told_ok (n : Nat) : Bool := pfOk (n : Int) && (decide ((pfS (n : Int)).length ≤ 1000000) && (decide (Txt.split (pfS (n : Int)) (Str.ofString ", ") = wordL n) && (List.range 8).all fun e => decide ((wordL n).any (· == wordS e) = (bitN n (2 ^ e) == 1))))
theorem told_all : ∀ n : Fin 11, 1 ≤ (n : Nat) → told_ok n = true := by decide +kernel
noncomputable def kept_ok (p : Nat) : Bool := pfOk (p : Int) && (decide (Txt.join (Str.ofString ", ") (wordL p) = pfS (p : Int)) && JoinOk (Str.ofString ", ") (wordL p))
noncomputable def pfe : List Nat → Int → List Nat → Option (List Nat)
  | [], _, _ => none
  | i :: r, x, acc => if (bitAnd x (1 * 2 ^ i) != 0) = true then
      (if (bitXor x (1 * 2 ^ i) != 0) = true then pfe r (bitXor x (1 * 2 ^ i)) (acc ++ [i]) else some (acc ++ [i]))
    else pfe r x acc
theorem pfe_is {l : List Nat} : ∀ (r : List Nat) (x : Int) (acc : List Nat), pfe r x acc = some l → pfl r x (acc.map wordS) = l.map wordS ∧ pflOk r x = true
  | [], _, _, h => nomatch h
  | i :: r, x, acc, h => by
    have e : acc.map wordS ++ [nameOf (1 * 2 ^ i)] = (acc ++ [i]).map wordS := (List.map_append (f := wordS) (l₁ := acc) (l₂ := [i])).symm
    unfold pfe at h
    unfold pfl pflOk
    rw [e]
    by_cases a : (bitAnd x (1 * 2 ^ i) != 0) = true
    · rw [if_pos a] at h
      rw [if_pos a, if_pos a]
      by_cases b : (bitXor x (1 * 2 ^ i) != 0) = true
      · rw [if_pos b] at h
        rw [if_pos b, if_pos b]
        exact pfe_is r _ _ h
      · rw [if_neg b] at h
        rw [if_neg b, if_neg b]
        exact ⟨congrArg (List.map wordS) (Option.some.inj h), rfl⟩
    · rw [if_neg a] at h
      rw [if_neg a, if_neg a]
      exact pfe_is r _ _ h
theorem word_len : ∀ e : Fin 8, (wordS e).length ≤ 20 := by decide +kernel
theorem words_ok (p : Nat) : JoinOk (Str.ofString ", ") (wordL p) = true := by
  have h : (wordL p).length ≤ 8 := by
    unfold wordL
    rw [List.length_map]
    exact Nat.le_trans (List.length_filter_le _ _) (Nat.le_of_eq List.length_range)
  unfold JoinOk
  rw [StrLaws.joinFits (B := 20) (fun y hy => by
    obtain ⟨e, he, rfl⟩ := List.mem_map.mp hy
    exact word_len ⟨e, List.mem_range.mp (List.mem_filter.mp he).1⟩) (by
    rw [← Nat.mul_add]
    exact Nat.le_trans (Nat.mul_le_mul_right _ h) (by decide))]
  rfl
theorem exps_all : ∀ p : Fin 161, 1 ≤ (p : Nat) → pfe (List.range 32) ((p : Nat) : Int) [] = some ((List.range 8).filter fun e => bitN p (2 ^ e) == 1) := by decide +kernel
theorem sep_is : Str.ofString ", " = mkS [44, 32] := by decide +kernel
theorem kept_all (p : Fin 161) (h : 1 ≤ (p : Nat)) : kept_ok p = true := by
  obtain ⟨a, b⟩ := pfe_is _ _ _ (exps_all p h)
  have a : pfl (List.range 32) ((p : Nat) : Int) [] = wordL p := a
  have w := words_ok p
  unfold kept_ok pfOk pfS
  rw [a, b, w, ← sep_is, w, decide_eq_true rfl]
  rfl

noncomputable def fn5 (a : Addr) (Vs : List V) (r : V) : Prop :=
  (a = 95 ∧ ∃ l s, l.length ≤ 100000 ∧ quoteL l = s ∧ Vs = [.str (mkS l)] ∧ r = .str (mkS s)) ∨
  (a = 71 ∧ ∃ x, pfOk x = true ∧ Vs = [.int x] ∧ r = .str (pfS x)) ∨
  (a = 102 ∧ ∃ j : Nat, j < 8 ∧ Vs = [.int (2 ^ j : Nat)] ∧ r = .str (wordS j)) ∨
  (a = 116 ∧ ∃ (W ds : List Nat) (e : Nat), ds.length = W.length ∧ W.length ≤ 8 ∧ (∀ k, W.getD k 0 ≤ 4000) ∧ (∀ k, ds.getD k 0 ≤ 100) ∧ Vs = [.list (intsV W), .list (intsV ds), .int e] ∧ r = .str (mkS (mailF W ds e W.length))) ∨
  (a = 121 ∧ ∃ (ps : List (Nat × Nat)), (∀ p ∈ ps, p.1 ∈ pow8) ∧ ps.length ≤ 8 ∧ (∀ p ∈ ps, p.2 ≤ 100) ∧ Vs = [.str (mkS (mailP ps))] ∧ r = .list (rowsP ps)) ∨
  (a = 128 ∧ ∃ (W ds : List Nat) (at' : Nat), WOk W ds ∧ at' ≤ 8 ∧ Vs = [.list (intsV W), .list (intsV ds), .int (at' : Nat)] ∧ r = .tup [.list (intsV (readF W ds (8 - at') at' ds g8).1), .list (intsV (readF W ds (8 - at') at' ds g8).2)]) ∨
  (a = 135 ∧ ∃ (nu hn : Nat), nu ≤ 40 ∧ hn ≤ 8 ∧ 0 < waysF nu hn ∧ waysF nu hn < 2 ^ 1000 ∧ Vs = [.int (nu : Nat), .int (hn : Nat)] ∧ r = .int (twosF nu hn : Nat)) ∨
  (a = 142 ∧ ∃ c : Nat, Vs = [.int (c : Nat)] ∧ r = .list (intsV (pickW 8 pow8 c [])))
noncomputable def P5 (t : Tok) : Par := { P1 t with fn := fn5 }
noncomputable abbrev sc5 : Names := scopeOf pw_ty0004_02 22
noncomputable abbrev lS (j : Nat) : Stmt := nthS (bodyOf pw_ty0004_02 22) j
noncomputable abbrev fS (j : Nat) : Stmt := nthS (inB (lS 6)) j

noncomputable abbrev seeds5 : V := .list [.int 4, .int 1, .int 5, .int 7, .int 0, .int 1]
noncomputable def lΓ (ns : List V) (dr W : List Nat) (n : Nat) (told : V) (ds : List Nat) (C : Ctx) : Ctx :=
  (nm "script", Ent.val (.list ns)) :: (nm "seeds", Ent.val seeds5) :: (nm "drawn", Ent.val (.list (intsV dr))) :: (nm "weights", Ent.val (.list (intsV W))) :: (nm "number", Ent.val (.int (n : Nat))) :: (nm "told", Ent.val told) :: (nm "dots", Ent.val (.list (intsV ds))) :: C
noncomputable def fΓ (ns : List V) (dr W : List Nat) (n : Nat) (told : V) (ds : List Nat) (f : Nat) (C : Ctx) : Ctx := lΓ ns dr W n told ds ((nm "factor", Ent.val (.int (f : Nat))) :: C)

variable {t : Tok} {ns : List V} {W ds : List Nat} {n f x0 x1 x2 x3 x4 x5 : Nat} {told : V} {K : Out → Prop} {E : Ctx} {b : Nat → Nat}
theorem f0 (o : W8 W) (hb : ∀ w ∈ W, b w ≤ 100) (hE : Tl [nm "text", nm "sending", nm "given", nm "turn", nm "full", nm "more", nm "product", nm "kept"] E)
    (q : ∀ E' : Ctx, Tl [nm "sending", nm "given", nm "turn", nm "full", nm "more", nm "product", nm "kept"] E' → K (.next (fΓ ns [x0, x1, x2, x3, x4, x5] W n told (W.map b) f ((nm "text", .val (.str (mkS (mailF W (W.map b) x2 W.length)))) :: E')))) :
    vs (P5 t) [] 44 sc5 (fS 0) (fΓ ns [x0, x1, x2, x3, x4, x5] W n told (W.map b) f E) K := by
  have c : fn5 116 [.list (intsV W), .list (intsV (W.map b)), .int (x2 : Nat)] (.str (mkS (mailF W (W.map b) x2 W.length))) :=
    .inr (.inr (.inr (.inl ⟨rfl, W, W.map b, x2, List.length_map _, Nat.le_of_eq o.len, getD_le_mem fun w hw => Nat.le_trans (o.small hw) (by decide), map_le hb, rfl, rfl⟩)))
  cases hE with
  | nil => exact ⟨Nat.le_of_ble_eq_true rfl, _, rfl, _, c, q _ (.nil _)⟩
  | cons _ _ a E hE => exact ⟨Nat.le_of_ble_eq_true rfl, _, rfl, _, c, q _ hE⟩
end Mine

-- part WQ2
open PySem PySem.Challenge
set_option Elab.async false
set_option maxRecDepth 100000
set_option linter.unusedVariables false
set_option linter.unusedSimpArgs false
namespace Mine
open Builtin Builtin.Str Builtin.Int

variable {t : Tok} {ns : List V} {dr W ds : List Nat} {n f e : Nat} {told : V} {K : Out → Prop} {E : Ctx} {b D : Nat → Nat}
noncomputable abbrev nmA : List Str := [nm "sending", nm "given", nm "turn", nm "full", nm "more", nm "product", nm "kept"]
noncomputable abbrev nmB : List Str := [nm "given", nm "turn", nm "full", nm "more", nm "product", nm "kept"]
theorem f1_turn {l : List Nat} (hl : l.length ≤ 100000) (v : V) (q : K (.next (fΓ ns dr W n told ds f ((nm "text", .val (.str (mkS (quoteL l)))) :: (nm "sending", .val v) :: E)))) :
    vss (P5 t) [] 42 sc5 (inB (fS 1)) (fΓ ns dr W n told ds f ((nm "text", .val (.str (mkS l))) :: (nm "sending", .val v) :: E)) K :=
  ⟨_, .inl ⟨rfl, l, _, hl, rfl, rfl, rfl⟩, q⟩
theorem f1_loop (hW : W.length = 8) (hb : ∀ w, b w ≤ 1) : ∀ (m i : Nat) (E : Ctx), i + m ≤ 20 → Tl nmA E → (∀ E', Tl nmA E' → (E' = [] → m = 0 ∧ E = []) → K (.next (fΓ ns dr W n told ds f ((nm "text", .val (.str (mkS (sentT W b e (i + m))))) :: E')))) →
    vFor (fun Γ K => vss (P5 t) [] 42 sc5 (inB (fS 1)) Γ K) (fun Γ K => vss (P5 t) [] 42 sc5 [] Γ K) (forTgt (fS 1)) ((List.range' i m).map fun j : Nat => V.int (j : Nat)) (fΓ ns dr W n told ds f ((nm "text", .val (.str (mkS (sentT W b e i)))) :: E)) K
  | 0, i, E, hi, hE, q => q E hE fun h => ⟨rfl, h⟩
  | m + 1, i, E, hi, hE, q => by
    have hl := Nat.le_trans (sentT_len (e := e) hW hb i (Nat.le_trans (Nat.le_add_right _ _) hi)) (by decide : 1000 ≤ 100000)
    have nx : ∀ v E', Tl nmB E' → vFor (fun Γ K => vss (P5 t) [] 42 sc5 (inB (fS 1)) Γ K) (fun Γ K => vss (P5 t) [] 42 sc5 [] Γ K) (forTgt (fS 1)) ((List.range' (i + 1) m).map fun j : Nat => V.int (j : Nat)) (fΓ ns dr W n told ds f ((nm "text", .val (.str (mkS (sentT W b e (i + 1))))) :: (nm "sending", .val v) :: E')) K := fun v E' hE' =>
      f1_loop hW hb m (i + 1) _ (by rw [Nat.add_assoc, Nat.add_comm 1]; exact hi) (.cons _ _ _ _ hE') (by rw [Nat.add_assoc, Nat.add_comm 1]; exact fun E2 h2 h3 => q E2 h2 fun h => nomatch (h3 h).2)
    rw [List.range'_succ, List.map_cons]
    refine vFor_step _ rfl ?_
    cases hE with
    | nil =>
      refine f1_turn hl _ (forK_next ?_)
      rw [sentT_succ hb]
      exact nx _ _ (.nil _)
    | cons _ _ a E hE =>
      refine f1_turn hl _ (forK_next ?_)
      rw [sentT_succ hb]
      exact nx _ _ hE
theorem f1 (hW : W.length = 8) (hb : ∀ w, b w ≤ 1) (hf : f ≤ 4) (hf2 : 2 ≤ f) (hE : Tl nmA E) (q : ∀ v E', Tl nmB E' → K (.next (fΓ ns dr W n told ds f ((nm "text", .val (.str (mkS (mailF W (W.map fun w => f * b w) 0 W.length)))) :: (nm "sending", v) :: E')))) :
    vs (P5 t) [] 43 sc5 (fS 1) (fΓ ns dr W n told ds f ((nm "text", .val (.str (mkS (mailF W (W.map b) e W.length)))) :: E)) K := by
  obtain ⟨m, rfl⟩ : ∃ m, f = m + 2 := ⟨f - 2, by omega⟩
  have e1 : (((m + 2 : Nat) : Int) - 1 - ((0 : Nat) : Int)).toNat = m + 1 := by omega
  have b0 : -(2 ^ 62 : Int) ≤ ((m + 2 : Nat) : Int) - 1 := by omega
  have b1 : ((m + 2 : Nat) : Int) - 1 < 2 ^ 62 := by omega
  have b2 : ((m + 2 : Nat) : Int) - 1 - 0 ≤ 16777216 := by omega
  have lp := f1_loop (t := t) (ns := ns) (dr := dr) (ds := ds) (n := n) (f := m + 2) (e := e) (told := told) (K := K) hW hb (m + 1) 0 E (by omega) hE (by
    rw [Nat.zero_add]
    intro E' h1 h2
    cases h1 with
    | nil => exact nomatch (h2 rfl).1
    | cons _ _ a B hB => exact q a B hB)
  rw [← rng_nat e1] at lp
  clear e1 q
  cases hE with
  | nil => exact ⟨⟨b0, b1⟩, ⟨by decide, by decide, b2, b1, b0⟩, lp⟩
  | cons _ _ a E hE => exact ⟨⟨b0, b1⟩, ⟨by decide, by decide, b2, b1, b0⟩, lp⟩
theorem f2 (hf : f ≤ 4) (hW : W.length = 8) (hE : Tl nmA E) {T : V} (q : K (.next (fΓ ns dr W n told (W.map fun w => f * b w) f ((nm "text", .val T) :: E)))) :
    vs (P5 t) [] 42 sc5 (fS 2) (fΓ ns dr W n told (W.map b) f ((nm "text", .val T) :: E)) K := by
  have em : [] ++ (intsV (W.map b)).map (fun v => match v with | V.int i => V.int (f * i.toNat : Nat) | v => v) = intsV (W.map fun w => f * b w) := by
    simp only [intsV, List.map_map, List.nil_append]; rfl
  have el : ∀ it ∈ intsV (W.map b), ∃ x : Nat, it = .int (x : Nat) := fun it h => by
    obtain ⟨x, _, rfl⟩ := List.mem_map.mp h
    exact ⟨x, rfl⟩
  have lb : (intsV (W.map b)).length ≤ 16777216 := by rw [ints_len, List.length_map, hW]; decide
  cases hE
  all_goals
    refine ⟨lb, ?_⟩
    refine vMap_all (f := fun v => match v with | .int i => .int (f * i.toNat : Nat) | v => v) _ _ ?_ ?_
    · intro it hit K' k'
      obtain ⟨x, rfl⟩ := el it hit
      refine ⟨fun _ => ?_, fun q => Bool.noConfusion q⟩
      refine ⟨IntMulOk.of_left (Nat.le_trans (bits_small (i := ((f : Nat) : Int)) (Nat.lt_of_le_of_lt hf (by decide))) (by decide)), ?_⟩
      rw [show ((f : Nat) : Int) * ((x : Nat) : Int) = ((f * x : Nat) : Int) from (Int.natCast_mul f x).symm]
      exact k'
    · rw [em]; exact q
end Mine

-- part WR2
open PySem PySem.Challenge
set_option Elab.async false
set_option maxRecDepth 100000
set_option linter.unusedVariables false
set_option linter.unusedSimpArgs false
namespace Mine
open Builtin Builtin.Str Builtin.Int

theorem eqv_ints : ∀ a b : List Nat, PyData.eqvAll (V.pys (intsV a)) (V.pys (intsV b)) = decide (a = b)
  | [], [] => rfl
  | [], _ :: _ => rfl
  | _ :: _, [] => rfl
  | x :: a, y :: b => by
    show PyData.eqvAll (PyData.int x :: V.pys (intsV a)) (PyData.int y :: V.pys (intsV b)) = _
    rw [PyData.eqvAll, eqv_ints a b, PyData.eqv]
    by_cases h : x = y
    · subst h
      by_cases h2 : a = b
      · simp [h2]
      · simp [h2]
    · have : ¬ ((x : Int) = (y : Int)) := by omega
      simp [h, this]
noncomputable def Shp (l : List V) : Prop := V.isDs l = true ∧ SeqAt.shaped (V.py (.list l)) = true
theorem shp_of {l : List V} (h1 : V.isDs l = true) (h2 : PyData.canLayAll0 (V.pys l) = true) (h3 : PyData.depthAll (V.pys l) ≤ 2) : Shp l := by
  refine ⟨h1, ?_⟩
  show SeqAt.shaped (PyData.list (V.pys l)) = true
  unfold SeqAt.shaped
  rw [show PyData.canLay0 (PyData.list (V.pys l)) = true from by simp [PyData.canLay0, h2], Bool.true_and]
  refine decide_eq_true ?_
  simp [PyData.depth]; omega
theorem isDs_ints : ∀ D : List Nat, V.isDs (intsV D) = true
  | [] => rfl
  | _ :: D => isDs_ints D
theorem lay_ints : ∀ D : List Nat, PyData.canLayAll0 (V.pys (intsV D)) = true ∧ PyData.depthAll (V.pys (intsV D)) ≤ 1
  | [] => ⟨rfl, by simp [intsV, V.pys, PyData.depthAll]⟩
  | x :: D => by
    have h := lay_ints D
    show PyData.canLayAll0 (PyData.int x :: V.pys (intsV D)) = true ∧ PyData.depthAll (PyData.int x :: V.pys (intsV D)) ≤ 1
    constructor
    · simp [PyData.canLayAll0, PyData.canLay0, h.1]
    · have := h.2
      simp [PyData.depthAll, PyData.depth]; omega
theorem shp_ints (D : List Nat) : Shp (intsV D) := shp_of (isDs_ints D) (lay_ints D).1 (Nat.le_succ_of_le (lay_ints D).2)
theorem isDs_rows : ∀ ps : List (Nat × Nat), V.isDs (rowsP ps) = true
  | [] => rfl
  | p :: ps => isDs_rows ps
theorem lay_rows : ∀ ps : List (Nat × Nat), PyData.canLayAll0 (V.pys (rowsP ps)) = true ∧ PyData.depthAll (V.pys (rowsP ps)) ≤ 2
  | [] => ⟨rfl, by simp [rowsP, V.pys, PyData.depthAll]⟩
  | p :: ps => by
    have h := lay_rows ps
    show PyData.canLayAll0 (PyData.tuple [.int p.1, .int p.2] :: V.pys (rowsP ps)) = true ∧ PyData.depthAll (PyData.tuple [.int p.1, .int p.2] :: V.pys (rowsP ps)) ≤ 2
    constructor
    · simp [PyData.canLayAll0, PyData.canLay0, h.1]
    · have := h.2
      simp [PyData.depthAll, PyData.depth]; omega
theorem shp_rows (ps : List (Nat × Nat)) : Shp (rowsP ps) := shp_of (isDs_rows ps) (lay_rows ps).1 (lay_rows ps).2
theorem eqv_rows : ∀ ps : List (Nat × Nat), PyData.eqvAll (V.pys (rowsP ps)) (V.pys (rowsP ps)) = true
  | [] => rfl
  | p :: ps => by
    show PyData.eqvAll (PyData.tuple [.int p.1, .int p.2] :: V.pys (rowsP ps)) (PyData.tuple [.int p.1, .int p.2] :: V.pys (rowsP ps)) = true
    rw [PyData.eqvAll, eqv_rows ps]
    simp [PyData.eqv, PyData.eqvAll]
theorem vMap_filt {g : V → (Option V → Prop) → Prop} {p : V → Bool} {f : V → V} {K : List V → Prop} : ∀ (items acc : List V), (∀ it ∈ items, ∀ K' : Option V → Prop, (p it = true → K' (some (f it))) → (p it = false → K' none) → g it K') → K (acc ++ (items.filter p).map f) → vMap g items acc K
  | [], acc, _, k => by simpa [vMap] using k
  | it :: r, acc, h, k => by
    unfold vMap
    refine h it (by simp) _ (fun e => ?_) (fun e => ?_)
    · exact vMap_filt r (acc ++ [f it]) (fun q hq => h q (List.mem_cons_of_mem _ hq)) (by rw [List.filter_cons, if_pos e] at k; simpa using k)
    · exact vMap_filt r acc (fun q hq => h q (List.mem_cons_of_mem _ hq)) (by rw [List.filter_cons, if_neg (by rw [e]; decide)] at k; simpa using k)
noncomputable def rg8 : List V := (List.range ((8 : Int) - 0).toNat).map fun j : Nat => V.int (0 + (j : Nat))
theorem rg8_is : rg8 = (List.range 8).map fun j : Nat => V.int (j : Nat) := by
  unfold rg8
  simp only [Int.zero_add]
  rfl
theorem rg8_mem {it : V} (h : it ∈ rg8) : ∃ j : Nat, j < 8 ∧ it = .int (j : Nat) := by
  rw [rg8_is] at h
  obtain ⟨j, hj, rfl⟩ := List.mem_map.mp h
  exact ⟨j, List.mem_range.mp hj, rfl⟩

variable {t : Tok} {ns : List V} {dr W ds : List Nat} {n f : Nat} {told : V} {K : Out → Prop} {E : Ctx} {b D γ : Nat → Nat}
theorem f3 (o : W8 W) (hd : ∀ w ∈ W, b w ≤ 100) (q : K (.next (fΓ ns dr W n told (W.map b) f ((nm "text", .val (.str (mkS (mailF W (W.map b) 0 W.length)))) :: E)))) :
    vs (P5 t) [] 41 sc5 (fS 3) (fΓ ns dr W n told (W.map b) f ((nm "text", .val (.str (mkS (mailF W (W.map b) 0 W.length)))) :: E)) K := by
  have c : fn5 116 [.list (intsV W), .list (intsV (W.map b)), .int (0 : Nat)] (.str (mkS (mailF W (W.map b) 0 W.length))) :=
    .inr (.inr (.inr (.inl ⟨rfl, W, W.map b, ((0 : Nat) : Nat), List.length_map _, Nat.le_of_eq o.len, getD_le_mem fun w hw => Nat.le_trans (o.small hw) (by decide), map_le hd, rfl, rfl⟩)))
  refine ⟨_, c, ?_⟩
  refine ⟨fun hb => ?_, fun _ => q⟩
  exact absurd hb (by rw [bne_self_eq_false]; decide)
theorem zip_mem {W ds : List Nat} {p : Nat × Nat} (h : p ∈ W.zip ds) : p.1 ∈ W ∧ p.2 ∈ ds := List.of_mem_zip (a := p.1) (b := p.2) h
theorem vt_ne {P : Par} {m : Nat} {sc : Names} {l r : Expr} {p : Pos} {Γ : Ctx} {x y : V} {Q : Bool → Prop} (hm : behindInMarks .NotEq r = false) (h1 : ∀ Q : V → Prop, Q x → ve P m sc l Γ Q) (h2 : ∀ Q : V → Prop, Q y → ve P m sc r Γ Q)
    (h3 : vCmp .NotEq x y Q) : vt P (m + 1) sc (.Compare l [.NotEq] [r] p) Γ Q := by
  unfold vt
  show chk (!behindInMarks .NotEq r) _
  rw [hm]
  exact h1 _ (h2 _ h3)
theorem if_no {P : Par} {ow : List Str} {m : Nat} {sc : Names} {t : Expr} {body : List Stmt} {p : Pos} {Γ : Ctx} (h : ∀ Q : Bool → Prop, Q false → vt P (m + 1) sc t Γ Q) (k : K (.next Γ)) : vs P ow (m + 1 + 1) sc (.If t body [] p) Γ K := by
  show vt P (m + 1) sc t Γ (fun b => (b = true → vss P ow (m + 1) sc body Γ K) ∧ (b = false → vss P ow (m + 1) sc [] Γ K))
  exact h _ ⟨fun q => Bool.noConfusion q, fun _ => k⟩
noncomputable def ifE (s : Stmt) : Expr := match s with | .If t _ _ _ => t | _ => default
noncomputable def cmL (e : Expr) : Expr := match e with | .Compare l _ _ _ => l | _ => default
noncomputable def cmR (e : Expr) : Expr := match e with | .Compare _ _ r _ => r.headD default | _ => default
theorem f4a (o : W8 W) (hd : ∀ w ∈ W, b w ≤ 100) {K : V → Prop} (q : K (.list (rowsP (W.zip (W.map b))))) : ve (P5 t) 38 sc5 (cmL (ifE (fS 4))) (fΓ ns dr W n told (W.map b) f ((nm "text", .val (.str (mkS (mailF W (W.map b) 0 W.length)))) :: E)) K := by
  have hl : (W.map b).length = W.length := List.length_map _
  have c : fn5 121 [.str (mkS (mailF W (W.map b) 0 W.length))] (.list (rowsP (W.zip (W.map b)))) := by
    rw [mailF_zip W _ hl]
    refine .inr (.inr (.inr (.inr (.inl ⟨rfl, _, fun p hp => o.perm.mem_iff.mp (zip_mem hp).1, ?_, fun p hp => ?_, rfl, rfl⟩))))
    · rw [List.length_zip, hl, Nat.min_self]; exact Nat.le_of_eq o.len
    · obtain ⟨w, hw, e⟩ := List.mem_map.mp (zip_mem hp).2
      rw [← e]; exact hd w hw
  exact ⟨_, c, q⟩
theorem f4b (o : W8 W) {K : V → Prop} {T : V} (q : K (.list (rowsP (W.zip (W.map b))))) : ve (P5 t) 38 sc5 (cmR (ifE (fS 4))) (fΓ ns dr W n told (W.map b) f ((nm "text", .val T) :: E)) K := by
  have hl : (W.map b).length = W.length := List.length_map _
  have wl := ints_len W
  have dl := ints_len (W.map b)
  have e8 := o.len
  have em : [] ++ rg8.map (fun v => match v with | V.int i => V.tup [.int (W.getD i.toNat 0 : Nat), .int ((W.map b).getD i.toNat 0 : Nat)] | v => v) = rowsP (W.zip (W.map b)) := by
    rw [List.nil_append, rg8_is, List.map_map, rowsP, ← range_zip (fun x y => V.tup [.int (x : Nat), .int (y : Nat)]) W _ hl, o.len]
    rfl
  rw [← em] at q
  refine ⟨⟨by decide, by decide⟩, ?_⟩
  refine ⟨⟨by decide, by decide, by decide, by decide, by decide⟩, ?_⟩
  refine vMap_all (f := fun v => match v with | V.int i => V.tup [.int (W.getD i.toNat 0 : Nat), .int ((W.map b).getD i.toNat 0 : Nat)] | v => v) rg8 [] ?_ ?_
  · intro it hit K' k'
    obtain ⟨j, hj, rfl⟩ := rg8_mem hit
    refine ⟨fun _ => ?_, fun q => Bool.noConfusion q⟩
    refine ⟨by rw [wl, e8]; decide, _, idx_get (by rw [e8]; exact hj), ?_⟩
    refine ⟨by rw [dl, hl, e8]; decide, _, idx_get (by rw [hl, e8]; exact hj), ?_⟩
    exact k'
  · exact q
theorem cmp_rows (ps : List (Nat × Nat)) {Q : Bool → Prop} (q : Q false) : vCmp .NotEq (.list (rowsP ps)) (.list (rowsP ps)) Q := by
  have s := shp_rows ps
  refine ⟨⟨s.1, s.1, s.2, s.2⟩, ?_⟩
  rw [eqv_rows]
  exact q
theorem f4 (o : W8 W) (hd : ∀ w ∈ W, b w ≤ 100) (q : K (.next (fΓ ns dr W n told (W.map b) f ((nm "text", .val (.str (mkS (mailF W (W.map b) 0 W.length)))) :: E)))) :
    vs (P5 t) [] 40 sc5 (fS 4) (fΓ ns dr W n told (W.map b) f ((nm "text", .val (.str (mkS (mailF W (W.map b) 0 W.length)))) :: E)) K :=
  if_no (t := ifE (fS 4)) (fun Q hQ => vt_ne (l := cmL (ifE (fS 4))) (r := cmR (ifE (fS 4))) rfl (fun _ q => f4a o hd q) (fun _ q => f4b o q) (cmp_rows _ hQ)) q
theorem f5 (o : W8 W) {v : Ent} (hE : Tl nmB E) {T : V} (q : ∀ B, Tl [nm "turn", nm "full", nm "more", nm "product", nm "kept"] B → K (.next (fΓ ns dr W n told ds f ((nm "text", .val T) :: (nm "sending", v) :: (nm "given", .val (.list (intsV (W.map fun _ => 0)))) :: B)))) :
    vs (P5 t) [] 39 sc5 (fS 5) (fΓ ns dr W n told ds f ((nm "text", .val T) :: (nm "sending", v) :: E)) K := by
  have e0 : W.map (fun _ => 0) = g8 := by rw [List.map_const', o.len]; rfl
  rw [e0] at q
  cases hE with
  | nil =>
    refine ⟨⟨by decide, by decide, by decide⟩, ?_⟩
    exact q _ (.nil _)
  | cons _ _ a B hB =>
    refine ⟨⟨by decide, by decide, by decide⟩, ?_⟩
    exact q _ hB
end Mine

-- part WS2
open PySem PySem.Challenge
set_option Elab.async false
set_option maxRecDepth 100000
set_option linter.unusedVariables false
set_option linter.unusedSimpArgs false
namespace Mine
open Builtin Builtin.Str Builtin.Int

variable {t : Tok} {ns : List V} {dr W ds : List Nat} {n f i x0 x1 x2 x3 x4 x5 : Nat} {told : V} {K : Out → Prop} {E : Ctx} {b D γ γ' : Nat → Nat} {T : V} {sv a : Ent}
noncomputable def gΓ (ns : List V) (dr W : List Nat) (n : Nat) (told : V) (ds : List Nat) (f : Nat) (T : V) (sv : Ent) (G : List Nat) (C : Ctx) : Ctx :=
  fΓ ns dr W n told ds f ((nm "text", .val T) :: (nm "sending", sv) :: (nm "given", .val (.list (intsV G))) :: C)
noncomputable abbrev gS (j : Nat) : Stmt := nthS (inB (fS 6)) j
noncomputable def fullL (ds : List Nat) : List Nat := (List.range 8).filter fun k => decide (1 < ds.getD k 0)
theorem full_is (ds : List Nat) : (rg8.filter fun v => match v with | V.int i => decide (1 < ds.getD i.toNat 0) | _ => false).map (fun v => v) = intsV (fullL ds) := by
  rw [show ∀ l : List V, l.map (fun v => v) = l from fun l => List.map_id l, rg8_is, List.filter_map, fullL, intsV]
  rfl
noncomputable abbrev nmC : List Str := [nm "turn", nm "full", nm "more", nm "product", nm "kept"]
noncomputable abbrev nmD : List Str := [nm "full", nm "more", nm "product", nm "kept"]
noncomputable abbrev nmF : List Str := [nm "more", nm "product", nm "kept"]
noncomputable abbrev nmG : List Str := [nm "product", nm "kept"]
theorem gt_one (x : Nat) : decide ((1 : Int) < ((x : Nat) : Int)) = decide (1 < x) := decide_eq_decide.mpr (by omega)
theorem g0 (hd : ds.length = 8) {B : Ctx} (hB : Tl nmD B) {G : List Nat} (q : ∀ B', Tl nmF B' → (∀ x E, B = x :: E → B' = E) → K (.next (gΓ ns dr W n told ds f T sv G ((nm "turn", a) :: (nm "full", .val (.list (intsV (fullL ds)))) :: B')))) :
    vs (P5 t) [] 36 sc5 (gS 0) (gΓ ns dr W n told ds f T sv G ((nm "turn", a) :: B)) K := by
  have dl := ints_len ds
  have em : [] ++ (rg8.filter fun v => match v with | V.int i => decide (1 < ds.getD i.toNat 0) | _ => false).map (fun v => v) = intsV (fullL ds) := by rw [List.nil_append, full_is]
  rw [← em] at q
  cases hB
  all_goals
    refine ⟨⟨by decide, by decide⟩, ?_⟩
    refine ⟨⟨by decide, by decide, by decide, by decide, by decide⟩, ?_⟩
    refine vMap_filt (f := fun v => v) (p := fun v => match v with | V.int i => decide (1 < ds.getD i.toNat 0) | _ => false) rg8 [] ?_ ?_
    · intro it hit K' k1 k2
      obtain ⟨j, hj, rfl⟩ := rg8_mem hit
      replace k1 : decide (1 < ds.getD j 0) = true → K' (some (V.int (j : Nat))) := k1
      replace k2 : decide (1 < ds.getD j 0) = false → K' none := k2
      rw [← gt_one] at k1 k2
      refine ⟨by rw [dl, hd]; decide, _, idx_get (by rw [hd]; exact hj), ?_⟩
      exact ⟨k1, k2⟩
    · first
      | exact q _ (.nil _) fun _ _ h => nomatch h
      | (rename_i hE; exact q _ hE fun _ _ h => by cases h; rfl)
theorem cmp_nil (L : List Nat) {Q : Bool → Prop} (q : Q (decide (L = []))) : vCmp .Eq (.list (intsV L)) (.list []) Q := by
  have s := shp_ints L
  have s0 := shp_ints []
  refine ⟨⟨s.1, s0.1, s.2, s0.2⟩, ?_⟩
  rw [show PyData.eqvAll (V.pys (intsV L)) (V.pys []) = decide (L = []) from eqv_ints L []]
  exact q
theorem g1a (L : List Nat) {B : Ctx} {G : List Nat} {Q : Bool → Prop} (q : Q (decide (L = []))) : vt (P5 t) 34 sc5 (ifE (gS 1)) (gΓ ns dr W n told ds f T sv G ((nm "turn", a) :: (nm "full", .val (.list (intsV L))) :: B)) Q :=
  cmp_nil L q
theorem g1 (L : List Nat) {B : Ctx} {G : List Nat} (h1 : L = [] → K (.brk (gΓ ns dr W n told ds f T sv G ((nm "turn", a) :: (nm "full", .val (.list (intsV L))) :: B))))
    (h2 : L ≠ [] → K (.next (gΓ ns dr W n told ds f T sv G ((nm "turn", a) :: (nm "full", .val (.list (intsV L))) :: B)))) :
    vs (P5 t) [] 35 sc5 (gS 1) (gΓ ns dr W n told ds f T sv G ((nm "turn", a) :: (nm "full", .val (.list (intsV L))) :: B)) K :=
  g1a L ⟨fun h => h1 (of_decide_eq_true h), fun h => h2 (of_decide_eq_false h)⟩
theorem g2 {L : List Nat} {F M : List Nat} (hL : L ≠ []) (l8 : L.length ≤ 8) (hi : i ≤ 16) (c : fn5 128 [.list (intsV W), .list (intsV ds), .int ((L.getD ((x4 + i * x5) % L.length) 0 : Nat) : Int)] (.tup [.list (intsV F), .list (intsV M)]))
    {B : Ctx} (hB : Tl nmF B) {G : List Nat} (q : ∀ B', Tl nmG B' → K (.next (gΓ ns [x0, x1, x2, x3, x4, x5] W n told F f T sv G ((nm "turn", .val (.int (i : Nat))) :: (nm "full", .val (.list (intsV L))) :: (nm "more", .val (.list (intsV M))) :: B')))) :
    vs (P5 t) [] 34 sc5 (gS 2) (gΓ ns [x0, x1, x2, x3, x4, x5] W n told ds f T sv G ((nm "turn", .val (.int (i : Nat))) :: (nm "full", .val (.list (intsV L))) :: B)) K := by
  have lp : 0 < L.length := List.length_pos_iff.mpr hL
  have le := ints_len L
  have e1 : ((x4 : Int) + (i : Int) * (x5 : Int)).fmod ((intsV L).length : Nat) = (((x4 + i * x5) % L.length : Nat) : Int) := by
    rw [le, ← Int.natCast_mul, ← Int.natCast_add, fmod_nat]
  have n0 : (((intsV L).length : Nat) : Int) ≠ 0 := by rw [le]; omega
  have ix : idx (intsV L) (((x4 : Int) + (i : Int) * (x5 : Int)).fmod ((intsV L).length : Nat)) = some (.int (L.getD ((x4 + i * x5) % L.length) 0 : Nat)) := by
    rw [e1]; exact idx_get (Nat.mod_lt _ lp)
  have ll : (intsV L).length ≤ 16777216 := by rw [le]; exact Nat.le_trans l8 (by decide)
  have im : IntMulOk (i : Int) (x5 : Int) := IntMulOk.of_left (Nat.le_trans (bits_small (i := ((i : Nat) : Int)) (Nat.lt_of_le_of_lt hi (by decide))) (by decide))
  clear e1 lp le
  cases hB
  all_goals
    refine ⟨Nat.le_of_ble_eq_true rfl, _, rfl, ?_⟩
    refine ⟨Nat.le_of_ble_eq_true rfl, _, rfl, ?_⟩
    refine ⟨im, ?_⟩
    refine ⟨ll, ?_⟩
    refine ⟨n0, ?_⟩
    refine ⟨ll, _, ix, ?_⟩
    refine ⟨_, c, ?_⟩
    first
    | exact q _ (.nil _)
    | (rename_i hE; exact q _ hE)
theorem g3 (o : W8 W) {B : Ctx} {F : List Nat} {u v : Ent} (q : K (.next (gΓ ns dr W n told ds f T sv (W.map fun w => γ w + γ' w) ((nm "turn", u) :: (nm "full", v) :: (nm "more", .val (.list (intsV (W.map γ')))) :: B)))) :
    vs (P5 t) [] 33 sc5 (gS 3) (gΓ ns dr W n told ds f T sv (W.map γ) ((nm "turn", u) :: (nm "full", v) :: (nm "more", .val (.list (intsV (W.map γ')))) :: B)) K := by
  have e8 := o.len
  have l1 := ints_len (W.map γ)
  have l2 := ints_len (W.map γ')
  have m1 : (W.map γ).length = 8 := (List.length_map _).trans e8
  have m2 : (W.map γ').length = 8 := (List.length_map _).trans e8
  have em : [] ++ rg8.map (fun v => match v with | V.int i => V.int ((W.map γ).getD i.toNat 0 + (W.map γ').getD i.toNat 0 : Nat) | v => v) = intsV (W.map fun w => γ w + γ' w) := by
    rw [List.nil_append, rg8_is, List.map_map, intsV]
    apply List.ext_getElem
    · rw [List.length_map, List.length_map, List.length_map, e8]; rfl
    · intro k h1 h2
      have hk : k < 8 := by rw [List.length_map, List.length_range] at h1; exact h1
      have hw : k < W.length := by rw [e8]; exact hk
      rw [List.getElem_map, List.getElem_map, List.getElem_map, List.getElem_range]
      show V.int (((W.map γ).getD k 0 + (W.map γ').getD k 0 : Nat) : Int) = _
      rw [map_getD hw, map_getD hw, List.getD_eq_getElem?_getD, List.getElem?_eq_getElem hw]
      rfl
  unfold gΓ at q
  rw [← em] at q
  refine ⟨⟨by decide, by decide⟩, ?_⟩
  refine ⟨⟨by decide, by decide, by decide, by decide, by decide⟩, ?_⟩
  refine vMap_all (f := fun v => match v with | V.int i => V.int ((W.map γ).getD i.toNat 0 + (W.map γ').getD i.toNat 0 : Nat) | v => v) rg8 [] ?_ ?_
  · intro it hit K' k'
    obtain ⟨j, hj, rfl⟩ := rg8_mem hit
    refine ⟨fun _ => ?_, fun q => Bool.noConfusion q⟩
    refine ⟨by rw [l1, m1]; decide, _, idx_get (by rw [m1]; exact hj), ?_⟩
    refine ⟨by rw [l2, m2]; decide, _, idx_get (by rw [m2]; exact hj), ?_⟩
    replace k' : K' (some (V.int (((W.map γ).getD j 0 + (W.map γ').getD j 0 : Nat) : Int))) := k'
    rw [Int.natCast_add] at k'
    exact k'
  · exact q
end Mine

-- part WT2
open PySem PySem.Challenge
set_option Elab.async false
set_option maxRecDepth 100000
set_option linter.unusedVariables false
set_option linter.unusedSimpArgs false
namespace Mine
open Builtin Builtin.Str Builtin.Int

structure OkNF (n f : Nat) : Prop where
  s15 : gmSum n f ≤ 15
  top : d0F n f 128 + gmN n f 6 ≤ 1
  b100 : ∀ e, e < 8 → d0F n f (2 ^ e) + pvN n f e ≤ 100
  bits : ∀ e, e < 8 → (d0F n f (2 ^ e) + pvN n f e) % 2 = bitN (f * n) (2 ^ e)
  twos : gmSum n f = twosF n f
  w0 : 0 < waysF n f
  w1 : waysF n f < 2 ^ 1000
  giv : ∀ e, e < 8 → gmN n f e + f * (n / (2 * 2 ^ e)) = f * n / (2 * 2 ^ e)
  p160 : f * n ≤ 160
theorem OkNF.of {n f : Nat} (h : okNF n f = true) : OkNF n f := by
  unfold okNF at h
  rw [Bool.and_eq_true, Bool.and_eq_true, Bool.and_eq_true, Bool.and_eq_true, Bool.and_eq_true, Bool.and_eq_true, Bool.and_eq_true, Bool.and_eq_true] at h
  obtain ⟨⟨⟨⟨⟨⟨⟨⟨a, b⟩, c⟩, d⟩, e⟩, g⟩, i⟩, j⟩, k⟩ := h
  have al : ∀ {p : Nat → Prop} [DecidablePred p], ((List.range 8).all fun e => decide (p e)) = true → ∀ e, e < 8 → p e := fun h e he => of_decide_eq_true (List.all_eq_true.mp h e (List.mem_range.mpr he))
  exact ⟨of_decide_eq_true a, of_decide_eq_true b, al c, al d, of_decide_eq_true e, of_decide_eq_true g, of_decide_eq_true i, al j, of_decide_eq_true k⟩
section
variable {W : List Nat} {n f : Nat} {D γ : Nat → Nat} (o : W8 W) (ok : OkNF n f) (r : RSt n f D γ)
include o ok r
theorem RSt.le100 : ∀ w ∈ W, D w ≤ 100 := fun w hw => by
  obtain ⟨e, he, rfl⟩ := o.mem hw
  exact Nat.le_trans (le_pv r.inv e) (ok.b100 e he)
theorem RSt.dbl : ∀ w ∈ W, 0 < D w / 2 → 2 * w ∈ W := fun w hw h => by
  obtain ⟨e, he, rfl⟩ := o.mem hw
  rw [Nat.mul_comm, ← Nat.pow_succ]
  refine o.has (Nat.lt_of_not_le fun h8 => ?_)
  obtain rfl : e = 7 := by omega
  have := Nat.le_trans (le_pv r.inv 7) ok.top
  omega
theorem RSt.wok : WOk W (W.map D) where
  hW := o.len
  hds := (List.length_map _).trans o.len
  hw := fun w hw => Nat.le_trans (o.small hw) (by decide)
  h2 := fun k hk h => by
    have hk : k < W.length := by rw [o.len]; exact hk
    rw [map_getD hk] at h
    exact r.dbl o ok _ (by rw [List.getD_eq_getElem?_getD, List.getElem?_eq_getElem hk]; exact List.getElem_mem _) h
  hd := map_le (r.le100 o ok)
theorem RSt.reads {j : Nat} (hj : j ≤ 8) : readF W (W.map D) (8 - j) j (W.map D) g8 = (W.map (rd D (W.drop j) D fun _ => 0).1, W.map (rd D (W.drop j) D fun _ => 0).2) := by
  have e0 : W.map (fun _ => 0) = g8 := by rw [List.map_const', o.len]; rfl
  rw [← e0]
  exact readF_map o.nd (r.dbl o ok) (8 - j) j D _ (by rw [o.len]; exact Nat.add_sub_cancel' hj)
end
theorem full_mem {ds : List Nat} {j : Nat} (h : j ∈ fullL ds) : j < 8 ∧ 1 < ds.getD j 0 := by
  have h := List.mem_filter.mp h
  exact ⟨List.mem_range.mp h.1, of_decide_eq_true h.2⟩
theorem full_len (ds : List Nat) : (fullL ds).length ≤ 8 := List.length_filter_le _ (List.range 8)
theorem full_nil {W : List Nat} {D : Nat → Nat} (o : W8 W) (h : fullL (W.map D) = []) : ∀ w ∈ W, D w ≤ 1 := fun w hw => by
  obtain ⟨k, hk, rfl⟩ := List.mem_iff_getElem.mp hw
  have h1 := List.filter_eq_nil_iff.mp h k (List.mem_range.mpr (by rw [← o.len]; exact hk))
  rw [map_getD hk, List.getD_eq_getElem?_getD, List.getElem?_eq_getElem hk] at h1
  exact Nat.le_of_not_lt fun h2 => h1 (decide_eq_true h2)

variable {t : Tok} {ns : List V} {dr W ds : List Nat} {n f x0 x1 x2 x3 x4 x5 : Nat} {told : V} {K : Out → Prop} {b : Nat → Nat} {T : V} {sv a : Ent}
theorem g_eq : inB (fS 6) = [gS 0, gS 1, gS 2, gS 3] := rfl
theorem g_turn {i : Nat} {D γ : Nat → Nat} {B : Ctx} (o : W8 W) (ok : OkNF n f) (r : RSt n f D γ) (hi : i ≤ 16) (hB : Tl nmD B)
    (h1 : (∀ w ∈ W, D w ≤ 1) → ∀ u v B', Tl nmF B' → (∀ x E, B = x :: E → B' = E) → K (.brk (gΓ ns [x0, x1, x2, x3, x4, x5] W n told (W.map D) f T sv (W.map γ) ((nm "turn", u) :: (nm "full", v) :: B'))))
    (h2 : ∀ D' γ' u v w B', RSt n f D' γ' → sum8 γ < sum8 γ' → Tl nmG B' → K (.next (gΓ ns [x0, x1, x2, x3, x4, x5] W n told (W.map D') f T sv (W.map γ') ((nm "turn", u) :: (nm "full", v) :: (nm "more", w) :: B')))) :
    vss (P5 t) [] 37 sc5 (inB (fS 6)) (gΓ ns [x0, x1, x2, x3, x4, x5] W n told (W.map D) f T sv (W.map γ) ((nm "turn", .val (.int (i : Nat))) :: B)) K := by
  rw [g_eq]
  refine vss_cons (g0 ((List.length_map _).trans o.len) hB fun B' hB' hx => ?_)
  refine vss_cons (g1 _ (fun h => h1 (full_nil o h) _ _ B' hB' hx) fun h => ?_)
  have hm : (x4 + i * x5) % (fullL (W.map D)).length < (fullL (W.map D)).length := Nat.mod_lt _ (List.length_pos_iff.mpr h)
  have hj : (fullL (W.map D)).getD ((x4 + i * x5) % (fullL (W.map D)).length) 0 ∈ fullL (W.map D) := by
    rw [List.getD_eq_getElem?_getD, List.getElem?_eq_getElem hm]; exact List.getElem_mem _
  obtain ⟨j8, jd⟩ := full_mem hj
  generalize ej : (fullL (W.map D)).getD ((x4 + i * x5) % (fullL (W.map D)).length) 0 = j at j8 jd
  have jW : j < W.length := by rw [o.len]; exact j8
  rw [map_getD jW] at jd
  obtain ⟨r', s'⟩ := r.read o jW jd
  have c : fn5 128 [.list (intsV W), .list (intsV (W.map D)), .int (j : Nat)] (.tup [.list (intsV (W.map (rd D (W.drop j) D fun _ => 0).1)), .list (intsV (W.map (rd D (W.drop j) D fun _ => 0).2))]) := by
    refine .inr (.inr (.inr (.inr (.inr (.inl ⟨rfl, W, W.map D, j, r.wok o ok, Nat.le_of_lt j8, rfl, ?_⟩)))))
    rw [r.reads o ok (Nat.le_of_lt j8)]
  refine vss_cons (g2 h (full_len _) hi (by rw [ej]; exact c) hB' fun B2 hB2 => ?_)
  refine vss_cons (g3 o (F := []) ?_)
  exact h2 _ _ _ _ _ _ r' s' hB2
noncomputable abbrev gV (t : Tok) (its : List V) (Γ : Ctx) (K : Out → Prop) : Prop := vFor (fun Γ K => vss (P5 t) [] 37 sc5 (inB (fS 6)) Γ K) (fun Γ K => vss (P5 t) [] 37 sc5 [] Γ K) (forTgt (fS 6)) its Γ K
theorem g_loop (o : W8 W) (ok : OkNF n f) (q : ∀ D γ u v w B, RSt n f D γ → (∀ w ∈ W, D w ≤ 1) → Tl nmG B → K (.next (gΓ ns [x0, x1, x2, x3, x4, x5] W n told (W.map D) f T sv (W.map γ) ((nm "turn", u) :: (nm "full", v) :: (nm "more", w) :: B)))) :
    ∀ (m i : Nat) (D γ : Nat → Nat) (u v w : Ent) (B : Ctx), i + m = 16 → RSt n f D γ → i ≤ sum8 γ → Tl nmG B →
      gV t ((List.range' i m).map fun j : Nat => V.int (j : Nat)) (gΓ ns [x0, x1, x2, x3, x4, x5] W n told (W.map D) f T sv (W.map γ) ((nm "turn", u) :: (nm "full", v) :: (nm "more", w) :: B)) K
  | 0, i, D, γ, u, v, w, B, hi, r, hs, hB => absurd (Nat.le_trans hs (Nat.le_trans r.sum ok.s15)) (by omega)
  | m + 1, i, D, γ, u, v, w, B, hi, r, hs, hB => by
    rw [List.range'_succ, List.map_cons]
    refine vFor_step _ rfl ?_
    refine g_turn (B := (nm "full", v) :: (nm "more", w) :: B) o ok r (by omega) (.cons _ _ _ _ (.cons _ _ _ _ hB)) (fun h u' v' B' _ hx => ?_) fun D' γ' u' v' w' B' r' s' hB' => ?_
    · rw [hx _ _ rfl]
      exact q _ _ _ _ _ _ r h hB
    · exact forK_next (g_loop o ok q m (i + 1) D' γ' u' v' w' B' (by omega) r' (Nat.lt_of_le_of_lt hs s') hB')
theorem bit_ex : ∀ n : Fin 41, 1 ≤ (n : Nat) → ∃ e : Fin 8, bitN (n : Nat) (2 ^ (e : Nat)) = 1 := by decide +kernel
theorem RSt.zero (n f : Nat) : RSt n f (d0F n f) (fun _ => 0) := ⟨fun w => by rw [hfG_zero]⟩
theorem f6 (o : W8 W) (ok : OkNF n f) (h1 : 1 ≤ n) (h40 : n ≤ 40) (hf : 2 ≤ f) {B : Ctx} (hB : Tl nmC B) (q : ∀ D γ u v w B, RSt n f D γ → (∀ w ∈ W, D w ≤ 1) → Tl nmG B → K (.next (gΓ ns [x0, x1, x2, x3, x4, x5] W n told (W.map D) f T sv (W.map γ) ((nm "turn", u) :: (nm "full", v) :: (nm "more", w) :: B)))) :
    vs (P5 t) [] 38 sc5 (fS 6) (gΓ ns [x0, x1, x2, x3, x4, x5] W n told (W.map (d0F n f)) f T sv (W.map fun _ => 0) B) K := by
  obtain ⟨e, he⟩ := bit_ex ⟨n, Nat.lt_succ_of_le h40⟩ h1
  have no : ¬ ∀ w ∈ W, d0F n f w ≤ 1 := fun h => by
    have h2 := h _ (o.has e.2)
    unfold d0F at h2
    rw [he, Nat.mul_one] at h2
    omega
  have go : ∀ B, Tl nmD B → vss (P5 t) [] 37 sc5 (inB (fS 6)) (gΓ ns [x0, x1, x2, x3, x4, x5] W n told (W.map (d0F n f)) f T sv (W.map fun _ => 0) ((nm "turn", .val (.int ((0 : Nat) : Nat))) :: B))
      (forK (fun Γ K => vss (P5 t) [] 37 sc5 (inB (fS 6)) Γ K) (fun Γ K => vss (P5 t) [] 37 sc5 [] Γ K) (forTgt (fS 6)) ((List.range' 1 15).map fun j : Nat => V.int (j : Nat)) K) := fun B hB =>
    g_turn o ok (RSt.zero n f) (Nat.zero_le _) hB (fun h => absurd h no) fun D' γ' u' v' w' B' r' s' hB' =>
      forK_next (g_loop o ok q 15 1 D' γ' u' v' w' B' rfl r' (Nat.lt_of_le_of_lt (Nat.zero_le _) s') hB')
  have lp : gV t ((List.range' 0 16).map fun j : Nat => V.int (j : Nat)) (gΓ ns [x0, x1, x2, x3, x4, x5] W n told (W.map (d0F n f)) f T sv (W.map fun _ => 0) B) K := by
    rw [show List.range' 0 16 = 0 :: List.range' 1 15 from rfl, List.map_cons]
    refine vFor_step _ rfl ?_
    cases hB with
    | nil => exact go _ (.nil _)
    | cons _ _ a B hB => exact go _ hB
  rw [← rng_nat (a := 0) (hi := 16) (n := 16) (by decide)] at lp
  clear go
  exact ⟨⟨by decide, by decide⟩, ⟨by decide, by decide, by decide, by decide, by decide⟩, lp⟩
end Mine

-- part WU2
open PySem PySem.Challenge
set_option Elab.async false
set_option maxRecDepth 100000
set_option linter.unusedVariables false
set_option linter.unusedSimpArgs false
namespace Mine
open Builtin Builtin.Str Builtin.Int

noncomputable def hΓ (ns : List V) (dr W : List Nat) (n : Nat) (told : V) (ds : List Nat) (f : Nat) (T : V) (sv : Ent) (G : List Nat) (u v w : Ent) (C : Ctx) : Ctx :=
  gΓ ns dr W n told ds f T sv G ((nm "turn", u) :: (nm "full", v) :: (nm "more", w) :: C)
noncomputable def keptL (p : Nat) : List Nat := (List.range 8).filter fun e => bitN p (2 ^ e) == 1
theorem pow8_is : pow8 = (List.range 8).map (2 ^ ·) := rfl
theorem sorted_is {W : List Nat} (o : W8 W) {l : List Int} (hp : l.Perm (W.map fun n => ((n : Nat) : Int))) (hs : l.Pairwise (· ≤ ·)) : l = pow8.map fun n => ((n : Nat) : Int) :=
  List.Perm.eq_of_pairwise (fun a b _ _ h1 h2 => Int.le_antisymm h1 h2) hs (by decide) (hp.trans (o.perm.map _))
theorem kept_filt {D : Nat → Nat} {p : Nat} (hb : ∀ e, e < 8 → D (2 ^ e) = bitN p (2 ^ e)) : ((intsV pow8).filter fun v => match v with | V.int i => decide (D i.toNat = 1) | _ => false).map (fun v => v) = intsV ((keptL p).map (2 ^ ·)) := by
  rw [show ∀ l : List V, l.map (fun v => v) = l from fun l => List.map_id l, pow8_is, keptL, intsV, intsV, List.filter_map, List.filter_map]
  refine congrArg _ (congrArg _ (List.filter_congr fun e he => ?_))
  have h := hb e (List.mem_range.mp he)
  show decide (D (2 ^ e) = 1) = (bitN p (2 ^ e) == 1)
  rw [h]; rfl

variable {t : Tok} {ns : List V} {dr W ds G : List Nat} {n f p : Nat} {told : V} {K : Out → Prop} {D γ : Nat → Nat} {T : V} {sv u v w : Ent} {C : Ctx}
theorem f7 (hf : f ≤ 4) (hB : Tl nmG C) (q : ∀ B', Tl [nm "kept"] B' → K (.next (hΓ ns dr W n told ds f T sv G u v w ((nm "product", .val (.int (f * n : Nat))) :: B')))) : vs (P5 t) [] 37 sc5 (fS 7) (hΓ ns dr W n told ds f T sv G u v w C) K := by
  have im : IntMulOk (f : Int) (n : Int) := IntMulOk.of_left (Nat.le_trans (bits_small (i := ((f : Nat) : Int)) (Nat.lt_of_le_of_lt hf (by decide))) (by decide))
  rw [Int.natCast_mul] at q
  cases hB with
  | nil =>
    refine ⟨im, ?_⟩
    exact q _ (.nil _)
  | cons _ _ a B hB =>
    refine ⟨im, ?_⟩
    exact q _ hB
theorem eq_one (x : Nat) : (((x : Nat) : Int) == 1) = decide (x = 1) := decide_eq_decide.mpr (by omega)
theorem f8 (o : W8 W) (hb : ∀ e, e < 8 → D (2 ^ e) = bitN p (2 ^ e)) {a : Ent} (hB : Tl [nm "kept"] C) (q : K (.next (hΓ ns dr W n told (W.map D) f T sv G u v w [(nm "product", a), (nm "kept", .val (.list (intsV ((keptL p).map (2 ^ ·)))))]))) :
    vs (P5 t) [] 36 sc5 (fS 8) (hΓ ns dr W n told (W.map D) f T sv G u v w ((nm "product", a) :: C)) K := by
  have e8 := o.len
  have dl := ints_len (W.map D)
  have l8 : (W.map D).length = 8 := (List.length_map _).trans e8
  have wl : (W.map fun n => ((n : Nat) : Int)).length < 64 := by rw [List.length_map, e8]; decide
  have em : [] ++ ((intsV pow8).filter fun v => match v with | V.int i => decide (D i.toNat = 1) | _ => false).map (fun v => v) = intsV ((keptL p).map (2 ^ ·)) := by rw [List.nil_append, kept_filt hb]
  unfold hΓ gΓ fΓ lΓ at q
  rw [← em] at q
  have el : ∀ it ∈ intsV pow8, ∃ x ∈ W, it = .int (x : Nat) := fun it h => by
    obtain ⟨x, hx, rfl⟩ := List.mem_map.mp h
    exact ⟨x, o.perm.mem_iff.mpr hx, rfl⟩
  cases hB with
  | nil => ?_
  | cons _ _ a B hB => ?_
  rotate_left
  cases hB
  all_goals
    refine ⟨W.map fun n => ((n : Nat) : Int), ints_map W, wl, fun l hp hs => ?_⟩
    rw [sorted_is o hp hs]
    refine ⟨by decide, ?_⟩
    refine vMap_filt (f := fun v => v) (p := fun v => match v with | V.int i => decide (D i.toNat = 1) | _ => false) (intsV pow8) [] ?_ ?_
    · intro it hit K' k1 k2
      obtain ⟨x, hx, rfl⟩ := el it hit
      have hi : W.idxOf x < W.length := List.idxOf_lt_length_of_mem hx
      have hg : (W.map D).getD (W.idxOf x) 0 = D x := by
        rw [map_getD hi, List.getD_eq_getElem?_getD, List.getElem?_eq_getElem hi]
        exact congrArg D (List.getElem_idxOf hi)
      have ix : idx (intsV (W.map D)) (((W.map fun n => ((n : Nat) : Int)).idxOf ((x : Nat) : Int) : Nat) : Int) = some (.int (D x : Nat)) := by
        rw [idxOf_cast, idx_get (by rw [l8, ← e8]; exact hi), hg]
      replace k1 : decide (D x = 1) = true → K' (some (V.int (x : Nat))) := k1
      replace k2 : decide (D x = 1) = false → K' none := k2
      rw [← eq_one] at k1 k2
      refine ⟨W.map fun n => ((n : Nat) : Int), ints_map W, lay_of W (fun w hw => Nat.le_trans (o.small hw) (by decide)) (by rw [e8]; decide), List.mem_map.mpr ⟨_, hx, rfl⟩, ?_⟩
      refine ⟨by rw [dl, l8]; decide, _, ix, ?_⟩
      exact ⟨k1, k2⟩
    · exact q
end Mine

-- part WV2
open PySem PySem.Challenge
set_option Elab.async false
set_option maxRecDepth 100000
set_option linter.unusedVariables false
set_option linter.unusedSimpArgs false
namespace Mine
open Builtin Builtin.Str Builtin.Int

noncomputable def kΓ (ns : List V) (dr W : List Nat) (n : Nat) (told : V) (ds : List Nat) (f : Nat) (T : V) (sv : Ent) (G : List Nat) (u v w : Ent) (p : Nat) : Ctx :=
  hΓ ns dr W n told ds f T sv G u v w [(nm "product", .val (.int (p : Nat))), (nm "kept", .val (.list (intsV ((keptL p).map (2 ^ ·)))))]
theorem if_or2 {P : Par} {ow : List Str} {n : Nat} {sc : Names} {t1 t2 : Expr} {p1 p2 : Pos} {body : List Stmt} {Γ : Ctx} {K : Out → Prop} (h1 : ∀ Q : Bool → Prop, Q false → vt P n sc t1 Γ Q) (h2 : ∀ Q : Bool → Prop, Q false → vt P n sc t2 Γ Q)
    (k : K (.next Γ)) : vs P ow (n + 1 + 1) sc (.If (.BoolOp .Or [t1, t2] p1) body [] p2) Γ K :=
  h1 _ ⟨fun q => Bool.noConfusion q, fun _ => h2 _ ⟨fun q => Bool.noConfusion q, fun _ => ⟨fun q => Bool.noConfusion q, fun _ => k⟩⟩⟩
noncomputable def orE (s : Stmt) (j : Nat) : Expr := match s with
  | .If (.BoolOp _ es _) _ _ _ => es.getD j default
  | _ => default
theorem sum_ints : ∀ F : List Nat, (F.map fun n => ((n : Nat) : Int)).sum = ((F.sum : Nat) : Int)
  | [] => rfl
  | x :: F => by simp [sum_ints F]

variable {t : Tok} {ns : List V} {dr W ds G : List Nat} {n f p : Nat} {told : V} {K : Out → Prop} {D γ : Nat → Nat} {T : V} {sv u v w : Ent}
theorem f9a (o : W8 W) (h1 : ∀ w ∈ W, D w ≤ 1) {Q : Bool → Prop} (q : Q false) : vt (P5 t) 33 sc5 (orE (fS 9) 0) (kΓ ns dr W n told (W.map D) f T sv G u v w p) Q := by
  refine ⟨(W.map D).map fun n => ((n : Nat) : Int), ints_map _, by rw [List.length_map, List.length_map, o.len]; decide, fun M hM hX => ?_⟩
  obtain ⟨y, hy, rfl⟩ := List.mem_map.mp hM
  obtain ⟨x, hx, rfl⟩ := List.mem_map.mp hy
  have e : decide ((1 : Int) < ((D x : Nat) : Int)) = false := decide_eq_false (by have := h1 x hx; omega)
  rw [← e] at q
  exact q
theorem word_map (p : Nat) : ((keptL p).map fun e => V.str (wordS e)) = (wordL p).map V.str := by
  unfold keptL wordL
  rw [List.map_map]; rfl
theorem f9b (hj : JoinOk (Str.ofString ", ") (wordL p) = true) {K : V → Prop} (q : K (.str (Txt.join (Str.ofString ", ") (wordL p)))) : ve (P5 t) 32 sc5 (cmL (orE (fS 9) 1)) (kΓ ns dr W n told ds f T sv G u v w p) K := by
  have kl : (intsV ((keptL p).map (2 ^ ·))).length ≤ 16777216 := by
    rw [ints_len, List.length_map]
    exact Nat.le_trans (List.length_filter_le _ _) (by decide)
  have em : [] ++ (intsV ((keptL p).map (2 ^ ·))).map (fun v => match v with | V.int i => V.str (wordS (Nat.log2 i.toNat)) | v => v) = (wordL p).map V.str := by
    rw [List.nil_append, ← word_map, intsV, List.map_map, List.map_map]
    refine List.map_congr_left fun e he => ?_
    show V.str (wordS (Nat.log2 (2 ^ e))) = _
    rw [Nat.log2_two_pow]
  have el : ∀ it ∈ intsV ((keptL p).map (2 ^ ·)), ∃ e : Nat, e < 8 ∧ it = .int ((2 ^ e : Nat) : Int) := fun it h => by
    obtain ⟨x, hx, rfl⟩ := List.mem_map.mp h
    obtain ⟨e, he, rfl⟩ := List.mem_map.mp hx
    exact ⟨e, List.mem_range.mp (List.mem_filter.mp he).1, rfl⟩
  refine ⟨kl, ?_⟩
  refine vMap_all (f := fun v => match v with | V.int i => V.str (wordS (Nat.log2 i.toNat)) | v => v) (intsV ((keptL p).map (2 ^ ·))) [] ?_ ?_
  · intro it hit K' k'
    obtain ⟨e, he, rfl⟩ := el it hit
    replace k' : K' (some (V.str (wordS (Nat.log2 (2 ^ e))))) := k'
    rw [Nat.log2_two_pow] at k'
    refine ⟨fun _ => ?_, fun q => Bool.noConfusion q⟩
    refine ⟨_, .inr (.inr (.inl ⟨rfl, e, he, rfl, rfl⟩)), ?_⟩
    exact k'
  · rw [em]
    exact ⟨wordL p, rfl, hj, q⟩
theorem f9c (hp : pfOk ((p : Nat) : Int) = true) {K : V → Prop} (q : K (.str (pfS ((p : Nat) : Int)))) : ve (P5 t) 32 sc5 (cmR (orE (fS 9) 1)) (kΓ ns dr W n told ds f T sv G u v w p) K :=
  ⟨_, .inr (.inl ⟨rfl, _, hp, rfl, rfl⟩), q⟩
theorem cmp_str {x y : Str} (h : x = y) {Q : Bool → Prop} (q : Q false) : vCmp .NotEq (.str x) (.str y) Q := by
  subst h
  show Q (x != x)
  rw [bne_self_eq_false]
  exact q
theorem f9 (o : W8 W) (h1 : ∀ w ∈ W, D w ≤ 1) (hk : kept_ok p = true) (q : K (.next (kΓ ns dr W n told (W.map D) f T sv G u v w p))) : vs (P5 t) [] 35 sc5 (fS 9) (kΓ ns dr W n told (W.map D) f T sv G u v w p) K := by
  unfold kept_ok at hk
  rw [Bool.and_eq_true, Bool.and_eq_true] at hk
  obtain ⟨a, b, c⟩ := hk
  exact if_or2 (t1 := orE (fS 9) 0) (t2 := orE (fS 9) 1) (fun _ q => f9a o h1 q) (fun Q q => vt_ne (l := cmL (orE (fS 9) 1)) (r := cmR (orE (fS 9) 1)) rfl (fun _ q => f9b c q) (fun _ q => f9c a q) (cmp_str (of_decide_eq_true b) q)) q
theorem f10a {K : V → Prop} (q : K (.int (G.sum : Nat))) : ve (P5 t) 32 sc5 (cmL (ifE (fS 10))) (kΓ ns dr W n told ds f T sv G u v w p) K := by
  rw [← sum_ints] at q
  exact ⟨G.map fun n => ((n : Nat) : Int), ints_map _, q⟩
theorem f10b (ok : OkNF n f) (h40 : n ≤ 40) (hf : f ≤ 4) {K : V → Prop} (q : K (.int (twosF n f : Nat))) : ve (P5 t) 32 sc5 (cmR (ifE (fS 10))) (kΓ ns dr W n told ds f T sv G u v w p) K :=
  ⟨_, .inr (.inr (.inr (.inr (.inr (.inr (.inl ⟨rfl, n, f, h40, Nat.le_trans hf (by decide), ok.w0, ok.w1, rfl, rfl⟩)))))), q⟩
theorem cmp_int {x y : Nat} (h : x = y) {Q : Bool → Prop} (q : Q false) : vCmp .NotEq (.int (x : Nat)) (.int (y : Nat)) Q := by
  subst h
  show Q (((x : Nat) : Int) != ((x : Nat) : Int))
  rw [bne_self_eq_false]
  exact q
theorem f10 (ok : OkNF n f) (h40 : n ≤ 40) (hf : f ≤ 4) (hs : G.sum = twosF n f) (q : K (.next (kΓ ns dr W n told ds f T sv G u v w p))) : vs (P5 t) [] 34 sc5 (fS 10) (kΓ ns dr W n told ds f T sv G u v w p) K :=
  if_no (t := ifE (fS 10)) (fun Q hQ => vt_ne (l := cmL (ifE (fS 10))) (r := cmR (ifE (fS 10))) rfl (fun _ q => f10a q) (fun _ q => f10b ok h40 hf q) (cmp_int hs hQ)) q
theorem f11a {K : V → Prop} (q : K (.list (intsV G))) : ve (P5 t) 31 sc5 (cmL (ifE (fS 11))) (kΓ ns dr W n told ds f T sv G u v w p) K := q
theorem given_int {g a b c : Nat} (h : g + a * b = c) : ((c : Nat) : Int) - ((a : Nat) : Int) * ((b : Nat) : Int) = ((g : Nat) : Int) := by
  rw [← Int.natCast_mul]; omega
theorem f11b (o : W8 W) (hf : f ≤ 4) (hg : ∀ w ∈ W, γ w + f * (n / (2 * w)) = p / (2 * w)) {K : V → Prop} (q : K (.list (intsV (W.map γ)))) : ve (P5 t) 31 sc5 (cmR (ifE (fS 11))) (kΓ ns dr W n told ds f T sv G u v w p) K := by
  have em : [] ++ (intsV W).map (fun v => match v with | V.int i => V.int (γ i.toNat : Nat) | v => v) = intsV (W.map γ) := by
    rw [List.nil_append, intsV, intsV, List.map_map, List.map_map]; rfl
  rw [← em] at q
  refine ⟨by rw [ints_len, o.len]; decide, ?_⟩
  refine vMap_all (f := fun v => match v with | V.int i => V.int (γ i.toNat : Nat) | v => v) (intsV W) [] ?_ q
  intro it hit K' k'
  obtain ⟨x, hx, rfl⟩ := List.mem_map.mp hit
  have x0 := o.pos hx
  have x1 := o.small hx
  have e2 : (2 : Int) * ((x : Nat) : Int) = ((2 * x : Nat) : Int) := (Int.natCast_mul 2 _).symm
  have i2 : IntMulOk 2 ((x : Nat) : Int) := IntMulOk.of_left (Nat.le_trans (bits_small (i := 2) (by decide)) (by decide))
  have n2 : (2 : Int) * ((x : Nat) : Int) ≠ 0 := by omega
  have d1 : divisionGoesByPylong ((p : Nat) : Int) ((2 : Int) * ((x : Nat) : Int)) = false := by rw [e2]; exact pylong_nat _ _ (by omega)
  have d2 : divisionGoesByPylong ((n : Nat) : Int) ((2 : Int) * ((x : Nat) : Int)) = false := by rw [e2]; exact pylong_nat _ _ (by omega)
  have i3 : IntMulOk ((f : Nat) : Int) (((n : Nat) : Int).fdiv ((2 : Int) * ((x : Nat) : Int))) := IntMulOk.of_left (Nat.le_trans (bits_small (i := ((f : Nat) : Int)) (Nat.lt_of_le_of_lt hf (by decide))) (by decide))
  have ev : ((p : Nat) : Int).fdiv ((2 : Int) * ((x : Nat) : Int)) - ((f : Nat) : Int) * (((n : Nat) : Int).fdiv ((2 : Int) * ((x : Nat) : Int))) = ((γ x : Nat) : Int) := by
    rw [e2, fdiv_nat, fdiv_nat]
    exact given_int (hg x hx)
  replace k' : K' (some (V.int (γ x : Nat))) := k'
  rw [← ev] at k'
  refine ⟨fun _ => ?_, fun q => Bool.noConfusion q⟩
  refine ⟨i2, ?_⟩
  refine ⟨⟨n2, d1⟩, ?_⟩
  refine ⟨i2, ?_⟩
  refine ⟨⟨n2, d2⟩, ?_⟩
  refine ⟨i3, ?_⟩
  exact k'
theorem cmp_list (L : List Nat) {Q : Bool → Prop} (q : Q false) : vCmp .NotEq (.list (intsV L)) (.list (intsV L)) Q := by
  have s := shp_ints L
  refine ⟨⟨s.1, s.1, s.2, s.2⟩, ?_⟩
  rw [eqv_ints, decide_eq_true rfl]
  exact q
theorem f11 (o : W8 W) (hf : f ≤ 4) (hg : ∀ w ∈ W, γ w + f * (n / (2 * w)) = p / (2 * w)) (q : K (.next (kΓ ns dr W n told ds f T sv (W.map γ) u v w p))) : vs (P5 t) [] 33 sc5 (fS 11) (kΓ ns dr W n told ds f T sv (W.map γ) u v w p) K :=
  if_no (t := ifE (fS 11)) (fun Q hQ => vt_ne (l := cmL (ifE (fS 11))) (r := cmR (ifE (fS 11))) rfl (fun _ q => f11a q) (fun _ q => f11b o hf hg q) (cmp_list _ hQ)) q
theorem f12 (q : K (.next (hΓ ns dr W p told ds f T sv G u v w [(nm "product", .val (.int (p : Nat))), (nm "kept", .val (.list (intsV ((keptL p).map (2 ^ ·)))))]))) : vs (P5 t) [] 32 sc5 (fS 12) (kΓ ns dr W n told ds f T sv G u v w p) K := q
end Mine

-- part WW2
open PySem PySem.Challenge
set_option Elab.async false
set_option maxRecDepth 100000
set_option linter.unusedVariables false
set_option linter.unusedSimpArgs false
namespace Mine
open Builtin Builtin.Str Builtin.Int

variable {t : Tok} {ns : List V} {W : List Nat} {n f x0 x1 x2 x3 x4 x5 : Nat} {told : V} {K : Out → Prop} {E : Ctx}
theorem f_eq : inB (lS 6) = [fS 0, fS 1, fS 2, fS 3, fS 4, fS 5, fS 6, fS 7, fS 8, fS 9, fS 10, fS 11, fS 12] := rfl
theorem d0_le (hf : f ≤ 4) (w : Nat) : d0F n f w ≤ 100 := Nat.le_trans (Nat.mul_le_mul_left f (bit_le n w)) (by omega)
noncomputable abbrev nmT : List Str := nm "text" :: nmA
theorem f_turn (o : W8 W) (hn : 1 ≤ n) (h40 : n ≤ 40) (hf2 : 2 ≤ f) (hf4 : f ≤ 4) (hE : Tl nmT E) (q : ∀ E', Tl nmT E' → K (.next (fΓ ns [x0, x1, x2, x3, x4, x5] W (f * n) told (W.map (bitN (f * n))) f E'))) :
    vss (P5 t) [] 45 sc5 (inB (lS 6)) (fΓ ns [x0, x1, x2, x3, x4, x5] W n told (W.map (bitN n)) f E) K := by
  have ok : OkNF n f := OkNF.of (okNF_all n h40 f hf4 hf2)
  have d4 : ∀ w ∈ W, d0F n f w ≤ 100 := fun w _ => d0_le hf4 w
  rw [f_eq]
  refine vss_cons (f0 o (fun w _ => Nat.le_trans (bit_le n w) (by decide)) hE fun E1 hE1 => ?_)
  refine vss_cons (f1 o.len (bit_le n) hf4 hf2 hE1 fun sv E2 hE2 => ?_)
  refine vss_cons (f2 hf4 o.len (.cons _ _ _ _ hE2) ?_)
  refine vss_cons (f3 (b := d0F n f) o d4 ?_)
  refine vss_cons (f4 (b := d0F n f) o d4 ?_)
  refine vss_cons (f5 o hE2 fun B hB => ?_)
  refine vss_cons (f6 o ok hn h40 hf2 hB fun D γ u v w B r h1 hB => ?_)
  have hd : ∀ e, e < 8 → D (2 ^ e) ≤ 1 := fun e he => h1 _ (o.has he)
  have gm := gm_eq r.inv hd
  have hb : ∀ e, e < 8 → D (2 ^ e) = bitN (f * n) (2 ^ e) := fun e he => (gm e he).2.trans (ok.bits e he)
  have hs : (W.map γ).sum = twosF n f := by
    rw [(o.perm.map γ).sum_nat, ← ok.twos, pow8_is, List.map_map]
    refine congrArg List.sum (List.map_congr_left fun e he => (gm e (List.mem_range.mp he)).1)
  have hg : ∀ w ∈ W, γ w + f * (n / (2 * w)) = f * n / (2 * w) := fun w hw => by
    obtain ⟨e, he, rfl⟩ := o.mem hw
    rw [(gm e he).1]
    exact ok.giv e he
  have hk : kept_ok (f * n) = true := kept_all ⟨f * n, Nat.lt_succ_of_le ok.p160⟩ (Nat.mul_pos (Nat.lt_of_lt_of_le (by decide) hf2) hn)
  have eD : W.map D = W.map (bitN (f * n)) := List.map_congr_left fun w hw => by
    obtain ⟨e, he, rfl⟩ := o.mem hw
    exact hb e he
  refine vss_cons (f7 hf4 hB fun B2 hB2 => ?_)
  refine vss_cons (f8 (p := f * n) o hb hB2 ?_)
  refine vss_cons (f9 o h1 hk ?_)
  refine vss_cons (f10 ok h40 hf4 hs ?_)
  refine vss_cons (f11 o hf4 hg ?_)
  refine vss_cons (f12 ?_)
  rw [eD]
  exact q _ (.cons _ _ _ _ (.cons _ _ _ _ (.cons _ _ _ _ (.cons _ _ _ _ (.cons _ _ _ _ (.cons _ _ _ _ (.cons _ _ _ _ (.cons _ _ _ _ (.nil _)))))))))
end Mine

-- part WX2
open PySem PySem.Challenge
set_option Elab.async false
set_option maxRecDepth 100000
set_option linter.unusedVariables false
set_option linter.unusedSimpArgs false
namespace Mine
open Builtin Builtin.Str Builtin.Int

noncomputable def pickI (ns : List Int) (k : Int) : List Int := (sliceRange (sliceBounds (some k) (some 60) (some 6) ns.length).1 (sliceBounds (some k) (some 60) (some 6) ns.length).2.1 (sliceBounds (some k) (some 60) (some 6) ns.length).2.2).filterMap (ns[·]?)
theorem pick_sl (ns : List Int) (k : Int) : vPick (ns.map V.int) (some k) (some 60) (some 6) = (pickI ns k).map V.int := by
  unfold vPick pickI
  rw [List.length_map, List.map_filterMap]
  congr 1
  funext i
  rw [List.getElem?_map]
noncomputable def sd5 : List Int := [4, 1, 5, 7, 0, 1]
noncomputable def dr (ns : List Int) (k : Nat) : Nat := ((sd5.getD k 0 + (pickI ns (k : Nat)).sum).fmod 1000000).toNat
theorem dr_is (ns : List Int) (k : Nat) : (sd5.getD k 0 + (pickI ns (k : Nat)).sum).fmod 1000000 = (dr ns k : Nat) := by
  unfold dr
  have := Int.fmod_nonneg_of_pos (sd5.getD k 0 + (pickI ns (k : Nat)).sum) (b := 1000000) (by decide)
  omega
noncomputable def rg6 : List V := (List.range ((6 : Int) - 0).toNat).map fun j : Nat => V.int (0 + (j : Nat))
theorem rg6_is : rg6 = (List.range 6).map fun j : Nat => V.int (j : Nat) := by
  unfold rg6
  simp only [Int.zero_add]
  rfl
theorem rg6_mem {it : V} (h : it ∈ rg6) : ∃ j : Nat, j < 6 ∧ it = .int (j : Nat) := by
  rw [rg6_is] at h
  obtain ⟨j, hj, rfl⟩ := List.mem_map.mp h
  exact ⟨j, List.mem_range.mp hj, rfl⟩
theorem sd_at {j : Nat} (h : j < 6) : idx [V.int 4, V.int 1, V.int 5, V.int 7, V.int 0, V.int 1] (j : Nat) = some (.int (sd5.getD j 0)) := by
  match j, h with
  | 0, _ => rfl
  | 1, _ => rfl
  | 2, _ => rfl
  | 3, _ => rfl
  | 4, _ => rfl
  | 5, _ => rfl

variable {t : Tok} {ns : List Int} {sc : List V} {W D : List Nat} {n f x0 x1 x2 x3 x4 x5 : Nat} {told : V} {K : Out → Prop} {E : Ctx}
theorem l1 (hl : ns.length ≤ 1000) (q : K (.next [(nm "script", Ent.val (.list (ns.map V.int))), (nm "seeds", Ent.val seeds5), (nm "drawn", Ent.val (.list (intsV [dr ns 0, dr ns 1, dr ns 2, dr ns 3, dr ns 4, dr ns 5])))])) :
    vs (P5 t) [] 51 sc5 (lS 1) [(nm "script", Ent.val (.list (ns.map V.int))), (nm "seeds", Ent.val seeds5)] K := by
  have hl2 : (ns.map V.int).length ≤ 16777216 := by rw [List.length_map]; exact Nat.le_trans hl (by decide)
  have em : [] ++ rg6.map (fun v => match v with | .int i => .int (dr ns i.toNat : Nat) | v => v) = intsV [dr ns 0, dr ns 1, dr ns 2, dr ns 3, dr ns 4, dr ns 5] := by
    rw [rg6_is]; rfl
  rw [← em] at q
  refine ⟨⟨by decide, by decide⟩, ?_⟩
  refine ⟨⟨by decide, by decide, by decide, by decide, by decide⟩, ?_⟩
  refine vMap_all (f := fun v => match v with | .int i => .int (dr ns i.toNat : Nat) | v => v) rg6 [] ?_ q
  intro it hit K' k'
  obtain ⟨j, hj, rfl⟩ := rg6_mem hit
  replace k' : K' (some (V.int (dr ns j : Nat))) := k'
  rw [← dr_is] at k'
  refine ⟨fun _ => ?_, fun q => Bool.noConfusion q⟩
  refine ⟨by decide, _, sd_at hj, ?_⟩
  refine ⟨⟨hl2, by decide⟩, ?_⟩
  refine ⟨pickI ns (j : Nat), pick_sl _ _, ?_⟩
  refine ⟨by decide, ?_⟩
  exact k'
noncomputable abbrev c3 (sc : List V) (dr : List Nat) (C : Ctx) : Ctx := (nm "script", Ent.val (.list sc)) :: (nm "seeds", Ent.val seeds5) :: (nm "drawn", Ent.val (.list (intsV dr))) :: C
theorem l2 (q : K (.next (c3 sc [x0, x1, x2, x3, x4, x5] [(nm "weights", Ent.val (.list (intsV (pickW 8 pow8 x3 []))))]))) : vs (P5 t) [] 50 sc5 (lS 2) (c3 sc [x0, x1, x2, x3, x4, x5] []) K :=
  ⟨Nat.le_of_ble_eq_true rfl, _, rfl, _, .inr (.inr (.inr (.inr (.inr (.inr (.inr ⟨rfl, x3, rfl, rfl⟩)))))), q⟩
theorem l3 (q : K (.next (c3 sc [x0, x1, x2, x3, x4, x5] [(nm "weights", Ent.val (.list (intsV W))), (nm "number", Ent.val (.int (1 + x0 % 10 : Nat)))]))) : vs (P5 t) [] 49 sc5 (lS 3) (c3 sc [x0, x1, x2, x3, x4, x5] [(nm "weights", Ent.val (.list (intsV W)))]) K := by
  rw [Int.natCast_add, show ((x0 % 10 : Nat) : Int) = ((x0 : Nat) : Int).fmod 10 from (fmod_nat x0 10).symm] at q
  exact ⟨Nat.le_of_ble_eq_true rfl, _, rfl, by decide, q⟩
theorem l4 (h : told_ok n = true) (q : K (.next (c3 sc D [(nm "weights", Ent.val (.list (intsV W))), (nm "number", Ent.val (.int (n : Nat))), (nm "told", .val (.list ((wordL n).map V.str)))]))) : vs (P5 t) [] 48 sc5 (lS 4) (c3 sc D [(nm "weights", Ent.val (.list (intsV W))), (nm "number", Ent.val (.int (n : Nat)))]) K := by
  unfold told_ok at h
  rw [Bool.and_eq_true, Bool.and_eq_true, Bool.and_eq_true] at h
  obtain ⟨a, b, c, d⟩ := h
  rw [← of_decide_eq_true c] at q
  exact ⟨_, .inr (.inl ⟨rfl, _, a, rfl, rfl⟩), ⟨by decide, of_decide_eq_true b⟩, q⟩
theorem l5 (o : W8 W) (h : told_ok n = true) (q : K (.next (lΓ sc D W n (.list ((wordL n).map V.str)) (W.map (bitN n)) []))) : vs (P5 t) [] 47 sc5 (lS 5) (c3 sc D [(nm "weights", Ent.val (.list (intsV W))), (nm "number", Ent.val (.int (n : Nat))), (nm "told", .val (.list ((wordL n).map V.str)))]) K := by
  unfold told_ok at h
  rw [Bool.and_eq_true, Bool.and_eq_true, Bool.and_eq_true] at h
  obtain ⟨_, _, _, d⟩ := h
  have em : [] ++ (intsV W).map (fun v => match v with | V.int i => V.int (bitN n i.toNat : Nat) | v => v) = intsV (W.map (bitN n)) := by
    rw [List.nil_append, intsV, intsV, List.map_map, List.map_map]; rfl
  unfold lΓ at q
  rw [← em] at q
  refine ⟨by rw [ints_len, o.len]; decide, ?_⟩
  refine vMap_all (f := fun v => match v with | V.int i => V.int (bitN n i.toNat : Nat) | v => v) (intsV W) [] ?_ q
  intro it hit K' k'
  obtain ⟨x, hx, rfl⟩ := List.mem_map.mp hit
  obtain ⟨e, he, rfl⟩ := o.mem hx
  replace k' : K' (some (V.int (bitN n (2 ^ e) : Nat))) := k'
  have d1 := of_decide_eq_true (List.all_eq_true.mp d e (List.mem_range.mpr he))
  have b1 := bit_le n (2 ^ e)
  refine ⟨fun _ => ?_, fun q => Bool.noConfusion q⟩
  refine ⟨_, .inr (.inr (.inl ⟨rfl, e, he, rfl, rfl⟩)), ?_⟩
  refine ⟨wordL n, rfl, ?_⟩
  rw [d1]
  refine ⟨fun hb => ?_, fun hb => ?_⟩
  · rw [eq_of_beq hb] at k'
    exact k'
  · have : bitN n (2 ^ e) = 0 := by
      have h1 : bitN n (2 ^ e) ≠ 1 := fun h => by rw [h] at hb; cases hb
      omega
    rw [this] at k'
    exact k'
theorem fac1 (x : Nat) : (2 : Int) + ((x : Nat) : Int).fmod 3 = ((2 + x % 3 : Nat) : Int) := by
  rw [show ((x : Nat) : Int).fmod 3 = ((x % 3 : Nat) : Int) from fmod_nat x 3]; omega
theorem fac2 (x : Nat) : (2 : Int) + (((x : Nat) : Int).fdiv 3).fmod 3 = ((2 + x / 3 % 3 : Nat) : Int) := by
  rw [show ((x : Nat) : Int).fdiv 3 = ((x / 3 : Nat) : Int) from fdiv_nat x 3]
  exact fac1 _
noncomputable abbrev lV (t : Tok) (its : List V) (Γ : Ctx) (K : Out → Prop) : Prop := vFor (fun Γ K => vss (P5 t) [] 45 sc5 (inB (lS 6)) Γ K) (fun Γ K => vss (P5 t) [] 45 sc5 [] Γ K) (forTgt (lS 6)) its Γ K
theorem l6v (o : W8 W) (hn : 1 ≤ n) (h10 : n ≤ 10) {fa fb : Nat} (a2 : 2 ≤ fa) (a4 : fa ≤ 4) (b2 : 2 ≤ fb) (b4 : fb ≤ 4) (q : ∀ Γ, K (.next Γ)) : lV t [.int (fa : Nat), .int (fb : Nat)] (lΓ sc [x0, x1, x2, x3, x4, x5] W n told (W.map (bitN n)) []) K := by
  have h40 : fa * n ≤ 40 := Nat.mul_le_mul a4 h10
  have hn2 : 1 ≤ fa * n := Nat.mul_pos (Nat.lt_of_lt_of_le (by decide) a2) hn
  refine vFor_step _ rfl ?_
  refine f_turn o hn (Nat.le_trans h10 (by decide)) a2 a4 (.nil _) fun E1 hE1 => forK_next ?_
  refine vFor_step _ rfl ?_
  refine f_turn o hn2 h40 b2 b4 hE1 fun E2 hE2 => forK_next ?_
  exact q _
theorem l6 (o : W8 W) (hn : 1 ≤ n) (h10 : n ≤ 10) (q : ∀ Γ, K (.next Γ)) : vs (P5 t) [] 46 sc5 (lS 6) (lΓ sc [x0, x1, x2, x3, x4, x5] W n told (W.map (bitN n)) []) K := by
  have lp := l6v (t := t) (sc := sc) (x0 := x0) (x1 := x1) (x2 := x2) (x3 := x3) (x4 := x4) (x5 := x5) (told := told) (K := K) o hn h10 (fa := 2 + x1 % 3) (fb := 2 + x1 / 3 % 3) (by omega) (by omega) (by omega) (by omega) q
  rw [← fac1, ← fac2] at lp
  have py : divisionGoesByPylong ((x1 : Nat) : Int) 3 = false := pylong_nat x1 3 (by decide)
  refine ⟨Nat.le_of_ble_eq_true rfl, _, rfl, ?_⟩
  refine ⟨by decide, ?_⟩
  refine ⟨Nat.le_of_ble_eq_true rfl, _, rfl, ?_⟩
  refine ⟨⟨by decide, py⟩, ?_⟩
  refine ⟨by decide, ?_⟩
  refine ⟨Nat.le_of_ble_eq_true rfl, ?_⟩
  exact lp
theorem l7 (Γ : Ctx) (q : K (.ret (.bool true))) : vs (P5 t) [] 45 sc5 (lS 7) Γ K := q
theorem bo_eq : bodyOf pw_ty0004_02 22 = [lS 0, lS 1, lS 2, lS 3, lS 4, lS 5, lS 6, lS 7] := rfl
end Mine

-- part Head2
section
open PySem PySem.W PyProof.Rows
set_option Elab.async false
namespace Mine
set_option maxRecDepth 100000
set_option maxHeartbeats 8000000
open_top hd2 for PySem.Challenge.rw_ty0004_02
end Mine
end

-- part KA2
open PySem PySem.W PyProof.Rows PySem.Challenge
set_option Elab.async false
set_option maxRecDepth 100000
set_option linter.unusedVariables false
set_option linter.unusedSimpArgs false
namespace Mine

structure TopIs (X : Fix) (K : Frag) : Prop where
  k : K.In X.top
  ns : ∃ mg mb, X.top.Ns mainGlobals mg ∧ X.top.Ns builtinsNs mb ∧ ∀ x : Str, x ≠ "__name__" → mb x = bootBuiltins x
  lim : X.top.NoLimit

theorem gl_own {X : Fix} {K : Frag} (T : TopIs X K) {x : Str} {v : Value} (e : nsIn K mainGlobals x = some (some v)) : ∃ mg, X.top.Ns mainGlobals mg ∧ (mg x = some v ∨ (mg x = none ∧ ∃ mb, X.top.Ns builtinsNs mb ∧ mb x = some v)) := by
  obtain ⟨mg, mb, g, b, bb⟩ := T.ns
  exact ⟨mg, g, .inl (mg_of T.k g e)⟩
theorem gl_bi {X : Fix} {K : Frag} (T : TopIs X K) {x : Str} {v : Value} (e : nsIn K mainGlobals x = some none) (hn : x ≠ "__name__") (hv : bootBuiltins x = some v) : ∃ mg, X.top.Ns mainGlobals mg ∧ (mg x = some v ∨ (mg x = none ∧ ∃ mb, X.top.Ns builtinsNs mb ∧ mb x = some v)) := by
  obtain ⟨mg, mb, g, b, bb⟩ := T.ns
  exact ⟨mg, g, .inr ⟨mg_none_of T.k g e, mb, b, (bb x hn).trans hv⟩⟩

theorem vals1 {p : List Value → Prop} (h : ∀ a, p [a]) (vals : List Value) (e : vals.length = 1) : p vals := by
  obtain ⟨a, rfl⟩ := List.length_eq_one_iff.mp e
  exact h a
theorem vals2 {p : List Value → Prop} (h : ∀ a b, p [a, b]) (vals : List Value) (e : vals.length = 2) : p vals := by
  obtain ⟨a, t, rfl⟩ := List.exists_cons_of_length_eq_add_one e
  exact vals1 (p := fun l => p (a :: l)) (h a) t (Nat.succ.inj e)
theorem vals3 {p : List Value → Prop} (h : ∀ a b c, p [a, b, c]) (vals : List Value) (e : vals.length = 3) : p vals := by
  obtain ⟨a, t, rfl⟩ := List.exists_cons_of_length_eq_add_one e
  exact vals2 (p := fun l => p (a :: l)) (h a) t (Nat.succ.inj e)
variable {X : Fix} {P : Params}
theorem fa95 (T : TopIs X (hd2.heap_39 P)) : ∃ o fd, FnAt X 95 [nm "data"] (scopeOf pw_ty0004_02 13) (bodyOf pw_ty0004_02 13) o fd :=
  ⟨_, _, {
    ho := T.k _ _ (by rfl)
    hd := rfl
    hb := rfl
    hn := rfl
    lim := T.lim
    cd := codeRec_of T.k (by rfl)
    bind := fun s => vals1 fun _ => BindsTo.of_eq rfl
    cell := by decide
    free := by decide
    loc := by decide
    nodup := by decide
    gl := rfl
    bi := rfl
    clo := rfl
    co := rfl
    gen := rfl
    kind := rfl }⟩
theorem fa71 (T : TopIs X (hd2.heap_39 P)) : ∃ o fd, FnAt X 71 [nm "flags"] (scopeOf pw_ty0004_02 7) (bodyOf pw_ty0004_02 7) o fd :=
  ⟨_, _, {
    ho := T.k _ _ (by rfl)
    hd := rfl
    hb := rfl
    hn := rfl
    lim := T.lim
    cd := codeRec_of T.k (by rfl)
    bind := fun s => vals1 fun _ => BindsTo.of_eq rfl
    cell := by decide
    free := by decide
    loc := by decide
    nodup := by decide
    gl := rfl
    bi := rfl
    clo := rfl
    co := rfl
    gen := rfl
    kind := rfl }⟩
theorem fa78 (T : TopIs X (hd2.heap_39 P)) : ∃ o fd, FnAt X 78 [nm "iterator"] (scopeOf pw_ty0004_02 8) (bodyOf pw_ty0004_02 8) o fd :=
  ⟨_, _, {
    ho := T.k _ _ (by rfl)
    hd := rfl
    hb := rfl
    hn := rfl
    lim := T.lim
    cd := codeRec_of T.k (by rfl)
    bind := fun s => vals1 fun _ => BindsTo.of_eq rfl
    cell := by decide
    free := by decide
    loc := by decide
    nodup := by decide
    gl := rfl
    bi := rfl
    clo := rfl
    co := rfl
    gen := rfl
    kind := rfl }⟩
theorem fa63 (T : TopIs X (hd2.heap_39 P)) : ∃ o fd, FnAt X 63 [nm "resp"] (scopeOf pw_ty0004_02 4) (bodyOf pw_ty0004_02 4) o fd :=
  ⟨_, _, {
    ho := T.k _ _ (by rfl)
    hd := rfl
    hb := rfl
    hn := rfl
    lim := T.lim
    cd := codeRec_of T.k (by rfl)
    bind := fun s => vals1 fun _ => BindsTo.of_eq rfl
    cell := by decide
    free := by decide
    loc := by decide
    nodup := by decide
    gl := rfl
    bi := rfl
    clo := rfl
    co := rfl
    gen := rfl
    kind := rfl }⟩
theorem fa102 (T : TopIs X (hd2.heap_39 P)) : ∃ o fd, FnAt X 102 [nm "weight"] (scopeOf pw_ty0004_02 15) (bodyOf pw_ty0004_02 15) o fd :=
  ⟨_, _, {
    ho := T.k _ _ (by rfl)
    hd := rfl
    hb := rfl
    hn := rfl
    lim := T.lim
    cd := codeRec_of T.k (by rfl)
    bind := fun s => vals1 fun _ => BindsTo.of_eq rfl
    cell := by decide
    free := by decide
    loc := by decide
    nodup := by decide
    gl := rfl
    bi := rfl
    clo := rfl
    co := rfl
    gen := rfl
    kind := rfl }⟩
theorem fa109 (T : TopIs X (hd2.heap_39 P)) : ∃ o fd, FnAt X 109 [nm "weight"] (scopeOf pw_ty0004_02 16) (bodyOf pw_ty0004_02 16) o fd :=
  ⟨_, _, {
    ho := T.k _ _ (by rfl)
    hd := rfl
    hb := rfl
    hn := rfl
    lim := T.lim
    cd := codeRec_of T.k (by rfl)
    bind := fun s => vals1 fun _ => BindsTo.of_eq rfl
    cell := by decide
    free := by decide
    loc := by decide
    nodup := by decide
    gl := rfl
    bi := rfl
    clo := rfl
    co := rfl
    gen := rfl
    kind := rfl }⟩
theorem fa116 (T : TopIs X (hd2.heap_39 P)) : ∃ o fd, FnAt X 116 [nm "weights", nm "dots", nm "ends"] (scopeOf pw_ty0004_02 17) (bodyOf pw_ty0004_02 17) o fd :=
  ⟨_, _, {
    ho := T.k _ _ (by rfl)
    hd := rfl
    hb := rfl
    hn := rfl
    lim := T.lim
    cd := codeRec_of T.k (by rfl)
    bind := fun s => vals3 fun _ _ _ => BindsTo.of_eq rfl
    cell := by decide
    free := by decide
    loc := by decide
    nodup := by decide
    gl := rfl
    bi := rfl
    clo := rfl
    co := rfl
    gen := rfl
    kind := rfl }⟩
theorem fa121 (T : TopIs X (hd2.heap_39 P)) : ∃ o fd, FnAt X 121 [nm "text"] (scopeOf pw_ty0004_02 18) (bodyOf pw_ty0004_02 18) o fd :=
  ⟨_, _, {
    ho := T.k _ _ (by rfl)
    hd := rfl
    hb := rfl
    hn := rfl
    lim := T.lim
    cd := codeRec_of T.k (by rfl)
    bind := fun s => vals1 fun _ => BindsTo.of_eq rfl
    cell := by decide
    free := by decide
    loc := by decide
    nodup := by decide
    gl := rfl
    bi := rfl
    clo := rfl
    co := rfl
    gen := rfl
    kind := rfl }⟩
theorem fa128 (T : TopIs X (hd2.heap_39 P)) : ∃ o fd, FnAt X 128 [nm "weights", nm "dots", nm "at"] (scopeOf pw_ty0004_02 19) (bodyOf pw_ty0004_02 19) o fd :=
  ⟨_, _, {
    ho := T.k _ _ (by rfl)
    hd := rfl
    hb := rfl
    hn := rfl
    lim := T.lim
    cd := codeRec_of T.k (by rfl)
    bind := fun s => vals3 fun _ _ _ => BindsTo.of_eq rfl
    cell := by decide
    free := by decide
    loc := by decide
    nodup := by decide
    gl := rfl
    bi := rfl
    clo := rfl
    co := rfl
    gen := rfl
    kind := rfl }⟩
theorem fa135 (T : TopIs X (hd2.heap_39 P)) : ∃ o fd, FnAt X 135 [nm "number", nm "hands"] (scopeOf pw_ty0004_02 20) (bodyOf pw_ty0004_02 20) o fd :=
  ⟨_, _, {
    ho := T.k _ _ (by rfl)
    hd := rfl
    hb := rfl
    hn := rfl
    lim := T.lim
    cd := codeRec_of T.k (by rfl)
    bind := fun s => vals2 fun _ _ => BindsTo.of_eq rfl
    cell := by decide
    free := by decide
    loc := by decide
    nodup := by decide
    gl := rfl
    bi := rfl
    clo := rfl
    co := rfl
    gen := rfl
    kind := rfl }⟩
theorem fa142 (T : TopIs X (hd2.heap_39 P)) : ∃ o fd, FnAt X 142 [nm "code"] (scopeOf pw_ty0004_02 21) (bodyOf pw_ty0004_02 21) o fd :=
  ⟨_, _, {
    ho := T.k _ _ (by rfl)
    hd := rfl
    hb := rfl
    hn := rfl
    lim := T.lim
    cd := codeRec_of T.k (by rfl)
    bind := fun s => vals1 fun _ => BindsTo.of_eq rfl
    cell := by decide
    free := by decide
    loc := by decide
    nodup := by decide
    gl := rfl
    bi := rfl
    clo := rfl
    co := rfl
    gen := rfl
    kind := rfl }⟩
theorem pat1 (T : TopIs X (hd2.heap_39 P)) : PatIs X.top 83 code1 := ⟨_, _, _, _, _, _, T.k _ _ (by rfl), rfl, rfl, rfl, by rfl, by rfl, by rfl, T.k _ _ (by rfl), rfl, by decide +kernel⟩
theorem pat2 (T : TopIs X (hd2.heap_39 P)) : PatIs X.top 88 code2 := ⟨_, _, _, _, _, _, T.k _ _ (by rfl), rfl, rfl, rfl, by rfl, by rfl, by rfl, T.k _ _ (by rfl), rfl, by decide +kernel⟩
theorem tab1 {prog : Program} {w : World} (T : TopIs X (hd2.heap_39 P)) : IntTab prog w X.top 64 flagsD :=
  kt_keyed_in T.k (D := [(1, .str (nm "OPTIMIZED")), (2, .str (nm "NEWLOCALS")), (4, .str (nm "VARARGS")), (8, .str (nm "VARKEYWORDS")), (16, .str (nm "NESTED")), (32, .str (nm "GENERATOR")), (64, .str (nm "NOFREE")), (128, .str (nm "COROUTINE")), (256, .str (nm "ITERABLE_COROUTINE")), (512, .str (nm "ASYNC_GENERATOR"))]) (by rfl) prog w

section
variable {prog : Program} {w : World}
noncomputable def GlAt (X : Fix) (p : Str × Value) : Prop := ∃ mg, X.top.Ns mainGlobals mg ∧ (mg p.1 = some p.2 ∨ (mg p.1 = none ∧ ∃ mb, X.top.Ns builtinsNs mb ∧ mb p.1 = some p.2))
theorem gl_cons {p : Str × Value} {l : List (Str × Value)} (h : GlAt X p) (r : ∀ q ∈ l, GlAt X q) : ∀ q ∈ p :: l, GlAt X q := List.forall_mem_cons.mpr ⟨h, r⟩
theorem gl_all (T : TopIs X (hd2.heap_39 P)) : ∀ p ∈ gl1 443, GlAt X p := by
  unfold gl1
  repeat (refine gl_cons (by first | exact gl_own T (by rfl) | exact gl_bi T (by rfl) (by decide) (by rfl)) ?_)
  exact fun q h => (nomatch h)
theorem parok1 (T : TopIs X (hd2.heap_39 P)) (n : Nat) : ParOk prog w X (okN X n) (P1 443) where
  gl := fun x v h => gl_all T (x, v) (glOf_mem (l := gl1 443) h)
  fs := fun a h => by
    have h' : fs1 a = true := h
    simp only [fs1, Bool.or_eq_true, Nat.beq_eq] at h'
    rcases h' with (((((((((rfl | rfl) | rfl) | rfl) | rfl) | rfl) | rfl) | rfl) | rfl) | rfl) | rfl
    all_goals exact ⟨_, _, T.k _ _ (by rfl), rfl⟩
  fn := fun a Vs r h => h.elim
  mi := fun a name id h A hp Q pl o q => by
    have h' : mi1 a name = some id := h
    unfold mi1 at h'
    split at h'
    · rename_i e
      cases h'
      obtain ⟨e1, e2⟩ := Bool.and_eq_true_iff.mp e
      rw [sameN_iff.mp e2]
      rcases (Bool.or_eq_true _ _).mp e1 with q1 | q1
      · rw [Nat.eq_of_beq_eq_true q1]
        rw [Nat.eq_of_beq_eq_true q1] at q
        exact sub_get (okN_ok X n) (pat1 T) A hp Q pl o q
      · rw [Nat.eq_of_beq_eq_true q1]
        rw [Nat.eq_of_beq_eq_true q1] at q
        exact sub_get (okN_ok X n) (pat2 T) A hp Q pl o q
    · split at h'
      · rename_i e
        cases h'
        obtain ⟨e1, e2⟩ := Bool.and_eq_true_iff.mp e
        rw [sameN_iff.mp e2, Nat.eq_of_beq_eq_true e1]
        rw [Nat.eq_of_beq_eq_true e1] at q
        exact get_get (okN_ok X n) (tab1 (prog := prog) (w := w) T) A hp Q pl o q
      · cases h'
  mt := fun a name Vs r id h hi => by
    have h' : mt1 a name Vs r := h
    have hi' : mi1 a name = some id := hi
    rcases h' with ⟨rfl, l, hl, rfl, rfl⟩ | ⟨rfl, l, hl, rfl, rfl⟩ | ⟨rfl, i, dflt, y, rfl, rfl, hy⟩
    · have : id = "re.Pattern.sub" := by
        unfold mi1 at hi'
        split at hi'
        · cases hi'; rfl
        · split at hi'
          · rename_i e; exact absurd (Bool.and_eq_true_iff.mp e).1 (by decide)
          · cases hi'
      rw [this]
      exact crlf_gives (okN_ok X n) (pat2 T) hl
    · have : id = "re.Pattern.sub" := by
        unfold mi1 at hi'
        split at hi'
        · cases hi'; rfl
        · split at hi'
          · rename_i e; exact absurd (Bool.and_eq_true_iff.mp e).1 (by decide)
          · cases hi'
      rw [this]
      exact dots_gives (okN_ok X n) (pat1 T) hl
    · have : id = "dict.get" := by
        unfold mi1 at hi'
        split at hi'
        · rename_i e; exact absurd (Bool.and_eq_true_iff.mp e).1 (by decide)
        · split at hi'
          · cases hi'; rfl
          · cases hi'
      rw [this]
      exact get_gives (okN_ok X n) (tab1 (prog := prog) (w := w) T) hy
end
end Mine

-- part KB2
open PySem PySem.W PyProof.Rows PySem.Challenge
set_option Elab.async false
set_option maxRecDepth 100000
set_option linter.unusedVariables false
set_option linter.unusedSimpArgs false
namespace Mine
variable {X : Fix} {P : Params} {prog : Program} {w : World}

theorem var78 (T : TopIs X (hd2.heap_39 P)) (n : Nat) : VarOk prog w X (okN X (n + 1)) 78 := by
  obtain ⟨o, fd, F⟩ := fa78 T
  exact var_ok F (parok1 (prog := prog) (w := w) T n) (by rfl)
theorem rows121 (T : TopIs X (hd2.heap_39 P)) (n : Nat) {l : List Nat} {res : List V} (hl : l.length ≤ 100000) (h : ∀ I, WW 443 (mkS l) I (fun r => r = res) [] 0 0 l) : FnGives prog w X (okN X (n + 2)) 121 [.str (mkS l)] (.list res) := by
  obtain ⟨o, fd, F⟩ := fa121 T
  obtain ⟨ov, fv, Fv⟩ := fa78 T
  exact rows_gives (n := n + 1) (ow := [nm "rows"]) (octs := octL l) F (parok1 (prog := prog) (w := w) T (n + 1)) (var78 T n) (by rfl) Fv.ho Fv.hd (by rfl) (by rfl) (by rfl) (by rfl) (by rfl) (by rfl) (by rfl) (by rfl) (by rfl) (vc_octs 443 l hl) (vc_rows 443 l res h)
theorem zs1 (T : TopIs X (hd2.heap_39 P)) (n : Nat) : ∀ A, ZipSnd prog w X A (okN X n) (P1 443) := fun A => zip_snd (okN_ok X n) (parok1 T n)
theorem tail109 (T : TopIs X (hd2.heap_39 P)) (n : Nat) {k : Nat} (hk : k ≤ 4000) : FnGives prog w X (okN X (n + 1)) 109 [.int (k : Nat)] (.str (mkS (tailL k))) := by
  obtain ⟨o, fd, F⟩ := fa109 T
  exact fn_gives (n := n) F (parok1 T n) (zs1 T n) rfl (vc_tail 443 k hk)
theorem parok3 (T : TopIs X (hd2.heap_39 P)) (n : Nat) : ParOk prog w X (okN X (n + 1)) (P3 443) where
  gl := (parok1 (prog := prog) (w := w) T (n + 1)).gl
  fs := (parok1 (prog := prog) (w := w) T (n + 1)).fs
  mi := (parok1 (prog := prog) (w := w) T (n + 1)).mi
  mt := (parok1 (prog := prog) (w := w) T (n + 1)).mt
  fn := fun a Vs r h => by
    obtain ⟨rfl, k, hk, rfl, rfl⟩ : a = 109 ∧ ∃ w : Nat, w ≤ 4000 ∧ Vs = [.int w] ∧ r = .str (mkS (tailL w)) := h
    exact tail109 T n hk
theorem mail116 (T : TopIs X (hd2.heap_39 P)) (n : Nat) {W ds : List Nat} {e : Nat} (hl : ds.length = W.length) (hn : W.length ≤ 8) (hw : ∀ k, W.getD k 0 ≤ 4000) (hd : ∀ k, ds.getD k 0 ≤ 100) :
    FnGives prog w X (okN X (n + 2)) 116 [.list (intsV W), .list (intsV ds), .int (e : Nat)] (.str (mkS (mailF W ds e W.length))) := by
  obtain ⟨o, fd, F⟩ := fa116 T
  exact fn_gives (n := n + 1) F (parok3 T n) (fun A => zip_snd (okN_ok X (n + 1)) (parok3 T n)) rfl (vc_mail 443 W ds e hl hn hw hd)
theorem parok4 (T : TopIs X (hd2.heap_39 P)) (n : Nat) : ParOk prog w X (okN X (n + 2)) (P4 443) where
  gl := (parok1 (prog := prog) (w := w) T (n + 2)).gl
  fs := (parok1 (prog := prog) (w := w) T (n + 2)).fs
  mi := (parok1 (prog := prog) (w := w) T (n + 2)).mi
  mt := (parok1 (prog := prog) (w := w) T (n + 2)).mt
  fn := fun a Vs r h => by
    have h' : fn4 a Vs r := h
    rcases h' with ⟨rfl, W, ds, e, hl, hn, hw, hd, rfl, rfl⟩ | ⟨rfl, k, hk, rfl, rfl⟩ | ⟨rfl, l, s, hl, rfl, rfl, rfl⟩
    · exact mail116 T n hl hn hw hd
    · exact tail109 T (n + 1) hk
    · obtain ⟨o, fd, F⟩ := fa63 T
      exact fn_gives (n := n + 1) F (parok1 T (n + 1)) (zs1 T (n + 1)) rfl (vc_parse 443 l hl)
theorem read128 (T : TopIs X (hd2.heap_39 P)) (n : Nat) {W ds : List Nat} {a : Nat} (o : WOk W ds) (ha : a ≤ 8) :
    FnGives prog w X (okN X (n + 3)) 128 [.list (intsV W), .list (intsV ds), .int (a : Nat)] (.tup [.list (intsV (readF W ds (8 - a) a ds g8).1), .list (intsV (readF W ds (8 - a) a ds g8).2)]) := by
  obtain ⟨ob, fd, F⟩ := fa128 T
  exact fn_gives (n := n + 2) F (parok4 T n) (fun A => zip_snd (okN_ok X (n + 2)) (parok4 T n)) rfl (vc_read 443 W ds a o ha)
theorem parok5 (T : TopIs X (hd2.heap_39 P)) (n : Nat) : ParOk prog w X (okN X (n + 3)) (P5 443) where
  gl := (parok1 (prog := prog) (w := w) T (n + 3)).gl
  fs := (parok1 (prog := prog) (w := w) T (n + 3)).fs
  mi := (parok1 (prog := prog) (w := w) T (n + 3)).mi
  mt := (parok1 (prog := prog) (w := w) T (n + 3)).mt
  fn := fun a Vs r h => by
    have Z : ∀ A, ZipSnd prog w X A (okN X (n + 2)) (P1 443) := zs1 T (n + 2)
    have PO := parok1 (prog := prog) (w := w) T (n + 2)
    have h' : fn5 a Vs r := h
    rcases h' with ⟨rfl, l, s, hl, rfl, rfl, rfl⟩ | ⟨rfl, x, hx, rfl, rfl⟩ | ⟨rfl, j, hj, rfl, rfl⟩ | ⟨rfl, W, ds, e, hl, hn, hw, hd, rfl, rfl⟩ | ⟨rfl, ps, hp, hl, hd, rfl, rfl⟩ | ⟨rfl, W, ds, b, o, hb, rfl, rfl⟩ | ⟨rfl, nu, hn, hnu, hhn, w0, w1, rfl, rfl⟩ | ⟨rfl, c, rfl, rfl⟩
    · obtain ⟨o, fd, F⟩ := fa95 T
      exact fn_gives (n := n + 2) F PO Z rfl (vc_quote 443 l hl)
    · obtain ⟨o, fd, F⟩ := fa71 T
      exact fn_gives (n := n + 2) F PO Z rfl (vc_pretty 443 x hx)
    · obtain ⟨o, fd, F⟩ := fa102 T
      exact fn_gives (n := n + 2) F PO Z rfl (vc_word 443 j hj)
    · exact mail116 T (n + 1) hl hn hw hd
    · exact rows121 T (n + 1) (Nat.le_trans (mailP_len ps hd) (by omega)) fun I => ww_mail ps [] hp (by simp; omega) rfl
    · exact read128 T n o hb
    · obtain ⟨o, fd, F⟩ := fa135 T
      exact fn_gives (n := n + 2) F PO Z rfl (vc_twos 443 nu hn hnu hhn w0 w1)
    · obtain ⟨o, fd, F⟩ := fa142 T
      exact fn_gives (n := n + 2) F PO Z rfl (vc_order 443 c)
end Mine

-- part KC2
open PySem PySem.W PyProof.Rows PySem.Challenge
set_option Elab.async false
set_option maxRecDepth 100000
set_option linter.unusedVariables false
set_option linter.unusedSimpArgs false
namespace Mine

theorem vc_law_rest (ns : List Int) (hl : ns.length ≤ 1000) :
    vss (P5 443) [] 52 sc5 [lS 1, lS 2, lS 3, lS 4, lS 5, lS 6, lS 7] [(nm "script", .val (.list (ns.map V.int))), (nm "seeds", .val seeds5)] (fun out => out = .ret (.bool true)) := by
  have o := W8.of (dr ns 3)
  have hm : dr ns 0 % 10 < 10 := Nat.mod_lt _ (by decide)
  have h1 : 1 ≤ 1 + dr ns 0 % 10 := Nat.le_add_right _ _
  have h10 : 1 + dr ns 0 % 10 ≤ 10 := by omega
  have tk := told_all ⟨1 + dr ns 0 % 10, Nat.lt_succ_of_le h10⟩ h1
  refine vss_cons (l1 hl ?_)
  refine vss_cons (l2 ?_)
  refine vss_cons (l3 ?_)
  refine vss_cons (l4 tk ?_)
  refine vss_cons (l5 o tk ?_)
  refine vss_cons (l6 o h1 h10 fun Γ => ?_)
  refine vss_cons (l7 Γ ?_)
  exact Eq.refl (Out.ret (V.bool true))

theorem fst_cells {X : Fix} {env : Env} {G : GMap} {h₁ : Heap} {m cm : Str → Option Value} {Γc : Mine.Ctx} (hloc : env.locals = X.top.objs.size) (F : Fr X.top X.top.objs.size h₁ m) (C : Cl X.top.objs.size env.cells h₁ cm) (le : LeH G X.top)
    (val : ∀ x v, Γc.find x = some (.val v) → ∃ u, Loc env h₁ x u ∧ Rel G u v) (own : ∀ x l, Γc.find x ≠ some (.own l)) : FSt X (fun b => X.top.get? b) G env Γc (fun _ => 0) G h₁ := by
  have sub : Sub X X.top h₁ := .of F.keep
  have nG : ∀ b, X.top.get? b = none → ∀ o, G b ≠ some o := fun b e o q => by rw [(le b o q).1] at e; cases e
  have fC : ∀ x c, env.cells.lookup x = some c → X.top.get? c = none := fun x c e => get_ge (Nat.le_of_lt (C.above x c (PySem.mem_of_lookup_some e)))
  exact {
    leh := le.sub sub
    l0 := le
    sub := sub
    grow := ⟨fun _ _ e => e, fun _ _ e => .inl e⟩
    ns := ⟨m, by rw [hloc]; exact F.ns⟩
    fL := by rw [hloc]; exact get_size _
    nL := nG _ (by rw [hloc]; exact get_size _)
    cell := fun x c e => ⟨fC x c e, ⟨_, C.cell x c e⟩, nG _ (fC x c e)⟩
    cinj := fun x y c e1 e2 => PySem.name_of_addr C.apart (PySem.mem_of_lookup_some e1) (PySem.mem_of_lookup_some e2)
    val := val
    own := fun x l e => absurd e (own x l)
    inj := fun x y l l' e => absurd e (own x l) }

theorem law_run {w : World} {X : Fix} {P : Params} (T : TopIs X (hd2.heap_39 P)) {env : Env} {h₁ : Heap} {m cm : Str → Option Value} {a : Addr} {vs : List Value} {ns : List Int} (oe : EnvOk sc5 env) (hloc : env.locals = X.top.objs.size) (hfr : env.frame = some X.top.objs.size) (hk : env.scope.kind = .function)
    (F : Fr X.top X.top.objs.size h₁ m) (C : Cl X.top.objs.size env.cells h₁ cm) {c : Addr} (hc : env.cells.lookup (nm "script") = some c) (hcm : cm (nm "script") = some (.ref a))
    (hl : X.top.get? a = some (listO vs 0)) (hr : IntsAre vs ns) (hn : ns.length ≤ 1000) {Q : Flow → Shared → Prop} {E : Value → Shared → Prop} (q : ∀ h' tk', (∀ b o, X.top.get? b = some o → h'.get? b = some o) → Q (.ret (.bool true)) (X.at h' tk')) :
    ∀ tk, wpAny (model pw_ty0004_02 w) (callerA.deeper env) (execs (bodyOf pw_ty0004_02 22) env) Q E (X.at h₁ tk) := by
  intro tk
  have le : LeH (GMap.add (fun _ => none) a (listO vs 0)) X.top := fun b o e => by
    unfold GMap.add at e
    split at e
    · rename_i q; subst q; cases e; exact ⟨hl, fun ⟨_, _, q⟩ => nomatch q⟩
    · cases e
  have kc : env.kindOf (nm "script") = some .cell := by rw [oe.kindOf]; rfl
  have z0 : FSt X (fun b => X.top.get? b) (GMap.add (fun _ => none) a (listO vs 0)) env [(nm "script", .val (.list (ns.map V.int)))] (fun _ => 0) (GMap.add (fun _ => none) a (listO vs 0)) h₁ := by
    refine fst_cells hloc F C le (fun x v e => ?_) (fun x l e => ?_)
    · unfold Ctx.find at e
      split at e
      · rename_i hs
        have hx := sameN_iff.mp hs
        cases e
        subst hx
        exact ⟨.ref a, .inr ⟨.inl kc, c, hc, by rw [← hcm]; exact C.cell _ _ hc⟩, .list a vs 0 _ (GMap.add_self ..) (relL_of_ints hr)⟩
      · cases e
    · unfold Ctx.find at e
      split at e
      · cases e
      · cases e
  have adm : Adm X (callerA.deeper env) (okN X 3) env (fun b => X.top.get? b) (GMap.add (fun _ => none) a (listO vs 0)) := fun Γ oa G' h' z' => by
    have tp : ∀ b ob, X.top.get? b = some ob → h'.get? b = some ob := fun b ob e => z'.sub.top e (by rw [e]; rfl)
    have stk : (callerA.deeper env).frames = some [env] := Around.frames_deeper rfl
    have fr : FrOk X [env] h' := by
      intro env' he
      rw [List.mem_singleton.mp he]
      obtain ⟨m', n'⟩ := z'.ns
      exact ⟨by rw [hk]; decide, _, m', hfr, get_size _, by rw [← hloc]; exact n'⟩
    exact ⟨rfl, by show callerA.depth + 1 + 3 < 900; decide +kernel, by show callerA.units + 3 + 3 * 3 < 5000; decide +kernel, tp, [env], ⟨stk, tp, funFrames fr⟩, fr⟩
  have O := okN_ok X 3
  have PO := parok5 (prog := pw_ty0004_02) (w := w) T 0
  have Z : ZipSnd pw_ty0004_02 w X (callerA.deeper env) (okN X 3) (P5 443) := zip_snd O PO
  rw [bo_eq, execs_cons]
  refine wpAny_bind (wpAny_Assign_Name (wpAny_List_spliced ?_) rfl)
  refine args_cons (wpAny_Constant_int ?_)
  refine args_cons (wpAny_Constant_int ?_)
  refine args_cons (wpAny_Constant_int ?_)
  refine args_cons (wpAny_Constant_int ?_)
  refine args_cons (wpAny_Constant_int ?_)
  refine args_cons (wpAny_Constant_int ?_)
  refine args_nil ⟨by rw [line_eq]; exact Nat.le_of_ble_eq_true rfl, ?_⟩
  have s1 : Sub X h₁ (h₁.push (listO [.int 4 tk, .int 1 (tk + 1), .int 5 (tk + 1 + 1), .int 7 (tk + 1 + 1 + 1), .int 0 (tk + 1 + 1 + 1 + 1), .int 1 (tk + 1 + 1 + 1 + 1 + 1)] 0)) := Sub.push _ _
  have g1 := Grow.add (o := listO [.int 4 tk, .int 1 (tk + 1), .int 5 (tk + 1 + 1), .int 7 (tk + 1 + 1 + 1), .int 0 (tk + 1 + 1 + 1 + 1), .int 1 (tk + 1 + 1 + 1 + 1 + 1)] 0) z0.leh (get_size h₁)
  have z1 := z0.step s1 g1 ((z0.leh.sub s1).add (Heap.get?_push_size _ rfl))
  have rr : Rel ((GMap.add (fun _ => none) a (listO vs 0)).add h₁.objs.size (listO [.int 4 tk, .int 1 (tk + 1), .int 5 (tk + 1 + 1), .int 7 (tk + 1 + 1 + 1), .int 0 (tk + 1 + 1 + 1 + 1), .int 1 (tk + 1 + 1 + 1 + 1 + 1)] 0)) (.ref h₁.objs.size) seeds5 :=
    .list _ _ 0 _ (GMap.add_self ..) (.cons _ _ _ _ (.int _ _) (.cons _ _ _ _ (.int _ _) (.cons _ _ _ _ (.int _ _) (.cons _ _ _ _ (.int _ _) (.cons _ _ _ _ (.int _ _) (.cons _ _ _ _ (.int _ _) .nil))))))
  refine (store_sound (x := nm "seeds") (v := .ref h₁.objs.size) (Q := fun _ h2 => FSt X (fun b => X.top.get? b) (GMap.add (fun _ => none) a (listO vs 0)) env [(nm "script", .val (.list (ns.map V.int))), (nm "seeds", .val seeds5)] (fun _ => 0) _ h2) oe z1 (by rfl) fun h2 B st => z1.put_val st rr).use (tk := tk + 1 + 1 + 1 + 1 + 1 + 1) (Nat.succ_le_succ (Nat.zero_le _)) fun _ h2 tk2 l2 z2 => ?_
  show wpAny _ _ (execs [lS 1, lS 2, lS 3, lS 4, lS 5, lS 6, lS 7] env) _ _ _
  refine ((vs_sound (P := P5 443) (ow := []) oe O PO Z 52 _ _ adm).2 _ _ _ _ _ _ z2 (vc_law_rest ns hn)).use l2 fun f h3 tk3 l3 p => ?_
  cases f with
  | next => obtain ⟨_, _, _, _, _, q⟩ := p; cases q
  | brk => obtain ⟨_, _, _, _, _, q⟩ := p; cases q
  | cont => obtain ⟨_, _, _, _, _, q⟩ := p; cases q
  | ret v =>
    obtain ⟨x, G', s, g, le', r', e⟩ := p
    cases e
    cases r'
    exact q h3 tk3 fun b o e => s.top e (by rw [e]; rfl)
end Mine

-- part KD2
open PySem PySem.W PyProof.Rows PySem.Challenge
set_option Elab.async false
set_option maxRecDepth 100000
set_option linter.unusedVariables false
set_option linter.unusedSimpArgs false
namespace Mine

theorem cells_ge : ∀ (names : Names) (n : Nat) (acc : List (Str × Addr)), ∀ p ∈ cellsFrom n names acc, p ∈ acc ∨ n ≤ p.2
  | [], n, acc, p, h => .inl h
  | (x, k) :: r, n, acc, p, h => by
    unfold cellsFrom at h
    split at h
    · rcases cells_ge r (n + 1) ((x, n) :: acc) p h with q | q
      · rcases List.mem_cons.mp q with rfl | q
        · exact .inr (Nat.le_refl _)
        · exact .inl q
      · exact .inr (Nat.le_of_succ_le q)
    · exact cells_ge r n acc p h
theorem cells_apart : ∀ (names : Names) (n : Nat) (acc : List (Str × Addr)), (∀ p ∈ acc, p.2 < n) → (acc.Pairwise fun x y => x.2 ≠ y.2) → (cellsFrom n names acc).Pairwise fun x y => x.2 ≠ y.2
  | [], n, acc, _, h => h
  | (x, k) :: r, n, acc, hl, h => by
    unfold cellsFrom
    split
    · refine cells_apart r (n + 1) ((x, n) :: acc) (fun p hp => ?_) (List.pairwise_cons.mpr ⟨fun p hp => Nat.ne_of_gt (hl p hp), h⟩)
      rcases List.mem_cons.mp hp with rfl | hp
      · exact Nat.lt_succ_self _
      · exact Nat.lt_succ_of_lt (hl p hp)
    · exact cells_apart r n acc hl h
theorem look_cons {x y : Str} {a : Addr} {acc : List (Str × Addr)} (h : (acc.lookup x).isSome = true) : (((y, a) :: acc).lookup x).isSome = true := by
  rw [List.lookup_cons]
  split
  · rfl
  · exact h
theorem cells_some : ∀ (names : Names) (n : Nat) (acc : List (Str × Addr)) (x : Str), ((acc.lookup x).isSome = true ∨ (x, NameKind.cell) ∈ names) → ((cellsFrom n names acc).lookup x).isSome = true
  | [], n, acc, x, h => by
    rcases h with h | h
    · exact h
    · cases h
  | (y, k) :: r, n, acc, x, h => by
    unfold cellsFrom
    split
    · rename_i hk
      refine cells_some r (n + 1) ((y, n) :: acc) x ?_
      rcases h with h | h
      · exact .inl (look_cons h)
      · rcases List.mem_cons.mp h with q | q
        · cases q
          left
          rw [List.lookup_cons, beq_self_eq_true]; rfl
        · exact .inr q
    · rename_i hk
      refine cells_some r n acc x ?_
      rcases h with h | h
      · exact .inl h
      · rcases List.mem_cons.mp h with q | q
        · cases q; exact absurd rfl hk
        · exact .inr q
theorem no_free : ∀ p ∈ sc5, p.2 ≠ NameKind.free := by decide

theorem finish {w : World} {s₀ s₁ : Shared} {mg mb m cm : Str → Option Value} {fa a : Addr} {cd : Value} {fname : Str} {vs : List Value} {ns : List Int} {h₁ : Heap} {tk₁ : Nat} {cells : List (Addr × Obj)} {sc : Scope} {ek : Value → Shared → Prop} (hsc : sc.names = sc5) (hsk : sc.kind = .function)
    (hg : s₁.gens = #[]) (KX : (hd2.heap_39 w.params).In s₁.heap) (g : s₁.heap.Ns mainGlobals mg) (b : s₁.heap.Ns builtinsNs mb) (bb : ∀ x : Str, x ≠ "__name__" → mb x = bootBuiltins x) (lim : s₁.heap.NoLimit)
    (w1 : Well w.params s₁.heap (.ref a) (ofPy (.list (ns.map .int)))) (hL : s₁.heap.IsList a vs.toArray) (hI : IntsAre vs ns) (hcond : ns.length ≤ 1000)
    (F : Fr s₁.heap s₁.heap.objs.size h₁ m) (N0 : News s₁.heap s₁.heap.objs.size h₁ cells) (X0 : CellsAre cm (cellsFrom (s₁.heap.objs.size + 1) sc5 []) cells) (hcm : cm (nm "script") = some (.ref a)) :
    wpAny (model pw_ty0004_02 w) (callerA.deeper (envOfC fname sc s₁.heap.objs.size fa cd)) (execs (bodyOf pw_ty0004_02 22) (envOfC fname sc s₁.heap.objs.size fa cd))
      (fun f s' => GoodW rw_ty0004_02.row.claim (classAt s₀.heap) (ExcName.means s₀.heap) [ofPy (.list (ns.map .int))] s₁ (.ok (.ret (match f with | .ret v => v | _ => .none))) s') ek
      { heap := h₁, gens := s₁.gens, drawn := s₁.drawn, toks := tk₁, os := s₁.os } := by
  have hob : s₁.heap.get? a = some (listO vs 0) := by
    obtain ⟨o, ho, hc, n, hd⟩ := hL
    cases w1 with
    | list h1 h2 =>
      rw [ho] at h1
      cases h1
      cases hd
      exact ho
  have T : TopIs ⟨s₁.gens, s₁.drawn, s₁.os, s₁.heap⟩ (hd2.heap_39 w.params) := ⟨KX, ⟨mg, mb, g, b, bb⟩, lim⟩
  have C : Cl s₁.heap.objs.size (cellsFrom (s₁.heap.objs.size + 1) sc5 []) h₁ cm := Cl.of_news (own := []) N0 X0 (cells_apart _ _ _ (fun _ h => nomatch h) List.Pairwise.nil) fun n c hm => (cells_ge _ _ _ _ hm).elim (fun q => nomatch q) fun q => q
  have cl : (envOfC fname sc s₁.heap.objs.size fa cd).cells = cellsFrom (s₁.heap.objs.size + 1) sc5 [] := by show cellsFrom _ sc.names [] = _; rw [hsc]
  have oe : EnvOk sc5 (envOfC fname sc s₁.heap.objs.size fa cd) := ⟨hsc, hsk, rfl, rfl, fun x hx => by
    rw [cl]
    rcases isCellK_iff.mp hx with q | q
    · exact Option.isSome_iff_exists.mp (cells_some sc5 _ [] x (.inr (kindN_mem q)))
    · exact absurd rfl (no_free _ (kindN_mem q))⟩
  obtain ⟨c, hc⟩ := oe.cells (nm "script") (by rfl)
  refine law_run (X := ⟨s₁.gens, s₁.drawn, s₁.os, s₁.heap⟩) T oe rfl rfl hsk F (by rw [cl]; exact C) hc hcm hob hI hcond (fun h' tk' hk => ?_) tk₁
  exact ⟨.inl ⟨_, .bool true, [], rfl, fun cls => rfl, .bool true, by wrow_post, fun _ => ⟨List.nodup_nil, fun a h => nomatch h⟩⟩, hk, rfl, hg⟩
end Mine

-- part KE2
open PySem PySem.W PyProof.Rows
set_option Elab.async false
set_option maxRecDepth 100000
set_option maxHeartbeats 8000000
theorem PySem.Challenge.cw_ty0004_02_holds : PySem.Challenge.rw_ty0004_02.Holds := by
  refine Mine.hd2 ?_
  k_fill
  intro w s₀ s₁ mg mb G Y fa o pm cd doc dV kV ho hd hcd hD hmg hg args vals as hpre hlay hrd hwl hlo
  have KE2 := kIn_of Y
  have X := (Ground.X G).1
  have V := (Ground.X G).2
  refine Ground.open G ?_
  intro T B D TE TW
  try (refine guard_noD D (by decide +kernel) ?_; clear D)
  obtain ⟨_, _, M⟩ := bmod_of_top T
  have TA := at_of_top T
  try (obtain ⟨_, _, he, B0⟩ := based_of_top T rfl hmg ho hd; have he' : cd = _ := he; subst he'; clear he)
  clear hmg
  wrow_args hpre hlay hrd hwl hlo
  all_goals (
    first | refine callC_kw (enter_call ?_) | refine enter_call ?_ | refine callC_kw (enter_callW ?_) | refine enter_callW ?_ | w_how
    w_top on
    try refine codeAny_mono ?_ (fun _ _ g => GoodW.toG g)
    have K0 := below_caller (Top.heap T)
    have he := Dflts.none hD rfl; subst he
    have he := Dflts.noKw hD; subst he
    refine call_cellsN (by decide) ho (fd_plain hd) (Top.nolimit T) hcd rfl (kinds_of (by kinds_ok)) (by decide) fun h₁ tk₁ cells F N0 X0 => ?_
    clear hd TA
    k_drop
    skip)
  refine Mine.finish (by rfl) (by rfl) (by assumption) (by assumption) (Top.g (by assumption)) (Top.b (by assumption)) (Top.builtins (by assumption)) (Top.nolimit (by assumption)) (by assumption) (by assumption) (by assumption) ?_ (by assumption) (by assumption) (by assumption) (by rfl)
  omega

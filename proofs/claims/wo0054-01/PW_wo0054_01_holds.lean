import PyProof.Rows.All
import Wide.All
import OpenK.AllK
import Wide.FinOn
import PySem.Challenge.RW_wo0054_01
set_option Elab.async false
set_option maxRecDepth 100000
noncomputable section
namespace Ev
open PySem PySem.Calls PyProof.Rows

-- small tools: each takes a look's answer apart and names the goal but once
theorem dead {α : Type _} {a : α} {P : Prop} (h : (none : Option α) = some a) : P := nomatch h
theorem ob {α β : Type _} {P : Prop} {o : Option α} {f : α → Option β} {b : β} (h : o.bind f = some b) (k : ∀ a, o = some a → f a = some b → P) : P :=
  match o, h, k with
  | none, h, _ => nomatch h
  | some a, h, k => k a rfl h
theorem ob_i {α β : Type _} {o : Option α} {f : α → Option β} {a : α} {r : Option β} (h : o = some a) (h' : f a = r) : o.bind f = r := by subst h; exact h'
noncomputable def gd {α : Type _} : Bool → Option α → Option α
  | true, o => o
  | false, _ => none
theorem gdo {α : Type _} {P : Prop} {c : Bool} {o : Option α} {a : α} (h : gd c o = some a) (k : c = true → o = some a → P) : P :=
  match c, h, k with
  | false, h, _ => nomatch h
  | true, h, k => k rfl h
theorem gd_i {α : Type _} {c : Bool} {o r : Option α} (h : c = true) (h' : o = r) : gd c o = r := by subst h; exact h'
theorem bifo {α : Type _} {P : Prop} {c : Bool} {x y : α} {a : α} (h : (bif c then x else y) = a) (k1 : c = true → x = a → P) (k2 : c = false → y = a → P) : P :=
  match c, h, k1, k2 with
  | true, h, k, _ => k rfl h
  | false, h, _, k => k rfl h
theorem ifo {α : Type _} {P : Prop} {c : Prop} [Decidable c] {x y : α} {a : α} (h : (if c then x else y) = a) (k1 : c → x = a → P) (k2 : ¬ c → y = a → P) : P :=
  if hc : c then k1 hc ((if_pos hc).symm.trans h) else k2 hc ((if_neg hc).symm.trans h)
theorem sm {α β : Type _} {P : Prop} {a b : α} {f : α → β} {c : β} (h : some a = some b) (he : f b = c) (k : f a = c → P) : P := k (by cases h; exact he)
theorem sj {α : Type _} {a b : α} (h : some a = some b) : a = b := Option.some.inj h
theorem ff {P : Prop} (h : false = true) : P := nomatch h
theorem cps {G : Prop} (h : ∀ P : Prop, (G → P) → P) : G := h G id
theorem and_o {P : Prop} {a b : Bool} (h : (a && b) = true) (k : a = true → b = true → P) : P := k (by cases a <;> first | rfl | cases h) (by cases a <;> first | exact h | cases h)
theorem not_o {a : Bool} (h : (!a) = true) : a = false := by cases a <;> first | rfl | cases h
noncomputable def one1 {α : Type _} : List α → Option α
  | [a] => some a
  | _ => none
noncomputable def two {α : Type _} : List α → Option (α × α)
  | [a, b] => some (a, b)
  | _ => none
theorem one1_o {α : Type _} {P : Prop} {l : List α} {a : α} (h : one1 l = some a) (k : l = [a] → P) : P :=
  match l, h, k with
  | [_], h, k => k (by rw [sj h])
  | [], h, _ => dead h
  | _ :: _ :: _, h, _ => dead h
theorem two_o {α : Type _} {P : Prop} {l : List α} {a : α × α} (h : two l = some a) (k : l = [a.1, a.2] → P) : P :=
  match l, h, k with
  | [_, _], h, k => k (by rw [← sj h])
  | [], h, _ => dead h
  | [_], h, _ => dead h
  | _ :: _ :: _ :: _, h, _ => dead h
theorem dec_o {p : Prop} [Decidable p] (h : decide p = true) : p := of_decide_eq_true h

noncomputable abbrev D := PyData

/-- the heap under it all: what lies in it stays as it is -/
class Base where
  heap : Heap
section
variable [Base]
/-- kept; a frame's slots may be filled when an exception leaves -/
noncomputable def Kept (h' : Heap) (b : Addr) (o : Obj) : Prop := ∃ sl, h'.get? b = some { o with slots := sl } ∧ ((o.cls ≠ .type "frame" ∨ (∃ o', Base.heap.get? b = some o') ∨ ∃ vs, o.data = .fields vs) → sl = o.slots)
theorem Kept.of {h' : Heap} {b : Addr} {o : Obj} (e : h'.get? b = some o) : Kept h' b o := ⟨o.slots, e, fun _ => rfl⟩
theorem Kept.exact {h' : Heap} {b : Addr} {o : Obj} (k : Kept h' b o) (hc : o.cls ≠ .type "frame") : h'.get? b = some o := by
  obtain ⟨sl, e, q⟩ := k
  rw [q (.inl hc)] at e; exact e
theorem Kept.base {h' : Heap} {b : Addr} {o o' : Obj} (k : Kept h' b o) (hb : Base.heap.get? b = some o') : h'.get? b = some o := by
  obtain ⟨sl, e, q⟩ := k
  rw [q (.inr (.inl ⟨o', hb⟩))] at e; exact e
theorem Kept.fields {h' : Heap} {b : Addr} {o : Obj} (k : Kept h' b o) {vs : Array Value} (hd : o.data = .fields vs) : h'.get? b = some o := by
  obtain ⟨sl, e, q⟩ := k
  rw [q (.inr (.inr ⟨vs, hd⟩))] at e; exact e
theorem Kept.there {h' : Heap} {b : Addr} {o : Obj} (k : Kept h' b o) : ∃ o', h'.get? b = some o' := let ⟨_, e, _⟩ := k; ⟨_, e⟩
theorem Kept.trans {h' h'' : Heap} {b : Addr} {o : Obj} (k : Kept h' b o) (k' : ∀ o', h'.get? b = some o' → Kept h'' b o') : Kept h'' b o := by
  obtain ⟨sl, e, q⟩ := k
  obtain ⟨sl', e', q'⟩ := k' _ e
  exact ⟨sl', e', fun z => (q' z).trans (q z)⟩
theorem Kept.ex {h h' : Heap} {b : Addr} {o : Obj} (e : h.get? b = some o) (k : ∀ o, h.get? b = some o → Kept h' b o) : ∃ o', h'.get? b = some o' := (k o e).there
theorem IsList.kp {h h' : Heap} {a : Addr} {its : Array Value} (x : h.IsList a its) (k : ∀ o, h.get? a = some o → Kept h' a o) : h'.IsList a its := by
  obtain ⟨o, e, hc, r⟩ := x
  exact ⟨o, (k o e).exact (by rw [hc]; simp), hc, r⟩
theorem IsTuple.kp {h h' : Heap} {a : Addr} {its : Array Value} (x : h.IsTuple a its) (k : ∀ o, h.get? a = some o → Kept h' a o) : h'.IsTuple a its := by
  obtain ⟨o, e, hc, r⟩ := x
  exact ⟨o, (k o e).exact (by rw [hc]; simp), hc, r⟩
theorem Ns.kp {h h' : Heap} {a : Addr} {m : Str → Option Value} (x : h.Ns a m) (k : ∀ o, h.get? a = some o → Kept h' a o) : h'.Ns a m := by
  obtain ⟨o, es, ep, e, hd, r⟩ := x
  obtain ⟨sl, e', _⟩ := k o e
  exact ⟨_, es, ep, e', hd, r⟩
theorem IsCell.kp {h h' : Heap} {a : Addr} {v : Option Value} (x : h.IsCell a v) (k : ∀ o, h.get? a = some o → Kept h' a o) : h'.IsCell a v := by
  obtain ⟨o, e, hd⟩ := x
  obtain ⟨sl, e', _⟩ := k o e
  exact ⟨_, e', hd⟩
theorem MapOf.kp {K : Type} [DecidableEq K] {prog : Program} {w : World} {knd : KeyKind prog w K} {h h' : Heap} {a : Addr} {f : K → Option Value} (x : h.MapOf knd a f) (k : ∀ o, h.get? a = some o → Kept h' a o) : h'.MapOf knd a f := by
  obtain ⟨o, es, ep, e, hc, r⟩ := x
  exact ⟨o, es, ep, (k o e).exact (by rw [hc.1]; simp), hc, r⟩
theorem DictOf.kp {K : Type} [DecidableEq K] {prog : Program} {w : World} {knd : KeyKind prog w K} {h h' : Heap} {a : Addr} {kvs : List (K × Value)} (x : h.DictOf knd a kvs) (k : ∀ o, h.get? a = some o → Kept h' a o) : h'.DictOf knd a kvs := by
  obtain ⟨o, es, ep, e, hc, r⟩ := x
  exact ⟨o, es, ep, (k o e).exact (by rw [hc.1]; simp), hc, r⟩
theorem IsRange.kp {h h' : Heap} {r : Addr} {a b c : Int} {t u v : Tok} (x : IsRange h r a b c t u v) (k : ∀ o, h.get? r = some o → Kept h' r o) : IsRange h' r a b c t u v := (k _ x).exact (by simp)

noncomputable def KH (h h' : Heap) : Prop := ∀ b o, h.get? b = some o → Kept h' b o
theorem KH.refl (h : Heap) : KH h h := fun _ _ e => .of e
theorem KH.trans {a b c : Heap} (x : KH a b) (y : KH b c) : KH a c := fun _ _ e => Kept.trans (x _ _ e) fun _ e' => y _ _ e'
theorem KH.push (h : Heap) (o : Obj) : KH h (h.push o) := fun _ _ e => .of (Heap.get?_push_of_some _ e)
theorem KH.exact {h h' : Heap} (k : ∀ b o, h.get? b = some o → h'.get? b = some o) : KH h h' := fun b o e => .of (k b o e)
/-- the base heap lies in it -/
noncomputable def KE (h h' : Heap) : Prop := ∀ b o, h.get? b = some o → h'.get? b = some o
theorem KE.on {B h h' : Heap} (x : KE B h) (eb : B = Base.heap) (k : KH h h') : KE B h' := fun b o e => (k b o (x b o e)).base (eb ▸ e)
theorem KE.on' {B h h' : Heap} (x : KE B h) (eb : B = Base.heap) (k : ∀ b o, B.get? b = some o → h.get? b = some o → Kept h' b o) : KE B h' := fun b o e => (k b o e (x b o e)).base (eb ▸ e)
theorem KH.gone {h h' : Heap} (k : KH h h') {a : Addr} (ha : h'.get? a = none) : h.get? a = none := by
  cases e : h.get? a with
  | none => rfl
  | some o => obtain ⟨o', e'⟩ := (k _ _ e).there; rw [ha] at e'; cases e'
theorem KH.size {h h' : Heap} (k : KH h h') : h.get? h'.objs.size = none := by
  cases e : h.get? h'.objs.size with
  | none => rfl
  | some o => obtain ⟨o', e'⟩ := (k _ _ e).there; exact absurd (Heap.lt_size e') (Nat.lt_irrefl _)
theorem get_size (h : Heap) : h.get? h.objs.size = none := (KH.refl h).size
theorem KE.toKH {h h' : Heap} (x : KE h h') : KH h h' := KH.exact x

theorem sb_kept {a : Addr} {h h' : Heap} (hs : Heap.SameBut a h h') {b : Addr} {o : Obj} (n : b ≠ a) (e : h.get? b = some o) : Kept h' b o := .of (hs.extBut b o n e)
theorem frameK {prog : Program} {w : World} {A : Around} {I : Addr} {fp wr : List Addr} {n : Nat} {P : Nat → Value → Prop} {St : Nat → Heap → Prop} (W : Walks prog w A I fp wr n P St)
    (hob : ∀ i h, St i h → ∀ b ∈ fp, ∃ o, h.get? b = some o ∧ o.cls ≠ .type "frame") {i : Nat} {h h' : Heap} (st : St i h) (k : ∀ b ∈ fp, ∀ o, h.get? b = some o → Kept h' b o) : St i h' :=
  W.frame _ _ _ st fun b hb o e => by
    obtain ⟨o', e', hc⟩ := hob i h st b hb
    rw [e] at e'; cases e'
    exact (k b hb o e).exact hc
/-- kept but for the places of W -/
noncomputable def KHB (W : Addr → Prop) (h h' : Heap) : Prop := ∀ b o, ¬ W b → h.get? b = some o → Kept h' b o
theorem KH.but {W : Addr → Prop} {h h' : Heap} (x : KH h h') : KHB W h h' := fun _ _ _ e => x _ _ e

structure Kp (s s' : Shared) : Prop where
  same : ∃ h' tk, s' = { s with heap := h', toks := tk }
  keep : KH s.heap s'.heap
theorem Kp.refl (s : Shared) : Kp s s := ⟨⟨_, _, rfl⟩, KH.refl _⟩
theorem Kp.trans {a b c : Shared} (x : Kp a b) (y : Kp b c) : Kp a c := by
  obtain ⟨h1, t1, rfl⟩ := x.same
  obtain ⟨h2, t2, rfl⟩ := y.same
  exact ⟨⟨_, _, rfl⟩, x.keep.trans y.keep⟩
theorem Kp.tok (s : Shared) (k : Nat) : Kp s { s with toks := k } := ⟨⟨_, _, rfl⟩, KH.refl _⟩
theorem Kp.push (s : Shared) (o : Obj) (k : Nat) : Kp s { s with heap := s.heap.push o, toks := k } := ⟨⟨_, _, rfl⟩, KH.push _ _⟩
theorem Kp.pushS (s : Shared) (o : Obj) : Kp s { s with heap := s.heap.push o } := ⟨⟨_, s.toks, rfl⟩, KH.push _ _⟩
theorem Kp.of {s : Shared} {h' : Heap} (hk : ∀ b o, s.heap.get? b = some o → h'.get? b = some o) (k : Nat) : Kp s { s with heap := h', toks := k } := ⟨⟨_, _, rfl⟩, KH.exact hk⟩
theorem Kp.ofS {s : Shared} {h' : Heap} (hk : ∀ b o, s.heap.get? b = some o → h'.get? b = some o) : Kp s { s with heap := h' } := ⟨⟨_, s.toks, rfl⟩, KH.exact hk⟩

/-- the frames under way -/
noncomputable def IsFr (A : Around) (b : Addr) : Prop := ∃ l e, A.frames = some l ∧ e ∈ l ∧ e.frame = some b
structure FrOk (A : Around) (h : Heap) : Prop where
  st : ∃ l, A.frames = some l ∧ ∀ e ∈ l, e.scope.kind ≠ .module ∧ ∃ b, e.frame = some b
  ob : ∀ b, IsFr A b → Base.heap.get? b = none ∧ ∃ o es ep, h.get? b = some o ∧ o.cls = .type "frame" ∧ o.data = .dict es ep
theorem FrOk.keepB {A : Around} {X : Addr → Prop} {h h' : Heap} (x : FrOk A h) (k : KHB X h h') (hX : ∀ b, IsFr A b → ¬ X b) : FrOk A h' :=
  ⟨x.st, fun b hb => by
    obtain ⟨h1, o, es, ep, e, hc, hd⟩ := x.ob b hb
    obtain ⟨sl, e', _⟩ := k b o (hX b hb) e
    exact ⟨h1, _, es, ep, e', hc, hd⟩⟩
theorem FrOk.keep {A : Around} {h h' : Heap} (x : FrOk A h) (k : KH h h') : FrOk A h' := x.keepB (X := fun _ => False) k.but fun _ _ q => q
theorem FrOk.notNone {A : Around} {h : Heap} (x : FrOk A h) {b : Addr} (hb : IsFr A b) (e : h.get? b = none) : False := by
  obtain ⟨_, o, _, _, e', _⟩ := x.ob b hb
  rw [e] at e'; cases e'

/-- all places of W bear an object -/
noncomputable def Wok (W : Addr → Prop) (h : Heap) : Prop := ∀ a, W a → ∃ o, h.get? a = some o
theorem Wok.mono {W : Addr → Prop} {h h' : Heap} (x : Wok W h) (k : KH h h') : Wok W h' := fun a ha => let ⟨_, e⟩ := x a ha; (k _ _ e).there
theorem Wok.fresh {W : Addr → Prop} {h : Heap} (x : Wok W h) : ¬ W h.objs.size := fun ha => by
  obtain ⟨o, e⟩ := x _ ha
  exact Nat.lt_irrefl _ (Heap.lt_size e)

end

noncomputable def isKey (k : D) (x : Str) : Bool := match k with
  | .str y => y == x
  | _ => false
noncomputable def dget : List (D × D) → Str → Option D
  | [], _ => none
  | p :: r, x => bif isKey p.1 x then some p.2 else dget r x

noncomputable def flatV : D → Value → Prop
  | .none, v => v = .none
  | .bool b, v => v = .bool b
  | .int i, v => ∃ t, v = .int i t
  | .str x, v => (∃ t, v = .str x t) ∧ PyData.strOk x = true ∧ x.length ≤ sizeLine
  | _, _ => False

section
variable (prog : Program) (w : World) (W : Addr → Prop) (h : Heap)

noncomputable def offW (v : Value) : Prop := ∀ a, v = .ref a → ¬ W a

mutual
noncomputable def RepT : D → Value → Prop
  | .none, v => v = .none
  | .bool b, v => v = .bool b
  | .int i, v => ∃ t, v = .int i t
  | .str x, v => (∃ t, v = .str x t) ∧ PyData.strOk x = true ∧ x.length ≤ sizeLine
  | .list ds, v => ∃ a vs, v = .ref a ∧ h.IsList a vs.toArray ∧ vs.length ≤ sizeLine ∧ Reps ds vs
  | .tuple ds, v => ∃ a vs, v = .ref a ∧ h.IsTuple a vs.toArray ∧ vs.length ≤ sizeLine ∧ Reps ds vs
  | .dict kvs, v => ∃ a f, v = .ref a ∧ (a == sysModules) = false ∧ h.MapOf (strKind prog w) a f ∧ ∀ x, match dget kvs x with | some d => ∃ u, f x = some u ∧ flatV d u | none => f x = none
noncomputable def Reps : List D → List Value → Prop
  | [], vs => vs = []
  | d :: ds, vs => ∃ v r, vs = v :: r ∧ RepT d v ∧ offW W v ∧ Reps ds r
end
noncomputable def Rep (d : D) (v : Value) : Prop := RepT prog w W h d v ∧ offW W v
end

section
variable [Base] {prog : Program} {w : World} {W : Addr → Prop} {h h' : Heap}

theorem Rep.top {d : D} {v : Value} (r : Rep prog w W h d v) : RepT prog w W h d v := r.1

mutual
theorem RepT.mono (k : KHB W h h') : ∀ {d : D} {v : Value}, RepT prog w W h d v → offW W v → RepT prog w W h' d v
  | .none, _, r, _ => r
  | .bool _, _, r, _ => r
  | .int _, _, r, _ => r
  | .str _, _, r, _ => r
  | .list ds, v, r, hw => by
    simp only [RepT] at r ⊢
    obtain ⟨a, vs, rfl, e, hl, q⟩ := r
    exact ⟨a, vs, rfl, IsList.kp e fun o ho => k _ _ (hw _ rfl) ho, hl, Reps.mono k q⟩
  | .tuple ds, v, r, hw => by
    simp only [RepT] at r ⊢
    obtain ⟨a, vs, rfl, e, hl, q⟩ := r
    exact ⟨a, vs, rfl, IsTuple.kp e fun o ho => k _ _ (hw _ rfl) ho, hl, Reps.mono k q⟩
  | .dict kvs, v, r, hw => by
    simp only [RepT] at r ⊢
    obtain ⟨a, f, rfl, hs, hm, q⟩ := r
    exact ⟨a, f, rfl, hs, MapOf.kp hm fun o ho => k _ _ (hw _ rfl) ho, q⟩
theorem Reps.mono (k : KHB W h h') : ∀ {ds : List D} {vs : List Value}, Reps prog w W h ds vs → Reps prog w W h' ds vs
  | [], _, r => r
  | d :: ds, vs, r => by
    simp only [Reps] at r ⊢
    obtain ⟨v, r', rfl, h1, h2, h3⟩ := r
    exact ⟨v, r', rfl, RepT.mono k h1 h2, h2, Reps.mono k h3⟩
end
theorem Rep.mono (k : KHB W h h') {d : D} {v : Value} (r : Rep prog w W h d v) : Rep prog w W h' d v := ⟨r.1.mono k r.2, r.2⟩
theorem Rep.keep (k : KH h h') {d : D} {v : Value} (r : Rep prog w W h d v) : Rep prog w W h' d v := r.mono k.but
theorem Reps.keep (k : KH h h') {ds : List D} {vs : List Value} (r : Reps prog w W h ds vs) : Reps prog w W h' ds vs := r.mono k.but
theorem RepT.keep (k : KH h h') {d : D} {v : Value} (r : RepT prog w W h d v) : RepT prog w W h' d v := by
  cases d with
  | none => exact r
  | bool _ => exact r
  | int _ => exact r
  | str _ => exact r
  | list ds =>
    simp only [RepT] at r ⊢
    obtain ⟨a, vs, rfl, e, hl, q⟩ := r
    exact ⟨a, vs, rfl, IsList.kp e fun o ho => k _ _ ho, hl, q.keep k⟩
  | tuple ds =>
    simp only [RepT] at r ⊢
    obtain ⟨a, vs, rfl, e, hl, q⟩ := r
    exact ⟨a, vs, rfl, IsTuple.kp e fun o ho => k _ _ ho, hl, q.keep k⟩
  | dict kvs =>
    simp only [RepT] at r ⊢
    obtain ⟨a, f, rfl, hs, hm, q⟩ := r
    exact ⟨a, f, rfl, hs, MapOf.kp hm fun o ho => k _ _ ho, q⟩

-- fewer places to shun
mutual
theorem RepT.less {W' : Addr → Prop} (i : ∀ a, W' a → W a) : ∀ {d : D} {v : Value}, RepT prog w W h d v → RepT prog w W' h d v
  | .none, _, r => r
  | .bool _, _, r => r
  | .int _, _, r => r
  | .str _, _, r => r
  | .list ds, v, r => by
    simp only [RepT] at r ⊢
    obtain ⟨a, vs, rfl, e, hl, q⟩ := r
    exact ⟨a, vs, rfl, e, hl, Reps.less i q⟩
  | .tuple ds, v, r => by
    simp only [RepT] at r ⊢
    obtain ⟨a, vs, rfl, e, hl, q⟩ := r
    exact ⟨a, vs, rfl, e, hl, Reps.less i q⟩
  | .dict kvs, v, r => r
theorem Reps.less {W' : Addr → Prop} (i : ∀ a, W' a → W a) : ∀ {ds : List D} {vs : List Value}, Reps prog w W h ds vs → Reps prog w W' h ds vs
  | [], _, r => r
  | d :: ds, vs, r => by
    simp only [Reps] at r ⊢
    obtain ⟨v, r', rfl, h1, h2, h3⟩ := r
    exact ⟨v, r', rfl, RepT.less i h1, fun a e hw => h2 a e (i _ hw), Reps.less i h3⟩
end
theorem offW.less {W' : Addr → Prop} {v : Value} (i : ∀ a, W' a → W a) (o : offW W v) : offW W' v := fun a e hw => o a e (i _ hw)
theorem Rep.less {W' : Addr → Prop} (i : ∀ a, W' a → W a) {d : D} {v : Value} (r : Rep prog w W h d v) : Rep prog w W' h d v := ⟨r.1.less i, r.2.less i⟩

-- fewer places, or such as bear nothing yet
mutual
theorem RepT.more {W' : Addr → Prop} (i : ∀ a, W' a → W a ∨ h.get? a = none) : ∀ {d : D} {v : Value}, RepT prog w W h d v → RepT prog w W' h d v
  | .none, _, r => r
  | .bool _, _, r => r
  | .int _, _, r => r
  | .str _, _, r => r
  | .list ds, v, r => by
    simp only [RepT] at r ⊢
    obtain ⟨a, vs, rfl, e, hl, q⟩ := r
    exact ⟨a, vs, rfl, e, hl, Reps.more i q⟩
  | .tuple ds, v, r => by
    simp only [RepT] at r ⊢
    obtain ⟨a, vs, rfl, e, hl, q⟩ := r
    exact ⟨a, vs, rfl, e, hl, Reps.more i q⟩
  | .dict kvs, v, r => r
theorem Reps.more {W' : Addr → Prop} (i : ∀ a, W' a → W a ∨ h.get? a = none) : ∀ {ds : List D} {vs : List Value}, Reps prog w W h ds vs → Reps prog w W' h ds vs
  | [], _, r => r
  | d :: ds, vs, r => by
    simp only [Reps] at r ⊢
    obtain ⟨v, r', rfl, h1, h2, h3⟩ := r
    refine ⟨v, r', rfl, RepT.more i h1, fun a e hw => ?_, Reps.more i h3⟩
    rcases i a hw with q | q
    · exact h2 a e q
    · subst e
      cases d <;> simp only [RepT] at h1
      case none => cases h1
      case bool => cases h1
      case int => obtain ⟨t, e⟩ := h1; cases e
      case str => obtain ⟨⟨t, e⟩, _⟩ := h1; cases e
      case list => obtain ⟨b, vs, e, ⟨o', ho', _⟩, _⟩ := h1; cases e; rw [q] at ho'; cases ho'
      case tuple => obtain ⟨b, vs, e, ⟨o', ho', _⟩, _⟩ := h1; cases e; rw [q] at ho'; cases ho'
      case dict => obtain ⟨b, f, e, _, ⟨o, es, ep, ho, _⟩, _⟩ := h1; cases e; rw [q] at ho; cases ho
end
theorem RepT.ref_some {d : D} {a : Addr} (r : RepT prog w W h d (.ref a)) : ∃ o, h.get? a = some o := by
  cases d <;> simp only [RepT] at r
  case none => cases r
  case bool => cases r
  case int => obtain ⟨t, e⟩ := r; cases e
  case str => obtain ⟨⟨t, e⟩, _⟩ := r; cases e
  case list => obtain ⟨b, vs, e, ⟨o', ho', _⟩, _⟩ := r; cases e; exact ⟨_, ho'⟩
  case tuple => obtain ⟨b, vs, e, ⟨o', ho', _⟩, _⟩ := r; cases e; exact ⟨_, ho'⟩
  case dict => obtain ⟨b, f, e, _, ⟨o, es, ep, ho, _⟩, _⟩ := r; cases e; exact ⟨_, ho⟩
theorem Rep.more {W' : Addr → Prop} (i : ∀ a, W' a → W a ∨ h.get? a = none) {d : D} {v : Value} (r : Rep prog w W h d v) : Rep prog w W' h d v := by
  refine ⟨r.1.more i, fun a e hw => ?_⟩
  rcases i a hw with q | q
  · exact r.2 a e q
  · subst e
    obtain ⟨o, ho⟩ := r.1.ref_some
    rw [q] at ho; cases ho

-- the shapes
theorem rep_int {i : Int} {t : Tok} : Rep prog w W h (.int i) (.int i t) := ⟨⟨t, rfl⟩, fun _ e => by cases e⟩
theorem rep_bool {b : Bool} : Rep prog w W h (.bool b) (.bool b) := ⟨rfl, fun _ e => by cases e⟩
theorem rep_none : Rep prog w W h .none .none := ⟨rfl, fun _ e => by cases e⟩
theorem rep_str {x : Str} {t : Tok} (ho : PyData.strOk x = true) (hl : x.length ≤ sizeLine) : Rep prog w W h (.str x) (.str x t) := ⟨⟨⟨t, rfl⟩, ho, hl⟩, fun _ e => by cases e⟩
theorem Reps.length : ∀ {ds : List D} {vs : List Value}, Reps prog w W h ds vs → vs.length = ds.length
  | [], vs, r => by simp only [Reps] at r; subst r; rfl
  | d :: ds, vs, r => by
    simp only [Reps] at r
    obtain ⟨v, r', rfl, _, _, h3⟩ := r
    simp [Reps.length h3]
theorem Reps.nil : Reps prog w W h [] [] := by simp [Reps]
theorem Reps.cons {d : D} {v : Value} {ds : List D} {vs : List Value} (r : Rep prog w W h d v) (q : Reps prog w W h ds vs) : Reps prog w W h (d :: ds) (v :: vs) := by
  simp only [Reps]; exact ⟨v, vs, rfl, r.1, r.2, q⟩
theorem Reps.append : ∀ {ds es : List D} {vs us : List Value}, Reps prog w W h ds vs → Reps prog w W h es us → Reps prog w W h (ds ++ es) (vs ++ us)
  | [], es, vs, us, r, q => by simp only [Reps] at r; subst r; exact q
  | d :: ds, es, vs, us, r, q => by
    simp only [Reps, List.cons_append] at r ⊢
    obtain ⟨v, r', rfl, h1, h2, h3⟩ := r
    exact ⟨v, r' ++ us, rfl, h1, h2, Reps.append h3 q⟩
theorem Reps.get : ∀ {ds : List D} {vs : List Value} {k : Nat} {d : D}, Reps prog w W h ds vs → ds[k]? = some d → ∃ v, vs[k]? = some v ∧ Rep prog w W h d v
  | [], _, _, _, _, e => by simp at e
  | d :: ds, vs, 0, d', r, e => by
    simp only [Reps] at r
    obtain ⟨v, r', rfl, h1, h2, h3⟩ := r
    simp at e; subst e
    exact ⟨v, rfl, h1, h2⟩
  | d :: ds, vs, k + 1, d', r, e => by
    simp only [Reps] at r
    obtain ⟨v, r', rfl, h1, h2, h3⟩ := r
    simp at e
    obtain ⟨v', e', q⟩ := Reps.get h3 e
    exact ⟨v', by simpa using e', q⟩
theorem Reps.get' : ∀ {ds : List D} {vs : List Value} {k : Nat} {v : Value}, Reps prog w W h ds vs → vs[k]? = some v → ∃ d, ds[k]? = some d ∧ Rep prog w W h d v
  | [], vs, k, v, r, e => by simp only [Reps] at r; subst r; simp at e
  | d :: ds, vs, 0, v', r, e => by
    simp only [Reps] at r
    obtain ⟨v, r', rfl, h1, h2, h3⟩ := r
    simp at e; subst e
    exact ⟨d, rfl, h1, h2⟩
  | d :: ds, vs, k + 1, d', r, e => by
    simp only [Reps] at r
    obtain ⟨v, r', rfl, h1, h2, h3⟩ := r
    simp at e
    obtain ⟨v', e', q⟩ := Reps.get' h3 e
    exact ⟨v', by simpa using e', q⟩

-- what Reads says
mutual
noncomputable def noDict : D → Bool
  | .dict _ => false
  | .list ds => noDicts ds
  | .tuple ds => noDicts ds
  | _ => true
noncomputable def noDicts : List D → Bool
  | [] => true
  | d :: ds => noDict d && noDicts ds
end
mutual
theorem RepT.reads : ∀ {d : D} {v : Value}, RepT prog w W h d v → noDict d = true → (∃ as, Reads h v d as) ∧ d.canLay0 = true
  | .none, _, r, _ => by simp only [RepT] at r; subst r; exact ⟨⟨_, .none⟩, by simp [PyData.canLay0]⟩
  | .bool _, _, r, _ => by simp only [RepT] at r; subst r; exact ⟨⟨_, .bool _⟩, by simp [PyData.canLay0]⟩
  | .int _, _, r, _ => by simp only [RepT] at r; obtain ⟨t, rfl⟩ := r; exact ⟨⟨_, .int _ _⟩, by simp [PyData.canLay0]⟩
  | .str x, _, r, _ => by simp only [RepT] at r; obtain ⟨⟨t, rfl⟩, ho, _⟩ := r; exact ⟨⟨_, .str _ _⟩, by simpa [PyData.canLay0] using ho⟩
  | .list ds, v, r, nd => by
    simp only [RepT] at r
    simp only [noDict] at nd
    obtain ⟨a, vs, rfl, ⟨o, ho, hc, n, hd⟩, hl, q⟩ := r
    obtain ⟨⟨as, q'⟩, c⟩ := Reps.reads q nd
    exact ⟨⟨_, .list ho hc hd (by simpa using q')⟩, by simpa [PyData.canLay0] using c⟩
  | .tuple ds, v, r, nd => by
    simp only [RepT] at r
    simp only [noDict] at nd
    obtain ⟨a, vs, rfl, ⟨o, ho, hc, n, hd⟩, hl, q⟩ := r
    obtain ⟨⟨as, q'⟩, c⟩ := Reps.reads q nd
    exact ⟨⟨_, .tuple ho hc hd (by simpa using q')⟩, by simpa [PyData.canLay0] using c⟩
  | .dict _, _, _, nd => by simp [noDict] at nd
theorem Reps.reads : ∀ {ds : List D} {vs : List Value}, Reps prog w W h ds vs → noDicts ds = true → (∃ as, ReadsAll h vs ds as) ∧ PyData.canLayAll0 ds = true
  | [], _, r, _ => by simp only [Reps] at r; subst r; exact ⟨⟨_, .nil⟩, by simp [PyData.canLayAll0]⟩
  | d :: ds, vs, r, nd => by
    simp only [Reps] at r
    simp only [noDicts, Bool.and_eq_true] at nd
    obtain ⟨v, r', rfl, h1, h2, h3⟩ := r
    obtain ⟨⟨as, q⟩, c⟩ := RepT.reads h1 nd.1
    obtain ⟨⟨bs, q'⟩, c'⟩ := Reps.reads h3 nd.2
    exact ⟨⟨_, .cons q q'⟩, by simp [PyData.canLayAll0, c, c']⟩
end
end
end Ev
namespace Ev
open PySem PySem.Calls PyProof.Rows

/-- room around a call -/
structure AOk (A : Around) (k : Nat) : Prop where
  hd : A.handled = none
  dp : A.depth + k ≤ 800
  un : A.units + 100 * k ≤ 9000
theorem AOk.in1 {A : Around} {k : Nat} (h : AOk A (k + 1)) : AOk A.in1 k := ⟨h.hd, by have := h.dp; show A.depth + k ≤ 800; omega, by have := h.un; show A.units + 1 + 100 * k ≤ 9000; omega⟩
theorem AOk.mono {A : Around} {k j : Nat} (h : AOk A k) (hj : j ≤ k) : AOk A j := ⟨h.hd, by have := h.dp; omega, by have := h.un; omega⟩
theorem AOk.deeper {A : Around} {k : Nat} {env : Env} (h : AOk A (k + 1)) : AOk (A.deeper env) k := ⟨h.hd, by have := h.dp; show A.depth + 1 + k ≤ 800; omega, by have := h.un; show A.units + 3 + 100 * k ≤ 9000; omega⟩
theorem AOk.room {A : Around} {k : Nat} (h : AOk A k) : A.depth < recursionLimit := by have := h.dp; show A.depth < 1000; omega
theorem AOk.cl {A : Around} {k : Nat} (h : AOk A k) : A.units + 64 < cLine := by have := h.un; show A.units + 64 < 9900; omega

section
variable [Base] (prog : Program) (w : World) (W : Addr → Prop)
noncomputable def Post (s : Shared) (d : D) (v : Value) (s' : Shared) : Prop := Kp s s' ∧ Rep prog w W s'.heap d v
end

section
variable [Base] {prog : Program} {w : World} {W : Addr → Prop} {A : Around} {s : Shared} {E : Value → Shared → Prop} {k : Nat}

theorem Post.int {i : Int} {t tk : Nat} : Post prog w W s (.int i) (.int i t) { s with toks := tk } := ⟨Kp.tok _ _, rep_int⟩
theorem Post.intS {i : Int} {t : Nat} : Post prog w W s (.int i) (.int i t) s := ⟨Kp.refl _, rep_int⟩
theorem Post.bool {b : Bool} : Post prog w W s (.bool b) (.bool b) s := ⟨Kp.refl _, rep_bool⟩
theorem Post.boolT {b : Bool} {tk : Nat} : Post prog w W s (.bool b) (.bool b) { s with toks := tk } := ⟨Kp.tok _ _, rep_bool⟩
theorem Post.str {x : Str} {t tk : Nat} (ho : PyData.strOk x = true) (hl : x.length ≤ sizeLine) : Post prog w W s (.str x) (.str x t) { s with toks := tk } := ⟨Kp.tok _ _, rep_str ho hl⟩

theorem strOk_append {x y : Str} (hx : PyData.strOk x = true) (hy : PyData.strOk y = true) : PyData.strOk (x ++ y) = true := by
  have e : (x ++ y).cps = x.cps ++ y.cps := rfl
  simp only [PyData.strOk, Array.all_eq_true] at hx hy ⊢
  intro i hi
  simp only [e, Array.getElem_append]
  split
  · exact hx _ _
  · exact hy _ _
theorem strOk_list {x : Str} : PyData.strOk x = true ↔ ∀ c ∈ x.cps.toList, c < 0x110000 := by
  simp only [PyData.strOk, Array.all_eq_true]
  constructor
  · intro h c hc
    obtain ⟨i, hi, rfl⟩ := List.getElem_of_mem hc
    simpa using h i (by simpa using hi)
  · intro h i hi
    simpa using h x.cps[i] (by simp)
theorem len_append (x y : Str) : (x ++ y).length = x.length + y.length := by
  show (x.cps ++ y.cps).size = _
  simp [Str.length]

/-- a product of texts: the sign's text n times -/
theorem foldl_toList (n : Nat) (a : Array Nat) : ∀ (acc : Array Nat), ((List.replicate n a).foldl (· ++ ·) acc).toList = acc.toList ++ (List.replicate n a.toList).flatten := by
  induction n with
  | zero => intro acc; simp
  | succ n ih => intro acc; rw [List.replicate_succ, List.foldl_cons, ih]; simp [List.replicate_succ, List.append_assoc]
theorem mul_toList (x : Str) (n : Int) : (Txt.mul x n).cps.toList = (List.replicate n.toNat x.cps.toList).flatten := by
  unfold Txt.mul
  split
  · rename_i h
    have : n.toNat = 0 := by omega
    simp [this, Str.empty]
  · split
    · rename_i h h'
      simp only [Bool.or_eq_true, beq_iff_eq] at h'
      rcases h' with h' | h'
      · subst h'; simp
      · have : x.cps = #[] := Array.eq_empty_of_size_eq_zero h'
        simp [this]
    · show ((List.replicate n.toNat x.cps).foldl (· ++ ·) #[]).toList = _
      rw [foldl_toList]; simp
theorem strOk_mul {x : Str} (n : Int) (hx : PyData.strOk x = true) : PyData.strOk (Txt.mul x n) = true := by
  rw [strOk_list] at hx ⊢
  intro c hc
  rw [mul_toList] at hc
  obtain ⟨l, hl, hc⟩ := List.mem_flatten.mp hc
  rw [List.eq_of_mem_replicate hl] at hc
  exact hx c hc
theorem len_mul (x : Str) (n : Int) : (Txt.mul x n).length = n.toNat * x.length := by
  show (Txt.mul x n).cps.size = _
  rw [← Array.length_toList, mul_toList]
  simp [Str.length]

theorem len_flat {α : Type} (l : List α) : ∀ n, (List.replicate n l).flatten.length = n * l.length
  | 0 => by simp
  | n + 1 => by rw [List.replicate_succ, List.flatten_cons, List.length_append, len_flat l n, Nat.succ_mul, Nat.add_comm]
noncomputable def mulOkB (x : Str) (n : Int) : Bool := decide (-(2 ^ 63 : Int) ≤ n) && decide (n ≤ 16777216) && decide (n.toNat * x.length ≤ 16777216)
theorem mulOk_of {x : Str} {n : Int} (h : mulOkB x n = true) : MulOk x n ∧ (Txt.mul x n).length ≤ sizeLine := by
  simp only [mulOkB, Bool.and_eq_true, decide_eq_true_eq] at h
  obtain ⟨⟨h1, h2⟩, h3⟩ := h
  refine ⟨⟨?_, fun h4 h5 => ?_, fun h4 h5 => ?_⟩, ?_⟩
  · simp only [Bool.or_eq_false_iff, decide_eq_false_iff_not]
    omega
  · have h6 : n ≥ 1 := by omega
    have h7 : (x.length : Int) ≤ 16777216 := by
      have : x.length ≤ n.toNat * x.length := Nat.le_mul_of_pos_left _ (by omega)
      omega
    have h8 : (2 ^ 63 - 1 : Int) / n ≥ (2 ^ 63 - 1) / 16777216 := by
      apply Int.le_ediv_of_mul_le (by omega)
      have : ((2 ^ 63 - 1 : Int) / 16777216) * n ≤ ((2 ^ 63 - 1 : Int) / 16777216) * 16777216 := Int.mul_le_mul_of_nonneg_left h2 (by decide)
      have h9 : ((2 ^ 63 - 1 : Int) / 16777216) * 16777216 ≤ 2 ^ 63 - 1 := by decide
      omega
    have h10 : (2 ^ 63 - 1 : Int) / 16777216 ≥ 16777216 := by decide
    omega
  · show decide (x.length * n.toNat > sizeLine) = false
    rw [decide_eq_false_iff_not, Nat.mul_comm, sizeLine]; omega
  · rw [len_mul, sizeLine]; omega

noncomputable def bitsOk (a b : Int) : Bool := decide (Builtin.Int.intBits a ≤ 64) || decide (Builtin.Int.intBits b ≤ 64) || decide (Builtin.Int.intBits a + Builtin.Int.intBits b ≤ 134217728)
theorem intMulOk_of {a b : Int} (h : bitsOk a b = true) : IntMulOk a b := by
  simp only [bitsOk, Bool.or_eq_true, decide_eq_true_eq] at h
  rcases h with (h | h) | h
  · exact .of_left h
  · exact .of_right h
  · exact IntMulOk.of_le (Nat.le_refl _) (Nat.le_refl _) h

noncomputable def asInt : D → Option Int
  | .int i => some i
  | _ => none
noncomputable def asStr : D → Option Str
  | .str x => some x
  | _ => none
noncomputable def asList : D → Option (List D)
  | .list ds => some ds
  | _ => none
noncomputable def asBool : D → Option Bool
  | .bool b => some b
  | _ => none
noncomputable def addD (a b : D) : Option D := match a with
  | .int x => (asInt b).bind fun y => some (.int (x + y))
  | .str x => (asStr b).bind fun y => if x.length + y.length ≤ 16777216 then some (.str (x ++ y)) else none
  | .list xs => (asList b).bind fun ys => if xs.length + ys.length ≤ 16777216 then some (.list (xs ++ ys)) else none
  | _ => none
noncomputable def mulD (a b : D) : Option D := (asInt b).bind fun n => match a with
  | .int x => if bitsOk x n = true then some (.int (x * n)) else none
  | .str x => if mulOkB x n = true then some (.str (Txt.mul x n)) else none
  | .list xs => if -(2 ^ 63 : Int) ≤ n ∧ n < 2 ^ 63 ∧ xs.length * n.toNat ≤ 256 then some (.list (List.replicate n.toNat xs).flatten) else none
  | _ => none
noncomputable def intOp (op : Operator) (a b : Int) : Option D := match op with
  | .Sub => some (.int (a - b))
  | .FloorDiv => if b ≠ 0 ∧ b.natAbs < 1073741824 then some (.int (a.fdiv b)) else none
  | .Mod => if b = 0 then none else some (.int (a.fmod b))
  | .Pow => if 0 ≤ b ∧ (Builtin.Int.intBits a : Int) * b ≤ 134217728 then some (.int (a ^ b.toNat)) else none
  | _ => none
noncomputable def binD (op : Operator) (a b : D) : Option D := match op with
  | .Add => addD a b
  | .Mult => mulD a b
  | op => (asInt a).bind fun x => (asInt b).bind fun y => intOp op x y

theorem asInt_r {P : Prop} {d : D} {i : Int} {v : Value} {h : Heap} (e : asInt d = some i) (r : RepT prog w W h d v) (k : ∀ t, v = .int i t → P) : P := by
  cases d with
  | int j => obtain ⟨t, q⟩ : ∃ t, v = .int j t := r; exact k t (sj e ▸ q)
  | _ => exact dead e
theorem asBool_r {P : Prop} {d : D} {b : Bool} {v : Value} {h : Heap} (e : asBool d = some b) (r : RepT prog w W h d v) (k : v = .bool b → P) : P := by
  cases d with
  | bool j => exact k (sj e ▸ r)
  | _ => exact dead e
theorem asStr_r {P : Prop} {d : D} {x : Str} {v : Value} {h : Heap} (e : asStr d = some x) (r : RepT prog w W h d v) (k : ∀ t, v = .str x t → PyData.strOk x = true → x.length ≤ sizeLine → P) : P := by
  cases d with
  | str j => cases e; obtain ⟨⟨t, q⟩, h1, h2⟩ : (∃ t, v = .str x t) ∧ PyData.strOk x = true ∧ x.length ≤ sizeLine := r; exact k t q h1 h2
  | _ => exact dead e
theorem asList_r {P : Prop} {d : D} {ds : List D} {v : Value} {h : Heap} (e : asList d = some ds) (r : RepT prog w W h d v) (k : ∀ a vs, v = .ref a → h.IsList a vs.toArray → vs.length ≤ sizeLine → Reps prog w W h ds vs → P) : P := by
  cases d with
  | list j => cases e; obtain ⟨a, vs, q, h1, h2, h3⟩ : ∃ (a : Addr) (vs : List Value), v = .ref a ∧ h.IsList a vs.toArray ∧ vs.length ≤ sizeLine ∧ Reps prog w W h ds vs := r; exact k a vs q h1 h2 h3
  | _ => exact dead e

theorem list_new {ds : List D} {vs : List Value} (r : Reps prog w W s.heap ds vs) (hw : Wok W s.heap) (hl : vs.length ≤ sizeLine) :
    Post prog w W s (.list ds) (.ref s.heap.objs.size) { s with heap := s.heap.push { cls := .type "list", data := .seq vs.toArray } } := by
  refine ⟨Kp.pushS _ _, ⟨?_, fun a e => by cases e; exact hw.fresh⟩⟩
  simp only [RepT]
  exact ⟨_, vs, rfl, ⟨_, Heap.get?_push_size _ rfl, rfl, 0, rfl⟩, hl, r.keep (KH.push _ _)⟩
theorem list_newO {ds : List D} {vs : List Value} {o : Obj} (r : Reps prog w W s.heap ds vs) (hw : Wok W s.heap) (hl : vs.length ≤ sizeLine) (hc : o.cls = .type "list") (hd : ∃ n, o.data = .seq vs.toArray n) :
    Post prog w W s (.list ds) (.ref s.heap.objs.size) { s with heap := s.heap.push o } := by
  refine ⟨Kp.pushS _ _, ⟨?_, fun a e => by cases e; exact hw.fresh⟩⟩
  simp only [RepT]
  obtain ⟨n, hd⟩ := hd
  exact ⟨_, vs, rfl, ⟨_, Heap.get?_push_size _ (Obj.isFreed_of_seq hd), hc, n, hd⟩, hl, r.keep (KH.push _ _)⟩
theorem tuple_new {ds : List D} {vs : List Value} (r : Reps prog w W s.heap ds vs) (hw : Wok W s.heap) (hl : vs.length ≤ sizeLine) :
    Post prog w W s (.tuple ds) (.ref s.heap.objs.size) { s with heap := s.heap.push { cls := .type "tuple", data := .seq vs.toArray } } := by
  refine ⟨Kp.pushS _ _, ⟨?_, fun a e => by cases e; exact hw.fresh⟩⟩
  simp only [RepT]
  exact ⟨_, vs, rfl, ⟨_, Heap.get?_push_size _ rfl, rfl, 0, rfl⟩, hl, r.keep (KH.push _ _)⟩

theorem Reps.replicate {ds : List D} {vs : List Value} {h : Heap} (r : Reps prog w W h ds vs) : ∀ n, Reps prog w W h (List.replicate n ds).flatten (List.replicate n vs).flatten
  | 0 => by simp [Reps]
  | n + 1 => by
    rw [List.replicate_succ, List.replicate_succ, List.flatten_cons, List.flatten_cons]
    exact r.append (Reps.replicate r n)

theorem add_lists' {l b : Addr} {vs ws : List Value} {Q : Value → Shared → Prop} (hl : s.heap.IsList l vs.toArray) (hb : s.heap.IsList b ws.toArray)
    (h : Q (.ref s.heap.objs.size) { s with heap := s.heap.push { cls := .type "list", data := .seq (vs ++ ws).toArray } }) (hsz : vs.length + ws.length ≤ sizeLine) :
    wpAny (model prog w) A (binaryOp .Add (.ref l) (.ref b)) Q E s := by
  obtain ⟨⟨cls, dd, data, sl⟩, ho, hc, n, hd⟩ := id hl
  obtain ⟨⟨cls2, dd2, data2, sl2⟩, ho2, hc2, n2, hd2⟩ := id hb
  simp only at hc hd hc2 hd2
  subst hc hd hc2 hd2
  have e : vs.toArray ++ ws.toArray = (vs ++ ws).toArray := by simp
  refine concat_meets ⟨_, ho, rfl⟩ ⟨_, ho2, rfl⟩ noFill_list_add seq_list_add PySem.F.slot_list_add PySem.F.entry_list_add (PySem.F.args_list_add_2 _ _) (list_addW l b vs.toArray ws.toArray n n2 dd dd2 sl sl2 (by simpa using hsz)) ⟨ho, ho2, ?_⟩
  rw [e]
  exact h

theorem mul_list' {l : Addr} {vs : List Value} {x : Int} {u : Tok} {Q : Value → Shared → Prop} (hl : s.heap.IsList l vs.toArray) (hlo : -(2 ^ 63 : Int) ≤ x) (hhi : x < 2 ^ 63) (hsz : vs.length * x.toNat ≤ 256)
    (h : Q (.ref s.heap.objs.size) { s with heap := s.heap.push { cls := .type "list", data := .seq (List.replicate x.toNat vs).flatten.toArray } }) :
    wpAny (model prog w) A (binaryOp .Mult (.ref l) (.int x u)) Q E s := by
  obtain ⟨⟨cls, d, data, sl⟩, ho, hcl, k, hd⟩ := id hl
  simp only at hcl hd
  subst hcl hd
  have hsz' : vs.toArray.size * x.toNat ≤ 256 := by simpa using hsz
  refine wpAny_binaryOp_repeat_ref (T := "list") (U := "int") (by decide) ⟨_, ho, rfl⟩ (fun s' => typeIs_int s' x u) noFill_list_mul F.fills_int_mul F.slot_int_rmul repeat_list F.slot_int_index.lookup
    (call_meets F.slot_int_rmul (typeIs_int s x u) F.entry_int_rmul (F.args_int_rmul_2 _ _) (lm_int_rmul_list_any x u l vs.toArray k d sl)
      ⟨ho, rfl, ⟨_, ho, rfl⟩, call_meets F.slot_list_mul ⟨_, ho, rfl⟩ F.entry_list_mul (F.args_list_mul_2 _ _)
        (lm_list_mul_any l vs.toArray k d sl x u (by simp [Builtin.List.listFitsIndex]; omega) (by omega) (by simp [Builtin.List.listTooLong, sizeLine]; omega))
        ⟨ho, ?_⟩⟩)
  rw [PyProof.Rows.listMul_foldl_if]
  exact h

theorem add_sound {d₁ d₂ d : D} {v₁ v₂ : Value} (r₁ : RepT prog w W s.heap d₁ v₁) (r₂ : RepT prog w W s.heap d₂ v₂) (e : addD d₁ d₂ = some d)
    (hw : Wok W s.heap) : wpAny (model prog w) A (binaryOp .Add v₁ v₂) (Post prog w W s d) E s := by
  cases d₁ with
  | int x =>
    exact ob e fun y h e => asInt_r (d := .int x) rfl r₁ fun t e1 => asInt_r h r₂ fun u e2 => by
      obtain rfl := sj e; subst e1 e2; exact PyProof.Rows.add_int Post.int
  | str x =>
    exact ob e fun y h e => ifo e (fun hb e => asStr_r (d := .str x) rfl r₁ fun t e1 o1 _ => asStr_r h r₂ fun u e2 o2 _ => by
      obtain rfl := sj e; subst e1 e2
      exact PyProof.Rows.add_str (fun t' tk => Post.str (strOk_append o1 o2) (by rw [len_append]; rw [sizeLine]; omega)) (by rw [sizeLine]; omega)) fun _ e => dead e
  | list xs =>
    exact ob e fun ys h e => ifo e (fun hb e => asList_r (d := .list xs) rfl r₁ fun a vs e1 l1 n1 q1 => asList_r h r₂ fun b us e2 l2 n2 q2 => by
      obtain rfl := sj e; subst e1 e2
      have hz : vs.length + us.length ≤ sizeLine := by rw [q1.length, q2.length, sizeLine]; omega
      exact add_lists' l1 l2 (list_new (q1.append q2) hw (by rw [List.length_append]; exact hz)) hz) fun _ e => dead e
  | _ => exact dead e
theorem mul_sound {d₁ d₂ d : D} {v₁ v₂ : Value} (r₁ : RepT prog w W s.heap d₁ v₁) (r₂ : RepT prog w W s.heap d₂ v₂) (e : mulD d₁ d₂ = some d)
    (hw : Wok W s.heap) : wpAny (model prog w) A (binaryOp .Mult v₁ v₂) (Post prog w W s d) E s := by
  refine ob e fun n h e => asInt_r h r₂ fun u e2 => ?_
  subst e2
  cases d₁ with
  | int x => exact ifo e (fun hb e => asInt_r (d := .int x) rfl r₁ fun t e1 => by obtain rfl := sj e; subst e1; exact PyProof.Rows.mul_int Post.int (intMulOk_of hb)) fun _ e => dead e
  | str x => exact ifo e (fun hb e => asStr_r (d := .str x) rfl r₁ fun t e1 o1 _ => by obtain rfl := sj e; subst e1; exact SB.mul (mulOk_of hb).1 (fun t' tk => Post.str (strOk_mul _ o1) (mulOk_of hb).2)) fun _ e => dead e
  | list xs =>
    refine ifo e (fun hb e => asList_r (d := .list xs) rfl r₁ fun a vs e1 l1 n1 q1 => ?_) fun _ e => dead e
    obtain rfl := sj e; subst e1
    obtain ⟨b1, b2, b3⟩ := hb
    rw [← q1.length] at b3
    refine mul_list' l1 b1 b2 b3 (list_new (q1.replicate _) hw ?_)
    rw [len_flat]; rw [Nat.mul_comm, sizeLine]; omega
  | _ => exact dead e
theorem int_sound {op : Operator} {x y : Int} {t u : Tok} {d : D} (e : intOp op x y = some d) : wpAny (model prog w) A (binaryOp op (.int x t) (.int y u)) (Post prog w W s d) E s := by
  cases op with
  | Sub => obtain rfl := sj e; exact PyProof.Rows.sub_int Post.int
  | FloorDiv => exact ifo e (fun hb e => by obtain rfl := sj e; exact PyProof.Rows.floordiv_int hb.1 Post.int (Or.inl (PyProof.noPylong_small hb.2))) fun _ e => dead e
  | Mod => exact ifo e (fun _ e => dead e) fun hb e => by obtain rfl := sj e; exact PyProof.Rows.mod_int' hb Post.int
  | Pow => exact ifo e (fun hb e => by obtain rfl := sj e; exact PyProof.Rows.pow_int hb.1 (by have := hb.2; omega) Post.int) fun _ e => dead e
  | _ => exact dead e
theorem bin_sound {op : Operator} {d₁ d₂ d : D} {v₁ v₂ : Value} (r₁ : RepT prog w W s.heap d₁ v₁) (r₂ : RepT prog w W s.heap d₂ v₂) (e : binD op d₁ d₂ = some d)
    (hw : Wok W s.heap) : wpAny (model prog w) A (binaryOp op v₁ v₂) (Post prog w W s d) E s := by
  have go : ((asInt d₁).bind fun x => (asInt d₂).bind fun y => intOp op x y) = some d → wpAny (model prog w) A (binaryOp op v₁ v₂) (Post prog w W s d) E s :=
    fun e => ob e fun x h1 e => ob e fun y h2 e => asInt_r h1 r₁ fun t e1 => asInt_r h2 r₂ fun u e2 => by subst e1 e2; exact int_sound e
  cases op with
  | Add => exact add_sound r₁ r₂ e hw
  | Mult => exact mul_sound r₁ r₂ e hw
  | _ => exact go e

noncomputable def unI : UnaryOp → Int → Option D
  | .USub, a => some (.int (-a))
  | .UAdd, a => some (.int a)
  | .Invert, a => some (.int (-a - 1))
  | .Not, _ => none
noncomputable def unD (op : UnaryOp) (d : D) : Option D := (asInt d).bind fun i => unI op i
theorem un_sound {op : UnaryOp} {d₁ d : D} {v₁ : Value} (r₁ : RepT prog w W s.heap d₁ v₁) (e : unD op d₁ = some d) : wpAny (model prog w) A (unaryOp op v₁) (Post prog w W s d) E s := by
  refine ob e fun i h e => asInt_r h r₁ fun t e1 => ?_
  subst e1
  cases op with
  | USub => obtain rfl := sj e; exact PyProof.Rows.neg_int Post.int
  | UAdd => obtain rfl := sj e; exact PyProof.Rows.pos_int Post.intS
  | Invert =>
    obtain rfl := sj e
    refine PyProof.Rows.invert_int ?_
    rw [show Builtin.bitNot i = -i - 1 by first | rfl | (unfold Builtin.bitNot; omega) | (unfold Builtin.bitNot; rfl)]; exact Post.int
  | Not => exact dead e

noncomputable def truthD : D → Option Bool
  | .none => some false
  | .bool b => some b
  | .int i => some (i != 0)
  | .str x => some (x.length != 0)
  | _ => none

theorem truth_sound {d : D} {b : Bool} {v : Value} {Q : Bool → Shared → Prop} (r : RepT prog w W s.heap d v) (e : truthD d = some b) (q : ∀ s', Kp s s' → Q b s') : wpAny (model prog w) A (truthy v) Q E s := by
  cases d with
  | none => cases e; obtain rfl : v = .none := r; exact wpAny_pure (q _ (Kp.refl _))
  | bool c => cases e; obtain rfl : v = .bool _ := r; exact wpAny_truthy_bool (q _ (Kp.refl _))
  | int i => cases e; refine asInt_r (d := .int i) rfl r fun t e => ?_; subst e; exact PyProof.Rows.truthy_int (q _ (Kp.refl _))
  | str x =>
    cases e
    refine asStr_r (d := .str x) rfl r fun t e _ hl => ?_
    subst e
    rw [sizeLine] at hl
    refine P.truthy_str (by omega) ?_
    have e' : ((x.length : Int) != 0) = (x.length != 0) := by
      rw [Bool.eq_iff_iff]; simp
    rw [e']; exact q _ (Kp.tok _ _)
  | _ => exact dead e

/-- the comparisons -/
noncomputable def shallow : Nat → D → Bool
  | 0, d => match d with
    | .list _ => false
    | .tuple _ => false
    | .dict _ => false
    | _ => true
  | n + 1, d => match d with
    | .list ds => ds.all (shallow n)
    | .tuple ds => ds.all (shallow n)
    | .dict _ => false
    | _ => true
theorem shallow_noDict : ∀ (n : Nat) (d : D), shallow n d = true → noDict d = true ∧ d.depth ≤ n := by
  have all : ∀ (n : Nat), (∀ d, shallow n d = true → noDict d = true ∧ d.depth ≤ n) → ∀ ds : List D, ds.all (shallow n) = true → noDicts ds = true ∧ PyData.depthAll ds ≤ n := by
    intro n ih ds
    induction ds with
    | nil => intro _; exact ⟨rfl, Nat.zero_le _⟩
    | cons d ds hi =>
      intro h
      simp only [List.all_cons, Bool.and_eq_true] at h
      have h1 := ih d h.1
      have h2 := hi h.2
      refine ⟨?_, Nat.max_le.mpr ⟨h1.2, h2.2⟩⟩
      show (noDict d && noDicts ds) = true
      rw [h1.1, h2.1]; rfl
  have dp : ∀ {n : Nat} {ds : List D}, PyData.depthAll ds ≤ n → PyData.depthAll ds + 1 ≤ n + 1 := fun h => Nat.succ_le_succ h
  intro n
  induction n with
  | zero => intro d h; cases d <;> first | exact ⟨rfl, Nat.le_refl _⟩ | cases h
  | succ n ih =>
    intro d h
    cases d with
    | list ds => exact ⟨(all n ih ds h).1, dp (all n ih ds h).2⟩
    | tuple ds => exact ⟨(all n ih ds h).1, dp (all n ih ds h).2⟩
    | dict _ => cases h
    | _ => exact ⟨rfl, Nat.zero_le _⟩

theorem RepT.shaped {d : D} {v : Value} {n : Nat} {h : Heap} (r : RepT prog w W h d v) (hs : shallow n d = true) (hn : n ≤ 60) : (∃ as, Reads h v d as) ∧ SeqAt.shaped d = true := by
  have q := shallow_noDict n d hs
  obtain ⟨q1, q2⟩ := r.reads q.1
  refine ⟨q1, ?_⟩
  have q3 := q.2
  simp only [SeqAt.shaped, q2, Bool.true_and, decide_eq_true_eq]
  omega

noncomputable def ltD (a b : D) : Option Bool := match a with
  | .int x => (asInt b).bind fun y => some (decide (x < y))
  | .str x => (asStr b).bind fun y => some (decide (x.cps.toList < y.cps.toList))
  | _ => none
noncomputable def inD (a b : D) : Option Bool := match b with
  | .str x => (asStr a).bind fun y => some (Txt.contains x y)
  | .dict kvs => (asStr a).bind fun x => some (dget kvs x).isSome
  | .list ds => if shallow 8 a && ds.all (shallow 8) then some (ds.any fun y => PyData.eqv y a) else none
  | .tuple ds => if shallow 8 a && ds.all (shallow 8) then some (ds.any fun y => PyData.eqv y a) else none
  | _ => none
noncomputable def ninD (a b : D) : Option Bool := match b with
  | .str x => (asStr a).bind fun y => some (!Txt.contains x y)
  | .dict kvs => (asStr a).bind fun x => some (!(dget kvs x).isSome)
  | .list ds => if shallow 8 a && ds.all (shallow 8) then some (!ds.any fun y => PyData.eqv y a) else none
  | _ => none
noncomputable def cmpD (op : CmpOp) (a b : D) : Option Bool := match op with
  | .Eq => if shallow 8 a && shallow 8 b then some (PyData.eqv a b) else none
  | .NotEq => if shallow 8 a && shallow 8 b then some (!PyData.eqv a b) else none
  | .Lt => ltD a b
  | .LtE => (asInt a).bind fun x => (asInt b).bind fun y => some (decide (x ≤ y))
  | .Gt => (asInt a).bind fun x => (asInt b).bind fun y => some (decide (y < x))
  | .GtE => (asInt a).bind fun x => (asInt b).bind fun y => some (decide (y ≤ x))
  | .In => inD a b
  | .NotIn => ninD a b
  | .Is => (asBool a).bind fun x => (asBool b).bind fun y => some (x == y)
  | .IsNot => (asBool a).bind fun x => (asBool b).bind fun y => some (x != y)

theorem dict_isSome {kvs : List (D × D)} {f : Str → Option Value} (q : ∀ x, match dget kvs x with | some d => ∃ u, f x = some u ∧ flatV d u | none => f x = none) (x : Str) : (f x).isSome = (dget kvs x).isSome := by
  have h := q x
  cases e : dget kvs x with
  | none => rw [e] at h; rw [h]; rfl
  | some d => rw [e] at h; obtain ⟨u, h, _⟩ := h; rw [h]; rfl

theorem asDict_r {P : Prop} {kvs : List (D × D)} {v : Value} {h : Heap} (r : RepT prog w W h (.dict kvs) v)
    (k : ∀ a f, v = .ref a → (a == sysModules) = false → h.MapOf (strKind prog w) a f → (∀ x, match dget kvs x with | some d => ∃ u, f x = some u ∧ flatV d u | none => f x = none) → P) : P := by
  obtain ⟨a, f, q0, hs, hm, q⟩ : ∃ a f, v = .ref a ∧ (a == sysModules) = false ∧ h.MapOf (strKind prog w) a f ∧ ∀ x, match dget kvs x with | some d => ∃ u, f x = some u ∧ flatV d u | none => f x = none := r
  exact k a f q0 hs hm q

/-- what is sought in a list, and the list -/
theorem seek {d : D} {ds : List D} {e : D} {v u : Value} {h : Heap} {P : Prop} (he : e = .list ds ∨ e = .tuple ds) (hb : (shallow 8 d && ds.all (shallow 8)) = true) (r₁ : RepT prog w W h d v) (r₂ : RepT prog w W h e u) (ha : AOk A k)
    (q : ∀ as bs, Reads h v d as → Reads h u e bs → PyData.canLayAll0 ds = true → d.canLay0 = true → A.units + 1 + min (PyData.depthAll ds) d.depth < cLine → P) : P := by
  have hu := ha.cl
  simp only [Bool.and_eq_true] at hb
  obtain ⟨n1, dp⟩ := shallow_noDict 8 _ hb.1
  have n2 : noDict e = true := by rcases he with rfl | rfl <;> exact (shallow_noDict 9 _ (by simpa [shallow] using hb.2)).1
  obtain ⟨⟨as, q1⟩, c1⟩ := r₁.reads n1
  obtain ⟨⟨bs, q2⟩, c2⟩ := r₂.reads n2
  refine q as bs q1 q2 (by rcases he with rfl | rfl <;> simpa [PyData.canLay0] using c2) c1 ?_
  refine Nat.lt_of_le_of_lt (Nat.add_le_add_left (Nat.le_trans (Nat.min_le_right _ _) dp) _) ?_
  omega

theorem in_sound {d₁ d₂ : D} {b : Bool} {v₁ v₂ : Value} (r₁ : RepT prog w W s.heap d₁ v₁) (r₂ : RepT prog w W s.heap d₂ v₂) (e : inD d₁ d₂ = some b) (ha : AOk A k) :
    wpAny (model prog w) A (compareOp .In v₁ v₂) (Post prog w W s (.bool b)) E s := by
  cases d₂ with
  | str x => exact ob e fun y h e => asStr_r h r₁ fun t e1 _ _ => asStr_r (d := .str x) rfl r₂ fun u e2 _ _ => by obtain rfl := sj e; subst e1 e2; exact SB.contains Post.bool
  | dict kvs =>
    refine ob e fun x h e => asStr_r h r₁ fun t e1 _ _ => asDict_r r₂ fun a f e2 hs hm q => ?_
    obtain rfl := sj e; subst e1 e2
    refine wpAny_in_of (knd := strKind prog w) (k := x) (strKind_is prog w x t) hs hm ?_
    rw [dict_isSome q]; exact Post.boolT
  | list ds => exact ifo e (fun hb e => by obtain rfl := sj e; exact seek (.inl rfl) hb r₁ r₂ ha fun as bs q1 q2 c2 c1 hu => SeqAt.in_list_reads q2 q1 c2 c1 hu Post.bool) fun _ e => dead e
  | tuple ds => exact ifo e (fun hb e => by obtain rfl := sj e; exact seek (.inr rfl) hb r₁ r₂ ha fun as bs q1 q2 c2 c1 hu => SeqAt.in_tuple_reads q2 q1 c2 c1 hu Post.bool) fun _ e => dead e
  | _ => exact dead e
theorem notIn_sound {d₁ d₂ : D} {b : Bool} {v₁ v₂ : Value} (r₁ : RepT prog w W s.heap d₁ v₁) (r₂ : RepT prog w W s.heap d₂ v₂) (e : ninD d₁ d₂ = some b) (ha : AOk A k) :
    wpAny (model prog w) A (compareOp .NotIn v₁ v₂) (Post prog w W s (.bool b)) E s := by
  cases d₂ with
  | str x => exact ob e fun y h e => asStr_r h r₁ fun t e1 _ _ => asStr_r (d := .str x) rfl r₂ fun u e2 _ _ => by obtain rfl := sj e; subst e1 e2; exact SB.notContains Post.bool
  | dict kvs =>
    refine ob e fun x h e => asStr_r h r₁ fun t e1 _ _ => asDict_r r₂ fun a f e2 hs hm q => ?_
    obtain rfl := sj e; subst e1 e2
    refine wpAny_notIn_of (knd := strKind prog w) (k := x) (strKind_is prog w x t) hs hm ?_
    rw [dict_isSome q]; exact Post.boolT
  | list ds => exact ifo e (fun hb e => by obtain rfl := sj e; exact seek (.inl rfl) hb r₁ r₂ ha fun as bs q1 q2 c2 c1 hu => SeqAt.notIn_list_reads q2 q1 c2 c1 hu Post.bool) fun _ e => dead e
  | _ => exact dead e

theorem ltD_sound {d₁ d₂ : D} {b : Bool} {v₁ v₂ : Value} (r₁ : RepT prog w W s.heap d₁ v₁) (r₂ : RepT prog w W s.heap d₂ v₂) (e : ltD d₁ d₂ = some b) : wpAny (model prog w) A (compareOp .Lt v₁ v₂) (Post prog w W s (.bool b)) E s := by
  cases d₁ with
  | int x => exact ob e fun y h e => asInt_r (d := .int x) rfl r₁ fun t e1 => asInt_r h r₂ fun u e2 => by obtain rfl := sj e; subst e1 e2; exact PyProof.Rows.lt_int Post.bool
  | str x => exact ob e fun y h e => asStr_r (d := .str x) rfl r₁ fun t e1 _ _ => asStr_r h r₂ fun u e2 _ _ => by obtain rfl := sj e; subst e1 e2; exact PyProof.Rows.lt_str Post.bool
  | _ => exact dead e
theorem ints_o {P : Prop} {d₁ d₂ : D} {v₁ v₂ : Value} {f : Int → Int → Bool} {b : Bool} {h : Heap} (e : ((asInt d₁).bind fun x => (asInt d₂).bind fun y => some (f x y)) = some b) (r₁ : RepT prog w W h d₁ v₁) (r₂ : RepT prog w W h d₂ v₂)
    (k : ∀ x y t u, v₁ = .int x t → v₂ = .int y u → b = f x y → P) : P := ob e fun x h e => ob e fun y h' e => asInt_r h r₁ fun t e1 => asInt_r h' r₂ fun u e2 => k x y t u e1 e2 (sj e).symm
theorem bools_o {P : Prop} {d₁ d₂ : D} {v₁ v₂ : Value} {f : Bool → Bool → Bool} {b : Bool} {h : Heap} (e : ((asBool d₁).bind fun x => (asBool d₂).bind fun y => some (f x y)) = some b) (r₁ : RepT prog w W h d₁ v₁) (r₂ : RepT prog w W h d₂ v₂)
    (k : ∀ x y, v₁ = .bool x → v₂ = .bool y → b = f x y → P) : P := ob e fun x h e => ob e fun y h' e => asBool_r h r₁ fun e1 => asBool_r h' r₂ fun e2 => k x y e1 e2 (sj e).symm
theorem eqs_o {P : Prop} {d₁ d₂ : D} {v₁ v₂ : Value} {f b : Bool} {h : Heap} (e : (if (shallow 8 d₁ && shallow 8 d₂) = true then some f else none) = some b) (r₁ : RepT prog w W h d₁ v₁) (r₂ : RepT prog w W h d₂ v₂)
    (k : ∀ as bs, Reads h v₁ d₁ as → Reads h v₂ d₂ bs → SeqAt.shaped d₁ = true → SeqAt.shaped d₂ = true → b = f → P) : P := ifo e (fun hb e => by
    simp only [Bool.and_eq_true] at hb
    obtain ⟨⟨as, q1⟩, c1⟩ := r₁.shaped hb.1 (by decide)
    obtain ⟨⟨bs, q2⟩, c2⟩ := r₂.shaped hb.2 (by decide)
    exact k as bs q1 q2 c1 c2 (sj e).symm) fun _ e => dead e

theorem cmp_sound {op : CmpOp} {d₁ d₂ : D} {b : Bool} {v₁ v₂ : Value} (r₁ : RepT prog w W s.heap d₁ v₁) (r₂ : RepT prog w W s.heap d₂ v₂) (e : cmpD op d₁ d₂ = some b) (ha : AOk A k) :
    wpAny (model prog w) A (compareOp op v₁ v₂) (Post prog w W s (.bool b)) E s := by
  cases op with
  | Eq => exact eqs_o e r₁ r₂ fun as bs q1 q2 c1 c2 e => e ▸ SeqAt.compareEq_shaped q1 q2 c1 c2 ha.cl Post.bool
  | NotEq => exact eqs_o e r₁ r₂ fun as bs q1 q2 c1 c2 e => e ▸ SeqAt.compareNe_shaped q1 q2 c1 c2 ha.cl Post.bool
  | Lt => exact ltD_sound r₁ r₂ e
  | LtE => exact ints_o e r₁ r₂ fun x y t u e1 e2 e => by subst e1 e2 e; exact PyProof.Rows.le_int Post.bool
  | Gt => exact ints_o (f := fun x y => decide (y < x)) e r₁ r₂ fun x y t u e1 e2 e => by subst e1 e2 e; exact PyProof.Rows.gt_int Post.bool
  | GtE => exact ints_o (f := fun x y => decide (y ≤ x)) e r₁ r₂ fun x y t u e1 e2 e => by subst e1 e2 e; exact PyProof.Rows.ge_int Post.bool
  | In => exact in_sound r₁ r₂ e ha
  | NotIn => exact notIn_sound r₁ r₂ e ha
  | IsNot =>
    refine bools_o e r₁ r₂ fun x y e1 e2 e => ?_
    subst e1 e2 e
    refine wpAny_isNot_plain (by rfl) ?_
    rw [show (!(Value.bool x == Value.bool y)) = (x != y) by cases x <;> cases y <;> rfl]; exact Post.bool
  | Is =>
    refine bools_o e r₁ r₂ fun x y e1 e2 e => ?_
    subst e1 e2 e
    refine wpAny_is_plain (by rfl) ?_
    rw [show (Value.bool x == Value.bool y) = (x == y) by cases x <;> cases y <;> rfl]; exact Post.bool
end
end Ev
namespace Ev
open PySem PySem.Calls PyProof.Rows

section
variable [Base] {prog : Program} {w : World} {W : Addr → Prop} {A : Around} {s : Shared} {E : Value → Shared → Prop} {k : Nat}

-- items
noncomputable def seqItem (ds : List D) (i : Int) : Option D := if -(2 ^ 63 : Int) ≤ i ∧ i < 2 ^ 63 then (seqIndex? i ds.length).bind (ds[·]?) else none
noncomputable def itemD (a b : D) : Option D := match a with
  | .str x => (asInt b).bind fun i => if fitsSsize i && (Txt.charAt x i).isSome then some (.str (Txt.item x i)) else none
  | .list ds => (asInt b).bind fun i => seqItem ds i
  | .tuple ds => (asInt b).bind fun i => seqItem ds i
  | .dict kvs => (asStr b).bind fun x => dget kvs x
  | _ => none

theorem strOk_item {x : Str} {i : Int} (hx : PyData.strOk x = true) (h : (Txt.charAt x i).isSome = true) : PyData.strOk (Txt.item x i) = true := by
  obtain ⟨c, hc⟩ := Option.isSome_iff_exists.mp h
  unfold Txt.item
  rw [hc]
  rw [strOk_list] at hx ⊢
  intro d hd
  simp only [Option.getD_some, List.mem_singleton] at hd
  subst hd
  unfold Txt.charAt at hc
  cases hq : seqIndex? i x.length with
  | none => rw [hq] at hc; cases hc
  | some j =>
    rw [hq] at hc
    exact hx _ (by rw [Array.mem_toList_iff]; exact Array.mem_of_getElem? hc)

theorem flatV.rep {d : D} {v : Value} {h : Heap} (f : flatV d v) : Rep prog w W h d v := by
  cases d with
  | none => simp only [flatV] at f; subst f; exact rep_none
  | bool _ => simp only [flatV] at f; subst f; exact rep_bool
  | int _ => simp only [flatV] at f; obtain ⟨t, rfl⟩ := f; exact rep_int
  | str _ => simp only [flatV] at f; obtain ⟨⟨t, rfl⟩, h1, h2⟩ := f; exact rep_str h1 h2
  | list _ => exact f.elim
  | tuple _ => exact f.elim
  | dict _ => exact f.elim

theorem seqIndex_some {i : Int} {n j : Nat} (h : seqIndex? i n = some j) : (0 ≤ i → j = i.toNat ∧ i < n) ∧ (i < 0 → j = (i + n).toNat ∧ -(n : Int) ≤ i) := by
  simp only [seqIndex?] at h
  by_cases hi : i < 0
  · rw [if_pos hi] at h
    by_cases hc : (decide (0 ≤ i + (n : Int)) && decide (i + (n : Int) < n)) = true
    · rw [if_pos hc] at h
      simp only [Bool.and_eq_true, decide_eq_true_eq] at hc
      injection h with h
      exact ⟨fun _ => by omega, fun _ => ⟨h.symm, by omega⟩⟩
    · rw [if_neg hc] at h; cases h
  · rw [if_neg hi] at h
    by_cases hc : (decide (0 ≤ i) && decide (i < (n : Int))) = true
    · rw [if_pos hc] at h
      simp only [Bool.and_eq_true, decide_eq_true_eq] at hc
      injection h with h
      exact ⟨fun _ => ⟨h.symm, hc.2⟩, fun _ => by omega⟩
    · rw [if_neg hc] at h; cases h

noncomputable def ItemOk (prog : Program) (w : World) (W : Addr → Prop) (A : Around) (s : Shared) (E : Value → Shared → Prop) (v₁ v₂ : Value) (d : D) : Prop :=
    ∃ T id, s.TypeIs v₁ T ∧ typeLookup (.type T) "__getitem__" = pure (some (.builtin id)) ∧ wpAny (model prog w) A (getItem v₁ v₂) (Post prog w W s d) E s
theorem seqItem_o {P : Prop} {ds : List D} {vs : List Value} {i : Int} {d : D} {h : Heap} (e : seqItem ds i = some d) (r : Reps prog w W h ds vs) (k : ∀ j v, -(2 ^ 63 : Int) ≤ i → i < 2 ^ 63 → seqIndex? i ds.length = some j → vs[j]? = some v → Rep prog w W h d v → P) : P :=
  ifo e (fun hb e => ob e fun j hq e => by obtain ⟨v, hv, q⟩ := r.get e; exact k j v hb.1 hb.2 hq hv q) fun _ e => dead e
theorem item_str {x : Str} {d₂ d : D} {v₁ v₂ : Value} (r₁ : RepT prog w W s.heap (.str x) v₁) (r₂ : RepT prog w W s.heap d₂ v₂) (e : itemD (.str x) d₂ = some d) : ItemOk prog w W A s E v₁ v₂ d := by
  refine ob e fun i h e => ifo e (fun hb e => asStr_r (d := .str x) rfl r₁ fun t e1 o1 l1 => asInt_r h r₂ fun u e2 => ?_) fun _ e => dead e
  obtain rfl := sj e; subst e1 e2
  simp only [Bool.and_eq_true] at hb
  exact ⟨"str", _, typeIs_str _ _ _, F.slot_str_getitem.lookup, SB.getItem hb.1 hb.2 (Post.str (strOk_item o1 hb.2) (by show 1 ≤ sizeLine; decide))⟩
theorem item_list {ds : List D} {d₂ d : D} {v₁ v₂ : Value} (r₁ : RepT prog w W s.heap (.list ds) v₁) (r₂ : RepT prog w W s.heap d₂ v₂) (e : itemD (.list ds) d₂ = some d) : ItemOk prog w W A s E v₁ v₂ d := by
  refine ob e fun i h e => asList_r (d := .list ds) rfl r₁ fun a vs e1 l1 n1 q1 => asInt_r h r₂ fun u e2 => seqItem_o e q1 fun j v lo hi hq hv r => ?_
  subst e1 e2
  refine ⟨"list", _, l1.typeIs, slot_list_getitem.lookup, ?_⟩
  have hlen := q1.length
  by_cases h0 : 0 ≤ i
  · have hj : j = i.toNat := ((seqIndex_some hq).1 h0).1
    exact wpAny_getItem_list l1 h0 hi (by rw [← hj]; simpa using hv) ⟨Kp.refl _, r⟩
  · have hj : j = (i + (ds.length : Int)).toNat ∧ -(ds.length : Int) ≤ i := (seqIndex_some hq).2 (by omega)
    exact wpAny_getItem_list_neg l1 (by omega) (by simp [hlen]; omega) lo (by simp [hlen]; rw [← hj.1]; simpa using hv) ⟨Kp.refl _, r⟩
theorem item_tuple {ds : List D} {d₂ d : D} {v₁ v₂ : Value} (r₁ : RepT prog w W s.heap (.tuple ds) v₁) (r₂ : RepT prog w W s.heap d₂ v₂) (e : itemD (.tuple ds) d₂ = some d) : ItemOk prog w W A s E v₁ v₂ d := by
  obtain ⟨a, vs, e1, l1, n1, q1⟩ : ∃ (a : Addr) (vs : List Value), v₁ = .ref a ∧ s.heap.IsTuple a vs.toArray ∧ vs.length ≤ sizeLine ∧ Reps prog w W s.heap ds vs := r₁
  refine ob e fun i h e => asInt_r h r₂ fun u e2 => seqItem_o e q1 fun j v lo hi hq hv r => ?_
  subst e1 e2
  exact ⟨"tuple", _, l1.typeIs, slot_tuple_getitem.lookup, PyProof.Rows.getItem_tuple l1 lo hi (by simpa [q1.length] using hq) (by simpa using hv) ⟨Kp.refl _, r⟩⟩
theorem item_dict {kvs : List (D × D)} {d₂ d : D} {v₁ v₂ : Value} (r₁ : RepT prog w W s.heap (.dict kvs) v₁) (r₂ : RepT prog w W s.heap d₂ v₂) (e : itemD (.dict kvs) d₂ = some d) : ItemOk prog w W A s E v₁ v₂ d := by
  refine ob e fun x h e => asDict_r r₁ fun a f e1 hs hm q => asStr_r h r₂ fun u e2 _ _ => ?_
  subst e1 e2
  have hx := q x
  rw [e] at hx
  obtain ⟨v, hv, fl⟩ := hx
  exact ⟨"dict", _, hm.typeIs, slot_dict_getitem.lookup, wpAny_getItem_of (knd := PySem.strKind prog w) (k := x) (strKind_is prog w x u) hm hv ⟨Kp.tok _ _, fl.rep⟩⟩
theorem getItem_sound {d₁ d₂ d : D} {v₁ v₂ : Value} (r₁ : RepT prog w W s.heap d₁ v₁) (r₂ : RepT prog w W s.heap d₂ v₂) (e : itemD d₁ d₂ = some d) : ItemOk prog w W A s E v₁ v₂ d := by
  cases d₁ with
  | str x => exact item_str r₁ r₂ e
  | list ds => exact item_list r₁ r₂ e
  | tuple ds => exact item_tuple r₁ r₂ e
  | dict kvs => exact item_dict r₁ r₂ e
  | _ => exact dead e

theorem item_sound {value slice : PySem.Expr} {d₁ d₂ d : D} {v₁ v₂ : Value} (r₁ : RepT prog w W s.heap d₁ v₁) (r₂ : RepT prog w W s.heap d₂ v₂) (e : itemD d₁ d₂ = some d)
    (hs : ∃ ops, subscripted slice false v₁ v₂ = operate ops (getItem v₁ v₂)) : wpAny (model prog w) A (subscriptTail value slice v₁ v₂) (Post prog w W s d) E s := by
  obtain ⟨T, id, h1, h2, h3⟩ := getItem_sound (A := A) (E := E) r₁ r₂ e
  obtain ⟨ops, hs⟩ := hs
  exact tail_any h1 h2 h3 hs

-- slices
noncomputable def pickL {α : Type} (xs : List α) (lo hi st : Option Int) : List α :=
  (sliceRange (sliceBounds lo hi st xs.length).1 (sliceBounds lo hi st xs.length).2.1 (sliceBounds lo hi st xs.length).2.2).filterMap (xs[·]?)
theorem pick_reps : ∀ (idx : List Nat) {h : Heap} {ds : List D} {vs : List Value}, Reps prog w W h ds vs → Reps prog w W h (idx.filterMap (ds[·]?)) (idx.filterMap (vs[·]?))
  | [], _, _, _, _ => by simp [Reps]
  | i :: idx, h, ds, vs, r => by
    have ih := pick_reps idx r
    cases e : ds[i]? with
    | none =>
      have e' : vs[i]? = none := by
        rw [List.getElem?_eq_none_iff] at e ⊢
        rw [r.length]; exact e
      rw [List.filterMap_cons_none e, List.filterMap_cons_none e']; exact ih
    | some d =>
      obtain ⟨v, hv, q⟩ := r.get e
      rw [List.filterMap_cons_some e, List.filterMap_cons_some hv]
      exact .cons q ih
theorem slicePick_toList (vs : List Value) (lo hi st : Option Int) : (slicePick vs.toArray lo hi st) = (pickL vs lo hi st).toArray := by
  unfold slicePick pickL
  simp

noncomputable def sliceD (a : D) (lo hi st : Option Int) : Option D := match a with
  | .str x => if st.isNone = true then some (.str (Txt.slice x lo hi)) else none
  | .list ds => if st ≠ some 0 then some (.list (pickL ds lo hi st)) else none
  | _ => none

theorem strOk_slice {x : Str} {lo hi : Option Int} (hx : PyData.strOk x = true) : PyData.strOk (Txt.slice x lo hi) = true := by
  unfold Txt.slice
  split
  · exact hx
  · rw [strOk_list] at hx ⊢
    intro c hc
    simp only [List.mem_filterMap] at hc
    obtain ⟨i, _, hi⟩ := hc
    exact hx _ (by rw [Array.mem_toList_iff]; exact Array.mem_of_getElem? hi)

theorem sliceStr_sound {x : Str} {t : Tok} {vl vu : Value} {lo hi : Option Int} (o1 : PyData.strOk x = true) (l1 : x.length ≤ sizeLine) (pl : IsPart vl lo) (pu : IsPart vu hi) :
    wpAny (model prog w) A (getItem (.str x t) (.ref s.heap.objs.size)) (Post prog w W s (.str (Txt.slice x lo hi))) E { s with heap := s.heap.push { cls := .type "slice", data := .fields #[vl, vu, .none] } } := by
  have kp : KeptH (KH s.heap) := fun h ob p => p.trans (KH.push _ _)
  have fin : ∀ h' t' k, KH s.heap h' → Post prog w W s (.str (Txt.slice x lo hi)) (.str (Txt.slice x lo hi) t') { s with heap := h', toks := k } :=
    fun h' t' k p => ⟨⟨⟨_, _, rfl⟩, p⟩, rep_str (strOk_slice o1) (Nat.le_trans (Txt.slice_le x _ _) l1)⟩
  cases pl <;> cases pu
  · obtain ⟨T, id, q1, q2, q3⟩ := SBH.sliceItem_nn (prog := prog) (w := w) (A := A) (E := E) (t := t) kp (KH.refl s.heap) fin l1
    exact q3
  · obtain ⟨T, id, q1, q2, q3⟩ := SBH.sliceItem_ns (prog := prog) (w := w) (A := A) (E := E) (t := t) kp (KH.refl s.heap) fin l1
    exact q3
  · obtain ⟨T, id, q1, q2, q3⟩ := SBH.sliceItem_sn (prog := prog) (w := w) (A := A) (E := E) (t := t) kp (KH.refl s.heap) fin l1
    exact q3
  · obtain ⟨T, id, q1, q2, q3⟩ := SBH.sliceItem_ss (prog := prog) (w := w) (A := A) (E := E) (t := t) kp (KH.refl s.heap) fin l1
    exact q3

noncomputable def SliceOk (prog : Program) (w : World) (W : Addr → Prop) (A : Around) (s : Shared) (E : Value → Shared → Prop) (v₁ vl vu vs : Value) (d : D) : Prop :=
    ∃ T id, ({ s with heap := s.heap.push { cls := .type "slice", data := .fields #[vl, vu, vs] } } : Shared).TypeIs v₁ T ∧ typeLookup (.type T) "__getitem__" = pure (some (.builtin id)) ∧
      wpAny (model prog w) A (getItem v₁ (.ref s.heap.objs.size)) (Post prog w W s d) E { s with heap := s.heap.push { cls := .type "slice", data := .fields #[vl, vu, vs] } }
theorem sliceItem_sound {d₁ d : D} {v₁ vl vu vs : Value} {lo hi st : Option Int} (r₁ : RepT prog w W s.heap d₁ v₁) (pl : IsPart vl lo) (pu : IsPart vu hi) (ps : IsPart vs st) (e : sliceD d₁ lo hi st = some d) (hw : Wok W s.heap) :
    SliceOk prog w W A s E v₁ vl vu vs d := by
  cases d₁ with
  | str x =>
    refine ifo e (fun hst e => asStr_r (d := .str x) rfl r₁ fun t e1 o1 l1 => ?_) fun _ e => dead e
    obtain rfl := sj e
    subst e1
    cases ps with
    | none => exact ⟨"str", _, typeIs_str _ _ _, F.slot_str_getitem.lookup, sliceStr_sound o1 l1 pl pu⟩
    | int _ _ => cases hst
  | list ds =>
    refine ifo e (fun h0 e => asList_r (d := .list ds) rfl r₁ fun a us e1 l1 n1 q1 => ?_) fun _ e => dead e
    obtain rfl := sj e
    subst e1
    refine ⟨"list", _, (l1.push _).typeIs, slot_list_getitem.lookup, ?_⟩
    refine wpAny_getItem_list_slice (l1.push _) (Heap.IsSliceOf.new ..) pl pu ps h0 ?_ (by simpa using n1)
    rw [slicePick_toList]
    have hz : (pickL us lo hi st).length ≤ sizeLine := by
      have := slicePick_size_le us.toArray lo hi st
      rw [slicePick_toList] at this
      simp at this
      omega
    have r2 : Reps prog w W (s.heap.push { cls := .type "slice", data := .fields #[vl, vu, vs] }) (pickL ds lo hi st) (pickL us lo hi st) := by
      unfold pickL
      rw [q1.length]
      exact pick_reps _ (q1.keep (KH.push _ _))
    obtain ⟨k1, k2⟩ := list_new (s := { s with heap := s.heap.push { cls := .type "slice", data := .fields #[vl, vu, vs] } }) r2 (hw.mono (KH.push _ _)) hz
    exact ⟨(Kp.pushS _ _).trans k1, k2⟩
  | _ => exact dead e

-- built-in functions
noncomputable def intsD : List D → Option (List Int)
  | [] => some []
  | d :: r => (asInt d).bind fun i => (intsD r).bind fun l => some (i :: l)
noncomputable def strsD : List D → Option (List Str)
  | [] => some []
  | d :: r => (asStr d).bind fun i => (strsD r).bind fun l => some (i :: l)
theorem intsD_are : ∀ {ds : List D} {ns : List Int} {h : Heap} {vs : List Value}, Reps prog w W h ds vs → intsD ds = some ns → IntsAre vs ns
  | [], ns, h, vs, r, e => by obtain rfl : vs = [] := r; obtain rfl := sj e; exact .nil
  | d :: ds, ns, h, vs, r, e => by
    obtain ⟨v, r', rfl, h1, h2, h3⟩ : ∃ v r', vs = v :: r' ∧ RepT prog w W h d v ∧ offW W v ∧ Reps prog w W h ds r' := r
    refine ob e fun i hi e => ob e fun l hl e => asInt_r hi h1 fun t e1 => ?_
    obtain rfl := sj e
    subst e1
    exact .cons _ _ (intsD_are h3 hl)
theorem strsD_are : ∀ {ds : List D} {ns : List Str} {h : Heap} {vs : List Value}, Reps prog w W h ds vs → strsD ds = some ns → ∃ l, vs = strValues l ∧ l.map (·.1) = ns ∧ ∀ x ∈ ns, PyData.strOk x = true
  | [], ns, h, vs, r, e => by obtain rfl : vs = [] := r; obtain rfl := sj e; exact ⟨[], rfl, rfl, fun _ h => nomatch h⟩
  | d :: ds, ns, h, vs, r, e => by
    obtain ⟨v, r', rfl, h1, h2, h3⟩ : ∃ v r', vs = v :: r' ∧ RepT prog w W h d v ∧ offW W v ∧ Reps prog w W h ds r' := r
    refine ob e fun x hx e => ob e fun ms hl e => asStr_r hx h1 fun t e1 o1 _ => ?_
    obtain rfl := sj e
    obtain ⟨l, e0, e2, e3⟩ := strsD_are h3 hl
    subst e1 e0
    exact ⟨(x, t) :: l, rfl, congrArg (x :: ·) e2, fun y hy => (List.mem_cons.mp hy).elim (fun q => q ▸ o1) (e3 y)⟩

theorem strOk_ofString (x : String) : PyData.strOk (Str.ofString x) = true := by
  rw [strOk_list, Str.ofString_eq_toList]
  intro c hc
  simp only [List.mem_map] at hc
  obtain ⟨d, _, rfl⟩ := hc
  have h := d.valid
  simp only [UInt32.isValidChar, Nat.isValidChar] at h
  show d.val.toNat < 0x110000
  omega

/- names written out: quick to reckon -/
noncomputable def n_find : Str := ⟨#[102, 105, 110, 100]⟩
noncomputable def n_split : Str := ⟨#[115, 112, 108, 105, 116]⟩
noncomputable def n_lower : Str := ⟨#[108, 111, 119, 101, 114]⟩
noncomputable def n_join : Str := ⟨#[106, 111, 105, 110]⟩
noncomputable def n_get : Str := ⟨#[103, 101, 116]⟩
noncomputable def n_len : Str := ⟨#[108, 101, 110]⟩
noncomputable def n_sum : Str := ⟨#[115, 117, 109]⟩
noncomputable def n_max : Str := ⟨#[109, 97, 120]⟩
noncomputable def n_min : Str := ⟨#[109, 105, 110]⟩
noncomputable def n_ord : Str := ⟨#[111, 114, 100]⟩
noncomputable def n_chr : Str := ⟨#[99, 104, 114]⟩
noncomputable def n_str : Str := ⟨#[115, 116, 114]⟩
noncomputable def n_int : Str := ⟨#[105, 110, 116]⟩
noncomputable def lenD : D → Option D
  | .str x => some (.int x.length)
  | .list ds => some (.int ds.length)
  | _ => none
noncomputable def sumD (d : D) : Option D := (asList d).bind fun ds => (intsD ds).bind fun ns => some (.int ns.sum)
noncomputable def maxD (d e : D) : Option D := (asInt d).bind fun a => (asInt e).bind fun b => some (.int (if b > a then b else a))
noncomputable def minD (d e : D) : Option D := (asInt d).bind fun a => (asInt e).bind fun b => some (.int (if b < a then b else a))
noncomputable def ordD (d : D) : Option D := (asStr d).bind fun x => if x.length = 1 then some (.int (x.cps.getD 0 0 : Nat)) else none
noncomputable def chrD (d : D) : Option D := (asInt d).bind fun i => if 0 ≤ i ∧ i ≤ 1114111 then some (.str ⟨#[i.toNat]⟩) else none
noncomputable def builtinQ (f : Str) (args : List D) : Option D :=
  if f = n_len then (one1 args).bind lenD
  else if f = n_sum then (one1 args).bind sumD
  else if f = n_max then (two args).bind fun p => maxD p.1 p.2
  else if f = n_min then (two args).bind fun p => minD p.1 p.2
  else if f = n_ord then (one1 args).bind ordD
  else if f = n_chr then (one1 args).bind chrD
  else none
noncomputable def strD (d : D) : Option D := (asInt d).bind fun a => if a.natAbs < 10 ^ 10 then some (.str (Str.ofString (toString a))) else none
noncomputable def intD (d : D) : Option D := (asStr d).bind fun x => if x.length ≤ 640 then (PySem.intText? x).bind fun i => some (.int i) else none
noncomputable def typeQ (f : Str) (args : List D) : Option D :=
  if f = n_str then (one1 args).bind strD
  else if f = n_int then (one1 args).bind intD
  else none

theorem reps1 {d : D} {vs : List Value} {h : Heap} (r : Reps prog w W h [d] vs) : ∃ v, vs = [v] ∧ Rep prog w W h d v := by
  obtain ⟨v, r', rfl, h1, h2, rfl⟩ : ∃ v r', vs = v :: r' ∧ RepT prog w W h d v ∧ offW W v ∧ r' = [] := r
  exact ⟨v, rfl, h1, h2⟩
theorem reps2 {d e : D} {vs : List Value} {h : Heap} (r : Reps prog w W h [d, e] vs) : ∃ v u, vs = [v, u] ∧ Rep prog w W h d v ∧ Rep prog w W h e u := by
  obtain ⟨v, r', rfl, h1, h2, h3⟩ : ∃ v r', vs = v :: r' ∧ RepT prog w W h d v ∧ offW W v ∧ Reps prog w W h [e] r' := r
  obtain ⟨u, rfl, h4⟩ := reps1 h3
  exact ⟨v, u, rfl, ⟨h1, h2⟩, h4⟩

/-- the arguments may be owned at their top -/
noncomputable def RepsT (prog : Program) (w : World) (W : Addr → Prop) (h : Heap) : List D → List Value → Prop
  | [], vs => vs = []
  | d :: ds, vs => ∃ v r, vs = v :: r ∧ RepT prog w W h d v ∧ RepsT prog w W h ds r
theorem Reps.topT : ∀ {ds : List D} {vs : List Value} {h : Heap}, Reps prog w W h ds vs → RepsT prog w W h ds vs
  | [], vs, h, r => r
  | d :: ds, vs, h, r => by
    obtain ⟨v, r', e, h1, h2, h3⟩ : ∃ v r', vs = v :: r' ∧ RepT prog w W h d v ∧ offW W v ∧ Reps prog w W h ds r' := r
    exact ⟨v, r', e, h1, Reps.topT h3⟩
theorem arg1 {P : Prop} {ds : List D} {d : D} {vs : List Value} {h : Heap} (e : one1 ds = some d) (r : RepsT prog w W h ds vs) (k : ∀ v, vs = [v] → RepT prog w W h d v → P) : P := by
  refine one1_o e fun e => ?_
  subst e
  obtain ⟨v, r', e1, h1, h2⟩ := r
  exact k v (by rw [e1, show r' = [] from h2]) h1
theorem arg2 {P : Prop} {ds : List D} {d : D × D} {vs : List Value} {h : Heap} (e : two ds = some d) (r : RepsT prog w W h ds vs) (k : ∀ v u, vs = [v, u] → RepT prog w W h d.1 v → RepT prog w W h d.2 u → P) : P := by
  refine two_o e fun e => ?_
  subst e
  obtain ⟨v, r', e1, h1, u, r'', e2, h2, h3⟩ := r
  exact k v u (by rw [e1, e2, show r'' = [] from h3]) h1 h2

theorem len_sound {d₁ d : D} {v : Value} (r : RepT prog w W s.heap d₁ v) (e : lenD d₁ = some d) : wpAny (model prog w) A (call (.builtin "len") [v]) (Post prog w W s d) E s := by
  cases d₁ with
  | str x =>
    refine asStr_r (d := .str x) rfl r fun t e1 _ hl => ?_
    obtain rfl := sj e; subst e1
    rw [sizeLine] at hl
    exact P.len_str (by omega) Post.int
  | list xs =>
    refine asList_r (d := .list xs) rfl r fun a us e1 l1 n1 q1 => ?_
    obtain rfl := sj e; subst e1
    rw [← q1.length]
    rw [sizeLine] at n1
    exact PyProof.Rows.len_list l1 (by simp; omega) (by simpa using Post.int)
  | _ => exact dead e
theorem sum_sound {d₁ d : D} {v : Value} (r : RepT prog w W s.heap d₁ v) (e : sumD d₁ = some d) (ha : AOk A k) : wpAny (model prog w) A (call (.builtin "sum") [v]) (Post prog w W s d) E s := by
  refine ob e fun ds h e => ob e fun ns hn e => asList_r h r fun a us e1 l1 n1 q1 => ?_
  obtain rfl := sj e; subst e1
  have hi := intsD_are q1 hn
  obtain ⟨xs, hx⟩ := hi.allInts.items
  have hl' : s.heap.IsList a (intItems xs) := hx ▸ l1
  refine sum_intListG ha.hd hl' fun h' tk t' hk => ?_
  have e1 : ns = xs.toList.map (·.1) := by
    rw [← nums_intItems, ← hx]
    exact (show numsOf us.toArray.toList = ns from hi.numsOf).symm
  have e2 : preSum (numAt xs) xs.size = ns.sum := by
    rw [preSum_eq, List.take_of_length_le (by simp), e1]
  rw [e2]
  exact ⟨Kp.of hk _, rep_int⟩
theorem max_sound {d₁ d₂ d : D} {v u : Value} (r₁ : RepT prog w W s.heap d₁ v) (r₂ : RepT prog w W s.heap d₂ u) (e : maxD d₁ d₂ = some d) (ha : AOk A k) : wpAny (model prog w) A (call (.builtin "max") [v, u]) (Post prog w W s d) E s := by
  refine ob e fun a h e => ob e fun b h' e => asInt_r h r₁ fun t e1 => asInt_r h' r₂ fun t' e2 => ?_
  obtain rfl := sj e; subst e1 e2
  refine max_two_ints ha.hd fun h' tk hk => ?_
  split <;> exact ⟨Kp.of hk _, rep_int⟩
theorem min_sound {d₁ d₂ d : D} {v u : Value} (r₁ : RepT prog w W s.heap d₁ v) (r₂ : RepT prog w W s.heap d₂ u) (e : minD d₁ d₂ = some d) (ha : AOk A k) : wpAny (model prog w) A (call (.builtin "min") [v, u]) (Post prog w W s d) E s := by
  refine ob e fun a h e => ob e fun b h' e => asInt_r h r₁ fun t e1 => asInt_r h' r₂ fun t' e2 => ?_
  obtain rfl := sj e; subst e1 e2
  refine min_two_ints ha.hd fun h' tk hk => ?_
  split <;> exact ⟨Kp.of hk _, rep_int⟩
theorem ord_sound {d₁ d : D} {v : Value} (r : RepT prog w W s.heap d₁ v) (e : ordD d₁ = some d) : wpAny (model prog w) A (call (.builtin "ord") [v]) (Post prog w W s d) E s := by
  refine ob e fun x h e => ifo e (fun hx e => asStr_r h r fun t e1 _ hl => ?_) fun _ e => dead e
  obtain rfl := sj e; subst e1
  exact PyProof.Rows.ord_of_one hx Post.int
theorem chr_sound {d₁ d : D} {v : Value} (r : RepT prog w W s.heap d₁ v) (e : chrD d₁ = some d) : wpAny (model prog w) A (call (.builtin "chr") [v]) (Post prog w W s d) E s := by
  refine ob e fun i h e => ifo e (fun hx e => asInt_r h r fun t e1 => ?_) fun _ e => dead e
  obtain rfl := sj e; subst e1
  refine PyProof.Rows.chr_of_range hx.1 hx.2 (Post.str ?_ (by show 1 ≤ sizeLine; decide))
  rw [strOk_list]
  intro c hc
  rw [List.mem_singleton.mp hc]
  have := hx.2
  omega

theorem builtin_sound {f : Str} {ds : List D} {d : D} {vs : List Value} (r : RepsT prog w W s.heap ds vs) (e : builtinQ f ds = some d) (ha : AOk A k) :
    wpAny (model prog w) A (call (.builtin f.toString) vs) (Post prog w W s d) E s := by
  refine cps fun P k => ?_
  refine ifo e (fun hf e => ?_) fun _ e => ?_
  · refine ob e fun a h e => arg1 h r fun v e1 r => k ?_
    rw [e1, show f.toString = "len" from hf ▸ by decide +kernel]; exact len_sound r e
  refine ifo e (fun hf e => ?_) fun _ e => ?_
  · refine ob e fun a h e => arg1 h r fun v e1 r => k ?_
    rw [e1, show f.toString = "sum" from hf ▸ by decide +kernel]; exact sum_sound r e ha
  refine ifo e (fun hf e => ?_) fun _ e => ?_
  · refine ob e fun a h e => arg2 h r fun v u e1 r r' => k ?_
    rw [e1, show f.toString = "max" from hf ▸ by decide +kernel]; exact max_sound r r' e ha
  refine ifo e (fun hf e => ?_) fun _ e => ?_
  · refine ob e fun a h e => arg2 h r fun v u e1 r r' => k ?_
    rw [e1, show f.toString = "min" from hf ▸ by decide +kernel]; exact min_sound r r' e ha
  refine ifo e (fun hf e => ?_) fun _ e => ?_
  · refine ob e fun a h e => arg1 h r fun v e1 r => k ?_
    rw [e1, show f.toString = "ord" from hf ▸ by decide +kernel]; exact ord_sound r e
  refine ifo e (fun hf e => ?_) fun _ e => dead e
  refine ob e fun a h e => arg1 h r fun v e1 r => k ?_
  rw [e1, show f.toString = "chr" from hf ▸ by decide +kernel]; exact chr_sound r e

theorem str_sound {d₁ d : D} {v : Value} (r : RepT prog w W s.heap d₁ v) (e : strD d₁ = some d) : wpAny (model prog w) A (call (.type "str") [v]) (Post prog w W s d) E s := by
  refine ob e fun a h e => ifo e (fun hx e => asInt_r h r fun t e1 => ?_) fun _ e => dead e
  obtain rfl := sj e; subst e1
  have h10 : a.natAbs.log2 < 1920 := by
    by_cases h0 : a.natAbs = 0
    · rw [h0]; decide
    · have h1 : a.natAbs.log2 < 40 := (Nat.log2_lt h0).mpr (Nat.lt_of_lt_of_le hx (by decide))
      omega
  refine P.str_of_int h10 (Post.str (strOk_ofString _) ?_)
  have h2 := int_text_length_le10 (by decide : 0 < 10) hx
  show (Str.ofString (toString a)).cps.size ≤ sizeLine
  rw [Str.ofString_eq_toList]
  simp only [List.size_toArray, List.length_map, String.length_toList]
  rw [sizeLine]; omega
theorem int_sound' {d₁ d : D} {v : Value} (r : RepT prog w W s.heap d₁ v) (e : intD d₁ = some d) : wpAny (model prog w) A (call (.type "int") [v]) (Post prog w W s d) E s := by
  refine ob e fun x h e => ifo e (fun hx e => ob e fun n hn e => asStr_r h r fun t e1 _ _ => ?_) fun _ e => dead e
  obtain rfl := sj e; subst e1
  exact PySem.W.KIN.call_text hn hx Post.int
theorem type_sound {f : Str} {ds : List D} {d : D} {vs : List Value} (r : RepsT prog w W s.heap ds vs) (e : typeQ f ds = some d) :
    wpAny (model prog w) A (call (.type f.toString) vs) (Post prog w W s d) E s := by
  refine cps fun P k => ?_
  refine ifo e (fun hf e => ?_) fun _ e => ?_
  · refine ob e fun a h e => arg1 h r fun v e1 r => k ?_
    rw [e1, show f.toString = "str" from hf ▸ by decide +kernel]; exact str_sound r e
  refine ifo e (fun hf e => ?_) fun _ e => dead e
  refine ob e fun a h e => arg1 h r fun v e1 r => k ?_
  rw [e1, show f.toString = "int" from hf ▸ by decide +kernel]; exact int_sound' r e
end
end Ev
namespace Ev
open PySem PySem.Calls PyProof.Rows

section
variable [Base] {prog : Program} {w : World} {W : Addr → Prop} {A : Around} {s : Shared} {E : Value → Shared → Prop} {k : Nat}

noncomputable def strFit (x : Str) : Bool := PyData.strOk x && decide (x.length ≤ 16777216)
noncomputable def findD (x : Str) : List D → Option D
  | [a] => (asStr a).bind fun y => some (.int (Txt.find x y))
  | [a, b] => (asStr a).bind fun y => (asInt b).bind fun i => some (.int (Txt.find3 x y i))
  | _ => none
noncomputable def splitD (x y : Str) : Option D := if y.length ≠ 0 ∧ x.length + 2 ≤ 16777216 ∧ (Txt.split x y).all strFit = true ∧ (Txt.split x y).length ≤ 16777216 ∧ (Builtin.Str.partsBetween x (Builtin.Str.occurrences x y 0 x.length (x.length + 1)) y.length).length ≤ 16777216 then some (.list ((Txt.split x y).map .str)) else none
noncomputable def lowerD (x : Str) : List D → Option D
  | [] => if strFit (Txt.lower x) = true then some (.str (Txt.lower x)) else none
  | _ => none
noncomputable def joinD (x : Str) (d : D) : Option D := (asList d).bind fun ds => (strsD ds).bind fun ts => if JoinOk x ts = true ∧ PyData.strOk (Txt.join x ts) = true then some (.str (Txt.join x ts)) else none
noncomputable def getD' (kvs : List (D × D)) (p : D × D) : Option D := (asStr p.1).bind fun x => some ((dget kvs x).getD p.2)
noncomputable def strM (name x : Str) (ds : List D) : Option D :=
  if name = n_find then findD x ds
  else if name = n_split then (one1 ds).bind fun d => (asStr d).bind fun y => splitD x y
  else if name = n_lower then lowerD x ds
  else if name = n_join then (one1 ds).bind fun d => joinD x d
  else none
noncomputable def methQ (name : Str) (d : D) (ds : List D) : Option D := match d with
  | .str x => strM name x ds
  | .dict kvs => if name = n_get then (two ds).bind fun p => getD' kvs p else none
  | _ => none

theorem strFit_of {x : Str} (h : strFit x = true) : PyData.strOk x = true ∧ x.length ≤ sizeLine := by
  simp only [strFit, Bool.and_eq_true, decide_eq_true_eq] at h
  exact ⟨h.1, by rw [sizeLine]; omega⟩
theorem reps_strs : ∀ (l : List (Str × Tok)) {h : Heap}, (l.map (·.1)).all strFit = true → Reps prog w W h ((l.map (·.1)).map .str) (strValues l)
  | [], _, _ => by simp [Reps, strValues]
  | (x, t) :: l, h, e => by
    simp only [List.map_cons, List.all_cons, Bool.and_eq_true] at e
    have q := strFit_of e.1
    exact .cons (rep_str q.1 q.2) (reps_strs l e.2)

theorem split_sound {x y : Str} {t u : Tok} {Q : Value → Shared → Prop} (hy : (y.length == 0) = false)
    (hq : ∀ (l : List (Str × Tok)) k, l.map (·.1) = Txt.split x y → Q (.ref s.heap.objs.size) { s with heap := s.heap.push { cls := .type "list", data := .seq (strValues l).toArray }, toks := k })
    (hsz : x.length ≤ sizeLine) (hsz2 : (Builtin.Str.partsBetween x (Builtin.Str.occurrences x y 0 x.length (x.length + 1)) y.length).length ≤ sizeLine) :
    wpAny (model prog w) A (call (.builtin "str.split") [.str x t, .str y u]) Q E s := by
  cases h1 : (decide (x.length < y.length) || decide (Builtin.Str.strKind x < Builtin.Str.strKind y))
  · cases hf : (Builtin.Str.occurrences x y 0 x.length (x.length + 1)).isEmpty
    · refine call_meets F.slot_str_split (typeIs_str _ _ _) F.entry_str_split (F.args_str_split_2 _ _) (meets_str_split_sep x y t u h1 hy hf hsz hsz2) ?_
      show wants Q E _ { s with toks := _, heap := s.heap.push { cls := .type "list", data := .seq (strsFrom s.toks (Builtin.Str.partsBetween x (Builtin.Str.occurrences x y 0 x.length (x.length + 1)) y.length)).toArray } }
      rw [strsFrom_eq]
      exact hq (numbered s.toks _) _ ((numbered_texts _ _).trans ((if_neg (ne_true_of_eq_false h1)).trans (if_neg (ne_true_of_eq_false hf))).symm)
    · exact call_meets F.slot_str_split (typeIs_str _ _ _) F.entry_str_split (F.args_str_split_2 _ _) (meets_str_split_not_found x y t u h1 hy hf)
        (hq [(x, t)] s.toks ((if_neg (ne_true_of_eq_false h1)).trans (if_pos hf)).symm)
  · exact call_meets F.slot_str_split (typeIs_str _ _ _) F.entry_str_split (F.args_str_split_2 _ _) (meets_str_split_cannot_occur x y t u h1)
      (hq [(x, t)] s.toks (if_pos h1).symm)

/-- what a method's call makes -/
noncomputable def CallOk (prog : Program) (w : World) (W : Addr → Prop) (A : Around) (id : String) (v : Value) (d₁ : D) (ds : List D) (d : D) : Prop :=
  ∀ (s : Shared) (vs : List Value) (E : Value → Shared → Prop), RepT prog w W s.heap d₁ v → Reps prog w W s.heap ds vs → Wok W s.heap → wpAny (model prog w) A (call (.builtin id) (v :: vs)) (Post prog w W s d) E s
noncomputable def MethOk (prog : Program) (w : World) (W : Addr → Prop) (A : Around) (s : Shared) (name : Str) (v : Value) (d₁ : D) (ds : List D) (d : D) : Prop :=
  ∃ T id, PlainAttrs T ∧ Slot T name id ∧ typeOf (.builtin id) = pure (.type "method_descriptor") ∧ s.TypeIs v T ∧ (∀ a, v = .ref a → ∃ ob, s.heap.get? a = some ob ∧ ob.dict = none) ∧ CallOk prog w W A id v d₁ ds d

theorem find_sound {x : Str} {t : Tok} {d : D} : ∀ {ds : List D}, findD x ds = some d → CallOk prog w W A "str.find" (.str x t) (.str x) ds d
  | [a], e => fun s vs E _ r _ => by
    refine ob e fun y h e => ?_
    obtain ⟨u, e1, h1, _⟩ := reps1 r
    obtain rfl := sj e
    refine asStr_r h h1 fun t' e2 _ _ => ?_
    subst e1 e2
    exact SC.find Post.int
  | [a, b], e => fun s vs E _ r _ => by
    refine ob e fun y h e => ob e fun i h' e => ?_
    obtain ⟨u, u', e1, ⟨h1, _⟩, ⟨h2, _⟩⟩ := reps2 r
    obtain rfl := sj e
    refine asStr_r h h1 fun t' e2 _ _ => asInt_r h' h2 fun t'' e3 => ?_
    subst e1 e2 e3
    exact SC.find3 Post.int
  | [], e => dead e
  | _ :: _ :: _ :: _, e => dead e
theorem splitM_sound {x : Str} {t : Tok} {d : D} {ds : List D} (e : ((one1 ds).bind fun d => (asStr d).bind fun y => splitD x y) = some d) : CallOk prog w W A "str.split" (.str x t) (.str x) ds d := by
  intro s vs E r₁ r hw
  refine ob e fun a h0 e => ob e fun y h e => ifo e (fun hb e => one1_o h0 fun h0 => ?_) fun _ e => dead e
  obtain rfl := sj e
  rw [h0] at r
  obtain ⟨u, e1, h1, _⟩ := reps1 r
  refine asStr_r h h1 fun t' e2 _ _ => ?_
  subst e1 e2
  have l1 : x.length ≤ sizeLine := r₁.2.2
  obtain ⟨b1, b2, b3, b4, b5⟩ := hb
  refine split_sound (by simpa using b1) (fun l k ht => ?_) l1 (by rw [sizeLine]; omega)
  have hlen : l.length = (Txt.split x y).length := by rw [← ht]; simp
  rw [← ht] at b3 ⊢
  obtain ⟨k1, k2⟩ := list_new (s := s) (prog := prog) (w := w) (W := W) (reps_strs l (h := s.heap) b3) hw (by simp only [strValues, List.length_map, hlen]; rw [sizeLine]; omega)
  exact ⟨k1.trans (Kp.tok _ _), k2⟩
theorem lower_sound {x : Str} {t : Tok} {d : D} : ∀ {ds : List D}, lowerD x ds = some d → CallOk prog w W A "str.lower" (.str x t) (.str x) ds d
  | [], e => fun s vs E _ r _ => by
    refine ifo e (fun hb e => ?_) fun _ e => dead e
    obtain rfl : vs = [] := r
    obtain rfl := sj e
    have q := strFit_of hb
    refine SC.lower ?_ (Post.str q.1 q.2)
    show decide ((Txt.lower x).length > sizeLine) = false
    rw [decide_eq_false_iff_not]; omega
  | _ :: _, e => dead e
theorem join_sound {x : Str} {t : Tok} {d : D} {ds : List D} (e : ((one1 ds).bind fun d => joinD x d) = some d) : CallOk prog w W A "str.join" (.str x t) (.str x) ds d := by
  intro s vs E _ r hw
  refine ob e fun a h0 e => ob e fun ls h e => ob e fun ts e1 e => ifo e (fun hb e => one1_o h0 fun h0 => ?_) fun _ e => dead e
  obtain rfl := sj e
  rw [h0] at r
  obtain ⟨u, e2, h1, _⟩ := reps1 r
  refine asList_r h h1 fun a us e3 l2 n2 q2 => ?_
  obtain ⟨l, e5, e3', e4⟩ := strsD_are q2 e1
  subst e2 e3 e5
  exact SC.join l2 e3' hb.1 fun t' k => Post.str hb.2 (joinOk_length hb.1)
theorem get_sound {kvs : List (D × D)} {v : Value} {d : D} {ds : List D} (e : ((two ds).bind fun p => getD' kvs p) = some d) : CallOk prog w W A "dict.get" v (.dict kvs) ds d := by
  intro s vs E r₁ r hw
  refine ob e fun p h0 e => ob e fun x h e => two_o h0 fun h0 => ?_
  obtain rfl := sj e
  rw [h0] at r
  obtain ⟨u, u', e1, ⟨h1, _⟩, h2⟩ := reps2 r
  refine asStr_r h h1 fun t' e2 _ _ => asDict_r r₁ fun a f e3 hs hm q => ?_
  subst e1 e2 e3
  refine call_meetsIn F.slot_dict_get hm.typeIs F.entry_dict_get (F.args_dict_get_3 _ _ _) (meets_dict_get_default (PySem.strKind prog w) a (strKind_is prog w x t') hs u') ⟨f, hm, ?_⟩
  have hx := q x
  cases hg : dget kvs x with
  | none =>
    rw [hg] at hx
    rw [hx]
    exact ⟨Kp.tok _ _, h2⟩
  | some d =>
    rw [hg] at hx
    obtain ⟨v, hv, fl⟩ := hx
    rw [hv]
    exact ⟨Kp.tok _ _, fl.rep⟩

theorem n_find_eq : n_find = ("find" : Str) := by decide +kernel
theorem n_split_eq : n_split = ("split" : Str) := by decide +kernel
theorem n_lower_eq : n_lower = ("lower" : Str) := by decide +kernel
theorem n_join_eq : n_join = ("join" : Str) := by decide +kernel
theorem n_get_eq : n_get = ("get" : Str) := by decide +kernel
theorem meth_sound {name : Str} {d₁ d : D} {ds : List D} {v : Value} (r : RepT prog w W s.heap d₁ v) (e : methQ name d₁ ds = some d) : MethOk prog w W A s name v d₁ ds d := by
  cases d₁ with
  | str x =>
    refine asStr_r (d := .str x) rfl r fun t e1 _ _ => ?_
    subst e1
    have nr : ∀ a, Value.str x t = .ref a → ∃ ob, s.heap.get? a = some ob ∧ ob.dict = none := fun _ e => nomatch e
    refine cps fun P k => ?_
    refine ifo e (fun hf e => k ?_) fun _ e => ?_
    · rw [hf, n_find_eq]; exact ⟨_, _, F.plainAttrs_str, F.slot_str_find, F.type_str_find, typeIs_str _ _ _, nr, find_sound e⟩
    refine ifo e (fun hf e => k ?_) fun _ e => ?_
    · rw [hf, n_split_eq]; exact ⟨_, _, F.plainAttrs_str, F.slot_str_split, F.type_str_split, typeIs_str _ _ _, nr, splitM_sound e⟩
    refine ifo e (fun hf e => k ?_) fun _ e => ?_
    · rw [hf, n_lower_eq]; exact ⟨_, _, F.plainAttrs_str, F.slot_str_lower, F.type_str_lower, typeIs_str _ _ _, nr, lower_sound e⟩
    refine ifo e (fun hf e => k ?_) fun _ e => dead e
    rw [hf, n_join_eq]; exact ⟨_, _, F.plainAttrs_str, F.slot_str_join, F.type_str_join, typeIs_str _ _ _, nr, join_sound e⟩
  | dict kvs =>
    refine ifo e (fun hf e => asDict_r r fun a f e1 hs hm q => ?_) fun _ e => dead e
    subst e1
    rw [hf, n_get_eq]; exact ⟨_, _, F.plainAttrs_dict, F.slot_dict_get, F.type_dict_get, hm.typeIs, hm.noDict, get_sound e⟩
  | _ => exact dead e
end
end Ev
namespace Ev
open PySem PySem.Calls PyProof.Rows

/-- a small tongue of its own: names are numbers, no places -/
inductive PE where
  | lit (d : D)
  | var (x : Nat)
  | own (x : Nat)
  | bin (op : Operator) (a b : PE)
  | un (op : UnaryOp) (a : PE)
  | no (a : PE)
  | cmp (op : CmpOp) (a b : PE)
  | all (es : List PE)
  | any (es : List PE)
  | ite (t a b : PE)
  | item (a i : PE)
  | slice (a : PE) (lo hi st : Option PE)
  | list (es : List PE)
  | tuple (es : List PE)
  | comp (elt : PE) (gens : List (Nat × PE × List PE))
  | meth (name : Str) (o : PE) (args : List PE)
  | bi (f : Str) (args : List PE)
  | ty (f : Str) (args : List PE)
  | fn (f : Nat) (args : List PE)
  | isInst (b : Bool) (e : PE)
  | listR (args : List PE)
  | range (args : List PE)

noncomputable abbrev Rho := List (Nat × D)

noncomputable def mapO {α β : Type} (f : α → Option β) : List α → Option (List β)
  | [] => some []
  | a :: r => (f a).bind fun b => (mapO f r).bind fun bs => some (b :: bs)

noncomputable def allO (f : PE → Option Bool) : List PE → Option Bool
  | [] => some true
  | a :: r => (f a).bind fun b => bif b then allO f r else some false
noncomputable def anyO (f : PE → Option Bool) : List PE → Option Bool
  | [] => some false
  | a :: r => (f a).bind fun b => bif b then some true else anyO f r
/-- the values of and, or -/
noncomputable def allV (f : PE → Option D) : List PE → Option D
  | [] => none
  | a :: r => (f a).bind fun d => match r with
    | [] => some d
    | _ :: _ => (truthD d).bind fun b => bif b then allV f r else some d
noncomputable def anyV (f : PE → Option D) : List PE → Option D
  | [] => none
  | a :: r => (f a).bind fun d => match r with
    | [] => some d
    | _ :: _ => (truthD d).bind fun b => bif b then some d else anyV f r

noncomputable def asPart : D → Option (Option Int)
  | .int i => some (some i)
  | .none => some none
  | _ => none
noncomputable def partD (f : PE → Option D) : Option PE → Option (Option Int)
  | none => some none
  | some e => (f e).bind asPart

noncomputable def chars (x : Str) : List D := x.cps.toList.map fun c => .str ⟨#[c]⟩
noncomputable def rangeL (a b c : Int) : List D := (List.range (Builtin.Range.rangeSize a b c).toNat).map fun (i : Nat) => .int (a + (i : Int) * c)
noncomputable def rangeOk (a b c : Int) : Bool := Builtin.Range.small a b c && decide (0 < c) && decide (c < 1073741824) && decide ((Builtin.Range.rangeSize a b c).toNat ≤ 16777216)
noncomputable def rangeI (a b c : Int) : Option (List D) := gd (rangeOk a b c) (some (rangeL a b c))
noncomputable def rangeD : List D → Option (List D)
  | [b] => (asInt b).bind fun b => rangeI 0 b 1
  | [a, b] => (asInt a).bind fun a => (asInt b).bind fun b => rangeI a b 1
  | [a, b, c] => (asInt a).bind fun a => (asInt b).bind fun b => (asInt c).bind fun c => rangeI a b c
  | _ => none
noncomputable def itemsD : D → Option (List D)
  | .list ds => some ds
  | .str x => some (chars x)
  | _ => none

noncomputable def condO (c : Option Bool) (t : Option (List D)) : Option (List D) := c.bind fun b => bif b then t else some []

/-- the turns of a comprehension -/
noncomputable def genO (ev : Rho → PE → Option D) (tst : Rho → PE → Option Bool) (it : Rho → PE → Option (List D)) (elt : PE) : List (Nat × PE × List PE) → Rho → Option (List D)
  | [], ρ => (ev ρ elt).bind fun d => some [d]
  | g :: rest, ρ => gd (ρ.lookup g.1).isNone ((it ρ g.2.1).bind fun ds => (mapO (fun d => condO (allO (tst ((g.1, d) :: ρ)) g.2.2) (genO ev tst it elt rest ((g.1, d) :: ρ))) ds).bind fun parts => some parts.flatten)

section
variable (F : Nat → List D → Option D)
mutual
noncomputable def evE : Nat → Rho → PE → Option D
  | 0, _, _ => none
  | n + 1, ρ, e => match e with
    | .lit d => some d
    | .var x => ρ.lookup x
    | .own x => ρ.lookup x
    | .bin op a b => (evE n ρ a).bind fun u => (evE n ρ b).bind fun v => binD op u v
    | .un op a => (evE n ρ a).bind fun u => unD op u
    | .no a => (evE n ρ a).bind fun u => (truthD u).bind fun b => some (.bool (!b))
    | .cmp op a b => (evE n ρ a).bind fun u => (evE n ρ b).bind fun v => (cmpD op u v).bind fun b => some (.bool b)
    | .all es => allV (evE n ρ) es
    | .any es => anyV (evE n ρ) es
    | .ite t a b => (evT n ρ t).bind fun c => bif c then evE n ρ a else evE n ρ b
    | .item a i => (evE n ρ a).bind fun u => (evE n ρ i).bind fun v => itemD u v
    | .slice a lo hi st => (evE n ρ a).bind fun u => (partD (evE n ρ) lo).bind fun l => (partD (evE n ρ) hi).bind fun h => (partD (evE n ρ) st).bind fun k => sliceD u l h k
    | .list es => (mapO (evE n ρ) es).bind fun ds => gd (decide (ds.length ≤ 1000)) (some (.list ds))
    | .tuple es => (mapO (evE n ρ) es).bind fun ds => gd (decide (ds.length ≤ 1000)) (some (.tuple ds))
    | .comp elt gens => gd (!gens.any (fun g => (ρ.lookup g.1).isSome)) ((genO (evE n) (evT n) (evI n) elt gens ρ).bind fun ds => gd (decide (ds.length ≤ 16777215)) (some (.list ds)))
    | .meth name o args => (evE n ρ o).bind fun u => (mapO (evE n ρ) args).bind fun ds => methQ name u ds
    | .bi f args => (mapO (evE n ρ) args).bind fun ds => builtinQ f ds
    | .ty f args => (mapO (evE n ρ) args).bind fun ds => typeQ f ds
    | .fn f args => (mapO (evE n ρ) args).bind fun ds => F f ds
    | .isInst b e => (evE n ρ e).bind fun u => (asInt u).bind fun _ => some (.bool (!b))
    | .listR args => (mapO (evE n ρ) args).bind fun ds => (rangeD ds).bind fun ls => some (.list ls)
    | .range _ => none
noncomputable def evT : Nat → Rho → PE → Option Bool
  | 0, _, _ => none
  | n + 1, ρ, e => match e with
    | .no a => (evT n ρ a).bind fun b => some (!b)
    | .all es => allO (evT n ρ) es
    | .any es => anyO (evT n ρ) es
    | .cmp op a b => (evE n ρ a).bind fun u => (evE n ρ b).bind fun v => cmpD op u v
    | .ite _ _ _ => none
    | e => (evE n ρ e).bind truthD
noncomputable def evI : Nat → Rho → PE → Option (List D)
  | 0, _, _ => none
  | n + 1, ρ, e => match e with
    | .range args => (mapO (evE n ρ) args).bind rangeD
    | e => (evE n ρ e).bind itemsD
end
end

noncomputable def idx : List Str → Str → Option Nat
  | [], _ => none
  | y :: r, x => if y = x then some 0 else (idx r x).map (· + 1)
theorem idx_inj : ∀ {l : List Str} {x y : Str} {i : Nat}, idx l x = some i → idx l y = some i → x = y
  | [], _, _, _, h, _ => by simp [idx] at h
  | z :: l, x, y, i, h, h' => by
    simp only [idx] at h h'
    split at h <;> split at h'
    · rename_i a b; exact a.symm.trans b
    · cases h; simp at h'
    · cases h'; simp at h
    · simp only [Option.map_eq_some_iff] at h h'
      obtain ⟨j, h1, rfl⟩ := h
      obtain ⟨j', h2, e⟩ := h'
      have : j' = j := by omega
      subst this
      exact idx_inj h1 h2

noncomputable def biNames : List Str := ["len", "sum", "max", "min", "ord", "chr"]
noncomputable def tyNames : List Str := ["str", "int"]

/-- what the look at a text knows: the names' numbers, the owned ones, the text's own functions -/
structure Cx where
  names : List Str
  O : List Nat
  pl : List Nat
  gl : List Nat
  exc : Bool
  fns : List Str

noncomputable def isCell : Option NameKind → Bool
  | some .cell => true
  | some .free => true
  | _ => false
-- looks at an expression's form
noncomputable def plainO (e : Expr) : Bool := match e with
  | .Call .. => false
  | .Starred .. => false
  | _ => true
noncomputable def nameO : Expr → Option Str
  | .Name x _ => some x
  | _ => none
theorem nameO_o {P : Prop} {e : Expr} {x : Str} (h : nameO e = some x) (k : ∀ px, e = .Name x px → P) : P := by
  cases e with
  | Name y px => exact k px (by rw [sj h])
  | _ => exact dead h
/-- is it one of the targets' numbers -/
noncomputable def tgtIs (n : Str) (c : Comprehension) : Bool := nameO c.target == some n
noncomputable def scopeOk (C : Cx) (outer sc : Scope) (gens : List Comprehension) : Bool :=
  sc.kind == .function && (idx C.names ".0").isNone && sc.names.all fun (n, k) =>
    ((k == .local && sc.names.lookup n == some .local && (n == (".0" : Str) || gens.any (tgtIs n))) ||
    (k == .free && sc.names.lookup n == some .free && isCell (outer.names.lookup n) && (match idx C.names n with | some i => !C.O.contains i | none => true)) ||
    (k == .globalImplicit && sc.names.lookup n == some .globalImplicit))

noncomputable def sliceO : Expr → Option (Option Expr × Option Expr × Option Expr)
  | .Slice lo hi st _ => some (lo, hi, st)
  | _ => none
theorem sliceO_o {P : Prop} {e : Expr} {x : Option Expr × Option Expr × Option Expr} (h : sliceO e = some x) (k : ∀ px, e = .Slice x.1 x.2.1 x.2.2 px → P) : P := by
  cases e with
  | Slice _ _ _ px => exact k px (by rw [← sj h])
  | _ => exact dead h
noncomputable def notSlice (e : Expr) : Bool := (sliceO e).isNone
noncomputable def nameCall (f : Expr) (args : List Expr) : List Keyword → Option (Str × List Expr)
  | [] => (nameO f).bind fun f => some (f, args)
  | _ => none
/-- a call by a name, without keywords -/
noncomputable def callO : Expr → Option (Str × List Expr)
  | .Call f args kws _ => nameCall f args kws
  | _ => none
theorem callO_o {P : Prop} {e : Expr} {x : Str × List Expr} (h : callO e = some x) (k : ∀ np pos, e = .Call (.Name x.1 np) x.2 [] pos → P) : P := by
  cases e with
  | Call f args kws pos =>
    cases kws with
    | nil => exact ob h fun y h1 h2 => nameO_o h1 fun px e => k px pos (by rw [e, ← sj h2])
    | cons _ _ => exact dead h
  | _ => exact dead h

section
variable (C : Cx)
noncomputable def kName (x : Str) : NameKind → Option Nat
  | .local => idx C.names x
  | .cell => idx C.names x
  | .free => idx C.names x
  | .globalImplicit => (idx C.names x).bind fun i => gd (C.gl.contains i && !C.O.contains i) (some i)
  | _ => none
noncomputable def cName (sc : Scope) (x : Str) : Option Nat := gd (!(x == ("__debug__" : Str)) && !(x == ("__classdict__" : Str))) ((sc.names.lookup x).bind (kName C x))
noncomputable def cOpt (f : Expr → Option PE) : Option Expr → Option (Option PE)
  | none => some none
  | some e => (f e).bind fun p => some (some p)
noncomputable def litOf : Const → Option D
  | .int i => some (.int i)
  | .str x => gd (strFit x) (some (.str x))
  | .bool b => some (.bool b)
  | .none => some .none
  | _ => none
noncomputable def isGlobalName (sc : Scope) (f : Str) : Bool := sc.names.lookup f == some .globalImplicit && !(f == ("__debug__" : Str))

noncomputable def isRangeP : PE → Bool
  | .range _ => true
  | _ => false
noncomputable def noR (o : Option PE) : Option PE := o.bind fun p => gd (!isRangeP p) (some p)
noncomputable def hotP : PE → Bool
  | .no _ => true
  | .all _ => true
  | .any _ => true
  | .cmp .. => true
  | .ite .. => true
  | _ => false
noncomputable def coldR (o : Option PE) : Option PE := o.bind fun p => gd (!hotP p) (some p)
noncomputable def rangeCall (sc : Scope) (e : Expr) : Option (List Expr) := (callO e).bind fun q => gd (q.1 == ("range" : Str) && isGlobalName sc q.1 && decide (q.2.length < 20)) (some q.2)
noncomputable def cIsI (fE : Expr → Option PE) (sc : Scope) (q : Expr × Expr) : Option PE := (nameO q.2).bind fun t => gd (isGlobalName sc t) ((fE q.1).bind fun p =>
  if t = "bool" then some (.isInst true p) else if t = "int" then some (.isInst false p) else none)
noncomputable def cCallN (fE fP : Expr → Option PE) (sc : Scope) (f : Str) (args : List Expr) : Option PE :=
  if f = "isinstance" then (two args).bind fun q => cIsI fE sc q
  else if f = "list" then (one1 args).bind fun e => (rangeCall sc e).bind fun as => (mapO fE as).bind fun ps => some (.listR ps)
  else if biNames.contains f = true then (mapO fP args).bind fun ps => some (.bi f ps)
  else if tyNames.contains f = true then (mapO fP args).bind fun ps => some (.ty f ps)
  else gd (C.fns.contains f) ((mapO fE args).bind fun qs => (idx C.names f).bind fun i => some (.fn i qs))
noncomputable def cCall (fE fP : Expr → Option PE) (sc : Scope) (f : Expr) (args : List Expr) (pos : Pos) : Option PE := match f with
  | .Attribute o name apos => gd (plainO o && apos.endLine == pos.line && decide (args.length < 20)) ((fE o).bind fun p => (mapO fE args).bind fun ps => some (.meth name p ps))
  | .Name f _ => gd (isGlobalName sc f && decide (args.length < 20)) (cCallN C fE fP sc f args)
  | _ => none
noncomputable def cSub (fE : Expr → Option PE) (a : PE) (i : Expr) : Option PE := match sliceO i with
  | none => (fE i).bind fun b => some (.item a b)
  | some q => (cOpt fE q.1).bind fun l => (cOpt fE q.2.1).bind fun h => (cOpt fE q.2.2).bind fun k => some (.slice a l h k)
noncomputable def cBool (op : BoolOp) (ps : List PE) : PE := match op with
  | .And => .all ps
  | .Or => .any ps
noncomputable def cUn (op : UnaryOp) (p : PE) : PE := match op with
  | .Not => .no p
  | op => .un op p
/-- what is tested as its value is -/
noncomputable def cCold (fE fP : Expr → Option PE) (sc : Scope) (e : Expr) : Option PE := match e with
  | .Constant c _ _ => (litOf c).bind fun d => some (.lit d)
  | .Name x _ => (cName C sc x).bind fun i => gd (!C.O.contains i) (some (.var i))
  | .BinOp l op r _ => (fP l).bind fun a => (fP r).bind fun b => some (.bin op a b)
  | .Subscript v i _ => (fP v).bind fun a => cSub fE a i
  | .List es _ => (mapO fE es).bind fun ps => some (.list ps)
  | .Tuple es _ _ => (mapO fE es).bind fun ps => some (.tuple ps)
  | .Call f args kws pos => match kws with
    | [] => cCall C fE fP sc f args pos
    | _ :: _ => none
  | _ => none
/-- not a set -/
noncomputable def iterOk : Expr → Bool
  | .Set .. => false
  | _ => true

mutual
/-- cE: an expression; at its top no owned name -/
noncomputable def cE : Nat → Scope → Expr → Option PE
  | 0, _, _ => none
  | n + 1, sc, e => match e with
    | .UnaryOp op x _ => (cE n sc x).bind fun a => some (cUn op a)
    | .Compare l ops rs _ => (one1 ops).bind fun op => (one1 rs).bind fun r => gd (!behindInMarks op r) ((cP n sc l).bind fun a => (cP n sc r).bind fun b => some (.cmp op a b))
    | .BoolOp op es _ => (mapO (cE n sc) es).bind fun ps => some (cBool op ps)
    | .IfExp t a b _ => (cE n sc t).bind fun p => (cE n sc a).bind fun q => (cE n sc b).bind fun r => some (.ite p q r)
    | .ListComp elt gens sc' _ => gd (!gens.isEmpty && scopeOk C sc sc' gens) ((cG n sc sc' gens).bind fun gs => (cE n sc' elt).bind fun p => some (.comp p gs))
    | e => coldR (cCold C (cE n sc) (cP n sc) sc e)
/-- cP: an operand, maybe an owned name -/
noncomputable def cP : Nat → Scope → Expr → Option PE
  | 0, _, _ => none
  | n + 1, sc, e => match nameO e with
    | some x => (cName C sc x).bind fun i => some (.own i)
    | none => cE n sc e
/-- cI: what is gone through -/
noncomputable def cI : Nat → Scope → Expr → Option PE
  | 0, _, _ => none
  | n + 1, sc, e => match rangeCall sc e with
    | some args => (mapO (cE n sc) args).bind fun ps => some (.range ps)
    | none => gd (iterOk e) (noR (cP n sc e))
noncomputable def cG : Nat → Scope → Scope → List Comprehension → Option (List (Nat × PE × List PE))
  | 0, _, _, _ => none
  | n + 1, sc, sc', gens => match gens with
    | [] => some []
    | g :: rest => (nameO g.target).bind fun x => gd (g.is_async == 0 && sc'.names.lookup x == some .local) ((idx C.names x).bind fun i => gd (!(C.O.contains i || C.gl.contains i)) ((cI n sc g.iter).bind fun p =>
      (mapO (cE n sc') g.ifs).bind fun ps => (cG n sc' sc' rest).bind fun gs => some ((i, p, ps) :: gs)))
end
end
end Ev
namespace Ev
open PySem PySem.Calls PyProof.Rows

inductive All2 {α β : Type} (R : α → β → Prop) : List α → List β → Prop
  | nil : All2 R [] []
  | cons {a b as bs} : R a b → All2 R as bs → All2 R (a :: as) (b :: bs)
theorem All2.imp {α β : Type} {R S : α → β → Prop} (h : ∀ a b, R a b → S a b) {as : List α} {bs : List β} (x : All2 R as bs) : All2 S as bs := by
  induction x with
  | nil => exact .nil
  | cons a _ ih => exact .cons (h _ _ a) ih

section
variable [Base] (prog : Program) (w : World)

noncomputable def RepO (C : Cx) (W : Addr → Prop) (h : Heap) (i : Nat) (d : D) (v : Value) : Prop := RepT prog w W h d v ∧ (C.O.contains i = false → offW W v)

structure EnvS (C : Cx) (mg : Str → Option Value) (W : Addr → Prop) (env : Env) (ρ : Rho) (h : Heap) : Prop where
  kf : env.scope.kind = .function
  gl : env.globals = mainGlobals
  bl : env.builtins = builtinsNs
  ns : ∃ m, h.Ns env.locals m ∧ ∀ x i d, idx C.names x = some i → env.kindOf x = some .local → ρ.lookup i = some d → ∃ v, m x = some v ∧ RepO prog w C W h i d v
  cl : ∀ x i d, idx C.names x = some i → isCell (env.kindOf x) = true → ρ.lookup i = some d → ∃ c v, env.cells.lookup x = some c ∧ h.IsCell c (some v) ∧ RepO prog w C W h i d v
  cov : ∀ x, isCell (env.kindOf x) = true → ∃ c, env.cells.lookup x = some c ∧ ∃ o, h.get? c = some o
  gv : ∀ x i d, idx C.names x = some i → C.gl.contains i = true → ρ.lookup i = some d → ∃ v, mg x = some v ∧ Rep prog w W h d v

noncomputable def Matches (sc : Scope) (env : Env) : Prop := ∀ x, env.kindOf x = sc.names.lookup x ∨ (sc.names.lookup x = some .free ∧ env.kindOf x = some .cell)

noncomputable def FnSpec (B : Heap) (kF : Nat) (exc : Bool) (a : Addr) (ds : List D) (d : D) : Prop :=
  ∀ (W : Addr → Prop) (A : Around) (s : Shared) (vs : List Value) (E : Value → Shared → Prop), AOk A kF → (exc = true → FrOk A s.heap) → KE B s.heap → Wok W s.heap → (∀ a, W a → B.get? a = none) → Reps prog w W s.heap ds vs →
    wpAny (model prog w) A (call (.ref a) vs) (Post prog w W s d) E s

noncomputable def NoOwn (C : Cx) (env : Env) : Prop := ∀ x i, idx C.names x = some i → (env.kindOf x = some .local ∨ isCell (env.kindOf x) = true) → C.O.contains i = false

structure Gl (C : Cx) (F : Nat → List D → Option D) (B : Heap) (mg : Str → Option Value) (kF : Nat) : Prop where
  g : B.Ns mainGlobals mg
  eb : B = Base.heap
  nl : B.NoLimit
  b : ∃ mb, B.Ns builtinsNs mb ∧ ∀ x : Str, x ≠ ("__name__" : Str) → mb x = bootBuiltins x
  no : ∀ f : Str, biNames.contains f = true ∨ tyNames.contains f = true ∨ f = "isinstance" ∨ f = "list" ∨ f = "range" ∨ f = "bool" → mg f = none
  fn : ∀ f i ds d, C.fns.contains f = true → idx C.names f = some i → F i ds = some d → ∃ a o fd, mg f = some (.ref a) ∧ B.get? a = some o ∧ o.data = .func fd ∧ FnSpec prog w B kF C.exc a ds d

structure Hy (C : Cx) (B : Heap) (mg : Str → Option Value) (kF : Nat) (W : Addr → Prop) (env : Env) (sc : Scope) (ρ : Rho) (A : Around) (s : Shared) : Prop where
  ke : EnvS prog w C mg W env ρ s.heap
  mt : Matches sc env
  ok : AOk A kF
  wk : Wok W s.heap
  wb : ∀ a, W a → B.get? a = none
  bk : KE B s.heap
  eb : B = Base.heap
  fr : C.exc = true → FrOk A s.heap

noncomputable def PostT (W : Addr → Prop) (s : Shared) (d : D) (v : Value) (s' : Shared) : Prop := Kp s s' ∧ RepT prog w W s'.heap d v
end

section
variable [Base] {prog : Program} {w : World} {C : Cx} {F : Nat → List D → Option D} {B : Heap} {mg : Str → Option Value} {kF : Nat} {W : Addr → Prop} {env : Env} {sc : Scope} {ρ : Rho} {A : Around} {s : Shared} {E : Value → Shared → Prop}

theorem RepO.keep {h h' : Heap} {i : Nat} {d : D} {v : Value} (k : KH h h') (r : RepO prog w C W h i d v) : RepO prog w C W h' i d v := ⟨r.1.keep k, r.2⟩
theorem EnvS.keep {h h' : Heap} (k : KH h h') (x : EnvS prog w C mg W env ρ h) : EnvS prog w C mg W env ρ h' where
  kf := x.kf
  gl := x.gl
  bl := x.bl
  ns := let ⟨m, a, b⟩ := x.ns; ⟨m, Ns.kp a fun o e => k _ _ e, fun y i d e1 e2 e3 => let ⟨v, q1, q2⟩ := b y i d e1 e2 e3; ⟨v, q1, q2.keep k⟩⟩
  cl := fun y i d e1 e2 e3 => let ⟨c, v, q1, q2, q3⟩ := x.cl y i d e1 e2 e3; ⟨c, v, q1, IsCell.kp q2 fun o e => k _ _ e, q3.keep k⟩
  cov := fun y e => let ⟨c, a, _, b⟩ := x.cov y e; ⟨c, a, (k _ _ b).there⟩
  gv := fun y i d e1 e2 e3 => let ⟨v, q1, q2⟩ := x.gv y i d e1 e2 e3; ⟨v, q1, q2.keep k⟩
theorem Hy.kp {s' : Shared} (x : Hy prog w C B mg kF W env sc ρ A s) (k : Kp s s') : Hy prog w C B mg kF W env sc ρ A s' :=
  ⟨x.ke.keep k.keep, x.mt, x.ok, x.wk.mono k.keep, x.wb, x.bk.on x.eb k.keep, x.eb, fun e => (x.fr e).keep k.keep⟩

theorem Post.trans {s s₁ : Shared} {d : D} {v : Value} {s' : Shared} (k : Kp s s₁) (p : Post prog w W s₁ d v s') : Post prog w W s d v s' := ⟨k.trans p.1, p.2⟩
theorem post_mono {s s₁ : Shared} {d : D} {t : Sem Value} (k : Kp s s₁) (h : wpAny (model prog w) A t (Post prog w W s₁ d) E s₁) : wpAny (model prog w) A t (Post prog w W s d) E s₁ :=
  wpAny_mono h (fun _ _ p => p.trans k) fun _ _ e => e

-- names
theorem name_gl (G : Gl prog w C F B mg kF) (hy : Hy prog w C B mg kF W env sc ρ A s) {x : Str} {v : Value} {Q : Value → Shared → Prop} {pos : Pos} (hk : env.kindOf x = some .globalImplicit) (hv : mg x = some v) (hq : Q v s)
    (hd : (x == ("__debug__" : Str)) = false) : wpAny (model prog w) A (eval (.Name x pos) env) Q E s :=
  Name_function_global hy.ke.kf hk (loadGlobal_global (hy.ke.gl ▸ G.g.keeps hy.bk) hv hq) hd
theorem name_bi (G : Gl prog w C F B mg kF) (hy : Hy prog w C B mg kF W env sc ρ A s) {x : Str} {v : Value} {Q : Value → Shared → Prop} {pos : Pos} (hk : env.kindOf x = some .globalImplicit) (hn : mg x = none) (hv : bootBuiltins x = some v)
    (hx : x ≠ ("__name__" : Str)) (hq : Q v s) (hd : (x == ("__debug__" : Str)) = false) : wpAny (model prog w) A (eval (.Name x pos) env) Q E s := by
  obtain ⟨mb, h1, h2⟩ := G.b
  exact Name_function_global hy.ke.kf hk (loadGlobal_builtin (hy.ke.gl ▸ G.g.keeps hy.bk) hn (hy.ke.bl ▸ h1.keeps hy.bk) ((h2 x hx).trans hv) hq) hd

theorem cName_some {x : Str} {i : Nat} (h : cName C sc x = some i) : (x == ("__debug__" : Str)) = false ∧ (x == ("__classdict__" : Str)) = false ∧ idx C.names x = some i ∧
    (sc.names.lookup x = some .local ∨ sc.names.lookup x = some .cell ∨ sc.names.lookup x = some .free ∨ (sc.names.lookup x = some .globalImplicit ∧ C.gl.contains i = true ∧ C.O.contains i = false)) := by
  refine gdo h fun hn h => and_o hn fun h1 h2 => ⟨not_o h1, not_o h2, ob h fun k hk h => ?_⟩
  rw [hk]
  cases k with
  | «local» => exact ⟨h, .inl rfl⟩
  | cell => exact ⟨h, .inr (.inl rfl)⟩
  | free => exact ⟨h, .inr (.inr (.inl rfl))⟩
  | globalImplicit => exact ob h fun j hj h => gdo h fun hg h => and_o hg fun h3 h4 => by obtain rfl := sj h; exact ⟨hj, .inr (.inr (.inr ⟨rfl, h3, not_o h4⟩))⟩
  | _ => exact dead h

theorem name_sound (G : Gl prog w C F B mg kF) (hy : Hy prog w C B mg kF W env sc ρ A s) {x : Str} {i : Nat} {d : D} {pos : Pos} (hc : cName C sc x = some i) (hl : ρ.lookup i = some d) :
    wpAny (model prog w) A (eval (.Name x pos) env) (fun v s' => s' = s ∧ RepO prog w C W s.heap i d v) E s := by
  obtain ⟨h1, h2, h3, h4⟩ := cName_some hc
  have hm := hy.mt x
  refine cps fun P k => ?_
  have loc : env.kindOf x = some .local → P := fun hk => by
    obtain ⟨m, a, b⟩ := hy.ke.ns
    obtain ⟨v, q1, q2⟩ := b x i d h3 hk hl
    exact k (wpAny_Name (wpAny_loadName_local hy.ke.kf hk a q1 ⟨rfl, q2⟩) h1)
  have cel : env.kindOf x = some .cell → P := fun hk => by
    obtain ⟨c, v, q1, q2, q3⟩ := hy.ke.cl x i d h3 (by rw [hk]; rfl) hl
    exact k (wpAny_Name (wpAny_loadName_cell hy.ke.kf hk q1 q2 ⟨rfl, q3⟩) h1)
  have fre : env.kindOf x = some .free → P := fun hk => by
    obtain ⟨c, v, q1, q2, q3⟩ := hy.ke.cl x i d h3 (by rw [hk]; rfl) hl
    exact k (wpAny_Name (wpAny_loadName_free hy.ke.kf hk q1 q2 ⟨rfl, q3⟩ h2) h1)
  rcases hm with hm | ⟨_, hm⟩
  · rcases h4 with h4 | h4 | h4 | ⟨h4, hg, _⟩
    · exact loc (hm.trans h4)
    · exact cel (hm.trans h4)
    · exact fre (hm.trans h4)
    · obtain ⟨v, q1, q2⟩ := hy.ke.gv x i d h3 hg hl
      exact k (name_gl G hy (hm.trans h4) q1 ⟨rfl, q2.1, fun _ => q2.2⟩ h1)
  · exact cel hm

theorem noOwn_name (hm : Matches sc env) (hn : NoOwn C env) {x : Str} {i : Nat} (hc : cName C sc x = some i) : C.O.contains i = false := by
  obtain ⟨h1, h2, h3, h4⟩ := cName_some hc
  have hm := hm x
  rcases hm with hm | ⟨_, hm⟩
  · rcases h4 with h4 | h4 | h4 | ⟨h4, hg, ho⟩ <;> rw [h4] at hm
    · exact hn x i h3 (.inl hm)
    · exact hn x i h3 (.inr (by rw [hm]; rfl))
    · exact hn x i h3 (.inr (by rw [hm]; rfl))
    · exact ho
  · exact hn x i h3 (.inr (by rw [hm]; rfl))

-- the list of arguments
theorem mapO_o {α β : Type} {P : Prop} {f : α → Option β} {a : α} {r : List α} {bs : List β} (h : mapO f (a :: r) = some bs) (k : ∀ b cs, f a = some b → mapO f r = some cs → bs = b :: cs → P) : P :=
  ob h fun b hb h => ob h fun cs hc h => k b cs hb hc (sj h).symm
theorem mapO_cons {α β : Type} {f : α → Option β} {a : α} {r : List α} {bs : List β} (h : mapO f (a :: r) = some bs) : ∃ b cs, f a = some b ∧ mapO f r = some cs ∧ bs = b :: cs :=
  mapO_o h fun b cs h1 h2 h3 => ⟨b, cs, h1, h2, h3⟩
theorem mapO_nil {α β : Type} {f : α → Option β} {bs : List β} (h : mapO f [] = some bs) : bs = [] := (sj h).symm
theorem mapO_length {α β : Type} {f : α → Option β} : ∀ {as : List α} {bs : List β}, mapO f as = some bs → bs.length = as.length
  | [], bs, h => by rw [mapO_nil h]; rfl
  | a :: r, bs, h => by
    obtain ⟨b, cs, _, h2, rfl⟩ := mapO_cons h
    simp [mapO_length h2]

noncomputable def plainE : Expr → Bool
  | .Starred .. => false
  | _ => true
theorem star1 {e : Expr} {es : List Expr} (h : plainE e = true) : starEach (e :: es) env = (false, eval e env) :: starEach es env := by
  cases e with
  | Starred _ _ => exact nomatch h
  | _ => rfl
theorem starEach_plain : ∀ {es : List Expr}, es.all plainE = true → starEach es env = es.map fun e => (false, eval e env)
  | [], _ => rfl
  | e :: es, h => by
    have ih := (and_o h fun _ h => starEach_plain h : starEach es env = _)
    exact (star1 (and_o h fun h _ => h)).trans (congrArg (_ :: ·) ih)
theorem backTo_plain {pos : Pos} : ∀ {ts : List (Sem Value)}, backTo pos (ts.map fun t => (false, t)) = ts.map fun t => (false, t)
  | [] => rfl
  | t :: ts => by
    show _ :: _ = _ :: _
    have := backTo_plain (pos := pos) (ts := ts)
    unfold backTo at this
    rw [this]
    rfl
theorem backTo_star {pos : Pos} {es : List Expr} (h : es.all plainE = true) : backTo pos (starEach es env) = es.map fun e => (false, eval e env) := by
  rw [starEach_plain h]
  have := backTo_plain (pos := pos) (ts := es.map fun e => eval e env)
  rw [List.map_map] at this
  exact this

theorem all2_nil {α β : Type} {R : α → β → Prop} {bs : List β} (h : All2 R [] bs) : bs = [] := by cases h; rfl
theorem spliced_sound {R : Heap → D → Value → Prop} (mono : ∀ h h' d v, KH h h' → R h d v → R h' d v) {es : List Expr} {ds : List D}
    (x : All2 (fun e d => ∀ s', Kp s s' → wpAny (model prog w) A (eval e env) (fun v s'' => Kp s' s'' ∧ R s''.heap d v) E s') es ds) :
    ∀ s₁, Kp s s₁ → wpAny (model prog w) A (spliced (es.map fun e => (false, eval e env))) (fun vs s' => Kp s₁ s' ∧ All2 (R s'.heap) ds vs) E s₁ := by
  induction x with
  | nil => exact fun s₁ _ => spliced_nil ⟨Kp.refl _, .nil⟩
  | cons h _ ih =>
    exact fun s₁ k => spliced_cons (wpAny_mono (h s₁ k) (fun v s₂ p => wpAny_mono (ih s₂ (k.trans p.1)) (fun vs s₃ q => ⟨p.1.trans q.1, .cons (mono _ _ _ _ q.1.keep p.2) q.2⟩) fun _ _ e => e) fun _ _ e => e)
theorem forall₂_reps {h : Heap} {ds : List D} {vs : List Value} (x : All2 (fun d v => Rep prog w W h d v) ds vs) : Reps prog w W h ds vs := by
  induction x with
  | nil => exact .nil
  | cons a _ ih => exact .cons a ih
theorem forall₂_repsT {h : Heap} {ds : List D} {vs : List Value} (x : All2 (fun d v => RepT prog w W h d v) ds vs) : RepsT prog w W h ds vs := by
  induction x with
  | nil => exact rfl
  | cons a _ ih => exact ⟨_, _, rfl, a, ih⟩
end
end Ev
namespace Ev
open PySem PySem.Calls PyProof.Rows

section
variable [Base] (prog : Program) (w : World) (C : Cx) (F : Nat → List D → Option D) (B : Heap) (mg : Str → Option Value) (kF : Nat)

noncomputable def SndE (n : Nat) : Prop := ∀ (m : Nat) (sc : Scope) (e : Expr) (p : PE) (ρ : Rho) (d : D) (env : Env) (W : Addr → Prop) (A : Around) (s : Shared) (E : Value → Shared → Prop),
  cE C m sc e = some p → evE F n ρ p = some d → Hy prog w C B mg kF W env sc ρ A s → wpAny (model prog w) A (eval e env) (Post prog w W s d) E s
noncomputable def SndP (n : Nat) : Prop := ∀ (m : Nat) (sc : Scope) (e : Expr) (p : PE) (ρ : Rho) (d : D) (env : Env) (W : Addr → Prop) (A : Around) (s : Shared) (E : Value → Shared → Prop),
  cP C m sc e = some p → evE F n ρ p = some d → Hy prog w C B mg kF W env sc ρ A s → wpAny (model prog w) A (eval e env) (PostT prog w W s d) E s
noncomputable def SndT (n : Nat) : Prop := ∀ (m : Nat) (sc : Scope) (e : Expr) (p : PE) (ρ : Rho) (b : Bool) (env : Env) (W : Addr → Prop) (A : Around) (s : Shared) (E : Value → Shared → Prop),
  cE C m sc e = some p → evT F n ρ p = some b → Hy prog w C B mg kF W env sc ρ A s → wpAny (model prog w) A (isTrue e env (eval e env)) (fun b' s' => b' = b ∧ Kp s s') E s

/-- what a gone-through thing yields -/
noncomputable def IterOk (A : Around) (W : Addr → Prop) (ds : List D) (x : Value) (s : Shared) : Prop :=
  ∀ (E : Value → Shared → Prop) (Q : Value → Shared → Prop), (∀ (I : Addr) (fp wr : List Addr) (n : Nat) (P : Nat → Value → Prop) (St : Nat → Heap → Prop) (s₂ : Shared), Kp s s₂ → Walks prog w A I fp wr n P St → n = ds.length → St 0 s₂.heap →
    (∀ b ∈ wr, s.heap.get? b = none) → (∀ i h, St i h → ∀ b ∈ fp, ∃ o, h.get? b = some o ∧ o.cls ≠ .type "frame") → (∀ b ∈ fp, b ∉ wr → x = .ref b ∧ ∃ o, s.heap.get? b = some o) → (∀ i v, P i v → ∃ d, ds[i]? = some d ∧ Rep prog w W s.heap d v) → Q (.ref I) s₂) →
  wpAny (model prog w) A (pyIter x) Q E s
noncomputable def SndI (n : Nat) : Prop := ∀ (m : Nat) (sc : Scope) (e : Expr) (p : PE) (ρ : Rho) (ds : List D) (env : Env) (W : Addr → Prop) (A : Around) (s : Shared) (E : Value → Shared → Prop),
  cI C m sc e = some p → evI F n ρ p = some ds → Hy prog w C B mg kF W env sc ρ A s →
    wpAny (model prog w) A (eval e env) (fun x s₁ => Kp s s₁ ∧ ds.length ≤ sizeLine ∧ IterOk prog w A W ds x s₁ ∧ (NoOwn C env → offW W x)) E s ∧ ∀ x, foldedSetIterable e env x = pure x
end

section
variable [Base] {prog : Program} {w : World} {C : Cx} {F : Nat → List D → Option D} {B : Heap} {mg : Str → Option Value} {kF : Nat}

theorem sndP_of' (G : Gl prog w C F B mg kF) {n : Nat} (h : SndE prog w C F B mg kF n) : ∀ (m : Nat) (sc : Scope) (e : Expr) (p : PE) (ρ : Rho) (d : D) (env : Env) (W : Addr → Prop) (A : Around) (s : Shared) (E : Value → Shared → Prop),
    cP C m sc e = some p → evE F n ρ p = some d → Hy prog w C B mg kF W env sc ρ A s → wpAny (model prog w) A (eval e env) (fun v s' => PostT prog w W s d v s' ∧ (NoOwn C env → offW W v)) E s := by
  intro m sc e p ρ d env W A s E hc he hy
  cases m with
  | zero => exact dead hc
  | succ m =>
    refine cps fun P k => ?_
    change (match nameO e with | some x => (cName C sc x).bind fun i => some (.own i) | none => cE C m sc e) = some p at hc
    cases hx : nameO e with
    | none => rw [hx] at hc; exact k (wpAny_mono (h m sc e p ρ d env W A s E hc he hy) (fun v s' q => ⟨⟨q.1, q.2.1⟩, fun _ => q.2.2⟩) fun _ _ e => e)
    | some x =>
      rw [hx] at hc
      refine nameO_o hx fun px e1 => ob hc fun i hn hc => sm hc he fun he => k ?_
      subst e1
      cases n with
      | zero => exact dead he
      | succ n => exact wpAny_mono (name_sound G hy hn he) (fun v s' q => by obtain ⟨rfl, q⟩ := q; exact ⟨⟨Kp.refl _, q.1⟩, fun no => q.2 (noOwn_name hy.mt no hn)⟩) fun _ _ e => e
theorem sndP_of (G : Gl prog w C F B mg kF) {n : Nat} (h : SndE prog w C F B mg kF n) : SndP prog w C F B mg kF n :=
  fun m sc e p ρ d env W A s E hc he hy => wpAny_mono (sndP_of' G h m sc e p ρ d env W A s E hc he hy) (fun _ _ q => q.1) fun _ _ e => e

theorem cE_plain {m : Nat} {sc : Scope} {e : Expr} {p : PE} (h : cE C m sc e = some p) : plainE e = true := by
  cases e with
  | Starred _ _ => cases m <;> exact dead h
  | _ => rfl
theorem cP_plain {m : Nat} {sc : Scope} {e : Expr} {p : PE} (h : cP C m sc e = some p) : plainE e = true := by
  cases e with
  | Starred _ _ =>
    cases m with
    | zero => exact dead h
    | succ m => cases m <;> exact dead h
  | _ => rfl
theorem mapO_plain {f : Expr → Option PE} (hf : ∀ e p, f e = some p → plainE e = true) : ∀ {es : List Expr} {ps : List PE}, mapO f es = some ps → es.all plainE = true
  | [], _, _ => rfl
  | e :: es, ps, h => by
    refine mapO_o h fun b cs h1 h2 _ => ?_
    rw [List.all_cons, hf _ _ h1, mapO_plain hf h2]; rfl

theorem args_E {n m : Nat} (h : SndE prog w C F B mg kF n) {sc : Scope} {env : Env} {ρ : Rho} {W : Addr → Prop} {A : Around} {E : Value → Shared → Prop} {s : Shared} (hy : Hy prog w C B mg kF W env sc ρ A s) :
    ∀ {es : List Expr} {ps : List PE} {ds : List D}, mapO (cE C m sc) es = some ps → mapO (evE F n ρ) ps = some ds →
      All2 (fun e d => ∀ s', Kp s s' → wpAny (model prog w) A (eval e env) (fun v s'' => Kp s' s'' ∧ Rep prog w W s''.heap d v) E s') es ds
  | [], ps, ds, h1, h2 => by
    rw [mapO_nil h1] at h2
    rw [mapO_nil h2]; exact .nil
  | e :: es, ps, ds, h1, h2 => mapO_o h1 fun p qs a1 a2 e1 => by
    subst e1
    refine mapO_o h2 fun d cs b1 b2 e2 => ?_
    subst e2
    exact .cons (fun s' k => h m sc e p ρ d env W A s' E a1 b1 (hy.kp k)) (args_E h hy a2 b2)
theorem args_P {n m : Nat} (h : SndP prog w C F B mg kF n) {sc : Scope} {env : Env} {ρ : Rho} {W : Addr → Prop} {A : Around} {E : Value → Shared → Prop} {s : Shared} (hy : Hy prog w C B mg kF W env sc ρ A s) :
    ∀ {es : List Expr} {ps : List PE} {ds : List D}, mapO (cP C m sc) es = some ps → mapO (evE F n ρ) ps = some ds →
      All2 (fun e d => ∀ s', Kp s s' → wpAny (model prog w) A (eval e env) (fun v s'' => Kp s' s'' ∧ RepT prog w W s''.heap d v) E s') es ds
  | [], ps, ds, h1, h2 => by
    rw [mapO_nil h1] at h2
    rw [mapO_nil h2]; exact .nil
  | e :: es, ps, ds, h1, h2 => mapO_o h1 fun p qs a1 a2 e1 => by
    subst e1
    refine mapO_o h2 fun d cs b1 b2 e2 => ?_
    subst e2
    exact .cons (fun s' k => h m sc e p ρ d env W A s' E a1 b1 (hy.kp k)) (args_P h hy a2 b2)
theorem splice_E {n m : Nat} (h : SndE prog w C F B mg kF n) {sc : Scope} {env : Env} {ρ : Rho} {W : Addr → Prop} {A : Around} {E : Value → Shared → Prop} {pos : Pos}
    {es : List Expr} {ps : List PE} {ds : List D} {s : Shared} (h1 : mapO (cE C m sc) es = some ps) (h2 : mapO (evE F n ρ) ps = some ds) (hy : Hy prog w C B mg kF W env sc ρ A s) :
    wpAny (model prog w) A (spliced (backTo pos (starEach es env))) (fun vs s' => Kp s s' ∧ Reps prog w W s'.heap ds vs) E s := by
  rw [backTo_star (mapO_plain (fun _ _ => cE_plain) h1)]
  exact wpAny_mono (spliced_sound (R := fun h d v => Rep prog w W h d v) (fun _ _ _ _ k r => r.keep k) (args_E h hy h1 h2) s (Kp.refl s)) (fun vs s' q => ⟨q.1, forall₂_reps q.2⟩) fun _ _ e => e
theorem splice_P {n m : Nat} (h : SndP prog w C F B mg kF n) {sc : Scope} {env : Env} {ρ : Rho} {W : Addr → Prop} {A : Around} {E : Value → Shared → Prop} {pos : Pos}
    {es : List Expr} {ps : List PE} {ds : List D} {s : Shared} (h1 : mapO (cP C m sc) es = some ps) (h2 : mapO (evE F n ρ) ps = some ds) (hy : Hy prog w C B mg kF W env sc ρ A s) :
    wpAny (model prog w) A (spliced (backTo pos (starEach es env))) (fun vs s' => Kp s s' ∧ RepsT prog w W s'.heap ds vs) E s := by
  rw [backTo_star (mapO_plain (fun _ _ => cP_plain) h1)]
  exact wpAny_mono (spliced_sound (R := fun h d v => RepT prog w W h d v) (fun _ _ _ _ k r => r.keep k) (args_P h hy h1 h2) s (Kp.refl s)) (fun vs s' q => ⟨q.1, forall₂_repsT q.2⟩) fun _ _ e => e

/-- the arguments of a call -/
theorem args_of {fv : Value} {A : Around} {E : Value → Shared → Prop} {s : Shared} {pos : Pos} {env : Env} {es : List Expr} {Q : Args → Shared → Prop} (hp : es.all plainE = true)
    (h : wpAny (model prog w) A (spliced (backTo pos (starEach es env))) (fun vs s' => Q ⟨vs, []⟩ s') E s) : wpAny (model prog w) A (evalArgs fv true (backTo pos (starEach es env)) []) Q E s := by
  rw [backTo_star hp] at h ⊢
  cases es with
  | nil =>
    unfold evalArgs
    show wpAny (model prog w) A (spliced [] >>= _) Q E s
    refine wpAny_bind (wpAny_mono h (fun vs s' h' => ?_) fun _ _ x => x)
    refine wpAny_holding ?_
    exact wpAny_bind (wpAny_pure (wpAny_bind (wpAny_pure (wpAny_pure h'))))
  | cons e es => exact evalArgs_plain h

theorem any_star {pos : Pos} {env : Env} {es : List Expr} (hp : es.all plainE = true) : (backTo pos (starEach es env)).any (·.1) = false := by
  rw [backTo_star hp]
  induction es with
  | nil => rfl
  | cons e es ih =>
    simp only [List.all_cons, Bool.and_eq_true] at hp
    simp [ih hp.2]
end
end Ev
namespace Ev
open PySem PySem.Calls PyProof.Rows

section
variable [Base] {prog : Program} {w : World} {C : Cx} {F : Nat → List D → Option D} {B : Heap} {mg : Str → Option Value} {kF : Nat}
  {sc : Scope} {ρ : Rho} {env : Env} {W : Addr → Prop} {A : Around} {s : Shared} {E : Value → Shared → Prop} {n m : Nat}

theorem arm_const {c : Const} {k : Nat} {pos : Pos} {d : D} (hl : litOf c = some d) : wpAny (model prog w) A (eval (.Constant c k pos) env) (Post prog w W s d) E s := by
  cases c with
  | int _ => obtain rfl := sj hl; exact wpAny_Constant_int Post.int
  | str _ => exact gdo hl fun h hl => by obtain rfl := sj hl; exact wpAny_Constant_str (Post.str (strFit_of h).1 (strFit_of h).2)
  | bool _ => obtain rfl := sj hl; exact wpAny_Constant_bool Post.bool
  | none => obtain rfl := sj hl; exact wpAny_Constant_none ⟨Kp.refl _, rep_none⟩
  | _ => exact dead hl

theorem arm_name (G : Gl prog w C F B mg kF) {x : Str} {pos : Pos} {i : Nat} {d : D} (hn : cName C sc x = some i) (ho : (!C.O.contains i) = true) (he : ρ.lookup i = some d) (hy : Hy prog w C B mg kF W env sc ρ A s) :
    wpAny (model prog w) A (eval (.Name x pos) env) (Post prog w W s d) E s :=
  wpAny_mono (name_sound G hy hn he) (fun v s' q => by obtain ⟨rfl, q⟩ := q; exact ⟨Kp.refl _, q.1, q.2 (not_o ho)⟩) fun _ _ e => e

theorem arm_bin (IP : SndP prog w C F B mg kF n) {l r : Expr} {op : Operator} {pos : Pos} {a b : PE} {d : D} (ha : cP C m sc l = some a) (hb : cP C m sc r = some b) (he : evE F (n + 1) ρ (.bin op a b) = some d) (hy : Hy prog w C B mg kF W env sc ρ A s) :
    wpAny (model prog w) A (eval (.BinOp l op r pos) env) (Post prog w W s d) E s := by
  refine ob he fun u hu he => ob he fun v hv he => ?_
  refine wpAny_BinOp (wpAny_mono (IP m sc l a ρ u env W A s E ha hu hy) (fun x s₁ q₁ => ?_) fun _ _ e => e)
  have hy₁ := hy.kp q₁.1
  refine wpAny_mono (IP m sc r b ρ v env W A s₁ E hb hv hy₁) (fun y s₂ q₂ => ?_) fun _ _ e => e
  exact post_mono (q₁.1.trans q₂.1) (bin_sound (q₁.2.keep q₂.1.keep) q₂.2 he (hy₁.kp q₂.1).wk)

theorem arm_not (IE : SndE prog w C F B mg kF n) {x : Expr} {pos : Pos} {a : PE} {d : D} (ha : cE C m sc x = some a) (he : evE F (n + 1) ρ (.no a) = some d) (hy : Hy prog w C B mg kF W env sc ρ A s) :
    wpAny (model prog w) A (eval (.UnaryOp .Not x pos) env) (Post prog w W s d) E s := by
  refine ob he fun u hu he => ob he fun b ht he => ?_
  obtain rfl := sj he
  refine wpAny_UnaryOp (wpAny_mono (IE m sc x a ρ u env W A s E ha hu hy) (fun v s₁ q₁ => ?_) fun _ _ e => e)
  exact not_value (truth_sound q₁.2.1 ht fun s' k => ⟨q₁.1.trans k, rep_bool⟩)
theorem arm_un' (IE : SndE prog w C F B mg kF n) {op : UnaryOp} {x : Expr} {pos : Pos} {a : PE} {d : D} (ha : cE C m sc x = some a) (he : evE F (n + 1) ρ (.un op a) = some d) (hy : Hy prog w C B mg kF W env sc ρ A s) :
    wpAny (model prog w) A (eval (.UnaryOp op x pos) env) (Post prog w W s d) E s := by
  refine ob he fun u hu he => ?_
  refine wpAny_UnaryOp (wpAny_mono (IE m sc x a ρ u env W A s E ha hu hy) (fun v s₁ q₁ => ?_) fun _ _ e => e)
  exact post_mono q₁.1 (un_sound q₁.2.1 he)
theorem arm_un (IE : SndE prog w C F B mg kF n) {op : UnaryOp} {x : Expr} {pos : Pos} {a : PE} {d : D} (ha : cE C m sc x = some a) (he : evE F (n + 1) ρ (cUn op a) = some d) (hy : Hy prog w C B mg kF W env sc ρ A s) :
    wpAny (model prog w) A (eval (.UnaryOp op x pos) env) (Post prog w W s d) E s := by
  cases op with
  | Not => exact arm_not IE ha he hy
  | _ => exact arm_un' IE ha he hy

theorem arm_cmp (IP : SndP prog w C F B mg kF n) {l r : Expr} {op : CmpOp} {pos : Pos} {a b : PE} {d : D} (hm : (!behindInMarks op r) = true) (ha : cP C m sc l = some a) (hb : cP C m sc r = some b) (he : evE F (n + 1) ρ (.cmp op a b) = some d) (hy : Hy prog w C B mg kF W env sc ρ A s) :
    wpAny (model prog w) A (eval (.Compare l [op] [r] pos) env) (Post prog w W s d) E s := by
  refine ob he fun u hu he => ob he fun v hv he => ob he fun c hcm he => ?_
  obtain rfl := sj he
  refine wpAny_Compare1 (wpAny_mono (IP m sc l a ρ u env W A s E ha hu hy) (fun x s₁ q₁ => ?_) fun _ _ e => e) (not_o hm)
  refine wpAny_mono (IP m sc r b ρ v env W A s₁ E hb hv (hy.kp q₁.1)) (fun y s₂ q₂ => ?_) fun _ _ e => e
  exact post_mono (q₁.1.trans q₂.1) (cmp_sound (q₁.2.keep q₂.1.keep) q₂.2 hcm hy.ok)
theorem test_cmp (IP : SndP prog w C F B mg kF n) {l r : Expr} {op : CmpOp} {pos : Pos} {a b : PE} {c : Bool} {whole : Sem Value} (hm : (!behindInMarks op r) = true) (ha : cP C m sc l = some a) (hb : cP C m sc r = some b) (he : evT F (n + 1) ρ (.cmp op a b) = some c) (hy : Hy prog w C B mg kF W env sc ρ A s) :
    wpAny (model prog w) A (isTrue (.Compare l [op] [r] pos) env whole) (fun b' s' => b' = c ∧ Kp s s') E s := by
  refine ob he fun u hu he => ob he fun v hv hcm => ?_
  refine wpAny_isTrue_Compare1 (wpAny_mono (IP m sc l a ρ u env W A s E ha hu hy) (fun x s₁ q₁ => ?_) fun _ _ e => e) (not_o hm)
  refine wpAny_mono (IP m sc r b ρ v env W A s₁ E hb hv (hy.kp q₁.1)) (fun y s₂ q₂ => ?_) fun _ _ e => e
  refine wpAny_mono (cmp_sound (W := W) (A := A) (q₁.2.keep q₂.1.keep) q₂.2 hcm hy.ok) (fun z s₃ q₃ => ?_) fun _ _ e => e
  exact truth_sound q₃.2.1 rfl fun s' k => ⟨rfl, ((q₁.1.trans q₂.1).trans q₃.1).trans k⟩

theorem boolOp_cons2 (pos : Pos) (op : BoolOp) (x y : Sem Value) (r : List (Sem Value)) : boolOp pos op (x :: y :: r) = (do
    let v ← x
    standAt pos
    let t ← holding [v] (truthy v)
    match op, t with
    | .And, false | .Or, true => pure v
    | _, _ => boolOp pos op (y :: r)) := rfl

theorem boolAnd_sound (IE : SndE prog w C F B mg kF n) {pos : Pos} : ∀ {es : List Expr} {ps : List PE} {d : D} {s : Shared}, mapO (cE C m sc) es = some ps → allV (evE F n ρ) ps = some d → Hy prog w C B mg kF W env sc ρ A s →
    wpAny (model prog w) A (boolOp pos .And (evalEach es env)) (Post prog w W s d) E s
  | [], ps, d, s, h1, h2, hy => dead ((congrArg (allV (evE F n ρ)) (mapO_nil h1)).symm.trans h2)
  | [e], ps, d, s, h1, h2, hy => mapO_o h1 fun p qs a1 a2 e1 => by
    rw [e1, mapO_nil a2] at h2
    exact ob h2 fun u hu h2 => IE m sc e p ρ d env W A s E a1 (hu.trans h2) hy
  | e :: e' :: es, ps, d, s, h1, h2, hy => mapO_o h1 fun p qs a1 a2 e1 => mapO_o a2 fun p' qs' a3 a4 e2 => by
    rw [e1, e2] at h2
    rw [e2] at a2
    refine ob h2 fun u hu h2 => ob h2 fun b ht h2 => ?_
    show wpAny (model prog w) A (boolOp pos .And (eval e env :: eval e' env :: evalEach es env)) _ E s
    rw [boolOp_cons2]
    refine wpAny_bind (wpAny_mono (IE m sc e p ρ u env W A s E a1 hu hy) (fun v s₁ q₁ => ?_) fun _ _ e => e)
    refine wpAny_bind (wpAny_standAt (wpAny_bind (wpAny_holding (truth_sound q₁.2.1 ht fun s' k => ?_))))
    cases b with
    | false => obtain rfl := sj h2; exact wpAny_pure ⟨q₁.1.trans k, q₁.2.keep k.keep⟩
    | true => exact post_mono (q₁.1.trans k) (boolAnd_sound IE a2 h2 (hy.kp (q₁.1.trans k)))
theorem boolOr_sound (IE : SndE prog w C F B mg kF n) {pos : Pos} : ∀ {es : List Expr} {ps : List PE} {d : D} {s : Shared}, mapO (cE C m sc) es = some ps → anyV (evE F n ρ) ps = some d → Hy prog w C B mg kF W env sc ρ A s →
    wpAny (model prog w) A (boolOp pos .Or (evalEach es env)) (Post prog w W s d) E s
  | [], ps, d, s, h1, h2, hy => dead ((congrArg (anyV (evE F n ρ)) (mapO_nil h1)).symm.trans h2)
  | [e], ps, d, s, h1, h2, hy => mapO_o h1 fun p qs a1 a2 e1 => by
    rw [e1, mapO_nil a2] at h2
    exact ob h2 fun u hu h2 => IE m sc e p ρ d env W A s E a1 (hu.trans h2) hy
  | e :: e' :: es, ps, d, s, h1, h2, hy => mapO_o h1 fun p qs a1 a2 e1 => mapO_o a2 fun p' qs' a3 a4 e2 => by
    rw [e1, e2] at h2
    rw [e2] at a2
    refine ob h2 fun u hu h2 => ob h2 fun b ht h2 => ?_
    show wpAny (model prog w) A (boolOp pos .Or (eval e env :: eval e' env :: evalEach es env)) _ E s
    rw [boolOp_cons2]
    refine wpAny_bind (wpAny_mono (IE m sc e p ρ u env W A s E a1 hu hy) (fun v s₁ q₁ => ?_) fun _ _ e => e)
    refine wpAny_bind (wpAny_standAt (wpAny_bind (wpAny_holding (truth_sound q₁.2.1 ht fun s' k => ?_))))
    cases b with
    | true => obtain rfl := sj h2; exact wpAny_pure ⟨q₁.1.trans k, q₁.2.keep k.keep⟩
    | false => exact post_mono (q₁.1.trans k) (boolOr_sound IE a2 h2 (hy.kp (q₁.1.trans k)))
theorem testAnd_sound (IT : SndT prog w C F B mg kF n) : ∀ {es : List Expr} {ps : List PE} {b : Bool} {s : Shared}, mapO (cE C m sc) es = some ps → allO (evT F n ρ) ps = some b → Hy prog w C B mg kF W env sc ρ A s →
    wpAny (model prog w) A (allTrue .And es env) (fun b' s' => b' = b ∧ Kp s s') E s
  | [], ps, b, s, h1, h2, hy => by
    rw [mapO_nil h1] at h2
    obtain rfl := sj h2
    exact wpAny_allTrue_And_nil ⟨rfl, Kp.refl _⟩
  | e :: es, ps, b, s, h1, h2, hy => mapO_o h1 fun p qs a1 a2 e1 => by
    rw [e1] at h2
    refine ob h2 fun u hu h2 => ?_
    refine wpAny_allTrue_And_cons (wpAny_mono (IT m sc e p ρ u env W A s E a1 hu hy) (fun u' s₁ q₁ => ?_) fun _ _ e => e)
    obtain ⟨rfl, k⟩ := q₁
    cases u' with
    | false => obtain rfl := sj h2; exact ⟨rfl, k⟩
    | true => exact wpAny_mono (testAnd_sound IT a2 h2 (hy.kp k)) (fun b' s' q => ⟨q.1, k.trans q.2⟩) fun _ _ e => e
theorem testOr_sound (IT : SndT prog w C F B mg kF n) : ∀ {es : List Expr} {ps : List PE} {b : Bool} {s : Shared}, mapO (cE C m sc) es = some ps → anyO (evT F n ρ) ps = some b → Hy prog w C B mg kF W env sc ρ A s →
    wpAny (model prog w) A (allTrue .Or es env) (fun b' s' => b' = b ∧ Kp s s') E s
  | [], ps, b, s, h1, h2, hy => by
    rw [mapO_nil h1] at h2
    obtain rfl := sj h2
    exact wpAny_allTrue_Or_nil ⟨rfl, Kp.refl _⟩
  | e :: es, ps, b, s, h1, h2, hy => mapO_o h1 fun p qs a1 a2 e1 => by
    rw [e1] at h2
    refine ob h2 fun u hu h2 => ?_
    refine wpAny_allTrue_Or_cons (wpAny_mono (IT m sc e p ρ u env W A s E a1 hu hy) (fun u' s₁ q₁ => ?_) fun _ _ e => e)
    obtain ⟨rfl, k⟩ := q₁
    cases u' with
    | true => obtain rfl := sj h2; exact ⟨rfl, k⟩
    | false => exact wpAny_mono (testOr_sound IT a2 h2 (hy.kp k)) (fun b' s' q => ⟨q.1, k.trans q.2⟩) fun _ _ e => e
end
end Ev
namespace Ev
open PySem PySem.Calls PyProof.Rows

section
variable [Base] {prog : Program} {w : World} {C : Cx} {F : Nat → List D → Option D} {B : Heap} {mg : Str → Option Value} {kF : Nat}
  {sc : Scope} {ρ : Rho} {env : Env} {W : Addr → Prop} {A : Around} {s : Shared} {E : Value → Shared → Prop} {n m : Nat}

theorem arm_ite (IE : SndE prog w C F B mg kF n) (IT : SndT prog w C F B mg kF n) {t a b : Expr} {pos : Pos} {p1 p2 p3 : PE} {d : D} (h1 : cE C m sc t = some p1) (h2 : cE C m sc a = some p2) (h3 : cE C m sc b = some p3) (he : evE F (n + 1) ρ (.ite p1 p2 p3) = some d) (hy : Hy prog w C B mg kF W env sc ρ A s) :
    wpAny (model prog w) A (eval (.IfExp t a b pos) env) (Post prog w W s d) E s := by
  refine ob he fun c ht he => ?_
  refine wpAny_IfExp (wpAny_mono (IT m sc t p1 ρ c env W A s E h1 ht hy) (fun c' s₁ q => ?_) fun _ _ e => e)
  obtain ⟨rfl, k⟩ := q
  cases c' with
  | true => exact post_mono k (IE m sc a p2 ρ d env W A s₁ E h2 he (hy.kp k))
  | false => exact post_mono k (IE m sc b p3 ρ d env W A s₁ E h3 he (hy.kp k))

theorem subscripted_plain {i : Expr} {y z : Value} (hs : sliceO i = none) : subscripted i false y z = operate [y, z] (getItem y z) := by
  cases i with
  | Slice _ _ _ _ => cases hs
  | _ => rfl
theorem arm_item (IE : SndE prog w C F B mg kF n) (IP : SndP prog w C F B mg kF n) {v i : Expr} {pos : Pos} {a b : PE} {d : D} (ha : cP C m sc v = some a) (hb : cE C m sc i = some b) (hs : sliceO i = none)
    (he : evE F (n + 1) ρ (.item a b) = some d) (hy : Hy prog w C B mg kF W env sc ρ A s) :
    wpAny (model prog w) A (eval (.Subscript v i pos) env) (Post prog w W s d) E s := by
  refine ob he fun u hu he => ob he fun x hv he => ?_
  refine Subscript_ (wpAny_mono (IP m sc v a ρ u env W A s E ha hu hy) (fun y s₁ q₁ => ?_) fun _ _ e => e)
  refine wpAny_mono (IE m sc i b ρ x env W A s₁ E hb hv (hy.kp q₁.1)) (fun z s₂ q₂ => ?_) fun _ _ e => e
  exact post_mono (q₁.1.trans q₂.1) (item_sound (q₁.2.keep q₂.1.keep) q₂.2.1 he ⟨[y, z], subscripted_plain hs⟩)

theorem part_sound (IE : SndE prog w C F B mg kF n) {o : Option Expr} {p : Option PE} {l : Option Int} (hc : cOpt (cE C m sc) o = some p) (he : partD (evE F n ρ) p = some l) (hy : Hy prog w C B mg kF W env sc ρ A s) :
    wpAny (model prog w) A (evalPart o env) (fun v s' => Kp s s' ∧ IsPart v l) E s := by
  cases o with
  | none =>
    obtain rfl := sj hc
    obtain rfl := sj he
    exact evalPart_none_step ⟨Kp.refl _, .none⟩
  | some e =>
    refine ob hc fun q h1 hc => sm hc he fun he => ob he fun d h2 he => ?_
    refine evalPart_some_step (wpAny_mono (IE m sc e q ρ d env W A s E h1 h2 hy) (fun v s' r => ⟨r.1, ?_⟩) fun _ _ e => e)
    cases d with
    | none => obtain rfl := sj he; obtain rfl : v = .none := r.2.1; exact .none
    | int i => obtain rfl := sj he; refine asInt_r (d := .int i) rfl r.2.1 fun t e => ?_; rw [e]; exact .int _ _
    | _ => exact dead he

theorem arm_slice (IE : SndE prog w C F B mg kF n) (IP : SndP prog w C F B mg kF n) {v : Expr} {lo hi st : Option Expr} {ps pos : Pos} {a : PE} {l h k : Option PE} {d : D} (h1 : cP C m sc v = some a) (h2 : cOpt (cE C m sc) lo = some l) (h3 : cOpt (cE C m sc) hi = some h) (h4 : cOpt (cE C m sc) st = some k)
    (he : evE F (n + 1) ρ (.slice a l h k) = some d) (hy : Hy prog w C B mg kF W env sc ρ A s) :
    wpAny (model prog w) A (eval (.Subscript v (.Slice lo hi st ps) pos) env) (Post prog w W s d) E s := by
  refine ob he fun u hu he => ob he fun l' e2 he => ob he fun h' e3 he => ob he fun k' e4 he => ?_
  refine Subscript_ (wpAny_mono (IP m sc v a ρ u env W A s E h1 hu hy) (fun y s₁ q₁ => ?_) fun _ _ e => e)
  have hy₁ := hy.kp q₁.1
  refine wpAny_Slice (wpAny_mono (part_sound IE h2 e2 hy₁) (fun vl s₂ q₂ => ?_) fun _ _ e => e)
  have hy₂ := hy₁.kp q₂.1
  refine wpAny_mono (part_sound IE h3 e3 hy₂) (fun vu s₃ q₃ => ?_) fun _ _ e => e
  have hy₃ := hy₂.kp q₃.1
  refine wpAny_mono (part_sound IE h4 e4 hy₃) (fun vs s₄ q₄ => ?_) fun _ _ e => e
  have kk := q₂.1.trans (q₃.1.trans q₄.1)
  obtain ⟨T, id, b1, b2, b3⟩ := sliceItem_sound (prog := prog) (w := w) (A := A) (E := E) (q₁.2.keep kk.keep) q₂.2 q₃.2 q₄.2 he (hy₃.kp q₄.1).wk
  refine wpAny_mono (tail_any (ops := if st.isSome then [y, .ref s₄.heap.objs.size] else [.ref s₄.heap.objs.size, y]) b1 b2 b3 ?_) (fun r s₅ q₅ => ⟨(q₁.1.trans kk).trans q₅.1, q₅.2⟩) fun _ _ e => e
  cases st <;> rfl

theorem thousand {ds : List D} {vs : List Value} {h : Heap} (hl : decide (ds.length ≤ 1000) = true) (r : Reps prog w W h ds vs) : vs.length ≤ sizeLine := by
  have := dec_o hl
  rw [r.length, sizeLine]; omega
theorem arm_list (IE : SndE prog w C F B mg kF n) {es : List Expr} {pos : Pos} {ps : List PE} {d : D} (h1 : mapO (cE C m sc) es = some ps) (he : evE F (n + 1) ρ (.list ps) = some d) (hy : Hy prog w C B mg kF W env sc ρ A s) :
    wpAny (model prog w) A (eval (.List es pos) env) (Post prog w W s d) E s := by
  refine ob he fun ds h2 he => gdo he fun hl he => ?_
  obtain rfl := sj he
  refine List_ (wpAny_mono (splice_E IE h1 h2 hy) (fun vs s₁ q => ?_) fun _ _ e => e)
  have hz := thousand hl q.2
  exact wpAny_newObj_type ((list_new q.2 (hy.kp q.1).wk hz).trans q.1) (by show vs.toArray.size ≤ sizeLine; simpa using hz)
theorem arm_tuple (IE : SndE prog w C F B mg kF n) {es : List Expr} {k : Nat} {pos : Pos} {ps : List PE} {d : D} (h1 : mapO (cE C m sc) es = some ps) (he : evE F (n + 1) ρ (.tuple ps) = some d) (hy : Hy prog w C B mg kF W env sc ρ A s) :
    wpAny (model prog w) A (eval (.Tuple es k pos) env) (Post prog w W s d) E s := by
  refine ob he fun ds h2 he => gdo he fun hl he => ?_
  obtain rfl := sj he
  refine Tuple_ (wpAny_mono (splice_E IE h1 h2 hy) (fun vs s₁ q => ?_) fun _ _ e => e)
  have hz := thousand hl q.2
  exact wpAny_newObj_type ((tuple_new q.2 (hy.kp q.1).wk hz).trans q.1) (by show vs.toArray.size ≤ sizeLine; simpa using hz)

theorem attr_base {o : Expr} {name : Str} (h : plainO o = true) : attributeBase o name env (eval o env) = eval o env := by
  cases o with
  | Call _ _ _ _ => cases h
  | Starred _ _ => cases h
  | _ => rfl

theorem arm_meth (IE : SndE prog w C F B mg kF n) {o : Expr} {name : Str} {apos pos : Pos} {args : List Expr} {po : PE} {ps : List PE} {d : D} (hn : (plainO o && apos.endLine == pos.line && decide (args.length < 20)) = true) (h1 : cE C m sc o = some po) (h2 : mapO (cE C m sc) args = some ps)
    (he : evE F (n + 1) ρ (.meth name po ps) = some d) (hy : Hy prog w C B mg kF W env sc ρ A s) : wpAny (model prog w) A (eval (.Call (.Attribute o name apos) args [] pos) env) (Post prog w W s d) E s := by
  refine and_o hn fun hn n3 => and_o hn fun n1 n2 => ob he fun u e1 he => ob he fun ds e2 he => ?_
  have n3 := dec_o n3
  have hp := mapO_plain (fun _ _ => cE_plain) h2
  refine wpAny_Call_method_lateS (attr_base n1) ?_ n2 (wpAny_mono (IE m sc o po ρ u env W A s E h1 e1 hy) (fun ov s₁ q₁ => ?_) fun _ _ e => e)
  · rw [backTo_star hp]
    simp only [List.all_map, Bool.and_eq_true, List.all_eq_true, Function.comp_apply, Bool.not_false, implies_true, true_and]
    refine ⟨fun x hx => (by cases hx), ?_⟩
    simp only [List.length_nil, List.isEmpty_nil, if_true, decide_eq_true_eq]
    omega
  · obtain ⟨T, id, b1, b2, b3, b4, b5, b6⟩ := meth_sound (A := A) q₁.2.1 he
    refine ⟨T, id, b1, b2, b3, b4, b5, ?_⟩
    refine callWith_builtin (any_star hp) (args_of hp (wpAny_mono (splice_E IE h2 e2 (hy.kp q₁.1)) (fun vs s₂ q₂ => ?_) fun _ _ e => e))
    exact post_mono (q₁.1.trans q₂.1) (b6 s₂ vs E (q₁.2.1.keep q₂.1.keep) q₂.2 (hy.kp (q₁.1.trans q₂.1)).wk)
end
end Ev
namespace Ev
open PySem PySem.Calls PyProof.Rows

section
variable [Base] {prog : Program} {w : World} {C : Cx} {F : Nat → List D → Option D} {B : Heap} {mg : Str → Option Value} {kF : Nat}
  {sc : Scope} {ρ : Rho} {env : Env} {W : Addr → Prop} {A : Around} {s : Shared} {E : Value → Shared → Prop} {n m : Nat}

theorem rangeOk_of {a b c : Int} (h : rangeOk a b c = true) : Builtin.Range.small a b c = true ∧ 0 < c ∧ c < 1073741824 ∧ (Builtin.Range.rangeSize a b c).toNat ≤ 16777216 ∧
    Builtin.Range.rangeSize a b c = ((Builtin.Range.rangeSize a b c).toNat : Int) := by
  simp only [rangeOk, Bool.and_eq_true, decide_eq_true_eq] at h
  obtain ⟨⟨⟨h1, h2⟩, h3⟩, h4⟩ := h
  refine ⟨h1, h2, h3, h4, ?_⟩
  have : 0 ≤ Builtin.Range.rangeSize a b c := by
    unfold Builtin.Range.rangeSize
    rw [if_pos (show c > 0 from h2)]
    split
    · have : 0 ≤ (b - a - 1) / c := Int.ediv_nonneg (by omega) (by omega)
      omega
    · omega
  omega

/-- a range laid -/
noncomputable def RangePost (s : Shared) (ls : List D) (r : Addr) (x : Value) (s₁ : Shared) : Prop := Kp s s₁ ∧ ∃ a b c t u v, x = .ref r ∧ IsRange s₁.heap r a b c t u v ∧ rangeOk a b c = true ∧ ls = rangeL a b c
theorem RangePost.mk {a b c : Int} {t u v : Tok} {ls : List D} {k : Nat} (h : rangeI a b c = some ls) :
    RangePost s ls s.heap.objs.size (.ref s.heap.objs.size) { s with heap := s.heap.push { cls := .type "range", data := .fields #[.int a t, .int b u, .int c v] }, toks := k } :=
  gdo h fun h e => ⟨Kp.push _ _ _, _, _, _, _, _, _, rfl, Heap.get?_push_size _ rfl, h, (sj e).symm⟩
theorem range_sound : ∀ {ds ls : List D} {vs : List Value}, Reps prog w W s.heap ds vs → rangeD ds = some ls → wpAny (model prog w) A (call (.type "range") vs) (RangePost s ls s.heap.objs.size) E s
  | [_], ls, vs, r, e => ob e fun b hb e => by
    obtain ⟨v, rfl, h1, _⟩ := reps1 r
    refine asInt_r hb h1 fun t e1 => ?_
    subst e1
    exact call_range_1 (RangePost.mk e)
  | [_, _], ls, vs, r, e => ob e fun a ha e => ob e fun b hb e => by
    obtain ⟨v, u, rfl, ⟨h1, _⟩, ⟨h2, _⟩⟩ := reps2 r
    refine asInt_r ha h1 fun t e1 => asInt_r hb h2 fun t' e2 => ?_
    subst e1 e2
    exact call_range_2 (RangePost.mk e)
  | [_, d', _], ls, vs, r, e => ob e fun a ha e => ob e fun b hb e => ob e fun c hc e => by
    obtain ⟨v, r', rfl, h1, _, h23⟩ : ∃ v r', vs = v :: r' ∧ RepT prog w W s.heap _ v ∧ offW W v ∧ Reps prog w W s.heap [d', _] r' := r
    obtain ⟨u, x, rfl, ⟨h2, _⟩, ⟨h3, _⟩⟩ := reps2 h23
    refine asInt_r ha h1 fun t e1 => asInt_r hb h2 fun t' e2 => asInt_r hc h3 fun t'' e3 => gdo e fun h _ => ?_
    subst e1 e2 e3
    have q := rangeOk_of h
    exact call_range_3 (by omega) (RangePost.mk e) (Or.inl (PyProof.noPylong_small (by omega)))
  | [], _, _, _, e => dead e
  | _ :: _ :: _ :: _ :: _, _, _, _, e => dead e

theorem reps_of_get {h : Heap} : ∀ {ds : List D} {vs : List Value}, vs.length = ds.length → (∀ (i : Nat) (d : D) (v : Value), ds[i]? = some d → vs[i]? = some v → Rep prog w W h d v) → Reps prog w W h ds vs
  | [], vs, e, _ => by
    have : vs = [] := List.length_eq_zero_iff.mp e
    subst this; exact .nil
  | d :: ds, [], e, _ => by simp at e
  | d :: ds, v :: vs, e, q => .cons (q 0 d v rfl rfl) (reps_of_get (by simpa using e) fun i d' v' e1 e2 => q (i + 1) d' v' (by simpa using e1) (by simpa using e2))

theorem rangeL_get {a b c : Int} {i : Nat} {d : D} (h : (rangeL a b c)[i]? = some d) : d = .int (a + (i : Int) * c) := by
  unfold rangeL at h
  simp only [List.getElem?_map, Option.map_eq_some_iff] at h
  obtain ⟨j, h1, rfl⟩ := h
  have := List.getElem?_eq_some_iff.mp h1
  obtain ⟨h2, h3⟩ := this
  simp at h3
  subst h3; rfl
theorem rangeL_length (a b c : Int) : (rangeL a b c).length = (Builtin.Range.rangeSize a b c).toNat := by simp [rangeL]

theorem listR_sound {r : Addr} {a b c : Int} {t u v : Tok} (ha : A.handled = none) (hr : IsRange s.heap r a b c t u v) (h : rangeOk a b c = true) (hw : Wok W s.heap) :
    wpAny (model prog w) A (call (.type "list") [.ref r]) (Post prog w W s (.list (rangeL a b c))) E s := by
  obtain ⟨q1, q2, q3, q4, q5⟩ := rangeOk_of h
  refine call_list_range ha hr q1 q5 (by omega) fun h' tk acc c' hk ho hi => ?_
  refine ⟨Kp.of hk _, ?_, fun a e => by cases e; exact hw.fresh⟩
  simp only [RepT]
  refine ⟨_, acc.toList, rfl, ⟨_, ho, rfl, c', rfl⟩, ?_, ?_⟩
  · rw [Array.length_toList, hi.1, sizeLine]; omega
  · refine reps_of_get (by rw [Array.length_toList, hi.1, rangeL_length]) fun i d v e1 e2 => ?_
    rw [rangeL_get e1]
    obtain ⟨t, rfl⟩ := hi.2 i v (by simpa using e2)
    exact rep_int

theorem glob_kind (hy : Hy prog w C B mg kF W env sc ρ A s) {f : Str} (h : isGlobalName sc f = true) : env.kindOf f = some .globalImplicit ∧ (f == ("__debug__" : Str)) = false := by
  simp only [isGlobalName, Bool.and_eq_true, beq_iff_eq, Bool.not_eq_true'] at h
  refine ⟨?_, h.2⟩
  rcases hy.mt f with q | ⟨q, _⟩
  · rw [q]; exact h.1
  · rw [h.1] at q; cases q

theorem boot_bi {f : Str} (h : biNames.contains f = true) : bootBuiltins f = some (.builtin f.toString) ∧ f ≠ ("__name__" : Str) := by
  simp only [biNames, List.contains_cons, List.contains_nil, Bool.or_false, Bool.or_eq_true, beq_iff_eq] at h
  rcases h with rfl | rfl | rfl | rfl | rfl | rfl <;> exact ⟨by decide +kernel, by decide +kernel⟩
theorem boot_ty {f : Str} (h : tyNames.contains f = true) : bootBuiltins f = some (.type f.toString) ∧ f ≠ ("__name__" : Str) := by
  simp only [tyNames, List.contains_cons, List.contains_nil, Bool.or_false, Bool.or_eq_true, beq_iff_eq] at h
  rcases h with rfl | rfl <;> exact ⟨by decide +kernel, by decide +kernel⟩

theorem arm_range (G : Gl prog w C F B mg kF) (IE : SndE prog w C F B mg kF n) {p pos : Pos} {as : List Expr} {ps : List PE} {ds ls : List D} (hg : isGlobalName sc ("range" : Str) = true) (h1 : mapO (cE C m sc) as = some ps)
    (h2 : mapO (evE F n ρ) ps = some ds) (e : rangeD ds = some ls) (hy : Hy prog w C B mg kF W env sc ρ A s) :
    wpAny (model prog w) A (eval (.Call (.Name ("range" : Str) p) as [] pos) env) (fun x s₁ => ∃ r, s.heap.get? r = none ∧ RangePost s ls r x s₁) E s := by
  obtain ⟨k1, k2⟩ := glob_kind hy hg
  have hp := mapO_plain (fun _ _ => cE_plain) h1
  refine Call_Name rfl (name_bi G hy k1 (G.no _ (.inr (.inr (.inr (.inr (.inl rfl)))))) (v := .type "range") (by decide +kernel) (by decide +kernel) ?_ k2)
  refine PyProof.Rows.callWith_type (any_star hp) (args_of hp (wpAny_mono (splice_E IE h1 h2 hy) (fun vs s₁ q => ?_) fun _ _ e => e))
  exact wpAny_mono (range_sound (s := s₁) q.2 e) (fun x s₂ r => ⟨_, q.1.keep.size, q.1.trans r.1, r.2⟩) fun _ _ e => e

theorem rangeCall_o {P : Prop} {e : Expr} {as : List Expr} (h : rangeCall sc e = some as) (k : ∀ np pos, e = .Call (.Name ("range" : Str) np) as [] pos → isGlobalName sc ("range" : Str) = true → as.length < 20 → P) : P :=
  ob h fun q h1 h => gdo h fun h2 h => and_o h2 fun h2 h4 => and_o h2 fun h2 h3 => callO_o h1 fun np pos e => by
    rw [beq_iff_eq.mp h2] at e h3
    rw [sj h] at e h4
    exact k np pos e h3 (dec_o h4)

theorem arm_isI (G : Gl prog w C F B mg kF) (IE : SndE prog w C F B mg kF n) {np tp pos : Pos} {e : Expr} {t : Str} {pe : PE} {b : Bool} {T : String} {d : D} (hg : isGlobalName sc ("isinstance" : Str) = true) (hgt : isGlobalName sc t = true) (h1 : cE C m sc e = some pe)
    (hmt : mg t = none) (hbt : bootBuiltins t = some (.type T)) (hnt : t ≠ ("__name__" : Str)) (hcall : ∀ (i : Int) (u : Tok) (s : Shared), wpAny (model prog w) A (call (.builtin "isinstance") [.int i u, .type T]) (Post prog w W s (.bool (!b))) E s)
    (he : evE F (n + 1) ρ (.isInst b pe) = some d) (hy : Hy prog w C B mg kF W env sc ρ A s) : wpAny (model prog w) A (eval (.Call (.Name ("isinstance" : Str) np) [e, .Name t tp] [] pos) env) (Post prog w W s d) E s := by
  obtain ⟨k1, k2⟩ := glob_kind hy hg
  obtain ⟨j1, j2⟩ := glob_kind hy hgt
  refine ob he fun u hv he => ob he fun i hi he => ?_
  obtain rfl := sj he
  refine Call_Name rfl (name_bi G hy k1 (G.no _ (.inr (.inr (.inl rfl)))) (v := .builtin "isinstance") (by decide +kernel) (by decide +kernel) ?_ k2)
  have hp : ([e, .Name t tp] : List Expr).all plainE = true := by
    rw [List.all_cons, cE_plain h1]; rfl
  refine callWith_builtin (any_star hp) (args_of hp ?_)
  rw [backTo_star hp]
  refine spliced_cons (wpAny_mono (IE m sc e pe ρ _ env W A s E h1 hv hy) (fun v s₁ q₁ => ?_) fun _ _ e => e)
  refine spliced_cons (name_bi G (hy.kp q₁.1) j1 hmt hbt hnt (spliced_nil ?_) j2)
  refine asInt_r hi q₁.2.1 fun tk e => ?_
  subst e
  exact post_mono q₁.1 (hcall i tk s₁)

theorem arm_listR (G : Gl prog w C F B mg kF) (IE : SndE prog w C F B mg kF n) {np gp gpos pos : Pos} {as : List Expr} {ps : List PE} {d : D} (hg : isGlobalName sc ("list" : Str) = true) (hgr : isGlobalName sc ("range" : Str) = true) (h1 : mapO (cE C m sc) as = some ps)
    (he : evE F (n + 1) ρ (.listR ps) = some d) (hy : Hy prog w C B mg kF W env sc ρ A s) : wpAny (model prog w) A (eval (.Call (.Name ("list" : Str) np) [.Call (.Name ("range" : Str) gp) as [] gpos] [] pos) env) (Post prog w W s d) E s := by
  obtain ⟨k1, k2⟩ := glob_kind hy hg
  refine ob he fun ds h2 he => ob he fun ls h3 he => ?_
  obtain rfl := sj he
  refine Call_Name rfl (name_bi G hy k1 (G.no _ (.inr (.inr (.inr (.inl rfl))))) (v := .type "list") (by decide +kernel) (by decide +kernel) ?_ k2)
  have hp : ([.Call (.Name ("range" : Str) gp) as [] gpos] : List Expr).all plainE = true := rfl
  refine PyProof.Rows.callWith_type (any_star hp) (args_of hp ?_)
  rw [backTo_star hp]
  refine spliced_cons (wpAny_mono (arm_range G IE hgr h1 h2 h3 hy) (fun v s₁ q₁ => ?_) fun _ _ e => e)
  obtain ⟨r, _, kk, a, b, c, t, u, v', rfl, r1, r2, rfl⟩ := q₁
  exact spliced_nil (post_mono kk (listR_sound hy.ok.hd r1 r2 (hy.kp kk).wk))

theorem arm_bi (G : Gl prog w C F B mg kF) (IP : SndP prog w C F B mg kF n) {f : Str} {np pos : Pos} {args : List Expr} {ps : List PE} {d : D} (hg : isGlobalName sc f = true) (hb : biNames.contains f = true) (h1 : mapO (cP C m sc) args = some ps)
    (he : evE F (n + 1) ρ (.bi f ps) = some d) (hy : Hy prog w C B mg kF W env sc ρ A s) : wpAny (model prog w) A (eval (.Call (.Name f np) args [] pos) env) (Post prog w W s d) E s := by
  obtain ⟨k1, k2⟩ := glob_kind hy hg
  obtain ⟨b1, b2⟩ := boot_bi hb
  have hp := mapO_plain (fun _ _ => cP_plain) h1
  refine ob he fun ds h2 he => Call_Name rfl (name_bi G hy k1 (G.no _ (.inl hb)) b1 b2 ?_ k2)
  refine callWith_builtin (any_star hp) (args_of hp (wpAny_mono (splice_P IP h1 h2 hy) (fun vs s₁ q => ?_) fun _ _ e => e))
  exact post_mono q.1 (builtin_sound q.2 he hy.ok)
theorem arm_ty (G : Gl prog w C F B mg kF) (IP : SndP prog w C F B mg kF n) {f : Str} {np pos : Pos} {args : List Expr} {ps : List PE} {d : D} (hg : isGlobalName sc f = true) (hb : tyNames.contains f = true) (h1 : mapO (cP C m sc) args = some ps)
    (he : evE F (n + 1) ρ (.ty f ps) = some d) (hy : Hy prog w C B mg kF W env sc ρ A s) : wpAny (model prog w) A (eval (.Call (.Name f np) args [] pos) env) (Post prog w W s d) E s := by
  obtain ⟨k1, k2⟩ := glob_kind hy hg
  obtain ⟨b1, b2⟩ := boot_ty hb
  have hp := mapO_plain (fun _ _ => cP_plain) h1
  refine ob he fun ds h2 he => Call_Name rfl (name_bi G hy k1 (G.no _ (.inr (.inl hb))) b1 b2 ?_ k2)
  refine PyProof.Rows.callWith_type (any_star hp) (args_of hp (wpAny_mono (splice_P IP h1 h2 hy) (fun vs s₁ q => ?_) fun _ _ e => e))
  exact post_mono q.1 (type_sound q.2 he)
theorem arm_fn (G : Gl prog w C F B mg kF) (IE : SndE prog w C F B mg kF n) {f : Str} {np pos : Pos} {args : List Expr} {qs : List PE} {i : Nat} {d : D} (hg : isGlobalName sc f = true) (hb : C.fns.contains f = true) (h3 : mapO (cE C m sc) args = some qs) (h4 : idx C.names f = some i)
    (he : evE F (n + 1) ρ (.fn i qs) = some d) (hy : Hy prog w C B mg kF W env sc ρ A s) : wpAny (model prog w) A (eval (.Call (.Name f np) args [] pos) env) (Post prog w W s d) E s := by
  obtain ⟨k1, k2⟩ := glob_kind hy hg
  have hp := mapO_plain (fun _ _ => cE_plain) h3
  refine ob he fun ds h2 he => ?_
  obtain ⟨a, o, fd, g1, g2, g3, g4⟩ := G.fn f i ds d hb h4 he
  refine Call_Name rfl (name_gl G hy k1 g1 ?_ k2)
  refine callWith_function (o := o) (fd := fd) (args_of hp (wpAny_mono (splice_E IE h3 h2 hy) (fun vs s₁ q => ?_) fun _ _ e => e))
  have hy₁ := hy.kp q.1
  exact ⟨⟨hy₁.bk _ _ g2, g3⟩, post_mono q.1 (g4 W A s₁ _ E hy.ok hy₁.fr hy₁.bk hy₁.wk hy.wb q.2)⟩

theorem arm_callN (G : Gl prog w C F B mg kF) (IE : SndE prog w C F B mg kF n) (IP : SndP prog w C F B mg kF n) {f : Str} {np pos : Pos} {args : List Expr} {p : PE} {d : D} (hg : isGlobalName sc f = true) (hc : cCallN C (cE C m sc) (cP C m sc) sc f args = some p)
    (he : evE F (n + 1) ρ p = some d) (hy : Hy prog w C B mg kF W env sc ρ A s) : wpAny (model prog w) A (eval (.Call (.Name f np) args [] pos) env) (Post prog w W s d) E s := by
  refine cps fun P k => ?_
  refine ifo hc (fun hf hc => ?_) fun _ hc => ?_
  · refine ob hc fun q h1 hc => ob hc fun t ht hc => gdo hc fun hgt hc => ob hc fun pe hpe hc => two_o h1 fun h1 => nameO_o ht fun tp ht => ?_
    rw [ht] at h1
    refine ifo hc (fun hb hc => sm hc he fun he => k ?_) fun _ hc => ifo hc (fun hb hc => sm hc he fun he => k ?_) fun _ hc => dead hc
    · subst hf h1 hb
      exact arm_isI (T := "bool") G IE hg hgt hpe (G.no _ (.inr (.inr (.inr (.inr (.inr rfl)))))) (by decide +kernel) (by decide +kernel) (fun i u s => IsiPair.int_bool Post.boolT) he hy
    · subst hf h1 hb
      exact arm_isI (T := "int") G IE hg hgt hpe (G.no _ (.inr (.inl (by decide +kernel)))) (by decide +kernel) (by decide +kernel) (fun i u s => IsiPair.int_int Post.bool) he hy
  refine ifo hc (fun hf hc => ?_) fun _ hc => ?_
  · refine ob hc fun e h1 hc => ob hc fun as h2 hc => ob hc fun ps h3 hc => sm hc he fun he => one1_o h1 fun h1 => rangeCall_o h2 fun gp gpos h2 hgr _ => k ?_
    subst hf
    rw [h2] at h1
    subst h1
    exact arm_listR G IE hg hgr h3 he hy
  refine ifo hc (fun hb hc => ob hc fun ps h1 hc => sm hc he fun he => k (arm_bi G IP hg hb h1 he hy)) fun _ hc => ?_
  refine ifo hc (fun hb hc => ob hc fun ps h1 hc => sm hc he fun he => k (arm_ty G IP hg hb h1 he hy)) fun _ hc => ?_
  exact gdo hc fun hb hc => ob hc fun qs h1 hc => ob hc fun i hi hc => sm hc he fun he => k (arm_fn G IE hg hb h1 hi he hy)
end
end Ev
namespace Ev
open PySem PySem.Calls PyProof.Rows

section
variable [Base] {prog : Program} {w : World} {C : Cx} {F : Nat → List D → Option D} {B : Heap} {mg : Str → Option Value} {kF : Nat}
  {sc : Scope} {ρ : Rho} {env : Env} {W : Addr → Prop} {A : Around} {s : Shared} {E : Value → Shared → Prop} {n m : Nat}

theorem iter_list {ds : List D} {v : Value} (ha : A.handled = none) (r : RepT prog w W s.heap (.list ds) v) : ds.length ≤ sizeLine ∧ IterOk prog w A W ds v s := by
  simp only [RepT] at r
  obtain ⟨a, vs, rfl, l1, n1, q1⟩ := r
  have hlt : a < s.heap.objs.size := by obtain ⟨_, e, _⟩ := l1; exact Heap.lt_size e
  refine ⟨by rw [← q1.length]; exact n1, fun E Q hQ => wpAny_pyIter_list l1 ?_⟩
  refine hQ _ _ _ _ _ _ _ (Kp.pushS _ _) (Walks.list ha s.heap.objs.size a (Nat.ne_of_lt hlt) vs.toArray) (by simp [q1.length]) ⟨⟨_, Heap.get?_push_size _ rfl, rfl, rfl⟩, l1.push _⟩ ?_ ?_ ?_ ?_
  · intro b hb
    rw [List.mem_singleton.mp hb]
    cases q : s.heap.get? s.heap.objs.size with
    | none => rfl
    | some o => exact absurd (Heap.lt_size q) (Nat.lt_irrefl _)
  · rintro i h ⟨⟨o, ho, hc, _⟩, o', ho', hc', _⟩ b hb
    rcases List.mem_cons.mp hb with rfl | hb
    · exact ⟨o, ho, by rw [hc]; simp⟩
    · rw [List.mem_singleton.mp hb]
      exact ⟨o', ho', by rw [hc']; simp⟩
  · intro b hb hn
    rcases List.mem_cons.mp hb with rfl | hb
    · exact absurd (List.mem_singleton.mpr rfl) hn
    · rw [List.mem_singleton.mp hb]
      obtain ⟨o, ho, _⟩ := l1
      exact ⟨rfl, o, ho⟩
  · intro i v hv
    exact q1.get' (by simpa using hv)

theorem iter_str {x : Str} {v : Value} (ha : A.handled = none) (r : RepT prog w W s.heap (.str x) v) : (chars x).length ≤ sizeLine ∧ IterOk prog w A W (chars x) v s := by
  simp only [RepT] at r
  obtain ⟨⟨t, rfl⟩, o1, l1⟩ := r
  have hlen : (chars x).length = x.cps.size := by simp [chars]
  have nw : ∀ b ∈ [s.heap.objs.size], s.heap.get? b = none := fun b hb => by
    rw [List.mem_singleton.mp hb]
    cases q : s.heap.get? s.heap.objs.size with
    | none => rfl
    | some o => exact absurd (Heap.lt_size q) (Nat.lt_irrefl _)
  have hP : ∀ (i : Nat) (v : Value), SignAt x i v → ∃ d, (chars x)[i]? = some d ∧ Rep prog w W s.heap d v := by
    rintro i v ⟨c, u, hc, rfl⟩
    refine ⟨.str ⟨#[c]⟩, ?_, rep_str ?_ (by show 1 ≤ sizeLine; decide)⟩
    · simp only [chars, List.getElem?_map, Option.map_eq_some_iff]
      exact ⟨c, by simpa using hc, rfl⟩
    · rw [strOk_list] at o1 ⊢
      intro d hd
      simp only [List.mem_singleton] at hd
      subst hd
      exact o1 _ (by rw [Array.mem_toList_iff]; exact Array.mem_of_getElem? hc)
  refine ⟨by rw [hlen]; exact l1, fun E Q hQ => ?_⟩
  cases hx : x.cps.all (· < 128)
  · refine wpAny_pyIter_wide hx ?_
    refine hQ _ _ _ _ _ _ _ (Kp.pushS _ _) (Walks.strWide ha s.heap.objs.size x t) hlen.symm ⟨_, Heap.get?_push_size _ rfl, rfl, rfl⟩ nw ?_ (fun b hb hn => absurd hb hn) hP
    rintro i h ⟨o, ho, hc, _⟩ b hb
    rw [List.mem_singleton.mp hb]
    exact ⟨o, ho, by rw [hc]; simp⟩
  · refine wpAny_pyIter_ascii hx ?_
    refine hQ _ _ _ _ _ _ _ (Kp.pushS _ _) (Walks.strAscii ha s.heap.objs.size x t) hlen.symm ⟨_, Heap.get?_push_size _ rfl, rfl, rfl⟩ nw ?_ (fun b hb hn => absurd hb hn) hP
    rintro i h ⟨o, ho, hc, _⟩ b hb
    rw [List.mem_singleton.mp hb]
    exact ⟨o, ho, by rw [hc]; simp⟩

theorem iter_range {r : Addr} {a b c : Int} {t u v : Tok} (ha : A.handled = none) (hr : IsRange s.heap r a b c t u v) (h : rangeOk a b c = true) : (rangeL a b c).length ≤ sizeLine ∧ IterOk prog w A W (rangeL a b c) (.ref r) s := by
  obtain ⟨q1, q2, q3, q4, q5⟩ := rangeOk_of h
  refine ⟨by rw [rangeL_length, sizeLine]; omega, fun E Q hQ => wpAny_pyIter_range hr q1 ?_⟩
  have W' := Walks.range (prog := prog) (w := w) (A := A) ha s.heap.objs.size a c (Builtin.Range.rangeSize a b c).toNat |>.bound
  refine hQ _ _ _ _ _ _ _ (Kp.pushS _ _) W' (rangeL_length _ _ _).symm ?_ ?_ ?_ ?_ ?_
  · show IsRangeIter _ _ _ _ _
    rw [← q5]
    simpa using Heap.get?_push_size _ rfl
  · intro b hb
    rw [List.mem_singleton.mp hb]
    cases q : s.heap.get? s.heap.objs.size with
    | none => rfl
    | some o => exact absurd (Heap.lt_size q) (Nat.lt_irrefl _)
  · intro i h st b hb
    rw [List.mem_singleton.mp hb]
    exact ⟨_, st, by simp⟩
  · intro b hb hn
    exact absurd hb hn
  · rintro i v ⟨hi, t, rfl⟩
    refine ⟨.int (a + (i : Int) * c), ?_, rep_int⟩
    simp [rangeL, hi]

theorem iterD {d : D} {ds : List D} {v : Value} (ha : A.handled = none) (r : RepT prog w W s.heap d v) (e : itemsD d = some ds) : ds.length ≤ sizeLine ∧ IterOk prog w A W ds v s := by
  cases d with
  | str x => obtain rfl := sj e; exact iter_str ha r
  | list x => obtain rfl := sj e; exact iter_list ha r
  | _ => exact dead e
theorem noR_o {P : Prop} {o : Option PE} {p : PE} (h : noR o = some p) (k : o = some p → isRangeP p = false → P) : P :=
  ob h fun q h1 h => gdo h fun h2 h => by
    obtain rfl := sj h
    exact k h1 (not_o h2)
theorem evI_plain {p : PE} (hr : isRangeP p = false) : evI F (n + 1) ρ p = (evE F n ρ p).bind itemsD := by
  cases p with
  | range _ => cases hr
  | _ => rfl
theorem folded_plain {e : Expr} {x : Value} (h : iterOk e = true) : foldedSetIterable e env x = pure x := by
  cases e with
  | Set _ _ _ => cases h
  | _ => rfl
/-- what the look through shows -/
noncomputable def IterPost (prog : Program) (w : World) (C : Cx) (env : Env) (W : Addr → Prop) (A : Around) (s : Shared) (ds : List D) (x : Value) (s₁ : Shared) : Prop := Kp s s₁ ∧ ds.length ≤ sizeLine ∧ IterOk prog w A W ds x s₁ ∧ (NoOwn C env → offW W x)

theorem sndI_of (G : Gl prog w C F B mg kF) (IE : SndE prog w C F B mg kF n) : SndI prog w C F B mg kF (n + 1) := by
  intro m sc e p ρ ds env W A s E hc he hy
  show wpAny (model prog w) A (eval e env) (IterPost prog w C env W A s ds) E s ∧ ∀ x, foldedSetIterable e env x = pure x
  cases m with
  | zero => exact dead hc
  | succ m =>
    refine cps fun P k => ?_
    change (match rangeCall sc e with | some args => (mapO (cE C m sc) args).bind fun ps => some (.range ps) | none => gd (iterOk e) (noR (cP C m sc e))) = some p at hc
    cases hx : rangeCall sc e with
    | none =>
      rw [hx] at hc
      refine gdo hc fun ho hc => noR_o hc fun hc hr => ob ((evI_plain hr).symm.trans he) fun d e1 e2 => k ⟨?_, fun x => folded_plain ho⟩
      exact wpAny_mono (sndP_of' G IE m sc e p ρ d env W A s E hc e1 hy) (fun v s' q => ⟨q.1.1, (iterD hy.ok.hd q.1.2 e2).1, (iterD hy.ok.hd q.1.2 e2).2, q.2⟩) fun _ _ e => e
    | some args =>
      rw [hx] at hc
      refine rangeCall_o hx fun np pos e0 hg _ => ob hc fun ps h1 hc => sm hc he fun he => ob he fun vs h2 he => k ?_
      subst e0
      refine ⟨wpAny_mono (arm_range G IE hg h1 h2 he hy) (fun x s₁ q => ?_) fun _ _ e => e, fun _ => rfl⟩
      obtain ⟨r, hr0, kk, a, b, c, t, u, v, rfl, r1, r2, rfl⟩ := q
      have q' := iter_range (prog := prog) (w := w) (W := W) hy.ok.hd r1 r2
      refine ⟨kk, q'.1, q'.2, fun _ a e hw => ?_⟩
      cases e
      obtain ⟨o, ho⟩ := hy.wk _ hw
      rw [hr0] at ho; cases ho
end
end Ev
namespace Ev
open PySem PySem.Calls PyProof.Rows

theorem compTurn_eq (elt : Expr) (gens : List Comprehension) (scope : Scope) (pos : Pos) (depth : Nat) (it acc : Value) (env : Env) {x : Str} {px : Pos} {iter : Expr} {ifs : List Expr} (hg : gens[depth]? = some ⟨.Name x px, iter, ifs, 0⟩) :
    compTurn (.ListComp elt gens scope pos) depth it acc env = (do
      standAt iter.pos
      match ← pyNext it with
      | none => pure (.done .next)
      | some v =>
        letOwnedTupleGo (.Name x px) it v
        assign (.Name x px) env v
        let mut ok := true
        for c in ifs do
          if ok then ok ← isTrue c env (eval c env)
        if ok then
          match gens[depth + 1]? with
          | some g' =>
            let x ← eval g'.iter env
            standAt g'.iter.pos
            let x ← if g'.is_async != 0 then foldedIterable g'.iter x else foldedSetIterable g'.iter env x
            let _ ← runOwn (.compStart (.ListComp elt gens scope pos) (depth + 1) (← holding [x] (if g'.is_async != 0 then asyncIter x else pyIter x)) acc env) env
          | none => (do let _ ← call (.builtin "list.append") [acc, ← eval elt env])
        again (.compLoop (.ListComp elt gens scope pos) depth it acc env)) := by
  unfold compTurn
  dsimp only
  rw [hg]
  rfl

section
variable [Base] {prog : Program} {w : World} {C : Cx} {F : Nat → List D → Option D} {B : Heap} {mg : Str → Option Value} {kF : Nat}
  {sc : Scope} {ρ : Rho} {env : Env} {W : Addr → Prop} {A : Around} {s : Shared} {E : Value → Shared → Prop} {n m : Nat}

/-- the same but for the places of X -/
structure KpB (X : Addr → Prop) (s s' : Shared) : Prop where
  same : ∃ h' tk, s' = { s with heap := h', toks := tk }
  keep : KHB X s.heap s'.heap
theorem KpB.refl (X : Addr → Prop) (s : Shared) : KpB X s s := ⟨⟨_, _, rfl⟩, fun _ _ _ e => .of e⟩
theorem KpB.trans {X : Addr → Prop} {a b c : Shared} (x : KpB X a b) (y : KpB X b c) : KpB X a c := by
  obtain ⟨h1, t1, rfl⟩ := x.same
  obtain ⟨h2, t2, rfl⟩ := y.same
  exact ⟨⟨_, _, rfl⟩, fun b o hx e => Kept.trans (x.keep b o hx e) fun _ e' => y.keep b _ hx e'⟩
theorem Kp.toB {X : Addr → Prop} {a b : Shared} (x : Kp a b) : KpB X a b := ⟨x.same, x.keep.but⟩
theorem KpB.more {X Y : Addr → Prop} {a b : Shared} (x : KpB X a b) (i : ∀ a, X a → Y a) : KpB Y a b := ⟨x.same, fun b o h e => x.keep b o (fun q => h (i _ q)) e⟩
theorem KHB.more {X Y : Addr → Prop} {a b : Heap} (x : KHB X a b) (i : ∀ a, X a → Y a) : KHB Y a b := fun b o h e => x b o (fun q => h (i _ q)) e

noncomputable def testsGo (env : Env) (es : List Expr) (r : Bool) : Sem Bool := forIn es r fun c r => if r = true then do let ok ← isTrue c env (eval c env); pure (ForInStep.yield ok) else pure (ForInStep.yield r)
theorem tests_stay : ∀ (es : List Expr) (s : Shared), wpAny (model prog w) A (testsGo env es false) (fun b' s' => b' = false ∧ Kp s s') E s
  | [], s => wpAny_pure ⟨rfl, Kp.refl _⟩
  | e :: es, s => by
    unfold testsGo
    rw [List.forIn_cons]
    exact wpAny_bind (wpAny_pure (tests_stay es s))
theorem tests_go (IT : SndT prog w C F B mg kF n) : ∀ {es : List Expr} {ps : List PE} {b : Bool} {s : Shared}, mapO (cE C m sc) es = some ps → allO (evT F n ρ) ps = some b → Hy prog w C B mg kF W env sc ρ A s →
    wpAny (model prog w) A (testsGo env es true) (fun b' s' => b' = b ∧ Kp s s') E s
  | [], ps, b, s, h1, h2, hy => by
    rw [mapO_nil h1] at h2
    obtain rfl := sj h2
    exact wpAny_pure ⟨rfl, Kp.refl _⟩
  | e :: es, ps, b, s, h1, h2, hy => mapO_o h1 fun p qs a1 a2 e1 => by
    rw [e1] at h2
    refine ob h2 fun u hu h2 => ?_
    unfold testsGo
    rw [List.forIn_cons]
    refine wpAny_bind (wpAny_bind (wpAny_mono (IT m sc e p ρ u env W A s E a1 hu hy) (fun u' s₁ q₁ => wpAny_pure ?_) fun _ _ e => e))
    obtain ⟨rfl, k⟩ := q₁
    cases u' with
    | false => obtain rfl := sj h2; exact wpAny_mono (tests_stay es s₁) (fun b' s' q => ⟨q.1, k.trans q.2⟩) fun _ _ e => e
    | true => exact wpAny_mono (tests_go IT a2 h2 (hy.kp k)) (fun b' s' q => ⟨q.1, k.trans q.2⟩) fun _ _ e => e
theorem tests_sound (IT : SndT prog w C F B mg kF n) {es : List Expr} {ps : List PE} {b : Bool} {s : Shared} (h1 : mapO (cE C m sc) es = some ps) (h2 : allO (evT F n ρ) ps = some b) (hy : Hy prog w C B mg kF W env sc ρ A s) :
    wpAny (model prog w) A (forIn es true fun c r => if r = true then do let ok ← isTrue c env (eval c env); pure (ForInStep.yield ok) else pure (ForInStep.yield r)) (fun b' s' => b' = b ∧ Kp s s') E s := tests_go IT h1 h2 hy

/-- a name more in the frame -/
theorem lk_o {P : Prop} {i j : Nat} {d d' : D} {r : Rho} (h : ((i, d) :: r).lookup j = some d') (k1 : j = i → d = d' → P) (k2 : j ≠ i → r.lookup j = some d' → P) : P := by
  rw [List.lookup_cons] at h
  cases hb : j == i with
  | true => rw [hb] at h; exact k1 (beq_iff_eq.mp hb) (sj h)
  | false => rw [hb] at h; exact k2 (fun q => by rw [q, beq_self_eq_true] at hb; cases hb) h
theorem ns_eq {h : Heap} {l : Addr} {m m' : Str → Option Value} (x : h.Ns l m) (x' : h.Ns l m') (y : Str) : m y = m' y := by
  obtain ⟨o, es, ep, e1, e2, e3, e4⟩ := x
  obtain ⟨o', es', ep', f1, f2, f3, f4⟩ := x'
  rw [e1] at f1; cases f1
  rw [e2] at f2; cases f2
  rw [← e4, ← f4]
theorem cell_ne {h : Heap} {c l : Addr} {v : Option Value} {m : Str → Option Value} (q : h.IsCell c v) (x : h.Ns l m) : c ≠ l := by
  rintro rfl
  obtain ⟨o, e1, e2⟩ := q
  obtain ⟨o', es', ep', f1, f2, _⟩ := x
  rw [e1] at f1; cases f1
  rw [e2] at f2; cases f2
theorem EnvS.set {x : Str} {i : Nat} {d : D} {v : Value} {h h' : Heap} (ke : EnvS prog w C mg W env ρ h) (hx : idx C.names x = some i) (hg : C.gl.contains i = false) (hk : env.kindOf x = some .local)
    (hO : C.O.contains i = false) (hWL : W env.locals) (hs : Heap.SameBut env.locals h h') {m : Str → Option Value} (hm : h.Ns env.locals m) (hn : h'.Ns env.locals (fun y => if y = x then some v else m y)) (r : Rep prog w W h' d v)
    (hown : ∀ y j d' v', idx C.names y = some j → (env.kindOf y = some .local ∨ isCell (env.kindOf y) = true) → C.O.contains j = true → RepO prog w C W h j d' v' → RepO prog w C W h' j d' v') : EnvS prog w C mg W env ((i, d) :: ρ) h' := by
  have kb : KHB W h h' := fun b o hb e => .of (hs.extBut b o (fun q => hb (q ▸ hWL)) e)
  have mono : ∀ y j d' v', idx C.names y = some j → (env.kindOf y = some .local ∨ isCell (env.kindOf y) = true) → RepO prog w C W h j d' v' → RepO prog w C W h' j d' v' := fun y j d' v' hy hk' q =>
    (Bool.eq_false_or_eq_true (C.O.contains j)).elim (fun ho => hown y j d' v' hy hk' ho q) fun ho => ⟨q.1.mono kb (q.2 ho), q.2⟩
  obtain ⟨m0, hm0, hloc⟩ := ke.ns
  refine ⟨ke.kf, ke.gl, ke.bl, ⟨_, hn, fun y j d' h1 h2 h3 => lk_o h3 (fun e1 e2 => ?_) fun hji h3 => ?_⟩, fun y j d' h1 h2 h3 => lk_o h3 (fun e1 _ => ?_) fun _ h3 => ?_, fun y e => ?_, fun y j d' h1 h2 h3 => lk_o h3 (fun e1 _ => ?_) fun _ h3 => ?_⟩
  · rw [← e2, e1]
    exact ⟨v, if_pos (idx_inj h1 (e1 ▸ hx)), r.1, fun _ => r.2⟩
  · obtain ⟨u, q1, q2⟩ := hloc y j d' h1 h2 h3
    exact ⟨u, (if_neg fun q => hji (sj ((q ▸ h1).symm.trans hx))).trans ((ns_eq hm hm0 y).trans q1), mono y _ _ _ h1 (.inl h2) q2⟩
  · have := hk.symm.trans (idx_inj hx (e1 ▸ h1) ▸ rfl : env.kindOf x = env.kindOf y)
    rw [← this] at h2; cases h2
  · obtain ⟨c, u, q1, q2, q3⟩ := ke.cl y j d' h1 h2 h3
    exact ⟨c, u, q1, q2.sameBut hs (cell_ne q2 hm), mono y _ _ _ h1 (.inr h2) q3⟩
  · obtain ⟨c, a, o, b⟩ := ke.cov y e
    by_cases q : c = env.locals
    · obtain ⟨o', _, _, e', _⟩ := hn
      exact ⟨c, a, o', q ▸ e'⟩
    · exact ⟨c, a, o, hs.extBut c o q b⟩
  · rw [e1, hg] at h2; cases h2
  · obtain ⟨u, q1, q2⟩ := ke.gv y j d' h1 h2 h3
    exact ⟨u, q1, q2.mono kb⟩

theorem EnvS.drop {i : Nat} {d : D} {h : Heap} (ke : EnvS prog w C mg W env ((i, d) :: ρ) h) (hi : (ρ.lookup i).isSome = false) : EnvS prog w C mg W env ρ h := by
  have up : ∀ j d', ρ.lookup j = some d' → ((i, d) :: ρ).lookup j = some d' := fun j d' e => by
    have hji : j ≠ i := fun q => by rw [q] at e; rw [e] at hi; cases hi
    rw [List.lookup_cons]
    have hb : (j == i) = false := by simpa using hji
    rw [hb]; exact e
  obtain ⟨m0, hm0, hloc⟩ := ke.ns
  exact ⟨ke.kf, ke.gl, ke.bl, ⟨m0, hm0, fun y j d' h1 h2 h3 => hloc y j d' h1 h2 (up _ _ h3)⟩, fun y j d' h1 h2 h3 => ke.cl y j d' h1 h2 (up _ _ h3), ke.cov, fun y j d' h1 h2 h3 => ke.gv y j d' h1 h2 (up _ _ h3)⟩
theorem EnvS.less {W' : Addr → Prop} {h : Heap} (i : ∀ a, W' a → W a) (ke : EnvS prog w C mg W env ρ h) : EnvS prog w C mg W' env ρ h := by
  have up : ∀ j d v, RepO prog w C W h j d v → RepO prog w C W' h j d v := fun j d v q => ⟨q.1.less i, fun ho => (q.2 ho).less i⟩
  obtain ⟨m0, hm0, hloc⟩ := ke.ns
  exact ⟨ke.kf, ke.gl, ke.bl, ⟨m0, hm0, fun y j d' h1 h2 h3 => let ⟨v, a, b⟩ := hloc y j d' h1 h2 h3; ⟨v, a, up _ _ _ b⟩⟩,
    fun y j d' h1 h2 h3 => let ⟨c, v, a, b, e⟩ := ke.cl y j d' h1 h2 h3; ⟨c, v, a, b, up _ _ _ e⟩, ke.cov, fun y j d' h1 h2 h3 => let ⟨v, a, b⟩ := ke.gv y j d' h1 h2 h3; ⟨v, a, b.less i⟩⟩
theorem RepO.more' {W' : Addr → Prop} {h : Heap} (i : ∀ a, W' a → W a ∨ h.get? a = none) {j : Nat} {d : D} {v : Value} (q : RepO prog w C W h j d v) : RepO prog w C W' h j d v := by
  refine ⟨q.1.more i, fun ho a e hw => ?_⟩
  rcases i a hw with h1 | h1
  · exact q.2 ho a e h1
  · subst e
    obtain ⟨o, ho⟩ := q.1.ref_some
    rw [h1] at ho; cases ho
theorem EnvS.more {W' : Addr → Prop} {h : Heap} (i : ∀ a, W' a → W a ∨ h.get? a = none) (ke : EnvS prog w C mg W env ρ h) : EnvS prog w C mg W' env ρ h := by
  obtain ⟨m0, hm0, hloc⟩ := ke.ns
  exact ⟨ke.kf, ke.gl, ke.bl, ⟨m0, hm0, fun y j d' h1 h2 h3 => let ⟨v, a, b⟩ := hloc y j d' h1 h2 h3; ⟨v, a, b.more' i⟩⟩,
    fun y j d' h1 h2 h3 => let ⟨c, v, a, b, e⟩ := ke.cl y j d' h1 h2 h3; ⟨c, v, a, b, e.more' i⟩, ke.cov, fun y j d' h1 h2 h3 => let ⟨v, a, b⟩ := ke.gv y j d' h1 h2 h3; ⟨v, a, b.more i⟩⟩

/-- the turns, and one turn's outcome -/
noncomputable def genF (F : Nat → List D → Option D) (n : Nat) (elt : PE) (gs : List (Nat × PE × List PE)) (ρ : Rho) : Option (List D) := genO (evE F n) (evT F n) (evI F n) elt gs ρ
noncomputable def turnD (F : Nat → List D → Option D) (n : Nat) (elt : PE) (x : Nat) (ifs : List PE) (rest : List (Nat × PE × List PE)) (ρ : Rho) (d : D) : Option (List D) :=
  condO (allO (evT F n ((x, d) :: ρ)) ifs) (genF F n elt rest ((x, d) :: ρ))
theorem genF_nil {elt : PE} {out : List D} {P : Prop} (h : genF F n elt [] ρ = some out) (k : ∀ d, evE F n ρ elt = some d → out = [d] → P) : P := ob h fun d h1 h2 => k d h1 (sj h2).symm
theorem genF_cons {elt : PE} {x : Nat} {it : PE} {ifs : List PE} {rest : List (Nat × PE × List PE)} {out : List D} {P : Prop} (h : genF F n elt ((x, it, ifs) :: rest) ρ = some out)
    (k : ∀ ds parts, (ρ.lookup x).isSome = false → evI F n ρ it = some ds → mapO (turnD F n elt x ifs rest ρ) ds = some parts → out = parts.flatten → P) : P :=
  gdo h fun h0 h => ob h fun ds h1 h => ob h fun parts h2 h => k ds parts (by cases e : ρ.lookup x with
    | none => rfl
    | some _ => rw [e] at h0; cases h0) h1 h2 (sj h).symm

theorem codeAny_compStart_at {elt : Expr} {gens : List Comprehension} {scope : Scope} {pos : Pos} {depth : Nat} {it acc : Value} {env : Env} {g : Comprehension} {R : Result → Shared → Prop} (hg : gens[depth]? = some g) (ha : g.is_async = 0)
    (h0 : codeAny (model prog w) A (.compLoop (.ListComp elt gens scope pos) depth it acc env) R s)
    (h : wpAny (model prog w) A (pyIter it) (fun it' s' => codeAny (model prog w) A (.compLoop (.ListComp elt gens scope pos) depth it' acc env) R s')
      (notedBy (model prog w) A env fun x s' => R (.error x) s') s) :
    codeAny (model prog w) A (.compStart (.ListComp elt gens scope pos) depth it acc env) R s := by
  refine codeAny_of_tree ?_
  show wpAny _ _ ((compStart (.ListComp elt gens scope pos) depth it acc env).onRaise (fun x => do noteFrame x env; standAt theWindowsPlace)) _ _ s
  refine wpAny_notedAt ?_
  unfold compStart
  have e1 : (clausesOf (Expr.ListComp elt gens scope pos))[depth]? = some g := hg
  rw [e1]
  simp only [Option.elim, ha]
  show wpAny _ _ (ask >>= _) _ _ s
  refine wpAny_bind (wpAny_askSetting (wpAny_ite ?_))
  split
  · first
      | exact wpAny_bind (wpAny_pure (wpAny_pure (And.intro rfl h0)))
      | exact wpAny_pure (And.intro rfl h0)
  · first
      | exact wpAny_bind (wpAny_rule (wpAny_bind (wpAny_standAt (wpAny_bind (wpAny_mono h (fun it' s' h' => wpAny_pure (And.intro rfl h')) fun _ _ x => x)))))
      | (refine wpAny_bind (wpAny_rule ?_); show wpAny _ _ (standAt g.iter.pos >>= _) _ _ s; exact wpAny_bind (wpAny_standAt (wpAny_bind (wpAny_mono h (fun it' s' h' => wpAny_pure (And.intro rfl h')) fun _ _ x => x))))
end
end Ev
namespace Ev
open PySem PySem.Calls PyProof.Rows

section
variable [Base] {prog : Program} {w : World} {C : Cx} {F : Nat → List D → Option D} {B : Heap} {mg : Str → Option Value} {kF : Nat}
  {sc : Scope} {ρ : Rho} {env : Env} {W : Addr → Prop} {A : Around} {s : Shared} {E : Value → Shared → Prop} {n m : Nat}

theorem RepO.keepB {X : Addr → Prop} {h h' : Heap} (k : KHB X h h') (hX : ∀ a, X a → W a) {i : Nat} {d : D} {v : Value} (ho : C.O.contains i = false) (r : RepO prog w C W h i d v) : RepO prog w C W h' i d v :=
  ⟨r.1.mono (k.more hX) (r.2 ho), r.2⟩

theorem EnvS.keepB {X : Addr → Prop} {h h' : Heap} (k : KHB X h h') (hX : ∀ a, X a → W a) (no : NoOwn C env) (hL : ¬ X env.locals) (hc : ∀ x c, isCell (env.kindOf x) = true → env.cells.lookup x = some c → ¬ X c)
    (ke : EnvS prog w C mg W env ρ h) : EnvS prog w C mg W env ρ h' := by
  obtain ⟨m0, hm0, hloc⟩ := ke.ns
  refine ⟨ke.kf, ke.gl, ke.bl, ⟨m0, Ns.kp hm0 fun o e => k _ o hL e, fun y j d' h1 h2 h3 => ?_⟩, fun y j d' h1 h2 h3 => ?_, fun y e => let ⟨c, a, _, b⟩ := ke.cov y e; ⟨c, a, (k _ _ (hc y c e a) b).there⟩, fun y j d' h1 h2 h3 => ?_⟩
  · obtain ⟨v, a, b⟩ := hloc y j d' h1 h2 h3
    exact ⟨v, a, b.keepB k hX (no y j h1 (.inl h2))⟩
  · obtain ⟨c, v, a, e, b⟩ := ke.cl y j d' h1 h2 h3
    exact ⟨c, v, a, IsCell.kp e fun o e => k _ _ (hc y c h2 a) e, b.keepB k hX (no y j h1 (.inr h2))⟩
  · obtain ⟨v, a, b⟩ := ke.gv y j d' h1 h2 h3
    exact ⟨v, a, b.mono (k.more hX)⟩

theorem Wok.keepB {X : Addr → Prop} {h h' : Heap} (k : KHB X h h') (hx : ∀ a, X a → ∃ o, h'.get? a = some o) (x : Wok W h) : Wok W h' := fun a ha => by
  by_cases q : X a
  · exact hx a q
  · obtain ⟨o, e⟩ := x a ha
    exact (k _ _ q e).there

theorem take_succ_flat {α : Type} {l : List (List α)} {j : Nat} {p : List α} (h : l[j]? = some p) : (l.take (j + 1)).flatten = (l.take j).flatten ++ p := by
  rw [List.take_add_one, h]; simp

theorem mapO_get {α β : Type} {f : α → Option β} : ∀ {as : List α} {bs : List β} {j : Nat} {a : α}, mapO f as = some bs → as[j]? = some a → ∃ b, bs[j]? = some b ∧ f a = some b
  | [], _, _, _, _, e => by simp at e
  | a :: as, bs, 0, a', h, e => mapO_o h fun b cs h1 _ e1 => ⟨b, by rw [e1]; rfl, (sj e : a = a') ▸ h1⟩
  | a :: as, bs, j + 1, a', h, e => mapO_o h fun b cs _ h2 e1 => by
    obtain ⟨b', q1, q2⟩ := mapO_get h2 e
    exact ⟨b', by rw [e1]; exact q1, q2⟩

/-- a clause looked at -/
structure ClOk (C : Cx) (m1 : Nat) (sc0 sc' : Scope) (cs : List Comprehension) (x : Str) (iter : Expr) (ifs : List Expr) (i : Nat) (pi : PE) (ps : List PE) (rest : List (Nat × PE × List PE)) : Prop where
  loc : sc'.names.lookup x = some .local
  ix : idx C.names x = some i
  ow : C.O.contains i = false
  gl : C.gl.contains i = false
  it : cI C m1 sc0 iter = some pi
  fs : mapO (cE C m1 sc') ifs = some ps
  rs : cG C m1 sc' sc' cs = some rest
theorem cG_o {P : Prop} {m0 : Nat} {sc0 sc' : Scope} {c : Comprehension} {cs : List Comprehension} {gs : List (Nat × PE × List PE)} (h : cG C m0 sc0 sc' (c :: cs) = some gs)
    (k : ∀ m1 x px iter ifs i pi ps rest, m0 = m1 + 1 → c = ⟨.Name x px, iter, ifs, 0⟩ → gs = (i, pi, ps) :: rest → ClOk C m1 sc0 sc' cs x iter ifs i pi ps rest → P) : P := by
  cases m0 with
  | zero => exact dead h
  | succ m1 =>
    obtain ⟨t, iter, ifs, as⟩ := c
    refine ob h fun x hx h => gdo h fun h1 h => and_o h1 fun ha hl => ob h fun i hi h => gdo h fun ho h => ob h fun pi hpi h => ob h fun ps hps h => ob h fun rest hr h => nameO_o hx fun px e => ?_
    have ho := Bool.or_eq_false_iff.mp (not_o ho)
    refine k m1 x px iter ifs i pi ps rest rfl ?_ (sj h).symm ⟨beq_iff_eq.mp hl, hi, ho.1, ho.2, hpi, hps, hr⟩
    rw [show t = .Name x px from e, show as = 0 from beq_iff_eq.mp ha]
end
end Ev
namespace Ev
open PySem PySem.Calls PyProof.Rows

section
variable [Base] {prog : Program} {w : World} {C : Cx} {F : Nat → List D → Option D} {B : Heap} {mg : Str → Option Value} {kF : Nat}
  {A : Around} {n : Nat}

noncomputable def bodyTree (elt : Expr) (gens : List Comprehension) (scope : Scope) (pos : Pos) (depth : Nat) (acc : Value) (env : Env) (K : Sem Fin) : Sem Fin :=
  match gens[depth + 1]? with
  | some g' => do
    let x ← eval g'.iter env
    standAt g'.iter.pos
    if (g'.is_async != 0) = true then do
      let x ← foldedIterable g'.iter x
      let y ← holding [x] (if (g'.is_async != 0) = true then asyncIter x else pyIter x)
      let _ ← runOwn (.compStart (.ListComp elt gens scope pos) (depth + 1) y acc env) env
      K
    else do
      let x ← foldedSetIterable g'.iter env x
      let y ← holding [x] (if (g'.is_async != 0) = true then asyncIter x else pyIter x)
      let _ ← runOwn (.compStart (.ListComp elt gens scope pos) (depth + 1) y acc env) env
      K
  | none => do
    (do
      let y ← eval elt env
      let _ ← call (.builtin "list.append") [acc, y]
      pure PUnit.unit)
    K

/-- the loop's own places -/
noncomputable def LX (l d : Addr) (wr : List Addr) (b : Addr) : Prop := b = l ∨ b = d ∨ b ∈ wr
/-- the block's frame -/
structure Cz (C : Cx) (cenv : Env) (dD : Addr) : Prop where
  no : NoOwn C cenv
  ne : dD ≠ cenv.locals
  cl : ∀ x c, isCell (cenv.kindOf x) = true → cenv.cells.lookup x = some c → c ≠ dD ∧ c ≠ cenv.locals
section
variable (prog : Program) (w : World) (C : Cx) (B : Heap) (mg : Str → Option Value) (kF : Nat) (A : Around) (cenv : Env) (dD : Addr)
/-- how a loop may begin -/
structure Lp (sc' : Scope) (ρ : Rho) (ds : List D) (W : Addr → Prop) (s : Shared) (acc : List D) (ys : List Value) (I : Addr) (fp wr : List Addr) (P : Nat → Value → Prop) (St : Nat → Heap → Prop) : Prop where
  wk : Walks prog w A I fp wr ds.length P St
  st : St 0 s.heap
  pv : ∀ i v, P i v → ∃ d, ds[i]? = some d ∧ Rep prog w W s.heap d v
  wW : ∀ b ∈ wr, W b
  ob : ∀ i h, St i h → ∀ b ∈ fp, ∃ o, h.get? b = some o ∧ o.cls ≠ .type "frame"
  wC : W cenv.locals
  wD : W dD
  dF : dD ∉ fp
  cF : cenv.locals ∉ fp
  cw : ∀ x c, isCell (cenv.kindOf x) = true → cenv.cells.lookup x = some c → c ∉ wr
  fr : C.exc = true → ∀ b, IsFr A b → ¬ LX cenv.locals dD wr b
  hy : Hy prog w C B mg kF W cenv sc' ρ A s
  hl : s.heap.IsList dD ys.toArray
  hr : Reps prog w W s.heap acc ys
/-- what holds behind so many items -/
structure LOut (ρ : Rho) (W : Addr → Prop) (wr : List Addr) (s : Shared) (acc : List D) (s' : Shared) : Prop where
  kp : KpB (LX cenv.locals dD wr) s s'
  ke : EnvS prog w C mg W cenv ρ s'.heap
  ls : ∃ ys : List Value, s'.heap.IsList dD ys.toArray ∧ Reps prog w W s'.heap acc ys
  wk : ∀ W0 : Addr → Prop, (∀ a, W0 a → W a ∧ a ∉ wr) → Wok W0 s'.heap
/-- what an inner part may rely on, and what it has to do -/
noncomputable def BodyOk (F : Nat → List D → Option D) (n : Nat) (elt : Expr) (gens : List Comprehension) (scope : Scope) (pos : Pos) (sc' : Scope) (pelt : PE) (rest : List (Nat × PE × List PE)) (depth : Nat) (W : Addr → Prop) (ρ : Rho) : Prop :=
  ∀ (out : List D) (s₃ : Shared) (acc : List D) (ys : List Value) (E : Value → Shared → Prop) (K : Sem Fin) (Q : Fin → Shared → Prop), genF F n pelt rest ρ = some out → Hy prog w C B mg kF W cenv sc' ρ A s₃ →
    s₃.heap.IsList dD ys.toArray → Reps prog w W s₃.heap acc ys → (acc ++ out).length ≤ 16777215 →
    (∀ s₄, LOut prog w C mg cenv dD ρ W [] s₃ (acc ++ out) s₄ → wpAny (model prog w) A K Q E s₄) →
    wpAny (model prog w) A (bodyTree elt gens scope pos depth (.ref dD) cenv K) Q E s₃
end

section
variable {cenv : Env} {dD : Addr} {sc' : Scope} {ρ : Rho} {ds : List D} {W : Addr → Prop} {s : Shared} {acc : List D} {ys : List Value} {I : Addr} {fp wr : List Addr} {P : Nat → Value → Prop} {St : Nat → Heap → Prop}

theorem Lp.xW (H : Lp prog w C B mg kF A cenv dD sc' ρ ds W s acc ys I fp wr P St) : ∀ a, LX cenv.locals dD wr a → W a := fun a h => h.elim (fun e => e ▸ H.wC) fun h => h.elim (fun e => e ▸ H.wD) (H.wW a)

/-- an item taken and named -/
theorem turn_named (z : Cz C cenv dD) {xs : Str} {px : Pos} {x : Nat} (hk : cenv.kindOf xs = some .local) (hi : idx C.names xs = some x) (hO : C.O.contains x = false) (hgl : C.gl.contains x = false)
    (H : Lp prog w C B mg kF A cenv dD sc' ρ ds W s acc ys I fp wr P St) {j : Nat} {acc' : List D} {s' : Shared} (hj : j < ds.length) (st : St j s'.heap) (wkk : Wok W s'.heap) (o : LOut prog w C mg cenv dD ρ W wr s acc' s')
    {Q : Fin → Shared → Prop} {E : Value → Shared → Prop} {f : Sem Fin} {g : Sem Fin}
    (hQ : ∀ d s₂ ys', ds[j]? = some d → St (j + 1) s₂.heap → KpB (LX cenv.locals dD wr) s s₂ → Hy prog w C B mg kF W cenv sc' ((x, d) :: ρ) A s₂ → s₂.heap.IsList dD ys'.toArray → Reps prog w W s₂.heap acc' ys' → wpAny (model prog w) A f Q E s₂) :
    wpAny (model prog w) A (pyNext (.ref I) >>= fun r => match r with | none => g | some v => (do letOwnedTupleGo (.Name xs px) (.ref I) v; assign (.Name xs px) cenv v; f)) Q E s' := by
  have hXW := Lp.xW H
  obtain ⟨Wk, _, hP, hwr, hob, hWC, _, hDf, hCf, hcw, hFr, hy, _, _⟩ := H
  have hDw : dD ∉ wr := fun h => hDf (Wk.sub _ h)
  have hCw : cenv.locals ∉ wr := fun h => hCf (Wk.sub _ h)
  obtain ⟨kp, ke, ⟨ys', hl', hr'⟩, _⟩ := o
  refine wpAny_bind (Wk.item j s' _ _ hj st fun v h₁ tk₁ hPv st₁ kk₁ => ?_)
  obtain ⟨d, hd, rd⟩ := hP j v hPv
  have kB₁ : KHB (fun b => b ∈ wr) s'.heap h₁ := fun b o hb e => .of (kk₁ b o hb e)
  have kX₁ : KpB (LX cenv.locals dD wr) s { s' with heap := h₁, toks := tk₁ } := kp.trans ⟨⟨_, _, rfl⟩, kB₁.more fun a h => .inr (.inr h)⟩
  have ke₁ : EnvS prog w C mg W cenv ρ h₁ := ke.keepB kB₁ hwr z.no hCw hcw
  obtain ⟨m₁, hns₁, _⟩ := id ke₁.ns
  refine wpAny_bind (wpAny_of_eq rfl ?_)
  refine wpAny_bind (wpAny_assign_Name (wpAny_storeName_local hk hns₁ (fun h₂ hns₂ hs₂ => ?_) (by rw [ke₁.kf]; rfl)))
  have kB₂ : KHB (fun b => b = cenv.locals) h₁ h₂ := fun b o hb e => .of (hs₂.extBut b o hb e)
  have kX₂ : KpB (LX cenv.locals dD wr) s { s' with heap := h₂, toks := tk₁ + 1 } := kX₁.trans ⟨⟨_, _, rfl⟩, kB₂.more fun a h => .inl h⟩
  have st₂ : St (j + 1) h₂ := Wk.frame _ _ _ st₁ fun b hb o e => hs₂.extBut b o (fun h => hCf (h ▸ hb)) e
  have rd₂ : Rep prog w W h₂ d v := rd.mono (kX₂.keep.more hXW)
  have ke₂ : EnvS prog w C mg W cenv ((x, d) :: ρ) h₂ := EnvS.set ke₁ hi hgl hk hO hWC hs₂ hns₁ hns₂ rd₂ fun y j' d' v' e1 e2 e3 _ => absurd e3 (by rw [z.no y j' e1 e2]; exact Bool.false_ne_true)
  have kW : KHB (fun b => b = cenv.locals ∨ b ∈ wr) s'.heap h₂ := fun b o hb e => Kept.trans (kB₁ b o (fun q => hb (.inr q)) e) fun _ e' => kB₂ b _ (fun q => hb (.inl q)) e'
  have hbk₂ : KE B h₂ := hy.bk.on' hy.eb fun b o eB e => kX₂.keep b o (fun q => absurd ((hy.wb b (hXW b q)).symm.trans eB) nofun) e
  refine hQ d { s' with heap := h₂, toks := tk₁ + 1 } ys' hd st₂ kX₂ ⟨ke₂, hy.mt, hy.ok, ?_, hy.wb, hbk₂, hy.eb, fun e => (hy.fr e).keepB kX₂.keep (hFr e)⟩ ?_ (hr'.mono (kW.more fun a h => h.elim (fun e => e ▸ hWC) (hwr a)))
  · refine wkk.keepB kW fun a ha => ?_
    rcases ha with rfl | ha
    · obtain ⟨o, _, _, e, _⟩ := hns₂; exact ⟨o, e⟩
    · obtain ⟨o, e, _⟩ := hob _ _ st₂ a (Wk.sub a ha); exact ⟨o, e⟩
  · exact hl'.at fun o e => hs₂.extBut _ o z.ne (kk₁ _ o hDw e)

theorem flat_le {α : Type} {l : List (List α)} {acc part : List α} {j : Nat} (h : l[j]? = some part) (hl : (acc ++ l.flatten).length ≤ 16777215) : (acc ++ (l.take j).flatten ++ part).length ≤ 16777215 := by
  rw [List.append_assoc, ← take_succ_flat h]
  have h1 : ((l.take (j + 1)).flatten).length ≤ l.flatten.length := by
    have := congrArg List.length (congrArg List.flatten (List.take_append_drop (j + 1) l))
    rw [List.flatten_append, List.length_append] at this
    omega
  rw [List.length_append] at hl ⊢
  omega
theorem tail_take {α : Type} {l : List (List α)} {acc part : List α} {j : Nat} (h : l[j]? = some part) : acc ++ (l.take j).flatten ++ part = acc ++ (l.take (j + 1)).flatten := by rw [take_succ_flat h, List.append_assoc]

theorem loop_turn (IT : SndT prog w C F B mg kF n) {elt : Expr} {gens : List Comprehension} {scope : Scope} {pos : Pos} {pelt : PE} (z : Cz C cenv dD)
    {depth : Nat} {xs : Str} {px : Pos} {iter : Expr} {ifs : List Expr} (hg : gens[depth]? = some ⟨.Name xs px, iter, ifs, 0⟩) {x : Nat} {pifs : List PE} {rest : List (Nat × PE × List PE)} {m1 : Nat}
    (hk : cenv.kindOf xs = some .local) (hi : idx C.names xs = some x) (hO : C.O.contains x = false) (hgl : C.gl.contains x = false) (hifs : mapO (cE C m1 sc') ifs = some pifs)
    {parts : List (List D)} (hρ : (ρ.lookup x).isSome = false) (hm : mapO (turnD F n pelt x pifs rest ρ) ds = some parts)
    (H : Lp prog w C B mg kF A cenv dD sc' ρ ds W s acc ys I fp wr P St) (hlen : (acc ++ parts.flatten).length ≤ 16777215)
    (body : ∀ d, BodyOk prog w C B mg kF A cenv dD F n elt gens scope pos sc' pelt rest depth W ((x, d) :: ρ))
    {j : Nat} {s' : Shared} (hj : j < ds.length) (st : St j s'.heap) (wkk : Wok W s'.heap) (o : LOut prog w C mg cenv dD ρ W wr s (acc ++ (parts.take j).flatten) s')
    {Q : Fin → Shared → Prop} {E : Value → Shared → Prop}
    (hQ : ∀ s₄, St (j + 1) s₄.heap → Wok W s₄.heap → LOut prog w C mg cenv dD ρ W wr s (acc ++ (parts.take (j + 1)).flatten) s₄ → Q (.again (.compLoop (.ListComp elt gens scope pos) depth (.ref I) (.ref dD) cenv)) s₄) :
    wpAny (model prog w) A (compTurn (.ListComp elt gens scope pos) depth (.ref I) (.ref dD) cenv) Q E s' := by
  rw [compTurn_eq elt gens scope pos depth (.ref I) (.ref dD) cenv hg]
  refine wpAny_bind (wpAny_standAt ?_)
  refine turn_named z hk hi hO hgl H hj st wkk o fun d s₂ ys' hd st₂ kX₂ hy₂ hl₂ hr₂ => cps fun P' k' => ?_
  obtain ⟨part, hpart, hturn⟩ := mapO_get hm hd
  have Wk := H.wk
  have hob := H.ob
  have fin : ∀ s₄ ys'', KpB (LX cenv.locals dD wr) s s₄ → St (j + 1) s₄.heap → EnvS prog w C mg W cenv ((x, d) :: ρ) s₄.heap → s₄.heap.IsList dD ys''.toArray → Reps prog w W s₄.heap (acc ++ (parts.take j).flatten ++ part) ys'' → Wok W s₄.heap →
      Q (.again (.compLoop (.ListComp elt gens scope pos) depth (.ref I) (.ref dD) cenv)) s₄ := fun s₄ ys'' k st₄ ke hl hr wk =>
    hQ s₄ st₄ wk ⟨k, ke.drop hρ, ⟨ys'', hl, tail_take hpart ▸ hr⟩, fun W0 h a ha => wk a (h a ha).1⟩
  refine ob hturn fun b hb hturn => k' ?_
  refine wpAny_bind (wpAny_mono (tests_sound IT hifs hb hy₂) (fun ok s₃ q₃ => cps fun P' k' => ?_) fun _ _ e => e)
  obtain ⟨rfl, k₃⟩ := q₃
  have hy₃ := hy₂.kp k₃
  have st₃ : St (j + 1) s₃.heap := frameK Wk hob st₂ fun b _ o e => k₃.keep b o e
  have kX₃ := kX₂.trans (k₃.toB (X := LX cenv.locals dD wr))
  have hl₃ : s₃.heap.IsList dD ys'.toArray := IsList.kp hl₂ fun o e => k₃.keep _ _ e
  have hr₃ := hr₂.keep k₃.keep
  cases ok with
  | false =>
    obtain rfl := sj hturn
    exact k' (wpAny_bind (wpAny_pure (wpAny_pure (fin s₃ ys' kX₃ st₃ hy₃.ke hl₃ ((List.append_nil _).symm ▸ hr₃) hy₃.wk))))
  | true =>
    refine k' (body d part s₃ _ ys' _ (again (.compLoop (.ListComp elt gens scope pos) depth (.ref I) (.ref dD) cenv)) _ hturn hy₃ hl₃ hr₃ (flat_le hpart hlen) fun s₄ o₄ => wpAny_pure ?_)
    obtain ⟨k₄, ke₄, ⟨ys'', hl₄, hr₄⟩, hwk₄⟩ := o₄
    refine fin s₄ ys'' (kX₃.trans (k₄.more fun a h => h.elim .inl fun h => h.elim (fun h => .inr (.inl h)) nofun)) ?_ ke₄ hl₄ hr₄ (hwk₄ W fun a h => ⟨h, nofun⟩)
    exact frameK Wk hob st₃ fun b hb o e => k₄.keep b o (fun q => q.elim (fun q => H.cF (q ▸ hb)) fun q => q.elim (fun q => H.dF (q ▸ hb)) nofun) e

theorem loop_done {elt : Expr} {gens : List Comprehension} {scope : Scope} {pos : Pos} (z : Cz C cenv dD) {depth : Nat} {xs : Str} {px : Pos} {iter : Expr} {ifs : List Expr} (hg : gens[depth]? = some ⟨.Name xs px, iter, ifs, 0⟩)
    (H : Lp prog w C B mg kF A cenv dD sc' ρ ds W s acc ys I fp wr P St) {acc' : List D} {s' : Shared} (st : St ds.length s'.heap) (wkk : Wok W s'.heap) (o : LOut prog w C mg cenv dD ρ W wr s acc' s')
    {Q : Fin → Shared → Prop} {E : Value → Shared → Prop} (hQ : ∀ s₁, LOut prog w C mg cenv dD ρ W wr s acc' s₁ → Q (.done .next) s₁) :
    wpAny (model prog w) A (compTurn (.ListComp elt gens scope pos) depth (.ref I) (.ref dD) cenv) Q E s' := by
  rw [compTurn_eq elt gens scope pos depth (.ref I) (.ref dD) cenv hg]
  refine wpAny_bind (wpAny_standAt (wpAny_bind (H.wk.done s' _ _ st fun h₁ tk₁ kk₁ => wpAny_pure (hQ _ ?_))))
  obtain ⟨kp, ke, ⟨ys', hl', hr'⟩, _⟩ := o
  have kB₁ : KHB (fun b => b ∈ wr) s'.heap h₁ := fun b o hb e => .of (kk₁ b o hb e)
  exact ⟨kp.trans ⟨⟨_, _, rfl⟩, kB₁.more fun a h => .inr (.inr h)⟩, ke.keepB kB₁ H.wW z.no (fun h => H.cF (H.wk.sub _ h)) H.cw, ⟨ys', hl'.at fun o e => kk₁ _ o (fun h => H.dF (H.wk.sub _ h)) e, hr'.mono (kB₁.more H.wW)⟩,
    fun W0 h0 a ha => let ⟨o, e⟩ := wkk a (h0 a ha).1; ⟨o, kk₁ a o (h0 a ha).2 e⟩⟩

theorem loop_core (IT : SndT prog w C F B mg kF n) {elt : Expr} {gens : List Comprehension} {scope : Scope} {pos : Pos} {pelt : PE} (z : Cz C cenv dD)
    {depth : Nat} {xs : Str} {px : Pos} {iter : Expr} {ifs : List Expr} (hg : gens[depth]? = some ⟨.Name xs px, iter, ifs, 0⟩) {x : Nat} {pifs : List PE} {rest : List (Nat × PE × List PE)} {m1 : Nat}
    (hk : cenv.kindOf xs = some .local) (hi : idx C.names xs = some x) (hO : C.O.contains x = false) (hgl : C.gl.contains x = false) (hifs : mapO (cE C m1 sc') ifs = some pifs)
    {parts : List (List D)} (hρ : (ρ.lookup x).isSome = false) (hm : mapO (turnD F n pelt x pifs rest ρ) ds = some parts)
    (H : Lp prog w C B mg kF A cenv dD sc' ρ ds W s acc ys I fp wr P St) (hlen : (acc ++ parts.flatten).length ≤ 16777215)
    (body : ∀ d, BodyOk prog w C B mg kF A cenv dD F n elt gens scope pos sc' pelt rest depth W ((x, d) :: ρ))
    {R : Result → Shared → Prop} (hR : ∀ s', LOut prog w C mg cenv dD ρ W wr s (acc ++ parts.flatten) s' → R (.ok .next) s') :
    codeAny (model prog w) A (.compLoop (.ListComp elt gens scope pos) depth (.ref I) (.ref dD) cenv) R s := by
  refine codeAny_loop rfl (fun q s' => ∃ j, q = ds.length - j ∧ j ≤ ds.length ∧ St j s'.heap ∧ Wok W s'.heap ∧ LOut prog w C mg cenv dD ρ W wr s (acc ++ (parts.take j).flatten) s') (fun q s' inv => wpAny_noted (cps fun P' k => ?_)) ds.length
    ⟨0, rfl, Nat.zero_le _, H.st, H.hy.wk, KpB.refl _ _, H.hy.ke, ⟨ys, H.hl, (List.append_nil acc).symm ▸ H.hr⟩, fun W0 h a ha => H.hy.wk a (h a ha).1⟩
  obtain ⟨j, e, hj, st, wkk, o⟩ := inv
  by_cases hjk : j < ds.length
  · exact k (loop_turn IT z hg hk hi hO hgl hifs hρ hm H hlen body hjk st wkk o fun s₄ st₄ wk₄ o₄ => ⟨rfl, ds.length - (j + 1), e ▸ Nat.sub_lt_sub_left hjk (Nat.lt_succ_self j), j + 1, rfl, hjk, st₄, wk₄, o₄⟩)
  · have hjk' : j = ds.length := Nat.le_antisymm hj (Nat.not_lt.mp hjk)
    rw [show parts.take j = parts from List.take_of_length_le (Nat.le_of_eq ((mapO_length hm).trans hjk'.symm))] at o
    rw [hjk'] at st
    exact k (loop_done z hg H st wkk o fun s₁ o => hR s₁ o)
end
end
end Ev
namespace Ev
open PySem PySem.Calls PyProof.Rows

section
variable [Base] {prog : Program} {w : World} {C : Cx} {F : Nat → List D → Option D} {B : Heap} {mg : Str → Option Value} {kF : Nat}
  {A : Around} {n : Nat}

theorem Hy.more {W W' : Addr → Prop} {env : Env} {sc : Scope} {ρ : Rho} {s₀ s : Shared} (hy : Hy prog w C B mg kF W env sc ρ A s₀) (k : Kp s₀ s) (i : ∀ a, W' a → W a ∨ (s₀.heap.get? a = none ∧ ∃ o, s.heap.get? a = some o)) : Hy prog w C B mg kF W' env sc ρ A s := by
  refine ⟨(hy.ke.more fun a h => (i a h).imp id fun q => q.1).keep k.keep, hy.mt, hy.ok, fun a h => ?_, fun a h => ?_, hy.bk.on hy.eb k.keep, hy.eb, fun e => (hy.fr e).keep k.keep⟩
  · rcases i a h with q | q
    · exact (hy.wk.mono k.keep) a q
    · exact q.2
  · rcases i a h with q | q
    · exact hy.wb a q
    · cases e : B.get? a with
      | none => rfl
      | some o => rw [hy.bk _ _ e] at q; cases q.1

/-- the turns that are left to the clauses cs -/
noncomputable def ClausesOk (prog : Program) (w : World) (C : Cx) (B : Heap) (mg : Str → Option Value) (kF : Nat) (A : Around) (cenv : Env) (dD : Addr) (F : Nat → List D → Option D) (n : Nat) (elt : Expr) (gens : List Comprehension) (scope : Scope) (pos : Pos) (sc' : Scope) (pelt : PE) (cs : List Comprehension) : Prop :=
  ∀ (pre : List Comprehension) (c : Comprehension) (rest : List (Nat × PE × List PE)) (m1 : Nat), gens = pre ++ c :: cs → cG C m1 sc' sc' cs = some rest → ∀ (W : Addr → Prop) (ρ : Rho), W cenv.locals → W dD → (∀ b, C.exc = true → IsFr A b → ¬ (b = cenv.locals ∨ b = dD)) →
    BodyOk prog w C B mg kF A cenv dD F n elt gens scope pos sc' pelt rest pre.length W ρ

theorem body_nil (IE : SndE prog w C F B mg kF n) {elt : Expr} {gens : List Comprehension} {scope : Scope} {pos : Pos} {sc' : Scope} {pelt : PE} {mE : Nat} (helt : cE C mE sc' elt = some pelt) {cenv : Env} {dD : Addr} (z : Cz C cenv dD) :
    ClausesOk prog w C B mg kF A cenv dD F n elt gens scope pos sc' pelt [] := by
  intro pre c rest m1 hgs hG W ρ hWC hWD _ out s₃ acc' ys' E K Q hgo hy₃ hl₃ hr₃ hlen' hK
  have hr0 : rest = [] := by
    cases m1 with
    | zero => exact dead hG
    | succ _ => exact (sj hG).symm
  subst hr0
  have hg1 : gens[pre.length + 1]? = none := by rw [hgs]; simp
  refine genF_nil hgo fun dv hv e => ?_
  subst e
  unfold bodyTree
  rw [hg1]
  refine wpAny_bind (wpAny_bind (wpAny_mono (IE mE sc' elt pelt _ dv cenv W A s₃ E helt hv hy₃) (fun v s₄ q₄ => ?_) fun _ _ e => e))
  have hl₄ : s₄.heap.IsList dD ys'.toArray := IsList.kp hl₃ fun o e => q₄.1.keep _ _ e
  have hz : ys'.toArray.size ≤ sizeLine := by
    have := hr₃.length
    rw [List.length_append] at hlen'
    simp only [List.size_toArray]
    rw [this, sizeLine]; omega
  refine wpAny_bind (wpAny_list_append hl₄ (fun h' hl' hs' => wpAny_pure (hK _ ?_)) hz)
  have kD : KHB (fun b => b = dD) s₄.heap h' := fun b o hb e => .of (hs'.extBut b o hb e)
  have kW := kD.more fun a (h : a = dD) => (h ▸ hWD : W a)
  refine ⟨(q₄.1.toB).trans ⟨⟨_, s₄.toks, rfl⟩, kD.more fun a h => .inr (.inl h)⟩, (hy₃.ke.keep q₄.1.keep).keepB kD (fun a h => h ▸ hWD) z.no (fun q => z.ne q.symm) fun y c h1 h2 => (z.cl y c h1 h2).1, ⟨ys' ++ [v], by simpa using hl', ((hr₃.keep q₄.1.keep).mono kW).append (.cons (q₄.2.mono kW) .nil)⟩, fun W0 h0 a ha => ?_⟩
  refine ((hy₃.wk.mono q₄.1.keep).keepB kD fun a ha => ?_) a (h0 a ha).1
  obtain ⟨o, e, _⟩ := hl'
  exact ⟨o, ha ▸ e⟩

/-- the new iterator's places go to the owned ones -/
theorem inner_lp {cenv : Env} {dD : Addr} {sc' : Scope} (z : Cz C cenv dD) {W : Addr → Prop} {ρ : Rho} {s₃ s₄ s₅ : Shared} {acc' : List D} {ys' : List Value} {xv : Value} {ds' : List D} {I' : Addr} {fp' wr' : List Addr} {P' : Nat → Value → Prop} {St' : Nat → Heap → Prop}
    (hWC : W cenv.locals) (hWD : W dD) (hF : ∀ b, C.exc = true → IsFr A b → ¬ (b = cenv.locals ∨ b = dD)) (hy₄ : Hy prog w C B mg kF W cenv sc' ρ A s₄) (k₄ : Kp s₃ s₄) (hl₃ : s₃.heap.IsList dD ys'.toArray) (hr₃ : Reps prog w W s₃.heap acc' ys') (hoff : offW W xv) (k₅ : Kp s₄ s₅)
    (Wk' : Walks prog w A I' fp' wr' ds'.length P' St') (hst' : St' 0 s₅.heap) (hnew : ∀ b ∈ wr', s₄.heap.get? b = none) (hob' : ∀ i h, St' i h → ∀ b ∈ fp', ∃ o, h.get? b = some o ∧ o.cls ≠ .type "frame")
    (hfp' : ∀ b ∈ fp', b ∉ wr' → xv = .ref b ∧ ∃ o, s₄.heap.get? b = some o) (hP' : ∀ i v, P' i v → ∃ d, ds'[i]? = some d ∧ Rep prog w W s₄.heap d v) :
    Lp prog w C B mg kF A cenv dD sc' ρ ds' (fun a => W a ∨ a ∈ wr') s₅ acc' ys' I' fp' wr' P' St' := by
  have moreR : ∀ (a : Addr), (W a ∨ a ∈ wr') → W a ∨ s₄.heap.get? a = none := fun a ha => ha.imp id fun q => hnew a q
  have hDn : dD ∉ wr' := fun q => by
    obtain ⟨o, e, _⟩ := hl₃
    exact absurd ((k₄.keep.gone (hnew _ q)).symm.trans e) nofun
  have hCn : cenv.locals ∉ wr' := fun q => by
    obtain ⟨m, ⟨o, _, _, e, _⟩, _⟩ := hy₄.ke.ns
    exact absurd ((hnew _ q).symm.trans e) nofun
  refine ⟨Wk', hst', fun i v hv => ?_, fun b hb => .inr hb, hob', .inl hWC, .inl hWD, fun q => hoff _ (hfp' _ q hDn).1 hWD, fun q => hoff _ (hfp' _ q hCn).1 hWC, fun y c h1 h2 q => ?_, fun e b hb q => ?_, hy₄.more k₅ fun a ha => ?_,
    IsList.kp hl₃ fun o e => (k₄.trans k₅).keep _ _ e, ((hr₃.keep k₄.keep).more moreR).keep k₅.keep⟩
  · obtain ⟨d', e1, e2⟩ := hP' i v hv
    exact ⟨d', e1, (e2.more moreR).keep k₅.keep⟩
  · obtain ⟨c', a, o, b⟩ := hy₄.ke.cov y h1
    rw [h2] at a; cases a
    exact absurd ((hnew _ q).symm.trans b) nofun
  · exact q.elim (fun q => hF b e hb (.inl q)) fun q => q.elim (fun q => hF b e hb (.inr q)) fun q => (hy₄.fr e).notNone hb (hnew b q)
  · exact ha.imp id fun q => ⟨hnew a q, let ⟨o, e, _⟩ := hob' _ _ hst' a (Wk'.sub a q); ⟨o, e⟩⟩

theorem inner_out {cenv : Env} {dD : Addr} {sc' : Scope} {W : Addr → Prop} {ρ : Rho} {s₃ s₄ s₅ s' : Shared} {acc : List D} {wr' : List Addr} (hy₄ : Hy prog w C B mg kF W cenv sc' ρ A s₄) (k₄ : Kp s₃ s₄) (k₅ : Kp s₄ s₅) (hnew : ∀ b ∈ wr', s₄.heap.get? b = none)
    (o : LOut prog w C mg cenv dD ρ (fun a => W a ∨ a ∈ wr') wr' s₅ acc s') : LOut prog w C mg cenv dD ρ W [] s₃ acc s' := by
  obtain ⟨k', ke', ⟨ys'', hl', hr'⟩, hw'⟩ := o
  refine ⟨?_, ke'.less fun a h => .inl h, ⟨ys'', hl', hr'.less fun a h => .inl h⟩, fun W0 h0 => hw' W0 fun a ha => ⟨.inl (h0 a ha).1, fun q => ?_⟩⟩
  · have kk := (k₄.trans k₅)
    obtain ⟨h1, t1, e1⟩ := kk.same
    obtain ⟨h2, t2, e2⟩ := k'.same
    refine ⟨⟨h2, t2, by rw [e2, e1]⟩, fun b o hb e => ?_⟩
    refine Kept.trans (kk.keep b o e) fun _ e5 => k'.keep b _ (fun q => ?_) e5
    exact q.elim (fun q => hb (.inl q)) fun q => q.elim (fun q => hb (.inr (.inl q))) fun q => absurd ((k₄.keep.gone (hnew b q)).symm.trans e) nofun
  · obtain ⟨o, e⟩ := hy₄.wk a (h0 a ha).1
    exact absurd ((hnew a q).symm.trans e) nofun

theorem body_cons (IT : SndT prog w C F B mg kF n) (II : SndI prog w C F B mg kF n) {elt : Expr} {gens : List Comprehension} {scope : Scope} {pos : Pos} {sc' : Scope} {pelt : PE} {cenv : Env} {dD : Addr} (z : Cz C cenv dD)
    (hkl : ∀ x, sc'.names.lookup x = some .local → cenv.kindOf x = some .local) {c' : Comprehension} {cs : List Comprehension} (ih : ClausesOk prog w C B mg kF A cenv dD F n elt gens scope pos sc' pelt cs) :
    ClausesOk prog w C B mg kF A cenv dD F n elt gens scope pos sc' pelt (c' :: cs) := by
  intro pre c rest m1 hgs hG W ρ hWC hWD hF out s₃ acc' ys' E K Q hgo hy₃ hl₃ hr₃ hlen' hK
  refine cps fun P0 k0 => cG_o hG fun m2 xs' px' it' is' i' pi' ps' rest'' _ hc' hrs cl => ?_
  rw [hrs] at hgo
  have hg1 : gens[pre.length + 1]? = some ⟨.Name xs' px', it', is', 0⟩ := by rw [hgs, hc']; simp
  refine genF_cons hgo fun ds' parts' hρ' hds hp' e => k0 ?_
  unfold bodyTree
  rw [hg1]
  obtain ⟨hev, hfold⟩ := II m2 sc' it' pi' _ ds' cenv W A s₃ E cl.it hds hy₃
  refine wpAny_bind (wpAny_mono hev (fun xv s₄ q₄ => ?_) fun _ _ e => e)
  refine wpAny_bind (wpAny_standAt (wpAny_bind (wpAny_of_eq (hfold xv) (wpAny_bind (wpAny_holding ?_)))))
  have hy₄ := hy₃.kp q₄.1
  refine q₄.2.2.1 E _ fun I' fp' wr' k' P' St' s₅ k₅ Wk' hk' hst' hnew hob' hfp' hP' => ?_
  rw [hk'] at Wk'
  have H := inner_lp z hWC hWD hF hy₄ q₄.1 hl₃ hr₃ (q₄.2.2.2 z.no) k₅ Wk' hst' hnew hob' hfp' hP'
  rw [e] at hlen'
  have inner : ∀ R : Result → Shared → Prop, (∀ s', LOut prog w C mg cenv dD ρ (fun a => W a ∨ a ∈ wr') wr' s₅ (acc' ++ parts'.flatten) s' → R (.ok .next) s') →
      codeAny (model prog w) A (.compLoop (.ListComp elt gens scope pos) (pre.length + 1) (.ref I') (.ref dD) cenv) R s₅ := fun R hR =>
    loop_core IT z hg1 (hkl _ cl.loc) cl.ix cl.ow cl.gl cl.fs hρ' hp' H hlen' (fun d => by
      have hh := ih (pre ++ [c]) c' rest'' m2 (by rw [hgs]; simp) cl.rs (fun a => W a ∨ a ∈ wr') ((i', d) :: ρ) (.inl hWC) (.inl hWD) hF
      rwa [List.length_append] at hh) hR
  refine wpAny_bind (wpAny_runOwn (h := none) ?_)
  have fin : ∀ s', LOut prog w C mg cenv dD ρ (fun a => W a ∨ a ∈ wr') wr' s₅ (acc' ++ parts'.flatten) s' → wpAny (model prog w) A K Q E s' := fun s' o => hK s' (e ▸ inner_out hy₄ q₄.1 k₅ hnew o)
  exact codeAny_compStart_at hg1 rfl (inner _ fin) (Wk'.self 0 _ _ _ hst' (inner _ fin))

theorem clauses_ok (IE : SndE prog w C F B mg kF n) (IT : SndT prog w C F B mg kF n) (II : SndI prog w C F B mg kF n) {elt : Expr} {gens : List Comprehension} {scope : Scope} {pos : Pos} {sc' : Scope} {pelt : PE} {mE : Nat} (helt : cE C mE sc' elt = some pelt)
    {cenv : Env} {dD : Addr} (z : Cz C cenv dD) (hkl : ∀ x, sc'.names.lookup x = some .local → cenv.kindOf x = some .local) : ∀ cs, ClausesOk prog w C B mg kF A cenv dD F n elt gens scope pos sc' pelt cs
  | [] => body_nil IE helt z
  | _ :: cs => body_cons IT II z hkl (clauses_ok IE IT II helt z hkl cs)
end
end Ev
namespace Ev
open PySem PySem.Calls PyProof.Rows

section
variable [Base] {prog : Program} {w : World} {C : Cx} {F : Nat → List D → Option D} {B : Heap} {mg : Str → Option Value} {kF : Nat}
  {sc : Scope} {ρ : Rho} {env : Env} {W : Addr → Prop} {A : Around} {s : Shared} {E : Value → Shared → Prop} {n m : Nat}

noncomputable def clF (cells : List (Str × Addr)) : List (Str × NameKind) → List (Str × Addr) → List (Str × Addr)
  | [], acc => acc
  | (x, k) :: r, acc => if k == .free then clF cells r ((x, (cells.lookup x).getD 0) :: acc) else clF cells r acc
theorem closure_forIn {env : Env} : ∀ (names : List (Str × NameKind)) (acc : List (Str × Addr)), (∀ x, (x, NameKind.free) ∈ names → ∃ c, env.cells.lookup x = some c) →
    forIn (m := Sem) names acc (fun x r => if (x.2 == NameKind.free) = true then do let a ← cellOf env x.1; pure (ForInStep.yield ((x.1, a) :: r)) else pure (ForInStep.yield r)) = pure (clF env.cells names acc) := by
  intro names
  induction names with
  | nil => intro acc _; rfl
  | cons y names ih =>
    intro acc h
    obtain ⟨x, k⟩ := y
    rw [List.forIn_cons]
    simp only [clF]
    split
    · rename_i hk
      have hk' : k = .free := by simpa using hk
      subst hk'
      obtain ⟨c, hc⟩ := h x List.mem_cons_self
      have : cellOf env x = pure c := by unfold cellOf; rw [hc]
      rw [this, hc]
      simp only [Option.getD_some]
      exact ih _ fun y hy => h y (List.mem_cons_of_mem _ hy)
    · exact ih _ fun y hy => h y (List.mem_cons_of_mem _ hy)
theorem closureFor_eq {scope : Scope} {env : Env} (h : ∀ x, (x, NameKind.free) ∈ scope.names → ∃ c, env.cells.lookup x = some c) : closureFor scope env = pure (clF env.cells scope.names []) := by
  unfold closureFor
  have := closure_forIn scope.names [] h
  show (forIn (m := Sem) scope.names ([] : List (Str × Addr)) _ >>= _) = _
  refine (congrArg (fun t => t >>= _) ?_).trans (b := pure (clF env.cells scope.names []) >>= fun r => pure r) rfl
  exact this

theorem clF_lookup {cells : List (Str × Addr)} : ∀ (names : List (Str × NameKind)) (acc : List (Str × Addr)), (∀ x, (x, NameKind.free) ∈ names → ∃ c, cells.lookup x = some c) → (∀ x c, acc.lookup x = some c → cells.lookup x = some c) →
    (∀ x c, (clF cells names acc).lookup x = some c → cells.lookup x = some c) ∧ (∀ x, (x, NameKind.free) ∈ names ∨ (acc.lookup x).isSome = true → ((clF cells names acc).lookup x).isSome = true)
  | [], acc, _, ha => ⟨ha, fun x h => by rcases h with h | h; cases h; exact h⟩
  | (y, k) :: r, acc, h, ha => by
    simp only [clF]
    have hr : ∀ x, (x, NameKind.free) ∈ r → ∃ c, cells.lookup x = some c := fun x hx => h x (List.mem_cons_of_mem _ hx)
    split
    · rename_i hk
      have hk' : k = .free := by simpa using hk
      subst hk'
      obtain ⟨c, hc⟩ := h y List.mem_cons_self
      rw [hc]
      simp only [Option.getD_some]
      have ha' : ∀ x c', ((y, c) :: acc).lookup x = some c' → cells.lookup x = some c' := fun x c' e => by
        rw [List.lookup_cons] at e
        cases hb : x == y with
        | true => rw [hb] at e; cases e; rw [beq_iff_eq.mp hb]; exact hc
        | false => rw [hb] at e; exact ha x c' e
      obtain ⟨q1, q2⟩ := clF_lookup r _ hr ha'
      refine ⟨q1, fun x hx => q2 x ?_⟩
      rcases hx with hx | hx
      · rcases List.mem_cons.mp hx with e | hx
        · cases e; right; simp [List.lookup_cons]
        · exact .inl hx
      · right
        rw [List.lookup_cons]
        cases hb : x == y with
        | true => rfl
        | false => exact hx
    · rename_i hk
      obtain ⟨q1, q2⟩ := clF_lookup r acc hr ha
      refine ⟨q1, fun x hx => q2 x (hx.imp (fun hx => ?_) id)⟩
      rcases List.mem_cons.mp hx with e | hx
      · cases e; simp at hk
      · exact hx

theorem relabel_lookup {scope : Scope} {env : Env} (x : Str) : (relabel scope env).names.lookup x = scope.names.lookup x ∨ (scope.names.lookup x = some .free ∧ (relabel scope env).names.lookup x = some .cell) := by
  unfold relabel
  dsimp only
  generalize scope.names = names
  induction names with
  | nil => left; rfl
  | cons y names ih =>
    obtain ⟨n, k⟩ := y
    simp only [List.map_cons, List.lookup_cons]
    split
    · rename_i h
      simp only [Bool.and_eq_true, beq_iff_eq] at h
      simp only [List.lookup_cons]
      cases hb : x == n with
      | true => right; simp [h.1.1]
      | false => simpa using ih
    · simp only [List.lookup_cons]
      cases hb : x == n with
      | true => left; rfl
      | false => simpa using ih

theorem cG_targets : ∀ {gens : List Comprehension} {gs : List (Nat × PE × List PE)} {m0 : Nat} {sc0 sc' : Scope}, cG C m0 sc0 sc' gens = some gs → ∀ c ∈ gens, ∃ x i, nameO c.target = some x ∧ idx C.names x = some i ∧ C.O.contains i = false ∧ ∃ p ps, (i, p, ps) ∈ gs
  | [], gs, m0, sc0, sc', h, c, hc => nomatch hc
  | c0 :: cs, gs, m0, sc0, sc', h, c, hc => cps fun P k => cG_o h fun m1 x px it is i pi ps rest _ e1 e2 cl => by
    rw [e2] at k
    rcases List.mem_cons.mp hc with e | hc
    · rw [e, e1] at k
      exact k ⟨x, i, rfl, cl.ix, cl.ow, pi, ps, .head _⟩
    · obtain ⟨x', i', a, b, c', p, ps', d⟩ := cG_targets cl.rs c hc
      exact k ⟨x', i', a, b, c', p, ps', .tail _ d⟩
end
end Ev
namespace Ev
open PySem PySem.Calls PyProof.Rows

section
variable [Base] {prog : Program} {w : World} {C : Cx} {F : Nat → List D → Option D} {B : Heap} {mg : Str → Option Value} {kF : Nat}
  {sc : Scope} {ρ : Rho} {env : Env} {W : Addr → Prop} {A : Around} {s : Shared} {E : Value → Shared → Prop} {n m : Nat}

structure ScOk (C : Cx) (sc sc' : Scope) (gens : List Comprehension) : Prop where
  kf : sc'.kind = .function
  dot : idx C.names ".0" = none
  each : ∀ x k, (x, k) ∈ sc'.names → sc'.names.lookup x = some k ∧ ((k = .local ∧ (x = (".0" : Str) ∨ ∃ c ∈ gens, tgtIs x c = true)) ∨ (k = .free ∧ isCell (sc.names.lookup x) = true ∧ (∀ i, idx C.names x = some i → C.O.contains i = false)) ∨ k = .globalImplicit)
theorem scopeOk_of {sc' : Scope} {gens : List Comprehension} (h : scopeOk C sc sc' gens = true) : ScOk C sc sc' gens := by
  simp only [scopeOk, Bool.and_eq_true, beq_iff_eq, Option.isNone_iff_eq_none, List.all_eq_true] at h
  obtain ⟨⟨h1, h2⟩, h3⟩ := h
  refine ⟨h1, h2, fun x k hx => ?_⟩
  have q := h3 (x, k) hx
  simp only [Bool.or_eq_true, Bool.and_eq_true, beq_iff_eq, List.any_eq_true] at q
  rcases q with (⟨⟨rfl, q1⟩, q2⟩ | ⟨⟨⟨rfl, q1⟩, q2⟩, q3⟩) | ⟨rfl, q1⟩
  · exact ⟨q1, .inl ⟨rfl, q2⟩⟩
  · refine ⟨q1, .inr (.inl ⟨rfl, q2, fun i hi => ?_⟩)⟩
    rw [hi] at q3
    simpa using q3
  · exact ⟨q1, .inr (.inr rfl)⟩

theorem isCell_env (hm : Matches sc env) {x : Str} (h : isCell (sc.names.lookup x) = true) : isCell (env.kindOf x) = true := by
  rcases hm x with q | ⟨_, q⟩
  · rw [q]; exact h
  · rw [q]; rfl

-- the frame of a comprehension's block
section
variable {scope : Scope} {gens : List Comprehension} {L : Addr} {W' : Addr → Prop} {s₁ : Shared}
noncomputable def kenv (scope : Scope) (env : Env) (L : Addr) : Env := compEnvC scope (clF env.cells scope.names []) L env
theorem ce_free (so : ScOk C sc scope gens) {x : Str} (hx : isCell ((kenv scope env L).kindOf x) = true) : scope.names.lookup x = some .free := by
  have hx' : isCell ((relabel scope env).names.lookup x) = true := hx
  rcases relabel_lookup (scope := scope) (env := env) x with q | ⟨q, _⟩
  · rw [q] at hx'
    cases e : scope.names.lookup x with
    | none => rw [e] at hx'; cases hx'
    | some k =>
      rw [e] at hx'
      rcases (so.each x k (mem_of_lookup e)).2 with ⟨rfl, _⟩ | ⟨rfl, _⟩ | rfl
      · cases hx'
      · rfl
      · cases hx'
  · exact q
theorem ce_loc {x : Str} (hx : (kenv scope env L).kindOf x = some .local) : scope.names.lookup x = some .local := by
  have hx' : (relabel scope env).names.lookup x = some .local := hx
  rcases relabel_lookup (scope := scope) (env := env) x with q | ⟨_, q⟩
  · rw [← q]; exact hx'
  · rw [q] at hx'; cases hx'
theorem so_free (so : ScOk C sc scope gens) {x : Str} (h : (x, NameKind.free) ∈ scope.names) : isCell (sc.names.lookup x) = true ∧ ∀ i, idx C.names x = some i → C.O.contains i = false := by
  rcases (so.each x _ h).2 with ⟨q, _⟩ | ⟨_, q⟩ | q
  · cases q
  · exact q
  · cases q
theorem so_nocell (so : ScOk C sc scope gens) {x : Str × NameKind} (h : x ∈ scope.names) (e : x.2 = .cell) : False := by
  obtain ⟨y, k⟩ := x
  cases e
  rcases (so.each y _ h).2 with ⟨q, _⟩ | ⟨q, _⟩ | q <;> cases q
theorem ce_cells (so : ScOk C sc scope gens) (hy : Hy prog w C B mg kF W env sc ρ A s) : ∀ x, (x, NameKind.free) ∈ scope.names → ∃ c, env.cells.lookup x = some c := fun x hx => by
  obtain ⟨c, a, _⟩ := hy.ke.cov x (isCell_env hy.mt (so_free so hx).1)
  exact ⟨c, a⟩
theorem ce_cell (so : ScOk C sc scope gens) (hy : Hy prog w C B mg kF W env sc ρ A s) {x : Str} {c : Addr} (h1 : isCell ((kenv scope env L).kindOf x) = true) (h2 : (kenv scope env L).cells.lookup x = some c) :
    isCell (env.kindOf x) = true ∧ env.cells.lookup x = some c ∧ ∃ o, s.heap.get? c = some o := by
  have hce := (clF_lookup (cells := env.cells) scope.names [] (ce_cells so hy) (fun _ _ e => by cases e)).1 x c h2
  have hic := isCell_env hy.mt (so_free so (mem_of_lookup (ce_free so h1))).1
  obtain ⟨c', a, o, b⟩ := hy.ke.cov x hic
  exact ⟨hic, hce, o, (sj (a.symm.trans hce)) ▸ b⟩
theorem ce_get (so : ScOk C sc scope gens) (hy : Hy prog w C B mg kF W env sc ρ A s) {x : Str} (h1 : isCell ((kenv scope env L).kindOf x) = true) : ∃ c, (kenv scope env L).cells.lookup x = some c :=
  Option.isSome_iff_exists.mp ((clF_lookup (cells := env.cells) scope.names [] (ce_cells so hy) (fun _ _ e => by cases e)).2 x (.inl (mem_of_lookup (ce_free so h1))))
theorem ce_tgt (so : ScOk C sc scope gens) {m1 : Nat} {sc0 : Scope} {gs : List (Nat × PE × List PE)} (hG : cG C m1 sc0 scope gens = some gs) (hf : (!gs.any (fun g => (ρ.lookup g.1).isSome)) = true) {x : Str} {j : Nat} (h1 : scope.names.lookup x = some .local) (h2 : idx C.names x = some j) :
    C.O.contains j = false ∧ ρ.lookup j = none := by
  rcases (so.each x _ (mem_of_lookup h1)).2 with ⟨_, q | ⟨c, hc, ht⟩⟩ | ⟨q, _⟩ | q
  · rw [q, so.dot] at h2; cases h2
  · obtain ⟨x', j', e1, e2, e3, p', ps', hm'⟩ := cG_targets hG c hc
    have hx : x' = x := sj (e1.symm.trans (beq_iff_eq.mp ht))
    rw [hx, h2] at e2
    rw [sj e2]
    refine ⟨e3, ?_⟩
    cases e : ρ.lookup j' with
    | none => rfl
    | some d' => exact absurd (List.any_eq_true.mpr ⟨_, hm', (by rw [e]; rfl : (ρ.lookup j').isSome = true)⟩) (by rw [not_o hf]; exact Bool.false_ne_true)
  · cases q
  · cases q
theorem ce_no (so : ScOk C sc scope gens) {m1 : Nat} {sc0 : Scope} {gs : List (Nat × PE × List PE)} (hG : cG C m1 sc0 scope gens = some gs) (hf : (!gs.any (fun g => (ρ.lookup g.1).isSome)) = true) : NoOwn C (kenv scope env L) := fun x j h1 h2 =>
  h2.elim (fun h2 => (ce_tgt so hG hf (ce_loc h2) h1).1) fun h2 => (so_free so (mem_of_lookup (ce_free so h2))).2 j h1
theorem ce_env (so : ScOk C sc scope gens) {m1 : Nat} {sc0 : Scope} {gs : List (Nat × PE × List PE)} (hG : cG C m1 sc0 scope gens = some gs) (hf : (!gs.any (fun g => (ρ.lookup g.1).isSome)) = true) (hy : Hy prog w C B mg kF W env sc ρ A s)
    {h₄ : Heap} {m : Str → Option Value} (moreW : ∀ a, W' a → W a ∨ s.heap.get? a = none) (old : KH s.heap h₄) (hns : h₄.Ns L m) : EnvS prog w C mg W' (kenv scope env L) ρ h₄ := by
  refine ⟨so.kf, hy.ke.gl, hy.ke.bl, ⟨_, hns, fun x j d' h1 h2 h3 => ?_⟩, fun x j d' h1 h2 h3 => ?_, fun x h1 => ?_, fun x j d' h1 h2 h3 => ?_⟩
  · rw [(ce_tgt so hG hf (ce_loc h2) h1).2] at h3; cases h3
  · obtain ⟨c, hc⟩ := ce_get so hy h2
    obtain ⟨a1, a2, _⟩ := ce_cell so hy h2 hc
    obtain ⟨c', v, b1, b2, b3⟩ := hy.ke.cl x j d' h1 a1 h3
    rw [← sj (a2.symm.trans b1)] at b2
    exact ⟨c, v, hc, IsCell.kp b2 fun o e => old _ o e, (b3.more' moreW).keep old⟩
  · obtain ⟨c, hc⟩ := ce_get so hy h1
    obtain ⟨_, _, o, a3⟩ := ce_cell so hy h1 hc
    exact ⟨c, hc, (old _ _ a3).there⟩
  · obtain ⟨v, b1, b2⟩ := hy.ke.gv x j d' h1 h2 h3
    exact ⟨v, b1, (b2.more moreW).keep old⟩
theorem ce_hy (so : ScOk C sc scope gens) {m1 : Nat} {sc0 : Scope} {gs : List (Nat × PE × List PE)} (hG : cG C m1 sc0 scope gens = some gs) (hf : (!gs.any (fun g => (ρ.lookup g.1).isSome)) = true) (hy : Hy prog w C B mg kF W env sc ρ A s)
    {s' : Shared} {m : Str → Option Value} (moreW : ∀ a, W' a → W a ∨ s.heap.get? a = none) (old : KH s.heap s'.heap) (hns : s'.heap.Ns L m) (hwk : Wok W' s'.heap) : Hy prog w C B mg kF W' (kenv scope env L) scope ρ A s' :=
  ⟨ce_env so hG hf hy moreW old hns, fun x => relabel_lookup x, hy.ok, hwk, fun a ha => (moreW a ha).elim (hy.wb a) fun h => (Option.eq_none_iff_forall_ne_some.mpr fun o e => absurd ((hy.bk _ _ e).symm.trans h) nofun), hy.bk.on hy.eb old, hy.eb, fun e => (hy.fr e).keep old⟩
end

/-- what a comprehension leaves -/
structure CompEnd (prog : Program) (w : World) (W : Addr → Prop) (s : Shared) (ds : List D) (dD C' : Addr) (s' : Shared) (ys : List Value) : Prop where
  d0 : s.heap.get? dD = none
  c0 : s.heap.get? C' = none
  ne : dD ≠ C'
  kp : Kp s s'
  hl : s'.heap.IsList dD ys.toArray
  hr : Reps prog w (fun a => W a ∨ a = C' ∨ a = dD) s'.heap ds ys
  len : ys.length ≤ sizeLine
  ns : ∃ m, s'.heap.Ns C' m
  nw : ¬ W dD

/-- the places of a block whose list is dD and whose frame is dD + 1 -/
noncomputable def WX (W : Addr → Prop) (dD L : Addr) (wr : List Addr) (a : Addr) : Prop := W a ∨ LX L dD wr a
structure Laid (s₂ : Shared) (L : Addr) (h₄ : Heap) : Prop where
  ne : s₂.heap.objs.size ≠ L
  gt : s₂.heap.objs.size ≤ L
  old : ∀ b o, s₂.heap.get? b = some o → h₄.get? b = some o
  hl : h₄.IsList s₂.heap.objs.size ([] : List Value).toArray
  ns : ∃ m, h₄.Ns L m

theorem comp_end {cenv : Env} {s₁ s₂ : Shared} {h₄ : Heap} {k₄ : Nat} {wr : List Addr} {ds : List D} {s' : Shared} (k₁ : Kp s s₁) (k₂ : Kp s₁ s₂) (hy₁ : Hy prog w C B mg kF W env sc ρ A s₁) (lay : Laid s₂ cenv.locals h₄) (hnew : ∀ b ∈ wr, s₁.heap.get? b = none)
    (hD1 : s₁.heap.get? s₂.heap.objs.size = none) (hC1 : s₁.heap.get? cenv.locals = none) (hlen : ds.length ≤ 16777215)
    (o : LOut prog w C mg cenv s₂.heap.objs.size ρ (WX W s₂.heap.objs.size cenv.locals wr) wr { s₂ with heap := h₄, toks := k₄ } ds s') :
    ∃ ys, CompEnd prog w W s ds s₂.heap.objs.size cenv.locals s' ys := by
  obtain ⟨kB, keB, ⟨ys, hl', hr'⟩, hw'⟩ := o
  refine ⟨ys, k₁.keep.gone hD1, k₁.keep.gone hC1, lay.ne, ?_, hl', hr'.less fun a h => h.elim .inl fun e => e.elim (fun e => .inr (.inl e)) fun e => .inr (.inr (.inl e)), ?_, ?_, fun q => ?_⟩
  · obtain ⟨h1, t1, e1⟩ := (k₁.trans k₂).same
    obtain ⟨h2, t2, e2⟩ := kB.same
    refine ⟨⟨h2, t2, by rw [e2, e1]⟩, fun b o e => ?_⟩
    obtain ⟨o', e'⟩ := (k₁.keep _ _ e).there
    have no : ∀ {x}, s₁.heap.get? x = none → b ≠ x := fun h q => absurd ((q ▸ h).symm.trans e') nofun
    exact Kept.trans ((k₁.keep.trans (k₂.keep.trans (KH.exact lay.old))) b o e) fun _ e4 => kB.keep b _ (fun q => q.elim (no hC1) fun q => q.elim (no hD1) fun q => no (hnew _ q) rfl) e4
  · rw [hr'.length, sizeLine]; omega
  · obtain ⟨m, a, _⟩ := keB.ns
    exact ⟨m, a⟩
  · obtain ⟨o, e⟩ := hy₁.wk _ q
    rw [hD1] at e; cases e

theorem comp_lp {scope : Scope} {gens : List Comprehension} (so : ScOk C sc scope gens) {m1 : Nat} {sc0 : Scope} {gs : List (Nat × PE × List PE)} (hG : cG C m1 sc0 scope gens = some gs) (hf : (!gs.any (fun g => (ρ.lookup g.1).isSome)) = true)
    {s₁ s₂ : Shared} {h₄ : Heap} {k₄ : Nat} {L : Addr} {ds : List D} {I : Addr} {fp wr : List Addr} {P : Nat → Value → Prop} {St : Nat → Heap → Prop} (hy₁ : Hy prog w C B mg kF W env sc ρ A s₁) (k₂ : Kp s₁ s₂) (lay : Laid s₂ L h₄)
    (Wk : Walks prog w A I fp wr ds.length P St) (hst : St 0 s₂.heap) (hnew : ∀ b ∈ wr, s₁.heap.get? b = none) (hob : ∀ i h, St i h → ∀ b ∈ fp, ∃ o, h.get? b = some o ∧ o.cls ≠ .type "frame")
    (hfp : ∀ b ∈ fp, b ∉ wr → ∃ o, s₁.heap.get? b = some o) (hP : ∀ i v, P i v → ∃ d, ds[i]? = some d ∧ Rep prog w W s₁.heap d v)
    (hD1 : s₁.heap.get? s₂.heap.objs.size = none) (hC1 : s₁.heap.get? L = none) :
    Lp prog w C B mg kF A (kenv scope env L) s₂.heap.objs.size scope ρ ds (WX W s₂.heap.objs.size L wr) { s₂ with heap := h₄, toks := k₄ } [] [] I fp wr P St := by
  have old1 : KH s₁.heap h₄ := k₂.keep.trans (KH.exact lay.old)
  have hst₄ : St 0 h₄ := Wk.frame _ _ _ hst fun b _ o e => lay.old b o e
  have moreW : ∀ a, WX W s₂.heap.objs.size L wr a → W a ∨ s₁.heap.get? a = none := fun a ha => ha.imp id fun h => h.elim (fun e => e ▸ hC1) fun h => h.elim (fun e => e ▸ hD1) (hnew a)
  have hwk₄ : Wok (WX W s₂.heap.objs.size L wr) h₄ := fun a ha => by
    rcases ha with h | rfl | rfl | h
    · exact (hy₁.wk.mono old1) a h
    · obtain ⟨m, o, _, _, e, _⟩ := lay.ns; exact ⟨o, e⟩
    · obtain ⟨o, e, _⟩ := lay.hl; exact ⟨o, e⟩
    · obtain ⟨o, e, _⟩ := hob _ _ hst₄ a (Wk.sub a h); exact ⟨o, e⟩
  have fpn : ∀ b ∈ fp, b < s₂.heap.objs.size := fun b hb => by
    by_cases q : b ∈ wr
    · obtain ⟨o, e, _⟩ := hob _ _ hst b hb; exact Heap.lt_size e
    · obtain ⟨o, e⟩ := hfp b hb q
      obtain ⟨o', e'⟩ := (k₂.keep _ _ e).there
      exact Heap.lt_size e'
  obtain ⟨m, hns⟩ := lay.ns
  refine ⟨Wk, hst₄, fun i' v hv => ?_, fun b hb => .inr (.inr (.inr hb)), hob, .inr (.inl rfl), .inr (.inr (.inl rfl)), fun q => Nat.lt_irrefl _ (fpn _ q), fun q => Nat.lt_irrefl _ (Nat.lt_of_lt_of_le (fpn _ q) lay.gt), fun x c h1 h2 q => ?_,
    fun e b hb q => (hy₁.fr e).notNone hb (q.elim (fun q => q ▸ hC1) fun q => q.elim (fun q => q ▸ hD1) fun q => hnew b q), ce_hy so hG hf hy₁ moreW old1 hns hwk₄, lay.hl, .nil⟩
  · obtain ⟨d', e1, e2⟩ := hP i' v hv
    exact ⟨d', e1, (e2.more moreW).keep old1⟩
  · obtain ⟨_, _, o, a3⟩ := ce_cell so hy₁ h1 h2
    exact absurd ((hnew _ q).symm.trans a3) nofun
theorem comp_cz {scope : Scope} {gens : List Comprehension} (so : ScOk C sc scope gens) {m1 : Nat} {sc0 : Scope} {gs : List (Nat × PE × List PE)} (hG : cG C m1 sc0 scope gens = some gs) (hf : (!gs.any (fun g => (ρ.lookup g.1).isSome)) = true)
    {s₁ : Shared} {dD L : Addr} (hy₁ : Hy prog w C B mg kF W env sc ρ A s₁) (hD1 : s₁.heap.get? dD = none) (hC1 : s₁.heap.get? L = none) (hne : dD ≠ L) : Cz C (kenv scope env L) dD :=
  ⟨ce_no so hG hf, hne, fun x c h1 h2 => by
    obtain ⟨_, _, o, a3⟩ := ce_cell so hy₁ h1 h2
    have no : ∀ {a}, s₁.heap.get? a = none → c ≠ a := fun h q => absurd ((q ▸ h).symm.trans a3) nofun
    exact ⟨no hD1, no hC1⟩⟩
theorem ce_kl {scope : Scope} {L : Addr} (x : Str) (h1 : scope.names.lookup x = some .local) : (kenv scope env L).kindOf x = some .local := by
  show (relabel scope env).names.lookup x = some .local
  rcases relabel_lookup (scope := scope) (env := env) x with q | ⟨q, _⟩
  · rw [q]; exact h1
  · rw [h1] at q; cases q

theorem laid_of {s₂ : Shared} {H3 h₄ : Heap} {m : Str → Option Value} {o : Obj} (e : H3 = s₂.heap.push { cls := .type "list", dict := none, data := .seq ([] : List Value).toArray }) (hns : h₄.Ns H3.objs.size m) (hs : Heap.SameBut H3.objs.size (H3.push o) h₄) : Laid s₂ H3.objs.size h₄ := by
  have hCs : H3.objs.size = s₂.heap.objs.size + 1 := by rw [e, Heap.size_push]
  have lt : s₂.heap.objs.size < H3.objs.size := hCs ▸ Nat.lt_succ_self _
  refine ⟨Nat.ne_of_lt lt, Nat.le_of_lt lt, fun b o e' => hs.extBut b o (fun q => ?_) (Heap.get?_push_of_some _ (e ▸ Heap.get?_push_of_some _ e')), ⟨_, hs.extBut _ _ (Nat.ne_of_lt lt) (Heap.get?_push_of_some _ (e ▸ Heap.get?_push_size _ rfl)), rfl, 0, rfl⟩, m, hns⟩
  have h : b < s₂.heap.objs.size := Heap.lt_size e'
  exact Nat.lt_irrefl _ (Nat.lt_trans (q ▸ h) lt)

theorem comp_run (G : Gl prog w C F B mg kF) (IE : SndE prog w C F B mg kF n) (IT : SndT prog w C F B mg kF n) (II : SndI prog w C F B mg kF n) {elt : Expr} {gens : List Comprehension} {scope : Scope} {pos : Pos} {p : PE} {d : D}
    (hc : cE C (m + 1) sc (.ListComp elt gens scope pos) = some p) (he : evE F (n + 1) ρ p = some d) (hy : Hy prog w C B mg kF W env sc ρ A s) {use : Option (Value → Sem Unit)} {Q : Value → Shared → Prop}
    (hQ : ∀ (dD C' : Addr) (s' : Shared) (ds : List D) (ys : List Value), d = .list ds → CompEnd prog w W s ds dD C' s' ys → compPost (model prog w) A E use Q (.ref dD) C' (.ok .next) s') :
    wpAny (model prog w) A (comprehension (.ListComp elt gens scope pos) scope env (firstIterPos gens pos) (newList []) (firstAsync gens) (firstIter gens env) use) Q E s := by
  refine cps fun P k => gdo hc fun hso hc => and_o hso fun hne hso => ob hc fun gs hgs hc => ob hc fun pelt helt hc => sm hc he fun he => gdo he fun hf he => ob he fun out hgo he => gdo he fun hlen he => ?_
  have so := scopeOk_of (C := C) (sc := sc) (sc' := scope) (gens := gens) hso
  cases gens with
  | nil => cases hne
  | cons c cs =>
    refine cG_o hgs fun m1 xs px it is i pi ps rest hm hc' hgs' cl => ?_
    have hG := hgs
    rw [hgs'] at hgo hgs hf
    refine genF_cons hgo fun ds parts hρ hds hp e => k ?_
    have hdl := dec_o hlen
    rw [e] at hdl
    have hd : d = .list parts.flatten := e ▸ (sj he).symm
    subst hc'
    obtain ⟨hev, hfold⟩ := II m1 sc it pi ρ ds env W A s E cl.it hds hy
    have hnames : ∀ x ∈ scope.names, x.2 = .local → scope.names.lookup x.1 = some .local := fun x hx e => e ▸ (so.each x.1 x.2 hx).1
    refine wpAny_comprehension_free (use := use) rfl hfold (closureFor_eq (ce_cells so hy)) so.kf hnames (wpAny_mono hev (fun xv s₁ q₁ => ?_) fun _ _ e => e)
    have hy₁ := hy.kp q₁.1
    refine q₁.2.2.1 E _ fun I fp wr k P St s₂ k₂ Wk hk hst hnew hob hfp hP => ?_
    rw [hk] at Wk
    refine wpAny_newObj_type (wpAny_newFunctionEnv (fun x hx e => ?_) nofun (fun h₄ hns₄ hs₄ => ?_) so.kf) (by show ([] : List Value).toArray.size ≤ sizeLine; decide)
    · exact so_nocell so hx e
    · have lay := laid_of rfl hns₄ hs₄
      have fresh1 : ∀ a, s₂.heap.objs.size ≤ a → s₁.heap.get? a = none := fun a ha => by
        cases e : s₁.heap.get? a with
        | none => rfl
        | some o => obtain ⟨o', e'⟩ := (k₂.keep _ _ e).there; exact absurd (Heap.lt_size e') (Nat.not_lt.mpr ha)
      have hD1 := fresh1 _ (Nat.le_refl _)
      have hC1 := fresh1 _ lay.gt
      have H := comp_lp so hG (hgs' ▸ hf) (k₄ := s₂.toks + ([] : List (Str × Value)).length) hy₁ k₂ lay Wk hst hnew hob (fun b hb q => (hfp b hb q).2) hP hD1 hC1
      have z := comp_cz so hG (hgs' ▸ hf) hy₁ hD1 hC1 lay.ne
      have loop := loop_core (elt := elt) (gens := ⟨.Name xs px, it, is, 0⟩ :: cs) (scope := scope) (pos := pos) IT z (depth := 0) rfl (ce_kl xs cl.loc) cl.ix cl.ow cl.gl cl.fs hρ hp H hdl
        (fun d' => clauses_ok IE IT II helt z ce_kl cs [] _ rest m1 rfl cl.rs _ _ (.inr (.inl rfl)) (.inr (.inr (.inl rfl))) fun b e hb q => (hy₁.fr e).notNone hb (q.elim (fun q => q ▸ hC1) fun q => q ▸ hD1))
        (R := compPost (model prog w) A E use Q (.ref s₂.heap.objs.size) (s₂.heap.push { cls := .type "list", dict := none, data := .seq ([] : List Value).toArray }).objs.size)
        fun s' o => by
          obtain ⟨ys, ce⟩ := comp_end q₁.1 k₂ hy₁ lay hnew hD1 hC1 hdl o
          exact hQ _ _ s' _ ys hd ce
      exact codeAny_compStart_at rfl rfl loop (Wk.self 0 _ _ _ H.st loop)
end
end Ev
namespace Ev
open PySem PySem.Calls PyProof.Rows

section
variable [Base] {prog : Program} {w : World} {C : Cx} {F : Nat → List D → Option D} {B : Heap} {mg : Str → Option Value} {kF : Nat}
  {sc : Scope} {ρ : Rho} {env : Env} {W : Addr → Prop} {A : Around} {s : Shared} {E : Value → Shared → Prop} {n m : Nat}

theorem arm_comp (G : Gl prog w C F B mg kF) (IE : SndE prog w C F B mg kF n) (IT : SndT prog w C F B mg kF n) (II : SndI prog w C F B mg kF n) {elt : Expr} {gens : List Comprehension} {scope : Scope} {pos : Pos} {p : PE} {d : D}
    (hc : cE C (m + 1) sc (.ListComp elt gens scope pos) = some p) (he : evE F (n + 1) ρ p = some d) (hy : Hy prog w C B mg kF W env sc ρ A s) :
    wpAny (model prog w) A (eval (.ListComp elt gens scope pos) env) (Post prog w W s d) E s := by
  show wpAny (model prog w) A (comprehension (.ListComp elt gens scope pos) scope env (firstIterPos gens pos) (newList []) (firstAsync gens) (firstIter gens env) none) (Post prog w W s d) E s
  refine comp_run G IE IT II hc he hy fun dD C' s' ds ys e X => ?_
  subst e
  obtain ⟨m, hm⟩ := X.ns
  refine ⟨m, hm, fun h' hs => ⟨?_, ?_, fun a e => by cases e; exact X.nw⟩⟩
  · obtain ⟨h1', t1, e1⟩ := X.kp.same
    exact ⟨⟨h', t1, by rw [e1]⟩, fun b o e => Kept.trans (X.kp.keep b o e) fun _ e' => sb_kept hs (fun q => absurd ((q ▸ X.c0).symm.trans e) nofun) e'⟩
  · have kb : KHB (fun a => W a ∨ a = C' ∨ a = dD) s'.heap h' := fun b o hb e => sb_kept hs (fun q => hb (.inr (.inl q))) e
    exact ⟨dD, ys, rfl, X.hl.at fun o ho => by rw [hs.2 _ X.ne]; exact ho, X.len, (X.hr.mono kb).less fun a h => .inl h⟩

theorem coldR_o {P : Prop} {o : Option PE} {p : PE} (h : coldR o = some p) (k : o = some p → hotP p = false → P) : P :=
  ob h fun q h1 h => gdo h fun h2 h => by
    obtain rfl := sj h
    exact k h1 (not_o h2)
theorem arm_sub (IE : SndE prog w C F B mg kF n) (IP : SndP prog w C F B mg kF n) {v i : Expr} {pos : Pos} {a p : PE} {d : D} (ha : cP C m sc v = some a) (hc : cSub (cE C m sc) a i = some p) (he : evE F (n + 1) ρ p = some d) (hy : Hy prog w C B mg kF W env sc ρ A s) :
    wpAny (model prog w) A (eval (.Subscript v i pos) env) (Post prog w W s d) E s := by
  unfold cSub at hc
  cases hi : sliceO i with
  | none => rw [hi] at hc; exact ob hc fun b hb hc => sm hc he fun he => arm_item IE IP ha hb hi he hy
  | some q =>
    rw [hi] at hc
    refine ob hc fun l hl hc => ob hc fun h hh hc => ob hc fun k hk hc => sm hc he fun he => sliceO_o hi fun px e => ?_
    subst e
    exact arm_slice IE IP ha hl hh hk he hy
theorem arm_call (G : Gl prog w C F B mg kF) (IE : SndE prog w C F B mg kF n) (IP : SndP prog w C F B mg kF n) {f : Expr} {pos : Pos} {args : List Expr} {p : PE} {d : D} (hc : cCall C (cE C m sc) (cP C m sc) sc f args pos = some p)
    (he : evE F (n + 1) ρ p = some d) (hy : Hy prog w C B mg kF W env sc ρ A s) : wpAny (model prog w) A (eval (.Call f args [] pos) env) (Post prog w W s d) E s := by
  cases f with
  | Attribute o name apos => exact gdo hc fun hn hc => ob hc fun po h1 hc => ob hc fun ps h2 hc => sm hc he fun he => arm_meth IE hn h1 h2 he hy
  | Name f np => exact gdo hc fun hn hc => and_o hn fun hg _ => arm_callN G IE IP hg hc he hy
  | _ => exact dead hc
theorem arm_cold (G : Gl prog w C F B mg kF) (IE : SndE prog w C F B mg kF n) {e : Expr} {p : PE} {d : D} (hc : cCold C (cE C m sc) (cP C m sc) sc e = some p) (he : evE F (n + 1) ρ p = some d) (hy : Hy prog w C B mg kF W env sc ρ A s) :
    wpAny (model prog w) A (eval e env) (Post prog w W s d) E s := by
  have IP := sndP_of G IE
  cases e with
  | Constant c k pos => exact ob hc fun d' hl hc => sm hc he fun he => arm_const (hl.trans he)
  | Name x pos => exact ob hc fun i hn hc => gdo hc fun ho hc => sm hc he fun he => arm_name G hn ho he hy
  | BinOp l op r pos => exact ob hc fun a ha hc => ob hc fun b hb hc => sm hc he fun he => arm_bin IP ha hb he hy
  | Subscript v i pos => exact ob hc fun a ha hc => arm_sub IE IP ha hc he hy
  | List es pos => exact ob hc fun ps h1 hc => sm hc he fun he => arm_list IE h1 he hy
  | Tuple es k pos => exact ob hc fun ps h1 hc => sm hc he fun he => arm_tuple IE h1 he hy
  | Call f args kws pos =>
    cases kws with
    | nil => exact arm_call G IE IP hc he hy
    | cons _ _ => exact dead hc
  | _ => exact dead hc
theorem stepE (G : Gl prog w C F B mg kF) (IE : SndE prog w C F B mg kF n) (IT : SndT prog w C F B mg kF n) (II : SndI prog w C F B mg kF n) : SndE prog w C F B mg kF (n + 1) := by
  intro m sc e p ρ d env W A s E hc he hy
  have IP := sndP_of G IE
  cases m with
  | zero => exact dead hc
  | succ m =>
    refine cps fun P k => ?_
    have cold : coldR (cCold C (cE C m sc) (cP C m sc) sc e) = some p → P := fun hc => coldR_o hc fun hc _ => k (arm_cold G IE hc he hy)
    cases e with
    | UnaryOp op x pos => exact ob hc fun a ha hc => sm hc he fun he => k (arm_un IE ha he hy)
    | Compare l ops rs pos =>
      exact ob hc fun op ho hc => ob hc fun r hr hc => gdo hc fun hm hc => ob hc fun a ha hc => ob hc fun b hb hc => sm hc he fun he => one1_o ho fun ho => one1_o hr fun hr => by
        subst ho hr
        exact k (arm_cmp IP hm ha hb he hy)
    | BoolOp op es pos =>
      refine ob hc fun ps h1 hc => sm hc he fun he => k ?_
      show wpAny (model prog w) A (boolOp pos op (evalEach es env)) _ E s
      cases op with
      | And => exact boolAnd_sound IE h1 he hy
      | Or => exact boolOr_sound IE h1 he hy
    | IfExp t a b pos => exact ob hc fun p1 h1 hc => ob hc fun p2 h2 hc => ob hc fun p3 h3 hc => sm hc he fun he => k (arm_ite IE IT h1 h2 h3 he hy)
    | ListComp elt gens scope pos => exact k (arm_comp G IE IT II hc he hy)
    | _ => exact cold hc

theorem evT_cold {p : PE} {ρ : Rho} (h : hotP p = false) : evT F (n + 1) ρ p = (evE F n ρ p).bind truthD := by
  cases p with
  | no _ => cases h
  | all _ => cases h
  | any _ => cases h
  | cmp _ _ _ => cases h
  | ite _ _ _ => cases h
  | _ => rfl
noncomputable def coldE : Expr → Bool
  | .Compare .. => false
  | .BoolOp .. => false
  | .IfExp .. => false
  | .UnaryOp op _ _ => match op with | .Not => false | _ => true
  | _ => true
theorem isTrue_cold {e : Expr} (h : coldE e = true) : isTrue e env (eval e env) = (do let v ← eval e env; standAt e.pos; holding [v] (truthy v)) := by
  cases e with
  | Compare _ _ _ _ => cases h
  | BoolOp _ _ _ => cases h
  | IfExp _ _ _ _ => cases h
  | UnaryOp op _ _ =>
    cases op with
    | Not => cases h
    | _ => rfl
  | _ => rfl
theorem test_cold (SE : SndE prog w C F B mg kF n) {e : Expr} {p : PE} {b : Bool} (hc : cE C m sc e = some p) (hp : hotP p = false) (hk : coldE e = true) (he : evT F (n + 1) ρ p = some b) (hy : Hy prog w C B mg kF W env sc ρ A s) :
    wpAny (model prog w) A (isTrue e env (eval e env)) (fun b' s' => b' = b ∧ Kp s s') E s :=
  ob ((evT_cold hp).symm.trans he) fun d hu he => wpAny_isTrue_value (wpAny_mono (SE m sc e p ρ d env W A s E hc hu hy) (fun v s₁ q => truth_sound q.2.1 he fun s' k => ⟨rfl, q.1.trans k⟩) fun _ _ e => e) (isTrue_cold hk)

theorem stepT (G : Gl prog w C F B mg kF) (IE : SndE prog w C F B mg kF n) (IT : SndT prog w C F B mg kF n) : SndT prog w C F B mg kF (n + 1) := by
  intro m sc e p ρ b env W A s E hc he hy
  cases m with
  | zero => exact dead hc
  | succ m =>
    refine cps fun P k => ?_
    have cold : coldR (cCold C (cE C m sc) (cP C m sc) sc e) = some p → cE C (m + 1) sc e = some p → coldE e = true → P := fun hc h hk => coldR_o hc fun _ hp => k (test_cold IE h hp hk he hy)
    cases e with
    | UnaryOp op x pos =>
      cases op with
      | Not => exact ob hc fun a ha hc => sm hc he fun he => ob he fun u hu he => k (wpAny_isTrue_Not (wpAny_mono (IT m sc x a ρ u env W A s E ha hu hy) (fun b' s' q => ⟨by rw [q.1]; exact sj he, q.2⟩) fun _ _ e => e))
      | _ => exact k (test_cold IE hc (ob hc fun a ha hc => by rw [← sj hc]; rfl) rfl he hy)
    | Compare l ops rs pos =>
      exact ob hc fun op ho hc => ob hc fun r hr hc => gdo hc fun hm hc => ob hc fun a ha hc => ob hc fun b hb hc => sm hc he fun he => one1_o ho fun ho => one1_o hr fun hr => by
        subst ho hr
        exact k (test_cmp (sndP_of G IE) hm ha hb he hy)
    | BoolOp op es pos =>
      refine ob hc fun ps h1 hc => sm hc he fun he => k ?_
      cases op with
      | And => exact wpAny_isTrue_BoolOp (testAnd_sound IT h1 he hy)
      | Or => exact wpAny_isTrue_BoolOp (testOr_sound IT h1 he hy)
    | IfExp t a b pos => exact ob hc fun p1 h1 hc => ob hc fun p2 h2 hc => ob hc fun p3 h3 hc => sm hc he fun he => dead he
    | ListComp elt gens scope pos => exact k (test_cold IE hc (gdo hc fun _ hc => ob hc fun _ _ hc => ob hc fun _ _ hc => by rw [← sj hc]; rfl) rfl he hy)
    | _ => exact cold hc hc rfl

theorem snd_all (G : Gl prog w C F B mg kF) : ∀ n, SndE prog w C F B mg kF n ∧ SndT prog w C F B mg kF n ∧ SndI prog w C F B mg kF n
  | 0 => ⟨fun m sc e p ρ d env W A s E hc he hy => dead he, fun m sc e p ρ d env W A s E hc he hy => dead he, fun m sc e p ρ d env W A s E hc he hy => dead he⟩
  | n + 1 =>
    have ih := snd_all G n
    ⟨stepE G ih.1 ih.2.1 ih.2.2, stepT G ih.1 ih.2.1, sndI_of G ih.1⟩

end
end Ev
namespace Ev
open PySem PySem.Calls PyProof.Rows

section
variable [Base] {prog : Program} {w : World} {W : Addr → Prop} {h h' : Heap}
theorem RepT.monoTop (k : KHB W h h') {d : D} {v : Value} (ht : ∀ a o, v = .ref a → h.get? a = some o → Kept h' a o) (r : RepT prog w W h d v) : RepT prog w W h' d v := by
  cases d with
  | list ds =>
    obtain ⟨a, vs, e1, e, hl, q⟩ : ∃ (a : Addr) (vs : List Value), v = .ref a ∧ h.IsList a vs.toArray ∧ vs.length ≤ sizeLine ∧ Reps prog w W h ds vs := r
    exact ⟨a, vs, e1, IsList.kp e fun o ho => ht _ _ e1 ho, hl, q.mono k⟩
  | tuple ds =>
    obtain ⟨a, vs, e1, e, hl, q⟩ : ∃ (a : Addr) (vs : List Value), v = .ref a ∧ h.IsTuple a vs.toArray ∧ vs.length ≤ sizeLine ∧ Reps prog w W h ds vs := r
    exact ⟨a, vs, e1, IsTuple.kp e fun o ho => ht _ _ e1 ho, hl, q.mono k⟩
  | dict kvs => exact asDict_r r fun a f e1 hs hm q => ⟨a, f, e1, hs, MapOf.kp hm fun o ho => ht _ _ e1 ho, q⟩
  | _ => exact r
end

theorem putName_cls (name : Str) (h : Int) (key v : Value) (o : Obj) : (Obj.putName name h key v o).cls = o.cls := by
  rw [Obj.putName_eq]
  obtain ⟨c, d, dt, sl⟩ := o
  cases dt <;> try rfl
  rename_i es n
  unfold Obj.putNameByArray
  dsimp only
  split <;> rfl
theorem putName_freed (name : Str) (h : Int) (key v : Value) {c : Value} {d : Option Addr} {es : Array DictEntry} {n : Nat} {sl : Array (Option Value)} : (Obj.putName name h key v ⟨c, d, .dict es n, sl⟩).isFreed = false := by
  rw [Obj.putName_eq]
  unfold Obj.putNameByArray
  dsimp only
  split <;> rfl

/-- the store into a namespace, and its class stays -/
theorem nsSet_cls {M : Model} {A : Around} {E : Value → Shared → Prop} {s : Shared} {a : Addr} {m : Str → Option Value} {name : Str} {v : Value} {Q : Unit → Shared → Prop} (hn : s.heap.Ns a m)
    (hQ : ∀ h', h'.Ns a (fun x => if x = name then some v else m x) → Heap.SameBut a s.heap h' → (∀ o, s.heap.get? a = some o → ∃ o', h'.get? a = some o' ∧ o'.cls = o.cls) → Q () { s with heap := h', toks := s.toks + 1 }) : wpAny M A (nsSet a name v) Q E s := fun Γ p hΓ => by
  have lib := wpAny_nsSet (M := M) (A := A) (E := E) (name := name) (v := v) (Q := fun _ s' => s'.heap.Ns a (fun x => if x = name then some v else m x) ∧ Heap.SameBut a s.heap s'.heap) hn (fun h' x y => ⟨x, y⟩) Γ p hΓ
  obtain ⟨o, es, ep, ho, hd, hk, _⟩ := id hn
  have hany : es.any (·.refKey) = false := by
    rw [Array.any_eq_false']; intro e he; obtain ⟨n, t, h⟩ := hk e he; simp [DictEntry.refKey, h]
  simp only [nsSet, strHash, Sem.wp_bind', Sem.wp_cmd_ask, Sem.wp_pure', Sem.wp_cmd_mkText] at lib ⊢
  rw [Sem.wp_loadPart_of M Γ _ p { s with toks := s.toks + 1 } (o := o) _ ho] at lib ⊢
  simp only [hd, aRefKeyMayBeTheName_at, hany, Bool.and_false, Bool.false_eq_true, if_false, Sem.wp_cmd_updatePart] at lib ⊢
  obtain ⟨l1, l2, l3⟩ := lib
  refine ⟨l1, hQ _ l2 l3 fun o' ho' => ?_⟩
  rw [ho] at ho'; cases ho'
  refine ⟨_, Heap.get?_update_self _ ho ?_, putName_cls _ _ _ _ _⟩
  obtain ⟨c, d, dt, sl⟩ := o
  simp only at hd
  subst hd
  exact putName_freed _ _ _ _
theorem storeLocal_cls {M : Model} {A : Around} {E : Value → Shared → Prop} {s : Shared} {env : Env} {name : Str} {m : Str → Option Value} {v : Value} {Q : Unit → Shared → Prop} (hl : env.kindOf name = some .local) (hn : s.heap.Ns env.locals m)
    (h : ∀ h', h'.Ns env.locals (fun x => if x = name then some v else m x) → Heap.SameBut env.locals s.heap h' → (∀ o, s.heap.get? env.locals = some o → ∃ o', h'.get? env.locals = some o' ∧ o'.cls = o.cls) → Q () { s with heap := h', toks := s.toks + 1 })
    (hp : (env.scope.kind == .class || (env.scope.kind == .module && env.locals != env.globals)) = false) : wpAny M A (storeName env name v) Q E s := by
  rw [storeName_local hl hp]; exact nsSet_cls hn h

section
variable [Base] (prog : Program) (w : World)
/-- an owned dict is small -/
noncomputable def DK (b : Bool) (h : Heap) (a : Addr) (d : D) : Prop := (∀ kvs, d = .dict kvs → ∃ vs : List (Str × Value), h.DictOf (strKind prog w) a vs ∧ vs.length ≤ 100) ∧ (b = true → ∃ o, h.get? a = some o ∧ o.dict = none ∧ o.cls ≠ .type "frame")
/-- an owned name's place -/
structure Ow (pl : Bool) (Wb X : Addr → Prop) (env : Env) (x : Str) (d : D) (h : Heap) (a : Addr) : Prop where
  k : env.kindOf x = some .local
  m : ∃ m, h.Ns env.locals m ∧ m x = some (.ref a)
  hX : X a
  hB : ¬ Wb a
  hL : a ≠ env.locals
  hc : ∀ y c, isCell (env.kindOf y) = true → env.cells.lookup y = some c → c ≠ a
  dk : DK prog w pl h a d
/-- a cell's place -/
structure Ce (X : Addr → Prop) (env : Env) (h : Heap) (c : Addr) : Prop where
  hX : X c
  hL : c ≠ env.locals
  v : ∃ v, h.IsCell c v
/-- the state of a call under way. Wb: what the caller shuns; X: this call's own places; W: what is shunned now -/
structure Sx (C : Cx) (B : Heap) (mg : Str → Option Value) (kF : Nat) (Wb X W : Addr → Prop) (env : Env) (sc : Scope) (ρ : Rho) (A : Around) (s : Shared) : Prop where
  hy : Hy prog w C B mg kF W env sc ρ A s
  xl : X env.locals
  xc : ∀ x c, isCell (env.kindOf x) = true → env.cells.lookup x = some c → Ce X env s.heap c
  ap : ∀ x y c, env.cells.lookup x = some c → env.cells.lookup y = some c → x = y
  xw : ∀ a, X a → W a
  bw : ∀ a, Wb a → W a
  ob : ∀ x i d, idx C.names x = some i → C.O.contains i = true → ρ.lookup i = some d → ∃ a, Ow prog w (C.pl.contains i) Wb X env x d s.heap a
end

section
variable [Base] {prog : Program} {w : World} {C : Cx} {F : Nat → List D → Option D} {B : Heap} {mg : Str → Option Value} {kF : Nat}
  {sc : Scope} {ρ : Rho} {env : Env} {Wb X W : Addr → Prop} {A : Around} {s : Shared} {E : Value → Shared → Prop} {n m : Nat}

theorem DK.at {b : Bool} {h h' : Heap} {a : Addr} {d : D} (x : DK prog w b h a d) (k : ∀ o, h.get? a = some o → Kept h' a o) : DK prog w b h' a d :=
  ⟨fun kvs e => let ⟨vs, q, l⟩ := x.1 kvs e; ⟨vs, DictOf.kp q k, l⟩, fun e => let ⟨o, q, l, l'⟩ := x.2 e; ⟨o, (k o q).exact l', l, l'⟩⟩
theorem Ow.on {pl : Bool} {x : Str} {d : D} {h h' : Heap} {a : Addr} {m : Str → Option Value} (o : Ow prog w pl Wb X env x d h a) (hn : h'.Ns env.locals m) (hm : m x = some (.ref a)) (k : ∀ o, h.get? a = some o → Kept h' a o) : Ow prog w pl Wb X env x d h' a :=
  ⟨o.k, ⟨m, hn, hm⟩, o.hX, o.hB, o.hL, o.hc, o.dk.at k⟩
theorem Ow.keep {pl : Bool} {x : Str} {d : D} {h h' : Heap} {a : Addr} (o : Ow prog w pl Wb X env x d h a) (kl : ∀ o, h.get? env.locals = some o → Kept h' env.locals o) (k : ∀ o, h.get? a = some o → Kept h' a o) : Ow prog w pl Wb X env x d h' a :=
  o.m.elim fun _ e => o.on (Ns.kp e.1 kl) e.2 k
theorem Ce.keep {h h' : Heap} {c : Addr} (x : Ce X env h c) (k : ∀ o, h.get? c = some o → Kept h' c o) : Ce X env h' c := ⟨x.hX, x.hL, x.v.elim fun v e => ⟨v, IsCell.kp e k⟩⟩

theorem Sx.kp {s' : Shared} (x : Sx prog w C B mg kF Wb X W env sc ρ A s) (k : Kp s s') : Sx prog w C B mg kF Wb X W env sc ρ A s' :=
  ⟨x.hy.kp k, x.xl, fun y c h1 h2 => (x.xc y c h1 h2).keep fun o e => k.keep _ o e, x.ap, x.xw, x.bw, fun y i d h1 h2 h3 => (x.ob y i d h1 h2 h3).elim fun a o => ⟨a, o.keep (fun o e => k.keep _ o e) fun o e => k.keep _ o e⟩⟩

theorem look_eq {i : Nat} {d : D} : ((i, d) :: ρ).lookup i = some d := by simp [List.lookup_cons]

theorem frStore {A : Around} {h h' : Heap} {L : Addr} {m : Str → Option Value} (x : FrOk A h) (hn : h'.Ns L m) (hs : Heap.SameBut L h h') (hcl : ∀ o, h.get? L = some o → ∃ o', h'.get? L = some o' ∧ o'.cls = o.cls) : FrOk A h' := by
  refine ⟨x.st, fun b hb => ?_⟩
  obtain ⟨h1, o, es, ep, e, hc, hd⟩ := x.ob b hb
  by_cases q : b = L
  · rw [q] at e h1 ⊢
    obtain ⟨o', e', hc'⟩ := hcl o e
    obtain ⟨o2, es2, ep2, g1, g2, _⟩ := hn
    obtain rfl := sj (e'.symm.trans g1)
    exact ⟨h1, o', es2, ep2, e', hc'.trans hc, g2⟩
  · exact ⟨h1, o, es, ep, hs.extBut b o q e, hc, hd⟩
theorem frOther {A : Around} {h h' : Heap} {c : Addr} (x : FrOk A h) (hs : Heap.SameBut c h h') (hc : ∀ o es ep, h.get? c = some o → o.cls = .type "frame" → o.data = .dict es ep → False) : FrOk A h' :=
  x.keepB (X := fun b => b = c) (fun b o hb e => sb_kept hs hb e) fun b hb q => by
    obtain ⟨_, o, es, ep, e, h1, h2⟩ := x.ob b hb
    exact hc o es ep (q ▸ e) h1 h2

theorem noCell {P : Prop} {y : Str} (h : env.kindOf y = some .local) (h2 : isCell (env.kindOf y) = true) : P := by rw [h] at h2; cases h2
theorem Sx.nB {a b : Addr} {o : Obj} (S : Sx prog w C B mg kF Wb X W env sc ρ A s) (hW : W a) (e : B.get? b = some o) : b ≠ a := fun q => by rw [q, S.hy.wb _ hW] at e; cases e
/-- what the names stand for is kept, if the owned things are -/
theorem Sx.mono (S : Sx prog w C B mg kF Wb X W env sc ρ A s) {h' : Heap} (kb : KHB W s.heap h') (own : ∀ pl x d a, Ow prog w pl Wb X env x d s.heap a → ∀ o, s.heap.get? a = some o → Kept h' a o) {y : Str} {j : Nat} {d : D} {v : Value} (h1 : idx C.names y = some j) (h3 : ρ.lookup j = some d)
    (hv : (∃ m, s.heap.Ns env.locals m ∧ m y = some v) ∨ isCell (env.kindOf y) = true) (q : RepO prog w C W s.heap j d v) : RepO prog w C W h' j d v := by
  refine ⟨?_, q.2⟩
  cases ho : C.O.contains j with
  | false => exact q.1.mono kb (q.2 ho)
  | true =>
    obtain ⟨a, o⟩ := S.ob y j d h1 ho h3
    refine hv.elim (fun ⟨m, hm, e⟩ => ?_) fun h => noCell o.k h
    obtain ⟨m', e1, e2⟩ := o.m
    have ev : v = .ref a := sj (e.symm.trans ((ns_eq hm e1 y).trans e2))
    exact q.1.monoTop kb fun b ob eb e' => own _ _ _ _ o ob (Value.ref.inj (eb.symm.trans ev) ▸ e') |> fun k => Value.ref.inj (eb.symm.trans ev) ▸ k
theorem Sx.notO (S : Sx prog w C B mg kF Wb X W env sc ρ A s) {y : Str} {j : Nat} {d : D} (h1 : idx C.names y = some j) (h2 : isCell (env.kindOf y) = true) (h3 : ρ.lookup j = some d) : C.O.contains j = false :=
  (Bool.eq_false_or_eq_true _).elim (fun ho => (S.ob y j d h1 ho h3).elim fun _ o => noCell o.k h2) id

theorem Sx.storeL {x : Str} {i : Nat} {d : D} {v : Value} {Q : Unit → Shared → Prop} (S : Sx prog w C B mg kF Wb X W env sc ρ A s) (hx : idx C.names x = some i) (hg : C.gl.contains i = false) (hO : C.O.contains i = false)
    (hk : env.kindOf x = some .local) (r : Rep prog w W s.heap d v) (hQ : ∀ s', KpB X s s' → Sx prog w C B mg kF Wb X W env sc ((i, d) :: ρ) A s' → Q () s') : wpAny (model prog w) A (storeName env x v) Q E s := by
  obtain ⟨m, hm, hloc⟩ := S.hy.ke.ns
  refine storeLocal_cls hk hm (fun h' hn hs hcl => ?_) (by rw [S.hy.ke.kf]; rfl)
  have hWL := S.xw _ S.xl
  have kb : KHB W s.heap h' := fun b o hb e => .of (hs.extBut b o (fun q => hb (q ▸ hWL)) e)
  have mono := fun {y j d v} => S.mono (y := y) (j := j) (d := d) (v := v) kb fun _ _ _ a o => fun ob e => sb_kept hs o.hL e
  have ne : ∀ {y j}, idx C.names y = some j → j ≠ i → y ≠ x := fun h n q => n (sj (h.symm.trans (q ▸ hx)))
  refine hQ _ ⟨⟨_, _, rfl⟩, fun b o hb e => .of (hs.extBut b o (fun q => hb (q ▸ S.xl)) e)⟩ ⟨⟨⟨S.hy.ke.kf, S.hy.ke.gl, S.hy.ke.bl, ⟨_, hn, fun y j d' h1 h2 h3 => lk_o h3 (fun e1 e2 => ?_) fun hji h3 => ?_⟩, fun y j d' h1 h2 h3 => lk_o h3 (fun e1 _ => ?_) fun _ h3 => ?_, fun y e => ?_, fun y j d' h1 h2 h3 => lk_o h3 (fun e1 _ => ?_) fun _ h3 => ?_⟩,
      S.hy.mt, S.hy.ok, fun a ha => ?_, S.hy.wb, fun b o e => hs.extBut b o (S.nB hWL e) (S.hy.bk _ _ e), S.hy.eb, fun e => frStore (S.hy.fr e) hn hs hcl⟩,
    S.xl, fun y c h1 h2 => (S.xc y c h1 h2).keep fun o e => sb_kept hs (S.xc y c h1 h2).hL e, S.ap, S.xw, S.bw, fun y j d' h1 h2 h3 => lk_o h3 (fun e1 _ => ?_) fun hji h3 => ?_⟩
  · rw [← e2, e1]
    exact ⟨v, if_pos (idx_inj h1 (e1 ▸ hx)), (r.mono kb).1, fun _ => r.2⟩
  · obtain ⟨u, q1, q2⟩ := hloc y j d' h1 h2 h3
    exact ⟨u, (if_neg (ne h1 hji)).trans q1, mono h1 h3 (.inl ⟨m, hm, q1⟩) q2⟩
  · rw [← idx_inj hx (h1.trans (congrArg some e1)), hk] at h2; cases h2
  · obtain ⟨c, u, q1, q2, q3⟩ := S.hy.ke.cl y j d' h1 h2 h3
    exact ⟨c, u, q1, q2.sameBut hs (S.xc y c h2 q1).hL, mono h1 h3 (.inr h2) q3⟩
  · obtain ⟨c, a, o, b⟩ := S.hy.ke.cov y e
    exact ⟨c, a, o, hs.extBut c o (S.xc y c e a).hL b⟩
  · rw [e1, hg] at h2; cases h2
  · obtain ⟨u, q1, q2⟩ := S.hy.ke.gv y j d' h1 h2 h3
    exact ⟨u, q1, q2.mono kb⟩
  · by_cases q : a = env.locals
    · obtain ⟨o, _, _, e, _⟩ := hn; exact ⟨o, q ▸ e⟩
    · obtain ⟨o, e⟩ := S.hy.wk a ha; exact ⟨o, hs.extBut a o q e⟩
  · rw [e1, hO] at h2; cases h2
  · obtain ⟨a, o⟩ := S.ob y j d' h1 h2 h3
    obtain ⟨m', e1, e2⟩ := o.m
    exact ⟨a, o.on hn ((if_neg (ne h1 hji)).trans ((ns_eq hm e1 y).trans e2)) fun ob e => sb_kept hs o.hL e⟩

theorem Sx.storeC {x : Str} {i : Nat} {d : D} {v : Value} {Q : Unit → Shared → Prop} (S : Sx prog w C B mg kF Wb X W env sc ρ A s) (hx : idx C.names x = some i) (hg : C.gl.contains i = false) (hO : C.O.contains i = false)
    (hk : env.kindOf x = some .cell) (r : Rep prog w W s.heap d v) (hQ : ∀ s', KpB X s s' → Sx prog w C B mg kF Wb X W env sc ((i, d) :: ρ) A s' → Q () s') : wpAny (model prog w) A (storeName env x v) Q E s := by
  obtain ⟨m, hm, hloc⟩ := S.hy.ke.ns
  have hic : isCell (env.kindOf x) = true := by rw [hk]; rfl
  obtain ⟨c, hc, _⟩ := S.hy.ke.cov x hic
  obtain ⟨hXc, hcL, v0, hv0⟩ := S.xc x c hic hc
  refine wpAny_storeName_cell S.hy.ke.kf hk hc hv0 (fun h' hn hs => ?_)
  have hWc := S.xw _ hXc
  have kb : KHB W s.heap h' := fun b o hb e => .of (hs.extBut b o (fun q => hb (q ▸ hWc)) e)
  have mono := fun {y j d v} => S.mono (y := y) (j := j) (d := d) (v := v) kb fun _ _ _ a o => fun ob e => sb_kept hs (fun q => o.hc x c hic hc q.symm) e
  have hm' : h'.Ns env.locals m := hm.sameBut hs (Ne.symm hcL)
  have ne : ∀ {y j}, idx C.names y = some j → j ≠ i → y ≠ x := fun h n q => n (sj (h.symm.trans (q ▸ hx)))
  refine hQ _ ⟨⟨_, s.toks, rfl⟩, fun b o hb e => .of (hs.extBut b o (fun q => hb (q ▸ hXc)) e)⟩ ⟨⟨⟨S.hy.ke.kf, S.hy.ke.gl, S.hy.ke.bl, ⟨m, hm', fun y j d' h1 h2 h3 => lk_o h3 (fun e1 _ => ?_) fun _ h3 => ?_⟩, fun y j d' h1 h2 h3 => lk_o h3 (fun e1 e2 => ?_) fun hji h3 => ?_, fun y e => ?_, fun y j d' h1 h2 h3 => lk_o h3 (fun e1 _ => ?_) fun _ h3 => ?_⟩,
      S.hy.mt, S.hy.ok, fun a ha => ?_, S.hy.wb, fun b o e => hs.extBut b o (S.nB hWc e) (S.hy.bk _ _ e), S.hy.eb, fun e => frOther (S.hy.fr e) hs fun o es ep e1 _ e2 => ?_⟩,
    S.xl, fun y c' h1 h2 => ?_, S.ap, S.xw, S.bw, fun y j d' h1 h2 h3 => lk_o h3 (fun e1 _ => ?_) fun hji h3 => ?_⟩
  · rw [← idx_inj hx (h1.trans (congrArg some e1)), hk] at h2; cases h2
  · obtain ⟨u, q1, q2⟩ := hloc y j d' h1 h2 h3
    exact ⟨u, q1, mono h1 h3 (.inl ⟨m, hm, q1⟩) q2⟩
  · rw [← e2, e1]
    exact ⟨c, v, (idx_inj h1 (e1 ▸ hx)) ▸ hc, hn, (r.mono kb).1, fun _ => r.2⟩
  · obtain ⟨c', u, q1, q2, q3⟩ := S.hy.ke.cl y j d' h1 h2 h3
    exact ⟨c', u, q1, q2.sameBut hs (fun q => ne h1 hji (S.ap _ _ _ (q ▸ q1) hc)), mono h1 h3 (.inr h2) q3⟩
  · obtain ⟨c', a, o, b⟩ := S.hy.ke.cov y e
    by_cases q : c' = c
    · obtain ⟨o', e', _⟩ := hn; exact ⟨c', a, o', q ▸ e'⟩
    · exact ⟨c', a, o, hs.extBut c' o q b⟩
  · rw [e1, hg] at h2; cases h2
  · obtain ⟨u, q1, q2⟩ := S.hy.ke.gv y j d' h1 h2 h3
    exact ⟨u, q1, q2.mono kb⟩
  · by_cases q : a = c
    · obtain ⟨o, e, _⟩ := hn; exact ⟨o, q ▸ e⟩
    · obtain ⟨o, e⟩ := S.hy.wk a ha; exact ⟨o, hs.extBut a o q e⟩
  · obtain ⟨o', e1', e2'⟩ := hv0
    rw [sj (e1.symm.trans e1'), e2'] at e2; cases e2
  · by_cases q : c' = c
    · exact ⟨q ▸ hXc, q ▸ hcL, some v, q ▸ hn⟩
    · exact (S.xc y c' h1 h2).keep fun o e => sb_kept hs q e
  · rw [e1, hO] at h2; cases h2
  · obtain ⟨a, o⟩ := S.ob y j d' h1 h2 h3
    exact ⟨a, o.keep (fun o e => sb_kept hs (Ne.symm hcL) e) fun ob e => sb_kept hs (fun q => o.hc x c hic hc q.symm) e⟩

theorem Sx.store {x : Str} {i : Nat} {d : D} {v : Value} {Q : Unit → Shared → Prop} (S : Sx prog w C B mg kF Wb X W env sc ρ A s) (hx : idx C.names x = some i) (hg : C.gl.contains i = false) (hO : C.O.contains i = false)
    (hk : env.kindOf x = some .local ∨ env.kindOf x = some .cell) (r : Rep prog w W s.heap d v) (hQ : ∀ s', KpB X s s' → Sx prog w C B mg kF Wb X W env sc ((i, d) :: ρ) A s' → Q () s') : wpAny (model prog w) A (storeName env x v) Q E s :=
  hk.elim (fun hk => S.storeL hx hg hO hk r hQ) fun hk => S.storeC hx hg hO hk r hQ

-- the map kept in order
noncomputable def upd : Rho → Nat → D → Rho
  | [], i, d => [(i, d)]
  | (j, e) :: r, i, d => if j = i then (i, d) :: r else (j, e) :: upd r i d
theorem upd_lookup : ∀ (ρ : Rho) (i : Nat) (d : D) (j : Nat), (upd ρ i d).lookup j = ((i, d) :: ρ).lookup j
  | [], i, d, j => rfl
  | (k, e) :: r, i, d, j => by
    unfold upd
    split
    · rename_i h
      subst h
      simp only [List.lookup_cons]
      cases hb : j == k <;> simp [hb]
    · rename_i h
      have ih := upd_lookup r i d j
      simp only [List.lookup_cons] at ih ⊢
      rw [ih]
      cases hb : j == k with
      | false => rfl
      | true =>
        have : j = k := by simpa using hb
        subst this
        have : (j == i) = false := by simpa using h
        simp [this]
theorem EnvS.ext {ρ' : Rho} {h : Heap} (e : ∀ j, ρ'.lookup j = ρ.lookup j) (ke : EnvS prog w C mg W env ρ h) : EnvS prog w C mg W env ρ' h := by
  obtain ⟨m, a, b⟩ := ke.ns
  exact ⟨ke.kf, ke.gl, ke.bl, ⟨m, a, fun y i d h1 h2 h3 => b y i d h1 h2 (e i ▸ h3)⟩, fun y i d h1 h2 h3 => ke.cl y i d h1 h2 (e i ▸ h3), ke.cov, fun y i d h1 h2 h3 => ke.gv y i d h1 h2 (e i ▸ h3)⟩
theorem Sx.ext {ρ' : Rho} (e : ∀ j, ρ'.lookup j = ρ.lookup j) (S : Sx prog w C B mg kF Wb X W env sc ρ A s) : Sx prog w C B mg kF Wb X W env sc ρ' A s :=
  ⟨⟨S.hy.ke.ext e, S.hy.mt, S.hy.ok, S.hy.wk, S.hy.wb, S.hy.bk, S.hy.eb, S.hy.fr⟩, S.xl, S.xc, S.ap, S.xw, S.bw, fun y i d h1 h2 h3 => S.ob y i d h1 h2 (e i ▸ h3)⟩
theorem Sx.ordered {i : Nat} {d : D} (S : Sx prog w C B mg kF Wb X W env sc ((i, d) :: ρ) A s) : Sx prog w C B mg kF Wb X W env sc (upd ρ i d) A s := S.ext (upd_lookup ρ i d)
end
end Ev
namespace Ev
open PySem PySem.Calls PyProof.Rows

inductive PS where
  | set (x : Nat) (e : PE)
  | set2 (x y : Nat) (e : PE)
  | pair (x y : Nat) (a b : PE)
  | aug (x : Nat) (op : Operator) (e : PE)
  | new (x : Nat) (e : PE)
  | dnew (x : Nat) (kvs : List (D × D))
  | app (x : Nat) (e : PE)
  | setI (x : Nat) (i e : PE)
  | extL (x : Nat) (e : PE)
  | dAug (x : Nat) (k e : PE)
  | iff (t : PE) (a b : List PS)
  | whl (t : PE) (b : List PS)
  | forR (x : Nat) (args : List PE) (b : List PS)
  | ret (e : PE)
  | retO (x : Nat)
  | brk
  | raise (c : Str) (e : PE)

inductive Fl where
  | next
  | brk
  | ret (d : D)
  | raise (c : Str) (d : D)

noncomputable def augI : Operator → Int → Int → Option D
  | .Add, a, b => some (.int (a + b))
  | .Sub, a, b => some (.int (a - b))
  | _, _, _ => none
noncomputable def augD (op : Operator) (u v : D) : Option D := (asInt u).bind fun a => (asInt v).bind fun b => augI op a b
noncomputable def asDict : D → Option (List (D × D))
  | .dict kvs => some kvs
  | _ => none

noncomputable def dput : List (D × D) → Str → D → List (D × D)
  | [], _, _ => []
  | p :: r, x, v => bif isKey p.1 x then (p.1, v) :: r else p :: dput r x v

/-- what comes behind a turn of a loop -/
noncomputable def turnO (o : Option (Fl × Rho)) (go : Rho → Option (Fl × Rho)) : Option (Fl × Rho) := o.bind fun r => match r.1 with
  | .next => go r.2
  | .brk => some (.next, r.2)
  | .ret d => some (.ret d, r.2)
  | .raise _ _ => none
/-- going through -/
noncomputable def forL (f : Rho → Option (Fl × Rho)) (x : Nat) : List D → Rho → Option (Fl × Rho)
  | [], ρ => some (.next, ρ)
  | d :: ds, ρ => turnO (f (upd ρ x d)) (forL f x ds)
noncomputable def listO : Expr → Option (List Expr)
  | .List es _ => some es
  | _ => none
noncomputable def isComp : Expr → Bool
  | .ListComp .. => true
  | _ => false
/-- a list of a range -/
noncomputable def listR (e : Expr) : Bool := match callO e with
  | some q => q.1 == ("list" : Str)
  | none => false
noncomputable def newE (b : Bool) (e : Expr) : Bool := match listO e with
  | some es => es.isEmpty
  | none => !b && (listR e || isComp e)
noncomputable def stepO' (o : Option (Fl × Rho)) (go : Rho → Option (Fl × Rho)) : Option (Fl × Rho) := o.bind fun r => match r.1 with
  | .next => go r.2
  | fl => some (fl, r.2)

section
variable (F : Nat → List D → Option D) (N : Nat)
mutual
noncomputable def exO : Nat → Rho → PS → Option (Fl × Rho)
  | 0, _, _ => none
  | n + 1, ρ, p => match p with
    | .set x e => (evE F N ρ e).bind fun d => some (.next, upd ρ x d)
    | .set2 x y e => (evE F N ρ e).bind fun d => some (.next, upd (upd ρ x d) y d)
    | .pair x y a b => (evE F N ρ a).bind fun d => (evE F N ρ b).bind fun d' => some (.next, upd (upd ρ x d) y d')
    | .aug x op e => (ρ.lookup x).bind fun u => (evE F N ρ e).bind fun v => (augD op u v).bind fun d => some (.next, upd ρ x d)
    | .new x e => (evE F N ρ e).bind fun d => some (.next, upd ρ x d)
    | .dnew x kvs => some (.next, upd ρ x (.dict kvs))
    | .app x e => (evE F N ρ e).bind fun d => ((ρ.lookup x).bind asList).bind fun ds => gd (decide (ds.length < 1000)) (some (.next, upd ρ x (.list (ds ++ [d]))))
    | .setI x i e => (evE F N ρ e).bind fun d => ((evE F N ρ i).bind asInt).bind fun k => ((ρ.lookup x).bind asList).bind fun ds => gd (decide (0 ≤ k ∧ k < (ds.length : Int) ∧ k < 1000)) (some (.next, upd ρ x (.list (ds.set k.toNat d))))
    | .extL x e => ((evE F N ρ e).bind asList).bind fun ds' => ((ρ.lookup x).bind asList).bind fun ds => gd (decide (ds.length + ds'.length < 1000)) (some (.next, upd ρ x (.list (ds ++ ds'))))
    | .dAug x k e => ((evE F N ρ k).bind asStr).bind fun key => ((ρ.lookup x).bind asDict).bind fun kvs => ((dget kvs key).bind asStr).bind fun u => ((evE F N ρ e).bind asStr).bind fun v =>
      gd (decide ((u ++ v).length ≤ 1000)) (some (.next, upd ρ x (.dict (dput kvs key (.str (u ++ v))))))
    | .iff t a b => (evT F N ρ t).bind fun c => bif c then exS n ρ a else exS n ρ b
    | .whl t b => (evT F N ρ t).bind fun c => bif c then turnO (exS n ρ b) (fun ρ' => exO n ρ' (.whl t b)) else some (.next, ρ)
    | .forR x args b => (mapO (evE F N ρ) args).bind fun ds => (rangeD ds).bind fun ls => forL (fun ρ => exS n ρ b) x ls ρ
    | .ret e => (evE F N ρ e).bind fun d => some (.ret d, ρ)
    | .retO x => (ρ.lookup x).bind fun d => some (.ret d, ρ)
    | .brk => some (.brk, ρ)
    | .raise c e => (evE F N ρ e).bind fun d => some (.raise c d, ρ)
noncomputable def exS : Nat → Rho → List PS → Option (Fl × Rho)
  | 0, _, _ => none
  | n + 1, ρ, ps => match ps with
    | [] => some (.next, ρ)
    | p :: r => stepO' (exO n ρ p) (fun ρ' => exS n ρ' r)
end
end

section
variable (C : Cx)
/-- a target that is no owned name -/
noncomputable def cTgt (sc : Scope) (x : Str) : Option Nat := gd (sc.names.lookup x == some .local || sc.names.lookup x == some .cell) ((idx C.names x).bind fun i => gd (!C.gl.contains i && !C.O.contains i) (some i))
/-- an owned target -/
noncomputable def cOwn (sc : Scope) (x : Str) : Option Nat := gd (sc.names.lookup x == some .local && !(x == ("__debug__" : Str)) && !(x == ("__classdict__" : Str))) ((idx C.names x).bind fun i => gd (C.O.contains i && !C.gl.contains i) (some i))
/-- not folded, not a comprehension -/
noncomputable def plainV : Expr → Bool
  | .Name .. => true
  | .Subscript .. => true
  | _ => false
noncomputable def plainPair (a b : Expr) : Bool := !(foldedForSure 8 a && foldedForSure 8 b) && !(constantsAlone 8 a && constantsAlone 8 b)
noncomputable def strC : Const → Option Str
  | .str x => gd (strFit x) (some x)
  | _ => none
noncomputable def strLit : Expr → Option Str
  | .Constant c _ _ => strC c
  | _ => none
noncomputable def dictO : Expr → Option (List (Option Expr) × List Expr)
  | .Dict ks vs _ => some (ks, vs)
  | _ => none
noncomputable def tupleO : Expr → Option (List Expr)
  | .Tuple es _ _ => some es
  | _ => none
noncomputable def cDict : List (Option Expr) → List Expr → Option (List (D × D))
  | [], vs => gd vs.isEmpty (some [])
  | k :: ks, vs => match vs with
    | [] => none
    | v :: vs => (k.bind strLit).bind fun x => (strLit v).bind fun y => (cDict ks vs).bind fun r => gd (dget r x).isNone (some ((.str x, .str y) :: r))

section
variable (fE : Expr → Option PE) (sc : Scope)
noncomputable def cNew (i : Nat) (value : Expr) : Option PS := match dictO value with
  | some q => (cDict q.1 q.2).bind fun kvs => gd (!C.pl.contains i && decide (kvs.length ≤ 15 ∧ 0 < kvs.length)) (some (.dnew i kvs))
  | none => (fE value).bind fun p => gd (newE (C.pl.contains i) value) (some (.new i p))
noncomputable def cAsg1 (x : Str) (value : Expr) : Option PS := match cTgt C sc x with
  | some i => (fE value).bind fun p => some (.set i p)
  | none => (cOwn C sc x).bind fun i => cNew C fE i value
noncomputable def cPair (q r : Expr × Expr) : Option PS := (nameO q.1).bind fun x => (nameO q.2).bind fun y => (cTgt C sc x).bind fun i => (cTgt C sc y).bind fun j => gd (!(i == j) && plainPair r.1 r.2) ((fE r.1).bind fun a => (fE r.2).bind fun b => some (.pair i j a b))
noncomputable def cAsgT (value : Expr) : Expr → Option PS
  | .Name x _ => cAsg1 C fE sc x value
  | .Tuple es _ _ => (two es).bind fun q => (tupleO value).bind fun l => (two l).bind fun r => cPair C fE sc q r
  | .Subscript t i _ => (nameO t).bind fun x => (cOwn C sc x).bind fun o => gd (notSlice i && plainV value && !C.pl.contains o) ((fE i).bind fun k => (fE value).bind fun p => some (.setI o k p))
  | _ => none
noncomputable def cAsg (value : Expr) : List Expr → Option PS
  | [t] => cAsgT C fE sc value t
  | [t, u] => (nameO t).bind fun x => (nameO u).bind fun y => (cTgt C sc x).bind fun i => (cTgt C sc y).bind fun j => (fE value).bind fun p => some (.set2 i j p)
  | _ => none
noncomputable def isAdd : Operator → Bool
  | .Add => true
  | _ => false
noncomputable def cAug1 (x : Str) (op : Operator) (value : Expr) : Option PS := match cTgt C sc x with
  | some i => (fE value).bind fun p => some (.aug i op p)
  | none => (cOwn C sc x).bind fun i => gd (isAdd op && !C.pl.contains i) ((fE value).bind fun q => some (.extL i q))
noncomputable def cAug (op : Operator) (value : Expr) : Expr → Option PS
  | .Name x _ => cAug1 C fE sc x op value
  | .Subscript t k _ => (nameO t).bind fun x => (cOwn C sc x).bind fun i => gd (isAdd op && notSlice k && !C.pl.contains i) ((fE k).bind fun p => (fE value).bind fun q => some (.dAug i p q))
  | _ => none
noncomputable def cRet (e : Expr) : Option PS := match (nameO e).bind (cOwn C sc) with
  | some i => some (.retO i)
  | none => (fE e).bind fun p => some (.ret p)
noncomputable def cAppF (args : List Expr) (pos : Pos) : Expr → Option PS
  | .Attribute o a apos => (nameO o).bind fun x => (one1 args).bind fun e => gd (a == ("append" : Str) && apos.endLine == pos.line) ((cOwn C sc x).bind fun i => gd (C.pl.contains i) ((fE e).bind fun p => some (.app i p)))
  | _ => none
noncomputable def cApp : Expr → Option PS
  | .Call f args kws pos => gd kws.isEmpty (cAppF C fE sc args pos f)
  | _ => none
noncomputable def cRaise (e : Expr) : Option PS := (callO e).bind fun q => gd (isGlobalName sc q.1) ((one1 q.2).bind fun e => (fE e).bind fun p => some (.raise q.1 p))
end

noncomputable def flatP : PS → Bool
  | .iff .. => false
  | .raise .. => false
  | _ => true
/-- no if, no raise -/
noncomputable def flatR (o : Option PS) : Option PS := o.bind fun p => gd (flatP p) (some p)
theorem flatR_o {P : Prop} {o : Option PS} {p : PS} (h : flatR o = some p) (k : o = some p → flatP p = true → P) : P := ob h fun q h1 h => gdo h fun hf h => by
  cases h; exact k h1 hf

mutual
noncomputable def cS : Nat → Scope → Stmt → Option PS
  | 0, _, _ => none
  | n + 1, sc, st => match st with
    | .Assign ts value _ => flatR (cAsg C (cE C n sc) sc value ts)
    | .AugAssign t op value _ => flatR (cAug C (cE C n sc) sc op value t)
    | .If t a b _ => (cE C n sc t).bind fun p => (cSs n sc a).bind fun q => (cSs n sc b).bind fun r => some (.iff p q r)
    | .While t b els _ => gd els.isEmpty ((cE C n sc t).bind fun p => (cSs n sc b).bind fun q => some (.whl p q))
    | .For t it b els _ => gd els.isEmpty ((nameO t).bind fun x => (rangeCall sc it).bind fun args => (cTgt C sc x).bind fun i => (mapO (cE C n sc) args).bind fun ps => (cSs n sc b).bind fun q => some (.forR i ps q))
    | .Return v _ => flatR (v.bind (cRet C (cE C n sc) sc))
    | .Break _ => some .brk
    | .Expr e _ => flatR (cApp C (cE C n sc) sc e)
    | .Raise e c _ => gd c.isNone (e.bind (cRaise (cE C n sc) sc))
    | _ => none
noncomputable def cSs : Nat → Scope → List Stmt → Option (List PS)
  | 0, _, _ => none
  | n + 1, sc, ss => match ss with
    | [] => some []
    | st :: r => (cS n sc st).bind fun p => (cSs n sc r).bind fun q => some (p :: q)
end
end
end Ev
namespace Ev
open PySem PySem.Calls PyProof.Rows

section
variable [Base] (prog : Program) (w : World)
noncomputable def FlR (Wb : Addr → Prop) (h : Heap) : Fl → Flow → Prop
  | .next, f => f = .next
  | .brk, f => f = .brk
  | .ret d, f => ∃ v, f = .ret v ∧ Rep prog w Wb h d v
  | .raise _ _, _ => False

noncomputable def Grown (X W X' W' : Addr → Prop) (h : Heap) : Prop := (∀ a, X a → X' a) ∧ (∀ a, X' a → X a ∨ h.get? a = none) ∧ (∀ a, W a → W' a) ∧ (∀ a, W' a → W a ∨ h.get? a = none)

/-- the state has gone on -/
noncomputable def Went (C : Cx) (B : Heap) (mg : Str → Option Value) (kF : Nat) (Wb X W : Addr → Prop) (env : Env) (sc : Scope) (A : Around) (s : Shared) (ρ' : Rho) (s' : Shared) : Prop :=
  ∃ X' W', Grown X W X' W' s.heap ∧ KpB X s s' ∧ Sx prog w C B mg kF Wb X' W' env sc ρ' A s'
noncomputable def SP (C : Cx) (B : Heap) (mg : Str → Option Value) (kF : Nat) (Wb X W : Addr → Prop) (env : Env) (sc : Scope) (A : Around) (s : Shared) (fl : Fl) (ρ' : Rho) (f : Flow) (s' : Shared) : Prop :=
  FlR prog w Wb s'.heap fl f ∧ Went prog w C B mg kF Wb X W env sc A s ρ' s'
end

section
variable [Base] {prog : Program} {w : World} {C : Cx} {F : Nat → List D → Option D} {B : Heap} {mg : Str → Option Value} {kF : Nat}
  {sc : Scope} {ρ : Rho} {env : Env} {Wb X W : Addr → Prop} {A : Around} {s : Shared} {E : Value → Shared → Prop} {n m N : Nat}

theorem Grown.refl (X W : Addr → Prop) (h : Heap) : Grown X W X W h := ⟨fun _ q => q, fun _ q => .inl q, fun _ q => q, fun _ q => .inl q⟩
theorem Grown.trans {X W X' W' X'' W'' : Addr → Prop} {h h' : Heap} (a : Grown X W X' W' h) (hXW : ∀ a, X a → W a) (k : KHB X h h') (b : Grown X' W' X'' W'' h') : Grown X W X'' W'' h := by
  have old : ∀ c, h'.get? c = none → X c ∨ h.get? c = none := fun c hc => by
    by_cases q : X c
    · exact .inl q
    · cases e : h.get? c with
      | none => exact .inr rfl
      | some o => obtain ⟨o', e'⟩ := (k c o q e).there; rw [hc] at e'; cases e'
  refine ⟨fun c q => b.1 c (a.1 c q), fun c q => ?_, fun c q => b.2.2.1 c (a.2.2.1 c q), fun c q => ?_⟩
  · rcases b.2.1 c q with q | q
    · exact a.2.1 c q
    · exact old c q
  · rcases b.2.2.2 c q with q | q
    · exact a.2.2.2 c q
    · rcases old c q with q | q
      · exact .inl (hXW c q)
      · exact .inr q
theorem KpB.step {X X' W W' : Addr → Prop} {a b c : Shared} (x : KpB X a b) (g : Grown X W X' W' a.heap) (y : KpB X' b c) : KpB X a c := by
  obtain ⟨h1, t1, e1⟩ := x.same
  obtain ⟨h2, t2, e2⟩ := y.same
  refine ⟨⟨h2, t2, by rw [e2, e1]⟩, fun d o hd e => Kept.trans (x.keep d o hd e) fun _ e' => y.keep d _ (fun q => ?_) e'⟩
  rcases g.2.1 d q with q | q
  · exact hd q
  · rw [q] at e; cases e

theorem SP.after {X' W' : Addr → Prop} {s₁ s₂ : Shared} {fl : Fl} {ρ' : Rho} {f : Flow} (g : Grown X W X' W' s.heap) (k : KpB X s s₁) (hXW : ∀ a, X a → W a) (p : SP prog w C B mg kF Wb X' W' env sc A s₁ fl ρ' f s₂) :
    SP prog w C B mg kF Wb X W env sc A s fl ρ' f s₂ := by
  obtain ⟨h1, X'', W'', g', k', S⟩ := p
  exact ⟨h1, X'', W'', g.trans hXW k.keep g', k.step g k', S⟩
theorem sp_mono {s₁ : Shared} {fl : Fl} {ρ' : Rho} {t : Sem Flow} (k : Kp s s₁) (hXW : ∀ a, X a → W a) (h : wpAny (model prog w) A t (SP prog w C B mg kF Wb X W env sc A s₁ fl ρ') E s₁) : wpAny (model prog w) A t (SP prog w C B mg kF Wb X W env sc A s fl ρ') E s₁ :=
  wpAny_mono h (fun _ _ p => p.after (Grown.refl _ _ _) k.toB hXW) fun _ _ e => e

/-- what a statement's run is told -/
noncomputable def SndS (prog : Program) (w : World) (C : Cx) (F : Nat → List D → Option D) (N : Nat) (B : Heap) (mg : Str → Option Value) (kF : Nat) (n : Nat) : Prop :=
  ∀ (m : Nat) (sc : Scope) (ss : List Stmt) (ps : List PS) (ρ ρ' : Rho) (fl : Fl) (env : Env) (Wb X W : Addr → Prop) (A : Around) (s : Shared) (E : Value → Shared → Prop),
    cSs C m sc ss = some ps → exS F N n ρ ps = some (fl, ρ') → Sx prog w C B mg kF Wb X W env sc ρ A s → (∀ c d, fl ≠ .raise c d) → wpAny (model prog w) A (execs ss env) (SP prog w C B mg kF Wb X W env sc A s fl ρ') E s
noncomputable def SndO (prog : Program) (w : World) (C : Cx) (F : Nat → List D → Option D) (N : Nat) (B : Heap) (mg : Str → Option Value) (kF : Nat) (n : Nat) : Prop :=
  ∀ (m : Nat) (sc : Scope) (st : Stmt) (p : PS) (ρ ρ' : Rho) (fl : Fl) (env : Env) (Wb X W : Addr → Prop) (A : Around) (s : Shared) (E : Value → Shared → Prop),
    cS C m sc st = some p → exO F N n ρ p = some (fl, ρ') → Sx prog w C B mg kF Wb X W env sc ρ A s → (∀ c d, fl ≠ .raise c d) → wpAny (model prog w) A (exec st env) (SP prog w C B mg kF Wb X W env sc A s fl ρ') E s

theorem cTgt_some {x : Str} {i : Nat} (h : cTgt C sc x = some i) : idx C.names x = some i ∧ C.gl.contains i = false ∧ C.O.contains i = false ∧ (sc.names.lookup x = some .local ∨ sc.names.lookup x = some .cell) :=
  gdo h fun hk h => ob h fun j hj h => gdo h fun hn h => and_o hn fun h1 h2 => by
    obtain rfl := sj h
    exact ⟨hj, not_o h1, not_o h2, by simpa only [Bool.or_eq_true, beq_iff_eq] using hk⟩
theorem tgt_kind (hm : Matches sc env) {x : Str} (h : sc.names.lookup x = some .local ∨ sc.names.lookup x = some .cell) : env.kindOf x = some .local ∨ env.kindOf x = some .cell := by
  rcases hm x with q | ⟨q, _⟩
  · rw [q]; exact h
  · rw [q] at h; rcases h with h | h <;> cases h

theorem Sx.put {x : Str} {i : Nat} {d : D} {v : Value} (S : Sx prog w C B mg kF Wb X W env sc ρ A s) (hx : cTgt C sc x = some i) (r : Rep prog w W s.heap d v) {Q : Unit → Shared → Prop}
    (hQ : ∀ s', KpB X s s' → Sx prog w C B mg kF Wb X W env sc (upd ρ i d) A s' → Q () s') : wpAny (model prog w) A (storeName env x v) Q E s := by
  obtain ⟨a, b, c, d⟩ := cTgt_some hx
  exact S.store a b c (tgt_kind S.hy.mt d) r fun s' k S' => hQ s' k S'.ordered

/-- other places change, none of the call's own -/
theorem Sx.off {V W0 : Addr → Prop} {s' : Shared} (S : Sx prog w C B mg kF Wb X W env sc ρ A s) (kn : KHB V s.heap s'.heap) (hVW : ∀ a, V a → W a) (hVX : ∀ a, V a → ¬ X a) (hVB : ∀ a, V a → B.get? a = none) (hVF : C.exc = true → ∀ a, V a → ¬ IsFr A a)
    (h0 : ∀ a, W0 a → W a) (hx0 : ∀ a, X a → W0 a) (hb0 : ∀ a, Wb a → W0 a) (hw : Wok W0 s'.heap) : Sx prog w C B mg kF Wb X W0 env sc ρ A s' := by
  have kx : ∀ {a}, X a → ∀ o, s.heap.get? a = some o → Kept s'.heap a o := fun h o e => kn _ o (fun q => hVX _ q h) e
  have mono := fun {y j d v} => S.mono (y := y) (j := j) (d := d) (v := v) (kn.more hVW) fun _ _ _ a o => kx o.hX
  obtain ⟨m, hm, hloc⟩ := S.hy.ke.ns
  refine ⟨⟨EnvS.less h0 ⟨S.hy.ke.kf, S.hy.ke.gl, S.hy.ke.bl, ⟨m, Ns.kp hm (kx S.xl), fun y j d' h1 h2 h3 => ?_⟩, fun y j d' h1 h2 h3 => ?_, fun y e => ?_, fun y j d' h1 h2 h3 => ?_⟩, S.hy.mt, S.hy.ok, hw, fun a ha => S.hy.wb a (h0 a ha),
      S.hy.bk.on' S.hy.eb fun b o eB e => kn b o (fun q => by rw [hVB b q] at eB; cases eB) e, S.hy.eb, fun e => (S.hy.fr e).keepB kn fun b hb q => hVF e b q hb⟩,
    S.xl, fun y c h1 h2 => (S.xc y c h1 h2).keep (kx (S.xc y c h1 h2).hX), S.ap, hx0, hb0, fun y j d' h1 h2 h3 => (S.ob y j d' h1 h2 h3).elim fun a o => ⟨a, o.keep (kx S.xl) (kx o.hX)⟩⟩
  · obtain ⟨u, q1, q2⟩ := hloc y j d' h1 h2 h3
    exact ⟨u, q1, mono h1 h3 (.inl ⟨m, hm, q1⟩) q2⟩
  · obtain ⟨c, u, q1, q2, q3⟩ := S.hy.ke.cl y j d' h1 h2 h3
    exact ⟨c, u, q1, IsCell.kp q2 (kx (S.xc y c h2 q1).hX), mono h1 h3 (.inr h2) q3⟩
  · obtain ⟨c, a, o, b⟩ := S.hy.ke.cov y e
    exact ⟨c, a, (kx (S.xc y c e a).hX o b).there⟩
  · obtain ⟨u, q1, q2⟩ := S.hy.ke.gv y j d' h1 h2 h3
    exact ⟨u, q1, q2.mono (kn.more hVW)⟩
/-- the places of a block of its own let go -/
theorem Sx.block {C' : Addr} {h' : Heap} {W0 : Addr → Prop} (S : Sx prog w C B mg kF Wb X W env sc ρ A s) (hW : W C') (hX : ¬ X C') (hb : B.get? C' = none) (hs : Heap.SameBut C' s.heap h') (h0 : ∀ a, W0 a → W a) (h0C : ¬ W0 C') (hCF : C.exc = true → ¬ IsFr A C')
    (hx0 : ∀ a, X a → W0 a) (hb0 : ∀ a, Wb a → W0 a) : Sx prog w C B mg kF Wb X W0 env sc ρ A { s with heap := h' } :=
  S.off (V := fun a => a = C') (fun b o h e => sb_kept hs h e) (fun a e => e ▸ hW) (fun a e => e ▸ hX) (fun a e => e ▸ hb) (fun h a e => e ▸ hCF h) h0 hx0 hb0 fun a ha =>
    let ⟨o, e⟩ := S.hy.wk a (h0 a ha); ⟨o, hs.extBut a o (fun q => h0C (q ▸ ha)) e⟩

/-- shun places that are new since s -/
theorem Sx.newer {W' : Addr → Prop} {s' : Shared} (S : Sx prog w C B mg kF Wb X W env sc ρ A s) (k : Kp s s') (up : ∀ a, W a → W' a) (i : ∀ a, W' a → W a ∨ s.heap.get? a = none) (hw : Wok W' s'.heap) : Sx prog w C B mg kF Wb X W' env sc ρ A s' := by
  have hb : ∀ a, W' a → B.get? a = none := fun a ha => by
    rcases i a ha with q | q
    · exact S.hy.wb a q
    · cases e : B.get? a with
      | none => rfl
      | some o => rw [S.hy.bk _ _ e] at q; cases q
  have S' := S.kp k
  exact ⟨⟨(S.hy.ke.more i).keep k.keep, S.hy.mt, S.hy.ok, hw, hb, S'.hy.bk, S.hy.eb, S'.hy.fr⟩, S.xl, S'.xc, S.ap, fun a q => up a (S.xw a q), fun a q => up a (S.bw a q), S'.ob⟩

end
end Ev
namespace Ev
open PySem PySem.Calls PyProof.Rows

theorem swaps_plain {value : Expr} {t : Option Expr} {line : Nat} {env : Env} {P : Prop} (h : swapsWith value t line env = pure false → P) (h1 : ∀ a b c d, value = .ListComp a b c d → P) (h2 : ∀ a b c d, value = .SetComp a b c d → P) (h3 : ∀ a b c d e, value = .DictComp a b c d e → P) : P := by
  cases value with
  | ListComp _ _ _ _ => exact h1 _ _ _ _ rfl
  | SetComp _ _ _ _ => exact h2 _ _ _ _ rfl
  | DictComp _ _ _ _ _ => exact h3 _ _ _ _ _ rfl
  | _ => exact h rfl
theorem swaps_comp {elt : Expr} {gens : List Comprehension} {scope : Scope} {p : Pos} {x : Str} {px : Pos} {line : Nat} {env : Env} : ∃ b, swapsWith (.ListComp elt gens scope p) (some (.Name x px)) line env = pure b := ⟨_, rfl⟩

section
variable [Base] {prog : Program} {w : World} {C : Cx} {F : Nat → List D → Option D} {B : Heap} {mg : Str → Option Value} {kF : Nat}
  {sc : Scope} {ρ : Rho} {env : Env} {Wb X W : Addr → Prop} {A : Around} {s : Shared} {E : Value → Shared → Prop} {n m N : Nat}

theorem cE_noSet {a b c d} {p : PE} {P : Prop} (h : cE C m sc (.SetComp a b c d) = some p) : P := by cases m <;> exact dead h
theorem cE_noDict {a b c d e} {p : PE} {P : Prop} (h : cE C m sc (.DictComp a b c d e) = some p) : P := by cases m <;> exact dead h

/-- a comprehension whose list is stored at once -/
theorem comp_used (G : Gl prog w C F B mg kF) {elt : Expr} {gens : List Comprehension} {scope : Scope} {cp : Pos} {p : PE} {d : D}
    (hc : cE C m sc (.ListComp elt gens scope cp) = some p) (he : evE F N ρ p = some d) (S : Sx prog w C B mg kF Wb X W env sc ρ A s) {u : Value → Sem Unit} {Q : Value → Shared → Prop}
    (hu : ∀ (dD C' : Addr) (s' : Shared) (ds : List D) (ys : List Value), d = .list ds → CompEnd prog w W s ds dD C' s' ys →
      wpAny (model prog w) A (u (.ref dD)) (fun _ s'' => ∃ m, s''.heap.Ns C' m ∧ ∀ h', Heap.SameBut C' s''.heap h' → Q .none { s'' with heap := h' }) E s') :
    wpAny (model prog w) A (evalThenUse (.ListComp elt gens scope cp) env u) (fun _ s' => ∃ v, Q v s') E s := by
  show wpAny (model prog w) A (do let _ ← comprehension (.ListComp elt gens scope cp) scope env (firstIterPos gens cp) (newList []) (firstAsync gens) (firstIter gens env) (some u)) _ E s
  cases m with
  | zero => exact dead hc
  | succ m =>
    cases N with
    | zero => exact dead he
    | succ N =>
      have q := snd_all (prog := prog) (w := w) G N
      exact wpAny_bind (wpAny_mono (comp_run (use := some u) (Q := Q) G q.1 q.2.1 q.2.2 hc he S.hy hu) (fun v s' q => wpAny_pure ⟨v, q⟩) fun _ _ e => e)

theorem Sx.notX {a : Addr} (S : Sx prog w C B mg kF Wb X W env sc ρ A s) (h : s.heap.get? a = none) : ¬ X a := fun q => by
  obtain ⟨o, e⟩ := S.hy.wk a (S.xw a q)
  rw [h] at e; cases e
theorem Sx.notB {a : Addr} (S : Sx prog w C B mg kF Wb X W env sc ρ A s) (h : s.heap.get? a = none) : B.get? a = none := by
  cases e : B.get? a with
  | none => rfl
  | some o => rw [S.hy.bk _ _ e] at h; cases h

theorem KpB.block {s s' s'' : Shared} {C' : Addr} {h' : Heap} (k : KpB X s s') (hC : s.heap.get? C' = none) (hs : Heap.SameBut C' s'.heap h') : KpB X s { s' with heap := h' } := by
  obtain ⟨h1, t1, e1⟩ := k.same
  refine ⟨⟨h', t1, by rw [e1]⟩, fun b o hb e => Kept.trans (k.keep b o hb e) fun _ e' => sb_kept hs (fun q => by rw [q, hC] at e; cases e) e'⟩

theorem set_comp (G : Gl prog w C F B mg kF) {x : Str} {px pos cp : Pos} {elt : Expr} {gens : List Comprehension} {scope : Scope} {i : Nat} {p : PE} {d : D} (ht : cTgt C sc x = some i) (hc : cE C m sc (.ListComp elt gens scope cp) = some p) (he : evE F N ρ p = some d)
    (S : Sx prog w C B mg kF Wb X W env sc ρ A s) (hb : swapsWith (.ListComp elt gens scope cp) (some (.Name x px)) pos.line env = pure true) :
    wpAny (model prog w) A (exec (.Assign [.Name x px] (.ListComp elt gens scope cp) pos) env) (SP prog w C B mg kF Wb X W env sc A s .next (upd ρ i d)) E s := by
  rw [exec_Assign_Name_used _ _ _ _ hb]
  refine wpAny_bind (wpAny_standAt (wpAny_bind (wpAny_mono (comp_used (Q := fun _ s' => SP prog w C B mg kF Wb X W env sc A s .next (upd ρ i d) .next s') G hc he S fun dD C' s' ds ys e Y => ?_) (fun _ s' q => wpAny_pure q.choose_spec) fun _ _ e => e)))
  subst e
  refine assign_Name ?_
  obtain ⟨h1, h2, h3, k, hl, hr, hy, ⟨mC, hmC⟩, hw⟩ := Y
  have hCX := S.notX h2
  have S1 : Sx prog w C B mg kF Wb X (fun a => W a ∨ a = C') env sc ρ A s' := by
    refine S.newer k (fun a q => .inl q) (fun a q => q.elim .inl fun q => .inr (q ▸ h2)) fun a q => ?_
    rcases q with q | rfl
    · exact (S.kp k).hy.wk a q
    · obtain ⟨o, _, _, e, _⟩ := hmC; exact ⟨o, e⟩
  refine S1.put (d := .list ds) ht ⟨⟨dD, ys, rfl, hl, hy, hr.less fun a q => q.elim .inl fun q => .inr (.inl q)⟩, ?_⟩ fun s'' k' S'' => ?_
  · intro a ea; cases ea; exact fun q => q.elim hw h3
  · refine ⟨mC, Ns.kp hmC fun o e => k'.keep _ o hCX e, fun h' hs => ⟨rfl, X, W, Grown.refl _ _ _, (k.toB.trans k').block (s'' := s) h2 hs, ?_⟩⟩
    exact S''.block (.inr rfl) hCX (S.notB h2) hs (fun a q => .inl q) (fun q => by obtain ⟨o, e⟩ := S.hy.wk _ q; rw [h2] at e; cases e) (fun e hb => (S.hy.fr e).notNone hb h2) S.xw S.bw
theorem arm_set (G : Gl prog w C F B mg kF) {x : Str} {px pos : Pos} {value : Expr} {i : Nat} {p : PE} {d : D} (ht : cTgt C sc x = some i) (hc : cE C m sc value = some p) (he : evE F N ρ p = some d)
    (S : Sx prog w C B mg kF Wb X W env sc ρ A s) : wpAny (model prog w) A (exec (.Assign [.Name x px] value pos) env) (SP prog w C B mg kF Wb X W env sc A s .next (upd ρ i d)) E s := by
  have plain : swapsWith value (some (.Name x px)) pos.line env = pure false → wpAny (model prog w) A (exec (.Assign [.Name x px] value pos) env) (SP prog w C B mg kF Wb X W env sc A s .next (upd ρ i d)) E s := fun hs => by
    refine wpAny_Assign_Name (wpAny_mono ((snd_all G N).1 m sc value p ρ d env W A s E hc he S.hy) (fun v s₁ q => ?_) fun _ _ e => e) hs
    exact (S.kp q.1).put ht q.2 fun s' k S' => ⟨rfl, X, W, Grown.refl _ _ _, q.1.toB.trans k, S'⟩
  refine swaps_plain plain (fun elt gens scope cp e => ?_) (fun _ _ _ _ e => cE_noSet (e ▸ hc)) fun _ _ _ _ _ e => cE_noDict (e ▸ hc)
  subst e
  obtain ⟨b, hb⟩ := swaps_comp (elt := elt) (gens := gens) (scope := scope) (p := cp) (x := x) (px := px) (line := pos.line) (env := env)
  cases b with
  | false => exact plain hb
  | true => exact set_comp G ht hc he S hb

theorem arm_set2 (G : Gl prog w C F B mg kF) {x y : Str} {px py pos : Pos} {value : Expr} {i j : Nat} {p : PE} {d : D} (hx : cTgt C sc x = some i) (hy : cTgt C sc y = some j) (hc : cE C m sc value = some p) (he : evE F N ρ p = some d)
    (S : Sx prog w C B mg kF Wb X W env sc ρ A s) : wpAny (model prog w) A (exec (.Assign [.Name x px, .Name y py] value pos) env) (SP prog w C B mg kF Wb X W env sc A s .next (upd (upd ρ i d) j d)) E s := by
  refine wpAny_Assign_two (wpAny_mono ((snd_all G N).1 m sc value p ρ d env W A s E hc he S.hy) (fun v s₁ q => ?_) fun _ _ e => e)
  refine assign_Name ((S.kp q.1).put hx q.2 fun s₂ k₂ S₂ => assign_Name (S₂.put hy ?_ fun s₃ k₃ S₃ => ⟨rfl, X, W, Grown.refl _ _ _, (q.1.toB.trans k₂).trans k₃, S₃⟩))
  exact q.2.mono (k₂.keep.more S.xw)

theorem names_pair {x y : Str} {px py : Pos} (hxy : x ≠ y) (g : Expr → Option Str) (h1 : g (.Name x px) = some x ∨ g (.Name x px) = none) (h2 : g (.Name y py) = some y ∨ g (.Name y py) = none) :
    (if ((List.filterMap g [.Name x px, .Name y py]).length != [Expr.Name x px, Expr.Name y py].length || (List.filterMap g [.Name x px, .Name y py]).eraseDups.length != (List.filterMap g [.Name x px, .Name y py]).length) = true then (pure none : Sem (Option (List Str)))
      else pure (some (List.filterMap g [.Name x px, .Name y py]))) = pure none ∨
    (if ((List.filterMap g [.Name x px, .Name y py]).length != [Expr.Name x px, Expr.Name y py].length || (List.filterMap g [.Name x px, .Name y py]).eraseDups.length != (List.filterMap g [.Name x px, .Name y py]).length) = true then (pure none : Sem (Option (List Str)))
      else pure (some (List.filterMap g [.Name x px, .Name y py]))) = pure (some [x, y]) := by
  have yx : (y == x) = false := by simpa using Ne.symm hxy
  rcases h1 with h1 | h1 <;> rcases h2 with h2 | h2 <;> simp [List.filterMap_cons, h1, h2, List.eraseDups_cons, yx]
theorem isStar_no {a : Expr} : plainE a = true → (match a with | .Starred .. => true | _ => false) = false := by
  intro ha
  cases a with
  | Starred _ _ => cases ha
  | _ => rfl
theorem swapped_pair {x y : Str} {px py tp vp : Pos} {k k' : Nat} {a b : Expr} (hk : env.blockKind = .function) (hxy : x ≠ y) (ha : plainE a = true) (hb : plainE b = true) (hp : plainPair a b = true) :
    swappedStores [.Tuple [.Name x px, .Name y py] k tp] (.Tuple [a, b] k' vp) env = pure none ∨ swappedStores [.Tuple [.Name x px, .Name y py] k tp] (.Tuple [a, b] k' vp) env = pure (some [x, y]) := by
  simp only [plainPair, Bool.and_eq_true, Bool.not_eq_true', Bool.and_eq_false_iff] at hp
  have e1 : (([a, b] : List Expr).any fun | .Starred .. => true | _ => false) = false := by
    rw [List.any_cons, List.any_cons, List.any_nil, isStar_no ha, isStar_no hb]; rfl
  have e2 : ([a, b] : List Expr).all (foldedForSure 8) = false := by simp only [List.all_cons, List.all_nil, Bool.and_true, Bool.and_eq_false_iff]; exact hp.1
  have e3 : ([a, b] : List Expr).all (constantsAlone 8) = false := by simp only [List.all_cons, List.all_nil, Bool.and_true, Bool.and_eq_false_iff]; exact hp.2
  unfold swappedStores
  dsimp only
  rw [if_neg (by simp [hk])]
  rw [if_neg (c := _ = true) (show ¬ _ = true from by
    have e1' := e1
    simp only [Bool.not_eq_true]
    exact e1')]
  rw [e2, e3]
  simp only [Bool.false_eq_true, if_false]
  exact names_pair hxy _ (by dsimp only; split <;> simp) (by dsimp only; split <;> simp)

theorem upd_swap {i j : Nat} {d d' : D} (hij : i ≠ j) (l : Nat) : (upd (upd ρ i d) j d').lookup l = (upd (upd ρ j d') i d).lookup l := by
  simp only [upd_lookup, List.lookup_cons]
  cases h1 : l == i <;> cases h2 : l == j <;> simp
  have h1 : l = i := by simpa using h1
  have h2 : l = j := by simpa using h2
  exact absurd (h1.symm.trans h2) hij
theorem arm_pair (G : Gl prog w C F B mg kF) {x y : Str} {px py tp vp pos : Pos} {k k' : Nat} {a b : Expr} {i j : Nat} {p q : PE} {d d' : D} (hx : cTgt C sc x = some i) (hy : cTgt C sc y = some j) (hij : i ≠ j) (hca : cE C m sc a = some p) (hcb : cE C m sc b = some q)
    (hp : plainPair a b = true) (hea : evE F N ρ p = some d) (heb : evE F N ρ q = some d') (S : Sx prog w C B mg kF Wb X W env sc ρ A s) :
    wpAny (model prog w) A (exec (.Assign [.Tuple [.Name x px, .Name y py] k tp] (.Tuple [a, b] k' vp) pos) env) (SP prog w C B mg kF Wb X W env sc A s .next (upd (upd ρ i d) j d')) E s := by
  have SE := (snd_all (prog := prog) (w := w) G N).1
  have hxy : x ≠ y := fun e => hij (sj (hx.symm.trans (e ▸ hy)))
  have hbk : env.blockKind = .function := by unfold Env.blockKind; rw [S.hy.ke.kf]; rfl
  have ev : ∀ (Q : Value → Shared → Prop), (∀ (t : Addr) (u v : Value) (s₁ : Shared), Kp s s₁ → s₁.heap.IsTuple t [u, v].toArray → Rep prog w W s₁.heap d u → Rep prog w W s₁.heap d' v → Q (.ref t) s₁) → wpAny (model prog w) A (eval (.Tuple [a, b] k' vp) env) Q E s := fun Q hQ => by
    refine wpAny_Tuple ?_
    refine wpAny_mono (splice_E SE (es := [a, b]) (ps := [p, q]) (ds := [d, d']) (m := m) (ob_i hca (ob_i (ob_i hcb rfl) rfl)) (ob_i hea (ob_i (ob_i heb rfl) rfl)) S.hy) (fun vs s₁ r => ⟨?_, ?_⟩) fun _ _ e => e
    · rw [r.2.length]; exact (by decide : 2 ≤ sizeLine)
    · obtain ⟨u, v, e, ru, rv⟩ := reps2 r.2
      subst e
      exact hQ _ u v _ (r.1.trans (Kp.pushS _ _)) ⟨_, Heap.get?_push_size _ rfl, rfl, _, rfl⟩ (ru.keep (KH.push _ _)) (rv.keep (KH.push _ _))
  rcases swapped_pair (px := px) (py := py) (tp := tp) (vp := vp) (k := k) (k' := k') hbk hxy (cE_plain hca) (cE_plain hcb) hp with hw | hw
  · refine Assign_Tuple (ev _ fun t u v s₁ k₁ ht ru rv => ?_) rfl hw
    refine wpAny_bind (wpAny_standAt (wpAny_unpack_tuple S.hy.ok.1 ht rfl rfl fun h' he => ?_))
    have kh : Kp s₁ { s₁ with heap := h' } := Kp.ofS fun b o e => he b o (Nat.ne_of_lt (Heap.lt_size e)) e
    refine wpAny_bind (wpAny_holding (assign_Name ((S.kp (k₁.trans kh)).put hx (ru.keep kh.keep) fun s₂ k₂ S₂ => ?_)))
    refine wpAny_bind (wpAny_holding (assign_Name (S₂.put hy ((rv.keep kh.keep).mono (k₂.keep.more S.xw)) fun s₃ k₃ S₃ => ?_)))
    exact wpAny_pure ⟨rfl, X, W, Grown.refl _ _ _, ((k₁.trans kh).toB.trans k₂).trans k₃, S₃⟩
  · refine Assign_Tuple_swapped (ev _ fun t u v s₁ k₁ ht ru rv => ?_) rfl hw
    rw [show ([x, y] : List Str).length = ([u, v] : List Value).toArray.size from rfl]
    refine wpAny_unpackItems_tuple S.hy.ok.1 ht fun h' he => ?_
    have kh : Kp s₁ { s₁ with heap := h' } := Kp.ofS fun b o e => he b o (Nat.ne_of_lt (Heap.lt_size e)) e
    refine wpAny_bind (wpAny_holding (wpAny_bindName ((S.kp (k₁.trans kh)).put hy (rv.keep kh.keep) fun s₂ k₂ S₂ => ?_)))
    refine wpAny_bind (wpAny_holding (wpAny_bindName (S₂.put hx ((ru.keep kh.keep).mono (k₂.keep.more S.xw)) fun s₃ k₃ S₃ => ?_)))
    exact wpAny_pure ⟨rfl, X, W, Grown.refl _ _ _, ((k₁.trans kh).toB.trans k₂).trans k₃, S₃.ext (upd_swap hij)⟩

theorem augD_sound {op : Operator} {u v d : D} {a b : Value} (e : augD op u v = some d) (ra : RepT prog w W s.heap u a) (rb : RepT prog w W s.heap v b) : wpAny (model prog w) A (inplaceOp op a b) (Post prog w W s d) E s := by
  refine ob e fun x hx e => ob e fun y hy e => asInt_r hx ra fun t e1 => asInt_r hy rb fun t' e2 => ?_
  subst e1 e2
  cases op with
  | Add => obtain rfl := sj e; exact AutoIntOps.iadd_0 Post.int
  | Sub => obtain rfl := sj e; exact AutoIntOps.isub_0 Post.int
  | _ => exact dead e

end
end Ev
namespace Ev
open PySem PySem.Calls PyProof.Rows

section
variable [Base] {prog : Program} {w : World} {C : Cx} {F : Nat → List D → Option D} {B : Heap} {mg : Str → Option Value} {kF : Nat}
  {sc : Scope} {ρ : Rho} {env : Env} {Wb X W : Addr → Prop} {A : Around} {s : Shared} {E : Value → Shared → Prop} {n m N : Nat}

theorem turnO_o {P : Prop} {o : Option (Fl × Rho)} {go : Rho → Option (Fl × Rho)} {fl : Fl} {ρ' : Rho} (h : turnO o go = some (fl, ρ')) (k1 : ∀ ρ2, o = some (.next, ρ2) → go ρ2 = some (fl, ρ') → P) (k2 : o = some (.brk, ρ') → fl = .next → P)
    (k3 : ∀ d, o = some (.ret d, ρ') → fl = .ret d → P) : P := by
  refine ob h fun r ho h => ?_
  obtain ⟨f, r2⟩ := r
  cases f with
  | next => exact k1 r2 ho h
  | brk => cases h; exact k2 ho rfl
  | ret d => cases h; exact k3 d ho rfl
  | raise _ _ => exact dead h
/-- a turn's body -/
theorem turn_run {b : List Stmt} {q : List PS} {k : Nat} (hb : cSs C m sc b = some q) (IS : SndS prog w C F N B mg kF k) (S : Sx prog w C B mg kF Wb X W env sc ρ A s) {go : Rho → Option (Fl × Rho)} {fl : Fl} {ρ' : Rho} {Q : Flow → Shared → Prop}
    (h : turnO (exS F N k ρ q) go = some (fl, ρ')) (next : ∀ ρ2 s', go ρ2 = some (fl, ρ') → Went prog w C B mg kF Wb X W env sc A s ρ2 s' → Q .next s') (brk : ∀ s', fl = .next → Went prog w C B mg kF Wb X W env sc A s ρ' s' → Q .brk s')
    (ret : ∀ v s', FlR prog w Wb s'.heap fl (.ret v) → Went prog w C B mg kF Wb X W env sc A s ρ' s' → Q (.ret v) s') : wpAny (model prog w) A (execs b env) Q E s := by
  have run := fun ρ2 fl' h => IS m sc b q ρ ρ2 fl' env Wb X W A s E hb h S
  refine turnO_o h (fun ρ2 ho hg => ?_) (fun ho e => ?_) fun d ho e => ?_
  · exact wpAny_mono (run ρ2 .next ho nofun) (fun f s' p => by obtain ⟨rfl, p⟩ := p; exact next ρ2 s' hg p) fun _ _ e => e
  · exact wpAny_mono (run ρ' .brk ho nofun) (fun f s' p => by obtain ⟨rfl, p⟩ := p; exact brk s' e p) fun _ _ e => e
  · exact wpAny_mono (run ρ' (.ret d) ho nofun) (fun f s' p => by obtain ⟨⟨v, rfl, r⟩, p⟩ := p; exact ret v s' (e ▸ ⟨v, rfl, r⟩) p) fun _ _ e => e
theorem Went.on {ρ2 ρ3 : Rho} {X' W' : Addr → Prop} {s₁ s₂ : Shared} (g : Grown X W X' W' s.heap) (k : KpB X s s₁) (hXW : ∀ a, X a → W a) (h : Went prog w C B mg kF Wb X' W' env sc A s₁ ρ3 s₂) : Went prog w C B mg kF Wb X W env sc A s ρ3 s₂ :=
  let ⟨X'', W'', g', k', S'⟩ := h; ⟨X'', W'', g.trans hXW k.keep g', k.step g k', S'⟩

theorem whl_turn (G : Gl prog w C F B mg kF) {t : Expr} {p : PE} {q : List PS} (hc : cE C m sc t = some p) {fl : Fl} {ρ' ρk : Rho} {k : Nat} {s' : Shared} (hek : exO F N k ρk (.whl p q) = some (fl, ρ')) (wn : Went prog w C B mg kF Wb X W env sc A s ρk s') (hXW : ∀ a, X a → W a) {Q : Bool → Shared → Prop}
    (hF : ∀ s₁, fl = .next → Went prog w C B mg kF Wb X W env sc A s ρ' s₁ → Q false s₁)
    (hT : ∀ k1 s₁ Xk Wk, k1 + 1 = k → turnO (exS F N k1 ρk q) (fun ρ' => exO F N k1 ρ' (.whl p q)) = some (fl, ρ') → Sx prog w C B mg kF Wb Xk Wk env sc ρk A s₁ →
      (∀ ρ3 s₂, Went prog w C B mg kF Wb Xk Wk env sc A s₁ ρ3 s₂ → Went prog w C B mg kF Wb X W env sc A s ρ3 s₂) → Q true s₁) : wpAny (model prog w) A (isTrue t env (eval t env)) Q E s' := by
  refine cps fun P k0 => ?_
  obtain ⟨Xk, Wk, g, kp, Sk⟩ := wn
  cases k with
  | zero => exact dead hek
  | succ k =>
    refine ob hek fun v ht hek => k0 (wpAny_mono ((snd_all (prog := prog) (w := w) G N).2.1 m sc t p ρk v env Wk A s' _ hc ht Sk.hy) (fun v' s₁ r => ?_) fun _ _ e => e)
    rw [r.1]
    have S₁ := Sk.kp r.2
    have kp₁ : KpB X s s₁ := kp.trans r.2.toB
    cases v with
    | false => have e := Prod.mk.inj (sj hek); exact hF s₁ e.1.symm (e.2 ▸ ⟨Xk, Wk, g, kp₁, S₁⟩)
    | true => exact hT k s₁ Xk Wk rfl hek S₁ fun ρ3 s₂ h => Went.on (ρ2 := ρk) g kp₁ hXW h
theorem arm_whl (G : Gl prog w C F B mg kF) {t : Expr} {b : List Stmt} {pos : Pos} {p : PE} {q : List PS} (hc : cE C m sc t = some p) (hb : cSs C m sc b = some q) (IS : ∀ k, k < n → SndS prog w C F N B mg kF k) {fl : Fl} {ρ' : Rho}
    (he : exO F N n ρ (.whl p q) = some (fl, ρ')) (S : Sx prog w C B mg kF Wb X W env sc ρ A s) : wpAny (model prog w) A (exec (.While t b [] pos) env) (SP prog w C B mg kF Wb X W env sc A s fl ρ') E s :=
  wpAny_While (codeAny_whileLoop (fun k s' => k ≤ n ∧ ∃ ρk, exO F N k ρk (.whl p q) = some (fl, ρ') ∧ Went prog w C B mg kF Wb X W env sc A s ρk s')
    (fun k s' inv => inv.2.elim fun ρk h => whl_turn G hc h.1 h.2 S.xw (fun s₁ e p => wpAny_execs_nil (e ▸ ⟨rfl, p⟩)) fun k1 s₁ Xk Wk ek hek S₁ on =>
      have hk : k1 < n := Nat.lt_of_lt_of_le (ek ▸ Nat.lt_succ_self k1) inv.1
      turn_run (go := fun ρ' => exO F N k1 ρ' (.whl p q)) hb (IS k1 hk) S₁ hek (fun ρ2 s₂ hg p => ⟨k1, ek ▸ Nat.lt_succ_self _, Nat.le_of_lt hk, ρ2, hg, on _ _ p⟩) (fun s₂ e p => e ▸ ⟨rfl, on _ _ p⟩) fun v s₂ r p => ⟨r, on _ _ p⟩)
    n ⟨Nat.le_refl _, ρ, he, X, W, Grown.refl _ _ _, KpB.refl _ _, S⟩)

/-- the places X and those of the list -/
noncomputable def FW (X : Addr → Prop) (wr : List Addr) (a : Addr) : Prop := X a ∨ a ∈ wr
/-- what is known of a loop over a range: s₀ ahead of it, s₂ with the iterator laid -/
structure Fo (prog : Program) (w : World) (C : Cx) (B : Heap) (mg : Str → Option Value) (kF : Nat) (Wb X W : Addr → Prop) (env : Env) (sc : Scope) (ρ : Rho) (A : Around) (s s₂ : Shared) (I : Addr) (fp wr : List Addr) (k : Nat) (P : Nat → Value → Prop) (St : Nat → Heap → Prop) : Prop where
  S : Sx prog w C B mg kF Wb X W env sc ρ A s
  kk : Kp s s₂
  wk : Walks prog w A I fp wr k P St
  ob : ∀ i h, St i h → ∀ b ∈ fp, ∃ o, h.get? b = some o ∧ o.cls ≠ .type "frame"
  new : ∀ b ∈ fp, s.heap.get? b = none
  old : ∀ b ∈ fp, ∃ o, s₂.heap.get? b = some o
section
variable {s₂ : Shared} {I : Addr} {fp wr : List Addr} {k : Nat} {P : Nat → Value → Prop} {St : Nat → Heap → Prop} {ρj : Rho} {Xj Wj : Addr → Prop} {s' : Shared} {j : Nat}
theorem Fo.notX (H : Fo prog w C B mg kF Wb X W env sc ρ A s s₂ I fp wr k P St) (g : Grown X (FW W wr) Xj Wj s₂.heap) : ∀ b ∈ fp, ¬ Xj b := fun b hb q =>
  (g.2.1 b q).elim (fun q => H.S.notX (H.new b hb) q) fun q => let ⟨_, e⟩ := H.old b hb; absurd (q.symm.trans e) nofun
theorem Fo.newW (H : Fo prog w C B mg kF Wb X W env sc ρ A s s₂ I fp wr k P St) : ∀ b ∈ wr, s.heap.get? b = none := fun b hb => H.new b (H.wk.sub b hb)
theorem Fo.notW (H : Fo prog w C B mg kF Wb X W env sc ρ A s s₂ I fp wr k P St) {b : Addr} (hb : b ∈ wr) (q : W b) : False := by
  obtain ⟨o, e⟩ := H.S.hy.wk b q
  rw [H.newW b hb] at e; cases e
/-- the iterator alone changes -/
theorem Fo.step (H : Fo prog w C B mg kF Wb X W env sc ρ A s s₂ I fp wr k P St) (g : Grown X (FW W wr) Xj Wj s₂.heap) (Sj : Sx prog w C B mg kF Wb Xj Wj env sc ρj A s') {W0 : Addr → Prop} {h' : Heap} {tk : Nat} (hk : ∀ b o, b ∉ wr → s'.heap.get? b = some o → h'.get? b = some o)
    (h0 : ∀ a, W0 a → Wj a) (hx0 : ∀ a, Xj a → W0 a) (hb0 : ∀ a, Wb a → W0 a) (ho : ∀ b ∈ wr, W0 b → ∃ o, h'.get? b = some o) : Sx prog w C B mg kF Wb Xj W0 env sc ρj A { s' with heap := h', toks := tk } :=
  Sj.off (V := fun a => a ∈ wr) (fun b o hb e => .of (hk b o hb e)) (fun b hb => g.2.2.1 b (.inr hb)) (fun a q => H.notX g a (H.wk.sub a q)) (fun a q => H.S.notB (H.newW a q)) (fun e a q hb => (H.S.hy.fr e).notNone hb (H.newW a q)) h0 hx0 hb0 fun a q => by
    by_cases qa : a ∈ wr
    · exact ho a qa q
    · obtain ⟨o, e⟩ := Sj.hy.wk a (h0 a q)
      exact ⟨o, hk a o qa e⟩
theorem KpB.fw {X : Addr → Prop} {h' : Heap} {tk : Nat} (kp : KpB (FW X wr) s₂ s') (hk : ∀ b o, b ∉ wr → s'.heap.get? b = some o → h'.get? b = some o) : KpB (FW X wr) s₂ { s' with heap := h', toks := tk } :=
  kp.trans ⟨⟨h', tk, rfl⟩, fun b o hb e => .of (hk b o (fun q => hb (.inr q)) e)⟩
/-- the call's own places change -/
theorem KpB.fx {s₄ : Shared} (g : Grown X (FW W wr) Xj Wj s₂.heap) (kp : KpB (FW X wr) s₂ s') (k₄ : KpB Xj s' s₄) : KpB (FW X wr) s₂ s₄ := by
  obtain ⟨h1, t1, e1⟩ := kp.same
  obtain ⟨h2, t2, e2⟩ := k₄.same
  exact ⟨⟨h2, t2, by rw [e2, e1]⟩, fun b o hb e => Kept.trans (kp.keep b o hb e) fun _ e' => k₄.keep b _ (fun q => (g.2.1 b q).elim (fun q => hb (.inl q)) fun q => absurd (q.symm.trans e) nofun) e'⟩
theorem Fo.grown (H : Fo prog w C B mg kF Wb X W env sc ρ A s s₂ I fp wr k P St) {X' W' : Addr → Prop} {s₄ : Shared} (g : Grown X (FW W wr) Xj Wj s₂.heap) (kp : KpB (FW X wr) s₂ s₄) (S₄ : Sx prog w C B mg kF Wb Xj Wj env sc ρj A s₄) (g' : Grown Xj Wj X' W' s₄.heap) : Grown X (FW W wr) X' W' s₂.heap := by
  have old : ∀ c, s₄.heap.get? c = none → X c ∨ s₂.heap.get? c = none := fun c hc => by
    by_cases q1 : FW X wr c
    · exact q1.imp id fun q2 => by obtain ⟨o, e⟩ := S₄.hy.wk c (g.2.2.1 c (.inr q2)); rw [e] at hc; cases hc
    · cases e : s₂.heap.get? c with
      | none => exact .inr rfl
      | some o => obtain ⟨o', e'⟩ := (kp.keep c o q1 e).there; rw [hc] at e'; cases e'
  exact ⟨fun c q => g'.1 c (g.1 c q), fun c q => (g'.2.1 c q).elim (g.2.1 c) (old c), fun c q => g'.2.2.1 c (g.2.2.1 c q), fun c q => (g'.2.2.2 c q).elim (g.2.2.2 c) fun q => (old c q).imp (fun q => .inl (H.S.xw c q)) id⟩
/-- back to the state ahead of the loop -/
theorem Fo.went (H : Fo prog w C B mg kF Wb X W env sc ρ A s s₂ I fp wr k P St) {W0 : Addr → Prop} (hW1 : ∀ a, W0 a → Wj a) (hW2 : ∀ a, Wj a → a ∉ wr → W0 a) (g : Grown X (FW W wr) Xj Wj s₂.heap) (kp : KpB (FW X wr) s₂ s') (Sj : Sx prog w C B mg kF Wb Xj W0 env sc ρj A s') :
    Went prog w C B mg kF Wb X W env sc A s ρj s' := by
  refine ⟨Xj, W0, ⟨g.1, fun a q => (g.2.1 a q).imp id H.kk.keep.gone, fun a q => hW2 a (g.2.2.1 a (.inl q)) fun hw => H.notW hw q, fun a q => (g.2.2.2 a (hW1 a q)).elim (fun q => q.imp id (H.newW a)) fun q => .inr (H.kk.keep.gone q)⟩, ?_, Sj⟩
  obtain ⟨h1, t1, e1⟩ := H.kk.same
  obtain ⟨h2, t2, e2⟩ := kp.same
  exact ⟨⟨h2, t2, by rw [e2, e1]⟩, fun b o hb e => Kept.trans (H.kk.keep _ _ e) fun _ e' => kp.keep b _ (fun q => q.elim hb fun q => absurd ((H.newW b q).symm.trans e) nofun) e'⟩

/-- at a turn: what is left is the items ds -/
noncomputable def FI (prog : Program) (w : World) (C : Cx) (B : Heap) (mg : Str → Option Value) (kF : Nat) (Wb X W : Addr → Prop) (env : Env) (sc : Scope) (A : Around) (s₂ : Shared) (wr : List Addr) (St : Nat → Heap → Prop) (f : Rho → Option (Fl × Rho)) (i : Nat) (ls : List D) (o : Fl × Rho) (k r : Nat) (s' : Shared) : Prop :=
  ∃ j ρj Xj Wj, r = k - j ∧ j ≤ k ∧ forL f i (ls.drop j) ρj = some o ∧ Grown X (FW W wr) Xj Wj s₂.heap ∧ KpB (FW X wr) s₂ s' ∧ Sx prog w C B mg kF Wb Xj Wj env sc ρj A s' ∧ St j s'.heap

theorem for_item (H : Fo prog w C B mg kF Wb X W env sc ρ A s s₂ I fp wr k P St) (hj : j < k) (st : St j s'.heap) (g : Grown X (FW W wr) Xj Wj s₂.heap) (kp : KpB (FW X wr) s₂ s') (Sj : Sx prog w C B mg kF Wb Xj Wj env sc ρj A s') {Q : Option Value → Shared → Prop}
    (hQ : ∀ v s₃, P j v → Sx prog w C B mg kF Wb Xj Wj env sc ρj A s₃ → (∀ s₄, KpB Xj s₃ s₄ → KpB (FW X wr) s₂ s₄ ∧ St (j + 1) s₄.heap) → Q (some v) s₃) : wpAny (model prog w) A (pyNext (.ref I)) Q E s' :=
  H.wk.item j s' _ _ hj st fun v h' tk hv st' hkeep => hQ v _ hv (H.step (tk := tk) g Sj hkeep (fun _ q => q) Sj.xw Sj.bw fun b hb _ => let ⟨o, e, _⟩ := H.ob _ _ st' b (H.wk.sub b hb); ⟨o, e⟩)
    fun s₄ k₄ => ⟨KpB.fx g (kp.fw hkeep) k₄, frameK H.wk H.ob st' fun b hb o e => k₄.keep b o (H.notX g b hb) e⟩
theorem for_done (H : Fo prog w C B mg kF Wb X W env sc ρ A s s₂ I fp wr k P St) (st : St k s'.heap) (g : Grown X (FW W wr) Xj Wj s₂.heap) (kp : KpB (FW X wr) s₂ s') (Sj : Sx prog w C B mg kF Wb Xj Wj env sc ρj A s') {Q : Option Value → Shared → Prop}
    (hQ : ∀ s₃, Went prog w C B mg kF Wb X W env sc A s ρj s₃ → Q none s₃) : wpAny (model prog w) A (pyNext (.ref I)) Q E s' :=
  H.wk.done s' _ _ st fun h' tk hkeep => hQ _ (H.went (W0 := fun a => Wj a ∧ a ∉ wr) (fun _ q => q.1) (fun _ q h => ⟨q, h⟩) g (kp.fw hkeep)
    (H.step g Sj hkeep (fun a q => q.1) (fun a q => ⟨Sj.xw a q, fun h => H.notX g a (H.wk.sub a h) q⟩) (fun a q => ⟨Sj.bw a q, fun h => H.notW h (H.S.bw a q)⟩) fun b hb q => absurd hb q.2))
theorem for_body {b : List Stmt} {i : Nat} {q : List PS} (hb : cSs C m sc b = some q) (IS : SndS prog w C F N B mg kF n) {fl : Fl} {ρ' : Rho} {ls : List D} {o : Fl × Rho} (ho : o = (fl, ρ')) (hj : j < k)
    (H : Fo prog w C B mg kF Wb X W env sc ρ A s s₂ I fp wr k P St) (g : Grown X (FW W wr) Xj Wj s₂.heap) (kp : KpB (FW X wr) s₂ s') (S₄ : Sx prog w C B mg kF Wb Xj Wj env sc ρj A s') (go : ∀ s₄, KpB Xj s' s₄ → KpB (FW X wr) s₂ s₄ ∧ St (j + 1) s₄.heap)
    (hej : turnO (exS F N n ρj q) (forL (fun ρ => exS F N n ρ q) i (ls.drop (j + 1))) = some o) {Q : Flow → Shared → Prop}
    (next : ∀ s₅, FI prog w C B mg kF Wb X W env sc A s₂ wr St (fun ρ => exS F N n ρ q) i ls o k (k - (j + 1)) s₅ → Q .next s₅) (brk : ∀ s₅, fl = .next → Went prog w C B mg kF Wb X W env sc A s ρ' s₅ → Q .brk s₅)
    (ret : ∀ v s₅, FlR prog w Wb s₅.heap fl (.ret v) → Went prog w C B mg kF Wb X W env sc A s ρ' s₅ → Q (.ret v) s₅) : wpAny (model prog w) A (execs b env) Q E s' := by
  have fin : ∀ {s₅}, Went prog w C B mg kF Wb Xj Wj env sc A s' ρ' s₅ → Went prog w C B mg kF Wb X W env sc A s ρ' s₅ := fun ⟨X', W', g', k5, S'⟩ => H.went (fun _ q => q) (fun _ q _ => q) (H.grown g kp S₄ g') (go _ k5).1 S'
  subst ho
  exact turn_run hb IS S₄ hej (fun ρ2 s₅ hg ⟨X', W', g', k5, S'⟩ => next s₅ ⟨j + 1, ρ2, X', W', rfl, hj, hg, H.grown g kp S₄ g', (go _ k5).1, S', (go _ k5).2⟩) (fun s₅ e p => brk s₅ e (fin p)) fun v s₅ r p => ret v s₅ r (fin p)

theorem for_turn {i : Nat} {q : List PS} {o : Fl × Rho} {a b' c : Int}
    (H : Fo prog w C B mg kF Wb X W env sc ρ A s s₂ I fp wr (rangeL a b' c).length P St) (hP : ∀ i v, P i v → ∃ d, (rangeL a b' c)[i]? = some d ∧ Rep prog w W s₂.heap d v) {r : Nat}
    (inv : FI prog w C B mg kF Wb X W env sc A s₂ wr St (fun ρ => exS F N n ρ q) i (rangeL a b' c) o (rangeL a b' c).length r s') {Q : Option Value → Shared → Prop}
    (hN : ∀ ρj s₃, o = (.next, ρj) → Went prog w C B mg kF Wb X W env sc A s ρj s₃ → Q none s₃)
    (hS : ∀ j ρj Xj Wj d v s₃, r = (rangeL a b' c).length - j → j < (rangeL a b' c).length → Rep prog w Wj s₃.heap d v → Grown X (FW W wr) Xj Wj s₂.heap → Sx prog w C B mg kF Wb Xj Wj env sc ρj A s₃ → (∀ s₄, KpB Xj s₃ s₄ → KpB (FW X wr) s₂ s₄ ∧ St (j + 1) s₄.heap) →
      turnO (exS F N n (upd ρj i d) q) (forL (fun ρ => exS F N n ρ q) i ((rangeL a b' c).drop (j + 1))) = some o → Q (some v) s₃) :
    wpAny (model prog w) A (pyNext (.ref I)) Q E s' := by
  obtain ⟨j, ρj, Xj, Wj, er, hj, hej, g, kp, Sj, st⟩ := inv
  by_cases hlt : j < (rangeL a b' c).length
  · refine for_item H hlt st g kp Sj fun v s₃ hv S₃ go => ?_
    obtain ⟨d, hd, rd⟩ := hP j v hv
    rw [List.drop_eq_getElem_cons hlt, List.getElem?_eq_some_iff.mp hd |>.2] at hej
    refine hS j ρj Xj Wj d v s₃ er hlt (asInt_r (d := d) (by rw [rangeL_get hd]; rfl) rd.1 fun t ev => ?_) g S₃ go hej
    rw [rangeL_get hd, ev]
    exact rep_int
  · have hjk : j = (rangeL a b' c).length := Nat.le_antisymm hj (Nat.not_lt.mp hlt)
    rw [hjk, List.drop_length] at hej
    rw [hjk] at st
    exact for_done H st g kp Sj fun s₃ p => hN ρj s₃ (sj hej).symm p
end

theorem arm_for (G : Gl prog w C F B mg kF) {x : Str} {px pf pc pos : Pos} {args : List Expr} {b : List Stmt} {i : Nat} {ps : List PE} {q : List PS} (hgf : isGlobalName sc ("range" : Str) = true) (hx : cTgt C sc x = some i)
    (hc : mapO (cE C m sc) args = some ps) (hb : cSs C m sc b = some q) (IS : SndS prog w C F N B mg kF n) {fl : Fl} {ρ' : Rho} {ds ls : List D}
    (h1 : mapO (evE F N ρ) ps = some ds) (h2 : rangeD ds = some ls) (he : forL (fun ρ => exS F N n ρ q) i ls ρ = some (fl, ρ')) (S : Sx prog w C B mg kF Wb X W env sc ρ A s) :
    wpAny (model prog w) A (exec (.For (.Name x px) (.Call (.Name ("range" : Str) pf) args [] pc) b [] pos) env) (SP prog w C B mg kF Wb X W env sc A s fl ρ') E s := by
  refine wpAny_For (wpAny_mono (arm_range G (snd_all (prog := prog) (w := w) G N).1 hgf hc h1 h2 S.hy) (fun xv s₁ r => ?_) fun _ _ e => e)
  obtain ⟨ra, hfr, k₁, a, b', c, t, u, v, rfl, hr, hok, rfl⟩ := r
  obtain ⟨hlen, hit⟩ := iter_range (prog := prog) (w := w) (W := W) (A := A) S.hy.ok.1 hr hok
  refine hit E _ fun I fp wr k P St s₂ k₂ Wk hk hst hnew hob hfp hP => ?_
  subst hk
  have k12 := k₁.trans k₂
  have H : Fo prog w C B mg kF Wb X W env sc ρ A s s₂ I fp wr (rangeL a b' c).length P St := ⟨S, k12, Wk, hob, fun b hb => by
    by_cases q : b ∈ wr
    · exact k₁.keep.gone (hnew b q)
    · cases (hfp b hb q).1; exact hfr, fun b hb => by
    by_cases q : b ∈ wr
    · obtain ⟨o, e, _⟩ := hob _ _ hst b hb; exact ⟨o, e⟩
    · obtain ⟨_, o, e⟩ := hfp b hb q
      exact (k₂.keep _ _ e).there⟩
  have S₂ : Sx prog w C B mg kF Wb X (FW W wr) env sc ρ A s₂ := by
    refine S.newer k12 (fun a q => .inl q) (fun a q => q.imp id (H.newW a)) fun a q => ?_
    rcases q with q | q
    · exact (S.kp k12).hy.wk a q
    · obtain ⟨o, e, _⟩ := hob _ _ hst a (Wk.sub a q); exact ⟨o, e⟩
  exact codeAny_forLoop (FI prog w C B mg kF Wb X W env sc A s₂ wr St (fun ρ => exS F N n ρ q) i (rangeL a b' c) (fl, ρ') (rangeL a b' c).length)
    (fun r s' inv => for_turn H (fun i v h => let ⟨d, e, r⟩ := hP i v h; ⟨d, e, r.keep k₂.keep⟩) inv
      (fun ρj s₃ e p => wpAny_execs_nil ⟨congrArg (fun r => FlR prog w Wb s₃.heap r.1 .next) e ▸ rfl, (Prod.mk.inj e).2 ▸ p⟩)
      fun j ρj Xj Wj d v s₃ er hlt rv g S₃ go hej => assign_Name (S₃.put hx (rv) fun s₄ k₄ S₄ => for_body hb IS rfl hlt H g (go _ k₄).1 S₄ (fun s₅ k₅ => go _ (k₄.trans k₅)) hej
        (fun s₅ p => ⟨_, er ▸ Nat.sub_lt_sub_left hlt (Nat.lt_succ_self j), p⟩) (fun s₅ e p => e ▸ ⟨rfl, p⟩) fun v s₅ r p => ⟨r, p⟩))
    _ ⟨0, ρ, X, _, rfl, Nat.zero_le _, he, Grown.refl _ _ _, KpB.refl _ _, S₂, hst⟩
end
end Ev
namespace Ev
open PySem PySem.Calls PyProof.Rows

theorem seq_list_iadd : seqSlot? (.type "list") (dunderI "add") = pure (some (.builtin "list.__iadd__")) := PySem.seqSlot_of PySem.F.slot_list_iadd.lookup (by decide +kernel)

section
variable [Base] {prog : Program} {w : World} {C : Cx} {F : Nat → List D → Option D} {B : Heap} {mg : Str → Option Value} {kF : Nat}
  {sc : Scope} {ρ : Rho} {env : Env} {Wb X W : Addr → Prop} {A : Around} {s : Shared} {E : Value → Shared → Prop} {n m N : Nat}

theorem list_iaddW (l : Addr) (items : Array Value) (n : Nat) (b : Addr) (items2 : Array Value) (n2 : Nat) (dd dd2 : Option Addr) (sl sl2 : Array (Option Value)) (hs0 : ¬(!items.isEmpty && Builtin.List.listTooLong (items.size + items2.size)) = true) (hs1 : items.size ≤ sizeLine) (hs2 : items.size + items2.size ≤ sizeLine + 1) :
    Meets (Builtin.«list.__iadd__» ⟨[.ref l, .ref b], []⟩) (fun _ R s => s.heap.get? l = some { cls := .type "list", dict := dd, data := .seq items n, slots := sl } ∧ s.heap.get? b = some { cls := .type "list", dict := dd2, data := .seq items2 n2, slots := sl2 } ∧
      R (.ok (.ret (Value.ref l))) { s with heap := s.heap.update l (Obj.mapSeq fun x => x ++ items2), toks := s.toks }) :=
  .of_wp fun prog w A R s h => by
    obtain ⟨hp, g, d, tk, os⟩ := s; obtain ⟨hl, hb, h⟩ := h; have f1 := AutoSeq1.idx_int; have f2 := AutoSeq1.sub_tuple_tuple; have f3 := AutoSeq1.sub_list_list; have f4 := AutoSeq1.sub_tuple_list; have f5 := AutoSeq1.sub_list_tuple
    have hz' : (items ++ items2).size ≤ sizeLine + 1 := by rw [Array.size_append]; exact hs2
    wp_walk using (wpAny_updateSeq hl rfl (hz := hs1) (_hz' := hz')), wpAny_loadPart' hl, wpAny_loadPart' hb; exact ⟨_, rfl, h⟩

theorem iadd_list {l b : Addr} {vs ws : List Value} {Q : Value → Shared → Prop} (hl : s.heap.IsList l vs.toArray) (hb : s.heap.IsList b ws.toArray)
    (h : ∀ h', h'.IsList l (vs ++ ws).toArray → Heap.SameBut l s.heap h' → Q (.ref l) { s with heap := h' }) (hsz : vs.length + ws.length ≤ 1000) :
    wpAny (model prog w) A (inplaceOp .Add (.ref l) (.ref b)) Q E s := by
  obtain ⟨⟨cls, dd, data, sl⟩, ho, hc, n, hd⟩ := id hl
  obtain ⟨⟨cls2, dd2, data2, sl2⟩, ho2, hc2, n2, hd2⟩ := id hb
  simp only at hc hd hc2 hd2
  subst hc hd hc2 hd2
  have hfi : fillsInplaceSlot (.type "list") "add" (Operator.Add == .Add) = pure false := by
    unfold fillsInplaceSlot
    show (typeLookup (.type "list") (dunderI "add") >>= fun fi => pure (fi.isSome && !isSeqSlot fi)) = pure false
    rw [PySem.F.slot_list_iadd.lookup]
    show (pure _ : Sem Bool) = pure false
    congr 1
  have ta : s.TypeIs (.ref l) "list" := ⟨_, ho, rfl⟩
  have tb : s.TypeIs (.ref b) "list" := ⟨_, ho2, rfl⟩
  unfold inplaceOp
  refine wpAny_holding ?_
  refine wpAny_bind (wpAny_typeOf ta (wpAny_bind (wpAny_of_eq hfi ?_)))
  show wpAny _ A (if false = true then _ else _) Q E s
  rw [if_neg Bool.false_ne_true]
  refine wpAny_bind (PySem.wpAny_binaryOp1_none (nm := "add") ta tb noFill_list_add ?_)
  refine wpAny_bind (wpAny_of_eq seq_list_iadd ?_)
  refine wpAny_bind (wpAny_rule ?_)
  refine call_meets PySem.F.slot_list_iadd ta PySem.F.entry_list_iadd (PySem.F.args_list_iadd_2 _ _) (list_iaddW l vs.toArray n b ws.toArray n2 dd dd2 sl sl2 ?_ ?_ ?_) ⟨ho, ho2, ?_⟩
  · simp [Builtin.List.listTooLong, sizeLine]; omega
  · rw [List.size_toArray, sizeLine]; omega
  · rw [List.size_toArray, List.size_toArray, sizeLine]; omega
  · have hm : Heap.get? (s.heap.update l (Obj.mapSeq fun x => x ++ ws.toArray)) l = some (Obj.mapSeq (fun x => x ++ ws.toArray) { cls := .type "list", dict := dd, data := .seq vs.toArray n, slots := sl }) := Heap.get?_update_self _ ho rfl
    refine h _ ⟨_, hm, rfl, ?_⟩ (Heap.SameBut.update ..)
    unfold Obj.mapSeq
    simp

theorem cOwn_some {x : Str} {i : Nat} (h : cOwn C sc x = some i) : idx C.names x = some i ∧ C.gl.contains i = false ∧ C.O.contains i = true ∧ sc.names.lookup x = some .local ∧ (x == ("__debug__" : Str)) = false :=
  gdo h fun hk h => ob h fun j hj h => gdo h fun hn h => and_o hn fun h1 h2 => and_o hk fun hk _ => and_o hk fun h3 h4 => by
    obtain rfl := sj h
    exact ⟨hj, not_o h2, h1, beq_iff_eq.mp h3, not_o h4⟩

/-- what is known of an owned name -/
structure OwnAt (prog : Program) (w : World) (pl : Bool) (Wb X W : Addr → Prop) (env : Env) (x : Str) (d : D) (a : Addr) (s : Shared) : Prop extends Ow prog w pl Wb X env x d s.heap a where
  r : RepT prog w W s.heap d (.ref a)

theorem Sx.ownAt {x : Str} {i : Nat} {d : D} (S : Sx prog w C B mg kF Wb X W env sc ρ A s) (hx : cOwn C sc x = some i) (hl : ρ.lookup i = some d) : ∃ a, OwnAt prog w (C.pl.contains i) Wb X W env x d a s := by
  obtain ⟨h1, _, h3, _⟩ := cOwn_some hx
  obtain ⟨a, o⟩ := S.ob x i d h1 h3 hl
  obtain ⟨m', g1, g2⟩ := S.hy.ke.ns
  obtain ⟨m, e1, e2⟩ := o.m
  obtain ⟨v, q1, q2⟩ := g2 x i d h1 o.k hl
  exact ⟨a, o, sj (q1.symm.trans ((ns_eq g1 e1 x).trans e2)) ▸ q2.1⟩
theorem OwnAt.kp {x : Str} {d : D} {a : Addr} {s' : Shared} {pl : Bool} (o : OwnAt prog w pl Wb X W env x d a s) (k : Kp s s') : OwnAt prog w pl Wb X W env x d a s' :=
  ⟨o.toOw.keep (fun o e => k.keep _ o e) fun o e => k.keep _ o e, o.r.keep k.keep⟩
theorem OwnAt.load {x : Str} {d : D} {a : Addr} {Q : Value → Shared → Prop} {pl : Bool} (o : OwnAt prog w pl Wb X W env x d a s) (S : Sx prog w C B mg kF Wb X W env sc ρ A s) (h : Q (.ref a) s) : wpAny (model prog w) A (loadName env x) Q E s :=
  o.m.elim fun _ e => wpAny_loadName_local S.hy.ke.kf o.k e.1 e.2 h
theorem OwnAt.name {x : Str} {d : D} {a : Addr} {Q : Value → Shared → Prop} {pos : Pos} {pl : Bool} (o : OwnAt prog w pl Wb X W env x d a s) (S : Sx prog w C B mg kF Wb X W env sc ρ A s) (hd : (x == ("__debug__" : Str)) = false) (h : Q (.ref a) s) : wpAny (model prog w) A (eval (.Name x pos) env) Q E s :=
  wpAny_Name (o.load S h) hd

theorem RepT.notFrame {h : Heap} {d : D} {a : Addr} (r : RepT prog w W h d (.ref a)) {o : Obj} (e : h.get? a = some o) (hc : o.cls = .type "frame") : False := by
  have no : ∀ {o' : Obj} {T : String} {b : Addr}, Value.ref a = .ref b → h.get? b = some o' → o'.cls = .type T → T ≠ "frame" → False := fun eb e' hc' n => by
    rw [← Value.ref.inj eb, e] at e'
    rw [← sj e', hc] at hc'
    exact n (Value.type.inj hc').symm
  cases d with
  | none => exact nomatch (r : Value.ref a = .none)
  | bool _ => exact nomatch (r : Value.ref a = .bool _)
  | int i => obtain ⟨t, e⟩ : ∃ t, Value.ref a = .int i t := r; cases e
  | str x => obtain ⟨⟨t, e⟩, _⟩ : (∃ t, Value.ref a = .str x t) ∧ PyData.strOk x = true ∧ x.length ≤ sizeLine := r; cases e
  | list ds =>
    obtain ⟨b, vs, eb, ⟨o', ho', h2, _⟩, _⟩ : ∃ (b : Addr) (vs : List Value), Value.ref a = .ref b ∧ h.IsList b vs.toArray ∧ vs.length ≤ sizeLine ∧ Reps prog w W h ds vs := r
    exact no eb ho' h2 (by decide)
  | tuple ds =>
    obtain ⟨b, vs, eb, ⟨o', ho', h2, _⟩, _⟩ : ∃ (b : Addr) (vs : List Value), Value.ref a = .ref b ∧ h.IsTuple b vs.toArray ∧ vs.length ≤ sizeLine ∧ Reps prog w W h ds vs := r
    exact no eb ho' h2 (by decide)
  | dict kvs => exact asDict_r r fun b f eb _ hm _ => by obtain ⟨o', es, ep, ho', h2, _⟩ := hm; exact no eb ho' h2.1 (by decide)
theorem own_one {x : Str} {i : Nat} (one : ∀ j, C.O.contains j = true → j = i) (h1 : idx C.names x = some i) {y : Str} {j : Nat} (q1 : idx C.names y = some j) (n : j ≠ i) : C.O.contains j = false :=
  (Bool.eq_false_or_eq_true _).elim (fun h => absurd (one j h) n) id
/-- what is owned changes -/
theorem Sx.mutate {x : Str} {i : Nat} {d d' : D} {a : Addr} {h' : Heap} {tk : Nat} (S : Sx prog w C B mg kF Wb X W env sc ρ A s) (one : ∀ j, C.O.contains j = true → j = i) (hx : cOwn C sc x = some i) (o : OwnAt prog w (C.pl.contains i) Wb X W env x d a s)
    (hs : Heap.SameBut a s.heap h') (he : ∃ ob, h'.get? a = some ob) (r : RepT prog w W h' d' (.ref a)) (dk : DK prog w (C.pl.contains i) h' a d') : Sx prog w C B mg kF Wb X W env sc (upd ρ i d') A { s with heap := h', toks := tk } := by
  refine Sx.ordered ?_
  obtain ⟨h1, h2, h3, _⟩ := cOwn_some hx
  have hWa := S.xw _ o.hX
  obtain ⟨m, hm, hmx⟩ := o.m
  have kb : KHB W s.heap h' := fun b ob hb e => sb_kept hs (fun q => hb (q ▸ hWa)) e
  have hm' : h'.Ns env.locals m := hm.sameBut hs (Ne.symm o.hL)
  have kn : ∀ {y c}, isCell (env.kindOf y) = true → env.cells.lookup y = some c → ∀ ob, s.heap.get? c = some ob → Kept h' c ob := fun q1 q2 ob e => sb_kept hs (o.hc _ _ q1 q2) e
  have nO := fun {y j} => own_one one h1 (y := y) (j := j)
  refine ⟨⟨⟨S.hy.ke.kf, S.hy.ke.gl, S.hy.ke.bl, ⟨m, hm', fun y j d'' q1 q2 q3 => lk_o q3 (fun e1 e2 => ?_) fun n q3 => ?_⟩, fun y j d'' q1 q2 q3 => lk_o q3 (fun e1 _ => ?_) fun n q3 => ?_, fun y q => ?_, fun y j d'' q1 q2 q3 => lk_o q3 (fun e1 _ => ?_) fun n q3 => ?_⟩,
      S.hy.mt, S.hy.ok, fun b hb => ?_, S.hy.wb, fun b ob e => hs.extBut b ob (S.nB hWa e) (S.hy.bk _ _ e), S.hy.eb, fun e => frOther (S.hy.fr e) hs fun ob es ep e1 e2 _ => o.r.notFrame e1 e2⟩,
    S.xl, fun y c q1 q2 => (S.xc y c q1 q2).keep (kn q1 q2), S.ap, S.xw, S.bw, fun y j d'' q1 q2 q3 => lk_o q3 (fun e1 e2 => ?_) fun n _ => absurd (one j q2) n⟩
  · rw [← e2, e1]
    exact ⟨_, (idx_inj h1 (q1.trans (congrArg some e1))) ▸ hmx, r, fun q => absurd (h3.symm.trans q) nofun⟩
  · obtain ⟨m0, g1, g2⟩ := S.hy.ke.ns
    obtain ⟨u, u1, u2⟩ := g2 y j d'' q1 q2 q3
    exact ⟨u, (ns_eq hm g1 y).trans u1, u2.1.mono kb (u2.2 (nO q1 n)), u2.2⟩
  · exact noCell ((idx_inj h1 (q1.trans (congrArg some e1))) ▸ o.k) q2
  · obtain ⟨c, u, u1, u2, u4⟩ := S.hy.ke.cl y j d'' q1 q2 q3
    exact ⟨c, u, u1, IsCell.kp u2 (kn q2 u1), u4.1.mono kb (u4.2 (nO q1 n)), u4.2⟩
  · obtain ⟨c, u1, ob, u2⟩ := S.hy.ke.cov y q
    exact ⟨c, u1, (kn q u1 ob u2).there⟩
  · rw [e1, h2] at q2; cases q2
  · obtain ⟨u, u1, u2⟩ := S.hy.ke.gv y j d'' q1 q2 q3
    exact ⟨u, u1, u2.mono kb⟩
  · by_cases q : b = a
    · rw [q]; exact he
    · obtain ⟨ob, e⟩ := S.hy.wk b hb
      exact ⟨ob, hs.extBut b ob q e⟩
  · rw [← e2, e1]
    exact ⟨a, (idx_inj h1 (q1.trans (congrArg some e1))) ▸ ⟨o.k, ⟨m, hm', hmx⟩, o.hX, o.hB, o.hL, o.hc, dk⟩⟩

/-- a fresh thing becomes owned -/
theorem Sx.storeOwn {x : Str} {i : Nat} {d : D} {a : Addr} {Q : Unit → Shared → Prop} (S : Sx prog w C B mg kF Wb X W env sc ρ A s) (one : ∀ j, C.O.contains j = true → j = i) (hx : cOwn C sc x = some i) (r : RepT prog w W s.heap d (.ref a)) (haW : W a) (hab : ¬ Wb a)
    (haL : a ≠ env.locals) (hac : ∀ y c, isCell (env.kindOf y) = true → env.cells.lookup y = some c → c ≠ a) (dk : DK prog w (C.pl.contains i) s.heap a d) (hQ : ∀ s', KpB X s s' → Sx prog w C B mg kF Wb (fun b => X b ∨ b = a) W env sc (upd ρ i d) A s' → Q () s') : wpAny (model prog w) A (storeName env x (.ref a)) Q E s := by
  obtain ⟨h1, h2, h3, h4, _⟩ := cOwn_some hx
  have hk : env.kindOf x = some .local := (S.hy.mt x).elim (fun q => q.trans h4) fun q => absurd (q.1.symm.trans h4) nofun
  obtain ⟨m, hm, hloc⟩ := S.hy.ke.ns
  refine storeLocal_cls hk hm (fun h' hn hs hcl => ?_) (by rw [S.hy.ke.kf]; rfl)
  have hWL := S.xw _ S.xl
  have kb : KHB W s.heap h' := fun b o hb e => sb_kept hs (fun q => hb (q ▸ hWL)) e
  have nO := fun {y j} => own_one one h1 (y := y) (j := j)
  refine hQ _ ⟨⟨_, _, rfl⟩, fun b o hb e => sb_kept hs (fun q => hb (q ▸ S.xl)) e⟩ (Sx.ordered ⟨⟨⟨S.hy.ke.kf, S.hy.ke.gl, S.hy.ke.bl, ⟨_, hn, fun y j d' q1 q2 q3 => lk_o q3 (fun e1 e2 => ?_) fun n q3 => ?_⟩, fun y j d' q1 q2 q3 => lk_o q3 (fun e1 _ => ?_) fun n q3 => ?_, fun y q => ?_, fun y j d' q1 q2 q3 => lk_o q3 (fun e1 _ => ?_) fun n q3 => ?_⟩,
      S.hy.mt, S.hy.ok, fun b hb => ?_, S.hy.wb, fun b ob e => hs.extBut b ob (S.nB hWL e) (S.hy.bk _ _ e), S.hy.eb, fun e => frStore (S.hy.fr e) hn hs hcl⟩,
    .inl S.xl, fun y c q1 q2 => ?_, S.ap, fun b hb => hb.elim (S.xw b) fun q => q ▸ haW, S.bw, fun y j d' q1 q2 q3 => lk_o q3 (fun e1 e2 => ?_) fun n _ => absurd (one j q2) n⟩)
  · rw [← e2, e1]
    exact ⟨_, if_pos (idx_inj (q1.trans (congrArg some e1)) h1), r.monoTop kb fun b o e => sb_kept hs (Value.ref.inj e ▸ haL), fun q => absurd (h3.symm.trans q) nofun⟩
  · obtain ⟨u, u1, u2⟩ := hloc y j d' q1 q2 q3
    exact ⟨u, (if_neg fun (q : y = x) => n (sj (q1.symm.trans (q ▸ h1)))).trans u1, u2.1.mono kb (u2.2 (nO q1 n)), u2.2⟩
  · exact noCell ((idx_inj h1 (q1.trans (congrArg some e1))) ▸ hk) q2
  · obtain ⟨c, u, u1, u2, u4⟩ := S.hy.ke.cl y j d' q1 q2 q3
    exact ⟨c, u, u1, u2.sameBut hs (S.xc y c q2 u1).hL, u4.1.mono kb (u4.2 (nO q1 n)), u4.2⟩
  · obtain ⟨c, u1, ob, u2⟩ := S.hy.ke.cov y q
    exact ⟨c, u1, ob, hs.extBut c ob (S.xc y c q u1).hL u2⟩
  · rw [e1, h2] at q2; cases q2
  · obtain ⟨u, u1, u2⟩ := S.hy.ke.gv y j d' q1 q2 q3
    exact ⟨u, u1, u2.mono kb⟩
  · by_cases q : b = env.locals
    · obtain ⟨o, _, _, e, _⟩ := hn; exact ⟨o, q ▸ e⟩
    · obtain ⟨ob, e⟩ := S.hy.wk b hb
      exact ⟨ob, hs.extBut b ob q e⟩
  · have ce := (S.xc y c q1 q2)
    obtain ⟨u1, u2, u3⟩ := ce.keep fun o e => sb_kept hs ce.hL e
    exact ⟨.inl u1, u2, u3⟩
  · rw [← e2, e1]
    exact ⟨a, (idx_inj h1 (q1.trans (congrArg some e1))) ▸ ⟨hk, ⟨_, hn, if_pos rfl⟩, .inr rfl, hab, haL, hac, dk.at fun o e => sb_kept hs haL e⟩⟩

theorem KpB.own {s s₁ : Shared} {a : Addr} {h' : Heap} {tk : Nat} (k : KpB X s s₁) (ha : X a) (hs : Heap.SameBut a s₁.heap h') : KpB X s { s₁ with heap := h', toks := tk } := by
  obtain ⟨h1, t1, e1⟩ := k.same
  exact ⟨⟨h', tk, by rw [e1]⟩, fun b o hb e => Kept.trans (k.keep b o hb e) fun _ e' => sb_kept hs (fun q => hb (q ▸ ha)) e'⟩
theorem DK.list {h : Heap} {a : Addr} {ds : List D} {b : Bool} (hb : b = false) : DK prog w b h a (.list ds) := ⟨fun kvs e => (by cases e), fun e => (by rw [hb] at e; cases e)⟩
theorem Reps.set : ∀ {ds : List D} {vs : List Value} {h : Heap} {k : Nat} {d : D} {v : Value}, Reps prog w W h ds vs → Rep prog w W h d v → Reps prog w W h (ds.set k d) (vs.set k v)
  | [], vs, h, k, d, v, r, rv => by
    rw [show vs = [] from r]; exact .nil
  | d0 :: ds, vs, h, 0, d, v, r, rv => by
    obtain ⟨u, r', e, h1, h2, h3⟩ : ∃ u r', vs = u :: r' ∧ RepT prog w W h d0 u ∧ offW W u ∧ Reps prog w W h ds r' := r
    rw [e]
    exact .cons rv h3
  | d0 :: ds, vs, h, k + 1, d, v, r, rv => by
    obtain ⟨u, r', e, h1, h2, h3⟩ : ∃ u r', vs = u :: r' ∧ RepT prog w W h d0 u ∧ offW W u ∧ Reps prog w W h ds r' := r
    rw [e]
    exact .cons ⟨h1, h2⟩ (h3.set rv)

/-- the owned list -/
theorem OwnAt.list {P : Prop} {pl : Bool} {x : Str} {ds : List D} {a : Addr} (o : OwnAt prog w pl Wb X W env x (.list ds) a s) (k : ∀ vs, s.heap.IsList a vs.toArray → vs.length ≤ sizeLine → Reps prog w W s.heap ds vs → P) : P :=
  asList_r (d := .list ds) rfl o.r fun b vs e hl hz r => k vs (Value.ref.inj e ▸ hl) hz r

/-- an owned list is changed -/
theorem own_changed {x : Str} {i : Nat} {ds ds' : List D} {vs' : List Value} {a : Addr} {s₁ : Shared} {h' : Heap} {tk : Nat} (S : Sx prog w C B mg kF Wb X W env sc ρ A s) (one : ∀ j, C.O.contains j = true → j = i) (hx : cOwn C sc x = some i) (o : OwnAt prog w (C.pl.contains i) Wb X W env x (.list ds) a s)
    (k : Kp s s₁) (hl : h'.IsList a vs'.toArray) (hs : Heap.SameBut a s₁.heap h') (hz : vs'.length ≤ sizeLine) (r : KHB W s₁.heap h' → Reps prog w W h' ds' vs') (dk : DK prog w (C.pl.contains i) h' a (.list ds')) :
    KpB X s { s₁ with heap := h', toks := tk } ∧ RepT prog w W h' (.list ds') (.ref a) ∧ Sx prog w C B mg kF Wb X W env sc (upd ρ i (.list ds')) A { s₁ with heap := h', toks := tk } :=
  have r' : RepT prog w W h' (.list ds') (.ref a) := ⟨a, _, rfl, hl, hz, r fun b ob hb e => sb_kept hs (fun q => hb (q ▸ S.xw _ o.hX)) e⟩
  ⟨k.toB.own o.hX hs, r', (S.kp k).mutate one hx (o.kp k) hs (hl.elim fun ob e => ⟨ob, e.1⟩) r' dk⟩

theorem swaps_plainV {value : Expr} {t : Option Expr} {line : Nat} (hp : plainV value = true) : swapsWith value t line env = pure false := by
  cases value with
  | Name _ _ => rfl
  | Subscript _ _ _ => rfl
  | _ => exact ff hp
theorem arm_setI (G : Gl prog w C F B mg kF) {x : Str} {px sp pos : Pos} {ie value : Expr} {i : Nat} {pi p : PE} {d kd : D} {k : Int} {ds : List D} (one : ∀ j, C.O.contains j = true → j = i) (hx : cOwn C sc x = some i) (hi : cE C m sc ie = some pi) (hc : cE C m sc value = some p) (hp : plainV value = true) (hpl : C.pl.contains i = false)
    (he : evE F N ρ p = some d) (hei : evE F N ρ pi = some kd) (hkd : asInt kd = some k) (hl : ρ.lookup i = some (.list ds)) (hk : 0 ≤ k ∧ k < (ds.length : Int) ∧ k < 1000) (S : Sx prog w C B mg kF Wb X W env sc ρ A s) :
    wpAny (model prog w) A (exec (.Assign [.Subscript (.Name x px) ie sp] value pos) env) (SP prog w C B mg kF Wb X W env sc A s .next (upd ρ i (.list (ds.set k.toNat d)))) E s := by
  have SE := (snd_all (prog := prog) (w := w) G N).1
  refine wpAny_Assign_Subscript (wpAny_mono (SE m sc value p ρ d env W A s E hc he S.hy) (fun v s₁ q₁ => ?_) fun _ _ e => e) (swaps_plainV hp)
  obtain ⟨a, o⟩ := S.ownAt hx hl
  have S₁ := S.kp q₁.1
  refine (o.kp q₁.1).name S₁ (cOwn_some hx).2.2.2.2 (wpAny_mono (SE m sc ie pi ρ _ env W A s₁ E hi hei S₁.hy) (fun iv s₂ q₂ => ?_) fun _ _ e => e)
  have k₂ := q₁.1.trans q₂.1
  refine asInt_r hkd q₂.2.1 fun t ev => (o.kp k₂).list fun vs hls hlen rs => ?_
  rw [ev]
  refine wpAny_setItem_list hls hk.1 (by omega) (by rw [List.size_toArray, rs.length]; exact hk.2.1) fun h' hl' hs => ?_
  rw [List.setIfInBounds_toArray] at hl'
  have ch := own_changed (tk := s₂.toks) S one hx o k₂ hl' hs (by rw [List.length_set]; exact hlen) (fun kb => (rs.mono kb).set ((q₁.2.keep q₂.1.keep).mono kb)) (DK.list hpl)
  exact ⟨rfl, X, W, Grown.refl _ _ _, ch.1, ch.2.2⟩

theorem arm_app (G : Gl prog w C F B mg kF) {x a : Str} {px apos pos epos : Pos} {e : Expr} {i : Nat} {p : PE} {d : D} {ds : List D} (one : ∀ j, C.O.contains j = true → j = i) (ha : a = ("append" : Str)) (hline : (apos.endLine == pos.line) = true) (hx : cOwn C sc x = some i) (hc : cE C m sc e = some p)
    (hplain : C.pl.contains i = true) (he : evE F N ρ p = some d) (hl : ρ.lookup i = some (.list ds)) (hk : ds.length < 1000) (S : Sx prog w C B mg kF Wb X W env sc ρ A s) :
    wpAny (model prog w) A (exec (.Expr (.Call (.Attribute (.Name x px) a apos) [e] [] pos) epos) env) (SP prog w C B mg kF Wb X W env sc A s .next (upd ρ i (.list (ds ++ [d])))) E s := by
  have SE := (snd_all (prog := prog) (w := w) G N).1
  subst ha
  obtain ⟨a, o⟩ := S.ownAt hx hl
  have hpl : ([e] : List Expr).all plainE = true := by rw [List.all_cons, cE_plain hc]; rfl
  refine wpAny_Expr_any ?_ (by unfold interactive; rw [S.hy.ke.kf]; rfl) rfl
  refine wpAny_Call_method_lateS (attr_base rfl) (by rw [backTo_star hpl]; rfl) hline (o.name S (cOwn_some hx).2.2.2.2 ?_)
  refine o.list fun vs hls hlen rs => ?_
  obtain ⟨ob', g1, g2, _⟩ := o.dk.2 hplain
  refine ⟨"list", "list.append", PySem.F.plainAttrs_list, PySem.F.slot_list_append, PySem.F.type_list_append, hls.typeIs, fun b e => ⟨ob', Value.ref.inj e ▸ g1, g2⟩, ?_⟩
  refine callWith_builtin (any_star hpl) (args_of hpl (wpAny_mono (splice_E SE (es := [e]) (ps := [p]) (ds := [d]) (m := m) (ob_i hc rfl) (ob_i he rfl) S.hy) (fun us s₂ q₂ => ?_) fun _ _ e => e))
  obtain ⟨v, e1, rv⟩ := reps1 q₂.2
  subst e1
  have hPL : PlainL s₂.heap a vs.toArray := by
    obtain ⟨ob, e1, e2, nn, e3⟩ := hls
    rw [sj (g1.symm.trans e1)] at g2
    exact ⟨ob, nn, (q₂.1.keep _ _ e1).exact (by rw [e2]; exact nofun), e2, g2, e3⟩
  refine list_append_plainL hPL (fun h' hlp hs => ?_) (by rw [List.size_toArray, rs.length, sizeLine]; omega)
  have hl' := hlp.isList
  rw [List.push_toArray] at hl'
  have ch := own_changed (tk := s₂.toks) S one hx o q₂.1 hl' hs (by rw [List.length_append, rs.length, sizeLine]; exact Nat.le_trans (Nat.succ_le_of_lt hk) (by decide)) (fun kb => ((rs.keep q₂.1.keep).mono kb).append (.cons (rv.mono kb) .nil))
    ⟨fun kvs e => (nomatch e), fun _ => let ⟨ob, nn, e1, ec, e2, _⟩ := hlp; ⟨ob, e1, e2, by rw [ec]; exact nofun⟩⟩
  exact ⟨rfl, X, W, Grown.refl _ _ _, ch.1, ch.2.2⟩
end
end Ev
namespace Ev
open PySem PySem.Calls PyProof.Rows

section
variable [Base] {prog : Program} {w : World} {C : Cx} {F : Nat → List D → Option D} {B : Heap} {mg : Str → Option Value} {kF : Nat}
  {sc : Scope} {ρ : Rho} {env : Env} {Wb X W : Addr → Prop} {A : Around} {s : Shared} {E : Value → Shared → Prop} {n m N : Nat}

theorem upd_upd {i : Nat} {d : D} (l : Nat) : (upd ρ i d).lookup l = (upd (upd ρ i d) i d).lookup l := by
  simp only [upd_lookup, List.lookup_cons]
  cases l == i <;> rfl
theorem arm_extL (G : Gl prog w C F B mg kF) {x : Str} {px pos : Pos} {e : Expr} {i : Nat} {p : PE} {d : D} {ds ds' : List D} (one : ∀ j, C.O.contains j = true → j = i) (hx : cOwn C sc x = some i) (hc : cE C m sc e = some p) (hpl : C.pl.contains i = false)
    (he : evE F N ρ p = some d) (hd : asList d = some ds') (hl : ρ.lookup i = some (.list ds)) (hk : ds.length + ds'.length < 1000) (S : Sx prog w C B mg kF Wb X W env sc ρ A s) :
    wpAny (model prog w) A (exec (.AugAssign (.Name x px) .Add e pos) env) (SP prog w C B mg kF Wb X W env sc A s .next (upd ρ i (.list (ds ++ ds')))) E s := by
  obtain ⟨a, o⟩ := S.ownAt hx hl
  refine wpAny_AugAssign_Name (o.load S (wpAny_mono ((snd_all (prog := prog) (w := w) G N).1 m sc e p ρ _ env W A s E hc he S.hy) (fun v s₂ q => ?_) fun _ _ e => e))
  refine asList_r hd q.2.1 fun b ws ev hb _ rw' => (o.kp q.1).list fun vs hls hlen rs => ?_
  rw [ev]
  refine iadd_list hls hb (fun h' hl' hs => ?_) (by rw [rs.length, rw'.length]; exact Nat.le_of_lt hk)
  have ch := own_changed (tk := s₂.toks) S one hx o q.1 hl' hs (by rw [List.length_append, rs.length, rw'.length, sizeLine]; exact Nat.le_trans (Nat.le_of_lt hk) (by decide)) (fun kb => (rs.mono kb).append (rw'.mono kb)) (DK.list hpl)
  refine ch.2.2.storeOwn one hx ch.2.1 (S.xw _ o.hX) o.hB o.hL o.hc (DK.list hpl) fun s₄ k₄ S₄ => ?_
  exact ⟨rfl, _, W, ⟨fun b q => .inl q, fun b q => q.elim .inl fun q => .inl (q ▸ o.hX), fun _ q => q, fun _ q => .inl q⟩, ch.1.trans k₄, S₄.ext upd_upd⟩

/-- a fresh thing -/
noncomputable def PostF (prog : Program) (w : World) (W : Addr → Prop) (s : Shared) (d : D) (b : Bool) (v : Value) (s' : Shared) : Prop :=
  Kp s s' ∧ ∃ a, v = .ref a ∧ s.heap.get? a = none ∧ RepT prog w (fun c => W c ∨ c = a) s'.heap d (.ref a) ∧ DK prog w b s'.heap a d

theorem Sx.takeOwn {x : Str} {i : Nat} {d : D} {a : Addr} {s₁ : Shared} {Q : Unit → Shared → Prop} (S : Sx prog w C B mg kF Wb X W env sc ρ A s) (one : ∀ j, C.O.contains j = true → j = i) (hx : cOwn C sc x = some i) (k : Kp s s₁) (hf : s.heap.get? a = none)
    (r : RepT prog w (fun c => W c ∨ c = a) s₁.heap d (.ref a)) (dk : DK prog w (C.pl.contains i) s₁.heap a d) (hQ : ∀ s', SP prog w C B mg kF Wb X W env sc A s .next (upd ρ i d) .next s' → Q () s') : wpAny (model prog w) A (storeName env x (.ref a)) Q E s₁ := by
  have ex : ∃ ob, s₁.heap.get? a = some ob := by
    obtain ⟨ob, e⟩ := r.ref_some; exact ⟨ob, e⟩
  have S₁ : Sx prog w C B mg kF Wb X (fun c => W c ∨ c = a) env sc ρ A s₁ := by
    refine S.newer k (fun c q => .inl q) (fun c q => q.elim .inl fun q => .inr (q ▸ hf)) fun c q => ?_
    rcases q with q | rfl
    · exact (S.kp k).hy.wk c q
    · exact ex
  have nX : ∀ c, X c → c ≠ a := fun c q e => S.notX hf (e ▸ q)
  refine S₁.storeOwn one hx r (.inr rfl) (fun q => ?_) (nX _ S.xl).symm (fun y c q1 q2 => nX _ (S.xc y c q1 q2).hX) dk fun s' k' S' => hQ s' ⟨rfl, _, _, ⟨fun c q => .inl q, fun c q => q.elim .inl fun (q : c = a) => .inr (q ▸ hf), fun c q => .inl q, fun c q => q.elim .inl fun (q : c = a) => .inr (q ▸ hf)⟩, k.toB.trans k', S'⟩
  obtain ⟨ob, e⟩ := S.hy.wk _ (S.bw _ q)
  rw [hf] at e; cases e

theorem new_comp (G : Gl prog w C F B mg kF) {elt : Expr} {gens : List Comprehension} {scope : Scope} {cp : Pos} {p : PE} {d : D} (hc : cE C m sc (.ListComp elt gens scope cp) = some p) (he : evE F N ρ p = some d) (S : Sx prog w C B mg kF Wb X W env sc ρ A s) :
    wpAny (model prog w) A (eval (.ListComp elt gens scope cp) env) (PostF prog w W s d false) E s := by
  show wpAny (model prog w) A (comprehension (.ListComp elt gens scope cp) scope env (firstIterPos gens cp) (newList []) (firstAsync gens) (firstIter gens env) none) _ E s
  cases m with
  | zero => exact dead hc
  | succ m =>
    cases N with
    | zero => exact dead he
    | succ N =>
      have q := snd_all (prog := prog) (w := w) G N
      refine comp_run G q.1 q.2.1 q.2.2 hc he S.hy fun dD C' s' ds ys e Y => ?_
      subst e
      obtain ⟨m, hm⟩ := Y.ns
      refine ⟨m, hm, fun h' hs => ⟨?_, dD, rfl, Y.d0, ?_, DK.list rfl⟩⟩
      · obtain ⟨h1', t1, e1⟩ := Y.kp.same
        exact ⟨⟨h', t1, by rw [e1]⟩, fun b o e => Kept.trans (Y.kp.keep b o e) fun _ e' => sb_kept hs (fun q => absurd ((q ▸ Y.c0).symm.trans e) nofun) e'⟩
      · have kb : KHB (fun a => W a ∨ a = C' ∨ a = dD) s'.heap h' := fun b o hb e => sb_kept hs (fun q => hb (.inr (.inl q))) e
        exact ⟨dD, ys, rfl, Y.hl.at fun o ho => by rw [hs.2 _ Y.ne]; exact ho, Y.len, (Y.hr.mono kb).less fun a h => h.imp id .inr⟩

theorem new_range (G : Gl prog w C F B mg kF) {fp gp gpos lp : Pos} {as : List Expr} {ps : List PE} {d : D} (hg : isGlobalName sc ("list" : Str) = true) (hgr : isGlobalName sc ("range" : Str) = true) (h1 : mapO (cE C m sc) as = some ps) (he : evE F (N + 1) ρ (.listR ps) = some d)
    (S : Sx prog w C B mg kF Wb X W env sc ρ A s) : wpAny (model prog w) A (eval (.Call (.Name ("list" : Str) fp) [.Call (.Name ("range" : Str) gp) as [] gpos] [] lp) env) (PostF prog w W s d false) E s := by
  obtain ⟨k1, k2⟩ := glob_kind S.hy hg
  refine ob he fun ds h2 he => ob he fun ls h3 he => ?_
  obtain rfl := sj he
  refine Call_Name rfl (name_bi G S.hy k1 (G.no _ (.inr (.inr (.inr (.inl rfl))))) (v := .type "list") (by decide +kernel) (by decide +kernel) ?_ k2)
  have hp : ([.Call (.Name ("range" : Str) gp) as [] gpos] : List Expr).all plainE = true := rfl
  refine PyProof.Rows.callWith_type (any_star hp) (args_of hp ?_)
  rw [backTo_star hp]
  refine spliced_cons (wpAny_mono (arm_range G (snd_all (prog := prog) (w := w) G N).1 hgr h1 h2 h3 S.hy) (fun v s₁ q₁ => cps fun P k => ?_) fun _ _ e => e)
  obtain ⟨r, _, kk, a, b, c, t, u, v', rfl, r1, r2, rfl⟩ := q₁
  obtain ⟨q1, q2, q3, q4, q5⟩ := rangeOk_of r2
  refine k (spliced_nil (call_list_range S.hy.ok.hd r1 q1 q5 (by omega) fun h' tk acc c' hk ho hi => ⟨kk.trans (Kp.of hk _), _, rfl, kk.keep.size, ?_, DK.list rfl⟩))
  refine ⟨_, acc.toList, rfl, ⟨_, ho, rfl, c', rfl⟩, by rw [Array.length_toList, hi.1, sizeLine]; omega, reps_of_get (by rw [Array.length_toList, hi.1, rangeL_length]) fun i d v e1 e2 => ?_⟩
  rw [rangeL_get e1]
  obtain ⟨t, rfl⟩ := hi.2 i v (by simpa using e2)
  exact rep_int
theorem new_listR (G : Gl prog w C F B mg kF) {e : Expr} {p : PE} {d : D} (hf : listR e = true) (hc : cE C m sc e = some p) (he : evE F N ρ p = some d)
    (S : Sx prog w C B mg kF Wb X W env sc ρ A s) : wpAny (model prog w) A (eval e env) (PostF prog w W s d false) E s := by
  refine cps fun P k => ?_
  unfold listR at hf
  cases hq : callO e with
  | none => rw [hq] at hf; exact ff hf
  | some q =>
    rw [hq] at hf
    have hf := beq_iff_eq.mp hf
    refine callO_o hq fun np pos ec => ?_
    rw [ec] at hc k
    cases m with
    | zero => exact dead hc
    | succ m =>
      cases N with
      | zero => exact dead he
      | succ N =>
        refine coldR_o hc fun hc _ => gdo hc fun hn hc => and_o hn fun hg _ => ifo hc (fun h _ => absurd (hf.symm.trans h) (by decide +kernel)) fun _ hc => ifo hc (fun _ hc => ?_) fun h _ => absurd hf h
        refine ob hc fun e1 h1 hc => ob hc fun as h2 hc => ob hc fun ps h3 hc => sm hc he fun he => one1_o h1 fun h1 => rangeCall_o h2 fun gp gpos e2 hgr _ => k ?_
        rw [hf] at hg
        rw [h1, hf, e2]
        exact new_range G hg hgr h3 he S

theorem new_nil {lp : Pos} {b : Bool} (S : Sx prog w C B mg kF Wb X W env sc ρ A s) : wpAny (model prog w) A (eval (.List [] lp) env) (PostF prog w W s (.list []) b) E s := by
  refine List_ (spliced_nil ?_)
  refine wpAny_newObj_type ?_ (by show ([] : List Value).toArray.size ≤ sizeLine; decide)
  exact ⟨Kp.pushS _ _, _, rfl, get_size _, ⟨_, [], rfl, ⟨_, Heap.get?_push_size _ rfl, rfl, 0, rfl⟩, by simp, .nil⟩, fun kvs e => (nomatch e), fun _ => ⟨_, Heap.get?_push_size _ rfl, rfl, by simp⟩⟩

theorem new_used (G : Gl prog w C F B mg kF) {x : Str} {px pos cp : Pos} {elt : Expr} {gens : List Comprehension} {scope : Scope} {i : Nat} {p : PE} {d : D} (one : ∀ j, C.O.contains j = true → j = i) (hx : cOwn C sc x = some i) (hc : cE C m sc (.ListComp elt gens scope cp) = some p) (hb : C.pl.contains i = false) (he : evE F N ρ p = some d)
    (S : Sx prog w C B mg kF Wb X W env sc ρ A s) (hsw : swapsWith (.ListComp elt gens scope cp) (some (.Name x px)) pos.line env = pure true) :
    wpAny (model prog w) A (exec (.Assign [.Name x px] (.ListComp elt gens scope cp) pos) env) (SP prog w C B mg kF Wb X W env sc A s .next (upd ρ i d)) E s := by
  rw [exec_Assign_Name_used _ _ _ _ hsw]
  refine wpAny_bind (wpAny_standAt (wpAny_bind (wpAny_mono (comp_used (Q := fun _ s' => SP prog w C B mg kF Wb X W env sc A s .next (upd ρ i d) .next s') G hc he S fun dD C' s' ds ys e Y => ?_) (fun _ s' q => wpAny_pure q.choose_spec) fun _ _ e => e)))
  subst e
  refine assign_Name (cps fun P k0 => ?_)
  obtain ⟨h1, h2, h3, k, hl, hr, hy, ⟨mC, hmC⟩, hw⟩ := Y
  have hCX := S.notX h2
  have S1 : Sx prog w C B mg kF Wb X (fun a => W a ∨ a = C' ∨ a = dD) env sc ρ A s' := by
    refine S.newer k (fun a q => .inl q) (fun a q => q.imp id fun q => q.elim (fun q => q ▸ h2) fun q => q ▸ h1) fun a q => ?_
    rcases q with q | rfl | rfl
    · exact (S.kp k).hy.wk a q
    · obtain ⟨o, _, _, e, _⟩ := hmC; exact ⟨o, e⟩
    · obtain ⟨o, e, _⟩ := hl; exact ⟨o, e⟩
  have nX : ∀ c, X c → c ≠ dD := fun c q e => S.notX h1 (e ▸ q)
  have nW : ∀ c, s.heap.get? c = none → ¬ W c := fun c h q => by obtain ⟨o, e⟩ := S.hy.wk _ q; rw [h] at e; cases e
  refine k0 (S1.storeOwn one hx (d := .list ds) ⟨dD, ys, rfl, hl, hy, hr⟩ (.inr (.inr rfl)) (fun q => nW _ h1 (S.bw _ q)) (nX _ S.xl).symm (fun y c q1 q2 => nX _ (S.xc y c q1 q2).hX) (DK.list hb) fun s'' k' S'' => ?_)
  refine ⟨mC, Ns.kp hmC fun o e => k'.keep _ o hCX e, fun h' hs => ⟨rfl, (fun b => X b ∨ b = dD), (fun b => W b ∨ b = dD), ⟨fun c q => .inl q, fun c q => q.imp id fun (q : c = dD) => q ▸ h1, fun c q => .inl q, fun c q => q.imp id fun (q : c = dD) => q ▸ h1⟩, (k.toB.trans k').block (s'' := s) h2 hs, ?_⟩⟩
  exact S''.block (.inr (.inl rfl)) (fun q => q.elim hCX fun e => h3 e.symm) (S.notB h2) hs (fun a q => q.imp id .inr) (fun q => q.elim (nW _ h2) fun e => h3 e.symm) (fun e hb => (S.hy.fr e).notNone hb h2) (fun a q => q.imp (S.xw a) id) (fun a q => .inl (S.bw a q))

theorem listO_o {P : Prop} {e : Expr} {es : List Expr} (h : listO e = some es) (k : ∀ pos, e = .List es pos → P) : P := by
  cases e with
  | List _ pos => exact k pos (by rw [sj h])
  | _ => exact dead h
theorem isComp_o {P : Prop} {e : Expr} (h : isComp e = true) (k : ∀ a b c d, e = .ListComp a b c d → P) : P := by
  cases e with
  | ListComp _ _ _ _ => exact k _ _ _ _ rfl
  | _ => exact ff h
theorem listR_swaps {e : Expr} {t : Option Expr} {line : Nat} (h : listR e = true) : swapsWith e t line env = pure false := by
  unfold listR at h
  cases hq : callO e with
  | none => rw [hq] at h; exact ff h
  | some q => exact callO_o hq fun np pos ec => by rw [ec]; rfl
theorem arm_new (G : Gl prog w C F B mg kF) {x : Str} {px pos : Pos} {value : Expr} {i : Nat} {p : PE} {d : D} (one : ∀ j, C.O.contains j = true → j = i) (hx : cOwn C sc x = some i) (hc : cE C m sc value = some p) (hn : newE (C.pl.contains i) value = true) (he : evE F N ρ p = some d)
    (S : Sx prog w C B mg kF Wb X W env sc ρ A s) : wpAny (model prog w) A (exec (.Assign [.Name x px] value pos) env) (SP prog w C B mg kF Wb X W env sc A s .next (upd ρ i d)) E s := by
  refine cps fun P k0 => ?_
  have plain : swapsWith value (some (.Name x px)) pos.line env = pure false → (∀ E, wpAny (model prog w) A (eval value env) (PostF prog w W s d (C.pl.contains i)) E s) → P := fun hs h => k0 (by
    refine wpAny_Assign_Name (wpAny_mono (h _) (fun v s₁ q => ?_) fun _ _ e => e) hs
    obtain ⟨k, a, e, hf, r, dk⟩ := q
    rw [e]
    exact S.takeOwn one hx k hf r dk fun s' q => q)
  unfold newE at hn
  cases hq : listO value with
  | some es =>
    rw [hq] at hn
    refine listO_o hq fun lp e => ?_
    have hes : es = [] := List.isEmpty_iff.mp hn
    rw [e, hes] at plain hc
    have hd : d = .list [] := by
      cases m with
      | zero => exact dead hc
      | succ m =>
        refine coldR_o hc fun hc _ => sm (show some (PE.list []) = some p from hc) he fun he => ?_
        cases N with
        | zero => exact dead he
        | succ N => exact (sj he).symm
    rw [hd] at plain
    exact plain rfl fun E => new_nil S
  | none =>
    rw [hq] at hn
    refine and_o hn fun hb hn => ?_
    have hb := not_o hb
    rw [hb] at plain
    rcases Bool.or_eq_true_iff.mp hn with hn | hn
    · exact plain (listR_swaps hn) fun E => new_listR G hn hc he S
    · refine isComp_o hn fun elt gens scope cp e => ?_
      rw [e] at plain hc k0
      obtain ⟨b, hsw⟩ := swaps_comp (elt := elt) (gens := gens) (scope := scope) (p := cp) (x := x) (px := px) (line := pos.line) (env := env)
      cases b with
      | false => exact plain hsw fun E => new_comp G hc he S
      | true => exact k0 (new_used G one hx hc hb he S hsw)

end
end Ev
namespace Ev
open PySem PySem.Calls PyProof.Rows

theorem valueAt_cons' {k : Str} {v : Value} {r : List (Str × Value)} {x : Str} : valueAt ((k, v) :: r) x = if k = x then some v else valueAt r x := by
  unfold valueAt
  rw [List.find?_cons]
  by_cases h : k = x <;> simp [h]
theorem valueAt_nil' {x : Str} : valueAt ([] : List (Str × Value)) x = none := rfl

noncomputable def FK : List (D × D) → List (Str × Value) → Prop
  | [], l => l = []
  | p :: r, l => ∃ k y t l', p = (.str k, .str y) ∧ l = (k, .str y t) :: l' ∧ PyData.strOk y = true ∧ y.length ≤ sizeLine ∧ dget r k = none ∧ FK r l'
theorem key_str {k x : Str} {u : D} {r : List (D × D)} : dget ((.str k, u) :: r) x = if k = x then some u else dget r x := by
  show (bif k == x then some u else dget r x) = _
  by_cases h : k = x
  · rw [if_pos h, h, beq_self_eq_true]; rfl
  · rw [if_neg h, beq_eq_false_iff_ne.mpr h]; rfl
theorem FK.val : ∀ {kvs : List (D × D)} {l : List (Str × Value)}, FK kvs l → ∀ x, match dget kvs x with | some d => ∃ u, valueAt l x = some u ∧ flatV d u | none => valueAt l x = none
  | [], l, h, x => by rw [show l = [] from h]; exact rfl
  | _ :: r, l, h, x => by
    obtain ⟨k, y, t, l', rfl, rfl, h1, h2, h3, h4⟩ := h
    rw [key_str, valueAt_cons']
    by_cases q : k = x
    · rw [if_pos q, if_pos q]; exact ⟨_, rfl, ⟨t, rfl⟩, h1, h2⟩
    · rw [if_neg q, if_neg q]; exact FK.val h4 x
theorem mem_keys {l : List (Str × Value)} {x : Str} (h : x ∈ l.map (·.1)) : valueAt l x ≠ none := by
  induction l with
  | nil => simp at h
  | cons p r ih =>
    obtain ⟨k, v⟩ := p
    rw [valueAt_cons']
    by_cases q : k = x
    · simp [q]
    · rw [if_neg q]
      simp only [List.map_cons, List.mem_cons] at h
      rcases h with h | h
      · exact absurd h.symm q
      · exact ih h
theorem FK.nodup : ∀ {kvs : List (D × D)} {l : List (Str × Value)}, FK kvs l → (l.map (·.1)).Nodup ∧ l.length = kvs.length
  | [], l, h => by rw [show l = [] from h]; exact ⟨.nil, rfl⟩
  | _ :: r, l, h => by
    obtain ⟨k, y, t, l', rfl, rfl, h1, h2, h3, h4⟩ := h
    obtain ⟨i1, i2⟩ := FK.nodup h4
    refine ⟨List.nodup_cons.mpr ⟨fun hm => ?_, i1⟩, congrArg (· + 1) i2⟩
    have := h4.val k
    rw [h3] at this
    exact mem_keys hm this

theorem valueAt_store {vs : List (Str × Value)} {k x : Str} {v : Value} : valueAt (vs.map fun kv => if kv.1 = k then (kv.1, v) else kv) x = if x = k ∧ (valueAt vs k).isSome = true then some v else valueAt vs x := by
  induction vs with
  | nil => simp [valueAt_nil']
  | cons p r ih =>
    obtain ⟨a, u⟩ := p
    simp only [List.map_cons]
    by_cases h : a = k
    · subst h
      simp only [if_true, valueAt_cons']
      by_cases q : a = x
      · simp [q]
      · rw [if_neg q, ih, if_neg (fun z => q z.1.symm), if_neg (fun z => q z.1.symm), if_neg q]
    · rw [if_neg h]
      simp only [valueAt_cons', if_neg h]
      by_cases q : a = x
      · subst q; simp [h]
      · rw [if_neg q, if_neg q, ih]
theorem valueAt_any {vs : List (Str × Value)} {k : Str} {v : Value} (h : valueAt vs k = some v) : vs.any (fun kv => kv.1 = k) = true := by
  unfold valueAt at h
  simp only [Option.map_eq_some_iff] at h
  obtain ⟨p, h1, _⟩ := h
  simp only [List.any_eq_true]
  exact ⟨p, List.mem_of_find?_eq_some h1, by simpa using List.find?_some h1⟩
theorem isKey_ne {k : D} {x y : Str} (h : isKey k x = true) : isKey k y = (x == y) := by
  cases k with
  | str z => rw [← beq_iff_eq.mp (show (z == x) = true from h)]; rfl
  | _ => exact ff h
theorem dget_dput : ∀ (kvs : List (D × D)) (k x : Str) (d : D), dget (dput kvs k d) x = if x = k ∧ (dget kvs k).isSome = true then some d else dget kvs x
  | [], k, x, d => by rw [if_neg fun h => ff h.2]; rfl
  | p :: r, k, x, d => by
    show dget (bif isKey p.1 k then (p.1, d) :: r else p :: dput r k d) x = if x = k ∧ (bif isKey p.1 k then some p.2 else dget r k).isSome = true then some d else bif isKey p.1 x then some p.2 else dget r x
    cases h : isKey p.1 k with
    | true =>
      show (bif isKey p.1 x then some d else dget r x) = _
      rw [isKey_ne h]
      by_cases q : k = x
      · rw [if_pos ⟨q.symm, rfl⟩, q, beq_self_eq_true]; rfl
      · rw [if_neg fun e => q e.1.symm, beq_eq_false_iff_ne.mpr q]; rfl
    | false =>
      show (bif isKey p.1 x then some p.2 else dget (dput r k d) x) = if x = k ∧ (dget r k).isSome = true then some d else bif isKey p.1 x then some p.2 else dget r x
      cases q : isKey p.1 x with
      | true => rw [if_neg fun e => by rw [← e.1, q] at h; cases h]; rfl
      | false => exact dget_dput r k x d

section
variable [Base] {prog : Program} {w : World} {C : Cx} {F : Nat → List D → Option D} {B : Heap} {mg : Str → Option Value} {kF : Nat}
  {sc : Scope} {ρ : Rho} {env : Env} {Wb X W : Addr → Prop} {A : Around} {s : Shared} {E : Value → Shared → Prop} {n m N : Nat}

theorem strLit_o {P : Prop} {e : Expr} {x : Str} (h : strLit e = some x) (k : ∀ c a b, e = .Constant c a b → strC c = some x → P) : P := by
  cases e with
  | Constant c _ _ => exact k c _ _ rfl h
  | _ => exact dead h
theorem strC_o {P : Prop} {c : Const} {x : Str} (h : strC c = some x) (k : c = .str x → strFit x = true → P) : P := by
  cases c with
  | str y => exact gdo h fun hf h => k (congrArg _ (sj h)) (sj h ▸ hf)
  | _ => exact dead h
theorem strLit_some {P : Prop} {e : Expr} {x : Str} (h : strLit e = some x) (k : PyData.strOk x = true → x.length ≤ sizeLine → (∀ (s : Shared) (Q : Value → Shared → Prop), (∀ t s', Kp s s' → Q (.str x t) s') → wpAny (model prog w) A (eval e env) Q E s) → P) : P :=
  strLit_o h fun c a b e1 hc => strC_o hc fun e2 hf => k (strFit_of hf).1 (strFit_of hf).2 fun s Q hQ => by rw [e1, e2]; exact wpAny_Constant_str (hQ _ _ (Kp.tok _ _))
theorem pairs_eval {pos : Pos} : ∀ {ks : List (Option Expr)} {vs : List Expr} {kvs : List (D × D)} {s : Shared} {Q : List (Value × Value) → Shared → Prop}, cDict ks vs = some kvs →
    (∀ ps s', Kp s s' → allStrKeys ps = true → FK kvs (strPairs ps) → ps.length = kvs.length → Q ps s') → wpAny (model prog w) A (evalPairs (pairTrees ks vs env pos)) Q E s
  | [], [], kvs, s, Q, h, hQ => by
    obtain rfl := sj h
    exact evalPairs_nil (hQ [] s (Kp.refl _) rfl rfl rfl)
  | [], _ :: _, kvs, s, Q, h, hQ => dead h
  | _ :: _, [], kvs, s, Q, h, hQ => dead h
  | k :: ks, v :: vs, kvs, s, Q, h, hQ => ob h fun x hx h => ob h fun y hy h => ob h fun r hr h => gdo h fun hd h => ob hx fun ke ek hx => strLit_some hx fun a1 a2 a3 => strLit_some hy fun b1 b2 b3 => by
    rw [← sj h] at hQ
    rw [ek]
    refine evalPairs_cons (a3 _ _ fun t s₁ k₁ => ?_)
    refine wpAny_bind (b3 _ _ fun t' s₂ k₂ => wpAny_bind (wpAny_standAt (wpAny_pure ?_)))
    exact pairs_eval hr fun ps s' k' q1 q2 q3 => hQ _ s' ((k₁.trans k₂).trans k') q1 ⟨x, y, t', _, rfl, rfl, b1, b2, Option.isNone_iff_eq_none.mp hd, q2⟩ (congrArg (· + 1) q3)
theorem cDict_shape : ∀ {ks : List (Option Expr)} {vs : List Expr} {kvs : List (D × D)}, cDict ks vs = some kvs → ks.all (·.isSome) = true ∧ ks.length = vs.length ∧ ks.length = kvs.length
  | [], [], kvs, h => by obtain rfl := sj h; exact ⟨rfl, rfl, rfl⟩
  | [], _ :: _, kvs, h => dead h
  | _ :: _, [], kvs, h => dead h
  | k :: ks, v :: vs, kvs, h => ob h fun x hx h => ob h fun y hy h => ob h fun r hr h => gdo h fun hd h => ob hx fun ke ek _ => by
    rw [← sj h, ek]
    obtain ⟨a, b, c⟩ := cDict_shape hr
    exact ⟨a, congrArg (· + 1) b, congrArg (· + 1) c⟩

theorem arm_dnew (G : Gl prog w C F B mg kF) {x : Str} {px dp pos : Pos} {ks : List (Option Expr)} {vs : List Expr} {i : Nat} {kvs : List (D × D)} (one : ∀ j, C.O.contains j = true → j = i) (hx : cOwn C sc x = some i) (hc : cDict ks vs = some kvs) (hpl : C.pl.contains i = false)
    (hlen : kvs.length ≤ 15 ∧ 0 < kvs.length) (S : Sx prog w C B mg kF Wb X W env sc ρ A s) :
    wpAny (model prog w) A (exec (.Assign [.Name x px] (.Dict ks vs dp) pos) env) (SP prog w C B mg kF Wb X W env sc A s .next (upd ρ i (.dict kvs))) E s := by
  obtain ⟨c1, c2, c3⟩ := cDict_shape hc
  have hsys : (s.heap.objs.size == sysModules) = false := by
    have h1 : sysModules < s.heap.objs.size := modules_low (G.nl.keeps S.hy.bk)
    simpa using Nat.ne_of_gt h1
  refine wpAny_Assign_Name (wpAny_Dict_walk (knd := PySem.strKind prog w) c1 c2 (fun q => by rw [q] at c3; simp at c3; omega) (by omega) (pairs_eval hc fun ps s₁ k₁ hk hf hl => ?_)) rfl
  obtain ⟨n1, n2⟩ := hf.nodup
  have k0 : Kp s s₁ := (Kp.pushS s _).trans k₁
  refine display_done_str hk n1 (DictOf.kp (Heap.DictOf.new s.heap) fun o e => k₁.keep _ o e) fun h' hd hs => ?_
  have k2 : Kp s { s₁ with heap := h', toks := s₁.toks + ps.length } := by
    obtain ⟨h1, t1, e1⟩ := k0.same
    exact ⟨⟨h', s₁.toks + ps.length, by rw [e1]⟩, fun b o e => Kept.trans (k0.keep b o e) fun _ e' => sb_kept hs (Nat.ne_of_lt (Heap.lt_size e)) e'⟩
  exact S.takeOwn (d := .dict kvs) one hx k2 (get_size _) ⟨_, _, rfl, hsys, hd.mapOf, hf.val⟩ ⟨fun kvs' e => ⟨_, hd, by rw [n2]; omega⟩, fun e => absurd (hpl.symm.trans e) Bool.false_ne_true⟩ fun s' q => q

theorem map_eq {h : Heap} {a : Addr} {f : Str → Option Value} {l : List (Str × Value)} (hm : h.MapOf (strKind prog w) a f) (hd : h.DictOf (strKind prog w) a l) (x : Str) : f x = valueAt l x := by
  obtain ⟨ob, es, ep, e1, e2, e3, e4, e5⟩ := hm
  obtain ⟨ob', es', ep', g1, g2, g3, g4, g5⟩ := hd.mapOf
  obtain rfl := sj (e1.symm.trans g1)
  obtain ⟨rfl, _⟩ := Data.dict.inj (e3.symm.trans g3)
  rw [← e5, ← g5]
/-- a text is laid to an entry -/
theorem dict_put {a : Addr} {kvs : List (D × D)} {l : List (Str × Value)} {f : Str → Option Value} {key y : Str} {t : Tok} {ov : Value} {u : D} {h' : Heap} (hsys : (a == sysModules) = false) (hf : ∀ x, match dget kvs x with | some d => ∃ u, f x = some u ∧ flatV d u | none => f x = none)
    (e : ∀ x, f x = valueAt l x) (hlk : valueAt l key = some ov) (hg : dget kvs key = some u) (ok : PyData.strOk y = true) (hz : y.length ≤ sizeLine) (hd : h'.DictOf (strKind prog w) a (l.map fun kv => if kv.1 = key then (kv.1, .str y t) else kv)) : RepT prog w W h' (.dict (dput kvs key (.str y))) (.ref a) := by
  refine ⟨a, _, rfl, hsys, hd.mapOf, fun z => ?_⟩
  rw [valueAt_store, dget_dput, hlk, hg]
  by_cases q : z = key
  · rw [if_pos ⟨q, rfl⟩, if_pos ⟨q, rfl⟩]
    exact ⟨_, rfl, ⟨t, rfl⟩, ok, hz⟩
  · rw [if_neg fun h => q h.1, if_neg fun h => q h.1]
    have := hf z
    rw [e] at this
    exact this
theorem augStore_plain {i : Expr} (h : notSlice i = true) (ov iv new : Value) : augStore i ov iv new = (do holding [new, ov, iv] (setItem ov iv new); release [new, ov, iv] []; pure .next) := by
  cases i with
  | Slice _ _ _ _ => exact ff h
  | _ => rfl
theorem flat_str {P : Prop} {d : D} {u : Str} {v : Value} (e : asStr d = some u) (r : flatV d v) (k : ∀ t, v = .str u t → PyData.strOk u = true → u.length ≤ sizeLine → P) : P := by
  cases d with
  | str j => cases e; obtain ⟨⟨t, q⟩, h1, h2⟩ : (∃ t, v = .str u t) ∧ PyData.strOk u = true ∧ u.length ≤ sizeLine := r; exact k t q h1 h2
  | _ => exact dead e
theorem arm_dAug (G : Gl prog w C F B mg kF) {x : Str} {px sp pos : Pos} {ke value : Expr} {i : Nat} {pk p : PE} {key u v : Str} {kd ud vd : D} {kvs : List (D × D)} (one : ∀ j, C.O.contains j = true → j = i) (hx : cOwn C sc x = some i) (hk : cE C m sc ke = some pk) (hc : cE C m sc value = some p) (hns : notSlice ke = true)
    (hpl : C.pl.contains i = false) (hek : evE F N ρ pk = some kd) (hkd : asStr kd = some key) (hl : ρ.lookup i = some (.dict kvs)) (hg : dget kvs key = some ud) (hud : asStr ud = some u) (he : evE F N ρ p = some vd) (hvd : asStr vd = some v) (hsz : (u ++ v).length ≤ 1000) (S : Sx prog w C B mg kF Wb X W env sc ρ A s) :
    wpAny (model prog w) A (exec (.AugAssign (.Subscript (.Name x px) ke sp) .Add value pos) env) (SP prog w C B mg kF Wb X W env sc A s .next (upd ρ i (.dict (dput kvs key (.str (u ++ v)))))) E s := by
  have SE := (snd_all (prog := prog) (w := w) G N).1
  obtain ⟨a, o⟩ := S.ownAt hx hl
  refine wpAny_AugAssign_Subscript_any (o.name S (cOwn_some hx).2.2.2.2 (wpAny_mono (SE m sc ke pk ρ _ env W A s E hk hek S.hy) (fun kv s₁ q₁ => cps fun P k0 => ?_) fun _ _ e => e)) (augStore_plain hns)
  refine asStr_r hkd q₁.2.1 fun tk ek okk lk => asDict_r (o.kp q₁.1).r fun a' f ea hsys hm hf => ?_
  have ea := Value.ref.inj ea
  rw [← ea] at hm hsys
  rw [ek] at k0
  have hkey : (PySem.strKind prog w).is key (.str key tk) = true := by show (key == key) = true; exact beq_self_eq_true _
  have hfk := hf key
  rw [hg] at hfk
  obtain ⟨ou, hou, fu⟩ := hfk
  refine k0 (wpAny_getItem_of hkey hm hou ?_)
  have k2 := q₁.1.trans (Kp.tok s₁ (s₁.toks + 1))
  refine wpAny_mono (SE m sc value p ρ _ env W A _ E hc he (S.kp k2).hy) (fun nv s₂ q₂ => cps fun P k0 => ?_) fun _ _ e => e
  refine flat_str hud fu fun tu eu oku lu => asStr_r hvd q₂.2.1 fun tv ev okv lv => ?_
  rw [eu, ev] at k0
  refine k0 (SB.iadd (fun t' k' => cps fun P k0 => ?_) (by rw [sizeLine]; have : u.length + v.length ≤ 1000 := by rw [← size_cat]; exact hsz
                                                           omega))
  have k3 : Kp s { s₂ with toks := k' } := (k2.trans q₂.1).trans (Kp.tok _ _)
  have o₃ := o.kp k3
  obtain ⟨l, hd, hll⟩ := o₃.dk.1 kvs rfl
  refine asDict_r o₃.r fun a3 f3 ea3 _ hm3 hf3 => ?_
  rw [← Value.ref.inj ea3] at hm3
  have hlk := hf3 key
  rw [hg] at hlk
  obtain ⟨ov, hlk, _⟩ := hlk
  rw [map_eq hm3 hd] at hlk
  refine k0 (wpAny_setItem_pairs hkey hd (fun h' hd' hs => ?_) (Nat.le_trans hll (by decide)))
  rw [show stored l key (.str (u ++ v) t') = l.map (fun kv => if kv.1 = key then (kv.1, .str (u ++ v) t') else kv) by unfold stored; rw [if_pos (valueAt_any hlk)]] at hd'
  refine ⟨rfl, X, W, Grown.refl _ _ _, k3.toB.own o.hX hs, (S.kp k3).mutate one hx o₃ hs ?_ ?_ ⟨fun kvs' e => ⟨_, hd', by rw [List.length_map]; exact hll⟩, fun e => absurd (hpl.symm.trans e) Bool.false_ne_true⟩⟩
  · obtain ⟨ob, es, ep, e1, _⟩ := hd'; exact ⟨ob, e1⟩
  · exact dict_put hsys hf3 (map_eq hm3 hd) hlk hg (strOk_append oku okv) (Nat.le_trans hsz (by decide)) hd'

end
end Ev
namespace Ev
open PySem PySem.Calls PyProof.Rows

section
variable [Base] {prog : Program} {w : World} {C : Cx} {F : Nat → List D → Option D} {B : Heap} {mg : Str → Option Value} {kF : Nat}
  {sc : Scope} {ρ : Rho} {env : Env} {Wb X W : Addr → Prop} {A : Around} {s : Shared} {E : Value → Shared → Prop} {n m N : Nat}

theorem stepO_o {P : Prop} {o : Option (Fl × Rho)} {go : Rho → Option (Fl × Rho)} {fl : Fl} {ρ' : Rho} (h : stepO' o go = some (fl, ρ')) (k1 : ∀ ρ2, o = some (.next, ρ2) → go ρ2 = some (fl, ρ') → P) (k2 : o = some (fl, ρ') → fl ≠ .next → P) : P := by
  refine ob h fun r ho h => ?_
  obtain ⟨f, r2⟩ := r
  cases f with
  | next => exact k1 r2 ho h
  | _ => exact k2 (ho.trans h) (by rw [← (Prod.mk.inj (sj h)).1]; exact nofun)
theorem stepS (IO : SndO prog w C F N B mg kF n) (IS : SndS prog w C F N B mg kF n) : SndS prog w C F N B mg kF (n + 1) := by
  intro m sc ss ps ρ ρ' fl env Wb X W A s E hc he S hfl
  cases m with
  | zero => exact dead hc
  | succ m =>
    cases ss with
    | nil =>
      refine sm (show some [] = some ps from hc) he fun he => ?_
      obtain ⟨rfl, rfl⟩ := Prod.mk.inj (sj he)
      exact wpAny_execs_nil ⟨rfl, X, W, Grown.refl _ _ _, KpB.refl _ _, S⟩
    | cons st r =>
      refine ob hc fun p h1 hc => ob hc fun q h2 hc => sm hc he fun he => cps fun P k => stepO_o (o := exO F N n ρ p) (go := fun ρ' => exS F N n ρ' q) he (fun ρ₁ h3 he => k ?_) fun h3 hn => k ?_
      · refine wpAny_execs_cons (wpAny_mono (IO m sc st p ρ ρ₁ .next env Wb X W A s E h1 h3 S nofun) (fun f s₁ q₁ => cps fun P k => ?_) fun _ _ e => e)
        obtain ⟨e, X', W', g, kp, S'⟩ := q₁
        rw [show f = .next from e] at k
        exact k (wpAny_mono (IS m sc r q ρ₁ ρ' fl env Wb X' W' A s₁ E h2 he S' hfl) (fun f s₂ q₂ => q₂.after g kp S.xw) fun _ _ e => e)
      · refine wpAny_execs_cons (wpAny_mono (IO m sc st p ρ ρ' fl env Wb X W A s E h1 h3 S hfl) (fun f s₁ q₁ => ?_) fun _ _ e => e)
        cases fl with
        | next => exact absurd rfl hn
        | brk => rw [show f = .brk from q₁.1]; exact ⟨rfl, q₁.2⟩
        | ret d => obtain ⟨⟨v, rfl, r⟩, q⟩ := q₁; exact ⟨⟨v, rfl, r⟩, q⟩
        | raise _ _ => exact q₁.1.elim

theorem arm_aug (G : Gl prog w C F B mg kF) {x : Str} {px pos : Pos} {op : Operator} {value : Expr} {i : Nat} {p : PE} {u v d : D} (ht : cTgt C sc x = some i) (hl : ρ.lookup i = some u) (hc : cE C m sc value = some p) (he : evE F N ρ p = some v) (ha : augD op u v = some d)
    (S : Sx prog w C B mg kF Wb X W env sc ρ A s) : wpAny (model prog w) A (exec (.AugAssign (.Name x px) op value pos) env) (SP prog w C B mg kF Wb X W env sc A s .next (upd ρ i d)) E s := by
  obtain ⟨t1, t2, t3, t4⟩ := cTgt_some ht
  have ld : ∀ Q : Value → Shared → Prop, (∀ v, RepO prog w C W s.heap i u v → Q v s) → wpAny (model prog w) A (loadName env x) Q E s := fun Q hQ => by
    rcases tgt_kind S.hy.mt t4 with hk | hk
    · obtain ⟨m, a, b⟩ := S.hy.ke.ns
      obtain ⟨v, q1, q2⟩ := b x i u t1 hk hl
      exact wpAny_loadName_local S.hy.ke.kf hk a q1 (hQ v q2)
    · obtain ⟨c, v, q1, q2, q3⟩ := S.hy.ke.cl x i u t1 (by rw [hk]; rfl) hl
      exact wpAny_loadName_cell S.hy.ke.kf hk q1 q2 (hQ v q3)
  refine wpAny_AugAssign_Name (ld _ fun old ro => ?_)
  refine wpAny_mono ((snd_all (prog := prog) (w := w) G N).1 m sc value p ρ v env W A s E hc he S.hy) (fun nv s₁ q₁ => ?_) fun _ _ e => e
  refine wpAny_mono (augD_sound (W := W) ha (ro.1.keep q₁.1.keep) q₁.2.1) (fun r s₂ q₂ => ?_) fun _ _ e => e
  have k := q₁.1.trans q₂.1
  exact (S.kp k).put ht q₂.2 fun s' k' S' => ⟨rfl, X, W, Grown.refl _ _ _, k.toB.trans k', S'⟩

theorem arm_retE (G : Gl prog w C F B mg kF) {e : Expr} {pos : Pos} {p : PE} {d : D} (hc : cE C m sc e = some p) (he : evE F N ρ p = some d) (S : Sx prog w C B mg kF Wb X W env sc ρ A s) :
    wpAny (model prog w) A (exec (.Return (some e) pos) env) (SP prog w C B mg kF Wb X W env sc A s (.ret d) ρ) E s := by
  refine wpAny_Return_some (wpAny_mono ((snd_all (prog := prog) (w := w) G N).1 m sc e p ρ d env W A s E hc he S.hy) (fun v s₁ q => ?_) fun _ _ e => e)
  exact ⟨⟨v, rfl, q.2.1.less S.bw, fun a e h => q.2.2 a e (S.bw a h)⟩, X, W, Grown.refl _ _ _, q.1.toB, S.kp q.1⟩
theorem arm_retO {x : Str} {px pos : Pos} {i : Nat} {d : D} (hx : cOwn C sc x = some i) (hl : ρ.lookup i = some d) (S : Sx prog w C B mg kF Wb X W env sc ρ A s) :
    wpAny (model prog w) A (exec (.Return (some (.Name x px)) pos) env) (SP prog w C B mg kF Wb X W env sc A s (.ret d) ρ) E s := by
  obtain ⟨a, o⟩ := S.ownAt hx hl
  refine wpAny_Return_some (o.name S (cOwn_some hx).2.2.2.2 ⟨⟨_, rfl, o.r.less S.bw, fun b e h => ?_⟩, X, W, Grown.refl _ _ _, KpB.refl _ _, S⟩)
  cases e; exact o.hB h

theorem ret_o {P : Prop} {e : Expr} {p : PS} (fE : Expr → Option PE) (h : cRet C fE sc e = some p) (k1 : ∀ x px i, e = .Name x px → cOwn C sc x = some i → some (PS.retO i) = some p → P) (k2 : ∀ q, fE e = some q → some (PS.ret q) = some p → P) : P := by
  unfold cRet at h
  cases hx : (nameO e).bind (cOwn C sc) with
  | none => rw [hx] at h; exact ob h k2
  | some i => rw [hx] at h; exact ob hx fun x h1 h2 => nameO_o h1 fun px e => k1 x px i e h2 h
theorem arm_ret (G : Gl prog w C F B mg kF) {e : Expr} {pos : Pos} {p : PS} {fl : Fl} {ρ' : Rho} (hc : cRet C (cE C m sc) sc e = some p) (he : exO F N (n + 1) ρ p = some (fl, ρ')) (S : Sx prog w C B mg kF Wb X W env sc ρ A s) :
    wpAny (model prog w) A (exec (.Return (some e) pos) env) (SP prog w C B mg kF Wb X W env sc A s fl ρ') E s := by
  refine ret_o _ hc (fun x px i e hx hc => sm hc he fun he => ob he fun d hl he => ?_) fun q hq hc => sm hc he fun he => ob he fun d h he => ?_
  · subst e
    obtain ⟨rfl, rfl⟩ := Prod.mk.inj (sj he)
    exact arm_retO hx hl S
  · obtain ⟨rfl, rfl⟩ := Prod.mk.inj (sj he)
    exact arm_retE G hq h S

section
variable (G : Gl prog w C F B mg kF) (one : ∀ i j, C.O.contains i = true → C.O.contains j = true → j = i) {p : PS} {fl : Fl} {ρ' : Rho} {pos : Pos}
/-- the statement's look and its run are told of one another -/
noncomputable def ArmOk (prog : Program) (w : World) (C : Cx) (F : Nat → List D → Option D) (N : Nat) (B : Heap) (mg : Str → Option Value) (kF n : Nat) (sc : Scope) (st : Stmt) (p : PS) : Prop :=
  ∀ (ρ ρ' : Rho) (fl : Fl) (env : Env) (Wb X W : Addr → Prop) (A : Around) (s : Shared) (E : Value → Shared → Prop), exO F N (n + 1) ρ p = some (fl, ρ') → Sx prog w C B mg kF Wb X W env sc ρ A s → (∀ c d, fl ≠ .raise c d) →
    wpAny (model prog w) A (exec st env) (SP prog w C B mg kF Wb X W env sc A s fl ρ') E s
theorem nx {st : Stmt} {r : Rho} (he : some (Fl.next, r) = some (fl, ρ')) (h : wpAny (model prog w) A (exec st env) (SP prog w C B mg kF Wb X W env sc A s .next r) E s) : wpAny (model prog w) A (exec st env) (SP prog w C B mg kF Wb X W env sc A s fl ρ') E s := by
  obtain ⟨rfl, rfl⟩ := Prod.mk.inj (sj he); exact h
include G in
theorem ok_new {x : Str} {px : Pos} {value : Expr} {i : Nat} (one : ∀ j, C.O.contains j = true → j = i) (hx : cOwn C sc x = some i) (hc : cNew C (cE C m sc) i value = some p) : ArmOk prog w C F N B mg kF n sc (.Assign [.Name x px] value pos) p := by
  intro ρ ρ' fl env Wb X W A s E he S _
  unfold cNew at hc
  cases hd : dictO value with
  | none => rw [hd] at hc; exact ob hc fun q h1 hc => gdo hc fun hn hc => sm hc he fun he => ob he fun d h2 he => nx he (arm_new G one hx h1 hn h2 S)
  | some q =>
    rw [hd] at hc
    refine ob hc fun kvs h1 hc => gdo hc fun hn hc => sm hc he fun he => and_o hn fun hpl hlen => ?_
    obtain ⟨dp, e⟩ : ∃ dp, value = .Dict q.1 q.2 dp := by
      cases value with
      | Dict ks vs dp => exact ⟨dp, by rw [← sj hd]⟩
      | _ => exact dead hd
    subst e
    exact nx he (arm_dnew G one hx h1 (not_o hpl) (dec_o hlen) S)
include G one in
theorem ok_asg1 {x : Str} {px : Pos} {value : Expr} (hc : cAsg1 C (cE C m sc) sc x value = some p) : ArmOk prog w C F N B mg kF n sc (.Assign [.Name x px] value pos) p := by
  unfold cAsg1 at hc
  cases ht : cTgt C sc x with
  | some i => rw [ht] at hc; exact fun ρ ρ' fl env Wb X W A s E he S _ => ob hc fun q h1 hc => sm hc he fun he => ob he fun d h2 he => nx he (arm_set G ht h1 h2 S)
  | none => rw [ht] at hc; exact ob hc fun i hx hc => ok_new G (fun j hj => one _ _ (cOwn_some hx).2.2.1 hj) hx hc
theorem tupleO_o {P : Prop} {e : Expr} {es : List Expr} (h : tupleO e = some es) (k : ∀ k pos, e = .Tuple es k pos → P) : P := by
  cases e with
  | Tuple _ k' pos => exact k k' pos (by rw [sj h])
  | _ => exact dead h
include G one in
theorem ok_asgT {t value : Expr} (hc : cAsgT C (cE C m sc) sc value t = some p) : ArmOk prog w C F N B mg kF n sc (.Assign [t] value pos) p := by
  cases t with
  | Name x px => exact ok_asg1 G one hc
  | Tuple es k tp =>
    intro ρ ρ' fl env Wb X W A s E he S _
    refine ob hc fun q hq hc => ob hc fun l hl hc => ob hc fun r hr hc => ob hc fun x hx hc => ob hc fun y hy hc => ob hc fun i hi hc => ob hc fun j hj hc => gdo hc fun hn hc => ob hc fun a ha hc => ob hc fun b hb hc => sm hc he fun he => ob he fun d hd he => ob he fun d' hd' he => nx he ?_
    refine and_o hn fun hij hpp => two_o hq fun e1 => two_o hr fun e2 => tupleO_o hl fun k' vp e3 => nameO_o hx fun px e4 => nameO_o hy fun py e5 => ?_
    rw [e4, e5] at e1
    rw [e2] at e3
    subst e1 e3
    exact arm_pair G hi hj (beq_eq_false_iff_ne.mp (not_o hij)) ha hb hpp hd hd' S
  | Subscript t i sp =>
    intro ρ ρ' fl env Wb X W A s E he S _
    refine ob hc fun x hx hc => ob hc fun o ho hc => gdo hc fun hn hc => ob hc fun k hk hc => ob hc fun q hq hc => sm hc he fun he => ob he fun d hd he => ob he fun kd hkd he => ob he fun ds hds he => gdo he fun hkk he => nx he ?_
    refine and_o hn fun hn hpl => and_o hn fun _ hv => ob hkd fun kd' e1 hkd => ob hds fun ld e2 hds => nameO_o hx fun px e3 => ?_
    obtain rfl : ld = .list ds := by
      cases ld with
      | list _ => rw [sj hds]
      | _ => exact dead hds
    subst e3
    exact arm_setI G (fun j hj => one _ _ (cOwn_some ho).2.2.1 hj) ho hk hq hv (not_o hpl) hd e1 hkd e2 (dec_o hkk) S
  | _ => exact dead hc
include G one in
theorem ok_asg {value : Expr} : ∀ {ts : List Expr}, cAsg C (cE C m sc) sc value ts = some p → ArmOk prog w C F N B mg kF n sc (.Assign ts value pos) p
  | [t], hc => ok_asgT G one hc
  | [t, u], hc => fun ρ ρ' fl env Wb X W A s E he S _ => ob hc fun x hx hc => ob hc fun y hy hc => ob hc fun i hi hc => ob hc fun j hj hc => ob hc fun q hq hc => sm hc he fun he => ob he fun d hd he => nx he (nameO_o hx fun px e1 => nameO_o hy fun py e2 => by
      subst e1 e2
      exact arm_set2 G hi hj hq hd S)
  | [], hc => dead hc
  | _ :: _ :: _ :: _, hc => dead hc
theorem isAdd_o {op : Operator} (h : isAdd op = true) : op = .Add := by
  cases op with
  | Add => rfl
  | _ => exact ff h
theorem asList_o {d : D} {ds : List D} (h : asList d = some ds) : d = .list ds := by
  cases d with
  | list _ => rw [sj h]
  | _ => exact dead h
theorem asDict_o {d : D} {ds : List (D × D)} (h : asDict d = some ds) : d = .dict ds := by
  cases d with
  | dict _ => rw [sj h]
  | _ => exact dead h
include G one in
theorem ok_aug1 {x : Str} {px : Pos} {op : Operator} {value : Expr} (hc : cAug1 C (cE C m sc) sc x op value = some p) : ArmOk prog w C F N B mg kF n sc (.AugAssign (.Name x px) op value pos) p := by
  intro ρ ρ' fl env Wb X W A s E he S _
  unfold cAug1 at hc
  cases ht : cTgt C sc x with
  | some i => rw [ht] at hc; exact ob hc fun q h1 hc => sm hc he fun he => ob he fun u h2 he => ob he fun v h3 he => ob he fun d h4 he => nx he (arm_aug G ht h2 h1 h3 h4 S)
  | none =>
    rw [ht] at hc
    refine ob hc fun i hx hc => gdo hc fun hn hc => ob hc fun q hq hc => sm hc he fun he => ob he fun ds' hds' he => ob he fun ds hds he => gdo he fun hk he => nx he ?_
    refine and_o hn fun hop hpl => ob hds' fun d hd hds' => ob hds fun ld hl hds => ?_
    rw [isAdd_o hop]
    exact arm_extL G (fun j hj => one _ _ (cOwn_some hx).2.2.1 hj) hx hq (not_o hpl) hd hds' (asList_o hds ▸ hl) (dec_o hk) S
include G one in
theorem ok_aug {t : Expr} {op : Operator} {value : Expr} (hc : cAug C (cE C m sc) sc op value t = some p) : ArmOk prog w C F N B mg kF n sc (.AugAssign t op value pos) p := by
  cases t with
  | Name x px => exact ok_aug1 G one hc
  | Subscript t k sp =>
    intro ρ ρ' fl env Wb X W A s E he S _
    refine ob hc fun x hx hc => ob hc fun i hi hc => gdo hc fun hn hc => ob hc fun pk hk hc => ob hc fun q hq hc => sm hc he fun he => ob he fun key hkey he => ob he fun kvs hkv he => ob he fun u hu he => ob he fun v hv he => gdo he fun hz he => nx he ?_
    refine and_o hn fun hn hpl => and_o hn fun hop hns => ob hkey fun kd e1 hkey => ob hkv fun ld hl hkv => ob hu fun ud hg hu => ob hv fun vd e2 hv => nameO_o hx fun px e3 => ?_
    rw [isAdd_o hop, e3]
    exact arm_dAug G (fun j hj => one _ _ (cOwn_some hi).2.2.1 hj) hi hk hq hns (not_o hpl) e1 hkey (asDict_o hkv ▸ hl) hg hu e2 hv (dec_o hz) S
  | _ => exact dead hc
include G one in
theorem ok_appF {f : Expr} {args : List Expr} {epos : Pos} (hc : cAppF C (cE C m sc) sc args pos f = some p) : ArmOk prog w C F N B mg kF n sc (.Expr (.Call f args [] pos) epos) p := by
  cases f with
  | Attribute o a apos =>
    intro ρ ρ' fl env Wb X W A s E he S _
    refine ob hc fun x hx hc => ob hc fun e h1 hc => gdo hc fun hn hc => ob hc fun i hi hc => gdo hc fun hpl hc => ob hc fun q hq hc => sm hc he fun he => ob he fun d hd he => ob he fun ds hds he => gdo he fun hk he => nx he ?_
    refine and_o hn fun ha hline => ob hds fun ld hl hds => nameO_o hx fun px e1 => one1_o h1 fun e2 => ?_
    rw [e1, e2]
    exact arm_app G (fun j hj => one _ _ (cOwn_some hi).2.2.1 hj) (beq_iff_eq.mp ha) hline hi hq hpl hd (asList_o hds ▸ hl) (dec_o hk) S
  | _ => exact dead hc
include G one in
theorem ok_app {e : Expr} (hc : cApp C (cE C m sc) sc e = some p) : ArmOk prog w C F N B mg kF n sc (.Expr e pos) p := by
  cases e with
  | Call f args kws pos' =>
    refine gdo hc fun hk hc => ?_
    rw [List.isEmpty_iff.mp hk]
    exact ok_appF G one hc
  | _ => exact dead hc
include G in
theorem ok_for (IS : SndS prog w C F N B mg kF n) {t it : Expr} {b els : List Stmt} (hc : gd els.isEmpty ((nameO t).bind fun x => (rangeCall sc it).bind fun args => (cTgt C sc x).bind fun i => (mapO (cE C m sc) args).bind fun ps => (cSs C m sc b).bind fun q => some (PS.forR i ps q)) = some p) :
    ArmOk prog w C F N B mg kF n sc (.For t it b els pos) p := by
  intro ρ ρ' fl env Wb X W A s E he S _
  refine gdo hc fun hk hc => ob hc fun x hx hc => ob hc fun args ha hc => ob hc fun i hi hc => ob hc fun ps hps hc => ob hc fun q hq hc => sm hc he fun he => ob he fun ds h1 he => ob he fun ls h2 he => ?_
  refine nameO_o hx fun px e1 => rangeCall_o ha fun np pc e2 hg _ => ?_
  rw [List.isEmpty_iff.mp hk, e1, e2]
  exact arm_for G hg hi hps hq IS h1 h2 he S
theorem ok_if (IS : SndS prog w C F N B mg kF n) (G : Gl prog w C F B mg kF) {t : Expr} {a b : List Stmt} {pt : PE} {pa pb : List PS} (h1 : cE C m sc t = some pt) (h2 : cSs C m sc a = some pa) (h3 : cSs C m sc b = some pb) : ArmOk prog w C F N B mg kF n sc (.If t a b pos) (.iff pt pa pb) := by
  intro ρ ρ' fl env Wb X W A s E he S hfl
  refine ob he fun v hv he => ?_
  refine wpAny_If (wpAny_mono ((snd_all (prog := prog) (w := w) G N).2.1 m sc t pt ρ v env W A s E h1 hv S.hy) (fun v' s₁ r => cps fun P k0 => ?_) fun _ _ e => e)
  rw [r.1] at k0
  cases v with
  | true => exact k0 (sp_mono r.2 S.xw (IS m sc a pa ρ ρ' fl env Wb X W A s₁ E h2 he (S.kp r.2) hfl))
  | false => exact k0 (sp_mono r.2 S.xw (IS m sc b pb ρ ρ' fl env Wb X W A s₁ E h3 he (S.kp r.2) hfl))
theorem raise_o {P : Prop} {fE : Expr → Option PE} {e : Option Expr} (h : e.bind (cRaise fE sc) = some p) (k : ∀ c e' pc pe q, e = some (.Call (.Name c pc) [e'] [] pe) → isGlobalName sc c = true → fE e' = some q → some (PS.raise c q) = some p → P) : P :=
  ob h fun e0 he h => ob h fun q hq h => gdo h fun hg h => ob h fun e' h1 h => ob h fun r hr h => callO_o hq fun pc pe e2 => one1_o h1 fun e3 => k q.1 e' pc pe r (by rw [he, e2, e3]) hg hr h
end

theorem stepO (G : Gl prog w C F B mg kF) (one : ∀ i j, C.O.contains i = true → C.O.contains j = true → j = i) (IS : ∀ k, k ≤ n → SndS prog w C F N B mg kF k) : SndO prog w C F N B mg kF (n + 1) := by
  intro m sc st p ρ ρ' fl env Wb X W A s E hc he S hfl
  cases m with
  | zero => exact dead hc
  | succ m =>
    refine cps fun P k => ?_
    have go : ArmOk prog w C F N B mg kF n sc st p → P := fun h => k (h ρ ρ' fl env Wb X W A s E he S hfl)
    cases st with
    | Assign ts value pos => exact flatR_o hc fun hc _ => go (ok_asg G one hc)
    | AugAssign t op value pos => exact flatR_o hc fun hc _ => go (ok_aug G one hc)
    | If t a b pos => exact ob hc fun pt h1 hc => ob hc fun pa h2 hc => ob hc fun pb h3 hc => go (sj hc ▸ ok_if (IS n (Nat.le_refl _)) G h1 h2 h3)
    | While t b els pos =>
      refine gdo hc fun hk hc => ob hc fun pt h1 hc => ob hc fun pb h2 hc => sm hc he fun he => k ?_
      rw [List.isEmpty_iff.mp hk]
      exact arm_whl G h1 h2 (fun k hk => IS k (Nat.le_of_lt_succ hk)) he S
    | For t it b els pos => exact go (ok_for G (IS n (Nat.le_refl _)) hc)
    | Return v pos => exact flatR_o hc fun hc _ => ob hc fun e hv hc => k (hv ▸ arm_ret G hc he S)
    | Break pos =>
      refine sm (show some PS.brk = some p from hc) he fun he => k ?_
      obtain ⟨rfl, rfl⟩ := Prod.mk.inj (sj he)
      exact wpAny_Break ⟨rfl, X, W, Grown.refl _ _ _, KpB.refl _ _, S⟩
    | Expr e pos => exact flatR_o hc fun hc _ => go (ok_app G one hc)
    | Raise e c pos => exact gdo hc fun _ hc => raise_o hc fun c e' pc pe q _ _ _ hc => sm hc he fun he => ob he fun d _ he => absurd (Prod.mk.inj (sj he)).1.symm (hfl c d)
    | _ => exact dead hc

theorem snd_st (G : Gl prog w C F B mg kF) (one : ∀ i j, C.O.contains i = true → C.O.contains j = true → j = i) (N : Nat) : ∀ n, ∀ k, k ≤ n → SndS prog w C F N B mg kF k ∧ SndO prog w C F N B mg kF k
  | 0 => fun k hk => by
    have : k = 0 := Nat.le_zero.mp hk
    subst this
    exact ⟨fun m sc ss ps ρ ρ' fl env Wb X W A s E hc he => dead he, fun m sc st p ρ ρ' fl env Wb X W A s E hc he => dead he⟩
  | n + 1 => fun k hk => by
    have ih := snd_st G one N n
    rcases Nat.lt_or_ge k (n + 1) with h | h
    · exact ih k (Nat.le_of_lt_succ h)
    · have : k = n + 1 := Nat.le_antisymm hk h
      subst this
      have a := ih n (Nat.le_refl _)
      exact ⟨stepS a.2 a.1, stepO G one fun k hk => (ih k hk).1⟩
end
end Ev
namespace Ev
open PySem PySem.Calls PyProof.Rows

noncomputable def rhoP (names : List Str) : List Str → List D → Rho
  | p :: ps, d :: ds => match idx names p with
    | some i => (i, d) :: rhoP names ps ds
    | none => rhoP names ps ds
  | _, _ => []

theorem bindL_other {kd : Str → Option NameKind} {x : Str} : ∀ {l : List (Str × Value)} {m : Str → Option Value}, x ∉ l.map (·.1) → bindL kd l m x = m x
  | [], _, _ => rfl
  | (n, v) :: r, m, h => by
    simp only [List.map_cons, List.mem_cons, not_or] at h
    unfold bindL
    rw [bindL_other h.2]
    split
    · simp only [if_neg h.1]
    · rfl
theorem bindC_other {kd : Str → Option NameKind} {x : Str} : ∀ {l : List (Str × Value)} {m : Str → Option Value}, x ∉ l.map (·.1) → bindC kd l m x = m x
  | [], _, _ => rfl
  | (n, v) :: r, m, h => by
    simp only [List.map_cons, List.mem_cons, not_or] at h
    unfold bindC
    rw [bindC_other h.2]
    split
    · rfl
    · simp only [if_neg h.1]

section
variable [Base] {prog : Program} {w : World} {C : Cx} {F : Nat → List D → Option D} {B : Heap} {mg : Str → Option Value} {kF : Nat}
  {sc : Scope} {ρ : Rho} {env : Env} {Wb X W : Addr → Prop} {A : Around} {s : Shared} {E : Value → Shared → Prop} {n m N : Nat}

omit [Base] in
theorem look_ne {i j : Nat} {d : D} (h : j ≠ i) : ((i, d) :: ρ).lookup j = ρ.lookup j := by
  rw [List.lookup_cons]
  have hb : (j == i) = false := by simpa using h
  rw [hb]
theorem zip_keys : ∀ {ps : List Str} {vs : List Value}, ps.length = vs.length → (ps.zip vs).map (·.1) = ps
  | [], [], _ => rfl
  | p :: ps, v :: vs, h => by simp [zip_keys (Nat.succ.inj h)]

theorem bindL_rho {kd : Str → Option NameKind} {h : Heap} : ∀ {ps : List Str} {ds : List D} {vs : List Value} {m : Str → Option Value}, ps.Nodup → Reps prog w W h ds vs → ps.length = ds.length →
    ∀ x i d, idx C.names x = some i → kd x = some .local → (rhoP C.names ps ds).lookup i = some d → ∃ v, bindL kd (ps.zip vs) m x = some v ∧ Rep prog w W h d v
  | [], [], vs, m, _, r, _, x, i, d, h1, h2, h3 => by simp [rhoP] at h3
  | p :: ps, d0 :: ds, vs, m, nd, r, hl, x, i, d, h1, h2, h3 => by
    simp only [Reps] at r
    obtain ⟨v, vs', rfl, r1, r2, r3⟩ := r
    have hl' : ps.length = ds.length := Nat.succ.inj hl
    have nd' := (List.nodup_cons.mp nd)
    have hk : (ps.zip vs').map (·.1) = ps := zip_keys (by rw [r3.length]; exact hl')
    simp only [List.zip_cons_cons]
    unfold bindL
    by_cases hx : x = p
    · subst hx
      rw [bindL_other (by rw [hk]; exact nd'.1)]
      rw [if_pos h2]
      simp only [rhoP, h1, List.lookup_cons, beq_self_eq_true, Option.some.injEq] at h3
      subst h3
      exact ⟨v, by simp, r1, r2⟩
    · refine bindL_rho nd'.2 r3 hl' x i d h1 h2 ?_
      simp only [rhoP] at h3
      cases hp : idx C.names p with
      | none => rw [hp] at h3; exact h3
      | some j =>
        rw [hp] at h3
        have hji : i ≠ j := fun q => hx (idx_inj (q ▸ h1) hp)
        rw [look_ne hji] at h3
        exact h3
  | [], _ :: _, _, _, _, _, hl, _, _, _, _, _, _ => by simp at hl
  | _ :: _, [], _, _, _, _, hl, _, _, _, _, _, _ => by simp at hl
theorem bindC_rho {kd : Str → Option NameKind} {h : Heap} : ∀ {ps : List Str} {ds : List D} {vs : List Value} {m : Str → Option Value}, ps.Nodup → Reps prog w W h ds vs → ps.length = ds.length →
    ∀ x i d, idx C.names x = some i → kd x ≠ some .local → (rhoP C.names ps ds).lookup i = some d → ∃ v, bindC kd (ps.zip vs) m x = some v ∧ Rep prog w W h d v
  | [], [], vs, m, _, r, _, x, i, d, h1, h2, h3 => by simp [rhoP] at h3
  | p :: ps, d0 :: ds, vs, m, nd, r, hl, x, i, d, h1, h2, h3 => by
    simp only [Reps] at r
    obtain ⟨v, vs', rfl, r1, r2, r3⟩ := r
    have hl' : ps.length = ds.length := Nat.succ.inj hl
    have nd' := (List.nodup_cons.mp nd)
    have hk : (ps.zip vs').map (·.1) = ps := zip_keys (by rw [r3.length]; exact hl')
    simp only [List.zip_cons_cons]
    unfold bindC
    by_cases hx : x = p
    · subst hx
      rw [bindC_other (by rw [hk]; exact nd'.1)]
      rw [if_neg h2]
      simp only [rhoP, h1, List.lookup_cons, beq_self_eq_true, Option.some.injEq] at h3
      subst h3
      exact ⟨v, by simp, r1, r2⟩
    · refine bindC_rho nd'.2 r3 hl' x i d h1 h2 ?_
      simp only [rhoP] at h3
      cases hp : idx C.names p with
      | none => rw [hp] at h3; exact h3
      | some j =>
        rw [hp] at h3
        have hji : i ≠ j := fun q => hx (idx_inj (q ▸ h1) hp)
        rw [look_ne hji] at h3
        exact h3
  | [], _ :: _, _, _, _, _, hl, _, _, _, _, _, _ => by simp at hl
  | _ :: _, [], _, _, _, _, hl, _, _, _, _, _, _ => by simp at hl

theorem rhoP_key {names : List Str} : ∀ {ps : List Str} {ds : List D} {i : Nat} {d : D}, (rhoP names ps ds).lookup i = some d → ∃ p ∈ ps, idx names p = some i
  | [], _, i, d, h => by simp [rhoP] at h
  | p :: ps, [], i, d, h => by simp [rhoP] at h
  | p :: ps, d0 :: ds, i, d, h => by
    simp only [rhoP] at h
    cases hp : idx names p with
    | none =>
      rw [hp] at h
      obtain ⟨q, q1, q2⟩ := rhoP_key h
      exact ⟨q, .tail _ q1, q2⟩
    | some j =>
      rw [hp] at h
      by_cases hij : i = j
      · exact ⟨p, .head _, hij ▸ hp⟩
      · rw [look_ne hij] at h
        obtain ⟨q, q1, q2⟩ := rhoP_key h
        exact ⟨q, .tail _ q1, q2⟩
theorem lookup_app {l r : Rho} {i : Nat} : (l ++ r).lookup i = match l.lookup i with | some d => some d | none => r.lookup i := by
  induction l with
  | nil => rfl
  | cons p l ih =>
    obtain ⟨j, d⟩ := p
    simp only [List.cons_append, List.lookup_cons]
    cases i == j <;> simp [ih]

theorem cellsFrom_name : ∀ {names : List (Str × NameKind)} {k : Nat} {acc : List (Str × Addr)} {x : Str} {c : Addr}, (cellsFrom k names acc).lookup x = some c → (∃ y ∈ names, y = (x, NameKind.cell)) ∨ acc.lookup x = some c
  | [], k, acc, x, c, h => .inr h
  | (name, kind) :: r, k, acc, x, c, h => by
    unfold cellsFrom at h
    split at h
    · rename_i hk
      rcases cellsFrom_name h with ⟨y, hy, e⟩ | q
      · exact .inl ⟨y, .tail _ hy, e⟩
      · rw [List.lookup_cons] at q
        cases hb : x == name with
        | true =>
          have hxn : x = name := by simpa using hb
          have hkc : kind = .cell := by simpa using hk
          exact .inl ⟨_, .head _, by rw [hxn, hkc]⟩
        | false => rw [hb] at q; exact .inr q
    · rcases cellsFrom_name h with ⟨y, hy, e⟩ | q
      · exact .inl ⟨y, .tail _ hy, e⟩
      · exact .inr q
theorem cellsFrom_has : ∀ {names : List (Str × NameKind)} {k : Nat} {acc : List (Str × Addr)} {x : Str}, ((x, NameKind.cell) ∈ names ∨ (acc.lookup x).isSome = true) → ((cellsFrom k names acc).lookup x).isSome = true
  | [], k, acc, x, h => by
    rcases h with h | h
    · cases h
    · exact h
  | (name, kind) :: r, k, acc, x, h => by
    unfold cellsFrom
    split
    · rename_i hk
      refine cellsFrom_has ?_
      rcases h with h | h
      · cases h with
        | head => exact .inr (by simp [List.lookup_cons])
        | tail _ h => exact .inl h
      · refine .inr ?_
        rw [List.lookup_cons]
        cases hb : x == name
        · exact h
        · rfl
    · rename_i hk
      refine cellsFrom_has ?_
      rcases h with h | h
      · cases h with
        | head => exact absurd rfl hk
        | tail _ h => exact .inl h
      · exact .inr h

/-- a def's facts, all by looking at it -/
structure DefOk0 (C : Cx) (fd : FuncData) (params : List Str) (stmts : List Stmt) : Prop where
  body : fd.body = .stmts stmts
  clo : fd.closure = []
  gl : fd.globals = mainGlobals
  bl : fd.builtins = builtinsNs
  kind : fd.scope.kind = .function
  co : fd.scope.isCoroutine = false
  gen : fd.scope.isGenerator = false
  bind : ∀ vals : List Value, vals.length = params.length → bindArgs fd ⟨vals, []⟩ = pure (params.zip vals)
  nd : params.Nodup
  par : ∀ p ∈ params, fd.scope.names.lookup p = some .local ∨ (fd.scope.names.lookup p = some .cell ∧ (p, NameKind.cell) ∈ fd.scope.names)
  own : ∀ p ∈ params, ∀ i, idx C.names p = some i → C.O.contains i = false ∧ C.gl.contains i = false
  cel : ∀ x, isCell (fd.scope.names.lookup x) = true → fd.scope.names.lookup x = some .cell ∧ (x, NameKind.cell) ∈ fd.scope.names
  glo : ∀ x i, (fd.scope.names.lookup x = some .local ∨ fd.scope.names.lookup x = some .cell) → idx C.names x = some i → C.gl.contains i = false
  one : ∀ i j, C.O.contains i = true → C.O.contains j = true → j = i
  ogl : ∀ i, C.O.contains i = true → C.gl.contains i = false
structure DefOk (C : Cx) (fd : FuncData) (params : List Str) (stmts : List Stmt) (ps : List PS) (m : Nat) : Prop extends DefOk0 C fd params stmts where
  comp : cSs C m fd.scope stmts = some ps

/-- the data of the module -/
structure GlData (prog : Program) (w : World) (C : Cx) (B : Heap) (mg : Str → Option Value) (gρ : Rho) : Prop where
  keys : ∀ i d, gρ.lookup i = some d → C.gl.contains i = true
  val : ∀ x i d, idx C.names x = some i → gρ.lookup i = some d → ∃ v, mg x = some v ∧ Rep prog w (fun _ => False) B d v

theorem rep_B {d : D} {v : Value} {W : Addr → Prop} {h : Heap} (r : Rep prog w (fun _ => False) B d v) (hb : ∀ a, W a → B.get? a = none) (k : KE B h) : Rep prog w W h d v := by
  have r' : Rep prog w W B d v := r.more fun a ha => .inr (hb a ha)
  exact r'.keep (KH.exact k)

theorem entry {fd : FuncData} {params : List Str} {body : List Stmt} {gρ : Rho} (DO : DefOk0 C fd params body) (GD : GlData prog w C B mg gρ) {ds : List D} {vs : List Value} {a : Addr} {s₁ : Shared} (hok : AOk A (kF + 1)) (kb : KE B s.heap) (eb : B = Base.heap) (wk : Wok W s.heap) (wb : ∀ a, W a → B.get? a = none)
    (r : Reps prog w W s.heap ds vs) (hl : params.length = ds.length) (hfr : C.exc = true → FrOk (A.deeper (callEnvC fd s.heap.objs.size a)) s₁.heap)
    (x : InCallC s (callEnvC fd s.heap.objs.size a).locals (bindL (callEnvC fd s.heap.objs.size a).kindOf (params.zip vs) fun _ => none) (callEnvC fd s.heap.objs.size a).cells (bindC (callEnvC fd s.heap.objs.size a).kindOf (params.zip vs) fun _ => none) s₁) :
    ∃ X W', (∀ b, X b → s.heap.get? b = none) ∧ (∀ b, W' b → W b ∨ s.heap.get? b = none) ∧ (∀ b, W b → W' b) ∧ Sx prog w C B mg kF W X W' (callEnvC fd s.heap.objs.size a) fd.scope (rhoP C.names params ds ++ gρ) (A.deeper (callEnvC fd s.heap.objs.size a)) s₁ ∧ Kp s s₁ := by
  have hkind : ∀ y, (callEnvC fd s.heap.objs.size a).kindOf y = fd.scope.names.lookup y := fun y => rfl
  have hL : (callEnvC fd s.heap.objs.size a).locals = s.heap.objs.size := rfl
  have none_of : ∀ b, s.heap.objs.size ≤ b → s.heap.get? b = none := fun b hb => by
    cases e : s.heap.get? b with
    | none => rfl
    | some o => exact absurd (Heap.lt_size e) (Nat.not_lt.mpr hb)
  have hX : ∀ b, (b = s.heap.objs.size ∨ ∃ y, (callEnvC fd s.heap.objs.size a).cells.lookup y = some b) → s.heap.get? b = none := fun b hb => by
    rcases hb with rfl | ⟨y, hy⟩
    · exact none_of _ (Nat.le_refl _)
    · exact none_of _ (Nat.le_of_lt (x.above y b (mem_of_lookup hy)))
  have hW' : ∀ b, (W b ∨ (b = s.heap.objs.size ∨ ∃ y, (callEnvC fd s.heap.objs.size a).cells.lookup y = some b)) → W b ∨ s.heap.get? b = none := fun b hb => hb.imp id (hX b)
  have kp : Kp s s₁ := ⟨x.toInCall.same, KH.exact x.toInCall.keep⟩
  have hBn : ∀ b, s.heap.get? b = none → B.get? b = none := fun b hb => by
    cases e : B.get? b with
    | none => rfl
    | some o => rw [kb _ _ e] at hb; cases hb
  have up : ∀ {d : D} {v : Value}, Rep prog w W s.heap d v → Rep prog w (fun b => W b ∨ (b = s.heap.objs.size ∨ ∃ y, (callEnvC fd s.heap.objs.size a).cells.lookup y = some b)) s₁.heap d v := fun q => (q.more hW').keep kp.keep
  have cellOf : ∀ y, isCell ((callEnvC fd s.heap.objs.size a).kindOf y) = true → ∃ c, (callEnvC fd s.heap.objs.size a).cells.lookup y = some c := fun y hy => by
    obtain ⟨_, q⟩ := DO.cel y hy
    exact Option.isSome_iff_exists.mp (cellsFrom_has (.inl q))
  have notLoc : ∀ y, isCell ((callEnvC fd s.heap.objs.size a).kindOf y) = true → (callEnvC fd s.heap.objs.size a).kindOf y ≠ some .local := fun y hy q => by rw [q] at hy; cases hy
  refine ⟨fun b => b = s.heap.objs.size ∨ ∃ y, (callEnvC fd s.heap.objs.size a).cells.lookup y = some b, _, hX, hW', fun b hb => .inl hb, ⟨⟨⟨DO.kind, DO.gl, DO.bl, ⟨_, x.toInCall.ns, fun y j d h1 h2 h3 => ?_⟩, fun y j d h1 h2 h3 => ?_, fun y hy => ?_, fun y j d h1 h2 h3 => ?_⟩, fun y => .inl (hkind y), hok.deeper, fun b hb => ?_, fun b hb => ?_, kb.on eb kp.keep, eb, hfr⟩, .inl rfl, fun y c h1 h2 => ?_, fun y z c h1 h2 => name_of_addr x.apart (mem_of_lookup h1) (mem_of_lookup h2), fun b hb => .inr hb, fun b hb => .inl hb, fun y j d h1 h2 h3 => ?_⟩, kp⟩
  · rw [lookup_app] at h3
    cases e : (rhoP C.names params ds).lookup j with
    | some d' =>
      rw [e] at h3; cases h3
      obtain ⟨v, q1, q2⟩ := bindL_rho (kd := (callEnvC fd s.heap.objs.size a).kindOf) (m := fun _ => none) DO.nd r hl y j d h1 h2 e
      exact ⟨v, q1, (up q2).1, fun _ => (up q2).2⟩
    | none =>
      rw [e] at h3
      have := DO.glo y j (.inl h2) h1
      rw [GD.keys j d h3] at this; cases this
  · rw [lookup_app] at h3
    obtain ⟨c, hc⟩ := cellOf y h2
    cases e : (rhoP C.names params ds).lookup j with
    | some d' =>
      rw [e] at h3; cases h3
      obtain ⟨v, q1, q2⟩ := bindC_rho (kd := (callEnvC fd s.heap.objs.size a).kindOf) (m := fun _ => none) DO.nd r hl y j d h1 (notLoc y h2) e
      exact ⟨c, v, hc, q1 ▸ x.cell y c hc, (up q2).1, fun _ => (up q2).2⟩
    | none =>
      rw [e] at h3
      have := DO.glo y j (.inr (DO.cel y h2).1) h1
      rw [GD.keys j d h3] at this; cases this
  · obtain ⟨c, hc⟩ := cellOf y hy
    obtain ⟨o, e, _⟩ := x.cell y c hc
    exact ⟨c, hc, o, e⟩
  · rw [lookup_app] at h3
    cases e : (rhoP C.names params ds).lookup j with
    | some d' =>
      obtain ⟨p, p1, p2⟩ := rhoP_key e
      rw [(DO.own p p1 j p2).2] at h2; cases h2
    | none =>
      rw [e] at h3
      obtain ⟨v, q1, q2⟩ := GD.val y j d h1 h3
      exact ⟨v, q1, rep_B q2 (fun b hb => (hW' b hb).elim (wb b) (hBn b)) (kb.on eb kp.keep)⟩
  · rcases hb with hb | rfl | ⟨y, hy⟩
    · exact (wk.mono kp.keep) b hb
    · obtain ⟨o, _, _, e, _⟩ := x.toInCall.ns; exact ⟨o, e⟩
    · obtain ⟨o, e, _⟩ := x.cell y b hy; exact ⟨o, e⟩
  · exact (hW' b hb).elim (wb b) (hBn b)
  · exact ⟨.inr ⟨y, h2⟩, Nat.ne_of_gt (x.above y c (mem_of_lookup h2)), _, x.cell y c h2⟩
  · rw [lookup_app] at h3
    cases e : (rhoP C.names params ds).lookup j with
    | some d' =>
      obtain ⟨p, p1, p2⟩ := rhoP_key e
      rw [(DO.own p p1 j p2).1] at h2; cases h2
    | none =>
      rw [e] at h3
      have := GD.keys j d h3
      rw [DO.ogl j h2] at this; cases this

/-- the call's frame, with its class -/
noncomputable def FrCls (h : Heap) (L : Addr) : Prop := ∃ o, h.get? L = some o ∧ o.cls = .type "frame"
omit [Base] in
theorem bindParamsF {M : Model} {A : Around} {E : Value → Shared → Prop} {s₀ : Shared} {env : Env} (f : Str × Value → PUnit → Sem (ForInStep PUnit)) (hf : ∀ n v u, f (n, v) u = (do storeName env n v; pure (.yield ⟨⟩))) (hk : env.scope.kind = .function) :
    ∀ (binds : List (Str × Value)) (m cm : Str → Option Value) (s : Shared) (Q : PUnit → Shared → Prop), InCallC s₀ env.locals m env.cells cm s → FrCls s.heap env.locals →
      (∀ x ∈ binds, env.kindOf x.1 = some .local ∨ (env.kindOf x.1 = some .cell ∧ (env.cells.lookup x.1).isSome = true)) →
      (∀ s', InCallC s₀ env.locals (bindL env.kindOf binds m) env.cells (bindC env.kindOf binds cm) s' → FrCls s'.heap env.locals → Q ⟨⟩ s') → wpAny M A (forIn binds ⟨⟩ f) Q E s
  | [], m, cm, s, Q, x, y, _, h => by rw [List.forIn_nil]; exact wpAny_pure (h s x y)
  | (n, v) :: r, m, cm, s, Q, x, y, hkind, h => by
    rw [List.forIn_cons, hf]
    have hr : ∀ y ∈ r, env.kindOf y.1 = some .local ∨ (env.kindOf y.1 = some .cell ∧ (env.cells.lookup y.1).isSome = true) := fun y hy => hkind y (List.mem_cons_of_mem _ hy)
    rcases hkind (n, v) List.mem_cons_self with hl | ⟨hl, hc⟩
    · refine wpAny_bind (wpAny_bind (storeLocal_cls hl x.toInCall.ns (fun h' hn' hs' hcl => wpAny_pure (bindParamsF f hf hk r _ cm _ Q ⟨⟨?_, hn', fun b o e => ?_, x.toInCall.fresh⟩, fun k c hc => ?_, x.apart, x.above⟩ ?_ hr fun s'' x'' y'' => h s'' ?_ y'')) (by rw [hk]; rfl)))
      · obtain ⟨h₁, tk, rfl⟩ := x.toInCall.same
        exact ⟨h', _, rfl⟩
      · exact hs'.extBut b o (Nat.ne_of_lt (Nat.lt_of_lt_of_le (Heap.lt_size e) x.toInCall.fresh)) (x.toInCall.keep b o e)
      · exact (x.cell k c hc).sameBut hs' (Nat.ne_of_gt (x.above k c (mem_of_lookup hc)))
      · obtain ⟨o, e, hc⟩ := y
        obtain ⟨o', e', hc'⟩ := hcl o e
        exact ⟨o', e', hc'.trans hc⟩
      · unfold bindL bindC; rw [if_pos hl, if_pos hl]; exact x''
    · obtain ⟨c, hc⟩ := Option.isSome_iff_exists.mp hc
      have hnl : ¬ env.kindOf n = some .local := by rw [hl]; decide
      have hLc := x.above n c (mem_of_lookup hc)
      refine wpAny_bind (wpAny_bind (wpAny_storeName_cell hk hl hc (x.cell n c hc) fun h' hc' hs' => wpAny_pure (bindParamsF f hf hk r _ (fun y => if y = n then some v else cm y) _ Q ⟨⟨?_, x.toInCall.ns.sameBut hs' (Nat.ne_of_lt hLc), fun b o e => ?_, x.toInCall.fresh⟩, fun k c' hk' => ?_, x.apart, x.above⟩ ?_ hr fun s'' x'' y'' => h s'' ?_ y'')))
      · obtain ⟨h₁, tk, rfl⟩ := x.toInCall.same
        exact ⟨h', _, rfl⟩
      · exact hs'.extBut b o (Nat.ne_of_lt (Nat.lt_trans (Nat.lt_of_lt_of_le (Heap.lt_size e) x.toInCall.fresh) hLc)) (x.toInCall.keep b o e)
      · by_cases hkn : k = n
        · subst hkn
          rw [hc] at hk'; cases hk'
          simpa using hc'
        · rw [if_neg hkn]
          exact (x.cell k c' hk').sameBut hs' fun e => hkn (name_of_addr x.apart (mem_of_lookup hk') (e ▸ mem_of_lookup hc))
      · obtain ⟨o, e, hc'⟩ := y
        exact ⟨o, hs'.extBut _ o (Nat.ne_of_lt hLc) e, hc'⟩
      · unfold bindL bindC; rw [if_neg hnl, if_neg hnl]; exact x''
omit [Base] in
theorem newFunctionEnvF {M : Model} {A : Around} {E : Value → Shared → Prop} {s : Shared} {scope : Scope} {globals : Addr} {binds : List (Str × Value)} {qual : Str} {func : Option Addr} {code : Value} {builtins : Addr} {Q : Env → Shared → Prop}
    (hk : scope.kind = .function)
    (hkind : ∀ x ∈ binds, scope.names.lookup x.1 = some .local ∨ (scope.names.lookup x.1 = some .cell ∧ ((cellsFrom (s.heap.objs.size + 1) scope.names []).lookup x.1).isSome = true))
    (hQ : ∀ env, env = newEnv scope s.heap.objs.size globals (cellsFrom (s.heap.objs.size + 1) scope.names []) qual func code none builtins →
      ∀ s', InCallC s env.locals (bindL env.kindOf binds fun _ => none) env.cells (bindC env.kindOf binds fun _ => none) s' → FrCls s'.heap env.locals → Q env s') :
    wpAny M A (newFunctionEnv scope globals [] binds qual func code none builtins) Q E s := by
  simp only [newFunctionEnv, Option.isSome_none, Bool.false_eq_true, if_false]
  refine wpAny_bind (wpAny_alloc ?_)
  refine wpAny_bind (wpAny_layCells _ (fun name kind cells => by cases hkc : kind == NameKind.cell <;> simp [hkc]) _ _ _ _ ?_)
  have ok := cellsFrom_ok scope.names (s.heap.push { cls := .type "frame", data := .dict #[] }) (s.heap.objs.size + 1) [] ⟨fun _ _ hm => (nomatch hm), List.Pairwise.nil⟩ (by rw [Heap.size_push]; exact Nat.le_refl _)
  rw [Heap.size_push] at ok
  rw [show ({ s with heap := s.heap.push { cls := .type "frame", data := .dict #[] } } : Shared).heap.objs.size = s.heap.objs.size + 1 from Heap.size_push ..]
  refine wpAny_bind (bindParamsF (s₀ := s) (env := newEnv scope s.heap.objs.size globals (cellsFrom (s.heap.objs.size + 1) scope.names []) qual func code none builtins)
    _ (fun _ _ _ => rfl) hk binds (fun _ => none) (fun _ => none) _ _
    ⟨⟨⟨_, _, rfl⟩, (Heap.Ns.new s.heap (.type "frame")).keeps (pushCells_keeps _ _), fun b o e => pushCells_keeps _ _ b o (Heap.get?_push_of_some _ e), Nat.le_refl _⟩,
      fun n c hc => (ok.empty n c (mem_of_lookup hc)).1, ok.apart, fun n c hm => (ok.empty n c hm).2⟩
    ⟨_, pushCells_keeps _ _ _ _ (Heap.get?_push_size _ rfl), rfl⟩ hkind fun s' x y => wpAny_pure (hQ _ rfl s' x y))
omit [Base] in
theorem codeAny_callF {R : Result → Shared → Prop} {a : Addr} {o : Obj} {fd : FuncData} {body : List Stmt} {vals : List Value} {binds : List (Str × Value)}
    (hroom : A.depth < recursionLimit) (ho : s.heap.get? a = some o) (hdata : o.data = .func fd) (hlim : s.heap.NoLimit) (hcd : s.heap.CodeRec fd.code fd.qualname)
    (hbody : fd.body = .stmts body) (hbind : bindArgs fd ⟨vals, []⟩ = pure binds) (hclo : fd.closure = [])
    (hkind : ∀ x ∈ binds, fd.scope.names.lookup x.1 = some .local ∨ (fd.scope.names.lookup x.1 = some .cell ∧ ((cellsFrom (s.heap.objs.size + 1) fd.scope.names []).lookup x.1).isSome = true))
    (h : ∀ s₁, InCallC s (callEnvC fd s.heap.objs.size a).locals (bindL (callEnvC fd s.heap.objs.size a).kindOf binds fun _ => none) (callEnvC fd s.heap.objs.size a).cells
        (bindC (callEnvC fd s.heap.objs.size a).kindOf binds fun _ => none) s₁ → FrCls s₁.heap (callEnvC fd s.heap.objs.size a).locals →
      wpAny (model prog w) (A.deeper (callEnvC fd s.heap.objs.size a)) (execs body (callEnvC fd s.heap.objs.size a)) (fun f s' => R (.ok (.ret (match f with | .ret v => v | _ => .none))) s')
        (fun e s' => wpAny (model prog w) (A.deeper (callEnvC fd s.heap.objs.size a)) (leaving (callEnvC fd s.heap.objs.size a) e) (fun _ s'' => R (.error e) s'') (fun e' s'' => R (.error e') s'') s') s₁)
    (hco : fd.scope.isCoroutine = false) (hgen : fd.scope.isGenerator = false) (hk : fd.scope.kind = .function) :
    codeAny (model prog w) A (.call (.ref a) ⟨vals, []⟩) R s := by
  refine codeAny_call_function hroom ho hdata hco hgen hbody hcd ?_
  rw [hbind, hclo]
  refine wpAny_pure (newFunctionEnvF hk hkind fun env he s' x y => ?_)
  subst he
  exact ⟨hlim.keeps x.toInCall.keep, codeAny_func (h s' x y)⟩
theorem FrOk.deeper {A : Around} {h h' : Heap} {env : Env} {L : Addr} {m : Str → Option Value} (x : FrOk A h) (k : KH h h') (hk : env.scope.kind ≠ .module) (hf : env.frame = some L) (hb : Base.heap.get? L = none) (hn : h'.Ns L m) (hc : FrCls h' L) : FrOk (A.deeper env) h' := by
  obtain ⟨l, hl, q⟩ := x.st
  have y := x.keep k
  refine ⟨⟨env :: l, Around.frames_deeper hl, fun e he => ?_⟩, fun b ⟨l', e, hl', he, hb'⟩ => ?_⟩
  · cases he with
    | head => exact ⟨hk, L, hf⟩
    | tail _ he => exact q e he
  · rw [Around.frames_deeper hl] at hl'
    cases hl'
    cases he with
    | head =>
      rw [hf] at hb'; cases hb'
      obtain ⟨o, es, ep, e1, e2, _⟩ := hn
      obtain ⟨o', e1', hc'⟩ := hc
      rw [e1] at e1'; cases e1'
      exact ⟨hb, o, es, ep, e1, hc', e2⟩
    | tail _ he => exact y.ob b ⟨l, e, hl, he, hb'⟩

theorem frIn {fd : FuncData} {a : Addr} {m cm : Str → Option Value} {s₁ : Shared} (eb : B = Base.heap) (kb : KE B s.heap) (x : InCallC s (callEnvC fd s.heap.objs.size a).locals m (callEnvC fd s.heap.objs.size a).cells cm s₁) (hfr : FrOk A s.heap)
    (hk : (callEnvC fd s.heap.objs.size a).scope.kind ≠ .module) (hcl : FrCls s₁.heap (callEnvC fd s.heap.objs.size a).locals) : FrOk (A.deeper (callEnvC fd s.heap.objs.size a)) s₁.heap := by
  refine hfr.deeper (KH.exact x.toInCall.keep) hk (L := (callEnvC fd s.heap.objs.size a).locals) rfl ?_ x.toInCall.ns hcl
  subst eb
  cases e : Base.heap.get? s.heap.objs.size with
  | none => exact e
  | some o => have := kb _ _ e; rw [get_size] at this; cases this
/-- what a call leaves -/
theorem post_of {d : D} {v : Value} {s₁ s₂ : Shared} (kp : Kp s s₁) (hX : ∀ b, X b → s.heap.get? b = none) (k : KpB X s₁ s₂) (r : Rep prog w W s₂.heap d v) : Post prog w W s d v s₂ := by
  refine ⟨?_, r⟩
  obtain ⟨h1, t1, e1⟩ := kp.same
  obtain ⟨h2, t2, e2⟩ := k.same
  refine ⟨⟨h2, t2, by rw [e2, e1]⟩, fun b o e => Kept.trans (kp.keep b o e) fun _ e' => k.keep b _ (fun q => ?_) e'⟩
  rw [hX b q] at e; cases e
noncomputable def valF : Flow → Value
  | .ret v => v
  | _ => .none
/-- a def's call: from its body -/
theorem call_in (G : Gl prog w C F B mg kF) {fd : FuncData} {params : List Str} {body : List Stmt} {gρ : Rho} (DO : DefOk0 C fd params body) (GD : GlData prog w C B mg gρ) {a : Addr} {o : Obj} (ho : B.get? a = some o) (hd : o.data = .func fd) (hcode : B.CodeRec fd.code fd.qualname)
    {ds : List D} {d : D} (hl : params.length = ds.length) {ex : Bool} (hexc : C.exc = true → ex = true)
    (K : ∀ (W X W' : Addr → Prop) (A : Around) (s s₁ : Shared) (E : Value → Shared → Prop), AOk A (kF + 1) → (ex = true → FrOk A s.heap) → (∀ b, X b → s.heap.get? b = none) → Kp s s₁ → Sx prog w C B mg kF W X W' (callEnvC fd s.heap.objs.size a) fd.scope (rhoP C.names params ds ++ gρ) (A.deeper (callEnvC fd s.heap.objs.size a)) s₁ →
      wpAny (model prog w) (A.deeper (callEnvC fd s.heap.objs.size a)) (execs body (callEnvC fd s.heap.objs.size a)) (fun f s' => Post prog w W s d (valF f) s') E s₁) : FnSpec prog w B (kF + 1) ex a ds d := by
  intro W A s vs E hok hfr kb wk wb r
  have hvl : vs.length = params.length := by rw [r.length]; exact hl.symm
  have hkind : ∀ p ∈ params.zip vs, fd.scope.names.lookup p.1 = some .local ∨ (fd.scope.names.lookup p.1 = some .cell ∧ ((cellsFrom (s.heap.objs.size + 1) fd.scope.names []).lookup p.1).isSome = true) := fun p hp => by
    have hp1 : p.1 ∈ params := by
      have := List.mem_map_of_mem (f := (·.1)) hp
      rwa [zip_keys hvl.symm] at this
    exact (DO.par p.1 hp1).imp id fun q => ⟨q.1, cellsFrom_has (.inl q.2)⟩
  have hfn : (callEnvC fd s.heap.objs.size a).scope.kind ≠ .module := by rw [show (callEnvC fd s.heap.objs.size a).scope.kind = .function from DO.kind]; simp
  refine wpAny_call (codeAny_callF hok.room (kb _ _ ho) hd (G.nl.keeps kb) (hcode.keeps kb) DO.body (DO.bind vs hvl) DO.clo hkind (fun s₁ x hcl => cps fun P k => ?_) DO.co DO.gen DO.kind)
  obtain ⟨X, W', hX, hW', hWW, S, kp⟩ := entry DO GD hok kb G.eb wk wb r hl (fun e => frIn G.eb kb x (hfr (hexc e)) hfn hcl) x
  exact k (K W X W' A s s₁ _ hok hfr hX kp S)
theorem call_sound (G : Gl prog w C F B mg kF) {fd : FuncData} {params : List Str} {body : List Stmt} {ps : List PS} {gρ : Rho} (DO : DefOk C fd params body ps m) (GD : GlData prog w C B mg gρ) {a : Addr} {o : Obj} (ho : B.get? a = some o) (hd : o.data = .func fd) (hcode : B.CodeRec fd.code fd.qualname)
    {ds : List D} {d : D} {ρ' : Rho} (hl : params.length = ds.length) {ex : Bool} (hexc : C.exc = true → ex = true) (he : exS F N n (rhoP C.names params ds ++ gρ) ps = some (.ret d, ρ')) : FnSpec prog w B (kF + 1) ex a ds d :=
  call_in G DO.toDefOk0 GD ho hd hcode hl hexc fun W X W' A s s₁ E _ _ hX kp S => wpAny_mono ((snd_st G DO.one N n n (Nat.le_refl _)).1 m fd.scope body ps _ ρ' (.ret d) _ W X W' _ s₁ _ DO.comp he S (fun _ _ e => nomatch e)) (fun f s₂ q => by
    obtain ⟨⟨v, e, rv⟩, X', W'', g, k, S'⟩ := q
    rw [e]
    exact post_of kp hX k rv) fun _ _ e => e
end
end Ev
namespace Ev
open PySem PySem.Calls PyProof.Rows
open Builtin Builtin.Str Builtin.BaseException Builtin.Exceptions

/-- Exception's own line -/
noncomputable def excMro : List Value := [.type "Exception", .type "BaseException", .type "object"]
set_option genSizeOf false in
set_option genInjectivity false in
/-- what a class's object bears -/
structure EcD where
  nm : Str
  q : Str
  N : Addr
  bs : List Value
  hdct : Bool
  sn : List Str
  sub : List Value
  ab : Bool
  col : Option Bool
  dd : Option Addr
  k0 : Option Value
  k1 : Option Value
  k2 : Option Value
  k3 : Option Value
  k5 : Option Value
noncomputable abbrev EcD.obj (z : EcD) (C : Addr) (own : List Addr) : Obj := excClassObj z.nm z.q C z.N z.bs (own.map Value.ref ++ excMro) z.hdct z.sn z.sub z.ab z.col z.dd z.k0 z.k1 z.k2 z.k3 z.k5 "Exception.__new__"
/-- a class of the text's own, below Exception; own: its own bases -/
structure ExcC (h : Heap) (C : Addr) (own : List Addr) : Prop where
  cls : ∃ (z : EcD) (mN : Str → Option Value), h.get? C = some (z.obj C own) ∧ h.Ns z.N mN ∧ mN "__init__" = none ∧ mN "__str__" = none
  tail : ∀ a ∈ own, ∃ c0 dd cd sl mA, h.get? a = some { cls := c0, dict := dd, data := .cls cd, slots := sl } ∧ h.Ns cd.ns mA ∧ mA "__init__" = none ∧ mA "__str__" = none
theorem ExcC.keeps {h h' : Heap} {C : Addr} {own : List Addr} (x : ExcC h C own) (k : ∀ b o, h.get? b = some o → h'.get? b = some o) : ExcC h' C own := by
  obtain ⟨⟨z, mN, h1, h2, h3, h4⟩, h5⟩ := x
  refine ⟨⟨z, mN, k _ _ h1, h2.keeps k, h3, h4⟩, fun a ha => ?_⟩
  obtain ⟨c0, dd, cd, sl, mA, e1, e2, e3⟩ := h5 a ha
  exact ⟨c0, dd, cd, sl, mA, k _ _ e1, e2.keeps k, e3⟩
theorem ExcC.ownTail {h : Heap} {C : Addr} {own : List Addr} (x : ExcC h C own) : OwnTail h excMro (own.map Value.ref ++ excMro) := by
  have t := x.tail
  clear x
  induction own with
  | nil => exact .base
  | cons a r ih =>
    obtain ⟨c0, dd, cd, sl, mA, e1, e2, e3, _⟩ := t a (.head _)
    exact .own e1 e2 e3 (ih fun b hb => t b (.tail _ hb))

section
variable {M : Model} {A : Around} {E : Value → Shared → Prop} {h : Heap} {g : Array GenState} {d : Drawn} {t : Nat} {os : OsState}

theorem strLook : typeLookup (.type "Exception") "__str__" = pure (some (.builtin "BaseException.__str__")) := by rw [typeLookup_type, builtinLookup_eq_fast]; kernel_rfl
theorem excMroIs : mroOf (.type "Exception") = pure excMro := by rw [mroOf_type]; kernel_rfl
theorem strAlong : lookupAlong excMro "__str__" = pure (some (.builtin "BaseException.__str__")) := by
  have e := strLook
  rw [typeLookup_eq, excMroIs] at e; exact e
theorem look_str {own : List Addr} (tl : ∀ a ∈ own, ∃ c0 dd cd sl mA, h.get? a = some { cls := c0, dict := dd, data := .cls cd, slots := sl } ∧ h.Ns cd.ns mA ∧ mA "__init__" = none ∧ mA "__str__" = none)
    {Q : Option Value → Shared → Prop} (hq : Q (some (.builtin "BaseException.__str__")) ⟨h, g, d, t, os⟩) : wpAny M A (lookupAlong (own.map Value.ref ++ excMro) "__str__") Q E ⟨h, g, d, t, os⟩ := by
  induction own with
  | nil => exact wpAny_of_eq strAlong hq
  | cons a r ih =>
    obtain ⟨c0, dd, cd, sl, mA, e1, e2, _, e3⟩ := tl a (.head _)
    show wpAny M A (lookupAlong (Value.ref a :: (r.map Value.ref ++ excMro)) "__str__") Q E ⟨h, g, d, t, os⟩
    rw [lookupAlong_cons]
    refine wpAny_bind (wpAny_classOwn_cls e1 e2 ?_)
    rw [e3]
    exact ih fun b hb => tl b (.tail _ hb)
theorem ExcC.typeLook {C : Addr} {own : List Addr} (x : ExcC h C own) {Q : Option Value → Shared → Prop} (hq : Q (some (.builtin "BaseException.__str__")) ⟨h, g, d, t, os⟩) :
    wpAny M A (typeLookup (.ref C) "__str__") Q E ⟨h, g, d, t, os⟩ := by
  obtain ⟨z, mN, h1, h2, h3, h4⟩ := x.cls
  rw [typeLookup_eq]
  refine wpAny_bind (wpAny_mroOf_exc h1 ?_)
  rw [lookupAlong_cons]
  refine wpAny_bind (wpAny_classOwn_exc h1 h2 ?_)
  rw [h4]
  exact look_str x.tail hq
theorem bexcStrSlot : Slot "Exception" "__str__" "BaseException.__str__" := .of (owner := "BaseException") (n := "__str__") strLook (by decide +kernel) (by decide +kernel) (by decide +kernel)
    (by first | exact .inl (by decide +kernel) | exact .inr (by decide +kernel)) (by rw [isSubtype_type]; kernel_rfl)
theorem bexcStrKind : builtinKind "BaseException.__str__" = some .slot := by decide +kernel
theorem bexcStrSplit : splitId "BaseException.__str__" = some ("BaseException", "__str__") := by decide +kernel


noncomputable def ExcAtR (h : Heap) (e C : Addr) (a0 : Value) : Prop := ∃ o vs, h.get? e = some o ∧ o.cls = .ref C ∧ o.data = .fields vs ∧ vs[0]? = some a0

theorem ExcC.contains {C : Addr} {own : List Addr} {T : String} (ht : excMro.contains (.type T) = true) : (Value.ref C :: (own.map Value.ref ++ excMro)).contains (.type T) = true := by
  rw [List.contains_iff_mem] at ht ⊢
  exact List.mem_cons_of_mem _ (List.mem_append_right _ ht)
theorem check_bexcStr {C e : Addr} {own : List Addr} {oe : Obj} (x : ExcC h C own) (he : h.get? e = some oe) (hc : oe.cls = .ref C) {Q : Unit → Shared → Prop} (hq : Q () ⟨h, g, d, t, os⟩) :
    wpAny M A (checkBuiltinCall "BaseException.__str__" ⟨[.ref e], []⟩) Q E ⟨h, g, d, t, os⟩ := by
  obtain ⟨z, mN, h1, h2, h3, h4⟩ := x.cls
  have hcB : (Value.ref C :: (own.map Value.ref ++ excMro)).contains (.type "BaseException") = true := ExcC.contains (by decide +kernel)
  simp only [checkBuiltinCall, bexcStrKind, bexcStrSplit]
  unfold isInstance
  repeat (first | (with_reducible refine wpAny_loadPart_at he ?_; rw [hc]) | (with_reducible refine wpAny_isSubtype_exc h1 ?_; rw [hcB]) | wp_step)
  exact hq
end

section
variable {prog : Program} {w : World} {A : Around} {E : Value → Shared → Prop} {s : Shared}

theorem bexcArgs_R {M : Model} {e C t0 : Addr} {items : List Value} {Q : Value × List Value → Shared → Prop} (x : ExcAtR s.heap e C (.ref t0)) (ht : s.heap.TupAt t0 items) (hq : Q (.ref t0, items) s) :
    wpAny M A (bexcArgs (.ref e)) Q E s := by
  obtain ⟨o, vs, ho, _, hd, h0⟩ := x
  obtain ⟨ot, k, hto, _, htd⟩ := ht
  unfold bexcArgs
  refine wpAny_bind (wpAny_field ho hd h0 (wpAny_bind (wpAny_seqItems hto htd ?_)))
  have : items.toArray.toList = items := by simp
  show wpAny M A (pure (Value.ref t0, items.toArray.toList)) Q E s
  rw [this]; exact wpAny_pure hq
theorem bexcStr_R {e C t0 : Addr} {m : Str} {tk : Tok} {Q : Fin → Shared → Prop} (x : ExcAtR s.heap e C (.ref t0)) (ht : s.heap.TupAt t0 [.str m tk]) (hq : Q (.done (.ret (.str m tk))) s) :
    wpAny (model prog w) A (Builtin.«BaseException.__str__» ⟨[.ref e], []⟩) Q E s := by
  unfold Builtin.«BaseException.__str__»
  repeat (first | with_reducible refine bexcArgs_R x ht ?_ | wp_step)
  exact hq
theorem call_bexcStr_R {e C t0 : Addr} {own : List Addr} (X : ExcC s.heap C own) {m : Str} {tk : Tok} {Q : Value → Shared → Prop} (x : ExcAtR s.heap e C (.ref t0)) (ht : s.heap.TupAt t0 [.str m tk]) (hq : Q (.str m tk) s) :
    wpAny (model prog w) A (call (.builtin "BaseException.__str__") [.ref e]) Q E s := by
  have x' := x
  obtain ⟨o, vs, ho, hc, _⟩ := x'
  refine wpAny_call (codeAny_call_builtin bexcStrSlot.plain PySem.F.entry_bexc_str ?_)
  obtain ⟨h, g, d, t, os⟩ := s
  exact check_bexcStr X ho hc (bexcStr_R x ht hq)
theorem callSpecial_R {e C t0 : Addr} {own : List Addr} (X : ExcC s.heap C own) {m : Str} {tk : Tok} {Q : Option Value → Shared → Prop} (x : ExcAtR s.heap e C (.ref t0)) (ht : s.heap.TupAt t0 [.str m tk]) (hq : Q (some (.str m tk)) s) :
    wpAny (model prog w) A (callSpecial? (.ref e) "__str__") Q E s := by
  have x' := x
  obtain ⟨o, vs, ho, hc, _⟩ := x'
  obtain ⟨h, g, d, t, os⟩ := s
  simp only [callSpecial?]
  refine wpAny_bind ?_
  · unfold specialOf
    repeat (first | (with_reducible refine wpAny_loadPart_at ho ?_; rw [hc]) | wp_step)
    refine X.typeLook ?_
    simp only [bexcStrSlot.bind]
    exact wpAny_holding (wpAny_bind (wpAny_pure (wpAny_bind (wpAny_mono (call_bexcStr_R X x ht hq) (fun v s' h' => wpAny_pure h') fun _ _ h' => h'))))
theorem strOf_R {e C t0 : Addr} {own : List Addr} (X : ExcC s.heap C own) (hu : A.units < cLine) {m : Str} {tk : Tok} {Q : Value → Shared → Prop} (x : ExcAtR s.heap e C (.ref t0)) (ht : s.heap.TupAt t0 [.str m tk]) (hq : Q (.str m tk) s) :
    wpAny (model prog w) A (Builtin.Str.strOf (.ref e)) Q E s := by
  unfold Builtin.Str.strOf
  repeat (first | with_reducible refine wpAny_cRoomFor hu ?_ | with_reducible refine callSpecial_R X x ht ?_ | wp_step)
  exact hq
theorem str_R {e C t0 : Addr} {own : List Addr} (X : ExcC s.heap C own) (hu : A.units + 2 < cLine) {m : Str} {tk : Tok} {Q : Value → Shared → Prop} (x : ExcAtR s.heap e C (.ref t0)) (ht : s.heap.TupAt t0 [.str m tk]) (h : Q (.str m tk) s) :
    wpAny (model prog w) A (call (.type "str") [.ref e]) Q E s :=
  callType_new PySem.F.called_str (by decide) (PySem.F.typeCall_str_1 _) (PySem.F.newCall_str_1 _) (fun obj => PySem.F.args_object_init_2 obj _) PySem.F.entry_str_new
    (meets_str_new (S := fun A' R s' => A'.units + 1 < cLine ∧ ExcC s'.heap C own ∧ ExcAtR s'.heap e C (.ref t0) ∧ s'.heap.TupAt t0 [.str m tk] ∧ R (.ok (.ret (.str m tk))) s')
      fun _ _ A' _ _ hq => strOf_R (A := A'.in1) hq.2.1 hq.1 hq.2.2.1 hq.2.2.2.1 hq.2.2.2.2)
    ⟨(show A.units + 1 + 1 < cLine from hu), X, x, ht, typeIs_str _ _ _, h⟩

/-- does a clause meet it -/
theorem excMatches_own {M : Model} {e C C' : Addr} {own own' : List Addr} {oe : Obj} (X : ExcC s.heap C own) (X' : ExcC s.heap C' own') (he : s.heap.get? e = some oe) (hc : oe.cls = .ref C) {b : Bool}
    (hb : (Value.ref C :: (own.map Value.ref ++ excMro)).contains (.ref C') = b) {Q : Bool → Shared → Prop} (hq : Q b s) : wpAny M A (excMatches (.ref e) (.ref C')) Q E s := by
  obtain ⟨z, mN, h1, h2, h3, h4⟩ := X.cls
  obtain ⟨z', mN', h1', h2', h3', h4'⟩ := X'.cls
  have hcB : (Value.ref C :: (own.map Value.ref ++ excMro)).contains (.type "BaseException") = true := ExcC.contains (by decide +kernel)
  have hcB' : (Value.ref C' :: (own'.map Value.ref ++ excMro)).contains (.type "BaseException") = true := ExcC.contains (by decide +kernel)
  have f := tc_notTuple
  obtain ⟨h, g, d, t, os⟩ := s
  unfold excMatches
  repeat (first | (with_reducible refine wpAny_loadPart_at he ?_; rw [hc]) | with_reducible refine wpAny_loadPart_at h1' ?_ | (with_reducible refine wpAny_isSubtype_exc h1' ?_; rw [hcB']) | (with_reducible refine wpAny_isSubtype_exc h1 ?_; rw [hb]) | wp_step)
  cases b <;> (wp_walk; exact hq)
end
end Ev
namespace Ev
open PySem PySem.Calls PyProof.Rows

section
variable [Base]

/-- may its slots be filled -/
noncomputable def Loose (b : Addr) (o : Obj) : Prop := o.cls = .type "frame" ∧ (∀ o', Base.heap.get? b ≠ some o') ∧ ∀ vs, o.data ≠ .fields vs
theorem Kept.tight {h' : Heap} {b : Addr} {o : Obj} (k : Kept h' b o) (n : ¬ Loose b o) : h'.get? b = some o := by
  obtain ⟨sl, e, q⟩ := k
  rw [q (by
    by_cases h1 : o.cls = .type "frame"
    · by_cases h2 : ∃ o', Base.heap.get? b = some o'
      · exact .inr (.inl h2)
      · by_cases h3 : ∃ vs, o.data = .fields vs
        · exact .inr (.inr h3)
        · exact absurd ⟨h1, fun o' e => h2 ⟨o', e⟩, fun vs e => h3 ⟨vs, e⟩⟩ n
    · exact .inl h1)] at e
  exact e
theorem Kept.of_not {h' : Heap} {b : Addr} {o : Obj} (h1 : ¬ Loose b o → h'.get? b = some o) (h2 : Loose b o → ∃ sl, h'.get? b = some { o with slots := sl }) : Kept h' b o := by
  by_cases q : Loose b o
  · obtain ⟨sl, e⟩ := h2 q
    refine ⟨sl, e, fun z => ?_⟩
    rcases z with z | ⟨o', z⟩ | ⟨vs, z⟩
    · exact absurd q.1 z
    · exact absurd z (q.2.1 o')
    · exact absurd z (q.2.2 vs)
  · exact .of (h1 q)

noncomputable def frList (h : Heap) : List Addr := (List.range h.objs.size).filter fun b => @decide (∃ o, h.get? b = some o ∧ Loose b o) (Classical.propDecidable _)
theorem mem_frList {h : Heap} {b : Addr} : b ∈ frList h ↔ ∃ o, h.get? b = some o ∧ Loose b o := by
  unfold frList
  rw [List.mem_filter, List.mem_range, @decide_eq_true_iff _ (Classical.propDecidable _)]
  exact ⟨fun x => x.2, fun x => ⟨by obtain ⟨o, e, _⟩ := x; exact Heap.lt_size e, x⟩⟩
/-- the heap without the frames -/
noncomputable def noFr (h : Heap) : Heap := PySem.W.hideAll h (frList h)
theorem noFr_of {h : Heap} {b : Addr} {o : Obj} (e : (noFr h).get? b = some o) : h.get? b = some o ∧ ¬ Loose b o := by
  have e' := PySem.W.of_hideAll _ e
  refine ⟨e', fun q => ?_⟩
  have := PySem.W.hideAll_none (frList h) (h := h) (mem_frList.mpr ⟨o, e', q⟩)
  unfold noFr at e
  rw [this] at e; cases e
theorem noFr_get {h : Heap} {b : Addr} {o : Obj} (e : h.get? b = some o) (n : ¬ Loose b o) : (noFr h).get? b = some o :=
  PySem.W.hideAll_get _ e fun q => by
    obtain ⟨o', e', q⟩ := mem_frList.mp q
    rw [e] at e'; cases e'; exact n q
theorem noFr_none {h : Heap} {b : Addr} (e : h.get? b = none) : (noFr h).get? b = none := by
  cases q : (noFr h).get? b with
  | none => rfl
  | some o => rw [(noFr_of q).1] at e; cases e
theorem noFr_loose {h : Heap} {b : Addr} {o : Obj} (e : h.get? b = some o) (n : Loose b o) : (noFr h).get? b = none := by
  cases q : (noFr h).get? b with
  | none => rfl
  | some o' =>
    obtain ⟨e', n'⟩ := noFr_of q
    rw [e] at e'; cases e'; exact absurd n n'
theorem noFr_in {h h' : Heap} (k : KH h h') : (noFr h).StaysIn h' := fun b o e => let ⟨e', n⟩ := noFr_of e; (k b o e').tight n
theorem noFr_up {h h' : Heap} (k : KH h h') : (noFr h).StaysIn (noFr h') := fun b o e => let ⟨_, n⟩ := noFr_of e; noFr_get (noFr_in k b o e) n
theorem KH.upTo {h h' : Heap} (k : KH h h') : h.UpToSlots h' := fun b o e _ => let ⟨sl, e', _⟩ := k b o e; ⟨sl, e'⟩
theorem KH.of_stays {h h' : Heap} (s : (noFr h).StaysIn h') (u : h.UpToSlots h') : KH h h' := fun b o e =>
  .of_not (fun n => s b o (noFr_get e n)) fun q => u b o e q.2.2
theorem upTo_but {X : Addr → Prop} {h h' : Heap} (k : KHB X h h') (b : Addr) (o : Obj) (n : ¬ X b) (e : h.get? b = some o) : ∃ sl, h'.get? b = some { o with slots := sl } := let ⟨sl, e', _⟩ := k b o n e; ⟨sl, e'⟩

theorem isFr_loose {A : Around} {h : Heap} (x : FrOk A h) {b : Addr} (hb : IsFr A b) : ∃ o, h.get? b = some o ∧ Loose b o := by
  obtain ⟨h1, o, es, ep, e, hc, hd⟩ := x.ob b hb
  exact ⟨o, e, hc, fun o' q => by rw [h1] at q; (cases q), fun vs q => by rw [hd] at q; cases q⟩
omit [Base] in
theorem funFrames_of {h base : Heap} : ∀ {l : List Env}, (∀ e ∈ l, e.scope.kind ≠ .module ∧ ∃ b o, e.frame = some b ∧ base.get? b = none ∧ h.get? b = some o ∧ ∀ vs, o.data ≠ .fields vs) → h.FunFrames base l
  | [], _ => trivial
  | e :: l, q => ⟨(q e (.head _)).1, let ⟨_, b, o, h1, h2, h3, h4⟩ := q e (.head _); ⟨b, o, h1, h2, h3, h4⟩, funFrames_of fun x hx => q x (.tail _ hx)⟩
theorem FrOk.fun {A : Around} {h h' : Heap} (x : FrOk A h) (k : KH h h') {l : List Env} (hl : A.frames = some l) : h'.FunFrames (noFr h) l := by
  obtain ⟨l', e, q⟩ := x.st
  rw [hl] at e; cases e
  refine funFrames_of fun env he => ?_
  obtain ⟨h1, b, hb⟩ := q env he
  obtain ⟨o, eo, lo⟩ := isFr_loose x (b := b) ⟨l, env, hl, he, hb⟩
  obtain ⟨sl, e', _⟩ := k b o eo
  exact ⟨h1, b, _, hb, noFr_loose eo lo, e', lo.2.2⟩

/-- an exception of the class C with the text x, on its way out of a call made at h -/
noncomputable def Flown (l : List Env) (h : Heap) (e C : Addr) (x : Str) (h' : Heap) : Prop :=
  ∃ t u, Heap.FlyingW (noFr h) l e (.ref C) (.ref t) h' ∧ h'.TupAt t [.str x u] ∧ (noFr h).get? t = none ∧ h.UpToSlots h'

noncomputable def RaiseSpec (prog : Program) (w : World) (B : Heap) (kF : Nat) (a : Addr) (ds : List D) (C : Addr) (x : Str) : Prop :=
  ∀ (W : Addr → Prop) (A : Around) (s : Shared) (vs : List Value) (Q E : Value → Shared → Prop), AOk A kF → FrOk A s.heap → KE B s.heap → Wok W s.heap → (∀ a, W a → B.get? a = none) → Reps prog w W s.heap ds vs →
    (∀ l e h' tk, A.frames = some l → Flown l s.heap e C x h' → E (.ref e) { s with heap := h', toks := tk }) → wpAny (model prog w) A (call (.ref a) vs) Q E s
end

section
variable [Base] {prog : Program} {w : World} {C : Cx} {F : Nat → List D → Option D} {B : Heap} {mg : Str → Option Value} {kF : Nat}
  {sc : Scope} {ρ : Rho} {env : Env} {Wb X W : Addr → Prop} {A : Around} {s : Shared} {E : Value → Shared → Prop} {n m N : Nat}

/-- what takes a raise -/
noncomputable def RE (X : Addr → Prop) (env : Env) (s : Shared) (Cc : Addr) (x : Str) (E : Value → Shared → Prop) : Prop :=
  ∀ s₁ h' e u, KpB X s s₁ → (∃ m, s₁.heap.Ns env.locals m) → Heap.MadeExcOf s₁.heap h' e (.ref Cc) [.str x u] → E (.ref e) { s₁ with heap := h' }
theorem RE.after {X' W' : Addr → Prop} {s₁ : Shared} {Cc : Addr} {x : Str} (r : RE X env s Cc x E) (g : Grown X W X' W' s.heap) (k : KpB X s s₁) : RE X' env s₁ Cc x E :=
  fun s₂ h' e u k' n m => r s₂ h' e u (k.step g k') n m

theorem arm_raise (G : Gl prog w C F B mg kF) {c : Str} {Cc : Addr} {own : List Addr} (hm : mg c = some (.ref Cc)) (XC : ExcC B Cc own) {e : Expr} {np cpos pos : Pos} {p : PE} {x : Str} {Q : Flow → Shared → Prop}
    (hg : isGlobalName sc c = true) (hc : cE C m sc e = some p) (he : evE F N ρ p = some (.str x)) (S : Sx prog w C B mg kF Wb X W env sc ρ A s) (r : RE X env s Cc x E) :
    wpAny (model prog w) A (exec (.Raise (some (.Call (.Name c np) [e] [] cpos)) none pos) env) Q E s := by
  obtain ⟨k1, k2⟩ := glob_kind S.hy hg
  have hp : ([e] : List Expr).all plainE = true := by rw [List.all_cons, cE_plain hc]; rfl
  obtain ⟨z, mN, h1, h2, h3, h4⟩ := XC.cls
  refine wpAny_Raise_call_subT (bm := own.map Value.ref ++ excMro) (bmB := excMro) (nm := z.nm) (q := z.q) (N := z.N) (bs := z.bs) (hdct := z.hdct) (sn := z.sn) (sub := z.sub) (ab := z.ab) (col := z.col) (dd := z.dd) (k0 := z.k0) (k1 := z.k1) (k2 := z.k2) (k3 := z.k3) (k5 := z.k5) (C := Cc)
    PySem.F.excBase_Exception ?_ S.hy.ok.hd (any_star hp) h3 (name_gl G S.hy k1 hm ⟨rfl, args_of hp ?_⟩ k2)
  · have : excMro.contains (.type "BaseException") = true := by decide +kernel
    rw [List.contains_iff_mem] at this ⊢
    exact List.mem_append_right _ this
  · rw [backTo_star hp]
    refine spliced_cons (wpAny_mono ((snd_all (prog := prog) (w := w) G N).1 m sc e p ρ (.str x) env W A s E hc he S.hy) (fun v s₁ q₁ => ?_) fun _ _ e => e)
    refine spliced_nil ?_
    obtain ⟨k, rv, _⟩ := q₁
    simp only [RepT] at rv
    obtain ⟨⟨u, rfl⟩, _⟩ := rv
    have kb := S.hy.bk.on S.hy.eb k.keep
    refine ⟨rfl, by simp [sizeLine], kb _ _ h1, h2.keeps kb, (XC.keeps kb).ownTail, fun h' ea hx => r s₁ h' ea u k.toB ?_ hx⟩
    obtain ⟨m', hm', _⟩ := (S.kp k).hy.ke.ns
    exact ⟨m', hm'⟩

/-- no raise -/
noncomputable def Nr (o : Option (Fl × Rho)) : Prop := ∀ c d ρ', o ≠ some (.raise c d, ρ')
theorem nr_bind {α : Type} {o : Option α} {f : α → Option (Fl × Rho)} (h : ∀ a, Nr (f a)) : Nr (o.bind f) := fun _ _ _ e => ob e fun a _ e => h a _ _ _ e
theorem nr_gd {c : Bool} {o : Option (Fl × Rho)} (h : Nr o) : Nr (gd c o) := fun _ _ _ e => gdo e fun _ e => h _ _ _ e
theorem nr_next {ρ : Rho} : Nr (some (.next, ρ)) := fun _ _ _ e => nomatch (Prod.mk.inj (sj e)).1
theorem nr_brk {ρ : Rho} : Nr (some (.brk, ρ)) := fun _ _ _ e => nomatch (Prod.mk.inj (sj e)).1
theorem nr_ret {ρ : Rho} {d : D} : Nr (some (.ret d, ρ)) := fun _ _ _ e => nomatch (Prod.mk.inj (sj e)).1
theorem nr_none : Nr none := fun _ _ _ e => nomatch e
theorem nr_turn {o : Option (Fl × Rho)} {go : Rho → Option (Fl × Rho)} (h : ∀ ρ, Nr (go ρ)) : Nr (turnO o go) := nr_bind fun r => by
  obtain ⟨fl, ρ⟩ := r
  cases fl with
  | next => exact h ρ
  | brk => exact nr_next
  | ret d => exact nr_ret
  | raise c d => exact nr_none
theorem forL_nr {f : Rho → Option (Fl × Rho)} {x : Nat} : ∀ (ds : List D) (ρ : Rho), Nr (forL f x ds ρ)
  | [], _ => nr_next
  | _ :: ds, _ => nr_turn (forL_nr ds)
theorem whl_nr {t : PE} {b : List PS} : ∀ (n : Nat) (ρ : Rho), Nr (exO F N n ρ (.whl t b))
  | 0, _ => nr_none
  | n + 1, _ => nr_bind fun c => by cases c with
    | true => exact nr_turn (whl_nr n)
    | false => exact nr_next
theorem flat_nr {n : Nat} {p : PS} (h : flatP p = true) : Nr (exO F N n ρ p) := by
  cases n with
  | zero => exact nr_none
  | succ n =>
    cases p with
    | iff t a b => exact ff h
    | raise c e => exact ff h
    | whl t b => exact whl_nr (n + 1) ρ
    | forR y args b => exact nr_bind fun _ => nr_bind fun ls => forL_nr ls ρ
    | dnew x kvs => exact nr_next
    | brk => exact nr_brk
    | ret e => exact nr_bind fun _ => nr_ret
    | retO e => exact nr_bind fun _ => nr_ret
    | set x e => exact nr_bind fun _ => nr_next
    | set2 x y e => exact nr_bind fun _ => nr_next
    | new x e => exact nr_bind fun _ => nr_next
    | pair x y a b => exact nr_bind fun _ => nr_bind fun _ => nr_next
    | aug x op e => exact nr_bind fun _ => nr_bind fun _ => nr_bind fun _ => nr_next
    | app x e => exact nr_bind fun _ => nr_bind fun _ => nr_gd nr_next
    | setI x i e => exact nr_bind fun _ => nr_bind fun _ => nr_bind fun _ => nr_gd nr_next
    | extL x e => exact nr_bind fun _ => nr_bind fun _ => nr_gd nr_next
    | dAug x k e => exact nr_bind fun _ => nr_bind fun _ => nr_bind fun _ => nr_bind fun _ => nr_gd nr_next

noncomputable def RsS (prog : Program) (w : World) (C : Cx) (F : Nat → List D → Option D) (N : Nat) (B : Heap) (mg : Str → Option Value) (kF : Nat) (c : Str) (Cc : Addr) (x : Str) (n : Nat) : Prop :=
  ∀ (m : Nat) (sc : Scope) (ss : List Stmt) (ps : List PS) (ρ ρ' : Rho) (env : Env) (Wb X W : Addr → Prop) (A : Around) (s : Shared) (Q : Flow → Shared → Prop) (E : Value → Shared → Prop),
      cSs C m sc ss = some ps → exS F N n ρ ps = some (.raise c (.str x), ρ') → Sx prog w C B mg kF Wb X W env sc ρ A s → RE X env s Cc x E → wpAny (model prog w) A (execs ss env) Q E s
noncomputable def RsO (prog : Program) (w : World) (C : Cx) (F : Nat → List D → Option D) (N : Nat) (B : Heap) (mg : Str → Option Value) (kF : Nat) (c : Str) (Cc : Addr) (x : Str) (n : Nat) : Prop :=
  ∀ (m : Nat) (sc : Scope) (st : Stmt) (p : PS) (ρ ρ' : Rho) (env : Env) (Wb X W : Addr → Prop) (A : Around) (s : Shared) (Q : Flow → Shared → Prop) (E : Value → Shared → Prop),
      cS C m sc st = some p → exO F N n ρ p = some (.raise c (.str x), ρ') → Sx prog w C B mg kF Wb X W env sc ρ A s → RE X env s Cc x E → wpAny (model prog w) A (exec st env) Q E s

theorem stepR_cons (G : Gl prog w C F B mg kF) (one : ∀ i j, C.O.contains i = true → C.O.contains j = true → j = i) {c : Str} {Cc : Addr} {x : Str} (ihS : RsS prog w C F N B mg kF c Cc x n) (ihO : RsO prog w C F N B mg kF c Cc x n)
    {st : Stmt} {rest : List Stmt} {p : PS} {q : List PS} {ρ' : Rho} {Q : Flow → Shared → Prop} (h1 : cS C m sc st = some p) (h2 : cSs C m sc rest = some q) (he : stepO' (exO F N n ρ p) (fun ρ' => exS F N n ρ' q) = some (.raise c (.str x), ρ'))
    (S : Sx prog w C B mg kF Wb X W env sc ρ A s) (r : RE X env s Cc x E) : wpAny (model prog w) A (execs (st :: rest) env) Q E s := by
  refine wpAny_execs_cons (ob he fun o h3 he => cps fun P k => ?_)
  obtain ⟨fl₁, ρ₁⟩ := o
  cases fl₁ with
  | next =>
    refine k (wpAny_mono ((snd_st G one N n n (Nat.le_refl _)).2 m sc st p ρ ρ₁ .next env Wb X W A s E h1 h3 S (fun _ _ e => nomatch e)) (fun f s₁ q₁ => ?_) fun _ _ e => e)
    obtain ⟨rfl, X', W', g, k, S'⟩ := q₁
    exact ihS m sc rest q ρ₁ ρ' env Wb X' W' A s₁ _ E h2 he S' (r.after g k)
  | brk => exact nomatch (Prod.mk.inj (sj he)).1
  | ret d => exact nomatch (Prod.mk.inj (sj he)).1
  | raise c' d =>
    obtain ⟨e, _⟩ := Prod.mk.inj (sj he)
    cases e
    exact k (ihO m sc st p ρ ρ₁ env Wb X W A s _ E h1 h3 S r)
theorem stepR_if (G : Gl prog w C F B mg kF) {c : Str} {Cc : Addr} {x : Str} (ihS : RsS prog w C F N B mg kF c Cc x n) {t : Expr} {a b : List Stmt} {pos : Pos} {pt : PE} {qa qb : List PS} {ρ' : Rho} {Q : Flow → Shared → Prop}
    (h1 : cE C m sc t = some pt) (h2 : cSs C m sc a = some qa) (h3 : cSs C m sc b = some qb) (he : exO F N (n + 1) ρ (.iff pt qa qb) = some (.raise c (.str x), ρ'))
    (S : Sx prog w C B mg kF Wb X W env sc ρ A s) (r : RE X env s Cc x E) : wpAny (model prog w) A (exec (.If t a b pos) env) Q E s := by
  refine ob he fun v h4 he => wpAny_If (wpAny_mono ((snd_all (prog := prog) (w := w) G N).2.1 m sc t pt ρ v env W A s E h1 h4 S.hy) (fun b' s₁ q₁ => cps fun P k0 => ?_) fun _ _ e => e)
  have r' := r.after (Grown.refl X W s.heap) q₁.2.toB
  rw [q₁.1] at k0
  cases v with
  | true => exact k0 (ihS m sc a qa ρ ρ' env Wb X W A s₁ Q E h2 he (S.kp q₁.2) r')
  | false => exact k0 (ihS m sc b qb ρ ρ' env Wb X W A s₁ Q E h3 he (S.kp q₁.2) r')
theorem stepR (G : Gl prog w C F B mg kF) {c : Str} {Cc : Addr} {own : List Addr} (hm : mg c = some (.ref Cc)) (XC : ExcC B Cc own) {x : Str} (ihS : RsS prog w C F N B mg kF c Cc x n) : RsO prog w C F N B mg kF c Cc x (n + 1) := by
  intro m sc st p ρ ρ' env Wb X W A s Q E hc he S r
  cases m with
  | zero => exact dead hc
  | succ m =>
    refine cps fun P k => ?_
    have no : ∀ {o : Option PS}, flatR o = some p → P := fun h => flatR_o h fun _ hf => absurd he (flat_nr hf _ _ _)
    cases st with
    | Assign ts value pos => exact no hc
    | AugAssign t op value pos => exact no hc
    | If t a b pos => exact ob hc fun pt h1 hc => ob hc fun pa h2 hc => ob hc fun pb h3 hc => sm hc he fun he => k (stepR_if G ihS h1 h2 h3 he S r)
    | While t b els pos => exact gdo hc fun hk hc => ob hc fun pt h1 hc => ob hc fun pb h2 hc => sm hc he fun he => absurd he (whl_nr _ _ _ _ _)
    | For t it b els pos => exact gdo hc fun hk hc => ob hc fun x hx hc => ob hc fun args ha hc => ob hc fun i hi hc => ob hc fun ps hps hc => ob hc fun q hq hc => sm hc he fun he => absurd he (flat_nr (p := .forR i ps q) rfl _ _ _)
    | Return v pos => exact no hc
    | Break pos => exact sm (show some PS.brk = some p from hc) he fun he => absurd he (flat_nr (p := .brk) rfl _ _ _)
    | Expr e pos => exact no hc
    | Raise e cz pos =>
      refine gdo hc fun hcz hc => raise_o hc fun c' e' pc pe q h1 h2 h3 hc => sm hc he fun he => ob he fun d h4 he => k ?_
      obtain ⟨h5, _⟩ := Prod.mk.inj (sj he)
      cases h5
      rw [h1, Option.isNone_iff_eq_none.mp hcz]
      exact arm_raise G hm XC h2 h3 h4 S r
    | _ => exact dead hc
/-- a run that raises -/
theorem snd_raise (G : Gl prog w C F B mg kF) (one : ∀ i j, C.O.contains i = true → C.O.contains j = true → j = i) {c : Str} {Cc : Addr} {own : List Addr} (hm : mg c = some (.ref Cc)) (XC : ExcC B Cc own) {x : Str} : ∀ n, RsS prog w C F N B mg kF c Cc x n ∧ RsO prog w C F N B mg kF c Cc x n
  | 0 => ⟨fun m sc ss ps ρ ρ' env Wb X W A s Q E hc he => dead he, fun m sc st p ρ ρ' env Wb X W A s Q E hc he => dead he⟩
  | n + 1 => by
    have ih := snd_raise G one hm XC (x := x) n
    refine ⟨fun m sc ss ps ρ ρ' env Wb X W A s Q E hc he S r => cps fun P k => ?_, stepR G hm XC ih.1⟩
    cases m with
    | zero => exact dead hc
    | succ m =>
      cases ss with
      | nil => exact sm (f := exS F N (n + 1) ρ) hc he fun he => absurd he (nr_next _ _ _)
      | cons st rest => exact ob hc fun p h1 hc => ob hc fun q h2 hc => sm (f := exS F N (n + 1) ρ) hc he fun he => k (stepR_cons G one ih.1 ih.2 h1 h2 he S r)
end
end Ev
namespace Ev
open PySem PySem.Calls PyProof.Rows

section
variable [Base] {prog : Program} {w : World} {C : Cx} {F : Nat → List D → Option D} {B : Heap} {mg : Str → Option Value} {kF : Nat}
  {sc : Scope} {ρ : Rho} {env : Env} {Wb X W : Addr → Prop} {A : Around} {s : Shared} {E : Value → Shared → Prop} {n m N : Nat}

theorem raise_sound (G : Gl prog w C F B mg kF) {fd : FuncData} {params : List Str} {body : List Stmt} {ps : List PS} {gρ : Rho} (DO : DefOk C fd params body ps m) (GD : GlData prog w C B mg gρ) {a : Addr} {o : Obj} (ho : B.get? a = some o) (hd : o.data = .func fd) (hcode : B.CodeRec fd.code fd.qualname)
    {c : Str} {Cc : Addr} {own : List Addr} (hm : mg c = some (.ref Cc)) (XC : ExcC B Cc own) {x : Str}
    {ds : List D} {ρ' : Rho} (hl : params.length = ds.length) (hexc : C.exc = false) (he : exS F N n (rhoP C.names params ds ++ gρ) ps = some (.raise c (.str x), ρ')) : RaiseSpec prog w B (kF + 1) a ds Cc x := by
  intro W A s vs Q E hok hfr kb wk wb r hE
  have hvl : vs.length = params.length := by rw [r.length]; exact hl.symm
  refine wpAny_call (codeAny_call_cells hok.room (kb _ _ ho) hd (G.nl.keeps kb) (hcode.keeps kb) DO.body (DO.bind vs hvl) DO.clo ?_ (fun s₁ x₁ => ?_) DO.co DO.gen DO.kind)
  · intro p hp
    have hp1 : p.1 ∈ params := by
      have := List.mem_map_of_mem (f := (·.1)) hp
      rwa [zip_keys hvl.symm] at this
    rcases DO.par p.1 hp1 with q | ⟨q, q'⟩
    · exact .inl q
    · exact .inr ⟨q, cellsFrom_has (.inl q')⟩
  · obtain ⟨X, W', hX, hW', hWW, S, kp⟩ := entry DO.toDefOk0 GD hok kb G.eb wk wb r hl (fun e => by rw [hexc] at e; cases e) x₁
    refine (snd_raise G DO.one hm XC n).1 m fd.scope body ps _ ρ' _ W X W' _ s₁ _ _ DO.comp he S (fun s₂ h' e u k hn hx => ?_)
    obtain ⟨h1, t1, e1⟩ := kp.same
    obtain ⟨h2, t2, e2⟩ := k.same
    have k2 : KH s.heap s₂.heap := fun b o e => Kept.trans (kp.keep b o e) fun _ e' => k.keep b _ (fun q => by rw [hX b q] at e; cases e) e'
    obtain ⟨l, hl', _⟩ := hfr.st
    obtain ⟨m₂, o₂, es, ep, e₂, hd₂, _⟩ := hn
    refine wpAny_leaves_madeW (base := noFr s.heap) (h := s₂.heap) (outer := l) (L := (callEnvC fd s.heap.objs.size a).locals) (Around.frames_deeper hl') rfl (noFr_in k2) ?_ hx fun h'' t x1 x2 x3 x4 => ?_
    · refine ⟨by rw [show (callEnvC fd s.heap.objs.size a).scope.kind = .function from DO.kind]; simp, ⟨_, o₂, rfl, noFr_none (get_size _), e₂, fun vs q => by rw [hd₂] at q; cases q⟩, hfr.fun k2 hl'⟩
    · have hs : ({ s₂ with heap := h' } : Shared).heap.UpToSlots h'' := x4
      have := hE l e h'' t2 hl' ⟨t, u, x1, x2, x3, k2.upTo.trans ((Heap.UpToSlots.of_keeps hx.keeps).trans hs)⟩
      rw [e2, e1]
      exact this
end
end Ev
namespace Ev
open PySem PySem.Calls PyProof.Rows

section
variable [Base] {prog : Program} {w : World} {C : Cx} {F : Nat → List D → Option D} {B : Heap} {mg : Str → Option Value} {kF : Nat}
  {sc : Scope} {ρ : Rho} {env : Env} {Wb X W : Addr → Prop} {A : Around} {s : Shared} {E : Value → Shared → Prop} {n m N : Nat}

/-- after the raise: what a clause sees; s is the state of the call that raised -/
structure Hd (l : List Env) (e Cc : Addr) (x : Str) (s s' : Shared) : Prop where
  ex : ∃ h' tk t u, s' = { s with heap := h', toks := tk } ∧ Heap.FlyingW (noFr s.heap) l e (.ref Cc) (.ref t) h' ∧ h'.TupAt t [.str x u] ∧ s.heap.UpToSlots h'
theorem Hd.kp {l : List Env} {e Cc : Addr} {x : Str} {s' : Shared} (y : Hd l e Cc x s s') : Kp s s' := by
  obtain ⟨h', tk, t, u, rfl, f, _, up⟩ := y.ex
  exact ⟨⟨_, _, rfl⟩, .of_stays f.1 up⟩

theorem handled_look {l : List Env} {e Cc : Addr} {x : Str} {s₁ : Shared} {Q : Unit → Shared → Prop} (y : Hd l e Cc x s s₁) (hQ : ∀ s₂, Hd l e Cc x s s₂ → Q () s₂) : wpAny (model prog w) A (setFlight (.ref e) none) Q E s₁ := by
  obtain ⟨h', tk, t, u, rfl, f, tu, up⟩ := y.ex
  exact lands_againW f fun h₂ f₂ up₂ => hQ _ ⟨h₂, tk, t, u, rfl, f₂, tu.of_slots up₂, up.trans up₂⟩

theorem first_look {outer : List Env} {e Cc L : Addr} {x : Str} {h' : Heap} {tk : Nat} {Q : Flow → Shared → Prop} {hs : List ExceptHandler} (hfr : A.frames = some (env :: outer)) (hf : env.frame = some L) (y : Flown (env :: outer) s.heap e Cc x h')
    (hQ : ∀ s₂, Hd (env :: outer) e Cc x s s₂ → wpAny (model prog w) A (handleBy (.ref e) env hs) Q E s₂) :
    wpAny (model prog w) A (noteFrame (.ref e) env) (fun _ s₂ => wpAny (model prog w) A (setFlight (.ref e) none) (fun _ s₃ => wpAny (model prog w) A (handleBy (.ref e) env hs) Q E s₃) E s₂) E { s with heap := h', toks := tk } := by
  obtain ⟨t, u, f, tu, _, up⟩ := y
  refine wpAny_looks_onW hfr hf f fun h₁ f₁ up₁ => ?_
  exact wpAny_landsW f₁ fun h₂ f₂ up₂ => hQ _ ⟨h₂, tk, t, u, rfl, f₂, (tu.of_slots up₁).of_slots up₂, (up.trans up₁).trans up₂⟩

/-- the frame that looks -/
structure Lk (B : Heap) (mg : Str → Option Value) (env : Env) (s : Shared) : Prop where
  kf : env.scope.kind = .function
  gl : env.globals = mainGlobals
  bl : env.builtins = builtinsNs
  ns : ∃ m, s.heap.Ns env.locals m
  bk : KE B s.heap
  new : B.get? env.locals = none
theorem Lk.kp {s' : Shared} (x : Lk B mg env s) (eb : B = Base.heap) (k : Kp s s') : Lk B mg env s' :=
  ⟨x.kf, x.gl, x.bl, let ⟨m, h⟩ := x.ns; ⟨m, Ns.kp h fun o e => k.keep _ o e⟩, x.bk.on eb k.keep, x.new⟩
theorem Lk.name (G : Gl prog w C F B mg kF) (x : Lk B mg env s) {y : Str} {v : Value} {Q : Value → Shared → Prop} {pos : Pos} (hk : env.kindOf y = some .globalImplicit) (hv : mg y = some v) (hd : (y == ("__debug__" : Str)) = false) (hq : Q v s) : wpAny (model prog w) A (eval (.Name y pos) env) Q E s :=
  Name_function_global x.kf hk (loadGlobal_global (x.gl ▸ G.g.keeps x.bk) hv hq) hd
theorem Lk.bi (G : Gl prog w C F B mg kF) (x : Lk B mg env s) {y : Str} {v : Value} {Q : Value → Shared → Prop} {pos : Pos} (hk : env.kindOf y = some .globalImplicit) (hn : mg y = none) (hv : bootBuiltins y = some v) (hx : y ≠ ("__name__" : Str)) (hd : (y == ("__debug__" : Str)) = false) (hq : Q v s) :
    wpAny (model prog w) A (eval (.Name y pos) env) Q E s := by
  obtain ⟨mb, h1, h2⟩ := G.b
  exact Name_function_global x.kf hk (loadGlobal_builtin (x.gl ▸ G.g.keeps x.bk) hn (x.bl ▸ h1.keeps x.bk) ((h2 y hx).trans hv) hq) hd

/-- a clause that does not meet it -/
theorem clause_no (G : Gl prog w C F B mg kF) {l : List Env} {e Cc C' : Addr} {own own' : List Addr} {x c' : Str} {s₁ : Shared} {np pos : Pos} {nm : Option Str} {body : List Stmt} {rest : List ExceptHandler} {Q : Flow → Shared → Prop}
    (lk : Lk B mg env s) (y : Hd l e Cc x s s₁) (hk : env.kindOf c' = some .globalImplicit) (hd : (c' == ("__debug__" : Str)) = false) (hm : mg c' = some (.ref C')) (X : ExcC B Cc own) (X' : ExcC B C' own')
    (hb : (Value.ref Cc :: (own.map Value.ref ++ excMro)).contains (.ref C') = false) (h : wpAny (model prog w) A (handleBy (.ref e) env rest) Q E s₁) :
    wpAny (model prog w) A (handleBy (.ref e) env (.ExceptHandler (some (.Name c' np)) nm body pos :: rest)) Q E s₁ := by
  have lk₁ := lk.kp G.eb y.kp
  obtain ⟨h', tk, t, u, rfl, f, _, _⟩ := y.ex
  obtain ⟨oe, he, hc⟩ := f.there
  refine wpAny_handleBy_cons (codeAny_handlers_test (lk₁.name G hk hm hd ?_)) (by intro q; cases q)
  exact excMatches_own (X.keeps lk₁.bk) (X'.keeps lk₁.bk) he hc hb h

theorem Lk.tok {k : Nat} (x : Lk B mg env s) : Lk B mg env { s with toks := k } := ⟨x.kf, x.gl, x.bl, x.ns, x.bk, x.new⟩
theorem Lk.but {h₃ : Heap} {m : Str → Option Value} {k : Nat} (x : Lk B mg env s) (hs : Heap.SameBut env.locals s.heap h₃) (hn : h₃.Ns env.locals m) : Lk B mg env { s with heap := h₃, toks := k } :=
  ⟨x.kf, x.gl, x.bl, ⟨m, hn⟩, fun b o eb => hs.extBut b o (fun q => by rw [q, x.new] at eb; cases eb) (x.bk b o eb), x.new⟩
theorem Hd.at {l : List Env} {e Cc : Addr} {x : Str} {s₂ : Shared} {h₃ : Heap} (y : Hd l e Cc x s s₂) (lk : Lk B mg env s₂) (hs : Heap.SameBut env.locals s₂.heap h₃) : ∃ t u, ExcAtR h₃ e Cc (.ref t) ∧ h₃.TupAt t [.str x u] := by
  obtain ⟨h', tk, t, u, rfl, f, ⟨ot, nt, hot, htc, htd⟩, _⟩ := y.ex
  obtain ⟨oe, ws, he, hc, hd, h0⟩ := f.first
  obtain ⟨m, oL, es, ep, eL, dL, _⟩ := lk.ns
  exact ⟨t, u, ⟨oe, ws, hs.extBut e _ (fun q => by rw [← q, he] at eL; cases eL; rw [hd] at dL; cases dL) he, hc, hd, h0⟩, ⟨ot, nt, hs.extBut t _ (fun q => by rw [← q, hot] at eL; cases eL; rw [htd] at dL; cases dL) hot, htc, htd⟩⟩
theorem kpb_two {L : Addr} {s₂ : Shared} {h₃ h₄ : Heap} {k : Nat} (y : Kp s s₂) (h3 : Heap.SameBut L s₂.heap h₃) (h4 : Heap.SameBut L h₃ h₄) : KpB (fun a => a = L) s { s₂ with heap := h₄, toks := k } := by
  obtain ⟨h2, t2, e⟩ := y.same
  exact ⟨⟨h₄, k, by rw [e]⟩, fun b o hb eb => Kept.trans (y.keep b o eb) fun o' e' => .of (h4.extBut b o' hb (h3.extBut b o' hb e'))⟩
/-- a fixed text and the exception's own -/
theorem ret_text (G : Gl prog w C F B mg kF) {e Cc t0 : Addr} {own : List Addr} {x fault pre : Str} {u : Tok} {k : Nat} {p1 p2 p3 p4 p5 p6 : Pos} {m : Str → Option Value} {Q : Flow → Shared → Prop} (lk : Lk B mg env s) (hn : s.heap.Ns env.locals m) (hm : m fault = some (.ref e))
    (hfa : env.kindOf fault = some .local) (hfd : (fault == ("__debug__" : Str)) = false) (hstr : env.kindOf ("str" : Str) = some .globalImplicit) (XC : ExcC B Cc own) (ea : ExcAtR s.heap e Cc (.ref t0)) (tu : s.heap.TupAt t0 [.str x u])
    (hu : A.units + 2 < cLine) (hlen : pre.length + x.length ≤ sizeLine) (h : ∀ v j, Q (.ret (.str (pre ++ x) v)) { s with toks := j }) :
    wpAny (model prog w) A (execs [.Return (some (.BinOp (.Constant (.str pre) k p1) .Add (.Call (.Name "str" p2) [.Name fault p3] [] p4) p5)) p6] env) Q E s := by
  refine wpAny_execs_cons (wpAny_Return_some (wpAny_BinOp (Constant_str ?_)))
  refine Call_Name rfl (lk.tok.bi G hstr (G.no _ (.inr (.inl (by decide +kernel)))) (v := .type "str") (by decide +kernel) (by decide +kernel) (by decide +kernel) ?_)
  refine PyProof.Rows.callWith_type (any_star (es := [.Name fault p3]) rfl) (args_of (es := [.Name fault p3]) rfl ?_)
  rw [backTo_star (es := [.Name fault p3]) rfl]
  exact spliced_cons (wpAny_Name (wpAny_loadName_local lk.kf hfa hn hm (spliced_nil (str_R (s := { s with toks := s.toks + 1 }) (C := Cc) (t0 := t0) (m := x) (tk := u) (XC.keeps lk.bk) hu ea tu (PyProof.Rows.add_str (fun t' tk' => h _ _) hlen)))) hfd)

/-- a clause that meets it, and says so -/
theorem clause_yes (G : Gl prog w C F B mg kF) {l : List Env} {e Cc : Addr} {own : List Addr} {x c' fault pre : Str} {s₁ : Shared} {k : Nat} {np pos p1 p2 p3 p4 p5 p6 : Pos} {rest : List ExceptHandler} {Q : Flow → Shared → Prop}
    (lk : Lk B mg env s) (y : Hd l e Cc x s s₁) (hk : env.kindOf c' = some .globalImplicit) (hd : (c' == ("__debug__" : Str)) = false) (hm : mg c' = some (.ref Cc)) (X : ExcC B Cc own)
    (hb : (Value.ref Cc :: (own.map Value.ref ++ excMro)).contains (.ref Cc) = true) (hfa : env.kindOf fault = some .local) (hfd : (fault == ("__debug__" : Str)) = false) (hstr : env.kindOf ("str" : Str) = some .globalImplicit)
    (hu : A.units + 100 < cLine) (hlen : pre.length + x.length ≤ sizeLine)
    (h : ∀ s₂ u, KpB (fun a => a = env.locals) s s₂ → Q (.ret (.str (pre ++ x) u)) s₂) :
    wpAny (model prog w) A (handleBy (.ref e) env (.ExceptHandler (some (.Name c' np)) (some fault) [.Return (some (.BinOp (.Constant (.str pre) k p1) .Add (.Call (.Name "str" p2) [.Name fault p3] [] p4) p5)) p6] pos :: rest)) Q E s₁ := by
  have hp : (env.scope.kind == .class || (env.scope.kind == .module && env.locals != env.globals)) = false := by rw [lk.kf]; rfl
  have hu2 : A.units + 2 < cLine := by omega
  have lk₁ := lk.kp G.eb y.kp
  have X₁ := X.keeps lk₁.bk
  obtain ⟨oe, he, hc⟩ : ∃ oe, s₁.heap.get? e = some oe ∧ oe.cls = .ref Cc := by obtain ⟨h', tk, t, u, rfl, f, _, _⟩ := y.ex; exact f.there
  refine wpAny_handleBy_cons (codeAny_handlers_test (lk₁.name G hk hm hd (excMatches_own X₁ X₁ he hc hb ?_))) (fun q => nomatch q)
  refine codeAny_handlers_suite_as (handled_look y fun s₂ y₂ => (lk.kp G.eb y₂.kp).ns.elim fun m₂ hn₂ => wpAny_storeName_local hfa hn₂ (fun h₃ hn₃ hs₃ => cps fun P k => ?_) hp)
  have lk₂ := lk.kp G.eb y₂.kp
  obtain ⟨t, u, ea, tu⟩ := y₂.at lk₂ hs₃
  exact k (ret_text G (lk₂.but hs₃ hn₃) hn₃ (if_pos rfl) hfa hfd hstr X ea tu hu2 hlen fun v j => wpAny_nameGoes (s := { s₂ with heap := h₃, toks := j }) hfa hn₃ hp fun h₄ m₄ hn₄ hs₄ => h _ _ (kpb_two (s₂ := s₂) y₂.kp hs₃ hs₄))
end
end Ev
namespace Ev
open PySem PySem.Calls PyProof.Rows

-- looks at forms
noncomputable def nameP : Expr → Option (Str × Pos)
  | .Name x p => some (x, p)
  | _ => none
theorem nameP_o {e : Expr} {q : Str × Pos} (h : nameP e = some q) : e = .Name q.1 q.2 := by
  cases e with
  | Name x p => rw [← sj h]
  | _ => exact dead h
theorem strC_e {c : Const} {x : Str} (h : strC c = some x) : c = .str x := by
  cases c with
  | str y => exact gdo h fun _ h => by rw [sj h]
  | _ => exact dead h
noncomputable def strP : Expr → Option (Str × Nat × Pos)
  | .Constant c k p => (strC c).bind fun x => some (x, k, p)
  | _ => none
theorem strP_o {e : Expr} {q : Str × Nat × Pos} (h : strP e = some q) : e = .Constant (.str q.1) q.2.1 q.2.2 := by
  cases e with
  | Constant c k p => exact ob h fun x h1 h => by rw [← sj h, strC_e h1]
  | _ => exact dead h
theorem isAdd_e {op : Operator} (h : isAdd op = true) : op = .Add := by
  cases op with
  | Add => rfl
  | _ => exact ff h
noncomputable def binP : Expr → Option (Expr × Expr × Pos)
  | .BinOp l op r p => gd (isAdd op) (some (l, r, p))
  | _ => none
theorem binP_o {e : Expr} {q : Expr × Expr × Pos} (h : binP e = some q) : e = .BinOp q.1 .Add q.2.1 q.2.2 := by
  cases e with
  | BinOp l op r p => exact gdo h fun h1 h => by rw [← sj h, isAdd_e h1]
  | _ => exact dead h
noncomputable def callP : Expr → Option (Expr × List Expr × Pos)
  | .Call f as ks p => gd ks.isEmpty (some (f, as, p))
  | _ => none
theorem callP_o {e : Expr} {q : Expr × List Expr × Pos} (h : callP e = some q) : e = .Call q.1 q.2.1 [] q.2.2 := by
  cases e with
  | Call f as ks p => exact gdo h fun h1 h => by rw [← sj h, List.isEmpty_iff.mp h1]
  | _ => exact dead h
noncomputable def retP : Stmt → Option (Expr × Pos)
  | .Return v p => v.bind fun e => some (e, p)
  | _ => none
theorem retP_o {e : Stmt} {q : Expr × Pos} (h : retP e = some q) : e = .Return (some q.1) q.2 := by
  cases e with
  | Return v p => exact ob h fun x h1 h => by rw [← sj h, h1]
  | _ => exact dead h
noncomputable def hnOk (c' fault pre : Str) (h : ExceptHandler) : Option Unit := match h with
  | .ExceptHandler ty f b _ => ty.bind fun te => (nameP te).bind fun x => gd (x.1 == c' && f == some fault) ((one1 b).bind fun st => (retP st).bind fun r => (binP r.1).bind fun q => (strP q.1).bind fun c => gd (c.1 == pre)
      ((callP q.2.1).bind fun cl => (nameP cl.1).bind fun s => gd (s.1 == ("str" : Str)) ((one1 cl.2.1).bind fun a => (nameP a).bind fun g => gd (g.1 == fault) (some ()))))
noncomputable abbrev hndl (e1 fault pre : Str) (k : Nat) (np p1 p2 p3 p4 p5 p6 pos : Pos) : ExceptHandler :=
  .ExceptHandler (some (.Name e1 np)) (some fault) [.Return (some (.BinOp (.Constant (.str pre) k p1) .Add (.Call (.Name "str" p2) [.Name fault p3] [] p4) p5)) p6] pos
theorem hn_o {P : Prop} {c' fault pre : Str} {h : ExceptHandler} (e : hnOk c' fault pre h = some ()) (k : ∀ j np p1 p2 p3 p4 p5 p6 pos, h = hndl c' fault pre j np p1 p2 p3 p4 p5 p6 pos → P) : P := by
  obtain ⟨ty, f, b, pos⟩ := h
  refine ob e fun te h1 e => ob e fun x h2 e => gdo e fun h3 e => ob e fun st h4 e => ob e fun r h5 e => ob e fun q h6 e => ob e fun c h7 e => gdo e fun h8 e => ob e fun cl h9 e => ob e fun s h10 e => gdo e fun h11 e => ob e fun a h12 e => ob e fun g h13 e => gdo e fun h14 _ =>
    and_o h3 fun h3 h3' => one1_o h4 fun h4 => one1_o h12 fun h12 => k c.2.1 x.2 c.2.2 s.2 g.2 cl.2.2 q.2.2 r.2 pos ?_
  rw [h1, nameP_o h2, beq_iff_eq.mp h3, beq_iff_eq.mp h3', h4, retP_o h5, binP_o h6, strP_o h7, beq_iff_eq.mp h8, callP_o h9, nameP_o h10, beq_iff_eq.mp h11, h12, nameP_o h13, beq_iff_eq.mp h14]

section
variable [Base] {prog : Program} {w : World} {C : Cx} {F : Nat → List D → Option D} {B : Heap} {mg : Str → Option Value} {kF : Nat}
  {sc : Scope} {ρ : Rho} {env : Env} {Wb X W : Addr → Prop} {A : Around} {s : Shared} {E : Value → Shared → Prop} {n m N : Nat}

theorem call_raises (G : Gl prog w C F B mg kF) {f : Str} {np pos : Pos} {args : List Expr} {qs : List PE} {ds : List D} {a : Addr} {o : Obj} {fd : FuncData} {Cc : Addr} {x : Str} {Q : Value → Shared → Prop}
    (hg : isGlobalName sc f = true) (h1 : mapO (cE C m sc) args = some qs) (h2 : mapO (evE F N ρ) qs = some ds) (hm : mg f = some (.ref a)) (ho : B.get? a = some o) (hd : o.data = .func fd) (hr : RaiseSpec prog w B kF a ds Cc x)
    (hy : Hy prog w C B mg kF W env sc ρ A s) (hex : C.exc = true) (hE : ∀ s₁ l e h' tk, Kp s s₁ → A.frames = some l → Flown l s₁.heap e Cc x h' → E (.ref e) { s₁ with heap := h', toks := tk }) :
    wpAny (model prog w) A (eval (.Call (.Name f np) args [] pos) env) Q E s := by
  obtain ⟨k1, k2⟩ := glob_kind hy hg
  have hp := mapO_plain (fun _ _ => cE_plain) h1
  refine Call_Name rfl (name_gl G hy k1 hm ?_ k2)
  refine callWith_function (o := o) (fd := fd) (args_of hp (wpAny_mono (splice_E (snd_all (prog := prog) (w := w) G N).1 h1 h2 hy) (fun vs s₁ q => ?_) fun _ _ e => e))
  have hy₁ := hy.kp q.1
  exact ⟨⟨hy₁.bk _ _ ho, hd⟩, hr W A s₁ vs _ _ hy.ok (hy₁.fr hex) hy₁.bk hy₁.wk hy.wb q.2 fun l e h' tk hl hf => hE s₁ l e h' tk q.1 hl hf⟩

/-- what the reading def knows of its two clauses -/
structure RdOk (C : Cx) (mg : Str → Option Value) (B : Heap) (scope : Scope) (e1 e2 fault : Str) (C1 C2 : Addr) (own1 own2 : List Addr) : Prop where
  k1 : scope.names.lookup e1 = some .globalImplicit
  k2 : scope.names.lookup e2 = some .globalImplicit
  d1 : (e1 == ("__debug__" : Str)) = false
  d2 : (e2 == ("__debug__" : Str)) = false
  m1 : mg e1 = some (.ref C1)
  m2 : mg e2 = some (.ref C2)
  x1 : ExcC B C1 own1
  x2 : ExcC B C2 own2
  kf : scope.names.lookup fault = some .local
  df : (fault == ("__debug__" : Str)) = false
  ks : scope.names.lookup ("str" : Str) = some .globalImplicit
  n21 : (Value.ref C2 :: (own2.map Value.ref ++ excMro)).contains (.ref C1) = false

section
variable {fd : FuncData} {params : List Str} {gρ : Rho} {rp tp : Pos} {e1 e2 fault pre1 pre2 : Str} {g1 g2 : ExceptHandler} {C1 C2 : Addr} {own1 own2 : List Addr}

theorem read_ok (G : Gl prog w C F B mg kF) {e : Expr} (DO : DefOk0 C fd params [.Try [.Return (some e) rp] [g1, g2] [] [] tp]) (GD : GlData prog w C B mg gρ)
    {a : Addr} {o : Obj} (ho : B.get? a = some o) (hd : o.data = .func fd) (hcode : B.CodeRec fd.code fd.qualname)
    {ds : List D} {d : D} {p : PE} (hl : params.length = ds.length) (hc : cE C m fd.scope e = some p) (he : evE F N (rhoP C.names params ds ++ gρ) p = some d) : FnSpec prog w B (kF + 1) true a ds d :=
  call_in G DO GD ho hd hcode hl (fun _ => rfl) fun W X W' A s s₁ E _ _ hX kp S => wpAny_execs_cons (wpAny_Try_except (wpAny_execs_cons (wpAny_mono (arm_retE G hc he S) (fun f s₂ q => cps fun P k0 => by
    obtain ⟨⟨v, e, rv⟩, X', W'', g, k, S'⟩ := q
    rw [e] at k0
    exact k0 (post_of kp hX k rv)) fun _ _ e => e)))

/-- the raise meets its clause -/
theorem err_tail (G : Gl prog w C F B mg kF) (RD : RdOk C mg B sc e1 e2 fault C1 C2 own1 own2) (k1 : hnOk e1 fault pre1 g1 = some ()) (k2 : hnOk e2 fault pre2 g2 = some ()) (hkd : ∀ y, env.kindOf y = sc.names.lookup y) {outer : List Env} {L e Cc : Addr} {own : List Addr} {h' : Heap} {tk : Nat} {x pre : Str} {Q : Flow → Shared → Prop}
    (hfr : A.frames = some (env :: outer)) (hf : env.frame = some L) (hF : Flown (env :: outer) s.heap e Cc x h') (lk : Lk B mg env s) (hw : (Cc = C1 ∧ own = own1 ∧ pre = pre1) ∨ (Cc = C2 ∧ own = own2 ∧ pre = pre2))
    (hu : A.units + 100 < cLine) (hlen : pre.length + x.length ≤ sizeLine) (h : ∀ s₂ u, KpB (fun a => a = env.locals) s s₂ → Q (.ret (.str (pre ++ x) u)) s₂) :
    wpAny (model prog w) A (noteFrame (.ref e) env) (fun _ s₂ => wpAny (model prog w) A (setFlight (.ref e) none) (fun _ s₃ => wpAny (model prog w) A (handleBy (.ref e) env [g1, g2]) Q E s₃) E s₂) E { s with heap := h', toks := tk } := by
  refine hn_o k1 fun j np p1 p2 p3 p4 p5 p6 pos e1' => hn_o k2 fun j' np' p1' p2' p3' p4' p5' p6' pos' e2' => ?_
  subst e1' e2'
  have kf := (hkd _).trans RD.kf
  have ks := (hkd _).trans RD.ks
  refine first_look hfr hf hF fun s₄ y => ?_
  rcases hw with ⟨rfl, rfl, rfl⟩ | ⟨rfl, rfl, rfl⟩
  · exact clause_yes G lk y ((hkd _).trans RD.k1) RD.d1 RD.m1 RD.x1 (by simp) kf RD.df ks hu hlen h
  · exact clause_no G lk y ((hkd _).trans RD.k1) RD.d1 RD.m1 RD.x2 RD.x1 RD.n21 (clause_yes G lk y ((hkd _).trans RD.k2) RD.d2 RD.m2 RD.x2 (by simp) kf RD.df ks hu hlen h)

theorem read_err (G : Gl prog w C F B mg kF) {t ca cb : Expr} {ip : Pos} (DO : DefOk0 C fd params [.Try [.Return (some (.IfExp t ca cb ip)) rp] [g1, g2] [] [] tp]) (GD : GlData prog w C B mg gρ)
    (k1 : hnOk e1 fault pre1 g1 = some ()) (k2 : hnOk e2 fault pre2 g2 = some ()) (RD : RdOk C mg B fd.scope e1 e2 fault C1 C2 own1 own2)
    {a : Addr} {o : Obj} (ho : B.get? a = some o) (hd : o.data = .func fd) (hcode : B.CodeRec fd.code fd.qualname) (hex : C.exc = true)
    {ds : List D} {pt : PE} {c : Bool} (hl : params.length = ds.length) (hc : cE C m fd.scope t = some pt) (ht : evT F N (rhoP C.names params ds ++ gρ) pt = some c)
    {f : Str} {np pos : Pos} {args : List Expr} {qs : List PE} {es : List D} {af : Addr} {oF : Obj} {fF : FuncData} {x pre : Str} {Cc : Addr} {own : List Addr} (hbr : (bif c then ca else cb) = .Call (.Name f np) args [] pos)
    (hg : isGlobalName fd.scope f = true) (h1 : mapO (cE C m fd.scope) args = some qs) (h2 : mapO (evE F N (rhoP C.names params ds ++ gρ)) qs = some es) (hm : mg f = some (.ref af)) (hoF : B.get? af = some oF) (hdF : oF.data = .func fF) (hr : RaiseSpec prog w B kF af es Cc x)
    (hw : (Cc = C1 ∧ own = own1 ∧ pre = pre1) ∨ (Cc = C2 ∧ own = own2 ∧ pre = pre2)) (hlen : pre.length + x.length ≤ sizeLine) (hso : PyData.strOk (pre ++ x) = true) : FnSpec prog w B (kF + 1) true a ds (.str (pre ++ x)) := by
  refine call_in G DO GD ho hd hcode hl (fun _ => rfl) fun W X W' A s s₁ E hok hfr hX kp S => ?_
  obtain ⟨l₀, hl₀, _⟩ := (hfr rfl).st
  have hfl' := Around.frames_deeper (env := callEnvC fd s.heap.objs.size a) hl₀
  have hu : (A.deeper (callEnvC fd s.heap.objs.size a)).units + 100 < cLine := by
    have := hok.un
    show A.units + 3 + 100 < 9900
    omega
  have hlen' : (pre ++ x).length ≤ sizeLine := by rw [len_append]; exact hlen
  refine wpAny_execs_cons (wpAny_Try_except (wpAny_execs_cons (wpAny_Return_some (wpAny_IfExp (wpAny_mono ((snd_all (prog := prog) (w := w) G N).2.1 m fd.scope t pt _ c _ W' _ s₁ _ hc ht S.hy) (fun c' s₂ q => cps fun P k0 => ?_) fun _ _ e => e)))))
  rw [q.1] at k0
  have S₂ := S.kp q.2
  have go : ∀ (Q0 : Value → Shared → Prop) (Q : Flow → Shared → Prop) (E' : Value → Shared → Prop), (∀ s₅ v, Post prog w W s (.str (pre ++ x)) v s₅ → Q (.ret v) s₅) → wpAny (model prog w) (A.deeper (callEnvC fd s.heap.objs.size a)) (eval (bif c then ca else cb) (callEnvC fd s.heap.objs.size a)) Q0
      (fun e s₁ => wpAny (model prog w) (A.deeper (callEnvC fd s.heap.objs.size a)) (noteFrame e (callEnvC fd s.heap.objs.size a)) (fun _ s₂ => wpAny (model prog w) (A.deeper (callEnvC fd s.heap.objs.size a)) (setFlight e none) (fun _ s₃ => wpAny (model prog w) (A.deeper (callEnvC fd s.heap.objs.size a)) (handleBy e (callEnvC fd s.heap.objs.size a) [g1, g2]) Q E' s₃) E' s₂) E' s₁) s₂ := fun Q0 Q E' hQ => by
    rw [hbr]
    refine call_raises (N := N) (m := m) (ρ := rhoP C.names params ds ++ gρ) (sc := fd.scope) (W := W') G hg h1 h2 hm hoF hdF hr S₂.hy hex fun s₃ l e h' tk k₃ hfl hF => ?_
    rw [hfl'] at hfl
    cases hfl
    have S₃ := S₂.kp k₃
    have lk : Lk B mg (callEnvC fd s.heap.objs.size a) s₃ := ⟨S₃.hy.ke.kf, S₃.hy.ke.gl, S₃.hy.ke.bl, let ⟨m, h, _⟩ := S₃.hy.ke.ns; ⟨m, h⟩, S₃.hy.bk, S₃.hy.wb _ (S₃.xw _ S₃.xl)⟩
    exact err_tail (L := s.heap.objs.size) G RD k1 k2 (fun _ => rfl) hfl' rfl hF lk hw hu hlen fun s₅ u k₅ => hQ _ _ (post_of (X := fun b => b = (callEnvC fd s.heap.objs.size a).locals) ((kp.trans q.2).trans k₃) (fun b q => (by rw [q]; exact get_size _)) k₅ (rep_str hso hlen'))
  cases c with
  | true => exact k0 (go _ _ _ fun _ _ h => h)
  | false => exact k0 (go _ _ _ fun _ _ h => h)
end
end
end Ev
namespace Ev
open PySem

/-- the table of the marks, as data -/
noncomputable def tokL : List (D × D) := [(.str ⟨#[33]⟩, .int 54), (.str ⟨#[33, 61]⟩, .int 28), (.str ⟨#[37]⟩, .int 24), (.str ⟨#[37, 61]⟩, .int 40), (.str ⟨#[38]⟩, .int 19), (.str ⟨#[38, 61]⟩, .int 41), (.str ⟨#[40]⟩, .int 7), (.str ⟨#[41]⟩, .int 8), (.str ⟨#[42]⟩, .int 16), (.str ⟨#[42, 42]⟩, .int 35), (.str ⟨#[42, 42, 61]⟩, .int 46), (.str ⟨#[42, 61]⟩, .int 38), (.str ⟨#[43]⟩, .int 14), (.str ⟨#[43, 61]⟩, .int 36), (.str ⟨#[44]⟩, .int 12), (.str ⟨#[45]⟩, .int 15), (.str ⟨#[45, 61]⟩, .int 37), (.str ⟨#[45, 62]⟩, .int 51), (.str ⟨#[46]⟩, .int 23), (.str ⟨#[46, 46, 46]⟩, .int 52), (.str ⟨#[47]⟩, .int 17), (.str ⟨#[47, 47]⟩, .int 47), (.str ⟨#[47, 47, 61]⟩, .int 48), (.str ⟨#[47, 61]⟩, .int 39), (.str ⟨#[58]⟩, .int 11), (.str ⟨#[58, 61]⟩, .int 53), (.str ⟨#[59]⟩, .int 13), (.str ⟨#[60]⟩, .int 20), (.str ⟨#[60, 60]⟩, .int 33), (.str ⟨#[60, 60, 61]⟩, .int 44), (.str ⟨#[60, 61]⟩, .int 29), (.str ⟨#[61]⟩, .int 22), (.str ⟨#[61, 61]⟩, .int 27), (.str ⟨#[62]⟩, .int 21), (.str ⟨#[62, 61]⟩, .int 30), (.str ⟨#[62, 62]⟩, .int 34), (.str ⟨#[62, 62, 61]⟩, .int 45), (.str ⟨#[64]⟩, .int 49), (.str ⟨#[64, 61]⟩, .int 50), (.str ⟨#[91]⟩, .int 9), (.str ⟨#[93]⟩, .int 10), (.str ⟨#[94]⟩, .int 32), (.str ⟨#[94, 61]⟩, .int 43), (.str ⟨#[123]⟩, .int 25), (.str ⟨#[124]⟩, .int 18), (.str ⟨#[124, 61]⟩, .int 42), (.str ⟨#[125]⟩, .int 26), (.str ⟨#[126]⟩, .int 31)]
noncomputable def cx_parse229 : Cx := { names := ["resp", "peer", "left", "right", "parts", "host", "port"], O := [], pl := [], gl := [], exc := false, fns := [] }
noncomputable def gl_parse229 : Rho := []
noncomputable def pr_parse229 : List Str := ["resp", "peer"]
noncomputable def cx_parse257 : Cx := { names := ["resp", "dirname", "i", "n", "c"], O := [], pl := [], gl := [], exc := false, fns := [] }
noncomputable def gl_parse257 : Rho := []
noncomputable def pr_parse257 : List Str := ["resp"]
noncomputable def cx_lt : Cx := { names := ["a", "b"], O := [], pl := [], gl := [], exc := false, fns := [] }
noncomputable def gl_lt : Rho := []
noncomputable def pr_lt : List Str := ["a", "b"]
noncomputable def cx_le : Cx := { names := ["a", "b"], O := [], pl := [], gl := [], exc := false, fns := [] }
noncomputable def gl_le : Rho := []
noncomputable def pr_le : List Str := ["a", "b"]
noncomputable def cx_eq : Cx := { names := ["a", "b"], O := [], pl := [], gl := [], exc := false, fns := [] }
noncomputable def gl_eq : Rho := []
noncomputable def pr_eq : List Str := ["a", "b"]
noncomputable def cx_ne : Cx := { names := ["a", "b"], O := [], pl := [], gl := [], exc := false, fns := [] }
noncomputable def gl_ne : Rho := []
noncomputable def pr_ne : List Str := ["a", "b"]
noncomputable def cx_ge : Cx := { names := ["a", "b"], O := [], pl := [], gl := [], exc := false, fns := [] }
noncomputable def gl_ge : Rho := []
noncomputable def pr_ge : List Str := ["a", "b"]
noncomputable def cx_gt : Cx := { names := ["a", "b"], O := [], pl := [], gl := [], exc := false, fns := [] }
noncomputable def gl_gt : Rho := []
noncomputable def pr_gt : List Str := ["a", "b"]
noncomputable def cx_inv : Cx := { names := ["a"], O := [], pl := [], gl := [], exc := false, fns := [] }
noncomputable def gl_inv : Rho := []
noncomputable def pr_inv : List Str := ["a"]
noncomputable def cx_mul : Cx := { names := ["a", "b"], O := [], pl := [], gl := [], exc := false, fns := [] }
noncomputable def gl_mul : Rho := []
noncomputable def pr_mul : List Str := ["a", "b"]
noncomputable def cx_neg : Cx := { names := ["a"], O := [], pl := [], gl := [], exc := false, fns := [] }
noncomputable def gl_neg : Rho := []
noncomputable def pr_neg : List Str := ["a"]
noncomputable def cx_pos : Cx := { names := ["a"], O := [], pl := [], gl := [], exc := false, fns := [] }
noncomputable def gl_pos : Rho := []
noncomputable def pr_pos : List Str := ["a"]
noncomputable def cx_ISTERMINAL : Cx := { names := ["x", "NT_OFFSET"], O := [], pl := [], gl := [1], exc := false, fns := [] }
noncomputable def gl_ISTERMINAL : Rho := [(1, .int 256)]
noncomputable def pr_ISTERMINAL : List Str := ["x"]
noncomputable def cx_ISNONTERMINAL : Cx := { names := ["x", "NT_OFFSET"], O := [], pl := [], gl := [1], exc := false, fns := [] }
noncomputable def gl_ISNONTERMINAL : Rho := [(1, .int 256)]
noncomputable def pr_ISNONTERMINAL : List Str := ["x"]
noncomputable def cx_ISEOF : Cx := { names := ["x", "ENDMARKER"], O := [], pl := [], gl := [1], exc := false, fns := [] }
noncomputable def gl_ISEOF : Rho := [(1, .int 0)]
noncomputable def pr_ISEOF : List Str := ["x"]
noncomputable def cx_substitution_cost : Cx := { names := ["ch_a", "ch_b", "_MOVE_COST", "_CASE_COST"], O := [], pl := [], gl := [2, 3], exc := false, fns := [] }
noncomputable def gl_substitution_cost : Rho := [(2, .int 2), (3, .int 1)]
noncomputable def pr_substitution_cost : List Str := ["ch_a", "ch_b"]
noncomputable def cx_levenshtein_distance : Cx := { names := ["a", "b", "max_cost", "pre", "post", "row", "result", "bindex", "bchar", "distance", "minimum", "index", "substitute", "insert_delete", "_MOVE_COST", "_MAX_STRING_SIZE", "_substitution_cost"], O := [5], pl := [], gl := [14, 15], exc := false, fns := ["_substitution_cost"] }
noncomputable def gl_levenshtein_distance : Rho := [(14, .int 2), (15, .int 40)]
noncomputable def pr_levenshtein_distance : List Str := ["a", "b", "max_cost"]
noncomputable def cx_law_read : Cx := { names := ["reply", "quoted", "fault", "parse257", "parse229"], O := [], pl := [], gl := [], exc := true, fns := ["parse257", "parse229"] }
noncomputable def gl_law_read : Rho := []
noncomputable def pr_law_read : List Str := ["reply", "quoted"]
noncomputable def cx_law_number : Cx := { names := ["symbol", "port", "inv", "pos", "neg"], O := [], pl := [], gl := [], exc := false, fns := ["inv", "pos", "neg"] }
noncomputable def gl_law_number : Rho := []
noncomputable def pr_law_number : List Str := ["symbol", "port"]
noncomputable def cx_law_holds : Cx := { names := ["symbol", "one", "other", "le", "ge", "lt", "gt", "eq", "ne"], O := [], pl := [], gl := [], exc := false, fns := ["le", "ge", "lt", "gt", "eq", "ne"] }
noncomputable def gl_law_holds : Rho := []
noncomputable def pr_law_holds : List Str := ["symbol", "one", "other"]
noncomputable def cx_law_plain : Cx := { names := ["draw", "one", "other"], O := [], pl := [], gl := [], exc := false, fns := [] }
noncomputable def gl_law_plain : Rho := []
noncomputable def pr_law_plain : List Str := ["draw", "one", "other"]
noncomputable def cx_law_symbols : Cx := { names := ["text", "row", "size", "EXACT_TOKEN_TYPES"], O := [1], pl := [1], gl := [3], exc := false, fns := [] }
noncomputable def gl_law_symbols : Rho := [(3, .dict tokL)]
noncomputable def pr_law_symbols : List Str := ["text"]
noncomputable def cx_law_beaten : Cx := { names := ["answers", "beaten", "games", "k", "game", "one", "other"], O := [1], pl := [], gl := [], exc := false, fns := [] }
noncomputable def gl_law_beaten : Rho := []
noncomputable def pr_law_beaten : List Str := ["answers"]
noncomputable def cx_law_walks : Cx := { names := ["words", "beaten", "steps", "step", "word", "one"], O := [], pl := [], gl := [], exc := false, fns := [] }
noncomputable def gl_law_walks : Rho := []
noncomputable def pr_law_walks : List Str := ["words", "beaten", "steps"]
noncomputable def cx_law : Cx := { names := (["script", "cells", "more", "marks", "figures", "fills", "insides", "ports", "forms", "codes", "due", "draws", "page", "row", "symbols", "kinds", "numbers", "plain", "pairs", "told", "own", "rings", "beaten", "threes", "fours", "orders", "ends", "word", "grown", "lost", "great", "price"] : List Str) ++ (["ways", "order", "changed", "sized", "mark", "inside", "symbol", "k", "cell", "code", "p", "q", "answer", "one", "way", "figure", "reply", "end", "draw", "EXACT_TOKEN_TYPES", "_law_symbols", "_law_beaten", "_law_walks", "_law_read", "_law_number", "_law_holds", "mul", "_levenshtein_distance", "ISTERMINAL", "ISNONTERMINAL", "ISEOF", "_law_plain"] : List Str), O := [32], pl := [], gl := [51], exc := true, fns := ["_law_symbols", "_law_beaten", "_law_walks", "_law_read", "_law_number", "_law_holds", "mul", "_levenshtein_distance", "ISTERMINAL", "ISNONTERMINAL", "ISEOF", "_law_plain"] }
noncomputable def gl_law : Rho := [(51, .dict tokL)]
noncomputable def pr_law : List Str := ["script"]
end Ev
namespace Ev
open PySem
noncomputable def ps_parse229 : List PS := [
  .iff (.cmp .NotEq (.slice (.own 0) none (some (.lit (.int 3))) none) (.lit (.str ⟨#[50, 50, 57]⟩))) [.raise ⟨#[101, 114, 114, 111, 114, 95, 114, 101, 112, 108, 121]⟩ (.var 0)] [],
  .set 2 (.meth ⟨#[102, 105, 110, 100]⟩ (.var 0) [(.lit (.str ⟨#[40]⟩))]),
  .iff (.cmp .Lt (.own 2) (.lit (.int 0))) [.raise ⟨#[101, 114, 114, 111, 114, 95, 112, 114, 111, 116, 111]⟩ (.var 0)] [],
  .set 3 (.meth ⟨#[102, 105, 110, 100]⟩ (.var 0) [(.lit (.str ⟨#[41]⟩)), (.bin .Add (.own 2) (.lit (.int 1)))]),
  .iff (.cmp .Lt (.own 3) (.lit (.int 0))) [.raise ⟨#[101, 114, 114, 111, 114, 95, 112, 114, 111, 116, 111]⟩ (.var 0)] [],
  .iff (.cmp .NotEq (.item (.own 0) (.bin .Add (.own 2) (.lit (.int 1)))) (.item (.own 0) (.bin .Sub (.own 3) (.lit (.int 1))))) [.raise ⟨#[101, 114, 114, 111, 114, 95, 112, 114, 111, 116, 111]⟩ (.var 0)] [],
  .set 4 (.meth ⟨#[115, 112, 108, 105, 116]⟩ (.slice (.own 0) (some (.bin .Add (.own 2) (.lit (.int 1)))) (some (.var 3)) none) [(.item (.own 0) (.bin .Add (.own 2) (.lit (.int 1))))]),
  .iff (.cmp .NotEq (.bi ⟨#[108, 101, 110]⟩ [(.own 4)]) (.lit (.int 5))) [.raise ⟨#[101, 114, 114, 111, 114, 95, 112, 114, 111, 116, 111]⟩ (.var 0)] [],
  .set 5 (.item (.own 1) (.lit (.int 0))),
  .set 6 (.ty ⟨#[105, 110, 116]⟩ [(.item (.own 4) (.lit (.int 3)))]),
  .ret (.tuple [(.var 5), (.var 6)])]
noncomputable def ps_parse257 : List PS := [
  .iff (.cmp .NotEq (.slice (.own 0) none (some (.lit (.int 3))) none) (.lit (.str ⟨#[50, 53, 55]⟩))) [.raise ⟨#[101, 114, 114, 111, 114, 95, 114, 101, 112, 108, 121]⟩ (.var 0)] [],
  .iff (.cmp .NotEq (.slice (.own 0) (some (.lit (.int 3))) (some (.lit (.int 5))) none) (.lit (.str ⟨#[32, 34]⟩))) [.ret (.lit (.str ⟨#[]⟩))] [],
  .set 1 (.lit (.str ⟨#[]⟩)),
  .set 2 (.lit (.int 5)),
  .set 3 (.bi ⟨#[108, 101, 110]⟩ [(.own 0)]),
  .whl (.cmp .Lt (.own 2) (.own 3)) [.set 4 (.item (.own 0) (.var 2)), .set 2 (.bin .Add (.own 2) (.lit (.int 1))), .iff (.cmp .Eq (.own 4) (.lit (.str ⟨#[34]⟩))) [.iff (.any [(.cmp .GtE (.own 2) (.own 3)), (.cmp .NotEq (.item (.own 0) (.var 2)) (.lit (.str ⟨#[34]⟩)))]) [.brk] [], .set 2 (.bin .Add (.own 2) (.lit (.int 1)))] [], .set 1 (.bin .Add (.own 1) (.own 4))],
  .ret (.var 1)]
noncomputable def ps_lt : List PS := [
  .ret (.cmp .Lt (.own 0) (.own 1))]
noncomputable def ps_le : List PS := [
  .ret (.cmp .LtE (.own 0) (.own 1))]
noncomputable def ps_eq : List PS := [
  .ret (.cmp .Eq (.own 0) (.own 1))]
noncomputable def ps_ne : List PS := [
  .ret (.cmp .NotEq (.own 0) (.own 1))]
noncomputable def ps_ge : List PS := [
  .ret (.cmp .GtE (.own 0) (.own 1))]
noncomputable def ps_gt : List PS := [
  .ret (.cmp .Gt (.own 0) (.own 1))]
noncomputable def ps_inv : List PS := [
  .ret (.un .Invert (.var 0))]
noncomputable def ps_mul : List PS := [
  .ret (.bin .Mult (.own 0) (.own 1))]
noncomputable def ps_neg : List PS := [
  .ret (.un .USub (.var 0))]
noncomputable def ps_pos : List PS := [
  .ret (.un .UAdd (.var 0))]
noncomputable def ps_ISTERMINAL : List PS := [
  .ret (.cmp .Lt (.own 0) (.own 1))]
noncomputable def ps_ISNONTERMINAL : List PS := [
  .ret (.cmp .GtE (.own 0) (.own 1))]
noncomputable def ps_ISEOF : List PS := [
  .ret (.cmp .Eq (.own 0) (.own 1))]
noncomputable def ps_substitution_cost : List PS := [
  .iff (.cmp .Eq (.own 0) (.own 1)) [.ret (.lit (.int 0))] [],
  .iff (.cmp .Eq (.meth ⟨#[108, 111, 119, 101, 114]⟩ (.var 0) []) (.meth ⟨#[108, 111, 119, 101, 114]⟩ (.var 1) [])) [.ret (.var 3)] [],
  .ret (.var 2)]
noncomputable def ps_levenshtein_distance_0 : PS := .iff (.cmp .Eq (.own 0) (.own 1)) [.ret (.lit (.int 0))] []
noncomputable def ps_levenshtein_distance_1 : PS := .set 3 (.lit (.int 0))
noncomputable def ps_levenshtein_distance_2 : PS := .whl (.all [(.slice (.own 0) (some (.var 3)) none none), (.slice (.own 1) (some (.var 3)) none none), (.cmp .Eq (.item (.own 0) (.var 3)) (.item (.own 1) (.var 3)))]) [.aug 3 .Add (.lit (.int 1))]
noncomputable def ps_levenshtein_distance_3 : PS := .set 0 (.slice (.own 0) (some (.var 3)) none none)
noncomputable def ps_levenshtein_distance_4 : PS := .set 1 (.slice (.own 1) (some (.var 3)) none none)
noncomputable def ps_levenshtein_distance_5 : PS := .set 4 (.lit (.int 0))
noncomputable def ps_levenshtein_distance_6 : PS := .whl (.all [(.slice (.own 0) none (some (.any [(.var 4), (.lit .none)])) none), (.slice (.own 1) none (some (.any [(.var 4), (.lit .none)])) none), (.cmp .Eq (.item (.own 0) (.bin .Sub (.own 4) (.lit (.int 1)))) (.item (.own 1) (.bin .Sub (.own 4) (.lit (.int 1)))))]) [.aug 4 .Sub (.lit (.int 1))]
noncomputable def ps_levenshtein_distance_7 : PS := .set 0 (.slice (.own 0) none (some (.any [(.var 4), (.lit .none)])) none)
noncomputable def ps_levenshtein_distance_8 : PS := .set 1 (.slice (.own 1) none (some (.any [(.var 4), (.lit .none)])) none)
noncomputable def ps_levenshtein_distance_9 : PS := .iff (.any [(.no (.var 0)), (.no (.var 1))]) [.ret (.bin .Mult (.own 14) (.bin .Add (.bi ⟨#[108, 101, 110]⟩ [(.own 0)]) (.bi ⟨#[108, 101, 110]⟩ [(.own 1)])))] []
noncomputable def ps_levenshtein_distance_10 : PS := .iff (.any [(.cmp .Gt (.bi ⟨#[108, 101, 110]⟩ [(.own 0)]) (.own 15)), (.cmp .Gt (.bi ⟨#[108, 101, 110]⟩ [(.own 1)]) (.own 15))]) [.ret (.bin .Add (.own 2) (.lit (.int 1)))] []
noncomputable def ps_levenshtein_distance_11 : PS := .iff (.cmp .Lt (.bi ⟨#[108, 101, 110]⟩ [(.own 1)]) (.bi ⟨#[108, 101, 110]⟩ [(.own 0)])) [.pair 0 1 (.var 1) (.var 0)] []
noncomputable def ps_levenshtein_distance_12 : PS := .iff (.cmp .Gt (.bin .Mult (.bin .Sub (.bi ⟨#[108, 101, 110]⟩ [(.own 1)]) (.bi ⟨#[108, 101, 110]⟩ [(.own 0)])) (.own 14)) (.own 2)) [.ret (.bin .Add (.own 2) (.lit (.int 1)))] []
noncomputable def ps_levenshtein_distance_13 : PS := .new 5 (.listR [(.var 14), (.bin .Mult (.own 14) (.bin .Add (.bi ⟨#[108, 101, 110]⟩ [(.own 0)]) (.lit (.int 1)))), (.var 14)])
noncomputable def ps_levenshtein_distance_14 : PS := .set 6 (.lit (.int 0))
noncomputable def ps_levenshtein_distance_15 : PS := .forR 7 [(.bi ⟨#[108, 101, 110]⟩ [(.own 1)])] [.set 8 (.item (.own 1) (.var 7)), .set2 9 6 (.bin .Mult (.own 7) (.own 14)), .set 10 (.lit (.int 9223372036854775807)), .forR 11 [(.bi ⟨#[108, 101, 110]⟩ [(.own 0)])] [.set 12 (.bin .Add (.own 9) (.fn 16 [(.var 8), (.item (.own 0) (.var 11))])), .set 9 (.item (.own 5) (.var 11)), .set 13 (.bin .Add (.bi ⟨#[109, 105, 110]⟩ [(.own 6), (.own 9)]) (.own 14)), .set 6 (.bi ⟨#[109, 105, 110]⟩ [(.own 13), (.own 12)]), .setI 5 (.var 11) (.var 6), .iff (.cmp .Lt (.own 6) (.own 10)) [.set 10 (.var 6)] []], .iff (.cmp .Gt (.own 10) (.own 2)) [.ret (.bin .Add (.own 2) (.lit (.int 1)))] []]
noncomputable def ps_levenshtein_distance_16 : PS := .ret (.var 6)
noncomputable def ps_levenshtein_distance : List PS := ([ps_levenshtein_distance_0, ps_levenshtein_distance_1, ps_levenshtein_distance_2, ps_levenshtein_distance_3, ps_levenshtein_distance_4, ps_levenshtein_distance_5, ps_levenshtein_distance_6, ps_levenshtein_distance_7, ps_levenshtein_distance_8, ps_levenshtein_distance_9, ps_levenshtein_distance_10, ps_levenshtein_distance_11, ps_levenshtein_distance_12, ps_levenshtein_distance_13, ps_levenshtein_distance_14, ps_levenshtein_distance_15, ps_levenshtein_distance_16] : List PS)
noncomputable def ps_law_number : List PS := [
  .iff (.cmp .Eq (.own 0) (.lit (.int 31))) [.ret (.fn 2 [(.var 1)])] [],
  .ret (.ite (.cmp .Eq (.own 0) (.lit (.int 14))) (.fn 3 [(.var 1)]) (.ite (.cmp .Eq (.own 0) (.lit (.int 15))) (.fn 4 [(.var 1)]) (.lit .none)))]
noncomputable def ps_law_holds : List PS := [
  .iff (.cmp .In (.own 0) (.tuple [(.lit (.int 20)), (.lit (.int 21))])) [.ret (.ite (.cmp .Eq (.own 0) (.lit (.int 20))) (.fn 5 [(.var 1), (.var 2)]) (.fn 6 [(.var 1), (.var 2)]))] [],
  .iff (.cmp .In (.own 0) (.tuple [(.lit (.int 27)), (.lit (.int 28))])) [.ret (.ite (.cmp .Eq (.own 0) (.lit (.int 27))) (.fn 7 [(.var 1), (.var 2)]) (.fn 8 [(.var 1), (.var 2)]))] [],
  .ret (.ite (.cmp .Eq (.own 0) (.lit (.int 29))) (.fn 3 [(.var 1), (.var 2)]) (.fn 4 [(.var 1), (.var 2)]))]
noncomputable def ps_law_plain : List PS := [
  .ret (.item (.list [(.cmp .Lt (.own 1) (.own 2)), (.cmp .Gt (.own 1) (.own 2)), (.cmp .LtE (.own 1) (.own 2)), (.cmp .GtE (.own 1) (.own 2)), (.cmp .Eq (.own 1) (.own 2)), (.cmp .NotEq (.own 1) (.own 2))]) (.var 0))]
noncomputable def ps_law_symbols : List PS := [
  .new 1 (.list []),
  .whl (.cmp .NotEq (.own 0) (.lit (.str ⟨#[]⟩))) [.set 2 (.lit (.int 3)), .whl (.all [(.cmp .Gt (.own 2) (.lit (.int 1))), (.cmp .NotIn (.slice (.own 0) none (some (.var 2)) none) (.own 3))]) [.aug 2 .Sub (.lit (.int 1))], .app 1 (.meth ⟨#[103, 101, 116]⟩ (.var 3) [(.slice (.own 0) none (some (.var 2)) none), (.ite (.cmp .Eq (.item (.own 0) (.lit (.int 0))) (.lit (.str ⟨#[34]⟩))) (.lit (.int 256)) (.lit (.int 255)))]), .set 0 (.slice (.own 0) (some (.var 2)) none none)],
  .ret (.bin .Add (.own 1) (.list [(.lit (.int 0))]))]
noncomputable def ps_law_beaten : List PS := [
  .dnew 1 [((.str ⟨#[97]⟩), (.str ⟨#[]⟩)), ((.str ⟨#[98]⟩), (.str ⟨#[]⟩)), ((.str ⟨#[99]⟩), (.str ⟨#[]⟩)), ((.str ⟨#[100]⟩), (.str ⟨#[]⟩)), ((.str ⟨#[101]⟩), (.str ⟨#[]⟩))],
  .set 2 (.comp (.bin .Add (.own 5) (.own 6)) [(5, (.lit (.str ⟨#[97, 98, 99, 100]⟩)), []), (6, (.lit (.str ⟨#[98, 99, 100, 101]⟩)), [(.cmp .Lt (.own 5) (.own 6))])]),
  .forR 3 [(.lit (.int 10))] [.set 4 (.ite (.item (.own 0) (.var 3)) (.item (.own 2) (.var 3)) (.bin .Add (.item (.item (.own 2) (.var 3)) (.lit (.int 1))) (.item (.item (.own 2) (.var 3)) (.lit (.int 0))))), .dAug 1 (.item (.own 4) (.lit (.int 0))) (.item (.own 4) (.lit (.int 1)))],
  .retO 1]
noncomputable def ps_law_walks : List PS := [
  .forR 3 [(.var 2)] [.set 0 (.comp (.bin .Add (.own 4) (.own 5)) [(4, (.own 0), []), (5, (.item (.own 1) (.item (.own 4) (.un .USub (.lit (.int 1))))), [(.cmp .NotIn (.own 5) (.own 4))])])],
  .ret (.var 0)]
noncomputable def ps_law_0 : PS := .set 1 (.comp (.bin .Add (.item (.list [(.lit (.int 73)), (.lit (.int 65)), (.lit (.int 42)), (.lit (.int 10)), (.lit (.int 2)), (.lit (.int 37374118))]) (.var 39)) (.bi ⟨#[115, 117, 109]⟩ [(.slice (.own 0) (some (.var 39)) none (some (.lit (.int 6))))])) [(39, (.range [(.lit (.int 6))]), [])])
noncomputable def ps_law_1 : PS := .set 2 (.bin .Add (.bin .FloorDiv (.item (.own 1) (.lit (.int 5))) (.bin .Pow (.lit (.int 6)) (.lit (.int 10)))) (.bi ⟨#[108, 101, 110]⟩ [(.own 0)]))
noncomputable def ps_law_2 : PS := .set 3 (.comp (.item (.lit (.str ⟨#[43, 45, 126]⟩)) (.bin .Mod (.own 40) (.lit (.int 3)))) [(40, (.slice (.own 1) none (some (.lit (.int 5))) none), [])])
noncomputable def ps_law_3 : PS := .set 4 (.comp (.bin .Mod (.bin .FloorDiv (.own 40) (.lit (.int 12))) (.lit (.int 1000))) [(40, (.slice (.own 1) none (some (.lit (.int 5))) none), [])])
noncomputable def ps_law_4 : PS := .set 5 (.comp (.item (.list [(.lit (.str ⟨#[]⟩)), (.lit (.str ⟨#[57]⟩)), (.lit (.str ⟨#[40]⟩)), (.lit (.str ⟨#[32]⟩))]) (.bin .Mod (.bin .FloorDiv (.own 40) (.lit (.int 3))) (.lit (.int 4)))) [(40, (.slice (.own 1) none (some (.lit (.int 5))) none), [])])
noncomputable def ps_law_5 : PS := .set 6 (.comp (.bin .Add (.bin .Add (.bin .Add (.bin .Add (.bin .Add (.item (.own 3) (.var 39)) (.item (.own 5) (.var 39))) (.item (.own 3) (.var 39))) (.item (.own 5) (.bin .Sub (.own 39) (.lit (.int 1))))) (.item (.own 3) (.var 39))) (.ty ⟨#[115, 116, 114]⟩ [(.item (.own 4) (.var 39))])) [(39, (.range [(.lit (.int 5))]), [])])
noncomputable def ps_law_6 : PS := .set 7 (.comp (.fn 55 [(.bin .Add (.bin .Add (.bin .Add (.bin .Add (.bin .Add (.lit (.str ⟨#[50, 50, 57, 32, 111, 107, 41, 32, 40]⟩)) (.item (.own 6) (.var 39))) (.item (.own 3) (.var 39))) (.lit (.str ⟨#[41, 32, 40, 120]⟩))) (.item (.own 3) (.var 39))) (.lit (.str ⟨#[41]⟩))), (.lit (.bool false))]) [(39, (.range [(.lit (.int 5))]), [])])
noncomputable def ps_law_7 : PS := .iff (.cmp .NotEq (.own 7) (.comp (.tuple [(.lit (.str ⟨#[104, 101, 114, 101]⟩)), (.var 47)]) [(47, (.own 4), [])])) [.ret (.lit (.bool false))] []
noncomputable def ps_law_8 : PS := .pair 36 37 (.item (.own 3) (.bin .Mod (.own 2) (.lit (.int 5)))) (.item (.own 6) (.bin .Mod (.own 2) (.lit (.int 5))))
noncomputable def ps_law_9 : PS := .set 8 (.list [(.lit (.str ⟨#[50, 50, 57, 32, 111, 107, 50, 57, 50, 41]⟩)), (.bin .Add (.bin .Add (.bin .Add (.lit (.str ⟨#[50, 50, 57, 32, 111, 107, 41, 32, 40]⟩)) (.own 37)) (.own 36)) (.lit (.str ⟨#[120]⟩))), (.bin .Add (.bin .Add (.bin .Add (.lit (.str ⟨#[50, 50, 57, 32, 40]⟩)) (.own 37)) (.bin .Mult (.own 36) (.lit (.int 2)))) (.lit (.str ⟨#[41]⟩)))])
noncomputable def ps_law_10 : PS := .set 8 (.bin .Add (.own 8) (.list [(.bin .Add (.bin .Add (.bin .Add (.bin .Add (.lit (.str ⟨#[50, 50, 57, 32, 40]⟩)) (.bin .Mult (.own 36) (.lit (.int 3)))) (.lit (.str ⟨#[57]⟩))) (.own 36)) (.lit (.str ⟨#[120, 41]⟩))), (.bin .Add (.bin .Add (.bin .Add (.bin .Add (.bin .Add (.bin .Add (.lit (.str ⟨#[50, 50, 57, 32, 40]⟩)) (.own 36)) (.lit (.str ⟨#[57]⟩))) (.own 36)) (.lit (.str ⟨#[57]⟩))) (.own 36)) (.lit (.str ⟨#[41]⟩)))]))
noncomputable def ps_law_11 : PS := .set 9 (.comp (.bin .Add (.bin .Add (.bin .Add (.bin .Add (.bin .Add (.own 41) (.lit (.str ⟨#[32, 40]⟩))) (.bin .Mult (.own 36) (.lit (.int 3)))) (.lit (.str ⟨#[57]⟩))) (.own 36)) (.lit (.str ⟨#[41]⟩))) [(41, (.list [(.lit (.str ⟨#[49, 50, 57]⟩)), (.lit (.str ⟨#[50, 49, 57]⟩)), (.lit (.str ⟨#[50, 50, 56]⟩))]), [])])
noncomputable def ps_law_12 : PS := .set 10 (.bin .Add (.comp (.bin .Add (.lit (.str ⟨#[102, 111, 114, 109, 32]⟩)) (.own 48)) [(48, (.own 8), [])]) (.comp (.bin .Add (.lit (.str ⟨#[99, 111, 100, 101, 32]⟩)) (.own 48)) [(48, (.own 9), [])]))
noncomputable def ps_law_13 : PS := .iff (.cmp .NotEq (.comp (.fn 55 [(.var 48), (.lit (.bool false))]) [(48, (.bin .Add (.own 8) (.own 9)), [])]) (.own 10)) [.ret (.lit (.bool false))] []
noncomputable def ps_law_14 : PS := .set 11 (.comp (.bin .Mod (.bin .FloorDiv (.item (.own 1) (.lit (.int 5))) (.bin .Pow (.lit (.int 6)) (.own 39))) (.lit (.int 6))) [(39, (.range [(.lit (.int 10))]), [])])
noncomputable def ps_law_15 : PS := .set 12 (.bin .Add (.bin .Add (.lit (.str ⟨#[34, 32]⟩)) (.meth ⟨#[106, 111, 105, 110]⟩ (.lit (.str ⟨#[34, 34]⟩)) [(.comp (.item (.list [(.lit (.str ⟨#[60]⟩)), (.lit (.str ⟨#[62]⟩)), (.lit (.str ⟨#[60, 61]⟩)), (.lit (.str ⟨#[62, 61]⟩)), (.lit (.str ⟨#[61, 61]⟩)), (.lit (.str ⟨#[33, 61]⟩))]) (.var 50)) [(50, (.own 11), [])])])) (.lit (.str ⟨#[34, 32, 97, 110, 100, 32, 34, 115, 111, 32, 111, 110, 34]⟩)))
noncomputable def ps_law_16 : PS := .set 9 (.comp (.bin .Add (.own 41) (.own 12)) [(41, (.list [(.lit (.str ⟨#[49, 53, 55, 32]⟩)), (.lit (.str ⟨#[50, 52, 55, 32]⟩)), (.lit (.str ⟨#[50, 53, 54, 32]⟩))]), [])])
noncomputable def ps_law_17 : PS := .set 10 (.bin .Add (.comp (.bin .Add (.lit (.str ⟨#[99, 111, 100, 101, 32]⟩)) (.own 48)) [(48, (.own 9), [])]) (.list [(.lit (.str ⟨#[]⟩)), (.lit (.str ⟨#[]⟩))]))
noncomputable def ps_law_18 : PS := .iff (.cmp .NotEq (.comp (.fn 55 [(.var 48), (.lit (.bool true))]) [(48, (.bin .Add (.own 9) (.list [(.bin .Add (.lit (.str ⟨#[50, 53, 55, 45]⟩)) (.own 12)), (.bin .Add (.lit (.str ⟨#[50, 53, 55, 32, 39]⟩)) (.slice (.own 12) (some (.lit (.int 1))) none none))])), [])]) (.own 10)) [.ret (.lit (.bool false))] []
noncomputable def ps_law_19 : PS := .set 13 (.fn 52 [(.fn 55 [(.bin .Add (.lit (.str ⟨#[50, 53, 55, 32]⟩)) (.own 12)), (.lit (.bool true))])])
noncomputable def ps_law_20 : PS := .set 14 (.comp (.var 38) [(38, (.own 13), [(.fn 60 [(.var 38)])])])
noncomputable def ps_law_21 : PS := .iff (.cmp .NotEq (.own 14) (.bin .Add (.bin .Add (.list [(.lit (.int 255))]) (.comp (.item (.list [(.lit (.int 20)), (.lit (.int 21)), (.lit (.int 29)), (.lit (.int 30)), (.lit (.int 27)), (.lit (.int 28))]) (.var 50)) [(50, (.own 11), [])])) (.list [(.lit (.int 0))]))) [.ret (.lit (.bool false))] []
noncomputable def ps_law_22 : PS := .set 15 (.bin .Add (.comp (.fn 61 [(.var 45)]) [(45, (.bin .Add (.own 13) (.own 1)), [])]) (.comp (.fn 62 [(.var 45)]) [(45, (.bin .Add (.own 13) (.own 1)), [])]))
noncomputable def ps_law_23 : PS := .iff (.cmp .NotEq (.own 15) (.bin .Add (.comp (.cmp .Eq (.bi ⟨#[109, 97, 120]⟩ [(.own 45), (.lit (.int 256))]) (.own 45)) [(45, (.bin .Add (.own 13) (.own 1)), [])]) (.comp (.no (.var 45)) [(45, (.bin .Add (.own 13) (.own 1)), [])]))) [.ret (.lit (.bool false))] []
noncomputable def ps_law_24 : PS := .set 15 (.bin .Add (.own 15) (.comp (.fn 60 [(.var 40)]) [(40, (.own 1), [])]))
noncomputable def ps_law_25 : PS := .iff (.cmp .NotEq (.slice (.own 15) (some (.un .USub (.lit (.int 6)))) none none) (.comp (.cmp .Eq (.bi ⟨#[109, 105, 110]⟩ [(.own 40), (.lit (.int 255))]) (.own 40)) [(40, (.own 1), [])])) [.ret (.lit (.bool false))] []
noncomputable def ps_law_26 : PS := .set 16 (.comp (.fn 56 [(.item (.own 51) (.item (.own 3) (.var 39))), (.bin .Add (.bin .Mult (.bin .FloorDiv (.item (.own 1) (.var 39)) (.lit (.int 12000))) (.lit (.int 1000))) (.item (.item (.own 7) (.var 39)) (.lit (.int 1))))]) [(39, (.range [(.lit (.int 5))]), [])])
noncomputable def ps_law_27 : PS := .set 17 (.comp (.item (.list [(.bin .FloorDiv (.own 40) (.lit (.int 12))), (.bin .Sub (.lit (.int 0)) (.bin .FloorDiv (.own 40) (.lit (.int 12)))), (.bin .Sub (.un .USub (.lit (.int 1))) (.bin .FloorDiv (.own 40) (.lit (.int 12))))]) (.bin .Mod (.own 40) (.lit (.int 3)))) [(40, (.slice (.own 1) none (some (.lit (.int 5))) none), [])])
noncomputable def ps_law_28 : PS := .iff (.any [(.cmp .NotEq (.own 16) (.own 17)), (.cmp .NotEq (.fn 58 [(.item (.own 17) (.lit (.int 0))), (.item (.own 17) (.lit (.int 1)))]) (.bin .FloorDiv (.bin .Sub (.bin .Pow (.bin .Add (.item (.own 17) (.lit (.int 0))) (.item (.own 17) (.lit (.int 1)))) (.lit (.int 2))) (.bin .Pow (.bin .Sub (.item (.own 17) (.lit (.int 0))) (.item (.own 17) (.lit (.int 1)))) (.lit (.int 2)))) (.lit (.int 4))))]) [.ret (.lit (.bool false))] []
noncomputable def ps_law_29 : PS := .set 18 (.comp (.tuple [(.var 42), (.var 43)]) [(42, (.range [(.lit (.int 5))]), []), (43, (.range [(.bin .Add (.own 42) (.lit (.int 1))), (.lit (.int 5))]), [])])
noncomputable def ps_law_30 : PS := .set 19 (.comp (.fn 57 [(.item (.own 14) (.bin .Add (.own 39) (.lit (.int 1)))), (.item (.own 16) (.item (.item (.own 18) (.var 39)) (.lit (.int 0)))), (.item (.own 16) (.item (.item (.own 18) (.var 39)) (.lit (.int 1))))]) [(39, (.range [(.lit (.int 10))]), [])])
noncomputable def ps_law_31 : PS := .iff (.cmp .NotEq (.comp (.var 44) [(44, (.bin .Add (.own 19) (.own 15)), [(.all [(.cmp .IsNot (.own 44) (.lit (.bool true))), (.cmp .IsNot (.own 44) (.lit (.bool false)))])])]) (.list [])) [.ret (.lit (.bool false))] []
noncomputable def ps_law_32 : PS := .set 20 (.fn 53 [(.comp (.fn 63 [(.item (.own 11) (.var 39)), (.item (.own 17) (.item (.item (.own 18) (.var 39)) (.lit (.int 0)))), (.item (.own 17) (.item (.item (.own 18) (.var 39)) (.lit (.int 1))))]) [(39, (.range [(.lit (.int 10))]), [])])])
noncomputable def ps_law_33 : PS := .set 21 (.bin .Sub (.lit (.int 10)) (.bi ⟨#[115, 117, 109]⟩ [(.comp (.bin .FloorDiv (.bin .Mult (.bi ⟨#[108, 101, 110]⟩ [(.item (.own 20) (.var 45))]) (.bin .Sub (.bi ⟨#[108, 101, 110]⟩ [(.item (.own 20) (.var 45))]) (.lit (.int 1)))) (.lit (.int 2))) [(45, (.lit (.str ⟨#[97, 98, 99, 100, 101]⟩)), [])])]))
noncomputable def ps_law_34 : PS := .aug 21 .Add (.bi ⟨#[108, 101, 110]⟩ [(.comp (.var 27) [(27, (.fn 54 [(.list [(.lit (.str ⟨#[97]⟩))]), (.var 20), (.lit (.int 4))]), [(.cmp .In (.lit (.str ⟨#[97]⟩)) (.item (.own 20) (.item (.own 27) (.un .USub (.lit (.int 1))))))])])])
noncomputable def ps_law_35 : PS := .set 22 (.fn 53 [(.var 19)])
noncomputable def ps_law_36 : PS := .set 23 (.fn 54 [(.list [(.lit (.str ⟨#[97]⟩)), (.lit (.str ⟨#[98]⟩)), (.lit (.str ⟨#[99]⟩)), (.lit (.str ⟨#[100]⟩)), (.lit (.str ⟨#[101]⟩))]), (.var 22), (.lit (.int 2))])
noncomputable def ps_law_37 : PS := .set 24 (.fn 54 [(.var 23), (.var 22), (.lit (.int 1))])
noncomputable def ps_law_38 : PS := .set 25 (.fn 54 [(.var 24), (.var 22), (.lit (.int 1))])
noncomputable def ps_law_39 : PS := .set 26 (.list [(.bin .Add (.fn 58 [(.lit (.str ⟨#[34]⟩)), (.bi ⟨#[108, 101, 110]⟩ [(.own 25)])]) (.lit (.str ⟨#[107, 34, 32, 111, 102, 32, 34, 97, 108, 108, 34]⟩))), (.fn 58 [(.lit (.str ⟨#[34]⟩)), (.bi ⟨#[108, 101, 110]⟩ [(.own 25)])])])
noncomputable def ps_law_40 : PS := .set 26 (.bin .Add (.own 26) (.list [(.fn 58 [(.lit (.str ⟨#[34]⟩)), (.bin .Sub (.bi ⟨#[108, 101, 110]⟩ [(.own 25)]) (.lit (.int 1)))]), (.bin .Add (.fn 58 [(.lit (.str ⟨#[34]⟩)), (.bin .Sub (.bi ⟨#[108, 101, 110]⟩ [(.own 25)]) (.lit (.int 1)))]) (.lit (.str ⟨#[107]⟩)))]))
noncomputable def ps_law_41 : PS := .iff (.cmp .NotEq (.comp (.fn 55 [(.bin .Add (.lit (.str ⟨#[50, 53, 55, 32, 34]⟩)) (.own 49)), (.lit (.bool true))]) [(49, (.own 26), [])]) (.list [(.bin .Mult (.lit (.str ⟨#[34]⟩)) (.own 21)), (.bin .Mult (.lit (.str ⟨#[34]⟩)) (.own 21)), (.bin .Mult (.lit (.str ⟨#[34]⟩)) (.own 21)), (.bin .Add (.bin .Mult (.lit (.str ⟨#[34]⟩)) (.own 21)) (.lit (.str ⟨#[107]⟩)))])) [.ret (.lit (.bool false))] []
noncomputable def ps_law_42 : PS := .set 10 (.bin .Add (.bin .Mult (.list [(.item (.list [(.lit (.int 35)), (.lit (.int 47)), (.lit (.int 33)), (.lit (.int 34)), (.lit (.int 27))]) (.bin .Mod (.own 2) (.lit (.int 5))))]) (.own 21)) (.list [(.item (.list [(.lit (.int 16)), (.lit (.int 17)), (.lit (.int 20)), (.lit (.int 21)), (.lit (.int 22))]) (.bin .Mod (.own 2) (.lit (.int 5)))), (.lit (.int 0))]))
noncomputable def ps_law_43 : PS := .iff (.cmp .NotEq (.fn 52 [(.fn 58 [(.item (.lit (.str ⟨#[42, 47, 60, 62, 61]⟩)) (.bin .Mod (.own 2) (.lit (.int 5)))), (.bi ⟨#[108, 101, 110]⟩ [(.own 25)])])]) (.own 10)) [.ret (.lit (.bool false))] []
noncomputable def ps_law_44 : PS := .set 23 (.comp (.var 27) [(27, (.own 23), [(.all [(.cmp .NotIn (.lit (.str ⟨#[100]⟩)) (.own 27)), (.cmp .NotIn (.lit (.str ⟨#[101]⟩)) (.own 27))])])])
noncomputable def ps_law_45 : PS := .set 27 (.item (.own 23) (.bin .Mod (.bin .FloorDiv (.own 2) (.lit (.int 5))) (.bi ⟨#[108, 101, 110]⟩ [(.own 23)])))
noncomputable def ps_law_46 : PS := .set 24 (.comp (.var 33) [(33, (.own 24), [(.cmp .NotIn (.lit (.str ⟨#[101]⟩)) (.own 33))])])
noncomputable def ps_law_47 : PS := .set 28 (.comp (.var 33) [(33, (.own 24), [(.cmp .Eq (.meth ⟨#[106, 111, 105, 110]⟩ (.lit (.str ⟨#[]⟩)) [(.comp (.var 45) [(45, (.own 33), [(.cmp .NotEq (.own 45) (.lit (.str ⟨#[100]⟩)))])])]) (.own 27))])])
noncomputable def ps_law_48 : PS := .set 29 (.comp (.cmp .In (.lit (.str ⟨#[100]⟩)) (.item (.own 20) (.var 45))) [(45, (.own 27), [])])
noncomputable def ps_law_49 : PS := .iff (.cmp .NotEq (.bi ⟨#[108, 101, 110]⟩ [(.own 28)]) (.bin .Add (.lit (.int 1)) (.bi ⟨#[108, 101, 110]⟩ [(.comp (.var 39) [(39, (.range [(.lit (.int 2))]), [(.all [(.item (.own 29) (.bin .Add (.own 39) (.lit (.int 1)))), (.no (.item (.own 29) (.var 39)))])])])]))) [.ret (.lit (.bool false))] []
noncomputable def ps_law_50 : PS := .set 30 (.meth ⟨#[106, 111, 105, 110]⟩ (.lit (.str ⟨#[]⟩)) [(.comp (.ite (.item (.own 29) (.var 39)) (.bi ⟨#[99, 104, 114]⟩ [(.bin .Sub (.bi ⟨#[111, 114, 100]⟩ [(.item (.own 27) (.var 39))]) (.lit (.int 32)))]) (.item (.own 27) (.var 39))) [(39, (.range [(.lit (.int 3))]), [])])])
noncomputable def ps_law_51 : PS := .set 31 (.bin .Add (.lit (.int 2)) (.bi ⟨#[108, 101, 110]⟩ [(.comp (.var 39) [(39, (.range [(.lit (.int 3))]), [(.item (.own 29) (.var 39))])])]))
noncomputable def ps_law_52 : PS := .new 32 (.comp (.fn 59 [(.var 27), (.var 33), (.lit (.int 0))]) [(33, (.own 24), [])])
noncomputable def ps_law_53 : PS := .extL 32 (.comp (.fn 59 [(.var 30), (.var 33), (.var 31)]) [(33, (.own 28), [])])
noncomputable def ps_law_54 : PS := .set 10 (.bin .Add (.comp (.ite (.cmp .In (.own 33) (.own 28)) (.lit (.int 2)) (.lit (.int 1))) [(33, (.own 24), [])]) (.bin .Mult (.list [(.var 31)]) (.bi ⟨#[108, 101, 110]⟩ [(.own 28)])))
noncomputable def ps_law_55 : PS := .set 33 (.item (.own 24) (.lit (.int 0)))
noncomputable def ps_law_56 : PS := .set 34 (.meth ⟨#[106, 111, 105, 110]⟩ (.lit (.str ⟨#[]⟩)) [(.comp (.ite (.cmp .Eq (.own 45) (.lit (.str ⟨#[100]⟩))) (.lit (.str ⟨#[45]⟩)) (.var 45)) [(45, (.own 33), [])])])
noncomputable def ps_law_57 : PS := .set 35 (.meth ⟨#[106, 111, 105, 110]⟩ (.lit (.str ⟨#[]⟩)) [(.comp (.ite (.cmp .Eq (.own 45) (.lit (.str ⟨#[100]⟩))) (.lit (.str ⟨#[68]⟩)) (.var 45)) [(45, (.own 33), [])])])
noncomputable def ps_law_58 : PS := .extL 32 (.list [(.fn 59 [(.var 33), (.var 33), (.lit (.int 0))]), (.fn 59 [(.var 33), (.var 35), (.lit (.int 1))])])
noncomputable def ps_law_59 : PS := .extL 32 (.list [(.fn 59 [(.bin .Add (.bin .Mult (.lit (.str ⟨#[45]⟩)) (.lit (.int 41))) (.own 34)), (.bin .Add (.bin .Mult (.lit (.str ⟨#[45]⟩)) (.lit (.int 41))) (.own 33)), (.lit (.int 2))]), (.fn 59 [(.var 34), (.var 33), (.lit (.int 0))])])
noncomputable def ps_law_60 : PS := .extL 32 (.list [(.fn 59 [(.bin .Add (.own 27) (.own 27)), (.var 27), (.lit (.int 0))]), (.fn 59 [(.var 27), (.bin .Add (.slice (.own 27) (some (.lit (.int 1))) none none) (.item (.own 27) (.lit (.int 0)))), (.lit (.int 4))])])
noncomputable def ps_law_61 : PS := .extL 32 (.list [(.fn 59 [(.var 27), (.bin .Add (.item (.own 27) (.lit (.int 2))) (.slice (.own 27) none (some (.lit (.int 2))) none)), (.lit (.int 4))])])
noncomputable def ps_law_62 : PS := .extL 32 (.list [(.fn 59 [(.var 27), (.bin .Add (.bin .Add (.bin .Add (.bin .Add (.lit (.str ⟨#[45]⟩)) (.item (.own 27) (.lit (.int 0)))) (.lit (.str ⟨#[45]⟩))) (.slice (.own 27) (some (.lit (.int 1))) none none)) (.lit (.str ⟨#[45]⟩))), (.lit (.int 6))])])
noncomputable def ps_law_63 : PS := .extL 32 (.list [(.fn 59 [(.bin .Mult (.lit (.str ⟨#[45]⟩)) (.lit (.int 41))), (.var 27), (.lit (.int 99))]), (.fn 59 [(.var 27), (.bin .Mult (.lit (.str ⟨#[45]⟩)) (.lit (.int 41))), (.lit (.int 99))])])
noncomputable def ps_law_64 : PS := .extL 32 (.list [(.ite (.bin .Mod (.own 2) (.lit (.int 2))) (.fn 59 [(.item (.own 27) (.lit (.int 0))), (.bin .Mult (.lit (.str ⟨#[45]⟩)) (.lit (.int 40))), (.lit (.int 99))]) (.fn 59 [(.bin .Mult (.lit (.str ⟨#[45]⟩)) (.lit (.int 40))), (.item (.own 27) (.lit (.int 0))), (.lit (.int 99))]))])
noncomputable def ps_law_65 : PS := .iff (.cmp .NotEq (.comp (.var 46) [(46, (.own 32), [(.any [(.isInst true (.var 46)), (.no (.isInst false (.var 46)))])])]) (.list [])) [.ret (.lit (.bool false))] []
noncomputable def ps_law_66 : PS := .ret (.cmp .Eq (.own 32) (.bin .Add (.own 10) (.list [(.lit (.int 0)), (.lit (.int 1)), (.lit (.int 2)), (.lit (.int 1)), (.lit (.int 6)), (.lit (.int 4)), (.lit (.int 4)), (.lit (.int 6)), (.lit (.int 100)), (.lit (.int 100)), (.lit (.int 80))])))
noncomputable def ps_law : List PS := ([ps_law_0, ps_law_1, ps_law_2, ps_law_3, ps_law_4, ps_law_5, ps_law_6, ps_law_7, ps_law_8, ps_law_9, ps_law_10, ps_law_11, ps_law_12, ps_law_13, ps_law_14, ps_law_15, ps_law_16, ps_law_17, ps_law_18, ps_law_19, ps_law_20, ps_law_21, ps_law_22, ps_law_23, ps_law_24, ps_law_25, ps_law_26, ps_law_27, ps_law_28, ps_law_29] : List PS) ++ ([ps_law_30, ps_law_31, ps_law_32, ps_law_33, ps_law_34, ps_law_35, ps_law_36, ps_law_37, ps_law_38, ps_law_39, ps_law_40, ps_law_41, ps_law_42, ps_law_43, ps_law_44, ps_law_45, ps_law_46, ps_law_47, ps_law_48, ps_law_49, ps_law_50, ps_law_51, ps_law_52, ps_law_53, ps_law_54, ps_law_55, ps_law_56, ps_law_57, ps_law_58, ps_law_59] : List PS) ++ ([ps_law_60, ps_law_61, ps_law_62, ps_law_63, ps_law_64, ps_law_65, ps_law_66] : List PS)
end Ev
namespace Ev
open PySem

noncomputable def rhoZ : Nat → List D → Rho
  | _, [] => []
  | k, d :: ds => (k, d) :: rhoZ (k + 1) ds
noncomputable def callD (_C : Cx) (pr : List Str) (gl : Rho) (ps : List PS) (F : Nat → List D → Option D) (N n : Nat) (ds : List D) : Option D :=
  if ds.length = pr.length then match exS F N n (rhoZ 0 ds ++ gl) ps with
    | some (.ret d, _) => some d
    | _ => none
  else none
noncomputable def F0 : Nat → List D → Option D := fun _ _ => none
noncomputable def tabF (t : List (Nat × (List D → Option D))) : Nat → List D → Option D := fun i ds => match t.lookup i with
  | some f => f ds
  | none => none

noncomputable def d_lt := callD cx_lt pr_lt gl_lt ps_lt F0 5 10
noncomputable def d_le := callD cx_le pr_le gl_le ps_le F0 5 10
noncomputable def d_eq := callD cx_eq pr_eq gl_eq ps_eq F0 5 10
noncomputable def d_ne := callD cx_ne pr_ne gl_ne ps_ne F0 5 10
noncomputable def d_ge := callD cx_ge pr_ge gl_ge ps_ge F0 5 10
noncomputable def d_gt := callD cx_gt pr_gt gl_gt ps_gt F0 5 10
noncomputable def d_inv := callD cx_inv pr_inv gl_inv ps_inv F0 5 10
noncomputable def d_mul := callD cx_mul pr_mul gl_mul ps_mul F0 5 10
noncomputable def d_neg := callD cx_neg pr_neg gl_neg ps_neg F0 5 10
noncomputable def d_pos := callD cx_pos pr_pos gl_pos ps_pos F0 5 10
noncomputable def d_ist := callD cx_ISTERMINAL pr_ISTERMINAL gl_ISTERMINAL ps_ISTERMINAL F0 5 10
noncomputable def d_isn := callD cx_ISNONTERMINAL pr_ISNONTERMINAL gl_ISNONTERMINAL ps_ISNONTERMINAL F0 5 10
noncomputable def d_eof := callD cx_ISEOF pr_ISEOF gl_ISEOF ps_ISEOF F0 5 10
noncomputable def d_sub := callD cx_substitution_cost pr_substitution_cost gl_substitution_cost ps_substitution_cost F0 8 10
noncomputable def d_lev := callD cx_levenshtein_distance pr_levenshtein_distance gl_levenshtein_distance ps_levenshtein_distance (tabF [(16, d_sub)]) 12 100
noncomputable def d_num := callD cx_law_number pr_law_number gl_law_number ps_law_number (tabF [(2, d_inv), (3, d_pos), (4, d_neg)]) 8 10
noncomputable def d_holds := callD cx_law_holds pr_law_holds gl_law_holds ps_law_holds (tabF [(3, d_le), (4, d_ge), (5, d_lt), (6, d_gt), (7, d_eq), (8, d_ne)]) 8 10
noncomputable def d_plain := callD cx_law_plain pr_law_plain gl_law_plain ps_law_plain F0 8 10
noncomputable def d_symb := callD cx_law_symbols pr_law_symbols gl_law_symbols ps_law_symbols F0 12 150
noncomputable def d_beaten := callD cx_law_beaten pr_law_beaten gl_law_beaten ps_law_beaten F0 12 30
noncomputable def d_walks := callD cx_law_walks pr_law_walks gl_law_walks ps_law_walks F0 12 30
/-- the reading def -/
noncomputable def codeS : Str := ⟨#[99, 111, 100, 101, 32]⟩
noncomputable def formS : Str := ⟨#[102, 111, 114, 109, 32]⟩
noncomputable def nReply : Str := ⟨#[101, 114, 114, 111, 114, 95, 114, 101, 112, 108, 121]⟩
noncomputable def nProto : Str := ⟨#[101, 114, 114, 111, 114, 95, 112, 114, 111, 116, 111]⟩
theorem nReply_eq : nReply = ("error_reply" : Str) := by decide +kernel
theorem nProto_eq : nProto = ("error_proto" : Str) := by decide +kernel
noncomputable def fitS (pre y : Str) : Option D := gd (strFit (pre ++ y)) (some (.str (pre ++ y)))
/-- what the clauses make of a raise -/
noncomputable def fltC (c y : Str) : Option D := if c = nReply then fitS codeS y else if c = nProto then fitS formS y else none
noncomputable def fltD : Fl → Option D
  | .ret d => some d
  | .raise c d => (asStr d).bind fun y => fltC c y
  | _ => none
noncomputable def faultD (r : Option (Fl × Rho)) : Option D := r.bind fun q => fltD q.1
noncomputable def hereD : D := .tuple [.str ⟨#[104, 101, 114, 101]⟩, .int 7]
noncomputable def run257 (x : Str) : Option (Fl × Rho) := exS F0 12 200 (rhoZ 0 [.str x] ++ gl_parse257) ps_parse257
noncomputable def run229 (x : Str) : Option (Fl × Rho) := exS F0 12 200 (rhoZ 0 [.str x, hereD] ++ gl_parse229) ps_parse229
noncomputable def d_read (ds : List D) : Option D := (two ds).bind fun p => (asStr p.1).bind fun x => (asBool p.2).bind fun b => faultD (bif b then run257 x else run229 x)
noncomputable def FL : Nat → List D → Option D := tabF [(52, d_symb), (53, d_beaten), (54, d_walks), (55, d_read), (56, d_num), (57, d_holds), (58, d_mul), (59, d_lev), (60, d_ist), (61, d_isn), (62, d_eof), (63, d_plain)]
noncomputable def d_law := callD cx_law pr_law gl_law ps_law FL 20 200
end Ev
namespace Ev
open PySem PySem.Calls PyProof.Rows

-- a call by place: the parameters take the values
theorem zip_look {ns : List Str} : ∀ {vs : List Value}, ns.Nodup → ns.length = vs.length → ∀ n v, (n, v) ∈ ns.zip vs → (ns.zip vs).lookup n = some v := by
  induction ns with
  | nil => intro vs _ _ n v h; cases h
  | cons p ps ih =>
    intro vs nd hl n v h
    cases vs with
    | nil => cases hl
    | cons u us =>
      rw [List.zip_cons_cons, List.lookup_cons]
      rw [List.zip_cons_cons, List.mem_cons] at h
      rcases h with h | h
      · cases h; rw [beq_self_eq_true]
      · have : n ≠ p := fun e => (List.nodup_cons.mp nd).1 (e ▸ (List.of_mem_zip h).1)
        rw [beq_eq_false_iff_ne.mpr this]
        exact ih (List.nodup_cons.mp nd).2 (Nat.succ.inj hl) n v h
theorem zip_ex {ns : List Str} : ∀ {vs : List Value}, ns.length = vs.length → ∀ n ∈ ns, ∃ v, (n, v) ∈ ns.zip vs := by
  induction ns with
  | nil => intro vs _ n h; cases h
  | cons p ps ih =>
    intro vs hl n h
    cases vs with
    | nil => cases hl
    | cons u us =>
      cases h with
      | head => exact ⟨u, .head _⟩
      | tail _ h => obtain ⟨v, hv⟩ := ih (Nat.succ.inj hl) n h; exact ⟨v, .tail _ hv⟩
theorem none_missing {ns : List Str} {vs : List Value} (nd : ns.Nodup) (hl : ns.length = vs.length) {k : Nat} : ((ns.take k).filter fun n => ((ns.zip vs).lookup n).isNone) = [] := by
  refine List.filter_eq_nil_iff.mpr fun n hn => ?_
  obtain ⟨v, hv⟩ := zip_ex hl n (List.mem_of_mem_take hn)
  rw [zip_look nd hl n v hv]; exact Bool.false_ne_true
theorem all_bound {ns : List Str} {vs : List Value} (nd : ns.Nodup) (hl : ns.length = vs.length) : (ns.filterMap fun n => ((ns.zip vs).lookup n).map (n, ·)) = ns.zip vs := by
  have : ∀ {ms : List Str} {us : List Value}, ms.length = us.length → (∀ n v, (n, v) ∈ ms.zip us → (n, v) ∈ ns.zip vs) → (ms.filterMap fun n => ((ns.zip vs).lookup n).map (n, ·)) = ms.zip us := by
    intro ms
    induction ms with
    | nil => intro us _ _; rfl
    | cons m ms ih =>
      intro us hu h
      cases us with
      | nil => cases hu
      | cons u us =>
        rw [List.filterMap_cons, zip_look nd hl m u (h _ _ (.head _)), List.zip_cons_cons]
        exact congrArg ((m, u) :: ·) (ih (Nat.succ.inj hu) fun n v q => h n v (.tail _ q))
  exact this hl fun _ _ h => h
theorem ite_f {α : Type} {c : Bool} {x y z : α} (hc : c = false) (h : y = z) : (if c = true then x else y) = z := by subst hc; exact h
theorem forIn_no {α β γ : Type} {l : List α} {b : β} {f : α → β → Sem (ForInStep β)} {g : β → Sem γ} {r : Sem γ} (hl : l = []) (h : g b = r) : (forIn l b f >>= g) = r := by subst hl; exact h
theorem no_zip {α β : Type} {xs : List α} {n : Nat} : xs.zip (List.drop n ([] : List β)) = [] := by rw [List.drop_nil, List.zip_nil_right]
theorem bind_n {fd : FuncData} {ns : List Str} {vs : List Value} (h1 : fd.params.posonlyargs = []) (h2 : fd.params.args.map (·.arg) = ns) (h3 : fd.params.vararg = none) (h4 : fd.params.kwonlyargs = []) (h5 : fd.params.kwarg = none) (h6 : fd.defaults = .none) (nd : ns.Nodup) (hl : ns.length = vs.length) :
    bindArgs fd ⟨vs, []⟩ = pure (ns.zip vs) := by
  obtain ⟨_, _, ⟨_, _, _, _, _, _, _⟩, _, _, _, _, _, _, _, _, _, _, _, _⟩ := fd
  cases h1
  cases h3
  cases h4
  cases h5
  cases h6
  have a : ∀ k, (!((ns.take k).filter fun n => ((ns.zip vs).lookup n).isNone).isEmpty) = false := fun k => by rw [none_missing nd hl]; rfl
  have b : ((ns ++ []).filterMap fun n => ((ns.zip vs).lookup n).map (n, ·)) = ns.zip vs := by rw [List.append_nil]; exact all_bound nd hl
  have c : (decide (vs.length > ns.length) && true) = false := by rw [decide_eq_false (by omega)]; rfl
  subst h2
  unfold bindArgs
  refine ite_f c ?_
  refine ite_f (a _) (forIn_no no_zip ?_)
  exact congrArg (pure (f := Sem)) b

theorem lookup_mem {α : Type} {l : List (Str × α)} {x : Str} {k : α} (h : l.lookup x = some k) : (x, k) ∈ l := mem_of_lookup h
noncomputable def nodupB : List Str → Bool
  | [] => true
  | p :: r => !r.contains p && nodupB r
theorem nodupB_o : ∀ {l : List Str}, nodupB l = true → l.Nodup
  | [], _ => .nil
  | p :: r, h => and_o h fun h1 h2 => List.nodup_cons.mpr ⟨fun q => (by rw [List.contains_iff_mem.mpr q] at h1; cases h1), nodupB_o h2⟩
noncomputable def isNone : Value → Bool
  | .none => true
  | _ => false
theorem isNone_o {v : Value} (h : isNone v = true) : v = .none := by
  cases v with
  | none => rfl
  | _ => exact ff h
/-- what a look at a def shows -/
noncomputable def ckA (fd : FuncData) : Bool := fd.closure.isEmpty && fd.globals == mainGlobals && fd.builtins == builtinsNs && fd.scope.kind == .function && !fd.scope.isCoroutine && !fd.scope.isGenerator
noncomputable def ckB (fd : FuncData) (params : List Str) : Bool := fd.params.posonlyargs.isEmpty && fd.params.vararg.isNone && fd.params.kwonlyargs.isEmpty && fd.params.kwarg.isNone && isNone fd.defaults && fd.params.args.map (·.arg) == params && nodupB params
noncomputable def notIn (C : Cx) (l : List Nat) (x : Str) : Bool := match idx C.names x with
  | some i => !l.contains i
  | none => true
theorem notIn_o {C : Cx} {l : List Nat} {x : Str} {i : Nat} (h : notIn C l x = true) (hi : idx C.names x = some i) : l.contains i = false := by
  unfold notIn at h
  rw [hi] at h; exact not_o h
noncomputable def isLC (k : Option NameKind) : Bool := k == some .local || k == some .cell
noncomputable def ckC (C : Cx) (sc : Scope) (params : List Str) : Bool :=
  params.all (fun p => isLC (sc.names.lookup p) && (notIn C C.O p && notIn C C.gl p)) && (sc.names.all (fun q => !(q.2 == .free) && (!isLC (some q.2) || notIn C C.gl q.1)) && C.O.all (fun i => C.O.all (fun j => j == i) && !C.gl.contains i))
noncomputable def defCk (C : Cx) (fd : FuncData) (params : List Str) : Bool := ckA fd && (ckB fd params && ckC C fd.scope params)

theorem ckA_o {fd : FuncData} (h : ckA fd = true) : fd.closure = [] ∧ fd.globals = mainGlobals ∧ fd.builtins = builtinsNs ∧ fd.scope.kind = .function ∧ fd.scope.isCoroutine = false ∧ fd.scope.isGenerator = false :=
  and_o h fun h h6 => and_o h fun h h5 => and_o h fun h h4 => and_o h fun h h3 => and_o h fun h1 h2 => ⟨List.isEmpty_iff.mp h1, beq_iff_eq.mp h2, beq_iff_eq.mp h3, beq_iff_eq.mp h4, not_o h5, not_o h6⟩
theorem ckB_o {fd : FuncData} {params : List Str} (h : ckB fd params = true) : params.Nodup ∧ ∀ vals : List Value, vals.length = params.length → bindArgs fd ⟨vals, []⟩ = pure (params.zip vals) :=
  and_o h fun h h7 => and_o h fun h h6 => and_o h fun h h5 => and_o h fun h h4 => and_o h fun h h3 => and_o h fun h1 h2 =>
    ⟨nodupB_o h7, fun _ hl => bind_n (List.isEmpty_iff.mp h1) (beq_iff_eq.mp h6) (Option.isNone_iff_eq_none.mp h2) (List.isEmpty_iff.mp h3) (Option.isNone_iff_eq_none.mp h4) (isNone_o h5) (nodupB_o h7) hl.symm⟩
theorem isLC_o {k : Option NameKind} (h : isLC k = true) : k = some .local ∨ k = some .cell := by
  cases k with
  | none => exact ff h
  | some k => cases k <;> first | exact .inl rfl | exact .inr rfl | exact ff h
theorem isLC_i {k : NameKind} (h : k = .local ∨ k = .cell) : isLC (some k) = true := by rcases h with rfl | rfl <;> rfl
theorem names_ck {C : Cx} {sc : Scope} (h : sc.names.all (fun q => !(q.2 == .free) && (!isLC (some q.2) || notIn C C.gl q.1)) = true) {x : Str} {k : NameKind} (hx : sc.names.lookup x = some k) : k ≠ .free ∧ ((k = .local ∨ k = .cell) → ∀ i, idx C.names x = some i → C.gl.contains i = false) := by
  refine and_o (List.all_eq_true.mp h _ (lookup_mem hx)) fun h1 h2 => ⟨beq_eq_false_iff_ne.mp (not_o h1), fun hk i hi => ?_⟩
  rw [isLC_i hk] at h2
  exact notIn_o h2 hi
theorem defOk0_of {C : Cx} {fd : FuncData} {params : List Str} {stmts : List Stmt} (h : defCk C fd params = true) (hb : fd.body = .stmts stmts) : DefOk0 C fd params stmts := by
  refine and_o h fun hA h => and_o h fun hB h => and_o h fun hP h => and_o h fun hN hO => ?_
  obtain ⟨h1, h2, h3, h4, h5, h6⟩ := ckA_o hA
  have par := fun p hp => List.all_eq_true.mp hP p hp
  have nm : ∀ x k, fd.scope.names.lookup x = some k → _ := fun x k hx => names_ck hN hx
  have own := fun i (hi : C.O.contains i = true) => List.all_eq_true.mp hO i (List.contains_iff_mem.mp hi)
  exact ⟨hb, h1, h2, h3, h4, h5, h6, (ckB_o hB).2, (ckB_o hB).1, fun p hp => and_o (par p hp) fun q _ => (isLC_o q).imp id fun q => ⟨q, lookup_mem q⟩,
    fun p hp i hi => and_o (par p hp) fun _ q => and_o q fun q1 q2 => ⟨notIn_o q1 hi, notIn_o q2 hi⟩,
    fun x hx => by
      cases e : fd.scope.names.lookup x with
      | none => rw [e] at hx; exact ff hx
      | some k =>
        rw [e] at hx
        cases k <;> first | exact ff hx | exact ⟨rfl, lookup_mem e⟩ | exact absurd rfl (nm x _ e).1,
    fun x i hx hi => hx.elim (fun q => (nm x _ q).2 (.inl rfl) i hi) fun q => (nm x _ q).2 (.inr rfl) i hi,
    fun i j hi hj => and_o (own i hi) fun q _ => beq_iff_eq.mp (List.all_eq_true.mp q j (List.contains_iff_mem.mp hj)),
    fun i hi => and_o (own i hi) fun _ q => not_o q⟩

noncomputable def zipCk (names : List Str) : Nat → List Str → Bool
  | _, [] => true
  | k, p :: ps => idx names p == some k && zipCk names (k + 1) ps
theorem rhoP_z {names : List Str} {ps : List Str} : ∀ {k : Nat} {ds : List D}, zipCk names k ps = true → ps.length = ds.length → rhoP names ps ds = rhoZ k ds := by
  induction ps with
  | nil =>
    intro k ds _ hl
    cases ds with
    | nil => rfl
    | cons _ _ => cases hl
  | cons p ps ih =>
    intro k ds h hl
    cases ds with
    | nil => cases hl
    | cons d ds =>
      refine and_o h fun h1 h2 => ?_
      simp only [rhoP, beq_iff_eq.mp h1, rhoZ]
      rw [ih h2 (Nat.succ.inj hl)]

/-- a def of the written part -/
noncomputable def refV : Value → Option Addr
  | .ref a => some a
  | _ => none
theorem refV_o {v : Value} {a : Addr} (h : refV v = some a) : v = .ref a := by
  cases v with
  | ref b => rw [sj h]
  | _ => exact dead h
noncomputable def funcO : Data → Option FuncData
  | .func fd => some fd
  | _ => none
theorem funcO_o {v : Data} {a : FuncData} (h : funcO v = some a) : v = .func a := by
  cases v with
  | func b => rw [sj h]
  | _ => exact dead h
noncomputable def stmtsO : FuncBody → Option (List Stmt)
  | .stmts ss => some ss
  | _ => none
theorem stmtsO_o {v : FuncBody} {a : List Stmt} (h : stmtsO v = some a) : v = .stmts a := by
  cases v with
  | stmts b => rw [sj h]
  | _ => exact dead h
noncomputable def refAt (K : PySem.W.Frag) (f : Str) : Option Addr := (PySem.W.nsIn K mainGlobals f).bind fun v => v.bind refV
theorem refAt_o {K : PySem.W.Frag} {f : Str} {a : Addr} (h : refAt K f = some a) : PySem.W.nsIn K mainGlobals f = some (some (.ref a)) := ob h fun v h1 h => ob h fun u h2 h => by rw [h1, h2, refV_o h]
noncomputable def fnAt (K : PySem.W.Frag) (f : Str) : Option (Addr × Obj × FuncData) := (refAt K f).bind fun a => (K.lookup a).bind fun o => (funcO o.data).bind fun fd => some (a, o, fd)
noncomputable def fnCk (K : PySem.W.Frag) (f : Str) (C : Cx) (params : List Str) (m : Nat) : Option (List PS) := (fnAt K f).bind fun q => gd (PySem.W.codeIn K q.2.2.code q.2.2.qualname && (defCk C q.2.2 params && zipCk C.names 0 params)) ((stmtsO q.2.2.body).bind fun ss => cSs C m q.2.2.scope ss)

structure FnK (B : Heap) (mg : Str → Option Value) (f : Str) (a : Addr) (C : Cx) (fd : FuncData) (params : List Str) (stmts : List Stmt) (o : Obj) : Prop where
  m : mg f = some (.ref a)
  at_ : B.get? a = some o
  d : o.data = .func fd
  code : B.CodeRec fd.code fd.qualname
  ok : DefOk0 C fd params stmts
theorem fnAt_o {P : Prop} {K : PySem.W.Frag} {f : Str} {q : Addr × Obj × FuncData} (h : fnAt K f = some q) (k : ∀ a o fd, q = (a, o, fd) → PySem.W.nsIn K mainGlobals f = some (some (.ref a)) → K.lookup a = some o → o.data = .func fd → P) : P :=
  ob h fun a h1 h => ob h fun o h2 h => ob h fun fd h3 h => k a o fd (sj h).symm (refAt_o h1) h2 (funcO_o h3)
theorem fnK_of {K : PySem.W.Frag} {B : Heap} {mg : Str → Option Value} {f : Str} {C : Cx} {params : List Str} {m : Nat} {ps : List PS} {P : Prop} (X : K.In B) (G : B.Ns mainGlobals mg) (h : fnCk K f C params m = some ps)
    (k : ∀ a fd stmts o, FnK B mg f a C fd params stmts o → DefOk C fd params stmts ps m → zipCk C.names 0 params = true → P) : P :=
  ob h fun q h1 h => fnAt_o h1 fun a o fd e e1 e2 e3 => by
    subst e
    exact gdo h fun hk h => ob h fun ss hb h => and_o hk fun k1 hk => and_o hk fun k2 k3 => k a fd ss o ⟨PySem.W.mg_of X G e1, X _ _ e2, e3, PySem.W.codeRec_of X k1, defOk0_of k2 (stmtsO_o hb)⟩ ⟨defOk0_of k2 (stmtsO_o hb), h⟩ k3
end Ev
namespace Ev
open PySem PySem.Calls PyProof.Rows

/-- a written table of whole numbers by texts -/
noncomputable def strV : Value → Option Str
  | .str k _ => some k
  | _ => none
theorem strV_o {v : Value} {k : Str} (h : strV v = some k) : ∃ t, v = .str k t := by
  cases v with
  | str k' t => exact ⟨t, by rw [sj h]⟩
  | _ => exact dead h
noncomputable def intV : Value → Option Int
  | .int k _ => some k
  | _ => none
theorem intV_o {v : Value} {k : Int} (h : intV v = some k) : ∃ t, v = .int k t := by
  cases v with
  | int k' t => exact ⟨t, by rw [sj h]⟩
  | _ => exact dead h
noncomputable def tokOne (e : DictEntry) (p : D × D) : Option Unit := (asStr p.1).bind fun k => (asInt p.2).bind fun i => gd (strV e.key == some k && intV e.val == some i) (some ())
noncomputable def tokCk : List DictEntry → List (D × D) → Option Unit
  | [], r => gd r.isEmpty (some ())
  | e :: es, r => r.head?.bind fun p => (tokOne e p).bind fun _ => tokCk es r.tail
noncomputable def keyD (d : D) : Str := match d with
  | .str k => k
  | _ => ⟨#[]⟩
noncomputable def keysL (l : List (D × D)) : List Str := l.map fun p => keyD p.1
theorem asStr_o {d : D} {x : Str} (h : asStr d = some x) : d = .str x := by
  cases d with
  | str _ => rw [sj h]
  | _ => exact dead h
theorem asInt_o {d : D} {x : Int} (h : asInt d = some x) : d = .int x := by
  cases d with
  | int _ => rw [sj h]
  | _ => exact dead h
theorem tokOne_o {P : Prop} {e : DictEntry} {p : D × D} {u : Unit} (h : tokOne e p = some u) (k : ∀ x i t u, p = (.str x, .int i) → e.key = .str x t → e.val = .int i u → P) : P :=
  ob h fun x h1 h => ob h fun i h2 h => gdo h fun hk _ => and_o hk fun k1 k2 => by
    obtain ⟨t, e1⟩ := strV_o (beq_iff_eq.mp k1)
    obtain ⟨u, e2⟩ := intV_o (beq_iff_eq.mp k2)
    exact k x i t u (by rw [← asStr_o h1, ← asInt_o h2]) e1 e2
theorem tokCk_cons {P : Prop} {e : DictEntry} {es : List DictEntry} {kvs : List (D × D)} {u : Unit} (h : tokCk (e :: es) kvs = some u) (k : ∀ x i r t u, kvs = (.str x, .int i) :: r → e.key = .str x t → e.val = .int i u → tokCk es r = some () → P) : P := by
  cases kvs with
  | nil => exact dead h
  | cons p r =>
    exact ob h fun q hq h => by
      cases hq
      exact ob h fun u' h1 h2 => tokOne_o h1 fun x i t u e1 e2 e3 => k x i r t u (by rw [e1]) e2 e3 h2
theorem dget_eq {k : Str} {d : D} {r : List (D × D)} {x : Str} (h : k = x) : dget ((.str k, d) :: r) x = some d := by
  show (bif k == x then some d else dget r x) = _
  rw [beq_iff_eq.mpr h]; rfl
theorem dget_ne {k : Str} {d : D} {r : List (D × D)} {x : Str} (h : k ≠ x) : dget ((.str k, d) :: r) x = dget r x := by
  show (bif k == x then some d else dget r x) = _
  rw [beq_eq_false_iff_ne.mpr h]; rfl
noncomputable def Found (es : List DictEntry) (x : Str) (o : Option D) : Prop := match o with
    | some d => ∃ u, (es.find? fun e => Value.isStrOf x e.key).map (·.val) = some u ∧ flatV d u
    | none => (es.find? fun e => Value.isStrOf x e.key).map (·.val) = none
theorem tok_find {es : List DictEntry} : ∀ {kvs : List (D × D)}, tokCk es kvs = some () → ∀ x : Str, Found es x (dget kvs x) := by
  induction es with
  | nil =>
    intro kvs h x
    rw [List.isEmpty_iff.mp (gdo h fun q _ => q)]
    exact rfl
  | cons e es ih =>
    intro kvs h x
    refine tokCk_cons h fun k i r t u e1 hk hv h' => ?_
    rw [e1]
    by_cases q : k = x
    · rw [dget_eq q]
      refine ⟨e.val, ?_, u, hv⟩
      rw [List.find?_cons, hk]
      simp only [Value.isStrOf, beq_iff_eq.mpr q, Option.map_some]
    · rw [dget_ne q]
      have := ih h' x
      unfold Found at this ⊢
      rw [List.find?_cons, hk]
      simp only [Value.isStrOf, beq_eq_false_iff_ne.mpr q]
      exact this
theorem tok_keys {P : Params} {es : List DictEntry} : ∀ {kvs : List (D × D)}, tokCk es kvs = some () → es.map (·.hash) = (keysL kvs).map (PyData.keyHash P) → ∀ e ∈ es, ∃ k, Value.isStrOf k e.key = true ∧ e.hash = PyData.keyHash P k := by
  induction es with
  | nil => intro _ _ _ e he; cases he
  | cons e es ih =>
    intro kvs h hh e' he
    refine tokCk_cons h fun k i r t u e1 hk hv h' => ?_
    subst e1
    obtain ⟨h1, h2⟩ := List.cons.inj hh
    cases he with
    | head => exact ⟨k, by rw [hk]; exact beq_iff_eq.mpr rfl, h1⟩
    | tail _ he => exact ih h' h2 e' he

/-- a table's entries in the written part -/
noncomputable def dictO' : Data → Option (Array DictEntry)
  | .dict es _ => some es
  | _ => none
theorem dictO'_o {v : Data} {a : Array DictEntry} (h : dictO' v = some a) : ∃ n, v = .dict a n := by
  cases v with
  | dict b n => exact ⟨n, by rw [sj h]⟩
  | _ => exact dead h
noncomputable def typeV : Value → Option String
  | .type s => some s
  | _ => none
theorem typeV_o {v : Value} {k : String} (h : typeV v = some k) : v = .type k := by
  cases v with
  | type _ => rw [sj h]
  | _ => exact dead h
noncomputable def noSlots (o : Obj) : Bool := o.slots.toList.isEmpty
noncomputable def tabAt (K : PySem.W.Frag) (x : Str) : Option (Addr × List DictEntry) := (refAt K x).bind fun a => (K.lookup a).bind fun o => (dictO' o.data).bind fun es => gd (typeV o.cls == some "dict" && (o.dict.isNone && (noSlots o && !(a == sysModules)))) (some (a, es.toList))
noncomputable def tabCk (K : PySem.W.Frag) (x : Str) (kvs : List (D × D)) : Option Unit := (tabAt K x).bind fun q => tokCk q.2 kvs
noncomputable def tabHs (K : PySem.W.Frag) (x : Str) : List Int := match tabAt K x with
  | some q => q.2.map (·.hash)
  | none => []

section
variable [Base] {prog : Program} {w : World}
theorem tab_rep {K : PySem.W.Frag} {B : Heap} {mg : Str → Option Value} {x : Str} {kvs : List (D × D)} (X : K.In B) (G : B.Ns mainGlobals mg) (h1 : tabCk K x kvs = some ()) (h2 : tabHs K x = (keysL kvs).map (PyData.keyHash w.params)) :
    ∃ v, mg x = some v ∧ Rep prog w (fun _ => False) B (.dict kvs) v := by
  refine ob h1 fun q hq h1 => ?_
  unfold tabHs at h2
  rw [hq] at h2
  refine ob hq fun a ha hq => ob hq fun o ho hq => ob hq fun es hes hq => gdo hq fun hk hq => and_o hk fun k1 hk => and_o hk fun k2 hk => and_o hk fun k3 k4 => ?_
  cases hq
  obtain ⟨n, hd⟩ := dictO'_o hes
  refine ⟨.ref a, PySem.W.mg_of X G (refAt_o ha), ⟨a, _, rfl, not_o k4, ⟨o, es, n, X _ _ ho, ⟨typeV_o (beq_iff_eq.mp k1), Option.isNone_iff_eq_none.mp k2, Array.toList_eq_nil_iff.mp (List.isEmpty_iff.mp k3)⟩, hd, fun e he => ?_, fun k => rfl⟩, fun y => ?_⟩, fun b hb hw => hw⟩
  · exact tok_keys h1 h2 e (by simpa using he)
  · have e3 : findBy (strKind prog w).is es y = (es.toList.find? fun e => Value.isStrOf y e.key).map (·.val) := by
      unfold findBy
      rw [← Array.find?_toList]
      rfl
    rw [e3]
    exact tok_find h1 y

/-- whole numbers at the top -/
noncomputable def intAt (K : PySem.W.Frag) (x : Str) : Option Int := (PySem.W.nsIn K mainGlobals x).bind fun v => v.bind intV
theorem int_rep {K : PySem.W.Frag} {B : Heap} {mg : Str → Option Value} {x : Str} {i : Int} (X : K.In B) (G : B.Ns mainGlobals mg) (h : intAt K x = some i) : ∃ v, mg x = some v ∧ Rep prog w (fun _ => False) B (.int i) v :=
  ob h fun v h1 h => ob h fun u h2 h => by
    obtain ⟨t, e⟩ := intV_o h
    exact ⟨_, PySem.W.mg_of X G (by rw [h1, h2, e]), rep_int⟩

/-- the data of a module's names: by index -/
noncomputable def glOne (K : PySem.W.Frag) (x : Str) : D → Option Unit
  | .int n => gd (intAt K x == some n) (some ())
  | .dict kvs => gd (x == "EXACT_TOKEN_TYPES") (tabCk K x kvs)
  | _ => none
noncomputable def glCk (K : PySem.W.Frag) (C : Cx) : Rho → Option Unit
  | [] => some ()
  | p :: r => gd (C.gl.contains p.1) ((C.names[p.1]?).bind fun x => gd (idx C.names x == some p.1) ((glOne K x p.2).bind fun _ => glCk K C r))
theorem gl_one {K : PySem.W.Frag} {B : Heap} {mg : Str → Option Value} (X : K.In B) (G : B.Ns mainGlobals mg) (hh : ∀ kvs, tabCk K "EXACT_TOKEN_TYPES" kvs = some () → tabHs K "EXACT_TOKEN_TYPES" = (keysL kvs).map (PyData.keyHash w.params)) {x : Str} {d : D} (h : glOne K x d = some ()) :
    ∃ v, mg x = some v ∧ Rep prog w (fun _ => False) B d v := by
  cases d with
  | int n => exact gdo h fun h _ => int_rep X G (beq_iff_eq.mp h)
  | dict kvs =>
    exact gdo h fun hx h => by
      obtain rfl := beq_iff_eq.mp hx
      exact tab_rep X G h (hh _ h)
  | _ => exact dead h
theorem glData_of {C : Cx} {K : PySem.W.Frag} {B : Heap} {mg : Str → Option Value} (X : K.In B) (G : B.Ns mainGlobals mg) (hh : ∀ kvs, tabCk K "EXACT_TOKEN_TYPES" kvs = some () → tabHs K "EXACT_TOKEN_TYPES" = (keysL kvs).map (PyData.keyHash w.params)) :
    ∀ {gρ : Rho}, glCk K C gρ = some () → GlData prog w C B mg gρ
  | [], _ => ⟨fun i d h => (by cases h), fun x i d _ h => (by cases h)⟩
  | (i, d) :: r, h => gdo h fun k1 h => ob h fun x hx h => gdo h fun hi h => ob h fun _ h1 h => by
    have ih := glData_of X G hh h
    have hv := gl_one (prog := prog) X G hh h1
    refine ⟨fun j e hj => ?_, fun y j e hy hj => ?_⟩
    · by_cases q : j = i
      · rw [q]; exact k1
      · rw [look_ne q] at hj; exact ih.keys j e hj
    · by_cases q : j = i
      · subst q
        rw [look_eq] at hj; cases hj
        rw [idx_inj hy (beq_iff_eq.mp hi)]; exact hv
      · rw [look_ne q] at hj; exact ih.val y j e hy hj
end
end Ev
namespace Ev
open PySem PySem.Calls PyProof.Rows

-- the def that catches, as it is written
noncomputable def ifP : Expr → Option (Expr × Expr × Expr × Pos)
  | .IfExp t a b p => some (t, a, b, p)
  | _ => none
theorem ifP_o {e : Expr} {q : Expr × Expr × Expr × Pos} (h : ifP e = some q) : e = .IfExp q.1 q.2.1 q.2.2.1 q.2.2.2 := by
  cases e with
  | IfExp _ _ _ _ => rw [← sj h]
  | _ => exact dead h
noncomputable def tryP : Stmt → Option (List Stmt × List ExceptHandler × Pos)
  | .Try b hs o f p => gd (o.isEmpty && f.isEmpty) (some (b, hs, p))
  | _ => none
theorem tryP_o {e : Stmt} {q : List Stmt × List ExceptHandler × Pos} (h : tryP e = some q) : e = .Try q.1 q.2.1 [] [] q.2.2 := by
  cases e with
  | Try b hs o f p => exact gdo h fun h1 h => and_o h1 fun h1 h2 => by rw [← sj h, List.isEmpty_iff.mp h1, List.isEmpty_iff.mp h2]
  | _ => exact dead h
/-- test, the two calls, the clauses -/
noncomputable def tryQ (ss : List Stmt) : Option ((Expr × Expr × Expr × Pos) × Pos × (ExceptHandler × ExceptHandler) × Pos) := (one1 ss).bind fun st => (tryP st).bind fun q => (one1 q.1).bind fun r => (retP r).bind fun v => (ifP v.1).bind fun i => (two q.2.1).bind fun hs => some (i, v.2, hs, q.2.2)
theorem tryQ_o {P : Prop} {ss : List Stmt} {q : (Expr × Expr × Expr × Pos) × Pos × (ExceptHandler × ExceptHandler) × Pos} (h : tryQ ss = some q) (k : ss = [.Try [.Return (some (.IfExp q.1.1 q.1.2.1 q.1.2.2.1 q.1.2.2.2)) q.2.1] [q.2.2.1.1, q.2.2.1.2] [] [] q.2.2.2] → P) : P :=
  ob h fun st h1 h => ob h fun q' h2 h => ob h fun r h3 h => ob h fun v h4 h => ob h fun i h5 h => ob h fun hs h6 h => one1_o h1 fun h1 => one1_o h3 fun h3 => two_o h6 fun h6 => k (by rw [← sj h, h1, tryP_o h2, h3, retP_o h4, ifP_o h5, h6])
noncomputable def callB (f : Str) (e : Expr) : Option (Pos × List Expr × Pos) := (callP e).bind fun q => (nameP q.1).bind fun n => gd (n.1 == f) (some (n.2, q.2.1, q.2.2))
theorem callB_o {f : Str} {e : Expr} {q : Pos × List Expr × Pos} (h : callB f e = some q) : e = .Call (.Name f q.1) q.2.1 [] q.2.2 :=
  ob h fun c h1 h => ob h fun n h2 h => gdo h fun h3 h => by rw [callP_o h1, nameP_o h2, beq_iff_eq.mp h3, ← sj h]

noncomputable def rdScope (sc : Scope) : Bool :=
  sc.names.lookup ("error_reply" : Str) == some .globalImplicit && sc.names.lookup ("error_proto" : Str) == some .globalImplicit && sc.names.lookup ("fault" : Str) == some .local && sc.names.lookup ("str" : Str) == some .globalImplicit && isGlobalName sc "parse257" && isGlobalName sc "parse229"

noncomputable def rdCk (K : PySem.W.Frag) (C : Cx) (params : List Str) : Option (PE × PE × List PE × List PE) := (fnAt K "_law_read").bind fun f => gd (PySem.W.codeIn K f.2.2.code f.2.2.qualname && (defCk C f.2.2 params && rdScope f.2.2.scope)) ((stmtsO f.2.2.body).bind fun ss => (tryQ ss).bind fun q =>
  (hnOk "error_reply" "fault" codeS q.2.2.1.1).bind fun _ => (hnOk "error_proto" "fault" formS q.2.2.1.2).bind fun _ => (callB "parse257" q.1.2.1).bind fun c1 => (callB "parse229" q.1.2.2.1).bind fun c2 =>
  (cE C 60 f.2.2.scope (.IfExp q.1.1 q.1.2.1 q.1.2.2.1 q.1.2.2.2)).bind fun pe => (cE C 60 f.2.2.scope q.1.1).bind fun pt => (mapO (cE C 60 f.2.2.scope) c1.2.1).bind fun q1 => (mapO (cE C 60 f.2.2.scope) c2.2.1).bind fun q2 => some (pe, pt, q1, q2))
/-- what is known of the def that catches -/
structure RdK (B : Heap) (mg : Str → Option Value) (C : Cx) (params : List Str) (z : PE × PE × List PE × List PE) (a : Addr) (fd : FuncData) (o : Obj) (t ca cb : Expr) (ip rp tp : Pos) (g1 g2 : ExceptHandler) (c1 c2 : Pos × List Expr × Pos) : Prop where
  fn : FnK B mg "_law_read" a C fd params [.Try [.Return (some (.IfExp t ca cb ip)) rp] [g1, g2] [] [] tp] o
  ha : ca = .Call (.Name "parse257" c1.1) c1.2.1 [] c1.2.2
  hb : cb = .Call (.Name "parse229" c2.1) c2.2.1 [] c2.2.2
  sc : rdScope fd.scope = true
  k1 : hnOk "error_reply" "fault" codeS g1 = some ()
  k2 : hnOk "error_proto" "fault" formS g2 = some ()
  pe : cE C 60 fd.scope (.IfExp t ca cb ip) = some z.1
  pt : cE C 60 fd.scope t = some z.2.1
  q1 : mapO (cE C 60 fd.scope) c1.2.1 = some z.2.2.1
  q2 : mapO (cE C 60 fd.scope) c2.2.1 = some z.2.2.2
theorem rdK_of {P : Prop} {K : PySem.W.Frag} {B : Heap} {mg : Str → Option Value} {C : Cx} {params : List Str} {z : PE × PE × List PE × List PE} (X : K.In B) (G : B.Ns mainGlobals mg) (h : rdCk K C params = some z) (k : ∀ a fd o t ca cb ip rp tp g1 g2 c1 c2, RdK B mg C params z a fd o t ca cb ip rp tp g1 g2 c1 c2 → P) : P :=
  ob h fun f h1 h => fnAt_o h1 fun a o fd e e1 e2 e3 => by
    subst e
    exact gdo h fun hk h => ob h fun ss hb h => ob h fun q hq h => ob h fun _ g1 h => ob h fun _ g2 h => ob h fun c1 b1 h => ob h fun c2 b2 h => ob h fun pe d1 h => ob h fun pt d2 h => ob h fun q1 d3 h => ob h fun q2 d4 hz => and_o hk fun j1 hk => and_o hk fun j2 j3 => tryQ_o hq fun e4 => by
      subst e4
      obtain rfl := sj hz
      exact k a fd o q.1.1 q.1.2.1 q.1.2.2.1 q.1.2.2.2 q.2.1 q.2.2.2 q.2.2.1.1 q.2.2.1.2 c1 c2 ⟨⟨PySem.W.mg_of X G e1, X _ _ e2, e3, PySem.W.codeRec_of X j1, defOk0_of j2 (stmtsO_o hb)⟩, callB_o b1, callB_o b2, j3, g1, g2, d1, d2, d3, d4⟩

-- the text's own classes
noncomputable def clsO : Data → Option ClassData
  | .cls cd => some cd
  | _ => none
theorem clsO_o {v : Data} {a : ClassData} (h : clsO v = some a) : v = .cls a := by
  cases v with
  | cls b => rw [sj h]
  | _ => exact dead h
noncomputable def plainKey (e : DictEntry) : Bool := match strV e.key with
  | some k => !(k == ("__init__" : Str)) && !(k == ("__str__" : Str))
  | none => false
noncomputable def nsCk (K : PySem.W.Frag) (a : Addr) : Option (Array DictEntry) := (K.lookup a).bind fun o => (dictO' o.data).bind fun es => gd (es.toList.all plainKey) (some es)
noncomputable def ownCk (K : PySem.W.Frag) (a : Addr) : Option (Array DictEntry) := (K.lookup a).bind fun o => (clsO o.data).bind fun cd => nsCk K cd.ns
noncomputable def biV : Value → Option String
  | .builtin s => some s
  | _ => none
theorem biV_o {v : Value} {k : String} (h : biV v = some k) : v = .builtin k := by
  cases v with
  | builtin _ => rw [sj h]
  | _ => exact dead h
noncomputable def slot4 (sl : Array (Option Value)) : Bool := decide (sl.size = 6) && ((sl[4]?).bind fun v => v.bind biV) == some "Exception.__new__"
noncomputable def excCk (K : PySem.W.Frag) (x : Str) (own : List Addr) : Option Addr := (refAt K x).bind fun C => (K.lookup C).bind fun o => (clsO o.data).bind fun cd => (nsCk K cd.ns).bind fun _ =>
  gd (typeV o.cls == some "type" && (slot4 o.slots && ((cd.mro == (.ref C :: (own.map Value.ref ++ excMro))) && (!cd.hasDel && own.all fun a => (ownCk K a).isSome)))) (some C)
theorem plainKey_o {e : DictEntry} (h : plainKey e = true) : ∃ k t, e.key = .str k t ∧ (k == ("__init__" : Str)) = false ∧ (k == ("__str__" : Str)) = false := by
  unfold plainKey at h
  cases e1 : strV e.key with
  | none => rw [e1] at h; exact ff h
  | some k =>
    rw [e1] at h
    obtain ⟨t, e2⟩ := strV_o e1
    exact and_o h fun h1 h2 => ⟨k, t, e2, not_o h1, not_o h2⟩
theorem ns_none {es : Array DictEntry} {x : Str} (h : ∀ e ∈ es.toList, ∃ k t, e.key = .str k t ∧ (k == x) = false) : nsFind es x = none := by
  unfold nsFind findBy
  rw [← Array.find?_toList, Option.map_eq_none_iff, List.find?_eq_none]
  intro e he
  obtain ⟨k, t, q, q1⟩ := h e he
  rw [q]
  simpa [Value.isStr] using q1
theorem nsCk_o {K : PySem.W.Frag} {B : Heap} (X : K.In B) {a : Addr} {es : Array DictEntry} (h : nsCk K a = some es) : B.Ns a (nsFind es) ∧ nsFind es "__init__" = none ∧ nsFind es "__str__" = none :=
  ob h fun o ho h => ob h fun es' hd h => gdo h fun hk h => by
    obtain rfl := sj h
    obtain ⟨n, hd⟩ := dictO'_o hd
    have each := fun e (he : e ∈ es'.toList) => plainKey_o (List.all_eq_true.mp hk e he)
    exact ⟨⟨o, es', n, X _ _ ho, hd, fun e he => let ⟨k, t, q, _⟩ := each e (by simpa using he); ⟨k, t, q⟩, fun _ => rfl⟩, ns_none fun e he => let ⟨k, t, q, q1, _⟩ := each e he; ⟨k, t, q, q1⟩, ns_none fun e he => let ⟨k, t, q, _, q1⟩ := each e he; ⟨k, t, q, q1⟩⟩
theorem own_of {K : PySem.W.Frag} {B : Heap} (X : K.In B) {a : Addr} (h : (ownCk K a).isSome = true) : ∃ c0 dd cd sl mA, B.get? a = some { cls := c0, dict := dd, data := .cls cd, slots := sl } ∧ B.Ns cd.ns mA ∧ mA "__init__" = none ∧ mA "__str__" = none := by
  obtain ⟨es, h⟩ := Option.isSome_iff_exists.mp h
  refine ob h fun o ho h => ob h fun cd hc h => ?_
  obtain ⟨k1, k2⟩ := nsCk_o X h
  refine ⟨o.cls, o.dict, cd, o.slots, _, ?_, k1, k2⟩
  rw [← clsO_o hc]; exact X _ _ ho
theorem cons_o {α : Type} {P : Prop} {n : Nat} {l : List α} (h : l.length = n + 1) (k : ∀ a r, l = a :: r → r.length = n → P) : P := by
  cases l with
  | nil => cases h
  | cons a r => exact k a r rfl (Nat.succ.inj h)
theorem slot4_o {P : Prop} {sl : Array (Option Value)} (h : slot4 sl = true) (k : ∀ k0 k1 k2 k3 k5, sl = #[k0, k1, k2, k3, some (.builtin "Exception.__new__"), k5] → P) : P := and_o h fun h1 h2 => by
  obtain ⟨l⟩ := sl
  refine cons_o (l := l) (of_decide_eq_true h1) fun k0 l e0 h1 => cons_o h1 fun k1 l e1 h1 => cons_o h1 fun k2 l e2 h1 => cons_o h1 fun k3 l e3 h1 => cons_o h1 fun k4 l e4 h1 => cons_o h1 fun k5 l e5 h1 => ?_
  obtain rfl := List.eq_nil_of_length_eq_zero h1
  subst e5 e4 e3 e2 e1 e0
  have h2 : k4.bind biV = some "Exception.__new__" := beq_iff_eq.mp h2
  exact ob h2 fun v e h => k k0 k1 k2 k3 k5 (by rw [e, biV_o h])
theorem exc_of {K : PySem.W.Frag} {B : Heap} {mg : Str → Option Value} {x : Str} {own : List Addr} {C : Addr} (X : K.In B) (G : B.Ns mainGlobals mg) (h : excCk K x own = some C) : mg x = some (.ref C) ∧ ExcC B C own :=
  ob h fun C' hC h => ob h fun o ho h => ob h fun cd hc h => ob h fun es hn h => gdo h fun hk h => and_o hk fun j1 hk => and_o hk fun j2 hk => and_o hk fun j3 hk => and_o hk fun j4 j5 => by
    obtain rfl := sj h
    refine ⟨PySem.W.mg_of X G (refAt_o hC), ?_, fun a ha => own_of X (List.all_eq_true.mp j5 a ha)⟩
    obtain ⟨g1, g2⟩ := nsCk_o X hn
    refine slot4_o j2 fun k0 k1 k2 k3 k5 hs => ?_
    have this := X _ _ ho
    obtain ⟨c0, dd, data, sl⟩ := o
    obtain rfl : c0 = .type "type" := typeV_o (beq_iff_eq.mp j1)
    obtain rfl : data = .cls cd := clsO_o hc
    obtain rfl : sl = _ := hs
    obtain ⟨nm, bs, mro, ns, qn, hd, sn, sub, ab, col, del⟩ := cd
    obtain rfl : mro = _ := beq_iff_eq.mp j3
    obtain rfl : del = false := not_o j4
    exact ⟨⟨nm, qn, ns, bs, hd, sn, sub, ab, col, dd, k0, k1, k2, k3, k5⟩, _, this, g1, g2⟩
end Ev
namespace Ev
open PySem PySem.Calls PyProof.Rows

theorem idx_get : ∀ {l : List Str} {x : Str} {i : Nat}, idx l x = some i → l[i]? = some x
  | [], _, _, h => by simp [idx] at h
  | y :: r, x, i, h => by
    simp only [idx] at h
    split at h
    · rename_i q; cases h; subst q; rfl
    · simp only [Option.map_eq_some_iff] at h
      obtain ⟨j, h1, rfl⟩ := h
      simpa using idx_get h1

section
variable [Base] {prog : Program} {w : World} {B : Heap} {mg : Str → Option Value} {K : PySem.W.Frag}

noncomputable def FnC (prog : Program) (w : World) (B : Heap) (mg : Str → Option Value) (f : Str) (k : Nat) (ex : Bool) (F : List D → Option D) : Prop :=
  ∀ ds d, F ds = some d → ∃ a o fd, mg f = some (.ref a) ∧ B.get? a = some o ∧ o.data = .func fd ∧ FnSpec prog w B k ex a ds d

/-- the ground: what the top has left -/
structure Gd (B : Heap) (mg : Str → Option Value) : Prop where
  g : B.Ns mainGlobals mg
  eb : B = Base.heap
  nl : B.NoLimit
  b : ∃ mb, B.Ns builtinsNs mb ∧ ∀ x : Str, x ≠ ("__name__" : Str) → mb x = bootBuiltins x
  no : ∀ f : Str, biNames.contains f = true ∨ tyNames.contains f = true ∨ f = "isinstance" ∨ f = "list" ∨ f = "range" ∨ f = "bool" → mg f = none

theorem gl_of (H : Gd B mg) {C : Cx} {kF : Nat} {t : List (Nat × (List D → Option D))} (ht : ∀ p ∈ t, ∀ f, C.names[p.1]? = some f → FnC prog w B mg f kF C.exc p.2) : Gl prog w C (tabF t) B mg kF := by
  refine ⟨H.g, H.eb, H.nl, H.b, H.no, fun f i ds d _ hi hF => ?_⟩
  unfold tabF at hF
  cases e : t.lookup i with
  | none => rw [e] at hF; cases hF
  | some F =>
    rw [e] at hF
    have hm : (i, F) ∈ t := by
      clear ht hF
      induction t with
      | nil => simp at e
      | cons p r ih =>
        obtain ⟨j, G⟩ := p
        rw [List.lookup_cons] at e
        cases q : i == j with
        | true => rw [q] at e; cases e; rw [beq_iff_eq.mp q]; exact .head _
        | false => rw [q] at e; exact .tail _ (ih e)
    exact ht _ hm f (idx_get hi) ds d hF
theorem gl_0 (H : Gd B mg) {C : Cx} {kF : Nat} : Gl prog w C F0 B mg kF := ⟨H.g, H.eb, H.nl, H.b, H.no, fun f i ds d _ _ hF => by cases hF⟩

theorem callD_o {P : Prop} {C : Cx} {pr : List Str} {gρ : Rho} {ps : List PS} {F : Nat → List D → Option D} {N n : Nat} {ds : List D} {d : D} (h : callD C pr gρ ps F N n ds = some d) (k : ∀ ρ', ds.length = pr.length → exS F N n (rhoZ 0 ds ++ gρ) ps = some (.ret d, ρ') → P) : P := by
  unfold callD at h
  refine ifo h (fun hl h => ?_) fun _ h => dead h
  cases e : exS F N n (rhoZ 0 ds ++ gρ) ps with
  | none => rw [e] at h; exact dead h
  | some q =>
    rw [e] at h
    obtain ⟨fl, ρ'⟩ := q
    cases fl with
    | ret d' => exact k ρ' hl (by rw [e, sj (show some d' = some d from h)])
    | _ => exact dead h
theorem fnC_call (H : Gd B mg) (X : K.In B) {C : Cx} {F : Nat → List D → Option D} {kF N n m : Nat} {gρ : Rho} (G : Gl prog w C F B mg kF) (GD : GlData prog w C B mg gρ) {f : Str} {pr : List Str} {ps : List PS} (h : fnCk K f C pr m = some ps) {ex : Bool} (hex : C.exc = true → ex = true) :
    FnC prog w B mg f (kF + 1) ex (callD C pr gρ ps F N n) := fun ds d hd => callD_o hd fun ρ' hl he => fnK_of X H.g h fun a fd stmts o R DO hz => by
  rw [← rhoP_z hz hl.symm] at he
  exact ⟨a, o, fd, R.m, R.at_, R.d, call_sound G DO GD R.at_ R.d R.code hl.symm hex he⟩

/-- the raising of a def -/
theorem fnR_call (H : Gd B mg) (X : K.In B) {C : Cx} {kF N n m : Nat} {F : Nat → List D → Option D} {gρ : Rho} (G : Gl prog w C F B mg kF) (GD : GlData prog w C B mg gρ) {f : Str} {pr : List Str} {ps : List PS} (h : fnCk K f C pr m = some ps) (hexc : C.exc = false)
    {c : Str} {Cc : Addr} {own : List Addr} (hm : mg c = some (.ref Cc)) (XC : ExcC B Cc own) {x : Str} {ds : List D} {ρ' : Rho} (hl : pr.length = ds.length) (he : exS F N n (rhoZ 0 ds ++ gρ) ps = some (.raise c (.str x), ρ')) :
    ∃ a o fd, mg f = some (.ref a) ∧ B.get? a = some o ∧ o.data = .func fd ∧ RaiseSpec prog w B (kF + 1) a ds Cc x := by
  refine fnK_of X H.g h fun a fd stmts o R DO hz => ?_
  rw [← rhoP_z hz hl] at he
  exact ⟨a, o, fd, R.m, R.at_, R.d, raise_sound G DO GD R.at_ R.d R.code hm XC hl hexc he⟩

noncomputable def d_257 := callD cx_parse257 pr_parse257 gl_parse257 ps_parse257 F0 12 200
noncomputable def d_229 := callD cx_parse229 pr_parse229 gl_parse229 ps_parse229 F0 12 200
noncomputable def pe_read : PE := .ite (.var 1) (.fn 3 [.var 0]) (.fn 4 [.var 0, .tuple [.lit (.str ⟨#[104, 101, 114, 101]⟩), .lit (.int 7)]])
noncomputable def q2_read : List PE := [.var 0, .tuple [.lit (.str ⟨#[104, 101, 114, 101]⟩), .lit (.int 7)]]

theorem no_gl {C : Cx} : GlData prog w C B mg [] := ⟨fun i d h => by simp at h, fun x i d _ h => by simp at h⟩

noncomputable def arB (b : Bool) (x : Str) : List D := bif b then [.str x] else [.str x, hereD]
theorem fltC_o {P : Prop} {c y : Str} {d : D} (h : fltC c y = some d) (k1 : c = "error_reply" → strFit (codeS ++ y) = true → d = .str (codeS ++ y) → P) (k2 : c = "error_proto" → strFit (formS ++ y) = true → d = .str (formS ++ y) → P) : P :=
  ifo h (fun hc h => gdo h fun hf h => k1 (hc.trans nReply_eq) hf (sj h).symm) fun _ h => ifo h (fun hc h => gdo h fun hf h => k2 (hc.trans nProto_eq) hf (sj h).symm) fun _ h => dead h
theorem asBool_o {d : D} {x : Bool} (h : asBool d = some x) : d = .bool x := by
  cases d with
  | bool _ => rw [sj h]
  | _ => exact dead h
theorem d_read_o {P : Prop} {ds : List D} {d : D} (h : d_read ds = some d) (k : ∀ x b fl ρ', ds = [.str x, .bool b] → (bif b then run257 x else run229 x) = some (fl, ρ') → fltD fl = some d → P) : P :=
  ob h fun p h1 h => ob h fun x h2 h => ob h fun b h3 h => ob h fun q h4 h => two_o h1 fun h1 => k x b q.1 q.2 (by rw [h1, asStr_o h2, asBool_o h3]) h4 h
theorem fit_o {pre y : Str} (q : strFit (pre ++ y) = true) : pre.length + y.length ≤ sizeLine ∧ PyData.strOk (pre ++ y) = true := by
  have := strFit_of q
  rw [len_append] at this
  exact ⟨this.2, this.1⟩
noncomputable def tabR : List (Nat × (List D → Option D)) := [(3, d_257), (4, d_229)]
/-- what the reading def can do -/
noncomputable def FnE (prog : Program) (w : World) (B : Heap) (mg : Str → Option Value) (f : Str) (k : Nat) (ds : List D) (d : D) : Prop := ∃ a o fd, mg f = some (.ref a) ∧ B.get? a = some o ∧ o.data = .func fd ∧ FnSpec prog w B k true a ds d
theorem read_c (H : Gd B mg) (X : K.In B) {kF : Nat} {C1 C2 : Addr} {own1 own2 : List Addr} (e1 : mg "error_reply" = some (.ref C1)) (x1 : ExcC B C1 own1) (e2 : mg "error_proto" = some (.ref C2)) (x2 : ExcC B C2 own2)
    (n21 : (Value.ref C2 :: (own2.map Value.ref ++ excMro)).contains (.ref C1) = false)
    (h257 : fnCk K "parse257" cx_parse257 pr_parse257 100 = some ps_parse257) (h229 : fnCk K "parse229" cx_parse229 pr_parse229 100 = some ps_parse229) (hrd : rdCk K cx_law_read pr_law_read = some (pe_read, .var 1, [.var 0], q2_read)) :
    FnC prog w B mg "_law_read" (kF + 1 + 1) true d_read := by
  have G0 : ∀ {C : Cx}, Gl prog w C F0 B mg kF := gl_0 H
  have c257 : FnC prog w B mg "parse257" (kF + 1) true d_257 := fnC_call H X G0 no_gl h257 (fun e => nomatch e)
  have c229 : FnC prog w B mg "parse229" (kF + 1) true d_229 := fnC_call H X G0 no_gl h229 (fun e => nomatch e)
  have G : Gl prog w cx_law_read (tabF tabR) B mg (kF + 1) := gl_of H fun p hp f hf => by
    cases hp with
    | head => cases hf; exact c257
    | tail _ hp => cases hp with
      | head => cases hf; exact c229
      | tail _ hp => cases hp
  refine rdK_of X H.g hrd fun a fd o t ca cb ip rp tp g1 g2 c1 c2 R => ?_
  refine and_o R.sc fun s s6 => and_o s fun s s5 => and_o s fun s s4 => and_o s fun s s3 => and_o s fun s1 s2 => ?_
  have RD : RdOk cx_law_read mg B fd.scope "error_reply" "error_proto" "fault" C1 C2 own1 own2 := ⟨beq_iff_eq.mp s1, beq_iff_eq.mp s2, by decide +kernel, by decide +kernel, e1, e2, x1, x2, beq_iff_eq.mp s3, by decide +kernel, beq_iff_eq.mp s4, n21⟩
  have ok : ∀ x b d, evE (tabF tabR) 12 (rhoP cx_law_read.names pr_law_read [.str x, .bool b] ++ []) pe_read = some d → FnE prog w B mg "_law_read" (kF + 1 + 1) [.str x, .bool b] d := fun x b d he =>
    ⟨a, o, fd, R.fn.m, R.fn.at_, R.fn.d, read_ok G R.fn.ok no_gl R.fn.at_ R.fn.d R.fn.code rfl R.pe he⟩
  have err : ∀ (x : Str) (b : Bool) (c y : Str) (ρ' : Rho) (Cc : Addr) (own : List Addr) (pre : Str), (bif b then run257 x else run229 x) = some (.raise c (.str y), ρ') → mg c = some (.ref Cc) → ExcC B Cc own → ((Cc = C1 ∧ own = own1 ∧ pre = codeS) ∨ (Cc = C2 ∧ own = own2 ∧ pre = formS)) → strFit (pre ++ y) = true →
      FnE prog w B mg "_law_read" (kF + 1 + 1) [.str x, .bool b] (.str (pre ++ y)) := fun x b c y ρ' Cc own pre he hm XC hw hf => by
    cases b with
    | true =>
      obtain ⟨af, oF, fF, j1, j2, j3, j4⟩ := fnR_call (prog := prog) (w := w) H X (G0 (C := cx_parse257)) no_gl h257 rfl hm XC (ds := [.str x]) rfl he
      exact ⟨a, o, fd, R.fn.m, R.fn.at_, R.fn.d, read_err (f := "parse257") G R.fn.ok no_gl R.k1 R.k2 RD R.fn.at_ R.fn.d R.fn.code rfl (ds := [.str x, .bool true]) (c := true) (N := 12) rfl R.pt rfl R.ha s5 R.q1 (es := [.str x]) rfl j1 j2 j3 j4 hw (fit_o hf).1 (fit_o hf).2⟩
    | false =>
      obtain ⟨af, oF, fF, j1, j2, j3, j4⟩ := fnR_call (prog := prog) (w := w) H X (G0 (C := cx_parse229)) no_gl h229 rfl hm XC (ds := [.str x, hereD]) rfl he
      exact ⟨a, o, fd, R.fn.m, R.fn.at_, R.fn.d, read_err (f := "parse229") G R.fn.ok no_gl R.k1 R.k2 RD R.fn.at_ R.fn.d R.fn.code rfl (ds := [.str x, .bool false]) (c := false) (N := 12) rfl R.pt rfl R.hb s6 R.q2 (es := [.str x, hereD]) rfl j1 j2 j3 j4 hw (fit_o hf).1 (fit_o hf).2⟩
  have run : ∀ x b d ρ', (bif b then run257 x else run229 x) = some (.ret d, ρ') → evE (tabF tabR) 12 (rhoP cx_law_read.names pr_law_read [.str x, .bool b] ++ []) pe_read = some d := fun x b d ρ' he => by
    cases b with
    | true =>
      show d_257 [.str x] = some d
      unfold d_257 callD
      rw [if_pos (show ([.str x] : List D).length = pr_parse257.length from rfl)]
      rw [show exS F0 12 200 (rhoZ 0 [.str x] ++ gl_parse257) ps_parse257 = some (.ret d, ρ') from he]
    | false =>
      show d_229 [.str x, hereD] = some d
      unfold d_229 callD
      rw [if_pos (show ([.str x, hereD] : List D).length = pr_parse229.length from rfl)]
      rw [show exS F0 12 200 (rhoZ 0 [.str x, hereD] ++ gl_parse229) ps_parse229 = some (.ret d, ρ') from he]
  intro ds d hd
  refine d_read_o hd fun x b fl ρ' e he hf => ?_
  subst e
  cases fl with
  | ret d' => exact ok x b d (run x b d ρ' (by rw [he, sj (show some d' = some d from hf)]))
  | raise c dd =>
    exact ob hf fun y hy hf => by
      rw [asStr_o hy] at he
      exact fltC_o hf (fun hc h e => by subst hc e; exact err x b _ y ρ' C1 own1 codeS he e1 x1 (.inl ⟨rfl, rfl, rfl⟩) h) fun hc h e => by subst hc e; exact err x b _ y ρ' C2 own2 formS he e2 x2 (.inr ⟨rfl, rfl, rfl⟩) h
  | _ => exact dead hf
end
end Ev
namespace Ev
open PySem PySem.Calls PyProof.Rows

noncomputable def keyStr (e : DictEntry) : Str := match strV e.key with
  | some k => k
  | none => ⟨#[]⟩
theorem keys_det {es : List DictEntry} : ∀ {kvs : List (D × D)}, tokCk es kvs = some () → keysL kvs = es.map keyStr := by
  induction es with
  | nil =>
    intro kvs h
    rw [List.isEmpty_iff.mp (gdo h fun q _ => q)]; rfl
  | cons e es ih =>
    intro kvs h
    refine tokCk_cons h fun k i r t u e1 hk hv h' => ?_
    rw [e1]
    show k :: keysL r = keyStr e :: es.map keyStr
    rw [ih h', show keyStr e = k by unfold keyStr; rw [hk]; rfl]
noncomputable def isNN (o : Option (Option Value)) : Bool := match o with
  | some v => v.isNone
  | none => false
noncomputable def noNames (K : PySem.W.Frag) : Bool := (biNames ++ tyNames ++ (["isinstance", "list", "range", "bool"] : List Str)).all fun f => isNN (PySem.W.nsIn K mainGlobals f)

noncomputable def fnL : List (Str × Cx × List Str × List PS) := [("parse229", cx_parse229, pr_parse229, ps_parse229), ("parse257", cx_parse257, pr_parse257, ps_parse257), ("lt", cx_lt, pr_lt, ps_lt), ("le", cx_le, pr_le, ps_le), ("eq", cx_eq, pr_eq, ps_eq), ("ne", cx_ne, pr_ne, ps_ne), ("ge", cx_ge, pr_ge, ps_ge), ("gt", cx_gt, pr_gt, ps_gt),
  ("inv", cx_inv, pr_inv, ps_inv), ("mul", cx_mul, pr_mul, ps_mul), ("neg", cx_neg, pr_neg, ps_neg), ("pos", cx_pos, pr_pos, ps_pos), ("ISTERMINAL", cx_ISTERMINAL, pr_ISTERMINAL, ps_ISTERMINAL), ("ISNONTERMINAL", cx_ISNONTERMINAL, pr_ISNONTERMINAL, ps_ISNONTERMINAL), ("ISEOF", cx_ISEOF, pr_ISEOF, ps_ISEOF),
  ("_substitution_cost", cx_substitution_cost, pr_substitution_cost, ps_substitution_cost), ("_levenshtein_distance", cx_levenshtein_distance, pr_levenshtein_distance, ps_levenshtein_distance), ("_law_number", cx_law_number, pr_law_number, ps_law_number), ("_law_holds", cx_law_holds, pr_law_holds, ps_law_holds), ("_law_plain", cx_law_plain, pr_law_plain, ps_law_plain),
  ("_law_symbols", cx_law_symbols, pr_law_symbols, ps_law_symbols), ("_law_beaten", cx_law_beaten, pr_law_beaten, ps_law_beaten), ("_law_walks", cx_law_walks, pr_law_walks, ps_law_walks), ("law", cx_law, pr_law, ps_law)]
noncomputable def glL : List (Cx × Rho) := [(cx_ISTERMINAL, gl_ISTERMINAL), (cx_ISNONTERMINAL, gl_ISNONTERMINAL), (cx_ISEOF, gl_ISEOF), (cx_substitution_cost, gl_substitution_cost), (cx_levenshtein_distance, gl_levenshtein_distance), (cx_law_symbols, gl_law_symbols), (cx_law, gl_law)]
/-- all that the written part must show -/
structure KOk (K : PySem.W.Frag) (P : Params) (C1 C2 E : Addr) : Prop where
  fns : (fnL.map fun x => fnCk K x.1 x.2.1 x.2.2.1 100) = fnL.map fun x => some x.2.2.2
  rd : rdCk K cx_law_read pr_law_read = some (pe_read, .var 1, [.var 0], q2_read)
  gls : (glL.map fun x => glCk K x.1 x.2) = glL.map fun _ => some ()
  tab : tabCk K "EXACT_TOKEN_TYPES" tokL = some ()
  hs : tabHs K "EXACT_TOKEN_TYPES" = (keysL tokL).map (PyData.keyHash P)
  no : noNames K = true
  e1 : excCk K "error_reply" [E] = some C1
  e2 : excCk K "error_proto" [E] = some C2
  ap : (Value.ref C2 :: (([E] : List Addr).map Value.ref ++ excMro)).contains (.ref C1) = false

theorem no_of {K : PySem.W.Frag} {B : Heap} {mg : Str → Option Value} (X : K.In B) (G : B.Ns mainGlobals mg) (h : noNames K = true) (f : Str)
    (hf : biNames.contains f = true ∨ tyNames.contains f = true ∨ f = "isinstance" ∨ f = "list" ∨ f = "range" ∨ f = "bool") : mg f = none := by
  have hm : f ∈ biNames ++ tyNames ++ (["isinstance", "list", "range", "bool"] : List Str) := by
    rcases hf with h | h | h | h | h | h
    · exact List.mem_append_left _ (List.mem_append_left _ (List.contains_iff_mem.mp h))
    · exact List.mem_append_left _ (List.mem_append_right _ (List.contains_iff_mem.mp h))
    all_goals (subst h; simp)
  have := List.all_eq_true.mp h f hm
  cases e : PySem.W.nsIn K mainGlobals f with
  | none => rw [e] at this; exact ff this
  | some v =>
    rw [e] at this
    obtain rfl : v = none := Option.isNone_iff_eq_none.mp this
    exact PySem.W.mg_none_of X G e

section
variable {prog : Program} {w : World} {K : PySem.W.Frag} {mg : Str → Option Value} {C1 C2 E : Addr}

theorem KOk.fn {P : Params} (Kk : KOk K P C1 C2 E) {i : Nat} {f : Str} {C : Cx} {pr : List Str} {ps : List PS} (hi : fnL[i]? = some (f, C, pr, ps)) : fnCk K f C pr 100 = some ps := by
  have e := congrArg (fun l => l[i]?) Kk.fns
  rw [List.getElem?_map, List.getElem?_map, hi] at e
  exact Option.some.inj e
theorem KOk.gl {P : Params} (Kk : KOk K P C1 C2 E) {i : Nat} {C : Cx} {g : Rho} (hi : glL[i]? = some (C, g)) : glCk K C g = some () := by
  have e := congrArg (fun l => l[i]?) Kk.gls
  rw [List.getElem?_map, List.getElem?_map, hi] at e
  exact Option.some.inj e
section
variable [Base] {B : Heap} (Kk : KOk K w.params C1 C2 E) (X : K.In B) (H : Gd B mg)
include Kk
theorem hash_of (kvs : List (D × D)) (hk : tabCk K "EXACT_TOKEN_TYPES" kvs = some ()) : tabHs K "EXACT_TOKEN_TYPES" = (keysL kvs).map (PyData.keyHash w.params) := by
  rw [Kk.hs]
  refine ob hk fun q h1 h2 => ob Kk.tab fun q' h1' h2' => ?_
  rw [h1] at h1'
  rw [keys_det h2, keys_det h2', sj h1']
include X H
/-- a def that calls no other -/
theorem leaf {i : Nat} {f : Str} {C : Cx} {pr : List Str} {ps : List PS} (hi : fnL[i]? = some (f, C, pr, ps)) (hx : C.exc = false) {g : Rho} (GD : GlData prog w C B mg g) {N n k : Nat} {ex : Bool} : FnC prog w B mg f (k + 1) ex (callD C pr g ps F0 N n) :=
  fnC_call H X (gl_0 H) GD (Kk.fn hi) fun e => by rw [hx] at e; cases e
/-- a def that calls those of a table -/
theorem node {i : Nat} {f : Str} {C : Cx} {pr : List Str} {ps : List PS} (hi : fnL[i]? = some (f, C, pr, ps)) {g : Rho} (GD : GlData prog w C B mg g) {N n k : Nat} {t : List (Nat × (List D → Option D))} (ht : ∀ p ∈ t, ∀ f, C.names[p.1]? = some f → FnC prog w B mg f k C.exc p.2) : FnC prog w B mg f (k + 1) true (callD C pr g ps (tabF t) N n) :=
  fnC_call H X (gl_of H ht) GD (Kk.fn hi) fun _ => rfl
theorem data {i : Nat} {C : Cx} {g : Rho} (hi : glL[i]? = some (C, g)) : GlData prog w C B mg g := glData_of X H.g (hash_of Kk) (Kk.gl hi)
omit Kk X H in
/-- one more of a table -/
theorem tab_cons {C : Cx} {k i : Nat} {g : List D → Option D} {t : List (Nat × (List D → Option D))} {x : Str} (hx : C.names[i]? = some x) (h : FnC prog w B mg x k C.exc g) (ht : ∀ p ∈ t, ∀ f, C.names[p.1]? = some f → FnC prog w B mg f k C.exc p.2) : ∀ p ∈ (i, g) :: t, ∀ f, C.names[p.1]? = some f → FnC prog w B mg f k C.exc p.2 := fun p hp f hf => by
  cases hp with
  | head => rw [hx] at hf; cases hf; exact h
  | tail _ hp => exact ht p hp f hf
omit Kk X H in
theorem tab_nil {C : Cx} {k : Nat} : ∀ p ∈ ([] : List (Nat × (List D → Option D))), ∀ f, C.names[p.1]? = some f → FnC prog w B mg f k C.exc p.2 := fun p hp => nomatch hp
theorem c_lev : FnC prog w B mg "_levenshtein_distance" 2 true d_lev := node Kk X H (i := 16) rfl (data Kk X H (i := 4) rfl) (tab_cons rfl (leaf Kk X H (i := 15) rfl rfl (data Kk X H (i := 3) rfl)) tab_nil)
theorem c_num : FnC prog w B mg "_law_number" 2 true d_num := node Kk X H (i := 17) rfl no_gl (tab_cons rfl (leaf Kk X H (i := 8) rfl rfl no_gl) (tab_cons rfl (leaf Kk X H (i := 11) rfl rfl no_gl) (tab_cons rfl (leaf Kk X H (i := 10) rfl rfl no_gl) tab_nil)))
theorem c_holds : FnC prog w B mg "_law_holds" 2 true d_holds := node Kk X H (i := 18) rfl no_gl (tab_cons rfl (leaf Kk X H (i := 3) rfl rfl no_gl) (tab_cons rfl (leaf Kk X H (i := 6) rfl rfl no_gl) (tab_cons rfl (leaf Kk X H (i := 2) rfl rfl no_gl) (tab_cons rfl (leaf Kk X H (i := 7) rfl rfl no_gl)
  (tab_cons rfl (leaf Kk X H (i := 4) rfl rfl no_gl) (tab_cons rfl (leaf Kk X H (i := 5) rfl rfl no_gl) tab_nil))))))
theorem c_read : FnC prog w B mg "_law_read" 2 true d_read :=
  have E1 := exc_of X H.g Kk.e1
  have E2 := exc_of X H.g Kk.e2
  read_c (kF := 0) H X E1.1 E1.2 E2.1 E2.2 Kk.ap (Kk.fn (i := 1) rfl) (Kk.fn (i := 0) rfl) Kk.rd
theorem law_c : FnC prog w B mg "law" 3 true d_law :=
  node Kk X H (i := 23) rfl (data Kk X H (i := 6) rfl) (tab_cons rfl (leaf Kk X H (i := 20) rfl rfl (data Kk X H (i := 5) rfl)) (tab_cons rfl (leaf Kk X H (i := 21) rfl rfl no_gl) (tab_cons rfl (leaf Kk X H (i := 22) rfl rfl no_gl) (tab_cons rfl (c_read Kk X H) (tab_cons rfl (c_num Kk X H) (tab_cons rfl (c_holds Kk X H)
    (tab_cons rfl (leaf Kk X H (i := 9) rfl rfl no_gl) (tab_cons rfl (c_lev Kk X H) (tab_cons rfl (leaf Kk X H (i := 12) rfl rfl (data Kk X H (i := 0) rfl)) (tab_cons rfl (leaf Kk X H (i := 13) rfl rfl (data Kk X H (i := 1) rfl)) (tab_cons rfl (leaf Kk X H (i := 14) rfl rfl (data Kk X H (i := 2) rfl)) (tab_cons rfl (leaf Kk X H (i := 19) rfl rfl no_gl) tab_nil))))))))))))
end

theorem reps_ints [Base] {W : Addr → Prop} {h : Heap} {vs : List Value} {ns : List Int} (x : IntsAre vs ns) : Reps prog w W h (ns.map .int) vs := by
  induction x with
  | nil => exact .nil
  | cons i t _ ih => exact .cons rep_int ih

theorem main_law {s₁ : Shared} (Kk : KOk K w.params C1 C2 E) (X : K.In s₁.heap) (g : s₁.heap.Ns mainGlobals mg) (nl : s₁.heap.NoLimit) (b : ∃ mb, s₁.heap.Ns builtinsNs mb ∧ ∀ x : Str, x ≠ ("__name__" : Str) → mb x = bootBuiltins x)
    {l a : Addr} {vs : List Value} {ns : List Int} (hL : s₁.heap.IsList l vs.toArray) (hI : IntsAre vs ns) (hlen : ns.length ≤ 63) (hmg : mg "law" = some (.ref a)) (hlaw : d_law [.list (ns.map .int)] = some (.bool true))
    {Q E' : Value → Shared → Prop} (hQ : ∀ h' tk, (∀ b o, s₁.heap.get? b = some o → h'.get? b = some o) → Q (.bool true) { s₁ with heap := h', toks := tk }) :
    wpAny (model prog w) callerA (call (.ref a) [.ref l]) Q E' s₁ := by
  letI : Base := ⟨s₁.heap⟩
  have H : Gd s₁.heap mg := ⟨g, rfl, nl, b, fun f hf => no_of X g Kk.no f hf⟩
  obtain ⟨a', o, fd, h1, h2, h3, h4⟩ := law_c (prog := prog) (w := w) Kk X H _ _ hlaw
  rw [hmg] at h1
  cases h1
  have hr : Reps prog w (fun _ => False) s₁.heap [.list (ns.map .int)] [.ref l] := by
    refine .cons ⟨?_, fun _ _ q => q⟩ .nil
    simp only [RepT]
    refine ⟨l, vs, rfl, hL, ?_, reps_ints hI⟩
    rw [hI.length, sizeLine]
    omega
  refine wpAny_mono (h4 (fun _ => False) callerA s₁ [.ref l] E' ⟨rfl, by decide, by decide⟩ (fun _ => ⟨⟨[], rfl, fun e he => by cases he⟩, fun b ⟨l', e, hl', he, _⟩ => by cases hl'; cases he⟩) (fun _ _ e => e) (fun _ q => q.elim) (fun _ q => q.elim) hr) (fun v s' q => ?_) fun _ _ e => e
  obtain ⟨k, r, _⟩ := q
  simp only [RepT] at r
  subst r
  obtain ⟨h', tk, rfl⟩ := k.same
  exact hQ h' tk fun b o e => (k.keep b o e).base e
end
end Ev
namespace Ev
open PySem

/- to reckon in the small tongue, step by step -/
section
variable {F : Nat → List D → Option D} {N n : Nat} {ρ ρ' : Rho}

theorem exS_next {p : PS} {r : List PS} (h : exO F N n ρ p = some (.next, ρ')) : exS F N (n + 1) ρ (p :: r) = exS F N n ρ' r := ob_i h rfl
theorem exS_ret {p : PS} {r : List PS} {d : D} (h : exO F N n ρ p = some (.ret d, ρ')) : exS F N (n + 1) ρ (p :: r) = some (.ret d, ρ') := ob_i h rfl
theorem exS_raise {p : PS} {r : List PS} {c : Str} {d : D} (h : exO F N n ρ p = some (.raise c d, ρ')) : exS F N (n + 1) ρ (p :: r) = some (.raise c d, ρ') := ob_i h rfl
theorem exS_brk {p : PS} {r : List PS} (h : exO F N n ρ p = some (.brk, ρ')) : exS F N (n + 1) ρ (p :: r) = some (.brk, ρ') := ob_i h rfl
theorem ex_set {x : Nat} {e : PE} {d : D} (h : evE F N ρ e = some d) : exO F N (n + 1) ρ (.set x e) = some (.next, upd ρ x d) := ob_i h rfl
theorem ex_new {x : Nat} {e : PE} {d : D} (h : evE F N ρ e = some d) : exO F N (n + 1) ρ (.new x e) = some (.next, upd ρ x d) := ob_i h rfl
theorem ex_ret {e : PE} {d : D} (h : evE F N ρ e = some d) : exO F N (n + 1) ρ (.ret e) = some (.ret d, ρ) := ob_i h rfl
theorem ex_raise {c : Str} {e : PE} {d : D} (h : evE F N ρ e = some d) : exO F N (n + 1) ρ (.raise c e) = some (.raise c d, ρ) := ob_i h rfl
theorem ex_pair {x y : Nat} {a b : PE} {d d' : D} (h : evE F N ρ a = some d) (h' : evE F N ρ b = some d') : exO F N (n + 1) ρ (.pair x y a b) = some (.next, upd (upd ρ x d) y d') := ob_i h (ob_i h' rfl)
theorem ex_iffF {t : PE} {a : List PS} (h : evT F N ρ t = some false) : exO F N (n + 2) ρ (.iff t a []) = some (.next, ρ) := ob_i h rfl
theorem ex_iffT {t : PE} {a b : List PS} {o : Option (Fl × Rho)} (h : evT F N ρ t = some true) (h' : exS F N n ρ a = o) : exO F N (n + 1) ρ (.iff t a b) = o := ob_i h h'
theorem ex_extL {x : Nat} {e : PE} {ds ds' : List D} (h : evE F N ρ e = some (.list ds')) (h' : ρ.lookup x = some (.list ds)) (hl : ds.length + ds'.length < 1000) : exO F N (n + 1) ρ (.extL x e) = some (.next, upd ρ x (.list (ds ++ ds'))) :=
  ob_i (ob_i h rfl) (ob_i (ob_i h' rfl) (gd_i (decide_eq_true hl) rfl))
theorem ex_ext {x : Nat} {es : List PE} {ds ds' : List D} (h : mapO (evE F N ρ) es = some ds') (h' : ρ.lookup x = some (.list ds)) (hl : ds.length + ds'.length < 1000) : exO F (N + 1) (n + 1) ρ (.extL x (.list es)) = some (.next, upd ρ x (.list (ds ++ ds'))) :=
  ex_extL (ob_i h (gd_i (decide_eq_true (by omega)) rfl)) h' hl
theorem ex_aug {x : Nat} {op : Operator} {e : PE} {u v d : D} (h : ρ.lookup x = some u) (h' : evE F N ρ e = some v) (hd : augD op u v = some d) : exO F N (n + 1) ρ (.aug x op e) = some (.next, upd ρ x d) := ob_i h (ob_i h' (ob_i hd rfl))

theorem ev_lit {d : D} : evE F (n + 1) ρ (.lit d) = some d := rfl
theorem ev_var {x : Nat} {d : D} (h : ρ.lookup x = some d) : evE F (n + 1) ρ (.var x) = some d := h
theorem ev_own {x : Nat} {d : D} (h : ρ.lookup x = some d) : evE F (n + 1) ρ (.own x) = some d := h
theorem ev_bin {op : Operator} {a b : PE} {u v d : D} (ha : evE F n ρ a = some u) (hb : evE F n ρ b = some v) (h : binD op u v = some d) : evE F (n + 1) ρ (.bin op a b) = some d := ob_i ha (ob_i hb h)
theorem ev_item {a b : PE} {u v d : D} (ha : evE F n ρ a = some u) (hb : evE F n ρ b = some v) (h : itemD u v = some d) : evE F (n + 1) ρ (.item a b) = some d := ob_i ha (ob_i hb h)
theorem ev_cmp {op : CmpOp} {a b : PE} {u v : D} {c : Bool} (ha : evE F n ρ a = some u) (hb : evE F n ρ b = some v) (h : cmpD op u v = some c) : evE F (n + 1) ρ (.cmp op a b) = some (.bool c) := ob_i ha (ob_i hb (ob_i h rfl))
theorem ev_fn {f : Nat} {as : List PE} {ds : List D} {d : D} (ha : mapO (evE F n ρ) as = some ds) (h : F f ds = some d) : evE F (n + 1) ρ (.fn f as) = some d := ob_i ha h
theorem ev_bi {f : Str} {as : List PE} {ds : List D} {d : D} (ha : mapO (evE F n ρ) as = some ds) (h : builtinQ f ds = some d) : evE F (n + 1) ρ (.bi f as) = some d := ob_i ha h
theorem ev_ty {f : Str} {as : List PE} {ds : List D} {d : D} (ha : mapO (evE F n ρ) as = some ds) (h : typeQ f ds = some d) : evE F (n + 1) ρ (.ty f as) = some d := ob_i ha h
theorem ev_meth {f : Str} {o : PE} {as : List PE} {u : D} {ds : List D} {d : D} (ho : evE F n ρ o = some u) (ha : mapO (evE F n ρ) as = some ds) (h : methQ f u ds = some d) : evE F (n + 1) ρ (.meth f o as) = some d := ob_i ho (ob_i ha h)
theorem ev_list {es : List PE} {ds : List D} (h : mapO (evE F n ρ) es = some ds) (hl : ds.length ≤ 1000) : evE F (n + 1) ρ (.list es) = some (.list ds) := ob_i h (gd_i (decide_eq_true hl) rfl)
theorem ev_tuple {es : List PE} {ds : List D} (h : mapO (evE F n ρ) es = some ds) (hl : ds.length ≤ 1000) : evE F (n + 1) ρ (.tuple es) = some (.tuple ds) := ob_i h (gd_i (decide_eq_true hl) rfl)
theorem ev_ite {t a b : PE} {c : Bool} {d : D} (ht : evT F n ρ t = some c) (h : evE F n ρ (if c = true then a else b) = some d) : evE F (n + 1) ρ (.ite t a b) = some d :=
  ob_i ht (by cases c <;> exact h)
theorem ev_no {a : PE} {u : D} {c : Bool} (ha : evE F n ρ a = some u) (h : truthD u = some c) : evE F (n + 1) ρ (.no a) = some (.bool (!c)) := ob_i ha (ob_i h rfl)
theorem ev_slice {a : PE} {lo hi st : Option PE} {u d : D} {l h k : Option Int} (ha : evE F n ρ a = some u) (hl : partD (evE F n ρ) lo = some l) (hh : partD (evE F n ρ) hi = some h) (hk : partD (evE F n ρ) st = some k) (hd : sliceD u l h k = some d) :
    evE F (n + 1) ρ (.slice a lo hi st) = some d := ob_i ha (ob_i hl (ob_i hh (ob_i hk hd)))
theorem part_int {f : PE → Option D} {e : PE} {i : Int} (h : f e = some (.int i)) : partD f (some e) = some (some i) := ob_i h rfl
theorem evT_cmp {op : CmpOp} {a b : PE} {u v : D} {c : Bool} (ha : evE F n ρ a = some u) (hb : evE F n ρ b = some v) (h : cmpD op u v = some c) : evT F (n + 1) ρ (.cmp op a b) = some c := ob_i ha (ob_i hb h)
theorem mapO_cons' {α β : Type} {f : α → Option β} {a : α} {r : List α} {b : β} {bs : List β} (h : f a = some b) (h' : mapO f r = some bs) : mapO f (a :: r) = some (b :: bs) := ob_i h (ob_i h' rfl)
theorem mapO_nil' {α β : Type} {f : α → Option β} : mapO f [] = some [] := rfl
theorem mapO_map {α β : Type} {f : α → Option β} {g : α → β} : ∀ {l : List α}, (∀ a ∈ l, f a = some (g a)) → mapO f l = some (l.map g)
  | [], _ => rfl
  | a :: r, h => by rw [mapO_cons' (h a (.head _)) (mapO_map fun b hb => h b (.tail _ hb))]; rfl

-- comprehensions
theorem mapO_flat {α β : Type} {f : α → Option (List β)} {g : α → β} : ∀ {l : List α}, (∀ a ∈ l, f a = some [g a]) → ((mapO f l).bind fun p => some p.flatten) = some (l.map g)
  | l, h => by
    rw [mapO_map (g := fun a => [g a]) h]
    show some _ = _
    rw [show (l.map fun a => [g a]) = (l.map g).map (fun b => [b]) by rw [List.map_map]; rfl, ← List.flatMap_def, List.flatMap_singleton']
theorem flat_filterMap {g : D → Option D} : ∀ ds : List D, (ds.map fun d => (g d).toList).flatten = ds.filterMap g
  | [] => rfl
  | d :: r => by
    rw [List.map_cons, List.flatten_cons, List.filterMap_cons, flat_filterMap r]
    cases g d <;> rfl
theorem gen_one {ev : Rho → PE → Option D} {tst : Rho → PE → Option Bool} {it : Rho → PE → Option (List D)} {elt : PE} {x : Nat} {iter : PE} {ifs : List PE} {ds : List D} {g : D → Option D}
    (hx : ρ.lookup x = none) (hi : it ρ iter = some ds) (h : ∀ d ∈ ds, condO (allO (tst ((x, d) :: ρ)) ifs) (genO ev tst it elt [] ((x, d) :: ρ)) = some (g d).toList) :
    genO ev tst it elt [(x, iter, ifs)] ρ = some (ds.filterMap g) :=
  gd_i (by rw [hx]; rfl) (ob_i hi (ob_i (mapO_map (g := fun d => (g d).toList) h) (congrArg some (flat_filterMap ds))))
theorem ev_comp {elt : PE} {x : Nat} {iter : PE} {ds : List D} {g : D → D} (hx : ρ.lookup x = none) (hi : evI F n ρ iter = some ds) (h : ∀ d ∈ ds, evE F n ((x, d) :: ρ) elt = some (g d)) (hl : ds.length ≤ 16777215) :
    evE F (n + 1) ρ (.comp elt [(x, iter, [])]) = some (.list (ds.map g)) :=
  gd_i (by rw [List.any_cons, hx]; rfl) (ob_i (gd_i (by rw [hx]; rfl) (ob_i hi (mapO_flat (g := g) fun d hd => ob_i (a := true) rfl (ob_i (h d hd) rfl)))) (gd_i (decide_eq_true (by rw [List.length_map]; exact hl)) rfl))
theorem evI_own {x : Nat} {ds : List D} (h : ρ.lookup x = some (.list ds)) : evI F (n + 2) ρ (.own x) = some ds := ob_i (f := itemsD) (show evE F (n + 1) ρ (.own x) = _ from h) rfl
theorem evI_E {e : PE} {ds : List D} (hn : isRangeP e = false) (h : evE F n ρ e = some (.list ds)) : evI F (n + 1) ρ e = some ds := by
  cases e with
  | range _ => cases hn
  | _ => exact ob_i (f := itemsD) h rfl
theorem evI_range {as : List PE} {ds ls : List D} (h : mapO (evE F n ρ) as = some ds) (hr : rangeD ds = some ls) : evI F (n + 1) ρ (.range as) = some ls := ob_i h hr

-- places
theorem lk_ne {i j : Nat} {d : D} (h : j ≠ i) : ((i, d) :: ρ).lookup j = ρ.lookup j := by
  rw [List.lookup_cons]
  have hb : (j == i) = false := by simpa using h
  rw [hb]
end

-- equal things
mutual
theorem eqv_self : ∀ {n : Nat} (d : D), shallow n d = true → PyData.eqv d d = true
  | _, .none, _ => by simp [PyData.eqv]
  | _, .bool b, _ => by simp [PyData.eqv]
  | _, .int i, _ => by simp [PyData.eqv]
  | _, .str x, _ => by simp [PyData.eqv]
  | n + 1, .list ds, h => by
    rw [PyData.eqv]
    exact eqvAll_self ds (by simpa [shallow] using h)
  | n + 1, .tuple ds, h => by
    rw [PyData.eqv]
    exact eqvAll_self ds (by simpa [shallow] using h)
  | 0, .list ds, h => by simp [shallow] at h
  | 0, .tuple ds, h => by simp [shallow] at h
  | 0, .dict ds, h => by simp [shallow] at h
  | _ + 1, .dict ds, h => by simp [shallow] at h
theorem eqvAll_self : ∀ {n : Nat} (ds : List D), ds.all (shallow n) = true → PyData.eqvAll ds ds = true
  | _, [], _ => by simp [PyData.eqvAll]
  | n, d :: ds, h => by
    simp only [List.all_cons, Bool.and_eq_true] at h
    rw [PyData.eqvAll, eqv_self d h.1, eqvAll_self ds h.2]; rfl
end
theorem cmp_self {d : D} (h : shallow 8 d = true) : cmpD .NotEq d d = some false := by
  simp only [cmpD, h, Bool.and_self, if_true, eqv_self d h, Bool.not_true]
theorem cmp_same {d : D} (h : shallow 8 d = true) : cmpD .Eq d d = some true := by
  simp only [cmpD, h, Bool.and_self, if_true, eqv_self d h]
theorem sh_list {ds : List D} (h : ds.all (shallow 7) = true) : shallow 8 (.list ds) = true := by simpa [shallow] using h
end Ev
namespace Ev
open PySem PySem.StrLaws PySem.Builtin PySem.Builtin.Str

/-- a text by its signs' numbers -/
noncomputable abbrev T (l : List Nat) : Str := ⟨l.toArray⟩
theorem T_of (x : Str) : x = T x.cps.toList := by cases x; simp [T]
theorem T_inj {a b : List Nat} (h : T a = T b) : a = b := by
  have := congrArg (fun x : Str => x.cps.toList) h
  simpa [T] using this
theorem T_append (a b : List Nat) : T a ++ T b = T (a ++ b) := by
  apply Str.ext'
  show a.toArray ++ b.toArray = (a ++ b).toArray
  simp
theorem T_len (l : List Nat) : (T l).length = l.length := by simp [T, Str.length]
theorem T_ok {l : List Nat} : PyData.strOk (T l) = true ↔ ∀ c ∈ l, c < 0x110000 := by
  simp [PyData.strOk, T]
theorem T_fit {l : List Nat} (h : ∀ c ∈ l, c < 0x110000) (hl : l.length ≤ 16777216) : strFit (T l) = true := by
  simp only [strFit, Bool.and_eq_true, decide_eq_true_eq, T_len]
  exact ⟨T_ok.mpr h, hl⟩
theorem add_T {a b : List Nat} (h : a.length + b.length ≤ 16777216) : binD .Add (.str (T a)) (.str (T b)) = some (.str (T (a ++ b))) := by
  simp only [binD, addD, mulD, intOp, asInt, asStr, asList, Option.bind_some, T_len, if_pos h, T_append]

-- cuts
theorem T_filterMap (l : List Nat) (is : List Nat) : is.filterMap ((T l).cps[·]?) = is.filterMap (l[·]?) := by
  congr 1
  funext i
  simp [T]
theorem sl_some_some (l : List Nat) (a b : Nat) : Txt.slice (T l) (some (a : Int)) (some (b : Int)) = T ((l.drop a).take (b - a)) := by
  have hidx : strSliceIndices (some (a : Int)) (some (b : Int)) 1 (T l).length = (List.range (min b l.length - min a l.length)).map (fun k => min a l.length + k) := by
    rw [T_len]
    have h1 : ¬ ((a : Int) < 0) := by omega
    have h2 : ¬ ((b : Int) < 0) := by omega
    have e1 : max (0 : Int) (min (a : Int) (l.length : Int)) = ((min a l.length : Nat) : Int) := by omega
    have e2 : max (0 : Int) (min (b : Int) (l.length : Int)) = ((min b l.length : Nat) : Int) := by omega
    simp only [strSliceIndices, sliceRange, h1, h2, if_false, e1, e2, show ((1 : Int) > 0) = True from by simp, if_true]
    generalize min a l.length = p
    generalize min b l.length = q
    by_cases hlt : (p : Int) < q
    · have e3 : (((q : Int) - p + 1 - 1) / 1).toNat = q - p := by simp
      rw [if_pos hlt, e3]
      refine List.map_congr_left fun k _ => ?_
      omega
    · rw [if_neg hlt]
      have : q - p = 0 := by omega
      simp [this]
  have hpick : ((List.range (min b l.length - min a l.length)).map (fun k => min a l.length + k)).filterMap (l[·]?) = (l.drop a).take (b - a) := by
    by_cases hab : min a l.length + (min b l.length - min a l.length) ≤ l.length
    · rw [picks l _ _ hab]
      by_cases ha : a ≤ l.length
      · rw [Nat.min_eq_left ha]
        by_cases hb : b ≤ l.length
        · rw [Nat.min_eq_left hb]
        · rw [Nat.min_eq_right (by omega)]
          rw [List.take_of_length_le (by simp), List.take_of_length_le (by simp; omega)]
      · have h1 : min a l.length = l.length := by omega
        rw [h1, List.drop_of_length_le (Nat.le_refl _), List.drop_of_length_le (by omega)]
        simp
    · omega
  unfold Txt.slice
  rw [hidx, T_filterMap, hpick]
  split
  · rename_i h
    simp only [T_len, List.length_map, List.length_range, Bool.and_eq_true, beq_iff_eq] at h
    have hl := h.2
    by_cases h0 : l.length = 0
    · have : l = [] := List.eq_nil_of_length_eq_zero h0
      subst this; simp
    · have ha : a = 0 := by omega
      have hb : l.length ≤ b := by omega
      subst ha
      rw [List.drop_zero, Nat.sub_zero, List.take_of_length_le hb]
  · rfl
theorem slice_none_lo (x : Str) (u : Option Int) : Txt.slice x none u = Txt.slice x (some ((0 : Nat) : Int)) u := by
  unfold Txt.slice
  rw [show strSliceIndices none u 1 x.length = strSliceIndices (some ((0 : Nat) : Int)) u 1 x.length from sliceIdx_none_lo u x.length]
theorem slice_none_hi (x : Str) (u : Option Int) : Txt.slice x u none = Txt.slice x u (some (x.length : Int)) := by
  unfold Txt.slice
  rw [sliceIdx_none_hi u x.length]
theorem sl_to (l : List Nat) (b : Nat) : Txt.slice (T l) none (some (b : Int)) = T (l.take b) := by
  rw [slice_none_lo, sl_some_some]; simp
theorem sl_from (l : List Nat) (a : Nat) : Txt.slice (T l) (some (a : Int)) none = T (l.drop a) := by
  rw [slice_none_hi, T_len, sl_some_some]
  rw [List.take_of_length_le (by simp)]

-- one sign
theorem chAt_T {l : List Nat} {i : Nat} {c : Nat} (h : l[i]? = some c) : Txt.charAt (T l) (i : Int) = some c := by
  unfold Txt.charAt seqIndex?
  have hi : i < l.length := by
    rw [List.getElem?_eq_some_iff] at h; exact h.1
  have h1 : ¬ ((i : Int) < 0) := by omega
  rw [if_neg h1, T_len]
  have h2 : (decide ((0 : Int) ≤ i) && decide ((i : Int) < (l.length : Int))) = true := by simp; omega
  rw [if_pos h2]
  simp [T, h]
theorem item_T {l : List Nat} {i : Nat} {c : Nat} (h : l[i]? = some c) (hi : (i : Int) < 2 ^ 62) : itemD (.str (T l)) (.int (i : Int)) = some (.str (T [c])) := by
  have e := chAt_T h
  have f : fitsSsize (i : Int) = true := by
    have h1 : ¬ ((i : Int) < -(2 ^ 63 : Int)) := by omega
    have h2 : ¬ ((i : Int) ≥ 2 ^ 63) := by omega
    unfold fitsSsize
    rw [decide_eq_false h1, decide_eq_false h2]; rfl
  simp only [itemD, seqItem, asInt, asStr, Option.bind_some, f, e, Option.isSome_some, Bool.and_self, if_true, Txt.item, Option.getD_some]
theorem contains_T (l : List Nat) (c : Nat) : Txt.contains (T l) (T [c]) = decide (c ∈ l) := by
  have := found_one (T l) c
  simpa [Txt.contains] using this

-- seeking
theorem at_T {l : List Nat} {c i : Nat} : At (T l) (T [c]) (T l).length i ↔ l[i]? = some c := by
  have := subAt_one (T l) c i
  simpa [At] using this
theorem find_T {pre post : List Nat} {c : Nat} (h : c ∉ pre) : Txt.find (T (pre ++ c :: post)) (T [c]) = (pre.length : Int) := by
  unfold Txt.find
  rcases occ_head (T (pre ++ c :: post)) (T [c]) 1 (Nat.le_refl 1) with ⟨_, hn⟩ | ⟨i, r, h0, hi, hk⟩
  · exact absurd (at_T.mpr (by simp)) (hn pre.length)
  · rw [h0]
    have hi' := at_T.mp hi
    have : i = pre.length := by
      rcases Nat.lt_trichotomy i pre.length with q | q | q
      · rw [List.getElem?_append_left q] at hi'
        exact absurd (List.mem_of_getElem? hi') h
      · exact q
      · exact absurd (at_T.mpr (by simp)) (hk pre.length q)
    rw [this]
theorem find_T_none {l : List Nat} {c : Nat} (h : c ∉ l) : Txt.find (T l) (T [c]) = -1 := by
  unfold Txt.find
  rcases occ_head (T l) (T [c]) 1 (Nat.le_refl 1) with ⟨h0, _⟩ | ⟨i, r, h0, hi, hk⟩
  · rw [h0]
  · exact absurd (List.mem_of_getElem? (at_T.mp hi)) h
theorem fromIndex_nat (n k : Nat) : fromIndex n (k : Int) = k := by
  unfold fromIndex
  have : ¬ ((k : Int) < 0) := by omega
  rw [if_neg this]; omega
theorem find3_T {p pre post : List Nat} {c : Nat} (h : c ∉ pre) : Txt.find3 (T (p ++ (pre ++ c :: post))) (T [c]) (p.length : Int) = ((p.length + pre.length : Nat) : Int) := by
  unfold Txt.find3
  rw [fromIndex_nat]
  rcases occ_head_from (T (p ++ (pre ++ c :: post))) (T [c]) p.length 1 (Nat.le_refl 1) with ⟨_, hn⟩ | ⟨i, r, h0, hlo, hi, hk⟩
  · refine absurd (at_T.mpr ?_) (hn (p.length + pre.length) (by omega))
    rw [List.getElem?_append_right (by omega)]; simp
  · rw [h0]
    have hi' := at_T.mp hi
    rw [List.getElem?_append_right hlo] at hi'
    have : i = p.length + pre.length := by
      rcases Nat.lt_trichotomy i (p.length + pre.length) with q | q | q
      · rw [List.getElem?_append_left (by omega)] at hi'
        exact absurd (List.mem_of_getElem? hi') h
      · exact q
      · refine absurd (at_T.mpr ?_) (hk (p.length + pre.length) (by omega) q)
        rw [List.getElem?_append_right (by omega)]; simp
    rw [this]
theorem find3_T_none {p l : List Nat} {c : Nat} (h : c ∉ l) : Txt.find3 (T (p ++ l)) (T [c]) (p.length : Int) = -1 := by
  unfold Txt.find3
  rw [fromIndex_nat]
  rcases occ_head_from (T (p ++ l)) (T [c]) p.length 1 (Nat.le_refl 1) with ⟨h0, _⟩ | ⟨i, r, h0, hlo, hi, hk⟩
  · rw [h0]
  · have hi' := at_T.mp hi
    rw [List.getElem?_append_right hlo] at hi'
    exact absurd (List.mem_of_getElem? hi') h

-- cut by a sign
noncomputable def joinL (c : Nat) : List (List Nat) → List Nat
  | [] => []
  | [p] => p
  | p :: q :: r => p ++ c :: joinL c (q :: r)
theorem join_T (c : Nat) : ∀ ps : List (List Nat), Str.join (T [c]) (ps.map T) = T (joinL c ps)
  | [] => rfl
  | [p] => rfl
  | p :: q :: r => by
    show T p ++ T [c] ++ Str.join (T [c]) ((q :: r).map T) = _
    rw [join_T c (q :: r), T_append, T_append]
    simp [joinL]
theorem joinL_cons (c : Nat) (p : List Nat) {r : List (List Nat)} (h : r ≠ []) : joinL c (p :: r) = p ++ c :: joinL c r := by
  cases r with
  | nil => exact absurd rfl h
  | cons q r => rfl
theorem split_at {c : Nat} : ∀ {p q a b : List Nat}, c ∉ p → c ∉ q → p ++ c :: a = q ++ c :: b → p = q ∧ a = b
  | [], [], a, b, _, _, h => by simpa using h
  | [], y :: q, a, b, _, hq, h => by
    simp only [List.nil_append, List.cons_append, List.cons.injEq] at h
    exact absurd (h.1 ▸ List.mem_cons_self) hq
  | x :: p, [], a, b, hp, _, h => by
    simp only [List.nil_append, List.cons_append, List.cons.injEq] at h
    exact absurd (h.1 ▸ List.mem_cons_self) hp
  | x :: p, y :: q, a, b, hp, hq, h => by
    simp only [List.cons_append, List.cons.injEq] at h
    simp only [List.mem_cons, not_or] at hp hq
    obtain ⟨e1, e2⟩ := split_at hp.2 hq.2 h.2
    exact ⟨by rw [h.1, e1], e2⟩
theorem joinL_inj {c : Nat} : ∀ {ps qs : List (List Nat)}, ps ≠ [] → qs ≠ [] → (∀ p ∈ ps, c ∉ p) → (∀ q ∈ qs, c ∉ q) → joinL c ps = joinL c qs → ps = qs
  | [], _, h, _, _, _, _ => absurd rfl h
  | _ :: _, [], _, h, _, _, _ => absurd rfl h
  | [p], [q], _, _, _, _, h => by rw [show p = q from h]
  | [p], q :: q' :: r, _, _, hp, _, h => by
    have : c ∈ p := by
      rw [show p = joinL c [p] from rfl, h]
      simp [joinL]
    exact absurd this (hp p (.head _))
  | p :: p' :: r, [q], _, _, _, hq, h => by
    have : c ∈ q := by
      rw [show q = joinL c [q] from rfl, ← h]
      simp [joinL]
    exact absurd this (hq q (.head _))
  | p :: p' :: r, q :: q' :: r', _, _, hp, hq, h => by
    obtain ⟨e1, e2⟩ := split_at (hp p (.head _)) (hq q (.head _)) h
    rw [e1, joinL_inj (by simp) (by simp) (fun x hx => hp x (.tail _ hx)) (fun x hx => hq x (.tail _ hx)) e2]
theorem split_T {c : Nat} {ps : List (List Nat)} (h : ps ≠ []) (hf : ∀ p ∈ ps, c ∉ p) : Txt.split (T (joinL c ps)) (T [c]) = ps.map T := by
  have e1 := join_split (T (joinL c ps)) (T [c])
  have e2 := split_free (T (joinL c ps)) c
  have hv : Txt.split (T (joinL c ps)) (T [c]) = ((Txt.split (T (joinL c ps)) (T [c])).map fun x => x.cps.toList).map T := by
    rw [List.map_map]
    conv => lhs; rw [← List.map_id (Txt.split (T (joinL c ps)) (T [c]))]
    refine List.map_congr_left fun x _ => ?_
    exact T_of x
  generalize hq : (Txt.split (T (joinL c ps)) (T [c])).map (fun x => x.cps.toList) = qs at hv
  have e2' : ∀ q ∈ qs, c ∉ q := fun q hm => by
    rw [← hq, List.mem_map] at hm
    obtain ⟨x, hx, rfl⟩ := hm
    exact e2 x hx
  rw [hv] at e1 ⊢
  rw [join_T] at e1
  have e3 := T_inj e1
  have hne : qs ≠ [] := fun q => by
    subst q
    have hs : Txt.split (T (joinL c ps)) (T [c]) = [] := by simpa using hv
    unfold Txt.split at hs
    split at hs
    · cases hs
    · split at hs
      · cases hs
      · simp [Builtin.Str.partsBetween] at hs
  rw [joinL_inj h hne hf e2' e3.symm]
theorem mul_T (l : List Nat) (n : Int) : Txt.mul (T l) n = T (List.replicate n.toNat l).flatten := by
  rw [T_of (Txt.mul (T l) n), @mul_toList ⟨default⟩]
theorem glue_T (s : List Nat) (ps : List (List Nat)) : Txt.join (T s) (ps.map T) = T (match ps with | [] => [] | p :: r => p ++ (r.map fun q => s ++ q).flatten) := by
  unfold Txt.join
  rw [glued_eq_join]
  induction ps with
  | nil => rfl
  | cons p r ih =>
    cases r with
    | nil => simp [Str.join]
    | cons q r =>
      show T p ++ T s ++ Str.join (T s) ((q :: r).map T) = _
      rw [ih, T_append, T_append]
      simp
end Ev
namespace Ev
open PySem PySem.StrLaws PySem.Builtin PySem.Builtin.Str

theorem q_find (x y : Str) : methQ n_find (.str x) [.str y] = some (.int (Txt.find x y)) := rfl
theorem q_find3 (x y : Str) (i : Int) : methQ n_find (.str x) [.str y, .int i] = some (.int (Txt.find3 x y i)) := rfl
theorem n_split_ne : n_split ≠ n_find := by decide
theorem partsB_len (x : Str) (c : Nat) : (partsBetween x (occurrences x (T [c]) 0 x.length (x.length + 1)) (T [c]).length).length ≤ x.length + 2 := by
  have := occ_length_le x (T [c]) 0 x.length (x.length + 1)
  simp only [partsBetween, List.length_map, List.length_zip, List.length_cons, List.length_append, List.length_nil]
  omega
theorem mem_joinL {c : Nat} : ∀ {ps : List (List Nat)} {p : List Nat}, p ∈ ps → ∀ a ∈ p, a ∈ joinL c ps
  | [q], p, hp, a, ha => by simp only [List.mem_singleton] at hp; subst hp; exact ha
  | q :: q' :: r, p, hp, a, ha => by
    simp only [joinL, List.mem_append, List.mem_cons]
    cases hp with
    | head => exact .inl ha
    | tail _ hp => exact .inr (.inr (mem_joinL hp a ha))
theorem len_joinL {c : Nat} : ∀ {ps : List (List Nat)}, ps ≠ [] → ps.length ≤ (joinL c ps).length + 1 ∧ ∀ p ∈ ps, p.length ≤ (joinL c ps).length
  | [], h => absurd rfl h
  | [q], _ => ⟨by simp, fun p hp => by simp only [List.mem_singleton] at hp; subst hp; exact Nat.le_refl _⟩
  | q :: q' :: r, _ => by
    obtain ⟨h1, h2⟩ := len_joinL (c := c) (ps := q' :: r) (by simp)
    simp only [joinL, List.length_append, List.length_cons] at h1 ⊢
    refine ⟨by omega, fun p hp => ?_⟩
    cases hp with
    | head => omega
    | tail _ hp => have := h2 p hp; omega
theorem q_split {c : Nat} {ps : List (List Nat)} (h : ps ≠ []) (hf : ∀ p ∈ ps, c ∉ p) (hl : (joinL c ps).length ≤ 1000) (ho : ∀ a ∈ joinL c ps, a < 0x110000) :
    methQ n_split (.str (T (joinL c ps))) [.str (T [c])] = some (.list (ps.map fun p => .str (T p))) := by
  have e := split_T h hf
  obtain ⟨h1, h2⟩ := len_joinL (c := c) h
  have all : (ps.map T).all strFit = true := by
    rw [List.all_map, List.all_eq_true]
    intro p hp
    exact T_fit (fun a ha => ho a (mem_joinL hp a ha)) (by have := h2 p hp; omega)
  show splitD (T (joinL c ps)) (T [c]) = _
  unfold splitD
  rw [if_pos, e]
  · simp [List.map_map, Function.comp_def]
  · rw [e]
    refine ⟨by rw [T_len]; simp, by rw [T_len]; omega, all, by simp; omega, ?_⟩
    have := partsB_len (T (joinL c ps)) c
    simp only [T_len] at this ⊢
    omega
theorem q_len {x : Str} : builtinQ n_len [.str x] = some (.int (x.length : Int)) := rfl
theorem q_lenL {ds : List D} : builtinQ n_len [.list ds] = some (.int (ds.length : Int)) := rfl
theorem q_int {x : Str} {n : Int} (hl : x.length ≤ 640) (h : PySem.intText? x = some n) : typeQ n_int [.str x] = some (.int n) := by
  show intD (.str x) = _
  unfold intD
  exact ob_i rfl ((if_pos hl).trans (ob_i h rfl))
theorem q_str {i : Int} (h : i.natAbs < 10 ^ 10) : typeQ n_str [.int i] = some (.str (Str.ofString (toString i))) := by
  show strD (.int i) = _
  unfold strD
  exact ob_i rfl (if_pos h)
theorem it_seq {ds : List D} {i : Nat} {d : D} (h : ds[i]? = some d) (hi : i < 1000) : seqItem ds (i : Int) = some d := by
  have hl : i < ds.length := by rw [List.getElem?_eq_some_iff] at h; exact h.1
  have h1 : -(2 ^ 63 : Int) ≤ (i : Int) ∧ (i : Int) < 2 ^ 63 := by omega
  unfold seqItem
  rw [if_pos h1, seqIndex_nonneg (by omega) (by omega)]
  simpa using h
theorem it_list {ds : List D} {i : Nat} {d : D} (h : ds[i]? = some d) (hi : i < 1000) : itemD (.list ds) (.int (i : Int)) = some d := ob_i (o := asInt (.int (i : Int))) (f := fun i => seqItem ds i) rfl (it_seq h hi)
theorem it_tuple {ds : List D} {i : Nat} {d : D} (h : ds[i]? = some d) (hi : i < 1000) : itemD (.tuple ds) (.int (i : Int)) = some d := ob_i (o := asInt (.int (i : Int))) (f := fun i => seqItem ds i) rfl (it_seq h hi)
section
variable {pre b tail : List Nat} {m : Nat}

/-- the first two looks at a reply -/
theorem p229_head {ρ : Rho} {F : Nat → List D → Option D} {n : Nat} {r : List PS} {rest : List Nat} (h3 : pre.take 3 = [50, 50, 57]) (hp : 40 ∉ pre) (hl : 3 ≤ pre.length) (hρ : ρ = [(0, .str (T (pre ++ 40 :: rest))), (1, hereD)]) :
    exS F 12 (n + 6) ρ (.iff (.cmp .NotEq (.slice (.own 0) none (some (.lit (.int 3))) none) (.lit (.str ⟨#[50, 50, 57]⟩))) [.raise nReply (.var 0)] [] ::
      .set 2 (.meth n_find (.var 0) [(.lit (.str ⟨#[40]⟩))]) :: .iff (.cmp .Lt (.own 2) (.lit (.int 0))) [.raise nProto (.var 0)] [] :: r) =
    exS F 12 (n + 3) [(0, .str (T (pre ++ 40 :: rest))), (1, hereD), (2, .int (pre.length : Int))] r := by
  subst hρ
  have e3 : (pre ++ 40 :: rest).take 3 = [50, 50, 57] := by rw [List.take_append_of_le_length hl, h3]
  rw [exS_next (ex_iffF (evT_cmp (u := .str (T [50, 50, 57])) (ev_slice (u := .str (T (pre ++ 40 :: rest))) (l := none) (h := some 3) (k := none) (ev_own rfl) rfl rfl rfl ?_) ev_lit (cmp_self (d := .str (T [50, 50, 57])) rfl)))]
  rw [exS_next (ex_set (ev_meth (u := .str (T (pre ++ 40 :: rest))) (ds := [.str (T [40])]) (ev_var rfl) rfl (q_find _ _)))]
  rw [find_T hp]
  have hn : decide ((pre.length : Int) < 0) = false := decide_eq_false (by omega)
  rw [exS_next (ex_iffF (evT_cmp (u := .int (pre.length : Int)) (v := .int 0) (ev_own rfl) ev_lit (by simp only [cmpD, ltD, inD, ninD, asInt, asStr, asBool, Option.bind_some, hn])))]
  rfl
  · show some (PyData.str (Txt.slice _ none (some ((3 : Nat) : Int)))) = _
    rw [sl_to, e3]

theorem int_lt_false {k : Nat} : cmpD .Lt (.int (k : Int)) (.int 0) = some false := by
  have hn : decide ((k : Int) < 0) = false := decide_eq_false (by omega)
  simp only [cmpD, ltD, inD, ninD, asInt, asStr, asBool, Option.bind_some, hn]
theorem int_add_one {k : Nat} : binD .Add (.int (k : Int)) (.int 1) = some (.int ((k + 1 : Nat) : Int)) := by simp [binD, addD, mulD, intOp, asInt, asStr, asList, Option.bind_some]
theorem int_sub_one {k : Nat} : binD .Sub (.int ((k + 1 : Nat) : Int)) (.int 1) = some (.int (k : Int)) := by
  simp only [binD, addD, mulD, intOp, asInt, asStr, asList, Option.bind_some, Option.some.injEq, PyData.int.injEq]; omega

/-- no closing bracket -/
theorem run229_open (h3 : pre.take 3 = [50, 50, 57]) (hp : 40 ∉ pre) (hl : 3 ≤ pre.length) (hb : 41 ∉ b) : ∃ ρ', run229 (T (pre ++ 40 :: b)) = some (.raise nProto (.str (T (pre ++ 40 :: b))), ρ') := by
  unfold run229
  show ∃ ρ', exS F0 12 (194 + 6) [(0, .str (T (pre ++ 40 :: b))), (1, hereD)] ps_parse229 = _
  have hh := p229_head (F := F0) (n := 194) (r := ps_parse229.drop 3) (rest := b) h3 hp hl rfl
  rw [show ps_parse229 = _ :: _ :: _ :: ps_parse229.drop 3 from rfl]
  refine ⟨[(0, .str (T (pre ++ 40 :: b))), (1, hereD), (2, .int (pre.length : Int)), (3, .int (-1))], hh.trans ?_⟩
  have hf : Txt.find3 (T (pre ++ 40 :: b)) (T [41]) ((pre.length + 1 : Nat) : Int) = -1 := by
    have := find3_T_none (p := pre ++ [40]) (l := b) (c := 41) hb
    simpa using this
  show exS F0 12 197 _ (_ :: _ :: _) = _
  refine (exS_next (ex_set (ev_meth (u := .str (T (pre ++ 40 :: b))) (ds := [.str (T [41]), .int ((pre.length + 1 : Nat) : Int)]) (ev_var rfl) (mapO_cons' ev_lit (mapO_cons' (ev_bin (u := .int (pre.length : Int)) (ev_own rfl) ev_lit int_add_one) rfl)) (q_find3 _ _ _)))).trans ?_
  rw [hf]
  exact exS_raise (ex_iffT (evT_cmp (u := .int (-1)) (v := .int 0) (ev_own rfl) ev_lit rfl) (exS_raise (ex_raise (ev_var rfl))))

/-- up to the cut -/
theorem run229_cut {ps : List (List Nat)} (h3 : pre.take 3 = [50, 50, 57]) (hp : 40 ∉ pre) (hl : 3 ≤ pre.length) (hb : 41 ∉ b) (h0 : b[0]? = some m) (hx : b[b.length - 1]? = some m) (hj : b = joinL m ps) (hne : ps ≠ []) (hf : ∀ p ∈ ps, m ∉ p)
    (hlen : pre.length + b.length ≤ 900) (ho : ∀ a ∈ b, a < 0x110000) :
    run229 (T (pre ++ 40 :: (b ++ 41 :: tail))) = exS F0 12 193 [(0, .str (T (pre ++ 40 :: (b ++ 41 :: tail)))), (1, hereD), (2, .int (pre.length : Int)), (3, .int ((pre.length + 1 + b.length : Nat) : Int)), (4, .list (ps.map fun p => .str (T p)))] (ps_parse229.drop 7) := by
  unfold run229
  show exS F0 12 (194 + 6) [(0, .str (T (pre ++ 40 :: (b ++ 41 :: tail)))), (1, hereD)] ps_parse229 = _
  have hh := p229_head (F := F0) (n := 194) (r := ps_parse229.drop 3) (rest := b ++ 41 :: tail) h3 hp hl rfl
  rw [show ps_parse229 = _ :: _ :: _ :: ps_parse229.drop 3 from rfl]
  refine hh.trans ?_
  have hfi : Txt.find3 (T (pre ++ 40 :: (b ++ 41 :: tail))) (T [41]) ((pre.length + 1 : Nat) : Int) = ((pre.length + 1 + b.length : Nat) : Int) := by
    have := find3_T (p := pre ++ [40]) (pre := b) (post := tail) (c := 41) hb
    simpa using this
  show exS F0 12 197 _ (_ :: _ :: _ :: _ :: ps_parse229.drop 7) = _
  refine (exS_next (ex_set (ev_meth (u := .str (T (pre ++ 40 :: (b ++ 41 :: tail)))) (ds := [.str (T [41]), .int ((pre.length + 1 : Nat) : Int)]) (ev_var rfl) (mapO_cons' ev_lit (mapO_cons' (ev_bin (u := .int (pre.length : Int)) (ev_own rfl) ev_lit int_add_one) rfl)) (q_find3 _ _ _)))).trans ?_
  rw [hfi]
  refine (exS_next (ex_iffF (evT_cmp (u := .int ((pre.length + 1 + b.length : Nat) : Int)) (v := .int 0) (ev_own rfl) ev_lit int_lt_false))).trans ?_
  have hbl : 0 < b.length := by
    rw [List.getElem?_eq_some_iff] at h0; exact h0.1
  have i1 : (pre ++ 40 :: (b ++ 41 :: tail))[pre.length + 1]? = some m := by
    rw [List.getElem?_append_right (by omega)]
    simp only [Nat.add_sub_cancel_left, List.getElem?_cons_succ]
    rw [List.getElem?_append_left hbl, h0]
  have i2 : (pre ++ 40 :: (b ++ 41 :: tail))[pre.length + b.length]? = some m := by
    rw [List.getElem?_append_right (by omega), Nat.add_sub_cancel_left]
    obtain ⟨c, hc⟩ : ∃ c, b.length = c + 1 := ⟨b.length - 1, by omega⟩
    rw [hc, List.getElem?_cons_succ, List.getElem?_append_left (by omega)]
    rw [hc] at hx
    simpa using hx
  have hcut : Txt.slice (T (pre ++ 40 :: (b ++ 41 :: tail))) (some ((pre.length + 1 : Nat) : Int)) (some ((pre.length + 1 + b.length : Nat) : Int)) = T b := by
    rw [sl_some_some]
    have : (pre ++ 40 :: (b ++ 41 :: tail)).drop (pre.length + 1) = b ++ 41 :: tail := by
      rw [List.drop_append, List.drop_of_length_le (by omega)]
      simp
    rw [this, Nat.add_sub_cancel_left, List.take_left]
  have ei : ∀ {n : Nat} {ρ : Rho}, ρ.lookup 0 = some (.str (T (pre ++ 40 :: (b ++ 41 :: tail)))) → ρ.lookup 2 = some (.int (pre.length : Int)) → evE F0 (n + 3) ρ (.item (.own 0) (.bin .Add (.own 2) (.lit (.int 1)))) = some (.str (T [m])) := fun h1 h2 =>
    ev_item (ev_own h1) (ev_bin (ev_own h2) ev_lit int_add_one) (item_T i1 (by omega))
  refine (exS_next (ex_iffF (evT_cmp (u := .str (T [m])) (v := .str (T [m])) (ei rfl rfl) (ev_item (u := .str (T (pre ++ 40 :: (b ++ 41 :: tail)))) (v := .int ((pre.length + b.length : Nat) : Int)) (ev_own rfl) (ev_bin (u := .int ((pre.length + 1 + b.length : Nat) : Int)) (v := .int 1) (ev_own rfl) ev_lit ?_) (item_T i2 (by omega))) (cmp_self rfl)))).trans ?_
  rotate_left
  · refine (exS_next (ex_set (d := .list (ps.map fun p => .str (T p))) (ev_meth (u := .str (T b)) (ds := [.str (T [m])]) (ev_slice (u := .str (T (pre ++ 40 :: (b ++ 41 :: tail)))) (l := some ((pre.length + 1 : Nat) : Int)) (h := some ((pre.length + 1 + b.length : Nat) : Int)) (k := none) (ev_own rfl) (part_int (ev_bin (u := .int (pre.length : Int)) (ev_own rfl) ev_lit int_add_one)) (part_int (ev_var rfl)) rfl ?_) (mapO_cons' (ei rfl rfl) rfl) ?_))).trans ?_
    rotate_left 2
    · rfl
    · show some (PyData.str (Txt.slice _ _ _)) = _
      rw [hcut]
    · rw [hj]
      exact q_split hne hf (by rw [← hj]; omega) (by rw [← hj]; exact ho)
  · simp only [binD, addD, mulD, intOp, asInt, asStr, asList, Option.bind_some, Option.some.injEq, PyData.int.injEq]; omega
end
end Ev
namespace Ev
open PySem PySem.StrLaws PySem.Builtin PySem.Builtin.Str

/-- the text of a number -/
noncomputable def dgL (g : Nat) : List Nat := (Str.ofString (toString (g : Int))).cps.toList
theorem dg_eq (g : Nat) : Str.ofString (toString (g : Int)) = T (dgL g) := T_of _
theorem dgL_digits (g : Nat) : ∀ c ∈ dgL g, 48 ≤ c ∧ c ≤ 57 := by
  intro c hc
  unfold dgL at hc
  rw [PySem.W.KIN.signs_num] at hc
  obtain ⟨ch, hch, e⟩ := List.mem_map.mp hc
  have r := PyProof.Rows.digit_range (Nat.isDigit_of_mem_toDigits (by decide) (by decide) hch)
  rw [← e]
  exact r
theorem dgL_int {g : Nat} (h : g < 1000) : PySem.intText? (T (dgL g)) = some (g : Int) := by
  rw [← dg_eq]
  exact PySem.W.KIN.num_reads (by omega) (by omega)
theorem dgL_len {g : Nat} (h : g < 1000) : (dgL g).length ≤ 20 := by
  have hl := int_text_length_le10 (k := 10) (a := (g : Int)) (by decide) (by omega)
  unfold dgL
  rw [Str.ofString_eq_toList]
  simp only [List.length_map, String.length_toList]
  omega

section
variable {pre b tail : List Nat} {m : Nat}
noncomputable def hereS : D := .str ⟨#[104, 101, 114, 101]⟩

theorem run229_five {q0 q1 q2 q3 q4 : List Nat} {n : Int} (h3 : pre.take 3 = [50, 50, 57]) (hp : 40 ∉ pre) (hl : 3 ≤ pre.length) (hb : 41 ∉ b) (h0 : b[0]? = some m) (hx : b[b.length - 1]? = some m) (hj : b = joinL m [q0, q1, q2, q3, q4]) (hf : ∀ p ∈ [q0, q1, q2, q3, q4], m ∉ p)
    (hlen : pre.length + b.length ≤ 900) (ho : ∀ a ∈ b, a < 0x110000) (hq : q3.length ≤ 640) (hn : PySem.intText? (T q3) = some n) :
    ∃ ρ', run229 (T (pre ++ 40 :: (b ++ 41 :: tail))) = some (.ret (.tuple [hereS, .int n]), ρ') := by
  rw [run229_cut h3 hp hl hb h0 hx hj (by simp) hf hlen ho]
  generalize T (pre ++ 40 :: (b ++ 41 :: tail)) = x
  generalize (PyData.int ((pre.length + 1 + b.length : Nat) : Int)) = y
  generalize (PyData.int (pre.length : Int)) = z
  refine ⟨[(0, .str x), (1, hereD), (2, z), (3, y), (4, .list ([q0, q1, q2, q3, q4].map fun p => .str (T p))), (5, hereS), (6, .int n)], ?_⟩
  show exS F0 12 193 _ (_ :: _ :: _ :: _ :: []) = _
  refine (exS_next (ex_iffF (evT_cmp (u := .int 5) (v := .int 5) (ev_bi (ds := [.list ([q0, q1, q2, q3, q4].map fun p => .str (T p))]) (mapO_cons' (ev_own rfl) rfl) q_lenL) ev_lit (cmp_self rfl)))).trans ?_
  refine (exS_next (ex_set (d := hereS) (ev_item (u := hereD) (v := .int ((0 : Nat) : Int)) (ev_own rfl) ev_lit (it_tuple rfl (by decide))))).trans ?_
  refine (exS_next (ex_set (d := .int n) (ev_ty (ds := [.str (T q3)]) (mapO_cons' (ev_item (u := .list ([q0, q1, q2, q3, q4].map fun p => .str (T p))) (v := .int ((3 : Nat) : Int)) (ev_own rfl) ev_lit (it_list rfl (by decide))) rfl) (q_int (by rw [T_len]; exact hq) hn)))).trans ?_
  exact exS_ret (ex_ret (ev_tuple (mapO_cons' (ev_var rfl) (mapO_cons' (ev_var rfl) rfl)) (by simp)))

theorem run229_other {ps : List (List Nat)} (h3 : pre.take 3 = [50, 50, 57]) (hp : 40 ∉ pre) (hl : 3 ≤ pre.length) (hb : 41 ∉ b) (h0 : b[0]? = some m) (hx : b[b.length - 1]? = some m) (hj : b = joinL m ps) (hne : ps ≠ []) (hf : ∀ p ∈ ps, m ∉ p) (h5 : ps.length ≠ 5)
    (hlen : pre.length + b.length ≤ 900) (ho : ∀ a ∈ b, a < 0x110000) :
    ∃ ρ', run229 (T (pre ++ 40 :: (b ++ 41 :: tail))) = some (.raise nProto (.str (T (pre ++ 40 :: (b ++ 41 :: tail)))), ρ') := by
  rw [run229_cut h3 hp hl hb h0 hx hj hne hf hlen ho]
  generalize T (pre ++ 40 :: (b ++ 41 :: tail)) = x
  generalize (PyData.int ((pre.length + 1 + b.length : Nat) : Int)) = y
  generalize (PyData.int (pre.length : Int)) = z
  refine ⟨[(0, .str x), (1, hereD), (2, z), (3, y), (4, .list (ps.map fun p => .str (T p)))], ?_⟩
  show exS F0 12 193 _ (_ :: _ :: _ :: _ :: []) = _
  have hc : cmpD .NotEq (.int ((ps.map fun p => PyData.str (T p)).length : Int)) (.int 5) = some true := by
    simp only [cmpD, ltD, inD, ninD, asInt, asStr, asBool, Option.bind_some, shallow, Bool.and_self, if_true, PyData.eqv, List.length_map]
    have : ((ps.length : Int) == 5) = false := by simp; omega
    rw [this]; rfl
  exact exS_raise (ex_iffT (evT_cmp (v := .int 5) (ev_bi (ds := [.list (ps.map fun p => .str (T p))]) (mapO_cons' (ev_own rfl) rfl) q_lenL) ev_lit hc) (exS_raise (ex_raise (ev_var rfl))))
end

/-- a player's inside -/
noncomputable def insL (m : Nat) (f f' dg : List Nat) : List Nat := m :: (f ++ m :: (f' ++ m :: dg))
/-- what may stand in it -/
structure InsOk (m : Nat) (f f' dg : List Nat) : Prop where
  mkE : m = 43 ∨ m = 45 ∨ m = 126
  f1 : ∀ c ∈ f, c = 57 ∨ c = 40 ∨ c = 32
  f2 : ∀ c ∈ f', c = 57 ∨ c = 40 ∨ c = 32
  l1 : f.length ≤ 1
  l2 : f'.length ≤ 1
  d : ∀ c ∈ dg, 48 ≤ c ∧ c ≤ 57
  l3 : dg.length ≤ 20
section
variable {m : Nat} {f f' dg tail : List Nat}
theorem InsOk.free (x : InsOk m f f' dg) : m ∉ f ∧ m ∉ f' ∧ m ∉ dg := by
  refine ⟨fun h => ?_, fun h => ?_, fun h => ?_⟩
  · have a := x.f1 m h; have b := x.mkE; omega
  · have a := x.f2 m h; have b := x.mkE; omega
  · have a := x.d m h; have b := x.mkE; omega
theorem InsOk.signs (x : InsOk m f f' dg) : ∀ c ∈ insL m f f' dg, c < 127 ∧ c ≠ 41 := by
  intro c hc
  simp only [insL, List.mem_cons, List.mem_append] at hc
  have b := x.mkE
  rcases hc with rfl | hc | rfl | hc | rfl | hc
  · omega
  · have := x.f1 c hc; omega
  · omega
  · have := x.f2 c hc; omega
  · omega
  · have := x.d c hc; omega
theorem InsOk.len (x : InsOk m f f' dg) : (insL m f f' dg).length ≤ 25 := by
  have h1 := x.l1; have h2 := x.l2; have h3 := x.l3
  simp only [insL, List.length_cons, List.length_append]; omega
theorem insL_join : insL m f f' dg ++ [m] = joinL m [[], f, f', dg, []] := by simp [insL, joinL]
theorem insL_join2 : insL m f f' dg ++ [m, m] = joinL m [[], f, f', dg, [], []] := by simp [insL, joinL]
noncomputable def preOk : List Nat := [50, 50, 57, 32, 111, 107, 41, 32]
noncomputable def pre229 : List Nat := [50, 50, 57, 32]

theorem read_B (x : Str) (b : Bool) : d_read [.str x, .bool b] = faultD (bif b then run257 x else run229 x) := rfl
theorem read_F (x : Str) : d_read [.str x, .bool false] = faultD (run229 x) := (read_B x false).trans (congrArg faultD (cond_false _ _))
theorem read_T (x : Str) : d_read [.str x, .bool true] = faultD (run257 x) := (read_B x true).trans (congrArg faultD (cond_true _ _))
theorem fault_is {r : Option (Fl × Rho)} {fl : Fl} {ρ' : Rho} {o : Option D} (e : r = some (fl, ρ')) (h : fltD fl = o) : faultD r = o := ob_i e h
theorem readok {g : Nat} (x : InsOk m f f' (dgL g)) (hg : g < 1000) : d_read [.str (T (preOk ++ 40 :: ((insL m f f' (dgL g) ++ [m]) ++ 41 :: tail))), .bool false] = some (.tuple [hereS, .int (g : Int)]) := by
  obtain ⟨f1, f2, f3⟩ := x.free
  have hs := x.signs
  have hl := x.len
  obtain ⟨ρ', e⟩ := run229_five (pre := preOk) (b := insL m f f' (dgL g) ++ [m]) (tail := tail) (m := m) (q0 := []) (q1 := f) (q2 := f') (q3 := dgL g) (q4 := []) (n := (g : Int)) rfl (by decide) (by decide)
    (fun h => by
      rcases List.mem_append.mp h with h | h
      · exact (hs 41 h).2 rfl
      · have := x.mkE; simp at h; omega) (by simp [insL]) (by simp) insL_join (by simpa using ⟨f1, f2, f3⟩) (by simp only [List.length_append, List.length_singleton, preOk, List.length_cons, List.length_nil]; omega)
    (fun a ha => by
      rcases List.mem_append.mp ha with h | h
      · have := (hs a h).1; omega
      · have := x.mkE; simp at h; omega) (by have := dgL_len hg; omega) (dgL_int hg)
  exact (read_F _).trans (fault_is e rfl)

theorem fault_proto {x : Str} {r : Option (Fl × Rho)} {ρ' : Rho} (e : r = some (.raise nProto (.str x), ρ')) (hf : strFit (formS ++ x) = true) : faultD r = some (.str (formS ++ x)) := by
  have hn : nProto ≠ nReply := by decide
  refine fault_is e ?_
  show fltC nProto x = _
  unfold fltC
  rw [if_neg hn, if_pos rfl]
  exact gd_i hf rfl
theorem form_fit {l : List Nat} (h : ∀ c ∈ l, c < 0x110000) (hl : l.length ≤ 1000) : formS ++ T l = T ([102, 111, 114, 109, 32] ++ l) ∧ strFit (formS ++ T l) = true := by
  have e : formS ++ T l = T ([102, 111, 114, 109, 32] ++ l) := T_append [102, 111, 114, 109, 32] l
  refine ⟨e, ?_⟩
  rw [e]
  refine T_fit (fun c hc => ?_) (by simp only [List.length_append, List.length_cons, List.length_nil]; omega)
  rcases List.mem_append.mp hc with h' | h'
  · simp at h'; omega
  · exact h c h'
/-- no closing bracket -/
theorem read_open (x : InsOk m f f' dg) : d_read [.str (T (preOk ++ 40 :: (insL m f f' dg ++ [m, 120]))), .bool false] = some (.str (T ([102, 111, 114, 109, 32] ++ (preOk ++ 40 :: (insL m f f' dg ++ [m, 120]))))) := by
  have hs := x.signs
  have hl := x.len
  have hm := x.mkE
  obtain ⟨ρ', e⟩ := run229_open (pre := preOk) (b := insL m f f' dg ++ [m, 120]) rfl (by decide) (by decide) (fun h => by
      rcases List.mem_append.mp h with h | h
      · exact (hs 41 h).2 rfl
      · simp at h; omega)
  have ff := form_fit (l := preOk ++ 40 :: (insL m f f' dg ++ [m, 120])) (fun c hc => by
      simp only [preOk, List.mem_append, List.mem_cons, List.not_mem_nil, or_false] at hc
      rcases hc with hc | rfl | hc | hc | hc
      · omega
      · omega
      · have := (hs c hc).1; omega
      · omega
      · omega) (by simp only [List.length_append, List.length_cons, List.length_nil, preOk]; omega)
  exact (read_F _).trans ((fault_proto e ff.2).trans (by rw [ff.1]))
/-- five marks -/
theorem read_six (x : InsOk m f f' dg) : d_read [.str (T (pre229 ++ 40 :: ((insL m f f' dg ++ [m, m]) ++ [41]))), .bool false] = some (.str (T ([102, 111, 114, 109, 32] ++ (pre229 ++ 40 :: ((insL m f f' dg ++ [m, m]) ++ [41]))))) := by
  obtain ⟨f1, f2, f3⟩ := x.free
  have hs := x.signs
  have hl := x.len
  have hm := x.mkE
  obtain ⟨ρ', e⟩ := run229_other (pre := pre229) (b := insL m f f' dg ++ [m, m]) (tail := []) (m := m) (ps := [[], f, f', dg, [], []]) rfl (by decide) (by decide) (fun h => by
      rcases List.mem_append.mp h with h | h
      · exact (hs 41 h).2 rfl
      · simp at h; omega) (by simp [insL]) (by
        rw [List.getElem?_append_right (by simp)]
        simp) insL_join2 (by simp) (by simpa using ⟨f1, f2, f3⟩) (by simp) (by simp only [List.length_append, List.length_cons, List.length_nil, pre229]; omega)
    (fun a ha => by
      rcases List.mem_append.mp ha with h | h
      · have := (hs a h).1; omega
      · simp at h; omega)
  have ff := form_fit (l := pre229 ++ 40 :: ((insL m f f' dg ++ [m, m]) ++ [41])) (fun c hc => by
      simp only [pre229, List.mem_append, List.mem_cons, List.not_mem_nil, or_false] at hc
      rcases hc with hc | rfl | (hc | hc | hc) | hc
      · omega
      · omega
      · have := (hs c hc).1; omega
      · omega
      · omega
      · omega) (by simp only [List.length_append, List.length_cons, List.length_nil, pre229]; omega)
  exact (read_F _).trans ((fault_proto e ff.2).trans (by rw [ff.1]))
end
end Ev
namespace Ev
open PySem PySem.StrLaws PySem.Builtin PySem.Builtin.Str

section
variable {F : Nat → List D → Option D} {N n : Nat} {ρ ρ' ρ'' : Rho}
theorem ex_whlF {t : PE} {b : List PS} (h : evT F N ρ t = some false) : exO F N (n + 1) ρ (.whl t b) = some (.next, ρ) := ob_i h rfl
theorem ex_whlN {t : PE} {b : List PS} (h : evT F N ρ t = some true) (h' : exS F N n ρ b = some (.next, ρ')) : exO F N (n + 1) ρ (.whl t b) = exO F N n ρ' (.whl t b) := ob_i h (ob_i h' rfl)
theorem ex_whlB {t : PE} {b : List PS} (h : evT F N ρ t = some true) (h' : exS F N n ρ b = some (.brk, ρ')) : exO F N (n + 1) ρ (.whl t b) = some (.next, ρ') := ob_i h (ob_i h' rfl)
theorem ex_brk : exO F N (n + 1) ρ .brk = some (.brk, ρ) := rfl
theorem exS_nil : exS F N (n + 1) ρ [] = some (.next, ρ) := rfl
theorem evT_any {es : List PE} {b : Bool} (h : anyO (evT F n ρ) es = some b) : evT F (n + 1) ρ (.any es) = some b := h
theorem evT_all {es : List PE} {b : Bool} (h : allO (evT F n ρ) es = some b) : evT F (n + 1) ρ (.all es) = some b := h
theorem anyO_t {f : PE → Option Bool} {a : PE} {r : List PE} (h : f a = some true) : anyO f (a :: r) = some true := ob_i h rfl
theorem anyO_f {f : PE → Option Bool} {a : PE} {r : List PE} {b : Bool} (h : f a = some false) (h' : anyO f r = some b) : anyO f (a :: r) = some b := ob_i h h'
theorem allO_f {f : PE → Option Bool} {a : PE} {r : List PE} (h : f a = some false) : allO f (a :: r) = some false := ob_i h rfl
theorem allO_t {f : PE → Option Bool} {a : PE} {r : List PE} {b : Bool} (h : f a = some true) (h' : allO f r = some b) : allO f (a :: r) = some b := ob_i h h'
end

/-- what stands within the quotation marks -/
noncomputable def unq : List Nat → List Nat
  | [] => []
  | [c] => if c = 34 then [] else [c]
  | c :: d :: r => if c = 34 then (if d = 34 then 34 :: unq r else []) else c :: unq (d :: r)
theorem unq_c {c : Nat} {r : List Nat} (h : c ≠ 34) : unq (c :: r) = c :: unq r := by
  cases r with
  | nil => simp [unq, h]
  | cons d r => simp [unq, h]
theorem unq_qq {r : List Nat} : unq (34 :: 34 :: r) = 34 :: unq r := by simp [unq]
theorem unq_q {d : Nat} {r : List Nat} (h : d ≠ 34) : unq (34 :: d :: r) = [] := by simp [unq, h]
theorem unq_len : ∀ l : List Nat, (unq l).length ≤ l.length
  | [] => by simp [unq]
  | [c] => by simp only [unq]; split <;> simp
  | c :: d :: r => by
    have h1 := unq_len r
    have h2 := unq_len (d :: r)
    simp only [unq]
    split
    · split <;> simp <;> omega
    · simp only [List.length_cons] at h2 ⊢; omega

noncomputable def whl257t : PE := .cmp .Lt (.own 2) (.own 3)
noncomputable def whl257b : List PS := [.set 4 (.item (.own 0) (.var 2)), .set 2 (.bin .Add (.own 2) (.lit (.int 1))), .iff (.cmp .Eq (.own 4) (.lit (.str ⟨#[34]⟩))) [.iff (.any [(.cmp .GtE (.own 2) (.own 3)), (.cmp .NotEq (.item (.own 0) (.var 2)) (.lit (.str ⟨#[34]⟩)))]) [.brk] [], .set 2 (.bin .Add (.own 2) (.lit (.int 1)))] [], .set 1 (.bin .Add (.own 1) (.own 4))]

theorem cmp_ne_T {a b : List Nat} (h : a ≠ b) : cmpD .NotEq (.str (T a)) (.str (T b)) = some true := by
  have : (T a == T b) = false := by
    rw [beq_eq_false_iff_ne]
    exact fun q => h (T_inj q)
  simp only [cmpD, ltD, inD, ninD, asInt, asStr, asBool, Option.bind_some, shallow, Bool.and_self, if_true, PyData.eqv, this, Bool.not_false]
theorem cmp_eq_T {a b : List Nat} (h : a ≠ b) : cmpD .Eq (.str (T a)) (.str (T b)) = some false := by
  have : (T a == T b) = false := by
    rw [beq_eq_false_iff_ne]
    exact fun q => h (T_inj q)
  simp only [cmpD, ltD, inD, ninD, asInt, asStr, asBool, Option.bind_some, shallow, Bool.and_self, if_true, PyData.eqv, this]
theorem lt_nat {a b : Nat} : cmpD .Lt (.int (a : Int)) (.int (b : Int)) = some (decide (a < b)) := by
  simp only [cmpD, ltD, inD, ninD, asInt, asStr, asBool, Option.bind_some, Option.some.injEq, decide_eq_decide]; omega
theorem ge_nat {a b : Nat} : cmpD .GtE (.int (a : Int)) (.int (b : Int)) = some (decide (b ≤ a)) := by
  simp only [cmpD, ltD, inD, ninD, asInt, asStr, asBool, Option.bind_some, Option.some.injEq, decide_eq_decide]; omega

theorem loop257 : ∀ (k : Nat) (rest p acc : List Nat) (tl : Rho) (fuel : Nat), rest.length ≤ k → rest.length + 12 ≤ fuel → (tl = [] ∨ ∃ c, tl = [(4, c)]) → p.length + rest.length ≤ 1000 → acc.length ≤ p.length →
    ∃ ρ', exO F0 12 fuel ((0, .str (T (p ++ rest))) :: (1, .str (T acc)) :: (2, .int (p.length : Int)) :: (3, .int ((p ++ rest).length : Int)) :: tl) (.whl whl257t whl257b) = some (.next, ρ') ∧ ρ'.lookup 1 = some (.str (T (acc ++ unq rest))) := by
  intro k
  induction k with
  | zero =>
    intro rest p acc tl fuel hk hf _ _ _
    have : rest = [] := List.eq_nil_of_length_eq_zero (by omega)
    subst this
    obtain ⟨fu, rfl⟩ : ∃ fu, fuel = fu + 1 := ⟨fuel - 1, by omega⟩
    refine ⟨_, ex_whlF (evT_cmp (u := .int (p.length : Int)) (v := .int ((p ++ []).length : Int)) (ev_own rfl) (ev_own rfl) ?_), ?_⟩
    · rw [lt_nat]; simp
    · simp [unq, List.lookup]
  | succ k ih =>
    intro rest p acc tl fuel hk hf htl hl ha
    obtain ⟨fu, rfl⟩ : ∃ fu, fuel = fu + 9 := ⟨fuel - 9, by omega⟩
    cases rest with
    | nil =>
      refine ⟨_, ex_whlF (evT_cmp (u := .int (p.length : Int)) (v := .int ((p ++ []).length : Int)) (ev_own rfl) (ev_own rfl) ?_), ?_⟩
      · rw [lt_nat]; simp
      · simp [unq, List.lookup]
    | cons c r =>
      have ht : ∀ tl : Rho, evT F0 12 ((0, .str (T (p ++ c :: r))) :: (1, .str (T acc)) :: (2, .int (p.length : Int)) :: (3, .int ((p ++ c :: r).length : Int)) :: tl) whl257t = some true := fun tl => by
        refine evT_cmp (u := .int (p.length : Int)) (v := .int ((p ++ c :: r).length : Int)) (ev_own rfl) (ev_own rfl) ?_
        rw [lt_nat]; simp
      have hi : (p ++ c :: r)[p.length]? = some c := by simp
      -- the first two statements of a turn
      have two : ∀ (f : Nat) (rs : List PS), exS F0 12 (f + 3) ((0, .str (T (p ++ c :: r))) :: (1, .str (T acc)) :: (2, .int (p.length : Int)) :: (3, .int ((p ++ c :: r).length : Int)) :: tl) (.set 4 (.item (.own 0) (.var 2)) :: .set 2 (.bin .Add (.own 2) (.lit (.int 1))) :: rs) =
          exS F0 12 (f + 1) [(0, .str (T (p ++ c :: r))), (1, .str (T acc)), (2, .int ((p.length + 1 : Nat) : Int)), (3, .int ((p ++ c :: r).length : Int)), (4, .str (T [c]))] rs := fun f rs => by
        rcases htl with rfl | ⟨d, rfl⟩
        · exact (exS_next (ex_set (ev_item (u := .str (T (p ++ c :: r))) (v := .int (p.length : Int)) (ev_own rfl) (ev_var rfl) (item_T hi (by omega))))).trans
            (exS_next (ex_set (ev_bin (u := .int (p.length : Int)) (ev_own rfl) ev_lit int_add_one)))
        · exact (exS_next (ex_set (ev_item (u := .str (T (p ++ c :: r))) (v := .int (p.length : Int)) (ev_own rfl) (ev_var rfl) (item_T hi (by omega))))).trans
            (exS_next (ex_set (ev_bin (u := .int (p.length : Int)) (ev_own rfl) ev_lit int_add_one)))
      by_cases hc : c = 34
      · subst hc
        have he : ∀ (ρ : Rho), ρ.lookup 4 = some (.str (T [34])) → evT F0 12 ρ (.cmp .Eq (.own 4) (.lit (.str ⟨#[34]⟩))) = some true := fun ρ h => evT_cmp (ev_own h) ev_lit (cmp_same (d := .str (T [34])) rfl)
        cases r with
        | nil =>
          have hb : exS F0 12 (fu + 8) ((0, .str (T (p ++ [34]))) :: (1, .str (T acc)) :: (2, .int (p.length : Int)) :: (3, .int ((p ++ [34]).length : Int)) :: tl) whl257b = some (.brk, [(0, .str (T (p ++ [34]))), (1, .str (T acc)), (2, .int ((p.length + 1 : Nat) : Int)), (3, .int ((p ++ [34]).length : Int)), (4, .str (T [34]))]) := by
            refine (two (fu + 5) _).trans (exS_brk (ex_iffT (he _ rfl) (exS_brk (ex_iffT (evT_any (anyO_t (evT_cmp (u := .int ((p.length + 1 : Nat) : Int)) (v := .int ((p ++ [34]).length : Int)) (ev_own rfl) (ev_own rfl) ?_))) (exS_brk ex_brk)))))
            rw [ge_nat]; simp
          exact ⟨_, ex_whlB (ht tl) hb, by simp [unq, List.lookup]⟩
        | cons d r =>
          have hge : cmpD .GtE (.int ((p.length + 1 : Nat) : Int)) (.int ((p ++ 34 :: d :: r).length : Int)) = some false := by
            rw [ge_nat]; simp
          have hid : (p ++ 34 :: d :: r)[p.length + 1]? = some d := by
            rw [List.getElem?_append_right (by omega)]; simp
          have hit : ∀ (n : Nat) (ρ : Rho), ρ.lookup 0 = some (.str (T (p ++ 34 :: d :: r))) → ρ.lookup 2 = some (.int ((p.length + 1 : Nat) : Int)) → evE F0 (n + 2) ρ (.item (.own 0) (.var 2)) = some (.str (T [d])) := fun n ρ h1 h2 => ev_item (ev_own h1) (ev_var h2) (item_T hid (by omega))
          by_cases hd : d = 34
          · subst hd
            have hb : exS F0 12 (fu + 8) ((0, .str (T (p ++ 34 :: 34 :: r))) :: (1, .str (T acc)) :: (2, .int (p.length : Int)) :: (3, .int ((p ++ 34 :: 34 :: r).length : Int)) :: tl) whl257b =
                some (.next, [(0, .str (T (p ++ 34 :: 34 :: r))), (1, .str (T (acc ++ [34]))), (2, .int ((p.length + 1 + 1 : Nat) : Int)), (3, .int ((p ++ 34 :: 34 :: r).length : Int)), (4, .str (T [34]))]) := by
              refine (two (fu + 5) _).trans ?_
              have hinner : exS F0 12 (fu + 4) [(0, .str (T (p ++ 34 :: 34 :: r))), (1, .str (T acc)), (2, .int ((p.length + 1 : Nat) : Int)), (3, .int ((p ++ 34 :: 34 :: r).length : Int)), (4, .str (T [34]))]
                  [.iff (.any [(.cmp .GtE (.own 2) (.own 3)), (.cmp .NotEq (.item (.own 0) (.var 2)) (.lit (.str ⟨#[34]⟩)))]) [.brk] [], .set 2 (.bin .Add (.own 2) (.lit (.int 1)))] =
                  some (.next, [(0, .str (T (p ++ 34 :: 34 :: r))), (1, .str (T acc)), (2, .int ((p.length + 1 + 1 : Nat) : Int)), (3, .int ((p ++ 34 :: 34 :: r).length : Int)), (4, .str (T [34]))]) := by
                refine (exS_next (ex_iffF (evT_any (anyO_f (evT_cmp (u := .int ((p.length + 1 : Nat) : Int)) (v := .int ((p ++ 34 :: 34 :: r).length : Int)) (ev_own rfl) (ev_own rfl) hge) (anyO_f (evT_cmp (hit _ _ rfl rfl) ev_lit (cmp_self (d := .str (T [34])) rfl)) rfl))))).trans ?_
                exact (exS_next (ex_set (ev_bin (u := .int ((p.length + 1 : Nat) : Int)) (ev_own rfl) ev_lit int_add_one))).trans exS_nil
              refine (exS_next (ex_iffT (he _ rfl) hinner)).trans ?_
              exact (exS_next (ex_set (ev_bin (u := .str (T acc)) (v := .str (T [34])) (ev_own rfl) (ev_own rfl) (add_T (by simp only [List.length_singleton]; omega))))).trans exS_nil
            obtain ⟨ρ', e1, e2⟩ := ih r (p ++ [34, 34]) (acc ++ [34]) [(4, .str (T [34]))] (fu + 8) (by simp only [List.length_cons] at hk; omega) (by simp only [List.length_cons] at hf; omega) (.inr ⟨_, rfl⟩) (by simp only [List.length_append, List.length_cons, List.length_nil] at hl ⊢; omega) (by simp only [List.length_append, List.length_cons, List.length_nil]; omega)
            refine ⟨ρ', (ex_whlN (ht tl) hb).trans ?_, ?_⟩
            · have q : p ++ [34, 34] ++ r = p ++ 34 :: 34 :: r := by simp
              have q2 : (p ++ [34, 34]).length = p.length + 1 + 1 := by simp
              rw [q, q2] at e1
              exact e1
            · rw [e2, unq_qq]; simp
          · have hb : exS F0 12 (fu + 8) ((0, .str (T (p ++ 34 :: d :: r))) :: (1, .str (T acc)) :: (2, .int (p.length : Int)) :: (3, .int ((p ++ 34 :: d :: r).length : Int)) :: tl) whl257b =
                some (.brk, [(0, .str (T (p ++ 34 :: d :: r))), (1, .str (T acc)), (2, .int ((p.length + 1 : Nat) : Int)), (3, .int ((p ++ 34 :: d :: r).length : Int)), (4, .str (T [34]))]) := by
              refine (two (fu + 5) _).trans (exS_brk (ex_iffT (he _ rfl) (exS_brk (ex_iffT (evT_any (anyO_f (evT_cmp (u := .int ((p.length + 1 : Nat) : Int)) (v := .int ((p ++ 34 :: d :: r).length : Int)) (ev_own rfl) (ev_own rfl) hge) (anyO_t (evT_cmp (hit _ _ rfl rfl) ev_lit (cmp_ne_T (a := [d]) (b := [34]) (by simpa using hd)))))) (exS_brk ex_brk)))))
            exact ⟨_, ex_whlB (ht tl) hb, by rw [unq_q hd]; simp [List.lookup]⟩
      · have hb : exS F0 12 (fu + 8) ((0, .str (T (p ++ c :: r))) :: (1, .str (T acc)) :: (2, .int (p.length : Int)) :: (3, .int ((p ++ c :: r).length : Int)) :: tl) whl257b =
            some (.next, [(0, .str (T (p ++ c :: r))), (1, .str (T (acc ++ [c]))), (2, .int ((p.length + 1 : Nat) : Int)), (3, .int ((p ++ c :: r).length : Int)), (4, .str (T [c]))]) := by
          refine (two (fu + 5) _).trans ?_
          refine (exS_next (ex_iffF (evT_cmp (u := .str (T [c])) (v := .str (T [34])) (ev_own rfl) ev_lit (cmp_eq_T (by simpa using hc))))).trans ?_
          exact (exS_next (ex_set (ev_bin (u := .str (T acc)) (v := .str (T [c])) (ev_own rfl) (ev_own rfl) (add_T (by simp only [List.length_singleton]; omega))))).trans exS_nil
        obtain ⟨ρ', e1, e2⟩ := ih r (p ++ [c]) (acc ++ [c]) [(4, .str (T [c]))] (fu + 8) (by simp only [List.length_cons] at hk; omega) (by simp only [List.length_cons] at hf; omega) (.inr ⟨_, rfl⟩) (by simp only [List.length_append, List.length_cons, List.length_nil] at hl ⊢; omega) (by simp only [List.length_append, List.length_cons, List.length_nil]; omega)
        refine ⟨ρ', (ex_whlN (ht tl) hb).trans ?_, ?_⟩
        · have q : p ++ [c] ++ r = p ++ c :: r := by simp
          have q2 : (p ++ [c]).length = p.length + 1 := by simp
          rw [q, q2] at e1
          exact e1
        · rw [e2, unq_c hc]; simp

noncomputable def pre257 : List Nat := [50, 53, 55, 32, 34]
theorem run257_ok {rest : List Nat} (hl : rest.length ≤ 150) : ∃ ρ', run257 (T (pre257 ++ rest)) = some (.ret (.str (T (unq rest))), ρ') := by
  unfold run257
  show ∃ ρ', exS F0 12 200 [(0, .str (T (pre257 ++ rest)))] (_ :: _ :: _ :: _ :: _ :: .whl whl257t whl257b :: .ret (.var 1) :: []) = _
  obtain ⟨ρ', e1, e2⟩ := loop257 rest.length rest pre257 [] [] 194 (Nat.le_refl _) (by omega) (.inl rfl) (by simp only [pre257, List.length_cons, List.length_nil]; omega) (by simp)
  refine ⟨ρ', ?_⟩
  have s1 : Txt.slice (T (pre257 ++ rest)) none (some ((3 : Nat) : Int)) = T [50, 53, 55] := sl_to _ 3
  have s2 : Txt.slice (T (pre257 ++ rest)) (some ((3 : Nat) : Int)) (some ((5 : Nat) : Int)) = T [32, 34] := sl_some_some _ 3 5
  refine (exS_next (ex_iffF (evT_cmp (u := .str (T [50, 53, 55])) (ev_slice (u := .str (T (pre257 ++ rest))) (l := none) (h := some 3) (k := none) (ev_own rfl) rfl rfl rfl (congrArg (fun x => some (PyData.str x)) s1)) ev_lit (cmp_self (d := .str (T [50, 53, 55])) rfl)))).trans ?_
  refine (exS_next (ex_iffF (evT_cmp (u := .str (T [32, 34])) (ev_slice (u := .str (T (pre257 ++ rest))) (l := some 3) (h := some 5) (k := none) (ev_own rfl) rfl rfl rfl (congrArg (fun x => some (PyData.str x)) s2)) ev_lit (cmp_self (d := .str (T [32, 34])) rfl)))).trans ?_
  refine (exS_next (ex_set ev_lit)).trans ?_
  refine (exS_next (ex_set ev_lit)).trans ?_
  refine (exS_next (ex_set (d := .int ((pre257 ++ rest).length : Int)) (ev_bi (ds := [.str (T (pre257 ++ rest))]) (mapO_cons' (ev_own rfl) rfl) (by rw [show ((pre257 ++ rest).length : Int) = ((T (pre257 ++ rest)).length : Int) from by rw [T_len]]; exact q_len)))).trans ?_
  refine (exS_next e1).trans ?_
  exact exS_ret (ex_ret (ev_var e2))
theorem run257_none {a b : Nat} {rest : List Nat} (h : [a, b] ≠ [32, 34]) : ∃ ρ', run257 (T ([50, 53, 55, a, b] ++ rest)) = some (.ret (.str (T [])), ρ') := by
  unfold run257
  show ∃ ρ', exS F0 12 200 [(0, .str (T ([50, 53, 55, a, b] ++ rest)))] (_ :: _ :: _) = _
  refine ⟨[(0, .str (T ([50, 53, 55, a, b] ++ rest)))], ?_⟩
  have s1 : Txt.slice (T ([50, 53, 55, a, b] ++ rest)) none (some ((3 : Nat) : Int)) = T [50, 53, 55] := sl_to _ 3
  have s2 : Txt.slice (T ([50, 53, 55, a, b] ++ rest)) (some ((3 : Nat) : Int)) (some ((5 : Nat) : Int)) = T [a, b] := sl_some_some _ 3 5
  refine (exS_next (ex_iffF (evT_cmp (u := .str (T [50, 53, 55])) (ev_slice (u := .str (T ([50, 53, 55, a, b] ++ rest))) (l := none) (h := some 3) (k := none) (ev_own rfl) rfl rfl rfl (congrArg (fun x => some (PyData.str x)) s1)) ev_lit (cmp_self (d := .str (T [50, 53, 55])) rfl)))).trans ?_
  exact exS_ret (ex_iffT (evT_cmp (u := .str (T [a, b])) (ev_slice (u := .str (T ([50, 53, 55, a, b] ++ rest))) (l := some 3) (h := some 5) (k := none) (ev_own rfl) rfl rfl rfl (congrArg (fun x => some (PyData.str x)) s2)) ev_lit (cmp_ne_T (b := [32, 34]) h)) (exS_ret (ex_ret ev_lit)))
theorem run257_code {a b c : Nat} {rest : List Nat} (h : [a, b, c] ≠ [50, 53, 55]) : ∃ ρ', run257 (T ([a, b, c] ++ rest)) = some (.raise nReply (.str (T ([a, b, c] ++ rest))), ρ') := by
  unfold run257
  show ∃ ρ', exS F0 12 200 [(0, .str (T ([a, b, c] ++ rest)))] (_ :: _ :: _) = _
  refine ⟨[(0, .str (T ([a, b, c] ++ rest)))], ?_⟩
  have s1 : Txt.slice (T ([a, b, c] ++ rest)) none (some ((3 : Nat) : Int)) = T [a, b, c] := sl_to _ 3
  exact exS_raise (ex_iffT (evT_cmp (u := .str (T [a, b, c])) (ev_slice (u := .str (T ([a, b, c] ++ rest))) (l := none) (h := some 3) (k := none) (ev_own rfl) rfl rfl rfl (congrArg (fun x => some (PyData.str x)) s1)) ev_lit (cmp_ne_T (b := [50, 53, 55]) h)) (exS_raise (ex_raise (ev_var rfl))))

theorem read_dir {rest : List Nat} (hl : rest.length ≤ 150) : d_read [.str (T (pre257 ++ rest)), .bool true] = some (.str (T (unq rest))) := by
  obtain ⟨ρ', e⟩ := run257_ok hl
  exact (read_T _).trans (fault_is e rfl)
theorem read_none {a b : Nat} {rest : List Nat} (h : [a, b] ≠ [32, 34]) : d_read [.str (T ([50, 53, 55, a, b] ++ rest)), .bool true] = some (.str (T [])) := by
  obtain ⟨ρ', e⟩ := run257_none (rest := rest) h
  exact (read_T _).trans (fault_is e rfl)
theorem read_code {a b c : Nat} {rest : List Nat} (h : [a, b, c] ≠ [50, 53, 55]) (ho : ∀ x ∈ [a, b, c] ++ rest, x < 0x110000) (hl : rest.length ≤ 900) : d_read [.str (T ([a, b, c] ++ rest)), .bool true] = some (.str (T ([99, 111, 100, 101, 32] ++ ([a, b, c] ++ rest)))) := by
  obtain ⟨ρ', e⟩ := run257_code (rest := rest) h
  have e2 : codeS ++ T ([a, b, c] ++ rest) = T ([99, 111, 100, 101, 32] ++ ([a, b, c] ++ rest)) := T_append [99, 111, 100, 101, 32] _
  have hf : strFit (codeS ++ T ([a, b, c] ++ rest)) = true := by
    rw [e2]
    refine T_fit (fun x hx => ?_) (by simp only [List.length_append, List.length_cons, List.length_nil]; omega)
    rcases List.mem_append.mp hx with h' | h'
    · simp at h'; omega
    · exact ho x h'
  rw [e2] at hf
  rw [← e2] at hf ⊢
  refine (read_T _).trans (fault_is e ?_)
  show fltC nReply _ = _
  unfold fltC
  rw [if_pos rfl]
  exact gd_i hf rfl
end Ev
namespace Ev
open PySem PySem.StrLaws PySem.Builtin PySem.Builtin.Str

/-- the size of the first piece -/
noncomputable def sz (l : List Nat) : Nat := if (dget tokL (T (l.take 3))).isSome = true then 3 else if (dget tokL (T (l.take 2))).isSome = true then 2 else 1
noncomputable def hd256 (l : List Nat) : D := if l.head? = some 34 then .int 256 else .int 255
noncomputable def tk (l : List Nat) : D := (dget tokL (T (l.take (sz l)))).getD (hd256 l)
noncomputable def cutL : Nat → List Nat → List D
  | 0, _ => []
  | k + 1, l => if l = [] then [] else tk l :: cutL k (l.drop (sz l))
theorem sz_pos (l : List Nat) : 1 ≤ sz l ∧ sz l ≤ 3 := by
  unfold sz
  split
  · omega
  · split <;> omega

noncomputable def symT : PE := .cmp .NotEq (.own 0) (.lit (.str ⟨#[]⟩))
noncomputable def symI : PS := .whl (.all [(.cmp .Gt (.own 2) (.lit (.int 1))), (.cmp .NotIn (.slice (.own 0) none (some (.var 2)) none) (.own 3))]) [.aug 2 .Sub (.lit (.int 1))]
noncomputable def symB : List PS := [.set 2 (.lit (.int 3)), symI, .app 1 (.meth ⟨#[103, 101, 116]⟩ (.var 3) [(.slice (.own 0) none (some (.var 2)) none), (.ite (.cmp .Eq (.item (.own 0) (.lit (.int 0))) (.lit (.str ⟨#[34]⟩))) (.lit (.int 256)) (.lit (.int 255)))]), .set 0 (.slice (.own 0) (some (.var 2)) none none)]

section
variable {F : Nat → List D → Option D} {N n : Nat} {ρ ρ' : Rho}
theorem ex_app {x : Nat} {e : PE} {d : D} {ds : List D} (h : evE F N ρ e = some d) (h' : ρ.lookup x = some (.list ds)) (hl : ds.length < 1000) : exO F N (n + 1) ρ (.app x e) = some (.next, upd ρ x (.list (ds ++ [d]))) := ob_i h (ob_i (ob_i h' rfl) (gd_i (decide_eq_true hl) rfl))
end
theorem ev_cutTo {N : Nat} {ρ : Rho} {l : List Nat} {k : Nat} (h0 : ρ.lookup 0 = some (.str (T l))) (h2 : ρ.lookup 2 = some (.int (k : Int))) : evE F0 (N + 2) ρ (.slice (.own 0) none (some (.var 2)) none) = some (.str (T (l.take k))) :=
  ev_slice (l := none) (h := some (k : Int)) (k := none) (ev_own h0) rfl (part_int (ev_var h2)) rfl (congrArg (fun x => some (PyData.str x)) (sl_to l k))

/-- the state of the cutting -/
noncomputable def rhoS (l : List Nat) (row : List D) (k : Nat) : Rho := [(0, .str (T l)), (3, .dict tokL), (1, .list row), (2, .int (k : Int))]

theorem inner_stop {l : List Nat} {row : List D} {k fu : Nat} (h : k ≤ 1 ∨ (dget tokL (T (l.take k))).isSome = true) : exO F0 12 (fu + 1) (rhoS l row k) symI = some (.next, rhoS l row k) := by
  refine ex_whlF (evT_all ?_)
  by_cases hk : k ≤ 1
  · refine allO_f (evT_cmp (u := .int (k : Int)) (v := .int 1) (ev_own rfl) ev_lit ?_)
    simp only [cmpD, ltD, inD, ninD, asInt, asStr, asBool, Option.bind_some, Option.some.injEq, decide_eq_false_iff_not]; omega
  · refine allO_t (evT_cmp (u := .int (k : Int)) (v := .int 1) (ev_own rfl) ev_lit ?_) (allO_f (evT_cmp (u := .str (T (l.take k))) (v := .dict tokL) (ev_cutTo rfl rfl) (ev_own rfl) ?_))
    · simp only [cmpD, ltD, inD, ninD, asInt, asStr, asBool, Option.bind_some, Option.some.injEq, decide_eq_true_eq]; omega
    · have := h.resolve_left hk
      simp only [cmpD, ltD, inD, ninD, asInt, asStr, asBool, Option.bind_some, this, Bool.not_true]
theorem inner_step {l : List Nat} {row : List D} {k fu : Nat} (hk : 1 < k + 1) (h : (dget tokL (T (l.take (k + 1)))).isSome = false) : exO F0 12 (fu + 3) (rhoS l row (k + 1)) symI = exO F0 12 (fu + 2) (rhoS l row k) symI := by
  refine ex_whlN (evT_all ?_) ?_
  · refine allO_t (evT_cmp (u := .int ((k + 1 : Nat) : Int)) (v := .int 1) (ev_own rfl) ev_lit ?_) (allO_t (evT_cmp (u := .str (T (l.take (k + 1)))) (v := .dict tokL) (ev_cutTo rfl rfl) (ev_own rfl) ?_) rfl)
    · simp only [cmpD, ltD, inD, ninD, asInt, asStr, asBool, Option.bind_some, Option.some.injEq, decide_eq_true_eq]; omega
    · simp only [cmpD, ltD, inD, ninD, asInt, asStr, asBool, Option.bind_some, h, Bool.not_false]
  · refine (exS_next (ex_aug (u := .int ((k + 1 : Nat) : Int)) (v := .int 1) (d := .int (k : Int)) rfl ev_lit ?_)).trans exS_nil
    simp only [augD, augI, asInt, Option.bind_some, Option.some.injEq, PyData.int.injEq]; omega
theorem inner_all {l : List Nat} {row : List D} {fu : Nat} : exO F0 12 (fu + 5) (rhoS l row 3) symI = some (.next, rhoS l row (sz l)) := by
  unfold sz
  cases h3 : (dget tokL (T (l.take 3))).isSome with
  | true => rw [if_pos rfl]; exact inner_stop (.inr h3)
  | false =>
    rw [if_neg (by simp)]
    refine (inner_step (k := 2) (by omega) h3).trans ?_
    cases h2 : (dget tokL (T (l.take 2))).isSome with
    | true => rw [if_pos rfl]; exact inner_stop (.inr h2)
    | false =>
      rw [if_neg (by simp)]
      exact (inner_step (k := 1) (by omega) h2).trans (inner_stop (.inl (Nat.le_refl _)))

theorem turn_symb {l : List Nat} {row : List D} {tl : Rho} {fu : Nat} (hl : l ≠ []) (hr : row.length < 1000) (htl : tl = [] ∨ ∃ c, tl = [(2, c)]) :
    exS F0 12 (fu + 9) ((0, .str (T l)) :: (3, .dict tokL) :: (1, .list row) :: tl) symB = some (.next, rhoS (l.drop (sz l)) (row ++ [tk l]) (sz l)) := by
  have h0 : exS F0 12 (fu + 9) ((0, .str (T l)) :: (3, .dict tokL) :: (1, .list row) :: tl) symB = exS F0 12 (fu + 8) (rhoS l row 3) (symB.drop 1) := by
    rcases htl with rfl | ⟨c, rfl⟩
    · exact exS_next (ex_set ev_lit)
    · exact exS_next (ex_set ev_lit)
  rw [h0]
  refine (exS_next (ρ' := rhoS l row (sz l)) (inner_all (fu := fu + 2))).trans ?_
  have hh : l.head? = some 34 → evT F0 10 (rhoS l row (sz l)) (.cmp .Eq (.item (.own 0) (.lit (.int 0))) (.lit (.str ⟨#[34]⟩))) = some true := fun h => by
    refine evT_cmp (u := .str (T [34])) (v := .str (T [34])) (ev_item (u := .str (T l)) (v := .int ((0 : Nat) : Int)) (ev_own rfl) ev_lit (item_T ?_ (by decide))) ev_lit (cmp_same rfl)
    rw [← h, List.head?_eq_getElem?]
  have hn : l.head? ≠ some 34 → evT F0 10 (rhoS l row (sz l)) (.cmp .Eq (.item (.own 0) (.lit (.int 0))) (.lit (.str ⟨#[34]⟩))) = some false := fun h => by
    cases l with
    | nil => exact absurd rfl hl
    | cons c r =>
      refine evT_cmp (u := .str (T [c])) (v := .str (T [34])) (ev_item (u := .str (T (c :: r))) (v := .int ((0 : Nat) : Int)) (ev_own rfl) ev_lit (item_T rfl (by decide))) ev_lit (cmp_eq_T (a := [c]) (b := [34]) ?_)
      intro q
      simp only [List.cons.injEq, and_true] at q
      exact h (by simp [q])
  have hi : evE F0 11 (rhoS l row (sz l)) (.ite (.cmp .Eq (.item (.own 0) (.lit (.int 0))) (.lit (.str ⟨#[34]⟩))) (.lit (.int 256)) (.lit (.int 255))) = some (hd256 l) := by
    unfold hd256
    by_cases h : l.head? = some 34
    · rw [if_pos h]; exact ev_ite (hh h) ev_lit
    · rw [if_neg h]; exact ev_ite (hn h) ev_lit
  refine (exS_next (ρ' := rhoS l (row ++ [tk l]) (sz l)) (ex_app (d := tk l) (ev_meth (u := .dict tokL) (ds := [.str (T (l.take (sz l))), hd256 l]) (ev_var rfl) (mapO_cons' (ev_cutTo rfl rfl) (mapO_cons' hi rfl)) ?_) rfl hr)).trans ?_
  · show methQ n_get _ _ = _
    rfl
  · refine (exS_next (ρ' := rhoS (l.drop (sz l)) (row ++ [tk l]) (sz l)) (ex_set (d := .str (T (l.drop (sz l)))) (ev_slice (u := .str (T l)) (l := some (sz l : Int)) (h := none) (k := none) (ev_own rfl) (part_int (ev_var rfl)) rfl rfl (congrArg (fun x => some (PyData.str x)) (sl_from l (sz l)))))).trans exS_nil

theorem loop_symb : ∀ (k : Nat) (l : List Nat) (row : List D) (tl : Rho) (fuel : Nat), l.length ≤ k → l.length + 12 ≤ fuel → row.length + l.length ≤ 900 → (tl = [] ∨ ∃ c, tl = [(2, c)]) →
    ∃ ρ', exO F0 12 fuel ((0, .str (T l)) :: (3, .dict tokL) :: (1, .list row) :: tl) (.whl symT symB) = some (.next, ρ') ∧ ρ'.lookup 1 = some (.list (row ++ cutL k l)) := by
  intro k
  induction k with
  | zero =>
    intro l row tl fuel hk hf hr htl
    have : l = [] := List.eq_nil_of_length_eq_zero (by omega)
    subst this
    obtain ⟨fu, rfl⟩ : ∃ fu, fuel = fu + 1 := ⟨fuel - 1, by omega⟩
    exact ⟨_, ex_whlF (evT_cmp (u := .str (T [])) (v := .str (T [])) (ev_own rfl) ev_lit (cmp_self rfl)), by simp [cutL, List.lookup]⟩
  | succ k ih =>
    intro l row tl fuel hk hf hr htl
    obtain ⟨fu, rfl⟩ : ∃ fu, fuel = fu + 10 := ⟨fuel - 10, by omega⟩
    by_cases hl : l = []
    · subst hl
      exact ⟨_, ex_whlF (evT_cmp (u := .str (T [])) (v := .str (T [])) (ev_own rfl) ev_lit (cmp_self rfl)), by simp [cutL, List.lookup]⟩
    · have hz := sz_pos l
      have hll : 1 ≤ l.length := by
        cases l with
        | nil => exact absurd rfl hl
        | cons c r => simp
      have hd : (l.drop (sz l)).length ≤ l.length - 1 := by rw [List.length_drop]; omega
      obtain ⟨ρ', e1, e2⟩ := ih (l.drop (sz l)) (row ++ [tk l]) [(2, .int (sz l : Int))] (fu + 9) (by omega) (by omega) (by simp only [List.length_append, List.length_singleton]; omega) (.inr ⟨_, rfl⟩)
      refine ⟨ρ', (ex_whlN (evT_cmp (u := .str (T l)) (v := .str (T [])) (ev_own rfl) ev_lit (cmp_ne_T (b := []) hl)) (turn_symb (fu := fu) hl (by omega) htl)).trans e1, ?_⟩
      rw [e2]
      simp [cutL, hl]

theorem symb_ok {l : List Nat} (hl : l.length ≤ 100) : d_symb [.str (T l)] = some (.list (cutL l.length l ++ [.int 0])) := by
  unfold d_symb callD
  rw [if_pos (show ([.str (T l)] : List D).length = pr_law_symbols.length from rfl)]
  have h : ∃ ρ', exS F0 12 150 (rhoZ 0 [.str (T l)] ++ gl_law_symbols) ps_law_symbols = some (.ret (.list (cutL l.length l ++ [.int 0])), ρ') := by
    show ∃ ρ', exS F0 12 150 [(0, .str (T l)), (3, .dict tokL)] (.new 1 (.list []) :: .whl symT symB :: .ret (.bin .Add (.own 1) (.list [(.lit (.int 0))])) :: []) = _
    obtain ⟨ρ', e1, e2⟩ := loop_symb l.length l [] [] 148 (Nat.le_refl _) (by omega) (by simp; omega) (.inl rfl)
    refine ⟨ρ', ?_⟩
    refine (exS_next (ex_new (d := .list []) (ev_list rfl (by simp)))).trans ?_
    refine (exS_next e1).trans ?_
    refine exS_ret (ex_ret (ev_bin (u := .list (cutL l.length l)) (v := .list [.int 0]) (ev_own e2) (ev_list (mapO_cons' ev_lit rfl) (by simp)) ?_))
    have hc : ∀ (k : Nat) (l : List Nat), (cutL k l).length ≤ k := fun k => by
      induction k with
      | zero => intro l; simp [cutL]
      | succ k ih =>
        intro l
        simp only [cutL]
        split
        · simp
        · have := ih (l.drop (sz l)); simp; omega
    have := hc l.length l
    simp only [binD, addD, mulD, intOp, asInt, asStr, asList, Option.bind_some]
    rw [if_pos (by simp; omega)]
  obtain ⟨ρ', e⟩ := h
  rw [e]
end Ev
namespace Ev
open PySem PySem.StrLaws PySem.Builtin PySem.Builtin.Str

theorem cutL_ge : ∀ (k : Nat) (l : List Nat), l.length ≤ k → cutL k l = cutL l.length l := by
  intro k
  induction k using Nat.strongRecOn with
  | _ k ih =>
    intro l hl
    cases l with
    | nil => cases k <;> simp [cutL]
    | cons c r =>
      simp only [List.length_cons] at hl
      obtain ⟨k', rfl⟩ : ∃ k', k = k' + 1 := ⟨k - 1, by omega⟩
      have hz := sz_pos (c :: r)
      have hd : ((c :: r).drop (sz (c :: r))).length ≤ r.length := by rw [List.length_drop, List.length_cons]; omega
      show (if c :: r = [] then [] else tk (c :: r) :: cutL k' _) = (if c :: r = [] then [] else tk (c :: r) :: cutL r.length _)
      rw [if_neg (by simp), if_neg (by simp)]
      rw [ih k' (by omega) _ (by omega), ih r.length (by omega) _ hd]
theorem sz_three {l : List Nat} {d : D} (h : dget tokL (T (l.take 3)) = some d) : sz l = 3 := by unfold sz; rw [h]; rfl
theorem sz_two {l : List Nat} {d : D} (h3 : dget tokL (T (l.take 3)) = none) (h : dget tokL (T (l.take 2)) = some d) : sz l = 2 := by unfold sz; rw [h3, h]; rfl
theorem sz_one {l : List Nat} (h3 : dget tokL (T (l.take 3)) = none) (h : dget tokL (T (l.take 2)) = none) : sz l = 1 := by unfold sz; rw [h3, h]; rfl
theorem tk_some {l : List Nat} {k : Nat} {d : D} (hs : sz l = k) (h : dget tokL (T (l.take k)) = some d) : tk l = d := by unfold tk; rw [hs, h]; rfl
theorem tk_none {l : List Nat} {k : Nat} (hs : sz l = k) (h : dget tokL (T (l.take k)) = none) : tk l = hd256 l := by unfold tk; rw [hs, h]; rfl
noncomputable def cut (l : List Nat) : List D := cutL l.length l
theorem cut_cons {l : List Nat} (h : l ≠ []) : cut l = tk l :: cut (l.drop (sz l)) := by
  cases l with
  | nil => exact absurd rfl h
  | cons c r =>
    have hz := sz_pos (c :: r)
    have hd : ((c :: r).drop (sz (c :: r))).length ≤ r.length := by rw [List.length_drop]; simp; omega
    show (if c :: r = [] then [] else tk (c :: r) :: cutL r.length _) = _
    rw [if_neg (by simp), cutL_ge _ _ hd]
    rfl
theorem cut_nil : cut [] = [] := rfl

-- no mark has a blank or a quotation mark
noncomputable def freeOf (c : Nat) : List (D × D) → Bool
  | [] => true
  | (.str k, _) :: r => !(k.cps.toList.contains c) && freeOf c r
  | _ => false
theorem dget_free {c : Nat} : ∀ {kvs : List (D × D)} {l : List Nat}, freeOf c kvs = true → c ∈ l → dget kvs (T l) = none
  | [], _, _, _ => rfl
  | (.str k, d) :: r, l, h, hc => by
    simp only [freeOf, Bool.and_eq_true, Bool.not_eq_true'] at h
    have hk : k ≠ T l := fun q => by
      rw [q] at h
      have h1 := h.1
      simp [T] at h1
      exact h1 hc
    show (bif k == T l then some d else dget r (T l)) = none
    rw [beq_eq_false_iff_ne.mpr hk]
    exact dget_free h.2 hc
theorem free34 : freeOf 34 tokL = true := by decide +kernel
theorem free32 : freeOf 32 tokL = true := by decide +kernel

theorem cut_blank (r : List Nat) : cut (32 :: r) = .int 255 :: cut r := by
  have hs : sz (32 :: r) = 1 := sz_one (dget_free free32 (by simp)) (dget_free free32 (by simp))
  rw [cut_cons (by simp), tk_none hs (dget_free free32 (by simp)), hs]
  rfl
theorem cut_quote (r : List Nat) : cut (34 :: r) = .int 256 :: cut r := by
  have hs : sz (34 :: r) = 1 := sz_one (dget_free free34 (by simp)) (dget_free free34 (by simp))
  rw [cut_cons (by simp), tk_none hs (dget_free free34 (by simp)), hs]
  rfl

/-- the comparisons -/
noncomputable def opL : Nat → List Nat
  | 0 => [60]
  | 1 => [62]
  | 2 => [60, 61]
  | 3 => [62, 61]
  | 4 => [61, 61]
  | _ => [33, 61]
noncomputable def opT : Nat → Int
  | 0 => 20
  | 1 => 21
  | 2 => 29
  | 3 => 30
  | 4 => 27
  | _ => 28
theorem six {d : Nat} (h : d < 6) : d = 0 ∨ d = 1 ∨ d = 2 ∨ d = 3 ∨ d = 4 ∨ d = 5 := by
  revert d; decide
theorem cut_op1 {c : Nat} {t : Int} {r : List Nat} (hr : r = [] ∨ ∃ r', r = 34 :: r') (h : dget tokL (T [c]) = some (.int t)) : cut (c :: r) = .int t :: cut r := by
  rcases hr with rfl | ⟨r', rfl⟩
  · have hs : sz [c] = 3 := sz_three h
    rw [cut_cons (by simp), tk_some hs h, hs]
    rfl
  · have hs : sz (c :: 34 :: r') = 1 := sz_one (dget_free free34 (by simp)) (dget_free free34 (by simp))
    rw [cut_cons (by simp), tk_some hs h, hs]
    rfl
theorem cut_op2 {c e : Nat} {t : Int} {r : List Nat} (hr : r = [] ∨ ∃ r', r = 34 :: r') (h : dget tokL (T [c, e]) = some (.int t)) : cut (c :: e :: r) = .int t :: cut r := by
  rcases hr with rfl | ⟨r', rfl⟩
  · have hs : sz [c, e] = 3 := sz_three h
    rw [cut_cons (by simp), tk_some hs h, hs]
    rfl
  · have hs : sz (c :: e :: 34 :: r') = 2 := sz_two (dget_free free34 (by simp)) h
    rw [cut_cons (by simp), tk_some hs h, hs]
    rfl
theorem cut_op {d : Nat} (hd : d < 6) {r : List Nat} (hr : r = [] ∨ ∃ r', r = 34 :: r') : cut (opL d ++ r) = .int (opT d) :: cut r := by
  rcases six hd with rfl | rfl | rfl | rfl | rfl | rfl
  · exact cut_op1 hr (by kernel_rfl)
  · exact cut_op1 hr (by kernel_rfl)
  · exact cut_op2 hr (by kernel_rfl)
  · exact cut_op2 hr (by kernel_rfl)
  · exact cut_op2 hr (by kernel_rfl)
  · exact cut_op2 hr (by kernel_rfl)
/-- the marks of a page, a quotation mark between two -/
noncomputable def symI2 : List Nat → List Int
  | [] => []
  | [d] => [opT d]
  | d :: e :: r => opT d :: 256 :: symI2 (e :: r)
theorem cut_ops : ∀ {ds : List Nat}, (∀ d ∈ ds, d < 6) → cut (joinL 34 (ds.map opL)) = (symI2 ds).map .int
  | [], _ => rfl
  | [d], h => by
    have := cut_op (h d (.head _)) (r := []) (.inl rfl)
    rw [List.append_nil] at this
    simpa [joinL, symI2, cut_nil] using this
  | d :: e :: r, h => by
    show cut (opL d ++ 34 :: joinL 34 ((e :: r).map opL)) = _
    rw [cut_op (h d (.head _)) (.inr ⟨_, rfl⟩), cut_quote, cut_ops fun x hx => h x (.tail _ hx)]
    rfl

-- the page
noncomputable def JJ : List (List Nat) → List Nat
  | [] => []
  | [p] => p
  | p :: q :: r => p ++ 34 :: 34 :: JJ (q :: r)
noncomputable def pageT : List Nat := [34, 32, 97, 110, 100, 32, 34, 115, 111, 32, 111, 110, 34]
noncomputable def pageL (ds : List Nat) : List Nat := [34, 32] ++ (JJ (ds.map opL) ++ pageT)
theorem unq_app : ∀ {p r : List Nat}, (∀ c ∈ p, c ≠ 34) → unq (p ++ r) = p ++ unq r
  | [], r, _ => rfl
  | c :: p, r, h => by
    show unq (c :: (p ++ r)) = _
    rw [unq_c (h c (.head _)), unq_app fun d hd => h d (.tail _ hd)]; rfl
theorem unq_JJ : ∀ {ps : List (List Nat)}, ps ≠ [] → (∀ p ∈ ps, ∀ c ∈ p, c ≠ 34) → unq (JJ ps ++ pageT) = joinL 34 ps
  | [], h, _ => absurd rfl h
  | [p], _, hp => by
    show unq (p ++ pageT) = p
    rw [unq_app (hp p (.head _))]
    show p ++ unq (34 :: 32 :: _) = p
    rw [unq_q (by decide), List.append_nil]
  | p :: q :: r, _, hp => by
    show unq (p ++ 34 :: 34 :: JJ (q :: r) ++ pageT) = p ++ 34 :: joinL 34 (q :: r)
    rw [List.append_assoc, unq_app (hp p (.head _))]
    show p ++ unq (34 :: 34 :: (JJ (q :: r) ++ pageT)) = _
    rw [unq_qq, unq_JJ (by simp) fun x hx => hp x (.tail _ hx)]
theorem opL_ok {d : Nat} (hd : d < 6) : (∀ c ∈ opL d, c ≠ 34 ∧ c < 127) ∧ (opL d).length ≤ 2 := by
  rcases six hd with rfl | rfl | rfl | rfl | rfl | rfl <;> simp [opL]
theorem JJ_len : ∀ {ds : List Nat}, (∀ d ∈ ds, d < 6) → (JJ (ds.map opL)).length ≤ 4 * ds.length ∧ ∀ c ∈ JJ (ds.map opL), c < 127
  | [], _ => by simp [JJ]
  | [d], h => by
    have := opL_ok (h d (.head _))
    refine ⟨by simp [JJ]; omega, fun c hc => (this.1 c (by simpa [JJ] using hc)).2⟩
  | d :: e :: r, h => by
    have h1 := opL_ok (h d (.head _))
    obtain ⟨h2, h3⟩ := JJ_len (ds := e :: r) fun x hx => h x (.tail _ hx)
    simp only [List.map_cons, List.length_cons] at h2 h3 ⊢
    refine ⟨by simp only [JJ, List.length_append, List.length_cons]; omega, fun c hc => ?_⟩
    simp only [JJ, List.mem_append, List.mem_cons] at hc
    rcases hc with hc | rfl | rfl | hc
    · exact (h1.1 c hc).2
    · omega
    · omega
    · exact h3 c hc
theorem joinL_len : ∀ {ds : List Nat}, (∀ d ∈ ds, d < 6) → (joinL 34 (ds.map opL)).length ≤ 3 * ds.length
  | [], _ => by simp [joinL]
  | [d], h => by
    have := opL_ok (h d (.head _))
    simp [joinL]; omega
  | d :: e :: r, h => by
    have h1 := opL_ok (h d (.head _))
    have h2 := joinL_len (ds := e :: r) fun x hx => h x (.tail _ hx)
    simp only [List.map_cons, List.length_cons, joinL, List.length_append] at h2 ⊢
    omega
theorem read_page {ds : List Nat} (hne : ds ≠ []) (h : ∀ d ∈ ds, d < 6) (hl : ds.length ≤ 10) : d_read [.str (T ([50, 53, 55, 32] ++ pageL ds)), .bool true] = some (.str (T (32 :: joinL 34 (ds.map opL)))) := by
  have e : [50, 53, 55, 32] ++ pageL ds = pre257 ++ (32 :: (JJ (ds.map opL) ++ pageT)) := rfl
  have h1 := JJ_len h
  rw [e, read_dir (by simp only [List.length_cons, List.length_append, pageT, List.length_nil]; omega), unq_c (by decide), unq_JJ (by simpa using hne)]
  intro p hp
  obtain ⟨d, hd, rfl⟩ := List.mem_map.mp hp
  exact fun c hc => ((opL_ok (h d hd)).1 c hc).1
theorem symb_page {ds : List Nat} (h : ∀ d ∈ ds, d < 6) (hl : ds.length ≤ 10) : d_symb [.str (T (32 :: joinL 34 (ds.map opL)))] = some (.list ((255 :: (symI2 ds ++ [0])).map .int)) := by
  have h1 := joinL_len h
  rw [symb_ok (by simp only [List.length_cons]; omega)]
  show some (PyData.list (cut _ ++ _)) = _
  rw [cut_blank, cut_ops h]
  simp
end Ev
namespace Ev
open PySem PySem.StrLaws PySem.Builtin PySem.Builtin.Str

/-- a table of who has beaten whom -/
noncomputable def kv (f : Nat → List Nat) : List (D × D) := [(.str (T [97]), .str (T (f 0))), (.str (T [98]), .str (T (f 1))), (.str (T [99]), .str (T (f 2))), (.str (T [100]), .str (T (f 3))), (.str (T [101]), .str (T (f 4)))]
noncomputable def setF (f : Nat → List Nat) (i : Nat) (l : List Nat) : Nat → List Nat := fun j => if j = i then l else f j
theorem five {i : Nat} (h : i < 5) : i = 0 ∨ i = 1 ∨ i = 2 ∨ i = 3 ∨ i = 4 := by
  revert i; decide
theorem T_ne {a b : List Nat} (h : a ≠ b) : ¬ (T a = T b) := fun q => h (T_inj q)
theorem kv_get {f : Nat → List Nat} {i : Nat} (h : i < 5) : dget (kv f) (T [97 + i]) = some (.str (T (f i))) := by
  rcases five h with rfl | rfl | rfl | rfl | rfl <;> rfl
theorem kv_put {f : Nat → List Nat} {i : Nat} (h : i < 5) (l : List Nat) : dput (kv f) (T [97 + i]) (.str (T l)) = kv (setF f i l) := by
  rcases five h with rfl | rfl | rfl | rfl | rfl <;> rfl

-- the ten games
noncomputable def px (k : Nat) : Nat := [0, 0, 0, 0, 1, 1, 1, 2, 2, 3].getD k 0
noncomputable def py (k : Nat) : Nat := [1, 2, 3, 4, 2, 3, 4, 3, 4, 4].getD k 1
theorem ten {k : Nat} (h : k < 10) : k = 0 ∨ k = 1 ∨ k = 2 ∨ k = 3 ∨ k = 4 ∨ k = 5 ∨ k = 6 ∨ k = 7 ∨ k = 8 ∨ k = 9 := by
  revert k; decide
theorem pxy {k : Nat} (h : k < 10) : px k < 5 ∧ py k < 5 := by
  rcases ten h with rfl | rfl | rfl | rfl | rfl | rfl | rfl | rfl | rfl | rfl <;> decide
noncomputable def gamesD : D := .list ((List.range 10).map fun k => .str (T [97 + px k, 97 + py k]))
noncomputable def step (f : Nat → List Nat) (k : Nat) (b : Bool) : Nat → List Nat := if b = true then setF f (px k) (f (px k) ++ [97 + py k]) else setF f (py k) (f (py k) ++ [97 + px k])
noncomputable def steps (f : Nat → List Nat) (b : Nat → Bool) : Nat → Nat → Nat → List Nat
  | _, 0 => f
  | k, j + 1 => steps (step f k (b k)) b (k + 1) j
noncomputable def bt (b : Nat → Bool) : Nat → List Nat := steps (fun _ => []) b 0 10

noncomputable def btB : List PS := [.set 4 (.ite (.item (.own 0) (.var 3)) (.item (.own 2) (.var 3)) (.bin .Add (.item (.item (.own 2) (.var 3)) (.lit (.int 1))) (.item (.item (.own 2) (.var 3)) (.lit (.int 0))))), .dAug 1 (.item (.own 4) (.lit (.int 0))) (.item (.own 4) (.lit (.int 1)))]
noncomputable def rhoB (b : Nat → Bool) (f : Nat → List Nat) (tl : Rho) : Rho := (0, .list ((List.range 10).map fun k => .bool (b k))) :: (1, .dict (kv f)) :: (2, gamesD) :: tl
theorem it0 {x y : Nat} : itemD (.str (T [x, y])) (.int 0) = some (.str (T [x])) := item_T (i := 0) rfl (by decide)
theorem it1 {x y : Nat} : itemD (.str (T [x, y])) (.int 1) = some (.str (T [y])) := item_T (i := 1) rfl (by decide)
section
variable {F : Nat → List D → Option D} {N n : Nat} {ρ ρ' : Rho}
theorem ex_dAug {x : Nat} {k e : PE} {kvs : List (D × D)} {key u v : Str} (hk : evE F N ρ k = some (.str key)) (hx : ρ.lookup x = some (.dict kvs)) (hd : dget kvs key = some (.str u)) (he : evE F N ρ e = some (.str v)) (hl : (u ++ v).length ≤ 1000) :
    exO F N (n + 1) ρ (.dAug x k e) = some (.next, upd ρ x (.dict (dput kvs key (.str (u ++ v))))) := ob_i (ob_i hk rfl) (ob_i (ob_i hx rfl) (ob_i (ob_i hd rfl) (ob_i (ob_i he rfl) (gd_i (decide_eq_true hl) rfl))))
theorem ex_forR {x : Nat} {as : List PE} {b : List PS} {ds ls : List D} {o : Option (Fl × Rho)} (h : mapO (evE F N ρ) as = some ds) (hr : rangeD ds = some ls) (hf : forL (fun ρ => exS F N n ρ b) x ls ρ = o) : exO F N (n + 1) ρ (.forR x as b) = o := ob_i h (ob_i hr hf)
theorem forL_cons {f : Rho → Option (Fl × Rho)} {x : Nat} {d : D} {ds : List D} (h : f (upd ρ x d) = some (.next, ρ')) : forL f x (d :: ds) ρ = forL f x ds ρ' := ob_i h rfl
end
theorem games_at {k : Nat} (h : k < 10) : ((List.range 10).map fun k => (PyData.str (T [97 + px k, 97 + py k]) : D))[k]? = some (.str (T [97 + px k, 97 + py k])) := by
  rw [List.getElem?_map, List.getElem?_range h]; rfl
theorem bits_at {b : Nat → Bool} {k : Nat} (h : k < 10) : ((List.range 10).map fun k => (PyData.bool (b k) : D))[k]? = some (.bool (b k)) := by
  rw [List.getElem?_map, List.getElem?_range h]; rfl
theorem step_len {f : Nat → List Nat} {k m : Nat} {b : Bool} (h : ∀ i, (f i).length ≤ m) : ∀ i, (step f k b i).length ≤ m + 1 := by
  intro i
  unfold step
  split <;> (unfold setF; split)
  · have := h (px k); simp; omega
  · have := h i; omega
  · have := h (py k); simp; omega
  · have := h i; omega
theorem turn_beaten {b : Nat → Bool} {f : Nat → List Nat} {k : Nat} {tl : Rho} {fu : Nat} (hk : k < 10) (hf : ∀ i, (f i).length ≤ 20) (htl : tl = [] ∨ ∃ c d, tl = [(3, c), (4, d)]) :
    ∃ tl', (∃ c d, tl' = [(3, c), (4, d)]) ∧ exS F0 12 (fu + 4) (upd (rhoB b f tl) 3 (.int (k : Int))) btB = some (.next, rhoB b (step f k (b k)) tl') := by
  have h5 := pxy hk
  have main : ∀ (x y : Nat) (f' : Nat → List Nat), x < 5 → f' = setF f x (f x ++ [97 + y]) → (∀ ρ : Rho, ρ.lookup 0 = some (.list ((List.range 10).map fun k => .bool (b k))) → ρ.lookup 2 = some gamesD → ρ.lookup 3 = some (.int (k : Int)) →
      evE F0 12 ρ (.ite (.item (.own 0) (.var 3)) (.item (.own 2) (.var 3)) (.bin .Add (.item (.item (.own 2) (.var 3)) (.lit (.int 1))) (.item (.item (.own 2) (.var 3)) (.lit (.int 0))))) = some (.str (T [97 + x, 97 + y]))) →
      exS F0 12 (fu + 4) (upd (rhoB b f tl) 3 (.int (k : Int))) btB = some (.next, rhoB b f' [(3, .int (k : Int)), (4, .str (T [97 + x, 97 + y]))]) := by
    intro x y f' hx hf' he
    have e1 : exS F0 12 (fu + 4) (upd (rhoB b f tl) 3 (.int (k : Int))) btB = exS F0 12 (fu + 3) (rhoB b f [(3, .int (k : Int)), (4, .str (T [97 + x, 97 + y]))]) (btB.drop 1) := by
      rcases htl with rfl | ⟨c, d, rfl⟩
      · exact exS_next (ex_set (he _ rfl rfl rfl))
      · exact exS_next (ex_set (he _ rfl rfl rfl))
    rw [e1]
    refine (exS_next (ρ' := rhoB b f' [(3, .int (k : Int)), (4, .str (T [97 + x, 97 + y]))]) ?_).trans exS_nil
    have := ex_dAug (F := F0) (N := 12) (n := fu + 1) (ρ := rhoB b f [(3, .int (k : Int)), (4, .str (T [97 + x, 97 + y]))]) (x := 1) (k := .item (.own 4) (.lit (.int 0))) (e := .item (.own 4) (.lit (.int 1))) (kvs := kv f) (key := T [97 + x]) (u := T (f x)) (v := T [97 + y])
      (ev_item (u := .str (T [97 + x, 97 + y])) (v := .int 0) (ev_own rfl) ev_lit it0) rfl (kv_get hx) (ev_item (u := .str (T [97 + x, 97 + y])) (v := .int 1) (ev_own rfl) ev_lit it1) (by
        rw [T_append, T_len]
        have := hf x
        simp; omega)
    rw [T_append, kv_put hx, ← hf'] at this
    exact this
  have gi : ∀ (n : Nat) (ρ : Rho), ρ.lookup 2 = some gamesD → ρ.lookup 3 = some (.int (k : Int)) → evE F0 (n + 2) ρ (.item (.own 2) (.var 3)) = some (.str (T [97 + px k, 97 + py k])) := fun n ρ h2 h3 => ev_item (ev_own h2) (ev_var h3) (it_list (games_at hk) (by omega))
  cases hb : b k with
  | true =>
    refine ⟨_, ⟨_, _, rfl⟩, main (px k) (py k) _ h5.1 (by simp [step]) fun ρ h0 h2 h3 => ?_⟩
    refine ev_ite (c := true) ?_ (gi _ ρ h2 h3)
    have hi := ev_item (F := F0) (n := 9) (a := .own 0) (b := .var 3) (ev_own h0) (ev_var h3) (it_list (bits_at (b := b) hk) (by omega))
    exact ob_i (f := truthD) hi (congrArg some hb)
  | false =>
    refine ⟨_, ⟨_, _, rfl⟩, main (py k) (px k) _ h5.2 (by simp [step]) fun ρ h0 h2 h3 => ?_⟩
    refine ev_ite (c := false) ?_ (ev_bin (ev_item (gi _ ρ h2 h3) ev_lit it1) (ev_item (gi _ ρ h2 h3) ev_lit it0) (add_T (by simp)))
    have hi := ev_item (F := F0) (n := 9) (a := .own 0) (b := .var 3) (ev_own h0) (ev_var h3) (it_list (bits_at (b := b) hk) (by omega))
    exact ob_i (f := truthD) hi (congrArg some hb)
theorem loop_beaten {b : Nat → Bool} {fu : Nat} : ∀ (j k : Nat) (f : Nat → List Nat) (tl : Rho), k + j = 10 → (∀ i, (f i).length ≤ k) → (tl = [] ∨ ∃ c d, tl = [(3, c), (4, d)]) →
    ∃ tl', forL (fun ρ => exS F0 12 (fu + 4) ρ btB) 3 ((List.range' k j).map fun (i : Nat) => (PyData.int (i : Int) : D)) (rhoB b f tl) = some (.next, rhoB b (steps f b k j) tl')
  | 0, k, f, tl, _, _, _ => ⟨tl, rfl⟩
  | j + 1, k, f, tl, hk, hf, htl => by
    obtain ⟨tl', h', e⟩ := turn_beaten (fu := fu) (b := b) (f := f) (k := k) (tl := tl) (by omega) (fun i => by have := hf i; omega) htl
    obtain ⟨tl'', e'⟩ := loop_beaten (b := b) (fu := fu) j (k + 1) (step f k (b k)) tl' (by omega) (step_len hf) (.inr h')
    exact ⟨tl'', (forL_cons e).trans e'⟩
theorem beaten_ok (b : Nat → Bool) : d_beaten [.list ((List.range 10).map fun k => .bool (b k))] = some (.dict (kv (bt b))) := by
  unfold d_beaten callD
  rw [if_pos (show ([.list ((List.range 10).map fun k => .bool (b k))] : List D).length = pr_law_beaten.length from rfl)]
  have h : ∃ ρ', exS F0 12 30 (rhoZ 0 [.list ((List.range 10).map fun k => .bool (b k))] ++ gl_law_beaten) ps_law_beaten = some (.ret (.dict (kv (bt b))), ρ') := by
    obtain ⟨tl', e⟩ := loop_beaten (b := b) (fu := 23) 10 0 (fun _ => []) [] rfl (by simp) (.inl rfl)
    show ∃ ρ', exS F0 12 30 [(0, .list ((List.range 10).map fun k => .bool (b k)))] (.dnew 1 _ :: .set 2 _ :: .forR 3 [(.lit (.int 10))] btB :: .retO 1 :: []) = _
    refine ⟨rhoB b (bt b) tl', ?_⟩
    refine (exS_next (ρ' := [(0, .list ((List.range 10).map fun k => .bool (b k))), (1, .dict (kv fun _ => []))]) rfl).trans ?_
    refine (exS_next (ρ' := rhoB b (fun _ => []) []) (ex_set (d := gamesD) ?_)).trans ?_
    · generalize (PyData.list ((List.range 10).map fun k => .bool (b k)) : D) = z
      kernel_rfl
    refine (exS_next (ρ' := rhoB b (bt b) tl') ?_).trans ?_
    · have hr : rangeD [.int 10] = some ((List.range' 0 10).map fun (i : Nat) => (PyData.int (i : Int) : D)) := by kernel_rfl
      exact ex_forR (ds := [.int 10]) rfl hr e
    · exact exS_ret rfl
  obtain ⟨ρ', e⟩ := h
  rw [e]
end Ev
namespace Ev
open PySem PySem.StrLaws PySem.Builtin PySem.Builtin.Str

section
variable {F : Nat → List D → Option D} {N n : Nat} {ρ ρ' : Rho}
theorem evI_str {e : PE} {x : Str} (hn : isRangeP e = false) (h : evE F n ρ e = some (.str x)) : evI F (n + 1) ρ e = some (chars x) := by
  cases e with
  | range _ => cases hn
  | _ => exact ob_i (f := itemsD) h rfl
/-- two loops in one, the inner with a test -/
theorem ev_comp2 {elt t : PE} {x y : Nat} {iter iter2 : PE} {ds : List D} {es : D → List D} {p : D → D → Bool} {g : D → D → D} (hx : ρ.lookup x = none) (hy : ρ.lookup y = none) (hxy : y ≠ x) (hi : evI F n ρ iter = some ds)
    (hi2 : ∀ d ∈ ds, evI F n ((x, d) :: ρ) iter2 = some (es d)) (ht : ∀ d ∈ ds, ∀ e ∈ es d, evT F n ((y, e) :: (x, d) :: ρ) t = some (p d e)) (h : ∀ d ∈ ds, ∀ e ∈ es d, p d e = true → evE F n ((y, e) :: (x, d) :: ρ) elt = some (g d e))
    (hl : (ds.flatMap fun d => ((es d).filter (p d)).map (g d)).length ≤ 16777215) :
    evE F (n + 1) ρ (.comp elt [(x, iter, []), (y, iter2, [t])]) = some (.list (ds.flatMap fun d => ((es d).filter (p d)).map (g d))) := by
  have filt : ∀ (l : List D) (b : D → Bool) (g : D → D), (l.filterMap fun d => if b d = true then some (g d) else none) = (l.filter b).map g := by
    intro l b g
    induction l with
    | nil => rfl
    | cons d r ih =>
      simp only [List.filterMap_cons, List.filter_cons]
      cases b d <;> simp [ih]
  have inner : ∀ d ∈ ds, genO (evE F n) (evT F n) (evI F n) elt [(y, iter2, [t])] ((x, d) :: ρ) = some (((es d).filter (p d)).map (g d)) := fun d hd => by
    have e := gen_one (ev := evE F n) (tst := evT F n) (it := evI F n) (elt := elt) (x := y) (iter := iter2) (ifs := [t]) (ρ := (x, d) :: ρ) (g := fun e => if p d e = true then some (g d e) else none) ((lk_ne hxy).trans hy) (hi2 d hd) fun e he => by
      refine ob_i (a := p d e) (ob_i (ht d hd e he) (by cases p d e <;> rfl)) ?_
      cases hb : p d e with
      | true => exact ob_i (h d hd e he hb) rfl
      | false => rfl
    rw [e, filt]
  have e : genO (evE F n) (evT F n) (evI F n) elt [(x, iter, []), (y, iter2, [t])] ρ = some (ds.flatMap fun d => ((es d).filter (p d)).map (g d)) := by
    exact gd_i (by rw [hx]; rfl) (ob_i hi (ob_i (mapO_map (g := fun d => ((es d).filter (p d)).map (g d)) fun d hd => ob_i (a := true) rfl (inner d hd)) rfl))
  exact gd_i (by rw [List.any_cons, List.any_cons, hx, hy]; rfl) (ob_i e (gd_i (decide_eq_true hl) rfl))
end

theorem item_last {v : List Nat} {c : Nat} (hv : v.length ≤ 1000) : itemD (.str (T (v ++ [c]))) (.int (-1)) = some (.str (T [c])) := by
  have e : Txt.charAt (T (v ++ [c])) (-1) = some c := by
    unfold Txt.charAt seqIndex?
    have hneg : (-1 : Int) < 0 := by decide
    simp only [if_pos hneg, T_len, List.length_append, List.length_singleton]
    have h2 : (decide ((0 : Int) ≤ -1 + ((v.length + 1 : Nat) : Int)) && decide (-1 + ((v.length + 1 : Nat) : Int) < ((v.length + 1 : Nat) : Int))) = true := by simp; omega
    rw [if_pos h2]
    have : (-1 + ((v.length + 1 : Nat) : Int)).toNat = v.length := by omega
    rw [this]
    simp [T]
  have f : fitsSsize (-1) = true := by decide
  simp only [itemD, seqItem, asInt, asStr, Option.bind_some, f, e, Option.isSome_some, Bool.and_self, if_true, Txt.item, Option.getD_some]
theorem chars_T (l : List Nat) : chars (T l) = l.map fun c => .str (T [c]) := by
  simp [chars, T]
theorem notIn_T {l : List Nat} {c : Nat} : cmpD .NotIn (.str (T [c])) (.str (T l)) = some (!decide (c ∈ l)) := by
  simp only [cmpD, ltD, inD, ninD, asInt, asStr, asBool, Option.bind_some, contains_T]
theorem in_T {l : List Nat} {c : Nat} : cmpD .In (.str (T [c])) (.str (T l)) = some (decide (c ∈ l)) := by
  simp only [cmpD, ltD, inD, ninD, asInt, asStr, asBool, Option.bind_some, contains_T]

/-- a word of players -/
structure Word (w : List Nat) : Prop where
  ne : ∃ v i, w = v ++ [97 + i] ∧ i < 5
  len : w.length ≤ 20
noncomputable def lastI (w : List Nat) : Nat := w.getLastD 0 - 97
noncomputable def walk1 (f : Nat → List Nat) (ws : List (List Nat)) : List (List Nat) := ws.flatMap fun w => ((f (lastI w)).filter fun c => !decide (c ∈ w)).map fun c => w ++ [c]
noncomputable def walkN (f : Nat → List Nat) : Nat → List (List Nat) → List (List Nat)
  | 0, ws => ws
  | k + 1, ws => walkN f k (walk1 f ws)
/-- who beats whom: letters alone -/
structure FOk (f : Nat → List Nat) : Prop where
  let_ : ∀ i c, c ∈ f i → ∃ j, c = 97 + j ∧ j < 5
  len : ∀ i, (f i).length ≤ 10
theorem Word.last {w : List Nat} (h : Word w) : ∃ v i, w = v ++ [97 + i] ∧ i < 5 ∧ lastI w = i := by
  obtain ⟨v, i, rfl, hi⟩ := h.ne
  refine ⟨v, i, rfl, hi, ?_⟩
  unfold lastI
  simp

noncomputable def wkE : PE := .comp (.bin .Add (.own 4) (.own 5)) [(4, (.own 0), []), (5, (.item (.own 1) (.item (.own 4) (.un .USub (.lit (.int 1))))), [(.cmp .NotIn (.own 5) (.own 4))])]
noncomputable def strL (ws : List (List Nat)) : List D := ws.map fun w => .str (T w)
theorem walk_step {f : Nat → List Nat} {ws : List (List Nat)} {ρ : Rho} (hf : FOk f) (hw : ∀ w ∈ ws, Word w) (h0 : ρ.lookup 0 = some (.list (strL ws))) (h1 : ρ.lookup 1 = some (.dict (kv f))) (h4 : ρ.lookup 4 = none) (h5 : ρ.lookup 5 = none) (hl : ws.length ≤ 100000) :
    evE F0 12 ρ wkE = some (.list (strL (walk1 f ws))) := by
  have hfl : ∀ w : List Nat, (walk1 f [w]).length ≤ 10 := fun w => by
    simp only [walk1, List.flatMap_cons, List.flatMap_nil, List.append_nil, List.length_map]
    exact Nat.le_trans (List.length_filter_le _ _) (hf.len _)
  have hlen : (walk1 f ws).length ≤ 10 * ws.length := by
    clear hw h0 hl
    induction ws with
    | nil => simp [walk1]
    | cons w r ih =>
      have h1 := hfl w
      simp only [walk1, List.flatMap_cons, List.flatMap_nil, List.append_nil, List.length_append, List.length_cons] at ih h1 ⊢
      omega
  let txt : D → List Nat := fun d => match d with | .str x => x.cps.toList | _ => []
  have ht : ∀ l : List Nat, txt (.str (T l)) = l := fun l => by simp [txt, T]
  have e := ev_comp2 (F := F0) (n := 11) (ρ := ρ) (elt := .bin .Add (.own 4) (.own 5)) (t := .cmp .NotIn (.own 5) (.own 4)) (x := 4) (y := 5) (iter := .own 0) (iter2 := .item (.own 1) (.item (.own 4) (.un .USub (.lit (.int 1))))) (ds := strL ws)
    (es := fun d => (f (lastI (txt d))).map fun c => .str (T [c])) (p := fun d e => !decide ((txt e).headD 0 ∈ txt d)) (g := fun d e => .str (T (txt d ++ txt e))) h4 h5 (by decide) (evI_own h0) ?_ ?_ ?_ ?_
  · unfold wkE
    rw [e]
    congr 1
    show PyData.list _ = PyData.list _
    congr 1
    have filt : ∀ (l : List Nat) (p : D → Bool) (q : Nat → Bool) (g : D → D) (g' : Nat → D), (∀ c, p (.str (T [c])) = q c) → (∀ c, g (.str (T [c])) = g' c) → ((l.map fun c => (.str (T [c]) : D)).filter p).map g = (l.filter q).map g' := by
      intro l p q g g' hp hg
      induction l with
      | nil => rfl
      | cons c r ih =>
        simp only [List.map_cons, List.filter_cons, hp]
        cases q c <;> simp [ih, hg]
    unfold strL walk1
    rw [List.flatMap_map, List.map_flatMap]
    congr 1
    funext w
    rw [List.map_map]
    refine filt _ _ _ _ _ (fun c => ?_) fun c => ?_
    · simp only [ht]; rfl
    · simp only [ht]; rfl
  · intro d hd
    obtain ⟨w, hw', rfl⟩ := List.mem_map.mp hd
    obtain ⟨v, i, rfl, hi, hlast⟩ := (hw w hw').last
    have hlv := (hw _ hw').len
    simp only [List.length_append, List.length_singleton] at hlv
    have e1 : evE F0 10 ((4, PyData.str (T (v ++ [97 + i]))) :: ρ) (.item (.own 1) (.item (.own 4) (.un .USub (.lit (.int 1))))) = some (.str (T (f i))) := by
      refine ev_item (u := .dict (kv f)) (v := .str (T [97 + i])) (ev_own ((lk_ne (by decide)).trans h1)) (ev_item (u := .str (T (v ++ [97 + i]))) (v := .int (-1)) (ev_own rfl) rfl (item_last (by omega))) ?_
      simp only [itemD, seqItem, asInt, asStr, Option.bind_some]
      exact kv_get hi
    rw [evI_str rfl e1, chars_T, ht, hlast]
  · intro d hd e he
    obtain ⟨w, hw', rfl⟩ := List.mem_map.mp hd
    obtain ⟨c, hc, rfl⟩ := List.mem_map.mp he
    refine evT_cmp (u := .str (T [c])) (v := .str (T w)) (ev_own rfl) (ev_own rfl) ?_
    rw [notIn_T, ht, ht]; rfl
  · intro d hd e he _
    obtain ⟨w, hw', rfl⟩ := List.mem_map.mp hd
    obtain ⟨c, hc, rfl⟩ := List.mem_map.mp he
    have hlw := (hw w hw').len
    refine ev_bin (u := .str (T w)) (v := .str (T [c])) (ev_own rfl) (ev_own rfl) ?_
    rw [ht, ht]
    exact add_T (by simp only [List.length_singleton]; omega)
  · have : ∀ (ws : List (List Nat)), (∀ w ∈ ws, Word w) → ((strL ws).flatMap fun d => (((f (lastI (txt d))).map fun c => (.str (T [c]) : D)).filter fun e => !decide ((txt e).headD 0 ∈ txt d)).map fun e => (.str (T (txt d ++ txt e)) : D)).length ≤ 10 * ws.length := by
      intro ws hw
      induction ws with
      | nil => simp [strL]
      | cons w r ih =>
        have h1 := ih fun x hx => hw x (.tail _ hx)
        have h2 := List.length_filter_le (fun e => !decide ((txt e).headD 0 ∈ txt (.str (T w)))) ((f (lastI (txt (.str (T w))))).map fun c => (.str (T [c]) : D))
        have h3 := hf.len (lastI (txt (.str (T w))))
        simp only [strL, List.map_cons, List.flatMap_cons, List.length_append, List.length_map, List.length_cons] at h1 h2 ⊢
        omega
    have := this ws hw
    omega
theorem walk_words {f : Nat → List Nat} {ws : List (List Nat)} {m : Nat} (hf : FOk f) (hw : ∀ w ∈ ws, Word w) (hm : ∀ w ∈ ws, w.length ≤ m) (h20 : m < 20) : (∀ w ∈ walk1 f ws, Word w) ∧ ∀ w ∈ walk1 f ws, w.length ≤ m + 1 := by
  have : ∀ w ∈ walk1 f ws, Word w ∧ w.length ≤ m + 1 := fun w h => by
    simp only [walk1, List.mem_flatMap, List.mem_map, List.mem_filter] at h
    obtain ⟨v, hv, c, ⟨hc, _⟩, rfl⟩ := h
    obtain ⟨j, rfl, hj⟩ := hf.let_ _ _ hc
    have := hm v hv
    exact ⟨⟨⟨v, j, rfl, hj⟩, by simp; omega⟩, by simp; omega⟩
  exact ⟨fun w h => (this w h).1, fun w h => (this w h).2⟩
theorem walk_len {f : Nat → List Nat} {ws : List (List Nat)} (hf : FOk f) : (walk1 f ws).length ≤ 10 * ws.length := by
  induction ws with
  | nil => simp [walk1]
  | cons w r ih =>
    have h1 := List.length_filter_le (fun c => !decide (c ∈ w)) (f (lastI w))
    have h2 := hf.len (lastI w)
    simp only [walk1, List.flatMap_cons, List.length_append, List.length_map, List.length_cons] at ih h1 ⊢
    omega

noncomputable def rhoW (ws : List (List Nat)) (f : Nat → List Nat) (k : Int) (tl : Rho) : Rho := (0, .list (strL ws)) :: (1, .dict (kv f)) :: (2, .int k) :: tl
theorem loop_walks {f : Nat → List Nat} {K : Int} {fu : Nat} (hf : FOk f) : ∀ (ls : List D) (ws : List (List Nat)) (m : Nat) (tl : Rho), (∀ w ∈ ws, Word w) → (∀ w ∈ ws, w.length ≤ m) → m + ls.length ≤ 20 → ws.length * 10 ^ ls.length ≤ 100000 → (tl = [] ∨ ∃ c, tl = [(3, c)]) →
    ∃ tl', forL (fun ρ => exS F0 12 (fu + 3) ρ [.set 0 wkE]) 3 ls (rhoW ws f K tl) = some (.next, rhoW (walkN f ls.length ws) f K tl')
  | [], ws, m, tl, _, _, _, _, _ => ⟨tl, rfl⟩
  | d :: ls, ws, m, tl, hw, hm, h20, hl, htl => by
    simp only [List.length_cons] at h20 hl
    have hp : 1 ≤ 10 ^ ls.length := Nat.pos_of_ne_zero (by simp)
    have hl1 : ws.length * 10 * 10 ^ ls.length ≤ 100000 := by
      rw [Nat.pow_succ] at hl
      rw [Nat.mul_assoc, Nat.mul_comm 10]
      exact hl
    have hl2 : ws.length ≤ 100000 := by
      refine Nat.le_trans ?_ hl1
      rw [Nat.mul_assoc]
      exact Nat.le_mul_of_pos_right _ (by omega)
    obtain ⟨h1, h2⟩ := walk_words hf hw hm (by omega)
    have hlen := walk_len (ws := ws) hf
    obtain ⟨tl', e⟩ := loop_walks (K := K) (fu := fu) hf ls (walk1 f ws) (m + 1) [(3, d)] h1 h2 (by omega) (Nat.le_trans (Nat.mul_le_mul_right _ (by omega)) hl1) (.inr ⟨_, rfl⟩)
    refine ⟨tl', (forL_cons ?_).trans e⟩
    rcases htl with rfl | ⟨c, rfl⟩
    · exact (exS_next (ex_set (walk_step hf hw rfl rfl rfl rfl hl2))).trans exS_nil
    · exact (exS_next (ex_set (walk_step hf hw rfl rfl rfl rfl hl2))).trans exS_nil
theorem walks_ok {f : Nat → List Nat} {ws : List (List Nat)} {k m : Nat} (hf : FOk f) (hw : ∀ w ∈ ws, Word w) (hm : ∀ w ∈ ws, w.length ≤ m) (hmk : m + k ≤ 20) (hl : ws.length * 10 ^ k ≤ 100000) {ls : List D} (hr : rangeD [.int (k : Int)] = some ls) (hls : ls.length = k) :
    d_walks [.list (strL ws), .dict (kv f), .int (k : Int)] = some (.list (strL (walkN f k ws))) := by
  unfold d_walks callD
  rw [if_pos (show ([.list (strL ws), .dict (kv f), .int (k : Int)] : List D).length = pr_law_walks.length from rfl)]
  have h : ∃ ρ', exS F0 12 30 (rhoZ 0 [.list (strL ws), .dict (kv f), .int (k : Int)] ++ gl_law_walks) ps_law_walks = some (.ret (.list (strL (walkN f k ws))), ρ') := by
    obtain ⟨tl', e⟩ := loop_walks (K := (k : Int)) (fu := 25) hf ls ws m [] hw hm (by rw [hls]; exact hmk) (by rw [hls]; exact hl) (.inl rfl)
    rw [hls] at e
    show ∃ ρ', exS F0 12 30 (rhoW ws f (k : Int) []) (.forR 3 [(.var 2)] [.set 0 wkE] :: .ret (.var 0) :: []) = _
    refine ⟨_, (exS_next (ρ' := rhoW (walkN f k ws) f (k : Int) tl') ?_).trans (exS_ret (ex_ret (ev_var rfl)))⟩
    exact ex_forR (ds := [.int (k : Int)]) (mapO_cons' (ev_var rfl) rfl) hr e
  obtain ⟨ρ', e⟩ := h
  rw [e]
end Ev
namespace Ev
open PySem

-- who beats whom, by the ten answers
noncomputable def ix (i j : Nat) : Nat := i * (9 - i) / 2 + j - i - 1
noncomputable def adj (b : Nat → Bool) (i j : Nat) : Bool := cond (Nat.blt i j) (cond (Nat.blt j 5) (b (ix i j)) false) (cond (Nat.blt j i) (cond (Nat.blt i 5) (!b (ix j i)) false) false)
noncomputable def mkB (x0 x1 x2 x3 x4 x5 x6 x7 x8 x9 : Bool) : Nat → Bool
  | 0 => x0
  | 1 => x1
  | 2 => x2
  | 3 => x3
  | 4 => x4
  | 5 => x5
  | 6 => x6
  | 7 => x7
  | 8 => x8
  | _ => x9
noncomputable def mk10 (b : Nat → Bool) : Nat → Bool := mkB (b 0) (b 1) (b 2) (b 3) (b 4) (b 5) (b 6) (b 7) (b 8) (b 9)
theorem mk10_eq (b : Nat → Bool) {k : Nat} (h : k < 10) : mk10 b k = b k := by
  rcases ten h with rfl | rfl | rfl | rfl | rfl | rfl | rfl | rfl | rfl | rfl <;> rfl
theorem ix_lt : ∀ j, j < 5 → ∀ i, i < j → ix i j < 10 := by decide
theorem adj_mk (b : Nat → Bool) (i j : Nat) : adj (mkB (b 0) (b 1) (b 2) (b 3) (b 4) (b 5) (b 6) (b 7) (b 8) (b 9)) i j = adj b i j := by
  have lt : ∀ {x y : Nat}, Nat.blt x y = true → x < y := fun h => Nat.le_of_ble_eq_true h
  show adj (mk10 b) i j = adj b i j
  unfold adj
  cases h1 : Nat.blt i j with
  | true =>
    cases h2 : Nat.blt j 5 with
    | true => exact mk10_eq b (ix_lt j (lt h2) i (lt h1))
    | false => rfl
  | false =>
    cases h2 : Nat.blt j i with
    | true =>
      cases h3 : Nat.blt i 5 with
      | true => exact congrArg not (mk10_eq b (ix_lt i (lt h3) j (lt h2)))
      | false => rfl
    | false => rfl
noncomputable def beats (b : Nat → Bool) (i : Nat) : List Nat := ((List.range 5).filter (adj b i)).map (97 + ·)
theorem step_at {f : Nat → List Nat} {k j : Nat} {c : Bool} (hk : px k ≠ py k) : step f k c j = f j ++ (if j = px k then (if c = true then [97 + py k] else []) else if j = py k then (if c = true then [] else [97 + px k]) else []) := by
  unfold step setF
  cases c with
  | true =>
    simp only [if_true]
    by_cases h : j = px k
    · rw [if_pos h, if_pos h, h]
    · rw [if_neg h, if_neg h]
      split <;> simp
  | false =>
    simp only [Bool.false_eq_true, if_false]
    by_cases h : j = py k
    · have h' : j ≠ px k := fun q => hk (q.symm.trans h)
      rw [if_pos h, if_neg h', if_pos h, h]
    · rw [if_neg h, if_neg h]
      split <;> simp
theorem bt_at (b : Nat → Bool) (j : Nat) : bt b j = step (step (step (step (step (step (step (step (step (step (fun _ => []) 0 (b 0)) 1 (b 1)) 2 (b 2)) 3 (b 3)) 4 (b 4)) 5 (b 5)) 6 (b 6)) 7 (b 7)) 8 (b 8)) 9 (b 9) j := rfl
theorem px_0 : px 0 = 0 := rfl
theorem py_0 : py 0 = 1 := rfl
theorem px_1 : px 1 = 0 := rfl
theorem py_1 : py 1 = 2 := rfl
theorem px_2 : px 2 = 0 := rfl
theorem py_2 : py 2 = 3 := rfl
theorem px_3 : px 3 = 0 := rfl
theorem py_3 : py 3 = 4 := rfl
theorem px_4 : px 4 = 1 := rfl
theorem py_4 : py 4 = 2 := rfl
theorem px_5 : px 5 = 1 := rfl
theorem py_5 : py 5 = 3 := rfl
theorem px_6 : px 6 = 1 := rfl
theorem py_6 : py 6 = 4 := rfl
theorem px_7 : px 7 = 2 := rfl
theorem py_7 : py 7 = 3 := rfl
theorem px_8 : px 8 = 2 := rfl
theorem py_8 : py 8 = 4 := rfl
theorem px_9 : px 9 = 3 := rfl
theorem py_9 : py 9 = 4 := rfl
theorem bt_all : ∀ x0 x1 x2 x3 x4 x5 x6 x7 x8 x9 : Bool, ((List.range 5).all fun i => bt (mkB x0 x1 x2 x3 x4 x5 x6 x7 x8 x9) i == beats (mkB x0 x1 x2 x3 x4 x5 x6 x7 x8 x9) i) = true := by decide +kernel
theorem bt_beats (b : Nat → Bool) (i : Nat) (hi : i < 5) : bt b i = beats b i := by
  have h := List.all_eq_true.mp (bt_all (b 0) (b 1) (b 2) (b 3) (b 4) (b 5) (b 6) (b 7) (b 8) (b 9)) i (List.mem_range.mpr hi)
  refine Eq.trans ?_ (Eq.trans (eq_of_beq h) ?_)
  · rfl
  · unfold beats
    rw [show adj (mkB (b 0) (b 1) (b 2) (b 3) (b 4) (b 5) (b 6) (b 7) (b 8) (b 9)) i = adj b i from funext fun j => adj_mk b i j]
end Ev
namespace Ev
open PySem

theorem bt_big (b : Nat → Bool) {i : Nat} (h : 5 ≤ i) : bt b i = [] := by
  have nil_ : ∀ (p q : Bool → List Nat) (a c : Nat) (x : Bool), i ≠ a → i ≠ c → (if i = a then p x else if i = c then q x else []) = [] := fun p q a c x h1 h2 => by rw [if_neg h1, if_neg h2]
  have n0 : i ≠ 0 := by omega
  have n1 : i ≠ 1 := by omega
  have n2 : i ≠ 2 := by omega
  have n3 : i ≠ 3 := by omega
  have n4 : i ≠ 4 := by omega
  rw [bt_at]
  repeat rw [step_at (by decide)]
  simp only [px_0, px_1, px_2, px_3, px_4, px_5, px_6, px_7, px_8, px_9, py_0, py_1, py_2, py_3, py_4, py_5, py_6, py_7, py_8, py_9]
  simp [n0, n1, n2, n3, n4]
theorem bt_ok (b : Nat → Bool) : FOk (bt b) := by
  refine ⟨fun i c hc => ?_, fun i => ?_⟩
  · by_cases h : i < 5
    · rw [bt_beats b i h] at hc
      obtain ⟨j, hj, rfl⟩ := List.mem_map.mp hc
      exact ⟨j, rfl, List.mem_range.mp (List.mem_filter.mp hj).1⟩
    · rw [bt_big b (by omega)] at hc; cases hc
  · by_cases h : i < 5
    · rw [bt_beats b i h]
      have := List.length_filter_le (adj b i) (List.range 5)
      simp only [beats, List.length_map, List.length_range] at this ⊢
      omega
    · rw [bt_big b (by omega)]; simp

/-- how many walks of k steps go on from i, the used ones told by u -/
noncomputable def cnt (b : Nat → Bool) (base : Nat → Nat) : Nat → Nat → Nat → Nat
  | 0, i, _ => base i
  | k + 1, i, u => ((List.range 5).map fun j => if (adj b i j && !(u.testBit j)) = true then cnt b base k j (u ||| (1 <<< j)) else 0).sum

theorem walk1_app (f : Nat → List Nat) (a c : List (List Nat)) : walk1 f (a ++ c) = walk1 f a ++ walk1 f c := by simp [walk1]
theorem walkN_app (f : Nat → List Nat) : ∀ (k : Nat) (a c : List (List Nat)), walkN f k (a ++ c) = walkN f k a ++ walkN f k c
  | 0, _, _ => rfl
  | k + 1, a, c => by simp only [walkN, walk1_app, walkN_app f k]
theorem walkN_nil (f : Nat → List Nat) : ∀ k, walkN f k [] = []
  | 0 => rfl
  | k + 1 => by simp only [walkN]; exact walkN_nil f k
theorem walkN_sum (f : Nat → List Nat) (p : List Nat → Bool) (k : Nat) : ∀ ws : List (List Nat), ((walkN f k ws).filter p).length = (ws.map fun w => ((walkN f k [w]).filter p).length).sum
  | [] => by rw [walkN_nil]; rfl
  | w :: r => by
    rw [show w :: r = [w] ++ r from rfl, walkN_app, List.filter_append, List.length_append, walkN_sum f p k r]
    simp
theorem walk_cnt (b : Nat → Bool) (p : List Nat → Bool) (base : Nat → Nat) (hp : ∀ (w : List Nat) (i : Nat), i < 5 → lastI w = i → (if p w = true then 1 else 0) = base i) :
    ∀ (k : Nat) (w : List Nat) (i u : Nat), i < 5 → lastI w = i → (∀ j, j < 5 → u.testBit j = decide (97 + j ∈ w)) → ((walkN (bt b) k [w]).filter p).length = cnt b base k i u
  | 0, w, i, u, hi, hl, _ => by
    rw [cnt, ← hp w i hi hl]
    simp only [walkN, List.filter_cons, List.filter_nil]
    cases p w <;> rfl
  | k + 1, w, i, u, hi, hl, hu => by
    have e : walk1 (bt b) [w] = (((List.range 5).filter fun j => adj b i j && !(u.testBit j)).map fun j => w ++ [97 + j]) := by
      simp only [walk1, List.flatMap_cons, List.flatMap_nil, List.append_nil, hl, bt_beats b i hi, beats, List.filter_map, List.map_map, List.filter_filter]
      have : ((List.range 5).filter fun a => ((fun c => !decide (c ∈ w)) ∘ fun x => 97 + x) a && adj b i a) = (List.range 5).filter fun j => adj b i j && !(u.testBit j) := by
        refine List.filter_congr fun j hj => ?_
        rw [hu j (List.mem_range.mp hj)]
        simp only [Function.comp_apply, Bool.and_comm]
      rw [this]
      rfl
    show ((walkN (bt b) k (walk1 (bt b) [w])).filter p).length = _
    rw [walkN_sum, e, List.map_map, cnt]
    have : ∀ l : List Nat, (∀ j ∈ l, j < 5) → ((l.filter fun j => adj b i j && !(u.testBit j)).map ((fun w => ((walkN (bt b) k [w]).filter p).length) ∘ fun j => w ++ [97 + j])).sum = (l.map fun j => if (adj b i j && !(u.testBit j)) = true then cnt b base k j (u ||| (1 <<< j)) else 0).sum := by
      intro l hl5
      induction l with
      | nil => rfl
      | cons j r ih =>
        have hj := hl5 j (.head _)
        rw [List.map_cons, List.sum_cons, List.filter_cons]
        by_cases hc : (adj b i j && !(u.testBit j)) = true
        · rw [if_pos hc, if_pos hc, List.map_cons, List.sum_cons, ih fun x hx => hl5 x (.tail _ hx)]
          congr 1
          refine walk_cnt b p base hp k (w ++ [97 + j]) j _ hj (by simp [lastI]) fun m hm => ?_
          rw [Nat.testBit_or, hu m hm]
          have : (1 <<< j).testBit m = decide (m = j) := by
            rw [Nat.one_shiftLeft, Nat.testBit_two_pow]
            simp only [decide_eq_decide]; exact eq_comm
          rw [this]
          simp only [List.mem_append, List.mem_singleton, Nat.add_left_cancel_iff, Bool.decide_or]
        · rw [if_neg hc, if_neg hc, Nat.zero_add]
          exact ih fun x hx => hl5 x (.tail _ hx)
    exact this _ fun j hj => List.mem_range.mp hj

noncomputable def start5 : List (List Nat) := [[97], [98], [99], [100], [101]]
noncomputable def sc (b : Nat → Bool) (i : Nat) : Nat := ((List.range 5).filter (adj b i)).length
noncomputable def ringsN (b : Nat → Bool) : Nat := 10 - ((List.range 5).map fun i => sc b i * (sc b i - 1) / 2).sum + cnt b (fun i => if adj b i 0 = true then 1 else 0) 4 0 1
noncomputable def ordersN (b : Nat → Bool) : Nat := ((List.range 5).map fun i => cnt b (fun _ => 1) 4 i (1 <<< i)).sum
noncomputable def chk1 (b : Nat → Bool) : Bool := (ordersN b == 2 * ringsN b + 1) && decide (((List.range 5).map fun i => sc b i * (sc b i - 1) / 2).sum ≤ 10) && decide (ringsN b ≤ 7)
theorem cnt_congr {b b' : Nat → Bool} {base base' : Nat → Nat} (h : ∀ i j, adj b i j = adj b' i j) (hb : ∀ i, base i = base' i) : ∀ k i u, cnt b base k i u = cnt b' base' k i u
  | 0, i, u => hb i
  | k + 1, i, u => by simp only [cnt, h, cnt_congr h hb k]

-- the same, quick to reckon: the table of who beats whom as one number
noncomputable def cq (A : Nat) (base : Nat → Nat) : Nat → Nat → Nat → Nat
  | 0, i, _ => base i
  | k + 1, i, u =>
    Nat.add (cond (Nat.beq (Nat.land (Nat.land (Nat.shiftRight A (Nat.mul 5 i)) (Nat.xor u 31)) 1) 0) 0 (cq A base k 0 (Nat.lor u 1)))
    (Nat.add (cond (Nat.beq (Nat.land (Nat.land (Nat.shiftRight A (Nat.mul 5 i)) (Nat.xor u 31)) 2) 0) 0 (cq A base k 1 (Nat.lor u 2)))
    (Nat.add (cond (Nat.beq (Nat.land (Nat.land (Nat.shiftRight A (Nat.mul 5 i)) (Nat.xor u 31)) 4) 0) 0 (cq A base k 2 (Nat.lor u 4)))
    (Nat.add (cond (Nat.beq (Nat.land (Nat.land (Nat.shiftRight A (Nat.mul 5 i)) (Nat.xor u 31)) 8) 0) 0 (cq A base k 3 (Nat.lor u 8)))
    (cond (Nat.beq (Nat.land (Nat.land (Nat.shiftRight A (Nat.mul 5 i)) (Nat.xor u 31)) 16) 0) 0 (cq A base k 4 (Nat.lor u 16))))))
noncomputable def A5 (x0 x1 x2 x3 x4 x5 x6 x7 x8 x9 : Bool) : Nat := Nat.lor (cond x0 2 32) (Nat.lor (cond x1 4 1024) (Nat.lor (cond x2 8 32768) (Nat.lor (cond x3 16 1048576) (Nat.lor (cond x4 128 2048) (Nat.lor (cond x5 256 65536) (Nat.lor (cond x6 512 2097152) (Nat.lor (cond x7 8192 131072) (Nat.lor (cond x8 16384 4194304) (cond x9 524288 8388608)))))))))
theorem A5_all : ∀ x0 x1 x2 x3 x4 x5 x6 x7 x8 x9 : Bool, ((List.range 5).all fun i => (List.range 5).all fun j => (A5 x0 x1 x2 x3 x4 x5 x6 x7 x8 x9).testBit (5 * i + j) == adj (mkB x0 x1 x2 x3 x4 x5 x6 x7 x8 x9) i j) = true := by decide +kernel
theorem A5_adj (x0 x1 x2 x3 x4 x5 x6 x7 x8 x9 : Bool) {i j : Nat} (hi : i < 5) (hj : j < 5) : (A5 x0 x1 x2 x3 x4 x5 x6 x7 x8 x9).testBit (5 * i + j) = adj (mkB x0 x1 x2 x3 x4 x5 x6 x7 x8 x9) i j :=
  eq_of_beq (List.all_eq_true.mp (List.all_eq_true.mp (A5_all x0 x1 x2 x3 x4 x5 x6 x7 x8 x9) i (List.mem_range.mpr hi)) j (List.mem_range.mpr hj))
end Ev
namespace Ev
open PySem

theorem cand {A u i : Nat} {r : Nat} {j : Nat} (hj : j < 5) : (cond (Nat.beq (Nat.land (Nat.land (Nat.shiftRight A (Nat.mul 5 i)) (Nat.xor u 31)) (2 ^ j)) 0) 0 r) = if (A.testBit (5 * i + j) && !(u.testBit j)) = true then r else 0 := by
  have h31 : Nat.testBit 31 j = true := by
    rcases five hj with rfl | rfl | rfl | rfl | rfl <;> rfl
  have e : (Nat.land (Nat.shiftRight A (Nat.mul 5 i)) (Nat.xor u 31)).testBit j = (A.testBit (5 * i + j) && !(u.testBit j)) := by
    show ((A >>> (5 * i)) &&& (u ^^^ 31)).testBit j = _
    rw [Nat.testBit_and, Nat.testBit_xor, Nat.testBit_shiftRight, h31]
    cases u.testBit j <;> simp
  generalize Nat.land (Nat.shiftRight A (Nat.mul 5 i)) (Nat.xor u 31) = a at e ⊢
  cases hc : (A.testBit (5 * i + j) && !(u.testBit j)) with
  | true =>
    rw [hc] at e
    have hne : Nat.land a (2 ^ j) ≠ 0 := fun q => by
      have t : (a &&& 2 ^ j).testBit j = true := by rw [Nat.testBit_and, e, Nat.testBit_two_pow_self]; rfl
      rw [show (a &&& 2 ^ j) = 0 from q, Nat.zero_testBit] at t
      cases t
    have : Nat.beq (Nat.land a (2 ^ j)) 0 = false := by
      cases h : Nat.beq (Nat.land a (2 ^ j)) 0 with
      | false => rfl
      | true => exact absurd (Nat.eq_of_beq_eq_true h) hne
    rw [this]; rfl
  | false =>
    rw [hc] at e
    have h0 : Nat.land a (2 ^ j) = 0 := by
      show a &&& 2 ^ j = 0
      refine Nat.eq_of_testBit_eq fun m => ?_
      rw [Nat.testBit_and, Nat.testBit_two_pow, Nat.zero_testBit]
      by_cases hm : j = m
      · subst hm; rw [e]; rfl
      · rw [decide_eq_false hm, Bool.and_false]
    rw [h0]; rfl
theorem cq_cnt {A : Nat} {b : Nat → Bool} {base : Nat → Nat} (hA : ∀ i j, i < 5 → j < 5 → A.testBit (5 * i + j) = adj b i j) : ∀ (k i u : Nat), i < 5 → cq A base k i u = cnt b base k i u
  | 0, _, _, _ => rfl
  | k + 1, i, u, hi => by
    have c0 := cand (A := A) (u := u) (i := i) (j := 0) (r := cq A base k 0 (Nat.lor u 1)) (by decide)
    have c1 := cand (A := A) (u := u) (i := i) (j := 1) (r := cq A base k 1 (Nat.lor u 2)) (by decide)
    have c2 := cand (A := A) (u := u) (i := i) (j := 2) (r := cq A base k 2 (Nat.lor u 4)) (by decide)
    have c3 := cand (A := A) (u := u) (i := i) (j := 3) (r := cq A base k 3 (Nat.lor u 8)) (by decide)
    have c4 := cand (A := A) (u := u) (i := i) (j := 4) (r := cq A base k 4 (Nat.lor u 16)) (by decide)
    rw [hA i 0 hi (by decide), cq_cnt hA k 0 _ (by decide)] at c0
    rw [hA i 1 hi (by decide), cq_cnt hA k 1 _ (by decide)] at c1
    rw [hA i 2 hi (by decide), cq_cnt hA k 2 _ (by decide)] at c2
    rw [hA i 3 hi (by decide), cq_cnt hA k 3 _ (by decide)] at c3
    rw [hA i 4 hi (by decide), cq_cnt hA k 4 _ (by decide)] at c4
    have r5 : List.range 5 = [0, 1, 2, 3, 4] := rfl
    rw [cnt, r5]
    simp only [List.map_cons, List.map_nil, List.sum_cons, List.sum_nil]
    show Nat.add _ (Nat.add _ (Nat.add _ (Nat.add _ _))) = _
    rw [cq_cnt hA k 0 _ (by decide), cq_cnt hA k 1 _ (by decide), cq_cnt hA k 2 _ (by decide), cq_cnt hA k 3 _ (by decide), cq_cnt hA k 4 _ (by decide)]
    refine Eq.trans (congr (congrArg Nat.add c0) (congr (congrArg Nat.add c1) (congr (congrArg Nat.add c2) (congr (congrArg Nat.add c3) c4)))) ?_
    rfl

/-- how many i beats -/
noncomputable def scq (A i : Nat) : Nat := cq A (fun _ => 1) 1 i 0
theorem sc_cnt (b : Nat → Bool) (i : Nat) : sc b i = cnt b (fun _ => 1) 1 i 0 := by
  unfold sc
  rw [cnt]
  have : ∀ l : List Nat, (l.filter (adj b i)).length = (l.map fun j => if (adj b i j && !(Nat.testBit 0 j)) = true then cnt b (fun _ => 1) 0 j (0 ||| (1 <<< j)) else 0).sum := by
    intro l
    induction l with
    | nil => rfl
    | cons j r ih =>
      rw [List.filter_cons, List.map_cons, List.sum_cons, ← ih, Nat.zero_testBit]
      cases adj b i j
      · simp
      · simp [cnt]; omega
  exact this _
noncomputable def tri (n : Nat) : Nat := Nat.div (Nat.mul n (Nat.sub n 1)) 2
noncomputable def ringq (A : Nat) : Nat := Nat.add (Nat.sub 10 (Nat.add (tri (scq A 0)) (Nat.add (tri (scq A 1)) (Nat.add (tri (scq A 2)) (Nat.add (tri (scq A 3)) (tri (scq A 4))))))) (cq A (fun i => cond (Nat.beq (Nat.land (Nat.shiftRight A (Nat.mul 5 i)) 1) 0) 0 1) 4 0 1)
noncomputable def orderq (A : Nat) : Nat := Nat.add (cq A (fun _ => 1) 4 0 1) (Nat.add (cq A (fun _ => 1) 4 1 2) (Nat.add (cq A (fun _ => 1) 4 2 4) (Nat.add (cq A (fun _ => 1) 4 3 8) (cq A (fun _ => 1) 4 4 16))))
noncomputable def chkq (A : Nat) : Bool := Nat.beq (orderq A) (Nat.add (Nat.mul 2 (ringq A)) 1) && Nat.ble (ringq A) 7 && Nat.ble (Nat.add (tri (scq A 0)) (Nat.add (tri (scq A 1)) (Nat.add (tri (scq A 2)) (Nat.add (tri (scq A 3)) (tri (scq A 4)))))) 10
theorem chkq_0 : ∀ x3 x4 x5 x6 x7 x8 x9 : Bool, chkq (A5 false false false x3 x4 x5 x6 x7 x8 x9) = true := by decide +kernel
theorem chkq_1 : ∀ x3 x4 x5 x6 x7 x8 x9 : Bool, chkq (A5 true false false x3 x4 x5 x6 x7 x8 x9) = true := by decide +kernel
theorem chkq_2 : ∀ x3 x4 x5 x6 x7 x8 x9 : Bool, chkq (A5 false true false x3 x4 x5 x6 x7 x8 x9) = true := by decide +kernel
theorem chkq_3 : ∀ x3 x4 x5 x6 x7 x8 x9 : Bool, chkq (A5 true true false x3 x4 x5 x6 x7 x8 x9) = true := by decide +kernel
theorem chkq_4 : ∀ x3 x4 x5 x6 x7 x8 x9 : Bool, chkq (A5 false false true x3 x4 x5 x6 x7 x8 x9) = true := by decide +kernel
theorem chkq_5 : ∀ x3 x4 x5 x6 x7 x8 x9 : Bool, chkq (A5 true false true x3 x4 x5 x6 x7 x8 x9) = true := by decide +kernel
theorem chkq_6 : ∀ x3 x4 x5 x6 x7 x8 x9 : Bool, chkq (A5 false true true x3 x4 x5 x6 x7 x8 x9) = true := by decide +kernel
theorem chkq_7 : ∀ x3 x4 x5 x6 x7 x8 x9 : Bool, chkq (A5 true true true x3 x4 x5 x6 x7 x8 x9) = true := by decide +kernel
theorem chkq_all (x0 x1 x2 x3 x4 x5 x6 x7 x8 x9 : Bool) : chkq (A5 x0 x1 x2 x3 x4 x5 x6 x7 x8 x9) = true := by
  cases x0 <;> cases x1 <;> cases x2
  · exact chkq_0 ..
  · exact chkq_4 ..
  · exact chkq_2 ..
  · exact chkq_6 ..
  · exact chkq_1 ..
  · exact chkq_5 ..
  · exact chkq_3 ..
  · exact chkq_7 ..

/-- the odd rings by the plain lists -/
noncomputable def ringsOf (f : Nat → List Nat) : Nat := 10 - (tri (f 0).length + (tri (f 1).length + (tri (f 2).length + (tri (f 3).length + tri (f 4).length)))) + ((walkN f 4 [[97]]).filter fun w => decide (97 ∈ f (lastI w))).length
theorem redei (b : Nat → Bool) : (walkN (bt b) 4 start5).length = 2 * ringsOf (bt b) + 1 ∧ ringsOf (bt b) ≤ 7 ∧ tri (bt b 0).length + (tri (bt b 1).length + (tri (bt b 2).length + (tri (bt b 3).length + tri (bt b 4).length))) ≤ 10 := by
  have hc := chkq_all (b 0) (b 1) (b 2) (b 3) (b 4) (b 5) (b 6) (b 7) (b 8) (b 9)
  have hA : ∀ i j, i < 5 → j < 5 → (A5 (b 0) (b 1) (b 2) (b 3) (b 4) (b 5) (b 6) (b 7) (b 8) (b 9)).testBit (5 * i + j) = adj b i j := fun i j hi hj => (A5_adj _ _ _ _ _ _ _ _ _ _ hi hj).trans (adj_mk b i j)
  generalize A5 (b 0) (b 1) (b 2) (b 3) (b 4) (b 5) (b 6) (b 7) (b 8) (b 9) = A at hc hA
  have hs : ∀ i, i < 5 → (bt b i).length = scq A i := fun i hi => by
    rw [bt_beats b i hi]
    unfold beats
    rw [List.length_map]
    show sc b i = _
    rw [sc_cnt]
    exact (cq_cnt hA 1 i 0 hi).symm
  have ho : (walkN (bt b) 4 start5).length = orderq A := by
    have e : ∀ ws : List (List Nat), (walkN (bt b) 4 ws).length = ((walkN (bt b) 4 ws).filter fun _ => true).length := fun ws => by rw [List.filter_eq_self.mpr (fun _ _ => rfl)]
    have one : ∀ i u, i < 5 → (∀ j, j < 5 → u.testBit j = decide (97 + j ∈ [97 + i])) → ((walkN (bt b) 4 [[97 + i]]).filter fun _ => true).length = cq A (fun _ => 1) 4 i u := fun i u hi hu => by
      rw [walk_cnt b (fun _ => true) (fun _ => 1) (fun _ _ _ _ => rfl) 4 [97 + i] i u hi (by simp [lastI]) hu]
      exact (cq_cnt hA 4 i u hi).symm
    have h5 : start5 = [[97 + 0], [97 + 1], [97 + 2], [97 + 3], [97 + 4]] := rfl
    rw [e, walkN_sum, h5]
    simp only [List.map_cons, List.map_nil, List.sum_cons, List.sum_nil]
    rw [one 0 1 (by decide) (by decide), one 1 2 (by decide) (by decide), one 2 4 (by decide) (by decide), one 3 8 (by decide) (by decide), one 4 16 (by decide) (by decide)]
    unfold orderq
    simp only [Nat.add_eq, Nat.add_zero]
  have hr : ringsOf (bt b) = ringq A := by
    unfold ringsOf
    rw [hs 0 (by decide), hs 1 (by decide), hs 2 (by decide), hs 3 (by decide), hs 4 (by decide)]
    have : ((walkN (bt b) 4 [[97]]).filter fun w => decide (97 ∈ bt b (lastI w))).length = cq A (fun i => cond (Nat.beq (Nat.land (Nat.shiftRight A (Nat.mul 5 i)) 1) 0) 0 1) 4 0 1 := by
      rw [walk_cnt b (fun w => decide (97 ∈ bt b (lastI w))) (fun i => cond (Nat.beq (Nat.land (Nat.shiftRight A (Nat.mul 5 i)) 1) 0) 0 1) (fun w i hi hl => ?_) 4 [97] 0 1 (by decide) rfl (by decide)]
      · exact (cq_cnt hA 4 0 1 (by decide)).symm
      · rw [hl, bt_beats b i hi]
        have hm : (97 ∈ beats b i) ↔ adj b i 0 = true := by
          unfold beats
          rw [List.mem_map]
          constructor
          · rintro ⟨j, hj, e⟩
            have : j = 0 := by omega
            subst this
            exact (List.mem_filter.mp hj).2
          · intro h
            exact ⟨0, List.mem_filter.mpr ⟨by decide, h⟩, rfl⟩
        have c := cand (A := A) (u := 0) (i := i) (j := 0) (r := 1) (by decide)
        rw [hA i 0 hi (by decide), Nat.zero_testBit] at c
        have e0 : Nat.land (Nat.land (Nat.shiftRight A (Nat.mul 5 i)) (Nat.xor 0 31)) (2 ^ 0) = Nat.land (Nat.shiftRight A (Nat.mul 5 i)) 1 := by
          show ((A >>> (5 * i)) &&& (0 ^^^ 31)) &&& 1 = (A >>> (5 * i)) &&& 1
          rw [Nat.and_assoc]; rfl
        rw [e0] at c
        rw [c]
        cases h : adj b i 0 with
        | true => rw [decide_eq_true (hm.mpr h)]; rfl
        | false =>
          rw [decide_eq_false (fun q => by rw [hm.mp q] at h; cases h)]; rfl
    rw [this]
    unfold ringq
    simp only [Nat.add_eq, Nat.sub_eq]
  simp only [chkq, Bool.and_eq_true, Nat.ble_eq] at hc
  obtain ⟨⟨h1, h2⟩, h3⟩ := hc
  refine ⟨?_, ?_, ?_⟩
  · rw [ho, hr]; exact Nat.eq_of_beq_eq_true h1
  · rw [hr]; exact h2
  · rw [hs 0 (by decide), hs 1 (by decide), hs 2 (by decide), hs 3 (by decide), hs 4 (by decide)]; exact h3
end Ev
namespace Ev
open PySem

noncomputable def levCk (a b : List Nat) (m r : Int) : Bool := match d_lev [.str (T a), .str (T b), .int m] with
  | some (.int v) => v == r
  | _ => false
theorem lev_of {a b : List Nat} {m r : Int} (h : levCk a b m r = true) : d_lev [.str (T a), .str (T b), .int m] = some (.int r) := by
  unfold levCk at h
  split at h
  · rename_i v e
    rw [e, beq_iff_eq.mp h]
  · cases h
noncomputable def perms3 : List (List Nat) := [[97, 98, 99], [97, 99, 98], [98, 97, 99], [98, 99, 97], [99, 97, 98], [99, 98, 97]]
noncomputable def ins4 (w : List Nat) : List (List Nat) := (List.range 4).map fun k => w.take k ++ 100 :: w.drop k
noncomputable def perms4 : List (List Nat) := perms3.flatMap ins4
noncomputable def noD (o : List Nat) : List Nat := o.filter fun c => !(c == 100)
noncomputable def lev1 (w : List Nat) : Bool := perms4.all fun o => levCk w o 0 (if (noD o == w) = true then 2 else 1)
/-- the great letters of those who have beaten d -/
noncomputable def greatL (w : List Nat) (l : List Bool) : List Nat := List.zipWith (fun c b => if b = true then c - 32 else c) w l
noncomputable def priceL (l : List Bool) : Int := 2 + ((l.filter id).length : Int)
noncomputable def bools3 : List (List Bool) := [[false, false, false], [false, false, true], [false, true, false], [false, true, true], [true, false, false], [true, false, true], [true, true, false], [true, true, true]]
/-- may d stand at k -/
noncomputable def mayD (l : List Bool) : Nat → Bool
  | 0 => !(l.getD 0 false)
  | 1 => l.getD 0 false && !(l.getD 1 false)
  | 2 => l.getD 1 false && !(l.getD 2 false)
  | _ => l.getD 2 false
noncomputable def lev2 (w : List Nat) : Bool := bools3.all fun l => (List.range 4).all fun k => !(mayD l k) || levCk (greatL w l) (w.take k ++ 100 :: w.drop k) (priceL l) (priceL l)
theorem lev1_0 : lev1 [97, 98, 99] = true := by kernel_rfl
theorem lev1_1 : lev1 [97, 99, 98] = true := by kernel_rfl
theorem lev1_2 : lev1 [98, 97, 99] = true := by kernel_rfl
theorem lev1_3 : lev1 [98, 99, 97] = true := by kernel_rfl
theorem lev1_4 : lev1 [99, 97, 98] = true := by kernel_rfl
theorem lev1_5 : lev1 [99, 98, 97] = true := by kernel_rfl
theorem lev2_0 : lev2 [97, 98, 99] = true := by kernel_rfl
theorem lev2_1 : lev2 [97, 99, 98] = true := by kernel_rfl
theorem lev2_2 : lev2 [98, 97, 99] = true := by kernel_rfl
theorem lev2_3 : lev2 [98, 99, 97] = true := by kernel_rfl
theorem lev2_4 : lev2 [99, 97, 98] = true := by kernel_rfl
theorem lev2_5 : lev2 [99, 98, 97] = true := by kernel_rfl
theorem p3 {w : List Nat} (h : w ∈ perms3) : w = [97, 98, 99] ∨ w = [97, 99, 98] ∨ w = [98, 97, 99] ∨ w = [98, 99, 97] ∨ w = [99, 97, 98] ∨ w = [99, 98, 97] := by
  simpa [perms3] using h
theorem lev1_all {w : List Nat} (h : w ∈ perms3) : lev1 w = true := by
  rcases p3 h with rfl | rfl | rfl | rfl | rfl | rfl
  · exact lev1_0
  · exact lev1_1
  · exact lev1_2
  · exact lev1_3
  · exact lev1_4
  · exact lev1_5
theorem lev2_all {w : List Nat} (h : w ∈ perms3) : lev2 w = true := by
  rcases p3 h with rfl | rfl | rfl | rfl | rfl | rfl
  · exact lev2_0
  · exact lev2_1
  · exact lev2_2
  · exact lev2_3
  · exact lev2_4
  · exact lev2_5
/-- of a word of three: nothing to itself with d let in .. -/
theorem lev_zero {w o : List Nat} (hw : w ∈ perms3) (ho : o ∈ perms4) : d_lev [.str (T w), .str (T o), .int 0] = some (.int (if (noD o == w) = true then 2 else 1)) :=
  lev_of (List.all_eq_true.mp (lev1_all hw) o ho)
theorem lev_great {w : List Nat} {l : List Bool} {k : Nat} (hw : w ∈ perms3) (hl : l ∈ bools3) (hk : k < 4) (hm : mayD l k = true) : d_lev [.str (T (greatL w l)), .str (T (w.take k ++ 100 :: w.drop k)), .int (priceL l)] = some (.int (priceL l)) := by
  have h := List.all_eq_true.mp (List.all_eq_true.mp (lev2_all hw) l hl) k (List.mem_range.mpr hk)
  rw [hm] at h
  exact lev_of (by simpa using h)

noncomputable def dash (n : Nat) : List Nat := List.replicate n 45
noncomputable def changedL (o : List Nat) : List Nat := o.map fun c => if c = 100 then 45 else c
noncomputable def sizedL (o : List Nat) : List Nat := o.map fun c => if c = 100 then 68 else c
noncomputable def lev3 (o : List Nat) : Bool := levCk o o 0 0 && levCk o (sizedL o) 1 1 && levCk (changedL o) o 0 1
theorem lev3_0 : (ins4 [97, 98, 99]).all lev3 = true := by kernel_rfl
theorem lev3_1 : (ins4 [97, 99, 98]).all lev3 = true := by kernel_rfl
theorem lev3_2 : (ins4 [98, 97, 99]).all lev3 = true := by kernel_rfl
theorem lev3_3 : (ins4 [98, 99, 97]).all lev3 = true := by kernel_rfl
theorem lev3_4 : (ins4 [99, 97, 98]).all lev3 = true := by kernel_rfl
theorem lev3_5 : (ins4 [99, 98, 97]).all lev3 = true := by kernel_rfl
theorem p4 {o : List Nat} (h : o ∈ perms4) : ∃ w ∈ perms3, o ∈ ins4 w := by simpa [perms4] using h
theorem lev3_all {o : List Nat} (h : o ∈ perms4) : lev3 o = true := by
  obtain ⟨w, hw, ho⟩ := p4 h
  rcases p3 hw with rfl | rfl | rfl | rfl | rfl | rfl
  · exact List.all_eq_true.mp lev3_0 o ho
  · exact List.all_eq_true.mp lev3_1 o ho
  · exact List.all_eq_true.mp lev3_2 o ho
  · exact List.all_eq_true.mp lev3_3 o ho
  · exact List.all_eq_true.mp lev3_4 o ho
  · exact List.all_eq_true.mp lev3_5 o ho
noncomputable def lev4 (w : List Nat) : Bool := levCk (w ++ w) w 0 6 && levCk w (w.drop 1 ++ w.take 1) 4 4 && levCk w (w.drop 2 ++ w.take 2) 4 4 && levCk w (45 :: (w.take 1 ++ 45 :: (w.drop 1 ++ [45]))) 6 6 && levCk (dash 41) w 99 100 && levCk w (dash 41) 99 100
theorem lev4_0 : lev4 [97, 98, 99] = true := by kernel_rfl
theorem lev4_1 : lev4 [97, 99, 98] = true := by kernel_rfl
theorem lev4_2 : lev4 [98, 97, 99] = true := by kernel_rfl
theorem lev4_3 : lev4 [98, 99, 97] = true := by kernel_rfl
theorem lev4_4 : lev4 [99, 97, 98] = true := by kernel_rfl
theorem lev4_5 : lev4 [99, 98, 97] = true := by kernel_rfl
theorem lev4_all {w : List Nat} (h : w ∈ perms3) : lev4 w = true := by
  rcases p3 h with rfl | rfl | rfl | rfl | rfl | rfl
  · exact lev4_0
  · exact lev4_1
  · exact lev4_2
  · exact lev4_3
  · exact lev4_4
  · exact lev4_5
theorem lev5_97 : (levCk [97] (dash 40) 99 80 && levCk (dash 40) [97] 99 80) = true := by kernel_rfl
theorem lev5_98 : (levCk [98] (dash 40) 99 80 && levCk (dash 40) [98] 99 80) = true := by kernel_rfl
theorem lev5_99 : (levCk [99] (dash 40) 99 80 && levCk (dash 40) [99] 99 80) = true := by kernel_rfl
end Ev
namespace Ev
open PySem PySem.StrLaws PySem.Builtin PySem.Builtin.Str

noncomputable def FV : Nat → List D → Option D := tabF [(16, d_sub)]
noncomputable def rhoV (a b : List Nat) (k : Nat) : Rho := [(0, .str (T a)), (1, .str (T b)), (2, .int 2), (14, .int 2), (15, .int 40), (3, .int (k : Int))]
theorem evT_E {F : Nat → List D → Option D} {n : Nat} {ρ : Rho} {a : PE} {lo hi st : Option PE} {d : D} {c : Bool} (h : evE F n ρ (.slice a lo hi st) = some d) (ht : truthD d = some c) : evT F (n + 1) ρ (.slice a lo hi st) = some c := ob_i (f := truthD) h ht
theorem pre_turn {p a b : List Nat} {x y : Nat} {k fu : Nat} (hk : k ≤ p.length) (hl : p.length ≤ 100) (hxy : x ≠ y) :
    (k < p.length → exO FV 12 (fu + 3) (rhoV (p ++ x :: a) (p ++ y :: b) k) ps_levenshtein_distance_2 = exO FV 12 (fu + 2) (rhoV (p ++ x :: a) (p ++ y :: b) (k + 1)) ps_levenshtein_distance_2) ∧
    (k = p.length → exO FV 12 (fu + 3) (rhoV (p ++ x :: a) (p ++ y :: b) k) ps_levenshtein_distance_2 = some (.next, rhoV (p ++ x :: a) (p ++ y :: b) k)) := by
  have tr : ∀ (l : List Nat) (c : Nat) (r : List Nat), k ≤ l.length → truthD (.str (T ((l ++ c :: r).drop k))) = some true := fun l c r h => by
    have : (T ((l ++ c :: r).drop k)).length ≠ 0 := by rw [T_len, List.length_drop, List.length_append, List.length_cons]; omega
    simp only [truthD, Option.some.injEq, bne_iff_ne]; exact this
  have s0 : evT FV 11 (rhoV (p ++ x :: a) (p ++ y :: b) k) (.slice (.own 0) (some (.var 3)) none none) = some true :=
    evT_E (ev_slice (u := .str (T (p ++ x :: a))) (l := some (k : Int)) (h := none) (k := none) (ev_own rfl) (part_int (ev_var rfl)) rfl rfl (congrArg (fun x => some (PyData.str x)) (sl_from _ k))) (tr p x a hk)
  have s1 : evT FV 11 (rhoV (p ++ x :: a) (p ++ y :: b) k) (.slice (.own 1) (some (.var 3)) none none) = some true :=
    evT_E (ev_slice (u := .str (T (p ++ y :: b))) (l := some (k : Int)) (h := none) (k := none) (ev_own rfl) (part_int (ev_var rfl)) rfl rfl (congrArg (fun x => some (PyData.str x)) (sl_from _ k))) (tr p y b hk)
  constructor
  · intro hlt
    have hi : ∀ c (r : List Nat), (p ++ c :: r)[k]? = some p[k] := fun c r => by rw [List.getElem?_append_left hlt, List.getElem?_eq_getElem hlt]
    refine (ex_whlN (evT_all (allO_t s0 (allO_t s1 (allO_t (evT_cmp (u := .str (T [p[k]])) (v := .str (T [p[k]])) (ev_item (u := .str (T (p ++ x :: a))) (v := .int (k : Int)) (ev_own rfl) (ev_var rfl) (item_T (hi x a) (by omega))) (ev_item (u := .str (T (p ++ y :: b))) (v := .int (k : Int)) (ev_own rfl) (ev_var rfl) (item_T (hi y b) (by omega))) (cmp_same rfl)) rfl)))) ?_)
    exact (exS_next (ex_aug (u := .int (k : Int)) (v := .int 1) (d := .int ((k + 1 : Nat) : Int)) rfl ev_lit (by simp [augD, augI, asInt]))).trans exS_nil
  · intro he
    have hi : ∀ c (r : List Nat), (p ++ c :: r)[k]? = some c := fun c r => by rw [he]; simp
    exact ex_whlF (evT_all (allO_t s0 (allO_t s1 (allO_f (evT_cmp (u := .str (T [x])) (v := .str (T [y])) (ev_item (u := .str (T (p ++ x :: a))) (v := .int (k : Int)) (ev_own rfl) (ev_var rfl) (item_T (hi x a) (by omega))) (ev_item (u := .str (T (p ++ y :: b))) (v := .int (k : Int)) (ev_own rfl) (ev_var rfl) (item_T (hi y b) (by omega))) (cmp_eq_T (by simpa using hxy)))))))
theorem pre_loop {p a b : List Nat} {x y : Nat} (hl : p.length ≤ 100) (hxy : x ≠ y) : ∀ (j k fu : Nat), k + j = p.length → exO FV 12 (j + fu + 3) (rhoV (p ++ x :: a) (p ++ y :: b) k) ps_levenshtein_distance_2 = some (.next, rhoV (p ++ x :: a) (p ++ y :: b) p.length)
  | 0, k, fu, h => by
    have hk : k = p.length := by omega
    rw [(pre_turn (a := a) (b := b) (x := x) (y := y) (fu := 0 + fu) (Nat.le_of_eq hk) hl hxy).2 hk, hk]
  | j + 1, k, fu, h => by
    have := (pre_turn (a := a) (b := b) (x := x) (y := y) (fu := j + fu + 1) (k := k) (p := p) (by omega) hl hxy).1 (by omega)
    rw [show j + 1 + fu + 3 = (j + fu + 1) + 3 from by omega, this]
    exact pre_loop hl hxy j (k + 1) fu (by omega)
/-- behind a common beginning -/
theorem lev_pre {p a b : List Nat} {x y : Nat} (hl : p.length ≤ 60) (hxy : x ≠ y) :
    exS FV 12 100 (rhoZ 0 [.str (T (p ++ x :: a)), .str (T (p ++ y :: b)), .int 2] ++ gl_levenshtein_distance) ps_levenshtein_distance = exS FV 12 95 [(0, .str (T (x :: a))), (1, .str (T (y :: b))), (2, .int 2), (14, .int 2), (15, .int 40), (3, .int (p.length : Int))] (ps_levenshtein_distance.drop 5) := by
  show exS FV 12 100 [(0, .str (T (p ++ x :: a))), (1, .str (T (p ++ y :: b))), (2, .int 2), (14, .int 2), (15, .int 40)] (ps_levenshtein_distance_0 :: ps_levenshtein_distance_1 :: ps_levenshtein_distance_2 :: ps_levenshtein_distance.drop 3) = _
  have hne : p ++ x :: a ≠ p ++ y :: b := fun q => by
    have := List.append_cancel_left q
    simp only [List.cons.injEq] at this
    exact hxy this.1
  refine (exS_next (ex_iffF (evT_cmp (u := .str (T (p ++ x :: a))) (v := .str (T (p ++ y :: b))) (ev_own rfl) (ev_own rfl) (cmp_eq_T hne)))).trans ?_
  refine (exS_next (ex_set ev_lit)).trans ?_
  obtain ⟨fu, hfu⟩ : ∃ fu, 97 = p.length + fu + 3 := ⟨94 - p.length, by omega⟩
  have := pre_loop (p := p) (a := a) (b := b) (x := x) (y := y) (by omega) hxy p.length 0 fu (by omega)
  rw [← hfu] at this
  refine (exS_next this).trans ?_
  have d1 : ∀ (c : Nat) (r : List Nat), (p ++ c :: r).drop p.length = c :: r := fun c r => by simp
  show exS FV 12 97 (rhoV _ _ _) (ps_levenshtein_distance_3 :: ps_levenshtein_distance_4 :: ps_levenshtein_distance.drop 5) = _
  refine (exS_next (ex_set (d := .str (T (x :: a))) (ev_slice (u := .str (T (p ++ x :: a))) (l := some (p.length : Int)) (h := none) (k := none) (ev_own rfl) (part_int (ev_var rfl)) rfl rfl (congrArg (fun x => some (PyData.str x)) ((sl_from _ _).trans (by rw [d1 x a])))))).trans ?_
  exact exS_next (ex_set (d := .str (T (y :: b))) (ev_slice (u := .str (T (p ++ y :: b))) (l := some (p.length : Int)) (h := none) (k := none) (ev_own rfl) (part_int (ev_var rfl)) rfl rfl (congrArg (fun x => some (PyData.str x)) ((sl_from _ _).trans (by rw [d1 y b])))))

/-- the rest: behind the beginning -/
noncomputable def restCk (w : List Nat) (k : Nat) : Bool := match exS FV 12 95 [(0, .str (T (45 :: w.drop k))), (1, .str (T (100 :: w.drop k))), (2, .int 2), (14, .int 2), (15, .int 40), (3, .int ((41 + k : Nat) : Int))] (ps_levenshtein_distance.drop 5) with
  | some (.ret (.int 2), _) => true
  | _ => false
noncomputable def lev6 (w : List Nat) : Bool := (List.range 4).all (restCk w)
theorem lev6_0 : lev6 [97, 98, 99] = true := by kernel_rfl
theorem lev6_1 : lev6 [97, 99, 98] = true := by kernel_rfl
theorem lev6_2 : lev6 [98, 97, 99] = true := by kernel_rfl
theorem lev6_3 : lev6 [98, 99, 97] = true := by kernel_rfl
theorem lev6_4 : lev6 [99, 97, 98] = true := by kernel_rfl
theorem lev6_5 : lev6 [99, 98, 97] = true := by kernel_rfl
theorem lev6_all {w : List Nat} (h : w ∈ perms3) : lev6 w = true := by
  rcases p3 h with rfl | rfl | rfl | rfl | rfl | rfl
  · exact lev6_0
  · exact lev6_1
  · exact lev6_2
  · exact lev6_3
  · exact lev6_4
  · exact lev6_5
theorem lev_long {o : List Nat} (ho : o ∈ perms4) : d_lev [.str (T (dash 41 ++ changedL o)), .str (T (dash 41 ++ o)), .int 2] = some (.int 2) := by
  obtain ⟨w, hw, hi⟩ := p4 ho
  simp only [ins4, List.mem_map, List.mem_range] at hi
  obtain ⟨k, hk, rfl⟩ := hi
  have hc : ∀ l : List Nat, (∀ c ∈ l, c ≠ 100) → changedL l = l := fun l h => by
    unfold changedL
    conv => rhs; rw [← List.map_id l]
    exact List.map_congr_left fun c hc => by rw [if_neg (h c hc)]; rfl
  have hw3 : w.length = 3 ∧ ∀ c ∈ w, c ≠ 100 := by
    rcases p3 hw with rfl | rfl | rfl | rfl | rfl | rfl <;> decide
  have e : changedL (w.take k ++ 100 :: w.drop k) = w.take k ++ 45 :: w.drop k := by
    have h1 := hc (w.take k) fun c h => hw3.2 c (List.mem_of_mem_take h)
    have h2 := hc (w.drop k) fun c h => hw3.2 c (List.mem_of_mem_drop h)
    unfold changedL at h1 h2 ⊢
    rw [List.map_append, List.map_cons, h1, h2, if_pos rfl]
  have h := List.all_eq_true.mp (lev6_all hw) k (List.mem_range.mpr hk)
  unfold restCk at h
  have hlen : (dash 41 ++ w.take k).length = 41 + k := by
    simp only [List.length_append, dash, List.length_replicate, List.length_take]; omega
  have hp := lev_pre (p := dash 41 ++ w.take k) (a := w.drop k) (b := w.drop k) (x := 45) (y := 100) (by omega) (by decide)
  rw [hlen] at hp
  unfold d_lev callD
  rw [e, if_pos (show ([.str (T (dash 41 ++ (w.take k ++ 45 :: w.drop k))), .str (T (dash 41 ++ (w.take k ++ 100 :: w.drop k))), .int 2] : List D).length = pr_levenshtein_distance.length from rfl)]
  rw [← List.append_assoc, ← List.append_assoc]
  show (match exS FV 12 100 _ ps_levenshtein_distance with | some (.ret d, _) => some d | _ => none) = _
  rw [hp]
  split at h
  · rename_i ρ' e2
    rw [e2]
  · cases h
end Ev
namespace Ev
open PySem

noncomputable def noE (w : List Nat) : Bool := !(w.contains 101)
noncomputable def cutE (f : Nat → List Nat) : Nat → List Nat := fun i => (f i).filter fun c => !(c == 101)
theorem walk1_noE (f : Nat → List Nat) : ∀ ws : List (List Nat), (walk1 f ws).filter noE = walk1 (cutE f) (ws.filter noE)
  | [] => rfl
  | w :: r => by
    have ih := walk1_noE f r
    have e : walk1 f (w :: r) = walk1 f [w] ++ walk1 f r := walk1_app f [w] r
    rw [e, List.filter_append, ih, List.filter_cons]
    have one : ∀ l : List Nat, ((l.filter fun c => !decide (c ∈ w)).map fun c => w ++ [c]).filter noE = if noE w = true then ((l.filter fun c => !(c == 101)).filter fun c => !decide (c ∈ w)).map (fun c => w ++ [c]) else [] := by
      intro l
      induction l with
      | nil => simp
      | cons c l ih =>
        have hn : noE (w ++ [c]) = (noE w && !(c == 101)) := by
          simp only [noE, List.contains_eq_mem, List.mem_append, List.mem_singleton, Bool.decide_or, Bool.not_or]
          congr 1
          by_cases h1 : c = 101
          · subst h1; rfl
          · have h2 : ¬ (101 = c) := fun q => h1 q.symm
            rw [decide_eq_false h2, beq_eq_false_iff_ne.mpr h1]
        by_cases hw : c ∈ w
        · rw [List.filter_cons, if_neg (by simpa using hw)]
          rw [ih]
          split
          · rw [List.filter_cons]
            split
            · rw [List.filter_cons, if_neg (by simpa using hw)]
            · rfl
          · rfl
        · rw [List.filter_cons, if_pos (by simpa using hw), List.map_cons, List.filter_cons, ih, hn]
          cases noE w with
          | false => simp
          | true =>
            simp only [Bool.true_and, if_true]
            rw [List.filter_cons (p := fun c => !(c == 101))]
            split
            · rw [List.filter_cons, if_pos (by simpa using hw), List.map_cons]
            · rfl
    have h1 : (walk1 f [w]).filter noE = if noE w = true then walk1 (cutE f) [w] else [] := by
      simp only [walk1, List.flatMap_cons, List.flatMap_nil, List.append_nil]
      exact one _
    rw [h1]
    split
    · rw [← walk1_app]; rfl
    · rfl
theorem walkN_noE (f : Nat → List Nat) : ∀ (k : Nat) (ws : List (List Nat)), (walkN f k ws).filter noE = walkN (cutE f) k (ws.filter noE)
  | 0, _ => rfl
  | k + 1, ws => by simp only [walkN, walkN_noE f k, walk1_noE]
theorem walk1_congr {f g : Nat → List Nat} (h : ∀ i, i < 4 → f i = g i) (hf : ∀ i, i < 4 → ∀ c ∈ f i, ∃ j, j < 4 ∧ c = 97 + j) : ∀ {ws : List (List Nat)}, (∀ w ∈ ws, lastI w < 4) → walk1 f ws = walk1 g ws ∧ ∀ w ∈ walk1 f ws, lastI w < 4 := by
  intro ws hw
  refine ⟨?_, fun w h' => ?_⟩
  · unfold walk1
    induction ws with
    | nil => rfl
    | cons w r ih =>
      rw [List.flatMap_cons, List.flatMap_cons, ih fun x hx => hw x (.tail _ hx), h _ (hw w (.head _))]
  · simp only [walk1, List.mem_flatMap, List.mem_map, List.mem_filter] at h'
    obtain ⟨v, hv, c, ⟨hc, _⟩, rfl⟩ := h'
    obtain ⟨j, hj, rfl⟩ := hf _ (hw v hv) c hc
    simp [lastI]; exact hj
theorem walkN_congr {f g : Nat → List Nat} (h : ∀ i, i < 4 → f i = g i) (hf : ∀ i, i < 4 → ∀ c ∈ f i, ∃ j, j < 4 ∧ c = 97 + j) : ∀ (k : Nat) {ws : List (List Nat)}, (∀ w ∈ ws, lastI w < 4) → walkN f k ws = walkN g k ws
  | 0, _, _ => rfl
  | k + 1, ws, hw => by
    obtain ⟨e1, e2⟩ := walk1_congr h hf hw
    simp only [walkN]
    rw [← e1]
    exact walkN_congr h hf k e2

/-- the first four alone -/
noncomputable def g4 (x0 x1 x2 x4 x5 x7 : Bool) : Nat → List Nat := fun i => ((List.range 4).filter (adj (mkB x0 x1 x2 false x4 x5 false x7 false false) i)).map (97 + ·)
theorem cut_g4 (b : Nat → Bool) : ∀ i, i < 4 → cutE (bt b) i = g4 (b 0) (b 1) (b 2) (b 4) (b 5) (b 7) i := by
  intro i hi
  unfold cutE g4
  rw [bt_beats b i (by omega)]
  unfold beats
  have r5 : List.range 5 = List.range 4 ++ [4] := rfl
  rw [r5, List.filter_append, List.map_append, List.filter_append]
  have h4 : ((([4] : List Nat).filter (adj b i)).map (97 + ·)).filter (fun c => !(c == 101)) = [] := by
    rw [List.filter_cons]
    split <;> rfl
  rw [h4, List.append_nil, List.filter_eq_self.mpr]
  · congr 1
    refine List.filter_congr fun j hj => ?_
    have hj := List.mem_range.mp hj
    have i4 : i = 0 ∨ i = 1 ∨ i = 2 ∨ i = 3 := by omega
    have j4 : j = 0 ∨ j = 1 ∨ j = 2 ∨ j = 3 := by omega
    rcases i4 with rfl | rfl | rfl | rfl <;> rcases j4 with rfl | rfl | rfl | rfl <;> rfl
  · intro c hc
    obtain ⟨j, hj, rfl⟩ := List.mem_map.mp hc
    have := List.mem_range.mp (List.mem_filter.mp hj).1
    simp; omega

noncomputable def start4 : List (List Nat) := [[97], [98], [99], [100]]
noncomputable def lostL (f : Nat → List Nat) (w : List Nat) : List Bool := w.map fun c => (f (c - 97)).contains 100
noncomputable def noDw (w : List Nat) : Bool := !(w.contains 100)
/-- how often two neighbours part -/
noncomputable def turns (l : List Bool) : Nat := ((List.range 2).filter fun k => l.getD (k + 1) false && !(l.getD k false)).length
noncomputable def chk2 (g : Nat → List Nat) : Bool :=
  let O := walkN g 3 start4
  let W := (walkN g 2 start4).filter noDw
  !W.isEmpty && !O.isEmpty && W.all (fun w => perms3.contains w) && O.all (fun o => perms4.contains o) && decide (O.length ≤ 24) && decide (W.length ≤ 6) &&
  W.all fun w => let l := lostL g w
    let G := O.filter fun o => noD o == w
    bools3.contains l && (G.length == 1 + turns l) && G.all fun o => (List.range 4).any fun k => mayD l k && (o == w.take k ++ 100 :: w.drop k)
theorem chk2_0 : ∀ x2 x4 x5 x7 : Bool, chk2 (g4 false false x2 x4 x5 x7) = true := by decide +kernel
theorem chk2_1 : ∀ x2 x4 x5 x7 : Bool, chk2 (g4 false true x2 x4 x5 x7) = true := by decide +kernel
theorem chk2_2 : ∀ x2 x4 x5 x7 : Bool, chk2 (g4 true false x2 x4 x5 x7) = true := by decide +kernel
theorem chk2_3 : ∀ x2 x4 x5 x7 : Bool, chk2 (g4 true true x2 x4 x5 x7) = true := by decide +kernel
theorem chk2_all (x0 x1 x2 x4 x5 x7 : Bool) : chk2 (g4 x0 x1 x2 x4 x5 x7) = true := by
  cases x0 <;> cases x1
  · exact chk2_0 ..
  · exact chk2_1 ..
  · exact chk2_2 ..
  · exact chk2_3 ..
theorem start_noE : start5.filter noE = start4 := rfl
theorem walks_noE (b : Nat → Bool) (k : Nat) : (walkN (bt b) k start5).filter noE = walkN (g4 (b 0) (b 1) (b 2) (b 4) (b 5) (b 7)) k start4 := by
  rw [walkN_noE, start_noE]
  refine walkN_congr (cut_g4 b) (fun i hi c hc => ?_) k ?_
  · rw [cut_g4 b i hi] at hc
    unfold g4 at hc
    obtain ⟨j, hj, rfl⟩ := List.mem_map.mp hc
    exact ⟨j, List.mem_range.mp (List.mem_filter.mp hj).1, rfl⟩
  · intro w hw
    simp only [start4, List.mem_cons, List.not_mem_nil, or_false] at hw
    rcases hw with rfl | rfl | rfl | rfl <;> decide
/-- who beats d, of a word's players -/
theorem beats_d (b : Nat → Bool) {i : Nat} (hi : i < 4) : decide (100 ∈ bt b i) = (g4 (b 0) (b 1) (b 2) (b 4) (b 5) (b 7) i).contains 100 := by
  rw [← cut_g4 b i hi, List.contains_eq_mem]
  unfold cutE
  simp only [List.mem_filter, decide_eq_decide]
  simp
/-- threes without d and e -/
noncomputable def thr (b : Nat → Bool) : List (List Nat) := (walkN (bt b) 2 start5).filter fun w => noDw w && noE w
/-- fours without e -/
noncomputable def fou (b : Nat → Bool) : List (List Nat) := (walkN (bt b) 3 start5).filter noE
noncomputable def lostB (b : Nat → Bool) (w : List Nat) : List Bool := w.map fun c => decide (100 ∈ bt b (c - 97))
structure Games (b : Nat → Bool) : Prop where
  t0 : thr b ≠ []
  f0 : fou b ≠ []
  tp : ∀ w ∈ thr b, w ∈ perms3
  fp : ∀ o ∈ fou b, o ∈ perms4
  fl : (fou b).length ≤ 24
  tl : (thr b).length ≤ 6
  lo : ∀ w ∈ thr b, lostB b w ∈ bools3
  gl : ∀ w ∈ thr b, ((fou b).filter fun o => noD o == w).length = 1 + turns (lostB b w)
  gm : ∀ w ∈ thr b, ∀ o ∈ fou b, noD o = w → ∃ k, k < 4 ∧ mayD (lostB b w) k = true ∧ o = w.take k ++ 100 :: w.drop k
theorem games (b : Nat → Bool) : Games b := by
  have h := chk2_all (b 0) (b 1) (b 2) (b 4) (b 5) (b 7)
  have ef : walkN (g4 (b 0) (b 1) (b 2) (b 4) (b 5) (b 7)) 3 start4 = fou b := (walks_noE b 3).symm
  have et : (walkN (g4 (b 0) (b 1) (b 2) (b 4) (b 5) (b 7)) 2 start4).filter noDw = thr b := by
    rw [← walks_noE b 2, List.filter_filter]; rfl
  unfold chk2 at h
  simp only [ef, et] at h
  simp only [Bool.and_eq_true, Bool.not_eq_true', decide_eq_true_eq, List.all_eq_true, List.isEmpty_eq_false_iff, beq_iff_eq, List.contains_eq_mem, List.mem_filter, List.any_eq_true, List.mem_range] at h
  obtain ⟨⟨⟨⟨⟨⟨h1, h2⟩, h3⟩, h4⟩, h5⟩, h6⟩, h7⟩ := h
  have el : ∀ w ∈ thr b, lostL (g4 (b 0) (b 1) (b 2) (b 4) (b 5) (b 7)) w = lostB b w := fun w hw => by
    unfold lostL lostB
    refine List.map_congr_left fun c hc => ?_
    rw [beats_d b]
    rcases p3 (h3 w hw) with rfl | rfl | rfl | rfl | rfl | rfl <;> simp at hc <;> omega
  refine ⟨h1, h2, h3, h4, h5, h6, fun w hw => ?_, fun w hw => ?_, fun w hw o ho e => ?_⟩
  · rw [← el w hw]; exact (h7 w hw).1.1
  · rw [← el w hw]; exact (h7 w hw).1.2
  · rw [← el w hw]
    obtain ⟨k, hk, hm, e'⟩ := (h7 w hw).2 o ⟨ho, e⟩
    exact ⟨k, hk, hm, e'⟩
end Ev
namespace Ev
open PySem PySem.StrLaws PySem.Builtin PySem.Builtin.Str

section
variable {F : Nat → List D → Option D} {N n : Nat} {ρ ρ' : Rho}
theorem lk_upd : ∀ (ρ : Rho) (i : Nat) (d : D) (j : Nat), (upd ρ i d).lookup j = ((i, d) :: ρ).lookup j
  | [], i, d, j => rfl
  | (k, e) :: r, i, d, j => by
    unfold upd
    split
    · rename_i h
      subst h
      simp only [List.lookup_cons]
      cases hb : j == k <;> simp [hb]
    · rename_i h
      have ih := lk_upd r i d j
      simp only [List.lookup_cons] at ih ⊢
      rw [ih]
      cases hb : j == k with
      | false => rfl
      | true =>
        have : j = k := by simpa using hb
        subst this
        have : (j == i) = false := by simpa using h
        simp [this]
/-- what the map holds, the newest first -/
noncomputable def Lkk (ρ L : Rho) : Prop := ∀ j, ρ.lookup j = L.lookup j
theorem Lkk.upd {L : Rho} (h : Lkk ρ L) (i : Nat) (d : D) : Lkk (upd ρ i d) ((i, d) :: L) := fun j => by
  rw [lk_upd, List.lookup_cons, List.lookup_cons, h j]

theorem genO_A {α : Type} {ev : Rho → PE → Option D} {tst : Rho → PE → Option Bool} {it : Rho → PE → Option (List D)} {elt : PE} {x : Nat} {iter : PE} {ifs : List PE} {ls : List α} {f : α → D} {g : α → Option D}
    (hx : ρ.lookup x = none) (hi : it ρ iter = some (ls.map f)) (h : ∀ a ∈ ls, condO (allO (tst ((x, f a) :: ρ)) ifs) (genO ev tst it elt [] ((x, f a) :: ρ)) = some (g a).toList) :
    genO ev tst it elt [(x, iter, ifs)] ρ = some (ls.filterMap g) := by
  have e : mapO (fun d => condO (allO (tst ((x, d) :: ρ)) ifs) (genO ev tst it elt [] ((x, d) :: ρ))) (ls.map f) = some (ls.map fun a => (g a).toList) := by
    clear hi
    induction ls with
    | nil => rfl
    | cons a r ih => exact mapO_cons' (h a (.head _)) (ih fun b hb => h b (.tail _ hb))
  refine gd_i (by rw [hx]; rfl) (ob_i hi (ob_i e (congrArg some ?_)))
  clear h hi e
  induction ls with
  | nil => rfl
  | cons d r ih =>
    simp only [List.map_cons, List.flatten_cons, List.filterMap_cons, ih]
    cases g d <;> rfl
theorem ev_compA {α : Type} {elt : PE} {x : Nat} {iter : PE} {ls : List α} {f g : α → D} (hx : ρ.lookup x = none) (hi : evI F n ρ iter = some (ls.map f)) (h : ∀ a ∈ ls, evE F n ((x, f a) :: ρ) elt = some (g a)) (hl : ls.length ≤ 16777215) :
    evE F (n + 1) ρ (.comp elt [(x, iter, [])]) = some (.list (ls.map g)) := by
  have e : genO (evE F n) (evT F n) (evI F n) elt [(x, iter, [])] ρ = some (ls.filterMap fun a => some (g a)) := genO_A hx hi fun a ha => ob_i (a := true) rfl (ob_i (h a ha) rfl)
  rw [show (ls.filterMap fun a => some (g a)) = ls.map g from by rw [← List.filterMap_eq_map]; rfl] at e
  exact gd_i (by rw [List.any_cons, hx]; rfl) (ob_i e (gd_i (decide_eq_true (by rw [List.length_map]; exact hl)) rfl))
theorem ev_compFA {α : Type} {elt t : PE} {x : Nat} {iter : PE} {ls : List α} {f g : α → D} {b : α → Bool} (hx : ρ.lookup x = none) (hi : evI F n ρ iter = some (ls.map f)) (ht : ∀ a ∈ ls, evT F n ((x, f a) :: ρ) t = some (b a)) (h : ∀ a ∈ ls, b a = true → evE F n ((x, f a) :: ρ) elt = some (g a)) (hl : ls.length ≤ 16777215) :
    evE F (n + 1) ρ (.comp elt [(x, iter, [t])]) = some (.list ((ls.filter b).map g)) := by
  have e : genO (evE F n) (evT F n) (evI F n) elt [(x, iter, [t])] ρ = some (ls.filterMap fun a => if b a = true then some (g a) else none) := genO_A hx hi fun a ha => by
    refine ob_i (a := b a) (ob_i (ht a ha) (by cases b a <;> rfl)) ?_
    cases hb : b a with
    | true => exact ob_i (h a ha hb) rfl
    | false => rfl
  have e2 : (ls.filterMap fun d => if b d = true then some (g d) else none) = (ls.filter b).map g := by
    clear e ht h hl hi
    induction ls with
    | nil => rfl
    | cons d r ih =>
      simp only [List.filterMap_cons, List.filter_cons]
      cases b d <;> simp [ih]
  rw [e2] at e
  exact gd_i (by rw [List.any_cons, hx]; rfl) (ob_i e (gd_i (decide_eq_true (by rw [List.length_map]; exact Nat.le_trans (List.length_filter_le _ _) hl)) rfl))
theorem ev_compR {k : Nat} {x : Nat} {elt : PE} {g : Nat → D} (hr : rangeD [.int (k : Int)] = some ((List.range k).map fun (i : Nat) => (.int (i : Int) : D))) (hk : k ≤ 100) (hx : ρ.lookup x = none) (h : ∀ i, i < k → evE F (n + 2) ((x, .int (i : Int)) :: ρ) elt = some (g i)) :
    evE F (n + 3) ρ (.comp elt [(x, .range [.lit (.int (k : Int))], [])]) = some (.list ((List.range k).map g)) :=
  ev_compA hx (evI_range (ds := [.int (k : Int)]) (mapO_cons' ev_lit rfl) hr) (fun i hi => h i (List.mem_range.mp hi)) (by simp; omega)
theorem ev_compRF {k : Nat} {x : Nat} {elt t : PE} {b : Nat → Bool} {g : Nat → D} (hr : rangeD [.int (k : Int)] = some ((List.range k).map fun (i : Nat) => (.int (i : Int) : D))) (hk : k ≤ 100) (hx : ρ.lookup x = none) (ht : ∀ i, i < k → evT F (n + 2) ((x, .int (i : Int)) :: ρ) t = some (b i)) (h : ∀ i, i < k → evE F (n + 2) ((x, .int (i : Int)) :: ρ) elt = some (g i)) :
    evE F (n + 3) ρ (.comp elt [(x, .range [.lit (.int (k : Int))], [t])]) = some (.list (((List.range k).filter b).map g)) :=
  ev_compFA hx (evI_range (ds := [.int (k : Int)]) (mapO_cons' ev_lit rfl) hr) (fun i hi => ht i (List.mem_range.mp hi)) (fun i hi _ => h i (List.mem_range.mp hi)) (by simp; omega)
theorem rg2 : rangeD [.int ((2 : Nat) : Int)] = some ((List.range 2).map fun (i : Nat) => (.int (i : Int) : D)) := by kernel_rfl
theorem rg3 : rangeD [.int ((3 : Nat) : Int)] = some ((List.range 3).map fun (i : Nat) => (.int (i : Int) : D)) := by kernel_rfl
theorem rg5 : rangeD [.int ((5 : Nat) : Int)] = some ((List.range 5).map fun (i : Nat) => (.int (i : Int) : D)) := by kernel_rfl
theorem rg6 : rangeD [.int ((6 : Nat) : Int)] = some ((List.range 6).map fun (i : Nat) => (.int (i : Int) : D)) := by kernel_rfl
theorem rg10 : rangeD [.int ((10 : Nat) : Int)] = some ((List.range 10).map fun (i : Nat) => (.int (i : Int) : D)) := by kernel_rfl

theorem ev_add {a b : PE} {u v : List Nat} (ha : evE F n ρ a = some (.str (T u))) (hb : evE F n ρ b = some (.str (T v))) (hl : u.length + v.length ≤ 16777216) : evE F (n + 1) ρ (.bin .Add a b) = some (.str (T (u ++ v))) := ev_bin ha hb (add_T hl)
theorem ev_mod {a : PE} {u b r : Int} (ha : evE F (n + 1) ρ a = some (.int u)) (hb : b ≠ 0) (h : u.fmod b = r) : evE F (n + 2) ρ (.bin .Mod a (.lit (.int b))) = some (.int r) := ev_bin ha ev_lit (by simp only [binD, addD, mulD, intOp, asInt, asStr, asList, Option.bind_some, if_neg hb, h])
theorem ev_div {a : PE} {u b r : Int} (ha : evE F (n + 1) ρ a = some (.int u)) (hb : b ≠ 0 ∧ b.natAbs < 1073741824) (h : u.fdiv b = r) : evE F (n + 2) ρ (.bin .FloorDiv a (.lit (.int b))) = some (.int r) := ev_bin ha ev_lit (by simp only [binD, addD, mulD, intOp, asInt, asStr, asList, Option.bind_some, if_pos hb, h])
theorem ev_itemL {a b : PE} {ds : List D} {i : Nat} {d : D} (ha : evE F n ρ a = some (.list ds)) (hb : evE F n ρ b = some (.int (i : Int))) (h : ds[i]? = some d) (hi : i < 1000) : evE F (n + 1) ρ (.item a b) = some d := ev_item ha hb (it_list h hi)
theorem ev_itemR {a b : PE} {k : Nat} {f : Nat → D} {i : Nat} (ha : evE F n ρ a = some (.list ((List.range k).map f))) (hb : evE F n ρ b = some (.int (i : Int))) (hi : i < k) (hk : k ≤ 100) : evE F (n + 1) ρ (.item a b) = some (f i) :=
  ev_itemL ha hb (by simp [hi]) (by omega)
theorem ev_addL {a b : PE} {u v : List D} (ha : evE F n ρ a = some (.list u)) (hb : evE F n ρ b = some (.list v)) (hl : u.length + v.length ≤ 16777216) : evE F (n + 1) ρ (.bin .Add a b) = some (.list (u ++ v)) := ev_bin ha hb (by simp only [binD, addD, mulD, intOp, asInt, asStr, asList, Option.bind_some, if_pos hl])
theorem mapO_1 {f : PE → Option D} {a : PE} {d : D} (h : f a = some d) : mapO f [a] = some [d] := mapO_cons' h rfl
theorem mapO_2 {f : PE → Option D} {a b : PE} {d e : D} (h : f a = some d) (h' : f b = some e) : mapO f [a, b] = some [d, e] := mapO_cons' h (mapO_1 h')
theorem mapO_3 {f : PE → Option D} {a b c : PE} {d e g : D} (h : f a = some d) (h' : f b = some e) (h'' : f c = some g) : mapO f [a, b, c] = some [d, e, g] := mapO_cons' h (mapO_2 h' h'')
end
theorem fmod_nat (a : Int) {b : Nat} (hb : 0 < b) : ∃ m : Nat, m < b ∧ a.fmod (b : Int) = (m : Int) := by
  have h1 := Int.fmod_nonneg_of_pos a (b := (b : Int)) (by omega)
  have h2 := Int.fmod_lt_of_pos a (b := (b : Int)) (by omega)
  exact ⟨(a.fmod (b : Int)).toNat, by omega, by omega⟩
noncomputable def fm (a : Int) (b : Nat) : Nat := (a.fmod (b : Int)).toNat
theorem fm_eq (a : Int) {b : Nat} (hb : 0 < b) : a.fmod (b : Int) = ((fm a b : Nat) : Int) := by
  obtain ⟨m, _, h⟩ := fmod_nat a hb
  unfold fm; rw [h]; simp
theorem fm_lt (a : Int) {b : Nat} (hb : 0 < b) : fm a b < b := by
  obtain ⟨m, hm, h⟩ := fmod_nat a hb
  unfold fm; rw [h]; simpa using hm
end Ev
namespace Ev
open PySem PySem.StrLaws PySem.Builtin PySem.Builtin.Str

noncomputable def cellK (i : Nat) : Int := [73, 65, 42, 10, 2, 37374118].getD i 0
noncomputable def cell (ns : List Int) (i : Nat) : Int := cellK i + (pickL ns (some (i : Int)) none (some 6)).sum
theorem intsD_map : ∀ l : List Int, intsD (l.map .int) = some l
  | [] => rfl
  | a :: r => ob_i (o := asInt (.int a)) rfl (ob_i (intsD_map r) rfl)
theorem pickL_map {α β : Type} (f : α → β) (xs : List α) (lo hi st : Option Int) : pickL (xs.map f) lo hi st = (pickL xs lo hi st).map f := by
  unfold pickL
  rw [List.length_map, List.map_filterMap]
  congr 1
  funext i
  simp
theorem q_sum {l : List Int} : builtinQ n_sum [.list (l.map .int)] = some (.int l.sum) := by
  show sumD (.list (l.map .int)) = _
  exact ob_i (o := asList (.list (l.map .int))) rfl (ob_i (intsD_map l) rfl)
section
variable {ρ : Rho} {n : Nat}
theorem S0 {ns : List Int} (h0 : ρ.lookup 0 = some (.list (ns.map .int))) (hx : ρ.lookup 39 = none) : exO FL 20 (n + 2) ρ ps_law_0 = some (.next, upd ρ 1 (.list ((List.range 6).map fun i => .int (cell ns i)))) := by
  refine ex_set (ev_compR (k := 6) rg6 (by decide) hx fun i hi => ?_)
  have hk : ([.int 73, .int 65, .int 42, .int 10, .int 2, .int 37374118] : List D)[i]? = some (.int (cellK i)) := by
    rcases (show i = 0 ∨ i = 1 ∨ i = 2 ∨ i = 3 ∨ i = 4 ∨ i = 5 by omega) with rfl | rfl | rfl | rfl | rfl | rfl <;> rfl
  refine ev_bin (u := .int (cellK i)) (v := .int (pickL ns (some (i : Int)) none (some 6)).sum) (ev_itemL (ev_list rfl (by decide)) (ev_var rfl) hk (by omega)) (ev_bi (mapO_1 (ev_slice (u := .list (ns.map .int)) (l := some (i : Int)) (h := none) (k := some 6) (ev_own ((lk_ne (by decide)).trans h0)) (part_int (ev_var rfl)) rfl (part_int ev_lit) (d := .list ((pickL ns (some (i : Int)) none (some 6)).map .int)) ?_)) q_sum) rfl
  simp only [sliceD, pickL_map]
  rw [if_pos (by decide)]
noncomputable def more (ns : List Int) : Int := (cell ns 5).fdiv 60466176 + (ns.length : Int)
theorem S1 {ns : List Int} (h0 : ρ.lookup 0 = some (.list (ns.map .int))) (h1 : ρ.lookup 1 = some (.list ((List.range 6).map fun i => .int (cell ns i)))) : exO FL 20 (n + 2) ρ ps_law_1 = some (.next, upd ρ 2 (.int (more ns))) := by
  refine ex_set (ev_bin (u := .int ((cell ns 5).fdiv 60466176)) (v := .int (ns.length : Int)) ?_ (ev_bi (mapO_1 (ev_own h0)) (q_lenL.trans (by rw [List.length_map]))) rfl)
  refine ev_bin (u := .int (cell ns 5)) (v := .int 60466176) (ev_itemR (i := 5) (ev_own h1) ev_lit (by decide) (by decide)) (ev_bin (u := .int 6) (v := .int 10) ev_lit ev_lit (by kernel_rfl)) ?_
  simp only [binD, addD, mulD, intOp, asInt, asStr, asList, Option.bind_some]
  rw [if_pos (by decide)]
/-- the first five cells -/
theorem sl5 {f : Nat → D} (h1 : ρ.lookup 1 = some (.list ((List.range 6).map f))) : evI FL (n + 3) ρ (.slice (.own 1) none (some (.lit (.int 5))) none) = some ((List.range 5).map f) :=
  evI_E rfl (ev_slice (u := .list ((List.range 6).map f)) (l := none) (h := some 5) (k := none) (ev_own h1) rfl (part_int ev_lit) rfl rfl)
noncomputable def mkC (z : Nat) : Nat := [43, 45, 126].getD z 43
/-- the marks, figures and fills of a cell -/
noncomputable def mk (c : Int) : Nat := mkC (fm c 3)
noncomputable def fg (c : Int) : Nat := fm (c.fdiv 12) 1000
noncomputable def flC (z : Nat) : List Nat := [[], [57], [40], [32]].getD z []
noncomputable def fl (c : Int) : List Nat := flC (fm (c.fdiv 3) 4)
theorem mk_or (c : Int) : mk c = 43 ∨ mk c = 45 ∨ mk c = 126 := by
  have h := fm_lt c (b := 3) (by decide)
  unfold mk mkC
  rcases (show fm c 3 = 0 ∨ fm c 3 = 1 ∨ fm c 3 = 2 by omega) with e | e | e <;> rw [e] <;> simp
theorem fl_ok (c : Int) : (fl c).length ≤ 1 ∧ ∀ x ∈ fl c, x = 57 ∨ x = 40 ∨ x = 32 := by
  have h := fm_lt (c.fdiv 3) (b := 4) (by decide)
  unfold fl flC
  rcases (show fm (c.fdiv 3) 4 = 0 ∨ fm (c.fdiv 3) 4 = 1 ∨ fm (c.fdiv 3) 4 = 2 ∨ fm (c.fdiv 3) 4 = 3 by omega) with e | e | e | e <;> rw [e] <;> simp
theorem fg_lt (c : Int) : fg c < 1000 := fm_lt _ (by decide)
section
variable {c : Nat → Int} (h1 : ρ.lookup 1 = some (.list ((List.range 6).map fun i => .int (c i)))) (h39 : ρ.lookup 39 = none) (h40 : ρ.lookup 40 = none)
include h1 h40
theorem S2 : exO FL 20 (n + 2) ρ ps_law_2 = some (.next, upd ρ 3 (.list ((List.range 5).map fun i => .str (T [mk (c i)])))) := by
  refine ex_set (ev_compA h40 (sl5 h1) (fun i _ => ?_) (by simp))
  refine ev_item (ev_lit (d := .str (T [43, 45, 126]))) (ev_mod (u := c i) (ev_own rfl) (by decide) (fm_eq (c i) (b := 3) (by decide))) (item_T ?_ ?_)
  · have h := fm_lt (c i) (b := 3) (by decide)
    unfold mk mkC
    rcases (show fm (c i) 3 = 0 ∨ fm (c i) 3 = 1 ∨ fm (c i) 3 = 2 by omega) with e | e | e <;> rw [e] <;> rfl
  · have h := fm_lt (c i) (b := 3) (by decide)
    omega
theorem S3 : exO FL 20 (n + 2) ρ ps_law_3 = some (.next, upd ρ 4 (.list ((List.range 5).map fun i => .int (fg (c i) : Nat)))) := by
  refine ex_set (ev_compA h40 (sl5 h1) (fun i _ => ?_) (by simp))
  exact ev_mod (ev_div (ev_own rfl) (by decide) rfl) (by decide) (fm_eq ((c i).fdiv 12) (b := 1000) (by decide))
theorem S4 : exO FL 20 (n + 2) ρ ps_law_4 = some (.next, upd ρ 5 (.list ((List.range 5).map fun i => .str (T (fl (c i)))))) := by
  refine ex_set (ev_compA h40 (sl5 h1) (fun i _ => ?_) (by simp))
  refine ev_itemL (i := fm ((c i).fdiv 3) 4) (ev_list (ds := [.str (T []), .str (T [57]), .str (T [40]), .str (T [32])]) rfl (by decide)) (ev_mod (ev_div (ev_own rfl) (by decide) rfl) (by decide) (fm_eq ((c i).fdiv 3) (b := 4) (by decide))) ?_ ?_
  · have h := fm_lt ((c i).fdiv 3) (b := 4) (by decide)
    unfold fl flC
    rcases (show fm ((c i).fdiv 3) 4 = 0 ∨ fm ((c i).fdiv 3) 4 = 1 ∨ fm ((c i).fdiv 3) 4 = 2 ∨ fm ((c i).fdiv 3) 4 = 3 by omega) with e | e | e | e <;> rw [e] <;> rfl
  · have h := fm_lt ((c i).fdiv 3) (b := 4) (by decide)
    omega
end
/-- a cell's inside -/
noncomputable def ins (c : Nat → Int) (i : Nat) : List Nat := insL (mk (c i)) (fl (c i)) (fl (c ((i + 4) % 5))) (dgL (fg (c i)))
theorem ins_ok (c : Nat → Int) (i : Nat) : InsOk (mk (c i)) (fl (c i)) (fl (c ((i + 4) % 5))) (dgL (fg (c i))) := ⟨mk_or _, (fl_ok _).2, (fl_ok _).2, (fl_ok _).1, (fl_ok _).1, dgL_digits _, dgL_len (fg_lt _)⟩
section
variable {c : Nat → Int} (h3 : ρ.lookup 3 = some (.list ((List.range 5).map fun i => .str (T [mk (c i)])))) (h39 : ρ.lookup 39 = none)
include h3 h39
theorem S5 (h4 : ρ.lookup 4 = some (.list ((List.range 5).map fun i => .int (fg (c i) : Nat)))) (h5 : ρ.lookup 5 = some (.list ((List.range 5).map fun i => .str (T (fl (c i)))))) :
    exO FL 20 (n + 2) ρ ps_law_5 = some (.next, upd ρ 6 (.list ((List.range 5).map fun i => .str (T (ins c i))))) := by
  refine ex_set (ev_compR (k := 5) rg5 (by decide) h39 fun i hi => ?_)
  have f1 := (fl_ok (c i)).1
  have f2 := (fl_ok (c ((i + 4) % 5))).1
  have f3 := dgL_len (fg_lt (c i))
  have m : ∀ n, evE FL (n + 2) ((39, PyData.int (i : Int)) :: ρ) (.item (.own 3) (.var 39)) = some (.str (T [mk (c i)])) := fun n => ev_itemR (f := fun i => .str (T [mk (c i)])) (ev_own ((lk_ne (by decide)).trans h3)) (ev_var rfl) hi (by decide)
  show _ = some (PyData.str (T (ins c i)))
  rw [show ins c i = [mk (c i)] ++ fl (c i) ++ [mk (c i)] ++ fl (c ((i + 4) % 5)) ++ [mk (c i)] ++ dgL (fg (c i)) from by simp [ins, insL]]
  exact ev_add (ev_add (ev_add (ev_add (ev_add (m 12) (ev_itemR (f := fun i => .str (T (fl (c i)))) (ev_own ((lk_ne (by decide)).trans h5)) (ev_var rfl) hi (by decide)) (by simp; omega)) (m 13) (by simp; omega)) (ev_item (u := .list ((List.range 5).map fun i => .str (T (fl (c i))))) (v := .int ((i : Int) - 1)) (d := .str (T (fl (c ((i + 4) % 5))))) (ev_own ((lk_ne (by decide)).trans h5)) (ev_bin (u := .int (i : Int)) (v := .int 1) (ev_own rfl) ev_lit rfl) (by
    rcases five hi with rfl | rfl | rfl | rfl | rfl <;> rfl)) (by simp; omega)) (m 15) (by simp; omega))
    (ev_ty (f := n_str) (d := .str (T (dgL (fg (c i))))) (mapO_1 (ev_itemR (f := fun i => .int (fg (c i) : Nat)) (ev_own ((lk_ne (by decide)).trans h4)) (ev_var rfl) hi (by decide))) (by
      have := fg_lt (c i)
      rw [q_str (by omega), dg_eq])) (by simp; omega)
theorem S6 (h6 : ρ.lookup 6 = some (.list ((List.range 5).map fun i => .str (T (ins c i))))) :
    exO FL 20 (n + 2) ρ ps_law_6 = some (.next, upd ρ 7 (.list ((List.range 5).map fun i => .tuple [hereS, .int (fg (c i) : Nat)]))) := by
  refine ex_set (ev_compR (k := 5) rg5 (by decide) h39 fun i hi => ?_)
  have hl := (ins_ok c i).len
  have m : ∀ n, evE FL (n + 2) ((39, PyData.int (i : Int)) :: ρ) (.item (.own 3) (.var 39)) = some (.str (T [mk (c i)])) := fun n => ev_itemR (f := fun i => .str (T [mk (c i)])) (ev_own ((lk_ne (by decide)).trans h3)) (ev_var rfl) hi (by decide)
  have hl' : (ins c i).length ≤ 25 := hl
  refine ev_fn (mapO_2 (ev_add (ev_add (ev_add (ev_add (ev_add (ev_lit (d := .str (T [50, 50, 57, 32, 111, 107, 41, 32, 40]))) (ev_itemR (i := i) (f := fun i => .str (T (ins c i))) (ev_own ((lk_ne (by decide)).trans h6)) (ev_var rfl) hi (by decide)) (by simp; omega)) (m _) (by simp; omega)) (ev_lit (d := .str (T [41, 32, 40, 120]))) (by simp; omega)) (m _) (by simp; omega)) (ev_lit (d := .str (T [41]))) (by simp; omega)) ev_lit) ?_
  have := readok (tail := [32, 40, 120, mk (c i), 41]) (ins_ok c i) (fg_lt (c i))
  rw [show [50, 50, 57, 32, 111, 107, 41, 32, 40] ++ ins c i ++ [mk (c i)] ++ [41, 32, 40, 120] ++ [mk (c i)] ++ [41] = preOk ++ 40 :: (insL (mk (c i)) (fl (c i)) (fl (c ((i + 4) % 5))) (dgL (fg (c i))) ++ [mk (c i)] ++ 41 :: [32, 40, 120, mk (c i), 41]) from by simp [ins, preOk]]
  exact this
end
theorem S7 {c : Nat → Int} (h4 : ρ.lookup 4 = some (.list ((List.range 5).map fun i => .int (fg (c i) : Nat)))) (h7 : ρ.lookup 7 = some (.list ((List.range 5).map fun i => .tuple [hereS, .int (fg (c i) : Nat)]))) (h47 : ρ.lookup 47 = none) :
    exO FL 20 (n + 2) ρ ps_law_7 = some (.next, ρ) := by
  refine ex_iffF (evT_cmp (ev_own h7) (ev_compA (g := fun i => .tuple [hereS, .int (fg (c i) : Nat)]) h47 (evI_own h4) (fun i _ => ?_) (by simp)) (cmp_self (sh_list (by simp [shallow, hereS]))))
  exact ev_tuple (mapO_2 ev_lit (ev_var rfl)) (by simp)
end
end Ev
namespace Ev
open PySem PySem.StrLaws PySem.Builtin PySem.Builtin.Str

noncomputable def fF1 : List Nat := [50, 50, 57, 32, 111, 107, 50, 57, 50, 41]
noncomputable def fF2 (m : Nat) (x : List Nat) : List Nat := preOk ++ 40 :: (x ++ [m, 120])
noncomputable def fF3 (m : Nat) (x : List Nat) : List Nat := pre229 ++ 40 :: ((x ++ [m, m]) ++ [41])
noncomputable def fF4 (m : Nat) : List Nat := [50, 50, 57, 32, 40, m, m, m, 57, m, 120, 41]
noncomputable def fF5 (m : Nat) : List Nat := [50, 50, 57, 32, 40, m, 57, m, 57, m, 41]
noncomputable def cdF (m : Nat) (k : List Nat) : List Nat := k ++ [32, 40, m, m, m, 57, m, 41]
noncomputable def formsL (m : Nat) (x : List Nat) : List (List Nat) := [fF1, fF2 m x, fF3 m x, fF4 m, fF5 m]
noncomputable def codesL (m : Nat) : List (List Nat) := [cdF m [49, 50, 57], cdF m [50, 49, 57], cdF m [50, 50, 56]]
noncomputable def sD (l : List Nat) : D := .str (T l)
noncomputable def frD (l : List Nat) : D := .str (T ([102, 111, 114, 109, 32] ++ l))
noncomputable def cdD (l : List Nat) : D := .str (T ([99, 111, 100, 101, 32] ++ l))
theorem rd_F1 : d_read [.str (T fF1), .bool false] = some (frD fF1) := by kernel_rfl
theorem rd_F4 {m : Nat} (h : m = 43 ∨ m = 45 ∨ m = 126) : d_read [.str (T (fF4 m)), .bool false] = some (frD (fF4 m)) := by
  rcases h with rfl | rfl | rfl <;> kernel_rfl
theorem rd_F5 {m : Nat} (h : m = 43 ∨ m = 45 ∨ m = 126) : d_read [.str (T (fF5 m)), .bool false] = some (frD (fF5 m)) := by
  rcases h with rfl | rfl | rfl <;> kernel_rfl
theorem rd_C1 {m : Nat} (h : m = 43 ∨ m = 45 ∨ m = 126) : d_read [.str (T (cdF m [49, 50, 57])), .bool false] = some (cdD (cdF m [49, 50, 57])) := by
  rcases h with rfl | rfl | rfl <;> kernel_rfl
theorem rd_C2 {m : Nat} (h : m = 43 ∨ m = 45 ∨ m = 126) : d_read [.str (T (cdF m [50, 49, 57])), .bool false] = some (cdD (cdF m [50, 49, 57])) := by
  rcases h with rfl | rfl | rfl <;> kernel_rfl
theorem rd_C3 {m : Nat} (h : m = 43 ∨ m = 45 ∨ m = 126) : d_read [.str (T (cdF m [50, 50, 56])), .bool false] = some (cdD (cdF m [50, 50, 56])) := by
  rcases h with rfl | rfl | rfl <;> kernel_rfl
theorem mul_2 {m : Nat} (h : m = 43 ∨ m = 45 ∨ m = 126) : binD .Mult (.str (T [m])) (.int 2) = some (.str (T [m, m])) := by
  rcases h with rfl | rfl | rfl <;> kernel_rfl
theorem mul_3 {m : Nat} (h : m = 43 ∨ m = 45 ∨ m = 126) : binD .Mult (.str (T [m])) (.int 3) = some (.str (T [m, m, m])) := by
  rcases h with rfl | rfl | rfl <;> kernel_rfl

section
variable {ρ : Rho} {n : Nat} {c : Nat → Int}
theorem S8 {M : Int} (h2 : ρ.lookup 2 = some (.int M)) (h3 : ρ.lookup 3 = some (.list ((List.range 5).map fun i => .str (T [mk (c i)])))) (h6 : ρ.lookup 6 = some (.list ((List.range 5).map fun i => .str (T (ins c i))))) :
    exO FL 20 (n + 2) ρ ps_law_8 = some (.next, upd (upd ρ 36 (.str (T [mk (c (fm M 5))]))) 37 (.str (T (ins c (fm M 5))))) := by
  have hi := fm_lt M (b := 5) (by decide)
  exact ex_pair (ev_itemR (f := fun i => .str (T [mk (c i)])) (ev_own h3) (ev_mod (ev_own h2) (by decide) (fm_eq M (b := 5) (by decide))) hi (by decide)) (ev_itemR (f := fun i => .str (T (ins c i))) (ev_own h6) (ev_mod (ev_own h2) (by decide) (fm_eq M (b := 5) (by decide))) hi (by decide))
section
variable {m : Nat} {x : List Nat} (hm : m = 43 ∨ m = 45 ∨ m = 126) (hx : x.length ≤ 25) (h36 : ρ.lookup 36 = some (.str (T [m])))
include hm h36
theorem e36 {N : Nat} : evE FL (N + 1) ρ (.own 36) = some (.str (T [m])) := ev_own h36
theorem e36_2 {N : Nat} : evE FL (N + 2) ρ (.bin .Mult (.own 36) (.lit (.int 2))) = some (.str (T [m, m])) := ev_bin (ev_own h36) ev_lit (mul_2 hm)
theorem e36_3 {N : Nat} : evE FL (N + 2) ρ (.bin .Mult (.own 36) (.lit (.int 3))) = some (.str (T [m, m, m])) := ev_bin (ev_own h36) ev_lit (mul_3 hm)
theorem S9 (hx : x.length ≤ 25) (h37 : ρ.lookup 37 = some (.str (T x))) : exO FL 20 (n + 2) ρ ps_law_9 = some (.next, upd ρ 8 (.list [sD fF1, sD (fF2 m x), sD (fF3 m x)])) := by
  refine ex_set (ev_list (mapO_3 ev_lit ?_ ?_) (by simp))
  · unfold sD
    rw [show fF2 m x = [50, 50, 57, 32, 111, 107, 41, 32, 40] ++ x ++ [m] ++ [120] from by simp [fF2, preOk]]
    exact ev_add (ev_add (ev_add (ev_lit (d := .str (T [50, 50, 57, 32, 111, 107, 41, 32, 40]))) (ev_own h37) (by simp; omega)) (ev_own h36) (by simp; omega)) (ev_lit (d := .str (T [120]))) (by simp; omega)
  · unfold sD
    rw [show fF3 m x = [50, 50, 57, 32, 40] ++ x ++ [m, m] ++ [41] from by simp [fF3, pre229]]
    exact ev_add (ev_add (ev_add (ev_lit (d := .str (T [50, 50, 57, 32, 40]))) (ev_own h37) (by simp; omega)) (e36_2 hm h36) (by simp; omega)) (ev_lit (d := .str (T [41]))) (by simp; omega)
theorem S10 (h8 : ρ.lookup 8 = some (.list [sD fF1, sD (fF2 m x), sD (fF3 m x)])) : exO FL 20 (n + 2) ρ ps_law_10 = some (.next, upd ρ 8 (.list ((formsL m x).map sD))) := by
  refine ex_set (ev_addL (v := [sD (fF4 m), sD (fF5 m)]) (ev_own h8) (ev_list (mapO_2 ?_ ?_) (by simp)) (by simp))
  · exact ev_add (u := [50, 50, 57, 32, 40, m, m, m, 57, m]) (ev_add (u := [50, 50, 57, 32, 40, m, m, m, 57]) (ev_add (u := [50, 50, 57, 32, 40, m, m, m]) (ev_add (ev_lit (d := .str (T [50, 50, 57, 32, 40]))) (e36_3 hm h36) (by simp)) (ev_lit (d := .str (T [57]))) (by simp)) (ev_own h36) (by simp)) (ev_lit (d := .str (T [120, 41]))) (by simp)
  · exact ev_add (u := [50, 50, 57, 32, 40, m, 57, m, 57, m]) (ev_add (u := [50, 50, 57, 32, 40, m, 57, m, 57]) (ev_add (u := [50, 50, 57, 32, 40, m, 57, m]) (ev_add (u := [50, 50, 57, 32, 40, m, 57]) (ev_add (u := [50, 50, 57, 32, 40, m]) (ev_add (ev_lit (d := .str (T [50, 50, 57, 32, 40]))) (ev_own h36) (by simp)) (ev_lit (d := .str (T [57]))) (by simp)) (ev_own h36) (by simp)) (ev_lit (d := .str (T [57]))) (by simp)) (ev_own h36) (by simp)) (ev_lit (d := .str (T [41]))) (by simp)
theorem S11 (h41 : ρ.lookup 41 = none) : exO FL 20 (n + 2) ρ ps_law_11 = some (.next, upd ρ 9 (.list ((codesL m).map sD))) := by
  refine ex_set (ev_compA (ls := [[49, 50, 57], [50, 49, 57], [50, 50, 56]]) (f := sD) (g := fun k => sD (cdF m k)) h41 (evI_E rfl (ev_list rfl (by decide))) (fun k hk => ?_) (by simp))
  have hl : k.length ≤ 3 := by
    simp at hk
    rcases hk with rfl | rfl | rfl <;> simp
  have h36' : List.lookup 36 ((41, sD k) :: ρ) = some (.str (T [m])) := (lk_ne (by decide)).trans h36
  unfold sD
  rw [show cdF m k = k ++ [32, 40] ++ [m, m, m] ++ [57] ++ [m] ++ [41] from by simp [cdF]]
  exact ev_add (ev_add (ev_add (ev_add (ev_add (ev_own rfl) (ev_lit (d := .str (T [32, 40]))) (by simp; omega)) (e36_3 hm h36') (by simp; omega)) (ev_lit (d := .str (T [57]))) (by simp; omega)) (ev_own h36') (by simp; omega)) (ev_lit (d := .str (T [41]))) (by simp; omega)
end
/-- what is due of the replies that do not hold -/
theorem forms_len {m : Nat} {x : List Nat} (hx : x.length ≤ 25) : ∀ l ∈ formsL m x, l.length ≤ 50 := by
  intro l hl
  simp only [formsL, List.mem_cons, List.not_mem_nil, or_false] at hl
  rcases hl with rfl | rfl | rfl | rfl | rfl <;> simp [fF1, fF2, fF3, fF4, fF5, preOk, pre229] <;> omega
theorem codes_len {m : Nat} : ∀ l ∈ codesL m, l.length ≤ 50 := by
  intro l hl
  simp only [codesL, List.mem_cons, List.not_mem_nil, or_false] at hl
  rcases hl with rfl | rfl | rfl <;> simp [cdF]
theorem S12 {m : Nat} {x : List Nat} (hx : x.length ≤ 25) (h8 : ρ.lookup 8 = some (.list ((formsL m x).map sD))) (h9 : ρ.lookup 9 = some (.list ((codesL m).map sD))) (h48 : ρ.lookup 48 = none) :
    exO FL 20 (n + 2) ρ ps_law_12 = some (.next, upd ρ 10 (.list ((formsL m x).map frD ++ (codesL m).map cdD))) := by
  refine ex_set (ev_addL (ev_compA (f := sD) h48 (evI_own h8) (fun l hl => ?_) (by simp [formsL])) (ev_compA (f := sD) h48 (evI_own h9) (fun l hl => ?_) (by simp [codesL])) (by simp [formsL, codesL]))
  · have := forms_len hx l hl
    exact ev_add (ev_lit (d := .str (T [102, 111, 114, 109, 32]))) (ev_own rfl) (by simp; omega)
  · have := codes_len l hl
    exact ev_add (ev_lit (d := .str (T [99, 111, 100, 101, 32]))) (ev_own rfl) (by simp; omega)
theorem S13 {m : Nat} {f f' dg : List Nat} (ok : InsOk m f f' dg) (h8 : ρ.lookup 8 = some (.list ((formsL m (insL m f f' dg)).map sD))) (h9 : ρ.lookup 9 = some (.list ((codesL m).map sD))) (h10 : ρ.lookup 10 = some (.list ((formsL m (insL m f f' dg)).map frD ++ (codesL m).map cdD))) (h48 : ρ.lookup 48 = none) :
    exO FL 20 (n + 2) ρ ps_law_13 = some (.next, ρ) := by
  have hm := ok.mkE
  let g : List Nat → D := fun l => (d_read [sD l, .bool false]).getD .none
  have hf : ∀ l ∈ formsL m (insL m f f' dg), d_read [sD l, .bool false] = some (frD l) := fun l hl => by
    simp only [formsL, List.mem_cons, List.not_mem_nil, or_false] at hl
    rcases hl with rfl | rfl | rfl | rfl | rfl
    · exact rd_F1
    · exact read_open ok
    · exact read_six ok
    · exact rd_F4 hm
    · exact rd_F5 hm
  have hc : ∀ l ∈ codesL m, d_read [sD l, .bool false] = some (cdD l) := fun l hl => by
    simp only [codesL, List.mem_cons, List.not_mem_nil, or_false] at hl
    rcases hl with rfl | rfl | rfl
    · exact rd_C1 hm
    · exact rd_C2 hm
    · exact rd_C3 hm
  have e : (formsL m (insL m f f' dg) ++ codesL m).map g = (formsL m (insL m f f' dg)).map frD ++ (codesL m).map cdD := by
    rw [List.map_append]
    congr 1
    · exact List.map_congr_left fun l hl => by simp only [g, hf l hl]; rfl
    · exact List.map_congr_left fun l hl => by simp only [g, hc l hl]; rfl
  refine ex_iffF (evT_cmp (v := .list ((formsL m (insL m f f' dg) ++ codesL m).map g)) (ev_compA (ls := formsL m (insL m f f' dg) ++ codesL m) (f := sD) (g := g) h48 (evI_E rfl ?_) (fun l hl => ?_) (by simp [formsL, codesL])) (ev_own (by rw [h10, e])) (cmp_self (sh_list ?_)))
  · rw [List.map_append]
    exact ev_addL (ev_own h8) (ev_own h9) (by simp [formsL, codesL])
  · refine ev_fn (mapO_2 (ev_var rfl) ev_lit) ?_
    show d_read [sD l, .bool false] = _
    rcases List.mem_append.mp hl with h | h
    · simp only [g, hf l h]; rfl
    · simp only [g, hc l h]; rfl
  · rw [e]; rfl
end
end Ev
namespace Ev
open PySem PySem.StrLaws PySem.Builtin PySem.Builtin.Str

theorem strsD_map : ∀ ps : List (List Nat), strsD (ps.map sD) = some (ps.map T)
  | [] => rfl
  | p :: r => by
    exact ob_i (o := asStr (sD p)) rfl (ob_i (strsD_map r) rfl)
theorem q_join {s : List Nat} {ps : List (List Nat)} {r : List Nat} (he : Txt.join (T s) (ps.map T) = T r) (hr : ∀ c ∈ r, c < 0x110000) (hl : (ps.map (·.length)).sum + ps.length * s.length ≤ 16777216) : methQ n_join (.str (T s)) [.list (ps.map sD)] = some (.str (T r)) := by
  have h1 : JoinOk (T s) (ps.map T) = true := by
    refine PyProof.Rows.joinOk_of ?_
    rw [List.map_map, List.length_map, T_len]
    have : ((fun x : Str => x.length) ∘ T) = fun l : List Nat => l.length := by funext l; exact T_len l
    rw [this]; exact hl
  show joinD (T s) (.list (ps.map sD)) = _
  exact ob_i rfl (ob_i (strsD_map ps) ((if_pos ⟨h1, by rw [he]; exact T_ok.mpr hr⟩).trans (by rw [he])))
theorem join_empty (ps : List (List Nat)) : Txt.join (T []) (ps.map T) = T ps.flatten := by
  rw [glue_T]
  cases ps <;> simp
theorem join_JJ (ps : List (List Nat)) : Txt.join (T [34, 34]) (ps.map T) = T (JJ ps) := by
  rw [glue_T]
  congr 1
  induction ps with
  | nil => rfl
  | cons p r ih =>
    cases r with
    | nil => simp [JJ]
    | cons q r =>
      simp only [JJ] at ih ⊢
      rw [← ih]
      simp
/-- the ten draws -/
noncomputable def dr (z : Int) (i : Nat) : Nat := fm (z.fdiv (6 ^ i : Nat)) 6
theorem dr_lt (z : Int) (i : Nat) : dr z i < 6 := fm_lt _ (by decide)
noncomputable def drs (z : Int) : List Nat := (List.range 10).map (dr z)
theorem drs_lt (z : Int) : ∀ d ∈ drs z, d < 6 := fun d hd => by
  obtain ⟨i, _, rfl⟩ := List.mem_map.mp hd
  exact dr_lt z i
theorem drs_len (z : Int) : (drs z).length = 10 := by simp [drs]
noncomputable def nD (d : Nat) : D := .int (d : Int)
theorem opL_at {d : Nat} (h : d < 6) : ([.str (T [60]), .str (T [62]), .str (T [60, 61]), .str (T [62, 61]), .str (T [61, 61]), .str (T [33, 61])] : List D)[d]? = some (sD (opL d)) := by
  rcases six h with rfl | rfl | rfl | rfl | rfl | rfl <;> rfl
theorem opT_at {d : Nat} (h : d < 6) : ([.int 20, .int 21, .int 29, .int 30, .int 27, .int 28] : List D)[d]? = some (.int (opT d)) := by
  rcases six h with rfl | rfl | rfl | rfl | rfl | rfl <;> rfl
theorem page_len (z : Int) : (pageL (drs z)).length ≤ 60 ∧ ∀ c ∈ pageL (drs z), c < 127 := by
  obtain ⟨h1, h2⟩ := JJ_len (drs_lt z)
  have h3 := drs_len z
  refine ⟨by simp only [pageL, pageT, List.length_append, List.length_cons, List.length_nil]; omega, fun c hc => ?_⟩
  simp only [pageL, List.mem_append] at hc
  rcases hc with hc | hc | hc
  · simp at hc; omega
  · exact h2 c hc
  · simp [pageT] at hc; omega
section
variable {ρ : Rho} {n : Nat} {z : Int}
theorem S14 {c : Nat → Int} (h1 : ρ.lookup 1 = some (.list ((List.range 6).map fun i => .int (c i)))) (h39 : ρ.lookup 39 = none) : exO FL 20 (n + 2) ρ ps_law_14 = some (.next, upd ρ 11 (.list ((drs (c 5)).map nD))) := by
  rw [show (drs (c 5)).map nD = (List.range 10).map fun i => nD (dr (c 5) i) from by simp [drs]]
  refine ex_set (ev_compR (k := 10) rg10 (by decide) h39 fun i hi => ?_)
  have hp : binD .Pow (.int 6) (.int (i : Int)) = some (.int ((6 ^ i : Nat) : Int)) ∧ ((6 ^ i : Nat) : Int) ≠ 0 ∧ ((6 ^ i : Nat) : Int).natAbs < 1073741824 := by
    rcases ten hi with rfl | rfl | rfl | rfl | rfl | rfl | rfl | rfl | rfl | rfl <;> exact ⟨by kernel_rfl, by decide, by decide⟩
  refine ev_mod (ev_bin (u := .int (c 5)) (v := .int ((6 ^ i : Nat) : Int)) (ev_itemR (f := fun i => .int (c i)) (i := 5) (ev_own ((lk_ne (by decide)).trans h1)) ev_lit (by decide) (by decide)) (ev_bin (u := .int 6) (v := .int (i : Int)) ev_lit (ev_own rfl) hp.1) ?_) (by decide) (fm_eq ((c 5).fdiv (6 ^ i : Nat)) (b := 6) (by decide))
  simp only [binD, addD, mulD, intOp, asInt, asStr, asList, Option.bind_some]
  rw [if_pos hp.2]
theorem S15 (h11 : ρ.lookup 11 = some (.list ((drs z).map nD))) (h50 : ρ.lookup 50 = none) : exO FL 20 (n + 2) ρ ps_law_15 = some (.next, upd ρ 12 (sD (pageL (drs z)))) := by
  have hj : evE FL 18 ρ (.meth ⟨#[106, 111, 105, 110]⟩ (.lit (.str ⟨#[34, 34]⟩)) [(.comp (.item (.list [(.lit (.str ⟨#[60]⟩)), (.lit (.str ⟨#[62]⟩)), (.lit (.str ⟨#[60, 61]⟩)), (.lit (.str ⟨#[62, 61]⟩)), (.lit (.str ⟨#[61, 61]⟩)), (.lit (.str ⟨#[33, 61]⟩))]) (.var 50)) [(50, (.own 11), [])])]) = some (.str (T (JJ ((drs z).map opL)))) := by
    refine ev_meth (u := .str (T [34, 34])) (ds := [.list (((drs z).map opL).map sD)]) ev_lit (mapO_1 ?_) (q_join (join_JJ _) ?_ ?_)
    · rw [List.map_map]
      refine ev_compA (f := nD) h50 (evI_own h11) (fun d hd => ?_) (by simp [drs])
      exact ev_itemL (i := d) (ev_list rfl (by simp)) (ev_var rfl) (opL_at (drs_lt z d hd)) (by have := drs_lt z d hd; omega)
    · intro c hc
      have := (JJ_len (drs_lt z)).2 c hc
      omega
    · have : ∀ ds : List Nat, (∀ d ∈ ds, d < 6) → ((ds.map opL).map (·.length)).sum ≤ 2 * ds.length := by
        intro ds h
        induction ds with
        | nil => simp
        | cons d r ih =>
          have h1 := (opL_ok (h d (.head _))).2
          have h2 := ih fun x hx => h x (.tail _ hx)
          simp only [List.map_cons, List.sum_cons, List.length_cons] at h2 ⊢
          omega
      have := this _ (drs_lt z)
      have h3 := drs_len z
      simp only [List.length_map, List.length_cons, List.length_nil]
      omega
  have h2 := (JJ_len (drs_lt z)).1
  have h3 := drs_len z
  unfold sD pageL
  rw [← List.append_assoc]
  refine ex_set (ev_add (ev_add (ev_lit (d := .str (T [34, 32]))) hj (by simp; omega)) (ev_lit (d := .str (T pageT))) ?_)
  simp only [List.length_append, List.length_cons, List.length_nil, pageT]; omega
noncomputable def badC (p : List Nat) : List (List Nat) := [[49, 53, 55, 32] ++ p, [50, 52, 55, 32] ++ p, [50, 53, 54, 32] ++ p]
noncomputable def badR (p : List Nat) : List (List Nat) := [[50, 53, 55, 45] ++ p, [50, 53, 55, 32, 39] ++ p.drop 1]
theorem S16 {p : List Nat} (hp : p.length ≤ 60) (h12 : ρ.lookup 12 = some (sD p)) (h41 : ρ.lookup 41 = none) : exO FL 20 (n + 2) ρ ps_law_16 = some (.next, upd ρ 9 (.list ((badC p).map sD))) := by
  refine ex_set (ev_compA (ls := [[49, 53, 55, 32], [50, 52, 55, 32], [50, 53, 54, 32]]) (f := sD) (g := fun k => sD (k ++ p)) h41 (evI_E rfl (ev_list rfl (by decide))) (fun k hk => ?_) (by simp))
  have hl : k.length ≤ 4 := by
    simp at hk
    rcases hk with rfl | rfl | rfl <;> simp
  exact ev_add (ev_own rfl) (ev_own ((lk_ne (by decide)).trans h12)) (by omega)
theorem S17 {p : List Nat} (hp : p.length ≤ 60) (h9 : ρ.lookup 9 = some (.list ((badC p).map sD))) (h48 : ρ.lookup 48 = none) : exO FL 20 (n + 2) ρ ps_law_17 = some (.next, upd ρ 10 (.list ((badC p).map cdD ++ [sD [], sD []]))) := by
  refine ex_set (ev_addL (v := [sD [], sD []]) (ev_compA (f := sD) h48 (evI_own h9) (fun l hl => ?_) (by simp [badC])) (ev_list (mapO_2 ev_lit ev_lit) (by simp)) (by simp [badC]))
  refine ev_add (ev_lit (d := .str (T [99, 111, 100, 101, 32]))) (ev_own rfl) ?_
  simp only [badC, List.mem_cons, List.not_mem_nil, or_false] at hl
  rcases hl with rfl | rfl | rfl <;> simp <;> omega
theorem S18 {p q : List Nat} (hq : p = 34 :: q) (hp : p.length ≤ 60) (ho : ∀ c ∈ p, c < 127) (h9 : ρ.lookup 9 = some (.list ((badC p).map sD))) (h10 : ρ.lookup 10 = some (.list ((badC p).map cdD ++ [sD [], sD []]))) (h12 : ρ.lookup 12 = some (sD p)) (h48 : ρ.lookup 48 = none) :
    exO FL 20 (n + 2) ρ ps_law_18 = some (.next, ρ) := by
  let g : List Nat → D := fun l => (d_read [sD l, .bool true]).getD .none
  have code : ∀ a b c : Nat, a < 127 → b < 127 → c < 127 → [a, b, c] ≠ [50, 53, 55] → d_read [sD ([a, b, c, 32] ++ p), .bool true] = some (cdD ([a, b, c, 32] ++ p)) := fun a b c ha hb hc h => by
    refine read_code (rest := 32 :: p) h (fun x hx => ?_) (by simp; omega)
    simp only [List.mem_append, List.mem_cons, List.not_mem_nil, or_false] at hx
    rcases hx with (rfl | rfl | rfl) | rfl | hx
    · omega
    · omega
    · omega
    · omega
    · have := ho x hx; omega
  have hf : ∀ l ∈ badC p, d_read [sD l, .bool true] = some (cdD l) := fun l hl => by
    simp only [badC, List.mem_cons, List.not_mem_nil, or_false] at hl
    rcases hl with rfl | rfl | rfl
    · exact code 49 53 55 (by decide) (by decide) (by decide) (by decide)
    · exact code 50 52 55 (by decide) (by decide) (by decide) (by decide)
    · exact code 50 53 54 (by decide) (by decide) (by decide) (by decide)
  have hc : ∀ l ∈ badR p, d_read [sD l, .bool true] = some (sD []) := fun l hl => by
    subst hq
    simp only [badR, List.mem_cons, List.not_mem_nil, or_false] at hl
    rcases hl with rfl | rfl
    · exact read_none (a := 45) (b := 34) (rest := q) (by decide)
    · exact read_none (a := 32) (b := 39) (rest := q) (by decide)
  have e : (badC p ++ badR p).map g = (badC p).map cdD ++ [sD [], sD []] := by
    rw [List.map_append]
    congr 1
    · exact List.map_congr_left fun l hl => by simp only [g, hf l hl]; rfl
    · rw [List.map_congr_left (g := fun _ => sD []) fun l hl => by simp only [g, hc l hl]; rfl]
      rfl
  refine ex_iffF (evT_cmp (v := .list ((badC p ++ badR p).map g)) (ev_compA (ls := badC p ++ badR p) (f := sD) (g := g) h48 (evI_E rfl ?_) (fun l hl => ?_) (by simp [badC, badR])) (ev_own (by rw [h10, e])) (cmp_self (sh_list ?_)))
  · rw [List.map_append]
    refine ev_addL (ev_own h9) (ev_list (mapO_2 (ev_add (ev_lit (d := .str (T [50, 53, 55, 45]))) (ev_own h12) (by simp; omega)) (ev_add (v := p.drop 1) (ev_lit (d := .str (T [50, 53, 55, 32, 39]))) (ev_slice (u := sD p) (l := some ((1 : Nat) : Int)) (h := none) (k := none) (ev_own h12) (part_int ev_lit) rfl rfl ?_) (by simp; omega))) (by simp [badR])) (by simp [badC, badR])
    exact congrArg (fun x => some (PyData.str x)) (sl_from p 1)
  · refine ev_fn (mapO_2 (ev_var rfl) ev_lit) ?_
    show d_read [sD l, .bool true] = _
    rcases List.mem_append.mp hl with h | h
    · simp only [g, hf l h]; rfl
    · simp only [g, hc l h]; rfl
  · rw [e]; rfl
/-- the row of marks -/
noncomputable def rowI (z : Int) : List Int := 255 :: (symI2 (drs z) ++ [0])
noncomputable def symZ (z : Int) : List Int := 255 :: ((drs z).map opT ++ [0])
theorem S19 (h12 : ρ.lookup 12 = some (sD (pageL (drs z)))) : exO FL 20 (n + 2) ρ ps_law_19 = some (.next, upd ρ 13 (.list ((rowI z).map .int))) := by
  have hl := (page_len z).1
  refine ex_set (ev_fn (mapO_1 (ev_fn (mapO_2 (ev_add (ev_lit (d := .str (T [50, 53, 55, 32]))) (ev_own h12) (by simp; omega)) ev_lit) (d := .str (T (32 :: joinL 34 ((drs z).map opL)))) ?_)) ?_)
  · exact read_page (by simp [drs]) (drs_lt z) (by rw [drs_len]; exact Nat.le_refl _)
  · exact symb_page (drs_lt z) (by rw [drs_len]; exact Nat.le_refl _)
theorem fl60 (x : Int) : FL 60 [.int x] = some (.bool (decide (x < 256))) := rfl
theorem fl61 (x : Int) : FL 61 [.int x] = some (.bool (decide (256 ≤ x))) := rfl
theorem fl62 (x : Int) : FL 62 [.int x] = some (.bool (x == 0)) := rfl
theorem evT_fn {f : Nat} {as : List PE} {ds : List D} {b : Bool} {N : Nat} (ha : mapO (evE FL N ρ) as = some ds) (h : FL f ds = some (.bool b)) : evT FL (N + 2) ρ (.fn f as) = some b := ob_i (f := truthD) (ev_fn ha h) rfl
theorem filt_row : ∀ {ds : List Nat}, (∀ d ∈ ds, d < 6) → (symI2 ds).filter (fun x => decide (x < 256)) = ds.map opT
  | [], _ => rfl
  | [d], h => by
    rcases six (h d (.head _)) with rfl | rfl | rfl | rfl | rfl | rfl <;> rfl
  | d :: e :: r, h => by
    have ih := filt_row (ds := e :: r) fun x hx => h x (.tail _ hx)
    have hd : decide (opT d < 256) = true := by
      rcases six (h d (.head _)) with rfl | rfl | rfl | rfl | rfl | rfl <;> rfl
    simp only [symI2, List.filter_cons, hd, if_true, ih]
    rfl
theorem S20 (h13 : ρ.lookup 13 = some (.list ((rowI z).map .int))) (h38 : ρ.lookup 38 = none) : exO FL 20 (n + 2) ρ ps_law_20 = some (.next, upd ρ 14 (.list ((symZ z).map .int))) := by
  have e : (rowI z).filter (fun x => decide (x < 256)) = symZ z := by
    unfold rowI symZ
    rw [List.filter_cons, if_pos (by decide), List.filter_append, filt_row (drs_lt z)]
    rfl
  rw [← e]
  refine ex_set (ev_compFA (f := .int) h38 (evI_own h13) (fun x _ => evT_fn (mapO_1 (ev_var rfl)) (fl60 x)) (fun x _ _ => ev_var rfl) ?_)
  have : ∀ ds : List Nat, (symI2 ds).length ≤ 2 * ds.length := by
    intro ds
    induction ds with
    | nil => simp [symI2]
    | cons d r ih =>
      cases r with
      | nil => simp [symI2]
      | cons e r => simp only [symI2, List.length_cons] at ih ⊢; omega
  have h1 := this (drs z)
  have h2 := drs_len z
  simp only [rowI, List.length_cons, List.length_append, List.length_nil]; omega
theorem S21 (h11 : ρ.lookup 11 = some (.list ((drs z).map nD))) (h14 : ρ.lookup 14 = some (.list ((symZ z).map .int))) (h50 : ρ.lookup 50 = none) : exO FL 20 (n + 2) ρ ps_law_21 = some (.next, ρ) := by
  refine ex_iffF (evT_cmp (u := .list ((symZ z).map .int)) (v := .list ((symZ z).map .int)) (ev_own h14) ?_ (cmp_self (sh_list ?_)))
  · rw [show (symZ z).map PyData.int = ([.int 255] ++ (drs z).map fun d => (.int (opT d) : D)) ++ [.int 0] from by simp [symZ]]
    refine ev_addL (ev_addL (ev_list (mapO_1 ev_lit) (by simp)) (ev_compA (f := nD) h50 (evI_own h11) (fun d hd => ?_) (by simp [drs])) (by simp [drs])) (ev_list (mapO_1 ev_lit) (by simp)) (by simp [drs])
    exact ev_itemL (i := d) (ev_list rfl (by simp)) (ev_var rfl) (opT_at (drs_lt z d hd)) (by have := drs_lt z d hd; omega)
  · simp [shallow]
end
end Ev
namespace Ev
open PySem PySem.StrLaws PySem.Builtin PySem.Builtin.Str

-- how big
theorem pickL_len {α : Type} (xs : List α) (lo hi st : Option Int) : (pickL xs lo hi st).length ≤ xs.length := by
  have h1 := slicePick_size_le ((xs.map fun _ => Value.none).toArray) lo hi st
  have e : slicePick (xs.map fun _ => Value.none).toArray lo hi st = (pickL (xs.map fun _ => Value.none) lo hi st).toArray := by
    unfold slicePick pickL
    simp
  rw [e] at h1
  simpa [pickL_map] using h1
theorem mem_pickL {α : Type} {xs : List α} {lo hi st : Option Int} {x : α} (h : x ∈ pickL xs lo hi st) : x ∈ xs := by
  unfold pickL at h
  rw [List.mem_filterMap] at h
  obtain ⟨i, _, hi⟩ := h
  exact List.mem_of_getElem? hi
theorem bits_sum {m : Nat} : ∀ {l : List Int}, (∀ x ∈ l, Builtin.Int.intBits x ≤ m) → Builtin.Int.intBits l.sum ≤ m + l.length
  | [], _ => by simp [Builtin.Int.intBits]
  | a :: r, h => by
    have h1 := bits_sum (l := r) fun x hx => h x (.tail _ hx)
    have h2 := intBits_add_le (h a (.head _)) h1
    rw [List.sum_cons, List.length_cons]; omega
theorem bits_cell {ns : List Int} (hl : ns.length ≤ 63) (hy : (PyData.list (ns.map .int)).layable0 = true) (i : Nat) (hi : i < 6) : Builtin.Int.intBits (cell ns i) ≤ 1048640 := by
  have h1 := bits_sum (l := pickL ns (some (i : Int)) none (some 6)) fun x hx => PyData.bits_item_of_ints hy (mem_pickL hx)
  have h2 := pickL_len ns (some (i : Int)) none (some 6)
  have h3 : Builtin.Int.intBits (cellK i) ≤ 30 := by
    rcases six hi with rfl | rfl | rfl | rfl | rfl | rfl <;> decide +kernel
  have h4 := intBits_add_le h3 h1
  unfold cell
  omega
theorem pick_last {A B : List D} (hB : B.length = 6) : pickL (A ++ B) (some (-6)) none none = B := by
  have hl : (A ++ B).length = A.length + 6 := by simp [hB]
  have hr : sliceRange (sliceBounds (some (-6)) none none (A ++ B).length).1 (sliceBounds (some (-6)) none none (A ++ B).length).2.1 (sliceBounds (some (-6)) none none (A ++ B).length).2.2 = (List.range 6).map fun k => A.length + k := by
    rw [hl]
    have e1 : sliceBounds (some (-6)) none none (A.length + 6) = ((A.length : Int), ((A.length + 6 : Nat) : Int), 1) := by
      simp only [sliceBounds, Option.getD_none]
      rw [if_pos (by decide), if_pos (by decide), if_pos (by decide)]
      congr 1
      omega
    rw [e1]
    simp only [sliceRange]
    rw [if_pos (by decide), if_pos (by omega)]
    have e2 : ((((A.length + 6 : Nat) : Int) - (A.length : Int) + 1 - 1) / 1).toNat = 6 := by omega
    rw [e2]
    refine List.map_congr_left fun k _ => ?_
    omega
  unfold pickL
  rw [hr, picks (A ++ B) 6 A.length (by rw [hl]; exact Nat.le_refl _)]
  simp [← hB]

section
variable {ρ : Rho} {n : Nat} {z : Int} {c : Nat → Int}
noncomputable def csI (c : Nat → Int) : List Int := (List.range 6).map c
noncomputable def allI (z : Int) (c : Nat → Int) : List Int := rowI z ++ csI c
theorem allI_len (z : Int) (c : Nat → Int) : (allI z c).length ≤ 40 := by
  have : ∀ ds : List Nat, (symI2 ds).length ≤ 2 * ds.length := by
    intro ds
    induction ds with
    | nil => simp [symI2]
    | cons d r ih =>
      cases r with
      | nil => simp [symI2]
      | cons e r => simp only [symI2, List.length_cons] at ih ⊢; omega
  have h1 := this (drs z)
  have h2 := drs_len z
  simp only [allI, rowI, csI, List.length_cons, List.length_append, List.length_nil, List.length_map, List.length_range]; omega
theorem it_all {N : Nat} (h1 : ρ.lookup 1 = some (.list ((List.range 6).map fun i => .int (c i)))) (h13 : ρ.lookup 13 = some (.list ((rowI z).map .int))) : evI FL (N + 3) ρ (.bin .Add (.own 13) (.own 1)) = some ((allI z c).map .int) := by
  have hl := allI_len z c
  simp only [allI, List.length_append] at hl
  have hc : (csI c).length = 6 := by simp [csI]
  rw [show (allI z c).map PyData.int = (rowI z).map .int ++ (List.range 6).map fun i => .int (c i) from by simp [allI, csI]]
  exact evI_E rfl (ev_addL (ev_own h13) (ev_own h1) (by simp; omega))
noncomputable def kB (z : Int) (c : Nat → Int) : List Bool := (allI z c).map (fun x => decide (256 ≤ x)) ++ (allI z c).map (fun x => x == 0)
noncomputable def kB2 (z : Int) (c : Nat → Int) : List Bool := kB z c ++ (csI c).map fun x => decide (x < 256)
theorem S22 (h1 : ρ.lookup 1 = some (.list ((List.range 6).map fun i => .int (c i)))) (h13 : ρ.lookup 13 = some (.list ((rowI z).map .int))) (h45 : ρ.lookup 45 = none) : exO FL 20 (n + 2) ρ ps_law_22 = some (.next, upd ρ 15 (.list ((kB z c).map .bool))) := by
  have hl := allI_len z c
  rw [kB, List.map_append, List.map_map, List.map_map]
  exact ex_set (ev_addL (ev_compA (f := .int) h45 (it_all h1 h13) (fun x _ => ev_fn (mapO_1 (ev_var rfl)) (fl61 x)) (by omega)) (ev_compA (f := .int) h45 (it_all h1 h13) (fun x _ => ev_fn (mapO_1 (ev_var rfl)) (fl62 x)) (by omega)) (by simp; omega))
theorem max_is (x : Int) : cmpD .Eq (.int (if 256 > x then 256 else x)) (.int x) = some (decide (256 ≤ x)) := by
  simp only [cmpD, ltD, inD, ninD, asInt, asStr, asBool, Option.bind_some, shallow, Bool.and_self, if_true, PyData.eqv, Option.some.injEq]
  split
  · have : ¬ (256 ≤ x) := by omega
    simp [this]; omega
  · have : 256 ≤ x := by omega
    simp [this]
theorem min_is (x : Int) : cmpD .Eq (.int (if 255 < x then 255 else x)) (.int x) = some (decide (x < 256)) := by
  simp only [cmpD, ltD, inD, ninD, asInt, asStr, asBool, Option.bind_some, shallow, Bool.and_self, if_true, PyData.eqv, Option.some.injEq]
  split
  · have : ¬ (x < 256) := by omega
    simp [this]; omega
  · have : x < 256 := by omega
    simp [this]
theorem q_max {a b : Int} : builtinQ n_max [.int a, .int b] = some (.int (if b > a then b else a)) := by
  show maxD (.int a) (.int b) = _
  rfl
theorem q_min {a b : Int} : builtinQ n_min [.int a, .int b] = some (.int (if b < a then b else a)) := by
  show minD (.int a) (.int b) = _
  rfl
theorem S23 (h1 : ρ.lookup 1 = some (.list ((List.range 6).map fun i => .int (c i)))) (h13 : ρ.lookup 13 = some (.list ((rowI z).map .int))) (h15 : ρ.lookup 15 = some (.list ((kB z c).map .bool))) (h45 : ρ.lookup 45 = none) : exO FL 20 (n + 2) ρ ps_law_23 = some (.next, ρ) := by
  have hl := allI_len z c
  refine ex_iffF (evT_cmp (u := .list ((kB z c).map .bool)) (v := .list ((kB z c).map .bool)) (ev_own h15) ?_ (cmp_self (sh_list (by simp [shallow]))))
  rw [kB, List.map_append, List.map_map, List.map_map]
  refine ev_addL (ev_compA (f := .int) h45 (it_all h1 h13) (fun x _ => ?_) (by omega)) (ev_compA (f := .int) h45 (it_all h1 h13) (fun x _ => ?_) (by omega)) (by simp; omega)
  · exact ev_cmp (ev_bi (mapO_2 (ev_own rfl) ev_lit) q_max) (ev_own rfl) (max_is x)
  · have : (!(x != 0)) = (x == 0) := by cases h : x == 0 <;> simp [bne, h]
    show _ = some (PyData.bool (x == 0))
    rw [← this]
    exact ev_no (u := .int x) (ev_var rfl) rfl
theorem S24 (h1 : ρ.lookup 1 = some (.list ((List.range 6).map fun i => .int (c i)))) (h15 : ρ.lookup 15 = some (.list ((kB z c).map .bool))) (h40 : ρ.lookup 40 = none) : exO FL 20 (n + 2) ρ ps_law_24 = some (.next, upd ρ 15 (.list ((kB2 z c).map .bool))) := by
  have hl := allI_len z c
  have hk : (kB z c).length ≤ 80 := by simp [kB]; omega
  rw [kB2, List.map_append, csI, List.map_map, List.map_map]
  exact ex_set (ev_addL (ev_own h15) (ev_compA (f := fun i => .int (c i)) h40 (evI_own h1) (fun x _ => ev_fn (mapO_1 (ev_var rfl)) (fl60 (c x))) (by simp)) (by simp; omega))
theorem S25 (h1 : ρ.lookup 1 = some (.list ((List.range 6).map fun i => .int (c i)))) (h15 : ρ.lookup 15 = some (.list ((kB2 z c).map .bool))) (h40 : ρ.lookup 40 = none) : exO FL 20 (n + 2) ρ ps_law_25 = some (.next, ρ) := by
  refine ex_iffF (evT_cmp (u := .list (((csI c).map fun x => decide (x < 256)).map .bool)) (v := .list (((csI c).map fun x => decide (x < 256)).map .bool)) (ev_slice (u := .list ((kB2 z c).map .bool)) (l := some (-6)) (h := none) (k := none) (ev_own h15) rfl rfl rfl ?_) ?_ (cmp_self (sh_list (by simp [shallow]))))
  · simp only [sliceD]
    rw [if_pos (by decide), kB2, List.map_append, pick_last (by simp [csI])]
  · rw [csI, List.map_map, List.map_map]
    exact ev_compA (f := fun i => .int (c i)) h40 (evI_own h1) (fun x _ => ev_cmp (ev_bi (mapO_2 (ev_own rfl) ev_lit) q_min) (ev_own rfl) (min_is (c x))) (by simp)
end
end Ev
namespace Ev
open PySem PySem.StrLaws PySem.Builtin PySem.Builtin.Str

/-- the figure of a cell and its value with the sign before it -/
noncomputable def plV (c : Int) : Int := c.fdiv 12
noncomputable def vlC (z : Nat) (p : Int) : Int := match z with
  | 0 => p
  | 1 => -p
  | _ => -p - 1
noncomputable def vl (c : Int) : Int := vlC (fm c 3) (plV c)
noncomputable def tkC (z : Nat) : Int := [14, 15, 31].getD z 14
theorem tok_at {z : Nat} (h : z < 3) : dget tokL (T [mkC z]) = some (.int (tkC z)) := by
  rcases (show z = 0 ∨ z = 1 ∨ z = 2 by omega) with rfl | rfl | rfl <;> kernel_rfl
theorem num_0 (p : Int) : d_num [.int 14, .int p] = some (.int p) := by kernel_rfl
theorem num_1 (p : Int) : d_num [.int 15, .int p] = some (.int (-p)) := by kernel_rfl
theorem num_2 (p : Int) : d_num [.int 31, .int p] = some (.int (-p - 1)) := by kernel_rfl
theorem num_is {z : Nat} (h : z < 3) (p : Int) : d_num [.int (tkC z), .int p] = some (.int (vlC z p)) := by
  rcases (show z = 0 ∨ z = 1 ∨ z = 2 by omega) with rfl | rfl | rfl
  · exact num_0 p
  · exact num_1 p
  · exact num_2 p
theorem fdiv_fdiv (c : Int) : (c.fdiv 12000) * 1000 + (fg c : Nat) = plV c := by
  have e1 : c.fdiv 12000 = (c.fdiv 12).fdiv 1000 := by
    rw [Int.fdiv_eq_ediv_of_nonneg _ (by decide), Int.fdiv_eq_ediv_of_nonneg _ (by decide), Int.fdiv_eq_ediv_of_nonneg _ (by decide)]
    omega
  have e2 : ((fg c : Nat) : Int) = (c.fdiv 12).fmod 1000 := (fm_eq (c.fdiv 12) (b := 1000) (by decide)).symm
  rw [e1, e2, plV, Int.mul_comm]
  exact Int.mul_fdiv_add_fmod _ _
theorem vl_bits {c : Int} {m : Nat} (h : Builtin.Int.intBits c ≤ m) (hm : 1 ≤ m) : Builtin.Int.intBits (vl c) ≤ m + 1 := by
  have h1 : Builtin.Int.intBits (plV c) ≤ m := intBits_fdiv_le h
  have h2 := intBits_neg_le h1
  have h3 : Builtin.Int.intBits 1 ≤ m := Nat.le_trans (by decide +kernel) hm
  have h4 := intBits_sub_le h2 h3
  unfold vl vlC
  split
  · omega
  · omega
  · rw [Nat.max_self] at h4; exact h4
section
variable {ρ : Rho} {n : Nat} {z : Int} {c : Nat → Int}
noncomputable def vD (c : Nat → Int) (i : Nat) : D := .int (vl (c i))
theorem S26 (h51 : ρ.lookup 51 = some (.dict tokL)) (h1 : ρ.lookup 1 = some (.list ((List.range 6).map fun i => .int (c i)))) (h3 : ρ.lookup 3 = some (.list ((List.range 5).map fun i => .str (T [mk (c i)])))) (h7 : ρ.lookup 7 = some (.list ((List.range 5).map fun i => .tuple [hereS, .int (fg (c i) : Nat)]))) (h39 : ρ.lookup 39 = none) :
    exO FL 20 (n + 2) ρ ps_law_26 = some (.next, upd ρ 16 (.list ((List.range 5).map (vD c)))) := by
  refine ex_set (ev_compR (k := 5) rg5 (by decide) h39 fun i hi => ?_)
  have h3z := fm_lt (c i) (b := 3) (by decide)
  refine ev_fn (ds := [.int (tkC (fm (c i) 3)), .int (plV (c i))]) (mapO_2 (ev_item (u := .dict tokL) (v := .str (T [mk (c i)])) (ev_own ((lk_ne (by decide)).trans h51)) (ev_itemR (f := fun i => .str (T [mk (c i)])) (ev_own ((lk_ne (by decide)).trans h3)) (ev_var rfl) hi (by decide)) (tok_at h3z)) ?_) (num_is h3z _)
  refine ev_bin (u := .int ((c i).fdiv 12000 * 1000)) (v := .int (fg (c i) : Nat)) (ev_bin (u := .int ((c i).fdiv 12000)) (v := .int 1000) (ev_div (u := c i) (ev_itemR (f := fun i => .int (c i)) (ev_own ((lk_ne (by decide)).trans h1)) (ev_var rfl) (Nat.lt_trans hi (by decide)) (by decide)) (by decide) rfl) ev_lit ?_)
    (ev_item (u := .tuple [hereS, .int (fg (c i) : Nat)]) (v := .int ((1 : Nat) : Int)) (ev_itemR (f := fun i => .tuple [hereS, .int (fg (c i) : Nat)]) (ev_own ((lk_ne (by decide)).trans h7)) (ev_var rfl) hi (by decide)) ev_lit (it_tuple rfl (by decide))) ?_
  · have hb : bitsOk ((c i).fdiv 12000) 1000 = true := by
      have : Builtin.Int.intBits 1000 ≤ 64 := by decide +kernel
      simp only [bitsOk, decide_eq_true this, Bool.or_true, Bool.true_or]
    simp only [binD, addD, mulD, intOp, asInt, asStr, asList, Option.bind_some, if_pos hb]
  · simp only [binD, addD, mulD, intOp, asInt, asStr, asList, Option.bind_some, fdiv_fdiv]
theorem S27 (h1 : ρ.lookup 1 = some (.list ((List.range 6).map fun i => .int (c i)))) (h40 : ρ.lookup 40 = none) : exO FL 20 (n + 2) ρ ps_law_27 = some (.next, upd ρ 17 (.list ((List.range 5).map (vD c)))) := by
  refine ex_set (ev_compA h40 (sl5 h1) (fun i _ => ?_) (by simp))
  have hp : ∀ n, evE FL (n + 2) ((40, PyData.int (c i)) :: ρ) (.bin .FloorDiv (.own 40) (.lit (.int 12))) = some (.int (plV (c i))) := fun n => ev_div (ev_own rfl) (by decide) rfl
  have h3z := fm_lt (c i) (b := 3) (by decide)
  refine ev_itemL (i := fm (c i) 3) (ev_list (ds := [.int (plV (c i)), .int (0 - plV (c i)), .int (-1 - plV (c i))]) (mapO_3 (hp _) (ev_bin (u := .int 0) (v := .int (plV (c i))) ev_lit (hp _) rfl) (ev_bin (u := .int (-1)) (v := .int (plV (c i))) rfl (hp _) rfl)) (by simp)) (ev_mod (ev_own rfl) (by decide) (fm_eq (c i) (b := 3) (by decide))) ?_ (by omega)
  unfold vD vl
  generalize plV (c i) = p
  rcases (show fm (c i) 3 = 0 ∨ fm (c i) 3 = 1 ∨ fm (c i) 3 = 2 by omega) with e | e | e <;> rw [e]
  · rfl
  · simp [vlC]
  · simp [vlC]; omega
theorem fl58 {a b : Int} (h : bitsOk a b = true) : FL 58 [.int a, .int b] = some (.int (a * b)) := by
  have e : evE F0 4 [(0, PyData.int a), (1, PyData.int b)] (.bin .Mult (.own 0) (.own 1)) = some (.int (a * b)) := ev_bin (u := .int a) (v := .int b) (ev_own rfl) (ev_own rfl) (by simp only [binD, addD, mulD, intOp, asInt, asStr, asList, Option.bind_some, if_pos h])
  show callD cx_mul pr_mul gl_mul ps_mul F0 5 10 [.int a, .int b] = _
  unfold callD
  rw [if_pos (show ([.int a, .int b] : List D).length = pr_mul.length from rfl)]
  have e2 : exS F0 5 10 (rhoZ 0 [.int a, .int b] ++ gl_mul) ps_mul = some (.ret (.int (a * b)), [(0, PyData.int a), (1, PyData.int b)]) := exS_ret (ex_ret (ev_bin (u := .int a) (v := .int b) (ev_own rfl) (ev_own rfl) (by simp only [binD, addD, mulD, intOp, asInt, asStr, asList, Option.bind_some, if_pos h])))
  rw [e2]
theorem pow2 {a : Int} (h : Builtin.Int.intBits a ≤ 2000000) : binD .Pow (.int a) (.int 2) = some (.int (a ^ 2)) := by
  simp only [binD, addD, mulD, intOp, asInt, asStr, asList, Option.bind_some]
  rw [if_pos ⟨by decide, by omega⟩]; rfl
theorem S28 (hb : ∀ i, i < 6 → Builtin.Int.intBits (c i) ≤ 1048640) (h16 : ρ.lookup 16 = some (.list ((List.range 5).map (vD c)))) (h17 : ρ.lookup 17 = some (.list ((List.range 5).map (vD c)))) : exO FL 20 (n + 2) ρ ps_law_28 = some (.next, ρ) := by
  have b0 := vl_bits (hb 0 (by decide)) (by decide)
  have b1 := vl_bits (hb 1 (by decide)) (by decide)
  have e0 : ∀ N, evE FL (N + 2) ρ (.item (.own 17) (.lit (.int 0))) = some (.int (vl (c 0))) := fun N => ev_itemR (f := vD c) (i := 0) (ev_own h17) ev_lit (by decide) (by decide)
  have e1 : ∀ N, evE FL (N + 2) ρ (.item (.own 17) (.lit (.int 1))) = some (.int (vl (c 1))) := fun N => ev_itemR (f := vD c) (i := 1) (ev_own h17) ev_lit (by decide) (by decide)
  generalize vl (c 0) = a at *
  generalize vl (c 1) = b at *
  have hs := intBits_add_le b0 b1
  have hd := intBits_sub_le b0 b1
  have hm : bitsOk a b = true := by
    have : Builtin.Int.intBits a + Builtin.Int.intBits b ≤ 134217728 := by omega
    simp only [bitsOk, decide_eq_true this, Bool.or_true]
  refine ex_iffF (evT_any (anyO_f (evT_cmp (ev_own h16) (ev_own h17) (cmp_self (sh_list (by simp [shallow, vD])))) (anyO_f (evT_cmp (u := .int (a * b)) (v := .int (a * b)) (ev_fn (mapO_2 (e0 _) (e1 _)) (fl58 hm)) (ev_div (u := (a + b) ^ 2 - (a - b) ^ 2) (ev_bin (u := .int ((a + b) ^ 2)) (v := .int ((a - b) ^ 2)) (ev_bin (u := .int (a + b)) (v := .int 2) (ev_bin (u := .int a) (v := .int b) (e0 _) (e1 _) rfl) ev_lit (pow2 (by omega))) (ev_bin (u := .int (a - b)) (v := .int 2) (ev_bin (u := .int a) (v := .int b) (e0 _) (e1 _) rfl) ev_lit (pow2 (by omega))) rfl) (by decide) ?_) (cmp_self rfl)) rfl)))
  have : (a + b) ^ 2 - (a - b) ^ 2 = 4 * (a * b) := by
    rw [Int.pow_succ, Int.pow_succ, Int.pow_zero, Int.pow_succ, Int.pow_succ, Int.pow_zero, Int.one_mul, Int.one_mul, Int.add_mul, Int.sub_mul, Int.mul_add, Int.mul_add, Int.mul_sub, Int.mul_sub, Int.mul_comm b a]
    omega
  rw [this, Int.fdiv_eq_ediv_of_nonneg _ (by decide)]
  omega
-- the pairs
theorem genO_F {α : Type} {ev : Rho → PE → Option D} {tst : Rho → PE → Option Bool} {it : Rho → PE → Option (List D)} {elt : PE} {x : Nat} {iter : PE} {rest : List (Nat × PE × List PE)} {ls : List α} {f : α → D} {g : α → List D}
    (hx : ρ.lookup x = none) (hi : it ρ iter = some (ls.map f)) (h : ∀ a ∈ ls, genO ev tst it elt rest ((x, f a) :: ρ) = some (g a)) : genO ev tst it elt ((x, iter, []) :: rest) ρ = some (ls.flatMap g) := by
  have e : mapO (fun d => condO (allO (tst ((x, d) :: ρ)) []) (genO ev tst it elt rest ((x, d) :: ρ))) (ls.map f) = some (ls.map g) := by
    clear hi
    induction ls with
    | nil => rfl
    | cons a r ih => exact mapO_cons' (ob_i (a := true) rfl (h a (.head _))) (ih fun b hb => h b (.tail _ hb))
  exact gd_i (by rw [hx]; rfl) (ob_i hi (ob_i e rfl))
theorem ev_compG {F : Nat → List D → Option D} {N : Nat} {elt : PE} {gens : List (Nat × PE × List PE)} {ds : List D} (h0 : gens.any (fun g => (ρ.lookup g.1).isSome) = false) (e : genO (evE F N) (evT F N) (evI F N) elt gens ρ = some ds) (hl : ds.length ≤ 16777215) : evE F (N + 1) ρ (.comp elt gens) = some (.list ds) := gd_i (by rw [h0]; rfl) (ob_i e (gd_i (decide_eq_true hl) rfl))
noncomputable def pairsD : List D := (List.range 10).map fun k => .tuple [.int (px k : Nat), .int (py k : Nat)]
theorem S29 (h42 : ρ.lookup 42 = none) (h43 : ρ.lookup 43 = none) : exO FL 20 (n + 2) ρ ps_law_29 = some (.next, upd ρ 18 (.list pairsD)) := by
  refine ex_set ?_
  have e : genO (evE FL 19) (evT FL 19) (evI FL 19) (.tuple [(.var 42), (.var 43)]) [(42, (.range [(.lit (.int 5))]), []), (43, (.range [(.bin .Add (.own 42) (.lit (.int 1))), (.lit (.int 5))]), [])] ρ = some ((List.range 5).flatMap fun p => (List.range (4 - p)).flatMap fun q => [.tuple [.int (p : Nat), .int ((p + 1 + q : Nat) : Int)]]) := by
    refine genO_F h42 (evI_range (ds := [.int ((5 : Nat) : Int)]) (mapO_1 ev_lit) rg5) fun p hp => ?_
    have hp := List.mem_range.mp hp
    refine genO_F (f := fun (q : Nat) => .int ((p + 1 + q : Nat) : Int)) ((lk_ne (by decide)).trans h43) (evI_range (ds := [.int ((p + 1 : Nat) : Int), .int 5]) (mapO_2 (ev_bin (u := .int (p : Int)) (ev_own rfl) ev_lit int_add_one) ev_lit) ?_) fun q _ => ?_
    · rcases five hp with rfl | rfl | rfl | rfl | rfl <;> kernel_rfl
    · exact ob_i (ev_tuple (ds := [.int (p : Int), .int ((p + 1 + q : Nat) : Int)]) (mapO_2 (ev_var rfl) (ev_var rfl)) (by simp)) rfl
  have h2 : ((List.range 5).flatMap fun p => (List.range (4 - p)).flatMap fun q => [(.tuple [.int (p : Nat), .int ((p + 1 + q : Nat) : Int)] : D)]) = pairsD := by kernel_rfl
  rw [← h2]
  exact ev_compG (by simp only [List.any_cons, List.any_nil, h42, h43]; rfl) e (by rw [h2]; decide)
/-- what a comparison says -/
noncomputable def hold (d : Nat) (a b : Int) : Bool := match d with
  | 0 => decide (a < b)
  | 1 => decide (b < a)
  | 2 => decide (a ≤ b)
  | 3 => decide (b ≤ a)
  | 4 => a == b
  | _ => !(a == b)
theorem holds_0 (a b : Int) : d_holds [.int 20, .int a, .int b] = some (.bool (decide (a < b))) := by kernel_rfl
theorem holds_1 (a b : Int) : d_holds [.int 21, .int a, .int b] = some (.bool (decide (b < a))) := by kernel_rfl
theorem holds_2 (a b : Int) : d_holds [.int 29, .int a, .int b] = some (.bool (decide (a ≤ b))) := by kernel_rfl
theorem holds_3 (a b : Int) : d_holds [.int 30, .int a, .int b] = some (.bool (decide (b ≤ a))) := by kernel_rfl
theorem holds_4 (a b : Int) : d_holds [.int 27, .int a, .int b] = some (.bool (a == b)) := by kernel_rfl
theorem holds_5 (a b : Int) : d_holds [.int 28, .int a, .int b] = some (.bool (!(a == b))) := by kernel_rfl
theorem holds_is {d : Nat} (h : d < 6) (a b : Int) : d_holds [.int (opT d), .int a, .int b] = some (.bool (hold d a b)) := by
  rcases six h with rfl | rfl | rfl | rfl | rfl | rfl
  · exact holds_0 a b
  · exact holds_1 a b
  · exact holds_2 a b
  · exact holds_3 a b
  · exact holds_4 a b
  · exact holds_5 a b
theorem plain_is {d : Nat} (h : d < 6) (a b : Int) : d_plain [.int (d : Int), .int a, .int b] = some (.bool (hold d a b)) := by
  rcases six h with rfl | rfl | rfl | rfl | rfl | rfl <;> kernel_rfl
end
end Ev
namespace Ev
open PySem PySem.StrLaws PySem.Builtin PySem.Builtin.Str

theorem fl52 (ds : List D) : FL 52 ds = d_symb ds := rfl
theorem fl53 (ds : List D) : FL 53 ds = d_beaten ds := rfl
theorem fl54 (ds : List D) : FL 54 ds = d_walks ds := rfl
theorem fl55 (ds : List D) : FL 55 ds = d_read ds := rfl
theorem fl58' (ds : List D) : FL 58 ds = d_mul ds := rfl
theorem fl57 (ds : List D) : FL 57 ds = d_holds ds := rfl
theorem fl63 (ds : List D) : FL 63 ds = d_plain ds := rfl
theorem fl59 (ds : List D) : FL 59 ds = d_lev ds := rfl
section
variable {ρ : Rho} {n : Nat} {z : Int} {c : Nat → Int}
/-- what is told of the ten games -/
noncomputable def tb (z : Int) (c : Nat → Int) (k : Nat) : Bool := hold (dr z k) (vl (c (px k))) (vl (c (py k)))
noncomputable def bL (b : Nat → Bool) : D := .list ((List.range 10).map fun k => .bool (b k))
theorem pair_at {k : Nat} (hk : k < 10) {N : Nat} (h18 : ρ.lookup 18 = some (.list pairsD)) :
    evE FL (N + 3) ((39, .int (k : Int)) :: ρ) (.item (.item (.own 18) (.var 39)) (.lit (.int 0))) = some (.int (px k : Nat)) ∧ evE FL (N + 3) ((39, .int (k : Int)) :: ρ) (.item (.item (.own 18) (.var 39)) (.lit (.int 1))) = some (.int (py k : Nat)) := by
  have h : evE FL (N + 2) ((39, .int (k : Int)) :: ρ) (.item (.own 18) (.var 39)) = some (.tuple [.int (px k : Nat), .int (py k : Nat)]) := ev_itemR (k := 10) (f := fun k => .tuple [.int (px k : Nat), .int (py k : Nat)]) (ev_own ((lk_ne (by decide)).trans h18)) (ev_var rfl) hk (by decide)
  exact ⟨ev_item h (ev_lit (d := .int ((0 : Nat) : Int))) (it_tuple rfl (by decide)), ev_item h (ev_lit (d := .int ((1 : Nat) : Int))) (it_tuple rfl (by decide))⟩
theorem sym_at {k : Nat} (hk : k < 10) : ((symZ z).map PyData.int)[k + 1]? = some (.int (opT (dr z k))) := by
  simp only [symZ, List.map_cons, List.getElem?_cons_succ, List.map_append, List.map_map]
  rw [List.getElem?_append_left (by simp [drs]; exact hk)]
  simp [drs, hk]
theorem S30 (h14 : ρ.lookup 14 = some (.list ((symZ z).map .int))) (h16 : ρ.lookup 16 = some (.list ((List.range 5).map (vD c)))) (h18 : ρ.lookup 18 = some (.list pairsD)) (h39 : ρ.lookup 39 = none) : exO FL 20 (n + 2) ρ ps_law_30 = some (.next, upd ρ 19 (bL (tb z c))) := by
  refine ex_set (ev_compR (k := 10) rg10 (by decide) h39 fun i hi => ?_)
  obtain ⟨p1, p2⟩ := pxy hi
  exact ev_fn (mapO_3 (ev_itemL (i := i + 1) (ev_own ((lk_ne (by decide)).trans h14)) (ev_bin (u := .int (i : Int)) (ev_own rfl) ev_lit int_add_one) (sym_at hi) (by omega))
    (ev_itemR (f := vD c) (ev_own ((lk_ne (by decide)).trans h16)) (pair_at hi h18).1 p1 (by decide)) (ev_itemR (f := vD c) (ev_own ((lk_ne (by decide)).trans h16)) (pair_at hi h18).2 p2 (by decide))) ((fl57 _).trans (holds_is (dr_lt z i) _ _))
theorem S31 {bs : List Bool} (hl : bs.length ≤ 200) (h19 : ρ.lookup 19 = some (bL (tb z c))) (h15 : ρ.lookup 15 = some (.list (bs.map .bool))) (h44 : ρ.lookup 44 = none) : exO FL 20 (n + 2) ρ ps_law_31 = some (.next, ρ) := by
  have e : evI FL 18 ρ (.bin .Add (.own 19) (.own 15)) = some (((List.range 10).map (tb z c) ++ bs).map .bool) := by
    rw [List.map_append, List.map_map]
    exact evI_E rfl (ev_addL (ev_own h19) (ev_own h15) (by simp; omega))
  refine ex_iffF (evT_cmp (u := .list []) (v := .list []) ?_ (ev_list rfl (by simp)) (cmp_self rfl))
  have := ev_compFA (F := FL) (n := 18) (elt := .var 44) (t := .all [(.cmp .IsNot (.own 44) (.lit (.bool true))), (.cmp .IsNot (.own 44) (.lit (.bool false)))]) (f := .bool) (g := .bool) (b := fun _ => false) h44 e (fun b _ => ?_) (fun b _ h => by cases h) (by simp; omega)
  · rw [List.filter_eq_nil_iff.mpr (by simp)] at this
    exact this
  · cases b with
    | true => exact evT_all (allO_f (evT_cmp (ev_own rfl) ev_lit rfl))
    | false => exact evT_all (allO_t (evT_cmp (ev_own rfl) ev_lit rfl) (allO_f (evT_cmp (ev_own rfl) ev_lit rfl)))
theorem S32 (h11 : ρ.lookup 11 = some (.list ((drs z).map nD))) (h17 : ρ.lookup 17 = some (.list ((List.range 5).map (vD c)))) (h18 : ρ.lookup 18 = some (.list pairsD)) (h39 : ρ.lookup 39 = none) : exO FL 20 (n + 2) ρ ps_law_32 = some (.next, upd ρ 20 (.dict (kv (bt (tb z c))))) := by
  refine ex_set (ev_fn (mapO_1 (ev_compR (k := 10) (g := fun k => .bool (tb z c k)) rg10 (by decide) h39 fun i hi => ?_)) ((fl53 _).trans (beaten_ok (tb z c))))
  obtain ⟨p1, p2⟩ := pxy hi
  refine ev_fn (mapO_3 (ev_itemL (i := i) (d := nD (dr z i)) (ev_own ((lk_ne (by decide)).trans h11)) (ev_var rfl) ?_ (by omega))
    (ev_itemR (f := vD c) (ev_own ((lk_ne (by decide)).trans h17)) (pair_at hi h18).1 p1 (by decide)) (ev_itemR (f := vD c) (ev_own ((lk_ne (by decide)).trans h17)) (pair_at hi h18).2 p2 (by decide))) ((fl63 _).trans (plain_is (dr_lt z i) _ _))
  simp [drs, hi]
theorem S35 {b : Nat → Bool} (h19 : ρ.lookup 19 = some (bL b)) : exO FL 20 (n + 2) ρ ps_law_35 = some (.next, upd ρ 22 (.dict (kv (bt b)))) := ex_set (ev_fn (ds := [.list ((List.range 10).map fun k => .bool (b k))]) (mapO_1 (ev_var h19)) ((fl53 _).trans (beaten_ok b)))

-- the walks
theorem walkN_words {f : Nat → List Nat} (hf : FOk f) : ∀ (k m : Nat) (ws : List (List Nat)), (∀ w ∈ ws, Word w) → (∀ w ∈ ws, w.length ≤ m) → m + k ≤ 20 → (∀ w ∈ walkN f k ws, Word w) ∧ ∀ w ∈ walkN f k ws, w.length ≤ m + k
  | 0, m, ws, h, h', _ => ⟨h, h'⟩
  | k + 1, m, ws, h, h', hk => by
    obtain ⟨h1, h2⟩ := walk_words hf h h' (by omega)
    obtain ⟨h3, h4⟩ := walkN_words hf k (m + 1) _ h1 h2 (by omega)
    exact ⟨h3, fun w hw => by have := h4 w hw; omega⟩
theorem walkN_len {f : Nat → List Nat} (hf : FOk f) : ∀ (k : Nat) (ws : List (List Nat)), (walkN f k ws).length ≤ 10 ^ k * ws.length
  | 0, ws => by simp [walkN]
  | k + 1, ws => by
    have h1 := walk_len (ws := ws) hf
    have h2 := walkN_len hf k (walk1 f ws)
    refine Nat.le_trans h2 (Nat.le_trans (Nat.mul_le_mul_left _ h1) ?_)
    rw [Nat.pow_succ, Nat.mul_assoc]
    exact Nat.le_refl _
theorem walkN_add (f : Nat → List Nat) : ∀ (j k : Nat) (ws : List (List Nat)), walkN f k (walkN f j ws) = walkN f (j + k) ws
  | 0, k, ws => by simp [walkN]
  | j + 1, k, ws => by
    rw [show j + 1 + k = (j + k) + 1 from by omega]
    show walkN f k (walkN f j (walk1 f ws)) = walkN f (j + k) (walk1 f ws)
    exact walkN_add f j k _
theorem start_words : (∀ w ∈ start5, Word w) ∧ ∀ w ∈ start5, w.length ≤ 1 := by
  refine ⟨fun w hw => ?_, fun w hw => ?_⟩
  · simp only [start5, List.mem_cons, List.not_mem_nil, or_false] at hw
    rcases hw with rfl | rfl | rfl | rfl | rfl
    · exact ⟨⟨[], 0, rfl, by decide⟩, by decide⟩
    · exact ⟨⟨[], 1, rfl, by decide⟩, by decide⟩
    · exact ⟨⟨[], 2, rfl, by decide⟩, by decide⟩
    · exact ⟨⟨[], 3, rfl, by decide⟩, by decide⟩
    · exact ⟨⟨[], 4, rfl, by decide⟩, by decide⟩
  · simp only [start5, List.mem_cons, List.not_mem_nil, or_false] at hw
    rcases hw with rfl | rfl | rfl | rfl | rfl <;> decide
theorem rg1 : ∃ ls, rangeD [.int ((1 : Nat) : Int)] = some ls ∧ ls.length = 1 := ⟨[.int 0], by kernel_rfl, rfl⟩
theorem rg2' : ∃ ls, rangeD [.int ((2 : Nat) : Int)] = some ls ∧ ls.length = 2 := ⟨_, rg2, rfl⟩
theorem rg4 : ∃ ls, rangeD [.int ((4 : Nat) : Int)] = some ls ∧ ls.length = 4 := ⟨[.int 0, .int 1, .int 2, .int 3], by kernel_rfl, rfl⟩
theorem S36 {b : Nat → Bool} (h22 : ρ.lookup 22 = some (.dict (kv (bt b)))) : exO FL 20 (n + 2) ρ ps_law_36 = some (.next, upd ρ 23 (.list (strL (walkN (bt b) 2 start5)))) := by
  obtain ⟨ls, h1, h2⟩ := rg2'
  exact ex_set (ev_fn (ds := [.list (strL start5), .dict (kv (bt b)), .int ((2 : Nat) : Int)]) (mapO_3 (ev_list rfl (by decide)) (ev_var h22) ev_lit) ((fl54 _).trans <| walks_ok (m := 1) (bt_ok b) start_words.1 start_words.2 (by decide) (by decide) h1 h2))
theorem S37 {b : Nat → Bool} (h23 : ρ.lookup 23 = some (.list (strL (walkN (bt b) 2 start5)))) (h22 : ρ.lookup 22 = some (.dict (kv (bt b)))) : exO FL 20 (n + 2) ρ ps_law_37 = some (.next, upd ρ 24 (.list (strL (walkN (bt b) 3 start5)))) := by
  obtain ⟨ls, h1, h2⟩ := rg1
  obtain ⟨w1, w2⟩ := walkN_words (bt_ok b) 2 1 start5 start_words.1 start_words.2 (by decide)
  have hl := walkN_len (bt_ok b) 2 start5
  rw [← walkN_add (bt b) 2 1 start5]
  exact ex_set (ev_fn (mapO_3 (ev_var h23) (ev_var h22) ev_lit) ((fl54 _).trans <| walks_ok (m := 3) (bt_ok b) w1 w2 (by decide) (by rw [show start5.length = 5 from rfl] at hl; rw [Nat.pow_one]; omega) h1 h2))
theorem S38 {b : Nat → Bool} (h24 : ρ.lookup 24 = some (.list (strL (walkN (bt b) 3 start5)))) (h22 : ρ.lookup 22 = some (.dict (kv (bt b)))) : exO FL 20 (n + 2) ρ ps_law_38 = some (.next, upd ρ 25 (.list (strL (walkN (bt b) 4 start5)))) := by
  obtain ⟨ls, h1, h2⟩ := rg1
  obtain ⟨w1, w2⟩ := walkN_words (bt_ok b) 3 1 start5 start_words.1 start_words.2 (by decide)
  have hl := walkN_len (bt_ok b) 3 start5
  rw [← walkN_add (bt b) 3 1 start5]
  exact ex_set (ev_fn (mapO_3 (ev_var h24) (ev_var h22) ev_lit) ((fl54 _).trans <| walks_ok (m := 4) (bt_ok b) w1 w2 (by decide) (by rw [show start5.length = 5 from rfl] at hl; rw [Nat.pow_one]; omega) h1 h2))
theorem tri_ok : ∀ l : Nat, l < 11 → bitsOk (l : Int) ((l : Int) - 1) = true ∧ ((l : Int) * ((l : Int) - 1)).fdiv 2 = ((tri l : Nat) : Int) := by decide +kernel
noncomputable def triSum (f : Nat → List Nat) : Nat := tri (f 0).length + (tri (f 1).length + (tri (f 2).length + (tri (f 3).length + tri (f 4).length)))
theorem S33 {f : Nat → List Nat} (hf : FOk f) (h20 : ρ.lookup 20 = some (.dict (kv f))) (h45 : ρ.lookup 45 = none) : exO FL 20 (n + 2) ρ ps_law_33 = some (.next, upd ρ 21 (.int (10 - (triSum f : Nat)))) := by
  have hs : (((List.range 5).map fun i => ((tri (f i).length : Nat) : Int)).sum : Int) = ((triSum f : Nat) : Int) := by
    have r5 : List.range 5 = [0, 1, 2, 3, 4] := rfl
    rw [r5]
    simp only [List.map_cons, List.map_nil, List.sum_cons, List.sum_nil, triSum]
    omega
  refine ex_set (ev_bin (u := .int 10) (v := .int ((triSum f : Nat) : Int)) ev_lit ?_ rfl)
  rw [← hs]
  refine ev_bi (ds := [.list (((List.range 5).map fun i => ((tri (f i).length : Nat) : Int)).map .int)]) (mapO_1 ?_) q_sum
  rw [List.map_map]
  refine ev_compA (ls := List.range 5) (f := fun i => sD [97 + i]) h45 (evI_str rfl ev_lit) (fun i hi => ?_) (by simp)
  have hi := List.mem_range.mp hi
  have hl := hf.len i
  have e : ∀ N, evE FL (N + 3) ((45, sD [97 + i]) :: ρ) (.bi ⟨#[108, 101, 110]⟩ [(.item (.own 20) (.var 45))]) = some (.int ((f i).length : Int)) := fun N => ev_bi (ds := [.str (T (f i))]) (mapO_1 (ev_item (u := .dict (kv f)) (v := sD [97 + i]) (ev_own ((lk_ne (by decide)).trans h20)) (ev_var rfl) (kv_get hi))) (q_len.trans (by rw [T_len]))
  obtain ⟨t1, t2⟩ := tri_ok (f i).length (by omega)
  refine ev_div (u := ((f i).length : Int) * (((f i).length : Int) - 1)) (ev_bin (u := .int ((f i).length : Int)) (v := .int (((f i).length : Int) - 1)) (e _) (ev_bin (u := .int ((f i).length : Int)) (v := .int 1) (e _) ev_lit rfl) ?_) (by decide) t2
  simp only [binD, addD, mulD, intOp, asInt, asStr, asList, Option.bind_some, if_pos t1]
theorem cast_rings (f : Nat → List Nat) (h : triSum f ≤ 10) : (10 - (triSum f : Int)) + (((walkN f 4 [[97]]).filter fun w => decide (97 ∈ f (lastI w))).length : Int) = ((ringsOf f : Nat) : Int) := by
  unfold ringsOf
  unfold triSum at h ⊢
  omega
theorem S34 {f : Nat → List Nat} (hf : FOk f) (h10 : triSum f ≤ 10) (h20 : ρ.lookup 20 = some (.dict (kv f))) (h21 : ρ.lookup 21 = some (.int (10 - (triSum f : Nat)))) (h27 : ρ.lookup 27 = none) : exO FL 20 (n + 2) ρ ps_law_34 = some (.next, upd ρ 21 (.int (ringsOf f : Nat))) := by
  have hw : ∀ w ∈ ([[97]] : List (List Nat)), Word w := fun w hw => by
    simp only [List.mem_singleton] at hw
    subst hw
    exact ⟨⟨[], 0, rfl, by decide⟩, by decide⟩
  have hm : ∀ w ∈ ([[97]] : List (List Nat)), w.length ≤ 1 := fun w hw => by
    simp only [List.mem_singleton] at hw
    subst hw
    decide
  obtain ⟨ls, h1, h2⟩ := rg4
  obtain ⟨w1, w2⟩ := walkN_words hf 4 1 [[97]] hw hm (by decide)
  have hl := walkN_len hf 4 [[97]]
  simp only [List.length_cons, List.length_nil] at hl
  rw [← cast_rings f h10]
  refine ex_aug h21 (v := .int (((walkN f 4 [[97]]).filter fun w => decide (97 ∈ f (lastI w))).length : Int)) (ev_bi (ds := [.list (((walkN f 4 [[97]]).filter fun w => decide (97 ∈ f (lastI w))).map sD)]) (mapO_1 (ev_compFA (f := sD) h27 (evI_E rfl (ev_fn (ds := [.list (strL [[97]]), .dict (kv f), .int ((4 : Nat) : Int)]) (mapO_3 (ev_list rfl (by decide)) (ev_var h20) ev_lit) ((fl54 _).trans <| walks_ok (m := 1) hf hw hm (by decide) (by decide) h1 h2))) (fun w hw' => ?_) (fun w _ _ => ev_var rfl) (by omega))) (q_lenL.trans (by rw [List.length_map]))) rfl
  obtain ⟨v, i, rfl, hi, hlast⟩ := (w1 w hw').last
  have hlv := w2 _ hw'
  simp only [List.length_append, List.length_singleton] at hlv
  rw [hlast]
  refine evT_cmp (u := .str (T [97])) (v := .str (T (f i))) ev_lit (ev_item (u := .dict (kv f)) (v := .str (T [97 + i])) (ev_own ((lk_ne (by decide)).trans h20)) (ev_item (u := .str (T (v ++ [97 + i]))) (v := .int (-1)) (ev_own rfl) rfl (item_last (by omega))) (kv_get hi)) in_T
end
end Ev
namespace Ev
open PySem PySem.StrLaws PySem.Builtin PySem.Builtin.Str

noncomputable def sgn (r : Nat) : Nat := [42, 47, 60, 62, 61].getD r 42
noncomputable def mulCk (s k : Nat) : Bool := match d_mul [.str (T [s]), .int (k : Int)] with
  | some (.str x) => x == T (List.replicate k s)
  | _ => false
theorem mulCk_all : ([34, 42, 47, 60, 62, 61].all fun s => (List.range 16).all (mulCk s)) = true := by kernel_rfl
theorem mul_is {s k : Nat} (hs : s ∈ [34, 42, 47, 60, 62, 61]) (hk : k < 16) : d_mul [.str (T [s]), .int (k : Int)] = some (.str (T (List.replicate k s))) := by
  have h := List.all_eq_true.mp (List.all_eq_true.mp mulCk_all s hs) k (List.mem_range.mpr hk)
  unfold mulCk at h
  split at h
  · rename_i x e
    rw [e, eq_of_beq h]
  · cases h
noncomputable def qq (k : Nat) : List Nat := List.replicate k 34
noncomputable def tailK : List Nat := [107, 34, 32, 111, 102, 32, 34, 97, 108, 108, 34]
noncomputable def endsL (R : Nat) : List (List Nat) := [qq (2 * R + 1) ++ tailK, qq (2 * R + 1), qq (2 * R), qq (2 * R) ++ [107]]
noncomputable def goalL (R : Nat) : List (List Nat) := [qq R, qq R, qq R, qq R ++ [107]]
theorem ends_unq : ∀ R : Nat, R < 8 → (endsL R).map unq = goalL R := by decide +kernel
theorem eight {R : Nat} (h : R < 8) : R = 0 ∨ R = 1 ∨ R = 2 ∨ R = 3 ∨ R = 4 ∨ R = 5 ∨ R = 6 ∨ R = 7 := by
  revert R; decide
theorem mulq_is {R : Nat} (h : R < 8) : binD .Mult (.str (T [34])) (.int (R : Int)) = some (.str (T (qq R))) := by
  rcases eight h with rfl | rfl | rfl | rfl | rfl | rfl | rfl | rfl <;> kernel_rfl
noncomputable def k2 (r : Nat) : Int := [35, 47, 33, 34, 27].getD r 35
noncomputable def k1 (r : Nat) : Int := [16, 17, 20, 21, 22].getD r 16
noncomputable def duL (r R : Nat) : List D := List.replicate R (.int (k2 r)) ++ [.int (k1 r), .int 0]
theorem sym_dup {r R : Nat} (hr : r < 5) (hR : R < 8) : d_symb [.str (T (List.replicate (2 * R + 1) (sgn r)))] = some (.list (duL r R)) := by
  rw [symb_ok (by rw [List.length_replicate]; omega)]
  rcases five hr with rfl | rfl | rfl | rfl | rfl <;> rcases eight hR with rfl | rfl | rfl | rfl | rfl | rfl | rfl | rfl <;> kernel_rfl
section
variable {ρ : Rho} {n : Nat} {R : Nat} {ws : List (List Nat)} {M : Int}
theorem e25 {N : Nat} (hw : ws.length = 2 * R + 1) (h25 : ρ.lookup 25 = some (.list (strL ws))) : evE FL (N + 2) ρ (.bi ⟨#[108, 101, 110]⟩ [(.own 25)]) = some (.int ((2 * R + 1 : Nat) : Int)) :=
  ev_bi (mapO_1 (ev_own h25)) (q_lenL.trans (by rw [strL, List.length_map, hw]))
theorem e25q {N : Nat} (hR : R < 8) (hw : ws.length = 2 * R + 1) (h25 : ρ.lookup 25 = some (.list (strL ws))) : evE FL (N + 3) ρ (.fn 58 [(.lit (.str ⟨#[34]⟩)), (.bi ⟨#[108, 101, 110]⟩ [(.own 25)])]) = some (.str (T (qq (2 * R + 1)))) :=
  ev_fn (mapO_2 ev_lit (e25 hw h25)) ((fl58' _).trans (mul_is (s := 34) (by decide) (by omega)))
theorem e25p {N : Nat} (hR : R < 8) (hw : ws.length = 2 * R + 1) (h25 : ρ.lookup 25 = some (.list (strL ws))) : evE FL (N + 4) ρ (.fn 58 [(.lit (.str ⟨#[34]⟩)), (.bin .Sub (.bi ⟨#[108, 101, 110]⟩ [(.own 25)]) (.lit (.int 1)))]) = some (.str (T (qq (2 * R)))) :=
  ev_fn (mapO_2 ev_lit (ev_bin (u := .int ((2 * R + 1 : Nat) : Int)) (v := .int 1) (e25 hw h25) ev_lit int_sub_one)) ((fl58' _).trans (mul_is (s := 34) (by decide) (by omega)))
theorem S39 (hR : R < 8) (hw : ws.length = 2 * R + 1) (h25 : ρ.lookup 25 = some (.list (strL ws))) : exO FL 20 (n + 2) ρ ps_law_39 = some (.next, upd ρ 26 (.list [sD (qq (2 * R + 1) ++ tailK), sD (qq (2 * R + 1))])) :=
  ex_set (ev_list (mapO_2 (ev_add (e25q hR hw h25) (ev_lit (d := .str (T tailK))) (by simp [qq, tailK]; omega)) (e25q hR hw h25)) (by simp))
theorem S40 (hR : R < 8) (hw : ws.length = 2 * R + 1) (h25 : ρ.lookup 25 = some (.list (strL ws))) (h26 : ρ.lookup 26 = some (.list [sD (qq (2 * R + 1) ++ tailK), sD (qq (2 * R + 1))])) : exO FL 20 (n + 2) ρ ps_law_40 = some (.next, upd ρ 26 (.list ((endsL R).map sD))) :=
  ex_set (ev_addL (v := [sD (qq (2 * R)), sD (qq (2 * R) ++ [107])]) (ev_own h26) (ev_list (mapO_2 (e25p hR hw h25) (ev_add (e25p hR hw h25) (ev_lit (d := .str (T [107]))) (by simp [qq]; omega))) (by simp)) (by simp))
theorem ends_len (hR : R < 8) : ∀ l ∈ endsL R, l.length ≤ 50 := by
  intro l hl
  simp only [endsL, List.mem_cons, List.not_mem_nil, or_false] at hl
  rcases hl with rfl | rfl | rfl | rfl <;> simp [qq, tailK] <;> omega
theorem S41 (hR : R < 8) (h26 : ρ.lookup 26 = some (.list ((endsL R).map sD))) (h21 : ρ.lookup 21 = some (.int (R : Int))) (h49 : ρ.lookup 49 = none) : exO FL 20 (n + 2) ρ ps_law_41 = some (.next, ρ) := by
  refine ex_iffF (evT_cmp (u := .list ((goalL R).map sD)) (v := .list ((goalL R).map sD)) ?_ ?_ (cmp_self (sh_list (by simp [shallow, sD]))))
  · rw [← ends_unq R hR, List.map_map]
    refine ev_compA (f := sD) h49 (evI_own h26) (fun l hl => ?_) (by simp [endsL])
    have := ends_len hR l hl
    exact ev_fn (mapO_2 (ev_add (ev_lit (d := .str (T [50, 53, 55, 32, 34]))) (ev_own rfl) (by simp; omega)) ev_lit) ((fl55 _).trans (read_dir (by omega)))
  · have e : ∀ N, evE FL (N + 2) ρ (.bin .Mult (.lit (.str ⟨#[34]⟩)) (.own 21)) = some (.str (T (qq R))) := fun N => ev_bin (u := .str (T [34])) (v := .int (R : Int)) ev_lit (ev_own h21) (mulq_is hR)
    exact ev_list (mapO_cons' (e _) (mapO_3 (e _) (e _) (ev_add (e _) (ev_lit (d := .str (T [107]))) (by simp [qq]; omega)))) (by simp [goalL])
theorem mulL_is {xs : List D} {n : Int} (h : -(2 ^ 63 : Int) ≤ n ∧ n < 2 ^ 63 ∧ xs.length * n.toNat ≤ 256) : binD .Mult (.list xs) (.int n) = some (.list (List.replicate n.toNat xs).flatten) := by
  show mulD (.list xs) (.int n) = _
  unfold mulD
  exact ob_i (o := asInt (.int n)) rfl (if_pos h)
theorem S42 (hR : R < 8) (h2 : ρ.lookup 2 = some (.int M)) (h21 : ρ.lookup 21 = some (.int (R : Int))) : exO FL 20 (n + 2) ρ ps_law_42 = some (.next, upd ρ 10 (.list (duL (fm M 5) R))) := by
  have hr := fm_lt M (b := 5) (by decide)
  have e5 : ∀ N, evE FL (N + 3) ρ (.bin .Mod (.own 2) (.lit (.int 5))) = some (.int (fm M 5 : Nat)) := fun N => ev_mod (ev_own h2) (by decide) (fm_eq M (b := 5) (by decide))
  have a1 : ([.int 35, .int 47, .int 33, .int 34, .int 27] : List D)[fm M 5]? = some (.int (k2 (fm M 5))) := by
    rcases five hr with e | e | e | e | e <;> rw [e] <;> rfl
  have a2 : ([.int 16, .int 17, .int 20, .int 21, .int 22] : List D)[fm M 5]? = some (.int (k1 (fm M 5))) := by
    rcases five hr with e | e | e | e | e <;> rw [e] <;> rfl
  refine ex_set (ev_addL (u := List.replicate R (.int (k2 (fm M 5)))) (v := [.int (k1 (fm M 5)), .int 0]) (ev_bin (u := .list [.int (k2 (fm M 5))]) (v := .int (R : Int)) (ev_list (mapO_1 (ev_itemL (ev_list rfl (by simp)) (e5 _) a1 (by omega))) (by simp)) (ev_own h21) ?_) (ev_list (mapO_2 (ev_itemL (ev_list rfl (by simp)) (e5 _) a2 (by omega)) ev_lit) (by simp)) (by simp; omega))
  refine (mulL_is (xs := [.int (k2 (fm M 5))]) (n := (R : Int)) ⟨by omega, by omega, by simp; omega⟩).trans ?_
  simp
theorem S43 (hR : R < 8) (hw : ws.length = 2 * R + 1) (h2 : ρ.lookup 2 = some (.int M)) (h25 : ρ.lookup 25 = some (.list (strL ws))) (h10 : ρ.lookup 10 = some (.list (duL (fm M 5) R))) : exO FL 20 (n + 2) ρ ps_law_43 = some (.next, ρ) := by
  have hr := fm_lt M (b := 5) (by decide)
  have a1 : ([42, 47, 60, 62, 61] : List Nat)[fm M 5]? = some (sgn (fm M 5)) := by
    rcases five hr with e | e | e | e | e <;> rw [e] <;> rfl
  have hs : sgn (fm M 5) ∈ [34, 42, 47, 60, 62, 61] := by
    rcases five hr with e | e | e | e | e <;> rw [e] <;> decide
  refine ex_iffF (evT_cmp (u := .list (duL (fm M 5) R)) (ev_fn (mapO_1 (ev_fn (mapO_2 (ev_item (u := .str (T [42, 47, 60, 62, 61])) ev_lit (ev_mod (ev_own h2) (by decide) (fm_eq M (b := 5) (by decide))) (item_T a1 (by omega))) (e25 hw h25)) ((fl58' _).trans (mul_is hs (by omega))))) ((fl52 _).trans (sym_dup hr hR))) (ev_own h10) (cmp_self (sh_list ?_)))
  simp [duL, shallow]
end
end Ev
namespace Ev
open PySem PySem.StrLaws PySem.Builtin PySem.Builtin.Str

theorem T_beq (a b : List Nat) : (T a == T b) = (a == b) := by
  by_cases h : a = b
  · subst h; simp
  · have h1 : (T a == T b) = false := by
      rw [beq_eq_false_iff_ne]
      exact fun q => h (T_inj q)
    rw [h1, beq_eq_false_iff_ne.mpr h]
theorem cmp_eqb {a b : List Nat} : cmpD .Eq (.str (T a)) (.str (T b)) = some (a == b) := by
  simp only [cmpD, ltD, inD, ninD, asInt, asStr, asBool, Option.bind_some, shallow, Bool.and_self, if_true, PyData.eqv, T_beq]
theorem cmp_neb {a b : List Nat} : cmpD .NotEq (.str (T a)) (.str (T b)) = some (!(a == b)) := by
  simp only [cmpD, ltD, inD, ninD, asInt, asStr, asBool, Option.bind_some, shallow, Bool.and_self, if_true, PyData.eqv, T_beq]
theorem one_beq (c d : Nat) : (([c] : List Nat) == [d]) = (c == d) := by
  show (c == d && ([] : List Nat) == []) = _
  simp
theorem flat_one : ∀ l : List Nat, (l.map fun c => [c]).flatten = l
  | [] => rfl
  | a :: r => by simp [flat_one r]
theorem sum_ones : ∀ l : List Nat, ((l.map fun c => [c]).map (·.length)).sum = l.length
  | [] => rfl
  | a :: r => by
    have := sum_ones r
    simp only [List.map_cons, List.sum_cons, List.length_cons, List.length_nil] at this ⊢
    omega
theorem flat_map1 {α : Type} (f : α → Nat) (l : List α) : (l.map fun a => [f a]).flatten = l.map f := by
  induction l with
  | nil => rfl
  | cons a r ih => rw [List.map_cons, List.flatten_cons, ih]; rfl
noncomputable def chD (c : Nat) : D := .str (T [c])
/-- to join single signs -/
theorem q_join1 {l : List Nat} (h : ∀ c ∈ l, c < 0x110000) (hl : l.length ≤ 1000) : methQ n_join (.str (T [])) [.list (l.map chD)] = some (.str (T l)) := by
  have := q_join (s := []) (ps := l.map fun c => [c]) (r := l) ((join_empty _).trans (by rw [flat_one])) h (by rw [sum_ones]; simp; omega)
  rw [List.map_map] at this
  exact this
section
variable {ρ : Rho} {n : Nat} {M : Int} {b : Nat → Bool} {F : Nat → List D → Option D} {N : Nat}
theorem evT_item {x y : PE} {t : Bool} (h : evE F N ρ (.item x y) = some (.bool t)) : evT F (N + 1) ρ (.item x y) = some t := ob_i (f := truthD) h rfl
theorem evT_no {x : PE} {t : Bool} (h : evT F N ρ x = some t) : evT F (N + 1) ρ (.no x) = some (!t) := ob_i h rfl
theorem evT_bin {op : Operator} {x y : PE} {d : D} {t : Bool} (h : evE F N ρ (.bin op x y) = some d) (h' : truthD d = some t) : evT F (N + 1) ρ (.bin op x y) = some t := ob_i (f := truthD) h h'

theorem fewer {p : List Nat → Bool} {k : Nat} : ((walkN (bt b) k start5).filter p).length ≤ 5 * 10 ^ k := by
  have h1 := walkN_len (bt_ok b) k start5
  have h2 := List.length_filter_le p (walkN (bt b) k start5)
  rw [show start5.length = 5 from rfl, Nat.mul_comm] at h1
  omega
theorem S44 (h23 : ρ.lookup 23 = some (.list (strL (walkN (bt b) 2 start5)))) (h27 : ρ.lookup 27 = none) : exO FL 20 (n + 2) ρ ps_law_44 = some (.next, upd ρ 23 (.list (strL (thr b)))) := by
  have hl := walkN_len (bt_ok b) 2 start5
  rw [show start5.length = 5 from rfl] at hl
  refine ex_set (ev_compFA (f := sD) (g := sD) (b := fun w => noDw w && noE w) h27 (evI_own h23) (fun w _ => ?_) (fun w _ _ => ev_var rfl) (by omega))
  unfold noDw noE
  rw [List.contains_eq_mem, List.contains_eq_mem]
  cases h1 : decide (100 ∈ w) with
  | true => exact evT_all (allO_f (evT_cmp (u := .str (T [100])) (v := .str (T w)) ev_lit (ev_own rfl) (notIn_T.trans (by rw [h1]; rfl))))
  | false =>
    refine evT_all (allO_t (evT_cmp (u := .str (T [100])) (v := .str (T w)) ev_lit (ev_own rfl) (notIn_T.trans (by rw [h1]; rfl))) ?_)
    cases h2 : decide (101 ∈ w) with
    | true => exact allO_f (evT_cmp (u := .str (T [101])) (v := .str (T w)) ev_lit (ev_own rfl) (notIn_T.trans (by rw [h2]; rfl)))
    | false => exact allO_t (evT_cmp (u := .str (T [101])) (v := .str (T w)) ev_lit (ev_own rfl) (notIn_T.trans (by rw [h2]; rfl))) rfl
theorem S45 (h2 : ρ.lookup 2 = some (.int M)) (G : Games b) (h23 : ρ.lookup 23 = some (.list (strL (thr b)))) : ∃ w ∈ thr b, ∀ n, exO FL 20 (n + 2) ρ ps_law_45 = some (.next, upd ρ 27 (sD w)) := by
  have h0 : 0 < (thr b).length := List.length_pos_iff.mpr G.t0
  have hl := G.tl
  have hi := fm_lt (M.fdiv 5) h0
  refine ⟨(thr b)[fm (M.fdiv 5) (thr b).length]'hi, List.getElem_mem _, fun n => ?_⟩
  refine ex_set (ev_itemL (i := fm (M.fdiv 5) (thr b).length) (ev_own h23) (ev_bin (u := .int (M.fdiv 5)) (v := .int ((thr b).length : Int)) (ev_div (ev_own h2) (by decide) rfl) (ev_bi (mapO_1 (ev_own h23)) (q_lenL.trans (by rw [strL, List.length_map]))) ?_) ?_ (by omega))
  · simp only [binD, addD, mulD, intOp, asInt, asStr, asList, Option.bind_some]
    rw [if_neg (by omega), fm_eq _ h0]
  · simp [strL, hi, sD]
theorem S46 (h24 : ρ.lookup 24 = some (.list (strL (walkN (bt b) 3 start5)))) (h33 : ρ.lookup 33 = none) : exO FL 20 (n + 2) ρ ps_law_46 = some (.next, upd ρ 24 (.list (strL (fou b)))) := by
  have hl := walkN_len (bt_ok b) 3 start5
  rw [show start5.length = 5 from rfl] at hl
  refine ex_set (ev_compFA (f := sD) (g := sD) (b := noE) h33 (evI_own h24) (fun w _ => ?_) (fun w _ _ => ev_var rfl) (by omega))
  unfold noE
  rw [List.contains_eq_mem]
  exact evT_cmp (u := .str (T [101])) (v := .str (T w)) ev_lit (ev_own rfl) notIn_T
theorem four_ok {o : List Nat} (h : o ∈ perms4) : o.length = 4 ∧ (∀ c ∈ o, c < 127) := by
  have : perms4.all (fun o => decide (o.length = 4) && o.all fun c => decide (c < 127)) = true := by decide +kernel
  have := List.all_eq_true.mp this o h
  simpa using this
theorem three_ok {w : List Nat} (h : w ∈ perms3) : ∃ a0 a1 a2, w = [a0, a1, a2] ∧ (∀ c ∈ w, 97 ≤ c ∧ c ≤ 99) := by
  rcases p3 h with rfl | rfl | rfl | rfl | rfl | rfl <;> exact ⟨_, _, _, rfl, by decide⟩
/-- the fours that grew out of the word -/
noncomputable def grL (b : Nat → Bool) (w : List Nat) : List (List Nat) := (fou b).filter fun o => noD o == w
theorem S47 {w : List Nat} (G : Games b) (h24 : ρ.lookup 24 = some (.list (strL (fou b)))) (h27 : ρ.lookup 27 = some (sD w)) (h33 : ρ.lookup 33 = none) (h45 : ρ.lookup 45 = none) : exO FL 20 (n + 2) ρ ps_law_47 = some (.next, upd ρ 28 (.list (strL (grL b w)))) := by
  have hl := G.fl
  refine ex_set (ev_compFA (f := sD) (g := sD) (b := fun o => noD o == w) h33 (evI_own h24) (fun o ho => ?_) (fun o _ _ => ev_var rfl) (by omega))
  obtain ⟨o4, oc⟩ := four_ok (G.fp o ho)
  have hn : (noD o).length ≤ 4 := by
    have := List.length_filter_le (fun c => !(c == 100)) o
    unfold noD; omega
  refine evT_cmp (u := .str (T (noD o))) (v := .str (T w)) (ev_meth (u := .str (T [])) (ds := [.list ((noD o).map chD)]) ev_lit (mapO_1 ?_) (q_join1 (fun c hc => ?_) (by omega))) (ev_own ((lk_ne (by decide)).trans h27)) cmp_eqb
  · refine ev_compFA (ls := o) (f := chD) (g := chD) (b := fun c => !(c == 100)) ((lk_ne (by decide)).trans h45) ((evI_str rfl (ev_own rfl)).trans (by rw [chars_T]; rfl)) (fun c _ => ?_) (fun c _ _ => ev_var rfl) (by omega)
    refine evT_cmp (u := .str (T [c])) (v := .str (T [100])) (ev_own rfl) ev_lit ?_
    rw [cmp_neb, one_beq]
  · have := oc c (List.mem_filter.mp hc).1
    omega
theorem S48 {w : List Nat} (hw : w ∈ perms3) (h20 : ρ.lookup 20 = some (.dict (kv (bt b)))) (h27 : ρ.lookup 27 = some (sD w)) (h45 : ρ.lookup 45 = none) : exO FL 20 (n + 2) ρ ps_law_48 = some (.next, upd ρ 29 (.list ((lostB b w).map .bool))) := by
  obtain ⟨a0, a1, a2, e, hc⟩ := three_ok hw
  rw [lostB, List.map_map]
  refine ex_set (ev_compA (ls := w) (f := chD) h45 ((evI_str rfl (ev_own h27)).trans (by rw [chars_T]; rfl)) (fun c hc' => ?_) (by rw [e]; simp))
  have := hc c hc'
  refine ev_cmp (u := .str (T [100])) (v := .str (T (bt b (c - 97)))) ev_lit (ev_item (u := .dict (kv (bt b))) (v := chD c) (ev_own ((lk_ne (by decide)).trans h20)) (ev_var rfl) ?_) in_T
  have e2 : chD c = .str (T [97 + (c - 97)]) := by
    unfold chD
    rw [show 97 + (c - 97) = c from by omega]
  rw [e2]
  exact kv_get (by omega)
theorem bools_ok {l : List Bool} (h : l ∈ bools3) : ∃ x y z, l = [x, y, z] := by
  simp only [bools3, List.mem_cons, List.not_mem_nil, or_false] at h
  rcases h with rfl | rfl | rfl | rfl | rfl | rfl | rfl | rfl <;> exact ⟨_, _, _, rfl⟩
theorem bool_at {l : List Bool} {k : Nat} (hl : l.length = 3) (hk : k < 3) : (l.map PyData.bool)[k]? = some (.bool (l.getD k false)) := by
  rw [List.getElem?_map, List.getElem?_eq_getElem (by omega)]
  simp [List.getD, List.getElem?_eq_getElem (show k < l.length by omega)]
theorem S49 {l : List Bool} {gr : List (List Nat)} (hl : l ∈ bools3) (hg : gr.length = 1 + turns l) (h28 : ρ.lookup 28 = some (.list (strL gr))) (h29 : ρ.lookup 29 = some (.list (l.map .bool))) (h39 : ρ.lookup 39 = none) : exO FL 20 (n + 2) ρ ps_law_49 = some (.next, ρ) := by
  have h3 : l.length = 3 := by obtain ⟨x, y, z, rfl⟩ := bools_ok hl; rfl
  refine ex_iffF (evT_cmp (u := .int (gr.length : Int)) (v := .int (gr.length : Int)) (ev_bi (mapO_1 (ev_own h28)) (q_lenL.trans (by rw [strL, List.length_map]))) ?_ (cmp_self rfl))
  refine ev_bin (u := .int 1) (v := .int ((turns l : Nat) : Int)) ev_lit (ev_bi (ds := [.list (((List.range 2).filter fun k => l.getD (k + 1) false && !(l.getD k false)).map nD)]) (mapO_1 (ev_compRF (k := 2) rg2 (by decide) h39 (fun i hi => ?_) fun i _ => ev_var rfl)) (q_lenL.trans (by rw [List.length_map]; rfl))) (by rw [hg]; simp [binD, addD, mulD, intOp, asInt, asStr, asList, Option.bind_some])
  have a : ∀ N, evT FL (N + 5) ((39, .int (i : Int)) :: ρ) (.item (.own 29) (.bin .Add (.own 39) (.lit (.int 1)))) = some (l.getD (i + 1) false) := fun N => evT_item (ev_itemL (i := i + 1) (ev_own ((lk_ne (by decide)).trans h29)) (ev_bin (u := .int (i : Int)) (ev_own rfl) ev_lit int_add_one) (bool_at h3 (by omega)) (by omega))
  have a' : ∀ N, evT FL (N + 4) ((39, .int (i : Int)) :: ρ) (.item (.own 29) (.var 39)) = some (l.getD i false) := fun N => evT_item (ev_itemL (i := i) (ev_own ((lk_ne (by decide)).trans h29)) (ev_var rfl) (bool_at h3 (by omega)) (by omega))
  cases h1 : l.getD (i + 1) false with
  | false => exact evT_all (allO_f (h1 ▸ a _))
  | true =>
    refine evT_all (allO_t (h1 ▸ a _) ?_)
    have := evT_no (a' 11)
    cases h2 : l.getD i false with
    | false => rw [h2] at this; exact allO_t this rfl
    | true => rw [h2] at this; exact allO_f this
end
end Ev
namespace Ev
open PySem PySem.StrLaws PySem.Builtin PySem.Builtin.Str

theorem q_ord {c : Nat} : builtinQ n_ord [chD c] = some (.int (c : Int)) := by
  show ordD (.str (T [c])) = _
  exact ob_i rfl ((if_pos (by rw [T_len]; rfl)).trans rfl)
theorem q_chr {c : Nat} (h : c ≤ 1000) : builtinQ n_chr [.int (c : Int)] = some (chD c) := by
  show chrD (.int (c : Int)) = _
  exact ob_i rfl ((if_pos (by omega)).trans rfl)
theorem lev_at {a b : List Nat} {m r : Int} (h : d_lev [.str (T a), .str (T b), .int m] = some (.int r)) : FL 59 [.str (T a), .str (T b), .int m] = some (.int r) := (fl59 _).trans h
theorem levs {a b : List Nat} {m r : Int} (h : levCk a b m r = true) : FL 59 [.str (T a), .str (T b), .int m] = some (.int r) := (fl59 _).trans (lev_of h)
section
variable {ρ : Rho} {n : Nat} {M : Int} {b : Nat → Bool} {w o : List Nat} {l : List Bool} {is : List Int}
theorem S50 (hw : w ∈ perms3) (hl : l ∈ bools3) (h27 : ρ.lookup 27 = some (sD w)) (h29 : ρ.lookup 29 = some (.list (l.map .bool))) (h39 : ρ.lookup 39 = none) : exO FL 20 (n + 2) ρ ps_law_50 = some (.next, upd ρ 30 (sD (greatL w l))) := by
  obtain ⟨a0, a1, a2, e, hc⟩ := three_ok hw
  obtain ⟨x, y, z, el⟩ := bools_ok hl
  have h3 : l.length = 3 := by rw [el]; rfl
  have hw3 : w.length = 3 := by rw [e]; rfl
  have eg : greatL w l = (List.range 3).map fun k => if l.getD k false = true then w.getD k 0 - 32 else w.getD k 0 := by rw [e, el]; rfl
  rw [eg]
  refine ex_set (ev_meth (u := .str (T [])) (ds := [.list (((List.range 3).map fun k => if l.getD k false = true then w.getD k 0 - 32 else w.getD k 0).map chD)]) ev_lit (mapO_1 ?_) (q_join1 (fun c h => ?_) (by simp)))
  · rw [List.map_map]
    refine ev_compR (k := 3) rg3 (by decide) h39 fun k hk => ?_
    have hm : w.getD k 0 ∈ w := by
      rw [List.getD_eq_getElem?_getD, List.getElem?_eq_getElem (by omega)]
      exact List.getElem_mem _
    have hb := hc _ hm
    have hi : ∀ N, evE FL (N + 2) ((39, .int (k : Int)) :: ρ) (.item (.own 27) (.var 39)) = some (chD (w.getD k 0)) := fun N => ev_item (u := sD w) (v := .int (k : Int)) (ev_own ((lk_ne (by decide)).trans h27)) (ev_var rfl) (item_T (by rw [List.getD_eq_getElem?_getD, List.getElem?_eq_getElem (by omega)]; rfl) (by omega))
    refine ev_ite (c := l.getD k false) (evT_item (ev_itemL (i := k) (ev_own ((lk_ne (by decide)).trans h29)) (ev_var rfl) (bool_at h3 hk) (by omega))) ?_
    show _ = some (chD (if l.getD k false = true then w.getD k 0 - 32 else w.getD k 0))
    cases l.getD k false with
    | true =>
      refine ev_bi (ds := [.int ((w.getD k 0 - 32 : Nat) : Int)]) (mapO_1 (ev_bin (u := .int ((w.getD k 0 : Nat) : Int)) (v := .int 32) (ev_bi (mapO_1 (hi _)) q_ord) ev_lit ?_)) (q_chr ?_)
      · simp only [binD, addD, mulD, intOp, asInt, asStr, asList, Option.bind_some, Option.some.injEq, PyData.int.injEq]; omega
      · omega
    | false => exact hi _
  · obtain ⟨k, hk, rfl⟩ := List.mem_map.mp h
    have hk := List.mem_range.mp hk
    have hm : w.getD k 0 ∈ w := by
      rw [List.getD_eq_getElem?_getD, List.getElem?_eq_getElem (by omega)]
      exact List.getElem_mem _
    have hb := hc _ hm
    split <;> omega
theorem S51 (hl : l ∈ bools3) (h29 : ρ.lookup 29 = some (.list (l.map .bool))) (h39 : ρ.lookup 39 = none) : exO FL 20 (n + 2) ρ ps_law_51 = some (.next, upd ρ 31 (.int (priceL l))) := by
  obtain ⟨x, y, z, el⟩ := bools_ok hl
  have h3 : l.length = 3 := by rw [el]; rfl
  have ec : (((List.range 3).filter fun k => l.getD k false).map nD).length = (l.filter id).length := by
    rw [List.length_map, el]
    cases x <;> cases y <;> cases z <;> rfl
  refine ex_set (ev_bin (u := .int 2) (v := .int ((l.filter id).length : Int)) ev_lit (ev_bi (ds := [.list (((List.range 3).filter fun k => l.getD k false).map nD)]) (mapO_1 (ev_compRF (k := 3) rg3 (by decide) h39 (fun i hi => ?_) fun i _ => ev_var rfl)) (q_lenL.trans (by rw [ec]))) rfl)
  exact evT_item (ev_itemL (i := i) (ev_own ((lk_ne (by decide)).trans h29)) (ev_var rfl) (bool_at h3 hi) (by omega))
noncomputable def w52 (b : Nat → Bool) (w : List Nat) : List Int := (fou b).map fun o => if (noD o == w) = true then 2 else 1
noncomputable def w53 (b : Nat → Bool) (w : List Nat) (l : List Bool) : List Int := (grL b w).map fun _ => priceL l
theorem S52 (hw : w ∈ perms3) (G : Games b) (h24 : ρ.lookup 24 = some (.list (strL (fou b)))) (h27 : ρ.lookup 27 = some (sD w)) (h33 : ρ.lookup 33 = none) : exO FL 20 (n + 2) ρ ps_law_52 = some (.next, upd ρ 32 (.list ((w52 b w).map .int))) := by
  have hl := G.fl
  rw [w52, List.map_map]
  refine ex_new (ev_compA (f := sD) h33 (evI_own h24) (fun o ho => ?_) (by omega))
  exact ev_fn (mapO_3 (ev_var ((lk_ne (by decide)).trans h27)) (ev_var rfl) ev_lit) (lev_at (lev_zero hw (G.fp o ho)))
theorem gr_len (G : Games b) : (grL b w).length ≤ 24 := Nat.le_trans (List.length_filter_le _ _) G.fl
theorem gr_mem {o : List Nat} (h : o ∈ grL b w) : o ∈ fou b ∧ noD o = w := by
  have := List.mem_filter.mp h
  exact ⟨this.1, eq_of_beq this.2⟩
theorem S53 (ht : w ∈ thr b) (G : Games b) (h28 : ρ.lookup 28 = some (.list (strL (grL b w)))) (h30 : ρ.lookup 30 = some (sD (greatL w (lostB b w)))) (h31 : ρ.lookup 31 = some (.int (priceL (lostB b w)))) (h32 : ρ.lookup 32 = some (.list ((w52 b w).map .int))) (h33 : ρ.lookup 33 = none) : exO FL 20 (n + 2) ρ ps_law_53 = some (.next, upd ρ 32 (.list ((w52 b w ++ w53 b w (lostB b w)).map .int))) := by
  have hl := gr_len (w := w) G
  have hf := G.fl
  have h := ex_extL (F := FL) (N := 20) (n := n + 1) (ρ := ρ) (x := 32) (e := (.comp (.fn 59 [(.var 30), (.var 33), (.var 31)]) [(33, (.own 28), [])])) (ds := (w52 b w).map .int) (ds' := (w53 b w (lostB b w)).map .int) ?_ h32 (by simp [w52, w53]; omega)
  · rw [← List.map_append] at h
    exact h
  · rw [w53, List.map_map]
    refine ev_compA (f := sD) h33 (evI_own h28) (fun o ho => ?_) (by omega)
    obtain ⟨h1, h2⟩ := gr_mem ho
    obtain ⟨k, hk, hm, e⟩ := G.gm w ht o h1 h2
    refine ev_fn (mapO_3 (ev_var ((lk_ne (by decide)).trans h30)) (ev_var rfl) (ev_var ((lk_ne (by decide)).trans h31))) (lev_at ?_)
    rw [e]
    exact lev_great (G.tp w ht) (G.lo w ht) hk hm
theorem eqv_T (a o : List Nat) : PyData.eqv (.str (T a)) (.str (T o)) = (a == o) := by
  rw [PyData.eqv, T_beq]
theorem any_mem (ls : List (List Nat)) (o : List Nat) : (strL ls).any (fun y => PyData.eqv y (sD o)) = decide (o ∈ ls) := by
  induction ls with
  | nil => rfl
  | cons a r ih =>
    show (PyData.eqv (.str (T a)) (.str (T o)) || (strL r).any fun y => PyData.eqv y (sD o)) = _
    rw [ih, eqv_T, Bool.eq_iff_iff, Bool.or_eq_true, beq_iff_eq, decide_eq_true_eq, decide_eq_true_eq, List.mem_cons, @eq_comm _ a o]
theorem S54 (G : Games b) (hp : ∃ p : Int, p = priceL l) (h24 : ρ.lookup 24 = some (.list (strL (fou b)))) (h28 : ρ.lookup 28 = some (.list (strL (grL b w)))) (h31 : ρ.lookup 31 = some (.int (priceL l))) (h33 : ρ.lookup 33 = none) : exO FL 20 (n + 2) ρ ps_law_54 = some (.next, upd ρ 10 (.list ((w52 b w ++ w53 b w l).map .int))) := by
  have hl := gr_len (w := w) G
  have hf := G.fl
  rw [List.map_append]
  refine ex_set (ev_addL ?_ (ev_bin (u := .list [.int (priceL l)]) (v := .int ((grL b w).length : Int)) (ev_list (mapO_1 (ev_var h31)) (by simp)) (ev_bi (mapO_1 (ev_own h28)) (q_lenL.trans (by rw [strL, List.length_map]))) ?_) (by simp [w52, w53]; omega))
  · rw [w52, List.map_map]
    refine ev_compA (f := sD) h33 (evI_own h24) (fun o ho => ?_) (by omega)
    have hs : (shallow 8 (sD o) && (strL (grL b w)).all (shallow 8)) = true := by
      rw [Bool.and_eq_true, List.all_eq_true]
      refine ⟨rfl, fun x hx => ?_⟩
      obtain ⟨y, _, rfl⟩ := List.mem_map.mp hx
      rfl
    refine ev_ite (c := decide (o ∈ grL b w)) (evT_cmp (u := sD o) (v := .list (strL (grL b w))) (ev_own rfl) (ev_own ((lk_ne (by decide)).trans h28)) ?_) ?_
    · simp only [cmpD, ltD, inD, ninD, asInt, asStr, asBool, Option.bind_some, hs, if_true, any_mem]
    · have : decide (o ∈ grL b w) = (noD o == w) := by
        rw [Bool.eq_iff_iff]
        simp [grL, ho]
      rw [this]
      show _ = some (PyData.int (if (noD o == w) = true then 2 else 1))
      cases noD o == w with
      | true => exact ev_lit
      | false => exact ev_lit
  · refine (mulL_is (xs := [.int (priceL l)]) (n := ((grL b w).length : Int)) ⟨by omega, by omega, by simp; omega⟩).trans ?_
    rw [w53, List.map_map]
    simp [Function.comp_def, List.map_const']
theorem S55 (G : Games b) (h24 : ρ.lookup 24 = some (.list (strL (fou b)))) : ∃ o ∈ fou b, ∀ n, exO FL 20 (n + 2) ρ ps_law_55 = some (.next, upd ρ 33 (sD o)) := by
  obtain ⟨o, r, e⟩ := List.exists_cons_of_ne_nil G.f0
  refine ⟨o, by rw [e]; exact .head _, fun n => ?_⟩
  exact ex_set (ev_itemL (i := 0) (ev_own h24) ev_lit (by rw [e]; rfl) (by decide))
theorem swap_ok (ho : o ∈ perms4) {d : Nat} (hd : d < 127) (h33 : ρ.lookup 33 = some (sD o)) (h45 : ρ.lookup 45 = none) {N : Nat} : evE FL (N + 6) ρ (.meth ⟨#[106, 111, 105, 110]⟩ (.lit (.str ⟨#[]⟩)) [(.comp (.ite (.cmp .Eq (.own 45) (.lit (.str ⟨#[100]⟩))) (.lit (chD d)) (.var 45)) [(45, (.own 33), [])])]) = some (sD (o.map fun c => if c = 100 then d else c)) := by
  obtain ⟨o4, oc⟩ := four_ok ho
  refine ev_meth (u := .str (T [])) (ds := [.list ((o.map fun c => if c = 100 then d else c).map chD)]) ev_lit (mapO_1 ?_) (q_join1 (fun c h => ?_) (by simp; omega))
  · rw [List.map_map]
    refine ev_compA (ls := o) (f := chD) h45 ((evI_str rfl (ev_own h33)).trans (by rw [chars_T]; rfl)) (fun c _ => ?_) (by omega)
    refine ev_ite (c := c == 100) (evT_cmp (u := .str (T [c])) (v := .str (T [100])) (ev_own rfl) ev_lit (cmp_eqb.trans (by rw [one_beq]))) ?_
    show _ = some (chD (if c = 100 then d else c))
    by_cases hc : c = 100
    · subst hc; exact ev_lit
    · rw [beq_eq_false_iff_ne.mpr hc, if_neg hc]; exact ev_var rfl
  · obtain ⟨x, hx, rfl⟩ := List.mem_map.mp h
    have := oc x hx
    split <;> omega
theorem S56 (ho : o ∈ perms4) (h33 : ρ.lookup 33 = some (sD o)) (h45 : ρ.lookup 45 = none) : exO FL 20 (n + 2) ρ ps_law_56 = some (.next, upd ρ 34 (sD (changedL o))) := ex_set (swap_ok ho (d := 45) (by decide) h33 h45)
theorem S57 (ho : o ∈ perms4) (h33 : ρ.lookup 33 = some (sD o)) (h45 : ρ.lookup 45 = none) : exO FL 20 (n + 2) ρ ps_law_57 = some (.next, upd ρ 35 (sD (sizedL o))) := ex_set (swap_ok ho (d := 68) (by decide) h33 h45)
theorem extI {es : List PE} {js : List Int} (h : mapO (evE FL 19 ρ) es = some (js.map .int)) (h32 : ρ.lookup 32 = some (.list (is.map .int))) (hl : is.length + js.length < 1000) : exO FL 20 (n + 2) ρ (.extL 32 (.list es)) = some (.next, upd ρ 32 (.list ((is ++ js).map .int))) := by
  have := ex_ext (F := FL) (N := 19) (n := n + 1) (x := 32) h h32 (by simpa using hl)
  rw [← List.map_append] at this
  exact this
theorem S58 (ho : o ∈ perms4) (hl : is.length ≤ 100) (h33 : ρ.lookup 33 = some (sD o)) (h35 : ρ.lookup 35 = some (sD (sizedL o))) (h32 : ρ.lookup 32 = some (.list (is.map .int))) : exO FL 20 (n + 2) ρ ps_law_58 = some (.next, upd ρ 32 (.list ((is ++ [0, 1]).map .int))) := by
  have h := lev3_all ho
  simp only [lev3, Bool.and_eq_true] at h
  exact extI (mapO_2 (ev_fn (mapO_3 (ev_var h33) (ev_var h33) ev_lit) (levs h.1.1)) (ev_fn (mapO_3 (ev_var h33) (ev_var h35) ev_lit) (levs h.1.2))) h32 (by simp; omega)
theorem dash_is {k : Nat} (hk : k = 40 ∨ k = 41) {N : Nat} : evE FL (N + 2) ρ (.bin .Mult (.lit (.str ⟨#[45]⟩)) (.lit (.int (k : Int)))) = some (.str (T (dash k))) := by
  refine ev_bin (u := .str (T [45])) (v := .int (k : Int)) ev_lit ev_lit ?_
  rcases hk with rfl | rfl <;> kernel_rfl
theorem S59 (ho : o ∈ perms4) (hl : is.length ≤ 100) (h33 : ρ.lookup 33 = some (sD o)) (h34 : ρ.lookup 34 = some (sD (changedL o))) (h32 : ρ.lookup 32 = some (.list (is.map .int))) : exO FL 20 (n + 2) ρ ps_law_59 = some (.next, upd ρ 32 (.list ((is ++ [2, 1]).map .int))) := by
  have h := lev3_all ho
  have o4 := (four_ok ho).1
  have d41 := dash_is (ρ := ρ) (k := 41) (.inr rfl) (N := 16)
  simp only [lev3, Bool.and_eq_true] at h
  exact extI (mapO_2 (ev_fn (mapO_3 (ev_add d41 (ev_own h34) (by simp [dash, changedL]; omega)) (ev_add d41 (ev_own h33) (by simp [dash]; omega)) ev_lit) (lev_at (lev_long ho))) (ev_fn (mapO_3 (ev_var h34) (ev_var h33) ev_lit) (levs h.2))) h32 (by simp; omega)
section
variable (hw : w ∈ perms3) (hl : is.length ≤ 100) (h27 : ρ.lookup 27 = some (sD w)) (h32 : ρ.lookup 32 = some (.list (is.map .int)))
include hw hl h27 h32
theorem S60 : exO FL 20 (n + 2) ρ ps_law_60 = some (.next, upd ρ 32 (.list ((is ++ [6, 4]).map .int))) := by
  have h := lev4_all hw
  obtain ⟨a0, a1, a2, e, hc⟩ := three_ok hw
  subst e
  simp only [lev4, Bool.and_eq_true] at h
  refine extI (mapO_2 (ev_fn (mapO_3 (ev_add (ev_own h27) (ev_own h27) (by simp)) (ev_var h27) ev_lit) (levs h.1.1.1.1.1)) (ev_fn (mapO_3 (ev_var h27) (ev_add (u := [a1, a2]) (ev_slice (u := sD [a0, a1, a2]) (l := some ((1 : Nat) : Int)) (h := none) (k := none) (ev_own h27) (part_int ev_lit) rfl rfl (congrArg (fun x => some (PyData.str x)) (sl_from _ 1))) (ev_item (u := sD [a0, a1, a2]) (v := .int ((0 : Nat) : Int)) (ev_own h27) ev_lit (item_T rfl (by decide))) (by simp)) ev_lit) (levs h.1.1.1.1.2))) h32 (by simp; omega)
theorem S61 : exO FL 20 (n + 2) ρ ps_law_61 = some (.next, upd ρ 32 (.list ((is ++ [4]).map .int))) := by
  have h := lev4_all hw
  obtain ⟨a0, a1, a2, e, hc⟩ := three_ok hw
  subst e
  simp only [lev4, Bool.and_eq_true] at h
  exact extI (mapO_1 (ev_fn (mapO_3 (ev_var h27) (ev_add (v := [a0, a1]) (ev_item (u := sD [a0, a1, a2]) (v := .int ((2 : Nat) : Int)) (ev_own h27) ev_lit (item_T rfl (by decide))) (ev_slice (u := sD [a0, a1, a2]) (l := none) (h := some ((2 : Nat) : Int)) (k := none) (ev_own h27) rfl (part_int ev_lit) rfl (congrArg (fun x => some (PyData.str x)) (sl_to _ 2))) (by simp)) ev_lit) (levs h.1.1.1.2))) h32 (by simp; omega)
theorem S62 : exO FL 20 (n + 2) ρ ps_law_62 = some (.next, upd ρ 32 (.list ((is ++ [6]).map .int))) := by
  have h := lev4_all hw
  obtain ⟨a0, a1, a2, e, hc⟩ := three_ok hw
  subst e
  simp only [lev4, Bool.and_eq_true] at h
  exact extI (mapO_1 (ev_fn (mapO_3 (ev_var h27) (ev_add (u := [45, a0, 45, a1, a2]) (ev_add (u := [45, a0, 45]) (v := [a1, a2]) (ev_add (u := [45, a0]) (ev_add (u := [45]) (v := [a0]) (ev_lit (d := .str (T [45]))) (ev_item (u := sD [a0, a1, a2]) (v := .int ((0 : Nat) : Int)) (ev_own h27) ev_lit (item_T rfl (by decide))) (by simp)) (ev_lit (d := .str (T [45]))) (by simp)) (ev_slice (u := sD [a0, a1, a2]) (l := some ((1 : Nat) : Int)) (h := none) (k := none) (ev_own h27) (part_int ev_lit) rfl rfl (congrArg (fun x => some (PyData.str x)) (sl_from _ 1))) (by simp)) (ev_lit (d := .str (T [45]))) (by simp)) ev_lit) (levs h.1.1.2))) h32 (by simp; omega)
theorem S63 : exO FL 20 (n + 2) ρ ps_law_63 = some (.next, upd ρ 32 (.list ((is ++ [100, 100]).map .int))) := by
  have h := lev4_all hw
  simp only [lev4, Bool.and_eq_true] at h
  have d41 := dash_is (ρ := ρ) (k := 41) (.inr rfl) (N := 17)
  exact extI (mapO_2 (ev_fn (mapO_3 d41 (ev_var h27) ev_lit) (levs h.1.2)) (ev_fn (mapO_3 (ev_var h27) d41 ev_lit) (levs h.2))) h32 (by simp; omega)
theorem S64 (h2 : ρ.lookup 2 = some (.int M)) : exO FL 20 (n + 2) ρ ps_law_64 = some (.next, upd ρ 32 (.list ((is ++ [80]).map .int))) := by
  obtain ⟨a0, a1, a2, e, hc⟩ := three_ok hw
  have h5 : (levCk [a0] (dash 40) 99 80 && levCk (dash 40) [a0] 99 80) = true := by
    have := hc a0 (by rw [e]; exact .head _)
    rcases (show a0 = 97 ∨ a0 = 98 ∨ a0 = 99 by omega) with rfl | rfl | rfl
    · exact lev5_97
    · exact lev5_98
    · exact lev5_99
  subst e
  simp only [Bool.and_eq_true] at h5
  have d40 : ∀ N, evE FL (N + 2) ρ (.bin .Mult (.lit (.str ⟨#[45]⟩)) (.lit (.int 40))) = some (.str (T (dash 40))) := fun N => dash_is (ρ := ρ) (k := 40) (.inl rfl) (N := N)
  have i0 : ∀ N, evE FL (N + 2) ρ (.item (.own 27) (.lit (.int 0))) = some (.str (T [a0])) := fun N => ev_item (u := sD [a0, a1, a2]) (v := .int ((0 : Nat) : Int)) (ev_own h27) ev_lit (item_T rfl (by decide))
  refine extI (mapO_1 (ev_ite (c := (fm M 2 : Int) != 0) (evT_bin (ev_mod (ev_own h2) (by decide) (fm_eq M (b := 2) (by decide))) rfl) ?_)) h32 (by simp; omega)
  cases ((fm M 2 : Int) != 0) with
  | true => exact ev_fn (mapO_3 (i0 _) (d40 _) ev_lit) (levs h5.1)
  | false => exact ev_fn (mapO_3 (d40 _) (i0 _) ev_lit) (levs h5.2)
end
theorem S65 (hl : is.length ≤ 200) (h32 : ρ.lookup 32 = some (.list (is.map .int))) (h46 : ρ.lookup 46 = none) : exO FL 20 (n + 2) ρ ps_law_65 = some (.next, ρ) := by
  refine ex_iffF (evT_cmp (u := .list []) (v := .list []) ?_ (ev_list rfl (by simp)) (cmp_self rfl))
  have := ev_compFA (F := FL) (n := 18) (elt := .var 46) (t := .any [(.isInst true (.var 46)), (.no (.isInst false (.var 46)))]) (f := .int) (g := .int) (b := fun _ => false) h46 (evI_own h32) (fun i _ => ?_) (fun b _ h => by cases h) (by omega)
  · rw [List.filter_eq_nil_iff.mpr (by simp)] at this
    exact this
  · have e : ∀ N (t : Bool), evT FL (N + 3) ((46, .int i) :: ρ) (.isInst t (.var 46)) = some (!t) := fun N t => rfl
    exact evT_any (anyO_f (e _ true) (anyO_f (evT_no (e _ false)) rfl))
theorem S66 (hl : is.length ≤ 100) (h32 : ρ.lookup 32 = some (.list ((is ++ [0, 1, 2, 1, 6, 4, 4, 6, 100, 100, 80]).map .int))) (h10 : ρ.lookup 10 = some (.list (is.map .int))) : exO FL 20 (n + 2) ρ ps_law_66 = some (.ret (.bool true), ρ) := by
  refine ex_ret (ev_cmp (v := .list ((is ++ [0, 1, 2, 1, 6, 4, 4, 6, 100, 100, 80]).map .int)) (ev_own h32) ?_ (cmp_same (sh_list (by simp [shallow]))))
  rw [List.map_append]
  exact ev_addL (ev_own h10) (ev_list rfl (by simp)) (by simp; omega)
end
end Ev
namespace Ev
open PySem

/-- the rest answers True -/
noncomputable def Goal (L : Rho) (k : Nat) (r : List PS) : Prop := ∀ ρ, Lkk ρ L → ∃ ρ', exS FL 20 k ρ r = some (.ret (.bool true), ρ')
section
variable {L : Rho} {k x : Nat} {d : D} {p : PS} {r : List PS}
theorem lk {ρ : Rho} {j : Nat} {o : Option D} (h : Lkk ρ L) (e : L.lookup j = o) : ρ.lookup j = o := (h j).trans e
theorem g_set (h : ∀ ρ, Lkk ρ L → exO FL 20 k ρ p = some (.next, upd ρ x d)) (g : Goal ((x, d) :: L) k r) : Goal L (k + 1) (p :: r) := fun ρ hρ => by
  obtain ⟨ρ', e⟩ := g _ (hρ.upd x d)
  exact ⟨ρ', (exS_next (h ρ hρ)).trans e⟩
theorem g_pair {y : Nat} {d' : D} (h : ∀ ρ, Lkk ρ L → exO FL 20 k ρ p = some (.next, upd (upd ρ x d) y d')) (g : Goal ((y, d') :: (x, d) :: L) k r) : Goal L (k + 1) (p :: r) := fun ρ hρ => by
  obtain ⟨ρ', e⟩ := g _ ((hρ.upd x d).upd y d')
  exact ⟨ρ', (exS_next (h ρ hρ)).trans e⟩
theorem g_keep (h : ∀ ρ, Lkk ρ L → exO FL 20 k ρ p = some (.next, ρ)) (g : Goal L k r) : Goal L (k + 1) (p :: r) := fun ρ hρ => by
  obtain ⟨ρ', e⟩ := g _ hρ
  exact ⟨ρ', (exS_next (h ρ hρ)).trans e⟩
theorem g_ex {P : List Nat → Prop} (h : ∀ ρ, Lkk ρ L → ∃ w, P w ∧ exO FL 20 k ρ p = some (.next, upd ρ x (sD w))) (g : ∀ w, P w → Goal ((x, sD w) :: L) k r) : Goal L (k + 1) (p :: r) := fun ρ hρ => by
  obtain ⟨w, hw, e1⟩ := h ρ hρ
  obtain ⟨ρ', e⟩ := g w hw _ (hρ.upd x (sD w))
  exact ⟨ρ', (exS_next e1).trans e⟩
theorem g_ret (h : ∀ ρ, Lkk ρ L → exO FL 20 k ρ p = some (.ret (.bool true), ρ)) : Goal L (k + 1) (p :: r) := fun ρ hρ => ⟨ρ, exS_ret (h ρ hρ)⟩
end
theorem goal_law {ns : List Int} (hl : ns.length ≤ 63) (hy : (PyData.list (ns.map .int)).layable0 = true) : Goal [(0, .list (ns.map .int)), (51, .dict tokL)] 200 ps_law := by
  have hb : ∀ i, i < 6 → Builtin.Int.intBits (cell ns i) ≤ 1048640 := fun i hi => bits_cell hl hy i hi
  show Goal _ 200 (ps_law_0 :: ps_law_1 :: ps_law_2 :: ps_law_3 :: ps_law_4 :: ps_law_5 :: ps_law_6 :: ps_law_7 :: ps_law_8 :: ps_law_9 :: ps_law_10 :: ps_law_11 :: ps_law_12 :: ps_law_13 :: ps_law_14 :: ps_law_15 :: ps_law_16 :: ps_law_17 :: ps_law_18 :: ps_law_19 :: ps_law_20 :: ps_law_21 :: ps_law_22 :: ps_law_23 :: ps_law_24 :: ps_law_25 :: ps_law_26 :: ps_law_27 :: ps_law_28 :: ps_law_29 :: ps_law_30 :: ps_law_31 :: ps_law_32 :: ps_law_33 :: ps_law_34 :: ps_law_35 :: ps_law_36 :: ps_law_37 :: ps_law_38 :: ps_law_39 :: ps_law_40 :: ps_law_41 :: ps_law_42 :: ps_law_43 :: ps_law_44 :: ps_law_45 :: ps_law_46 :: ps_law_47 :: ps_law_48 :: ps_law_49 :: ps_law_50 :: ps_law_51 :: ps_law_52 :: ps_law_53 :: ps_law_54 :: ps_law_55 :: ps_law_56 :: ps_law_57 :: ps_law_58 :: ps_law_59 :: ps_law_60 :: ps_law_61 :: ps_law_62 :: ps_law_63 :: ps_law_64 :: ps_law_65 :: ps_law_66 :: [])
  refine g_set (fun ρ h => S0 (ns := ns) (lk h rfl) (lk h rfl)) ?_
  refine g_set (fun ρ h => S1 (ns := ns) (lk h rfl) (lk h rfl)) ?_
  generalize cell ns = c at hb ⊢
  generalize more ns = M
  refine g_set (fun ρ h => S2 (c := c) (lk h rfl) (lk h rfl)) ?_
  refine g_set (fun ρ h => S3 (c := c) (lk h rfl) (lk h rfl)) ?_
  refine g_set (fun ρ h => S4 (c := c) (lk h rfl) (lk h rfl)) ?_
  refine g_set (fun ρ h => S5 (c := c) (lk h rfl) (lk h rfl) (lk h rfl) (lk h rfl)) ?_
  refine g_set (fun ρ h => S6 (c := c) (lk h rfl) (lk h rfl) (lk h rfl)) ?_
  refine g_keep (fun ρ h => S7 (c := c) (lk h rfl) (lk h rfl) (lk h rfl)) ?_
  refine g_pair (fun ρ h => S8 (c := c) (M := M) (lk h rfl) (lk h rfl) (lk h rfl)) ?_
  have ok := ins_ok c (fm M 5)
  have hx : (ins c (fm M 5)).length ≤ 25 := ok.len
  have hm := mk_or (c (fm M 5))
  refine g_set (fun ρ h => S9 hm (lk h rfl) hx (lk h rfl)) ?_
  refine g_set (fun ρ h => S10 (x := ins c (fm M 5)) hm (lk h rfl) (lk h rfl)) ?_
  refine g_set (fun ρ h => S11 hm (lk h rfl) (lk h rfl)) ?_
  refine g_set (fun ρ h => S12 hx (lk h rfl) (lk h rfl) (lk h rfl)) ?_
  refine g_keep (fun ρ h => S13 ok (lk h rfl) (lk h rfl) (lk h rfl) (lk h rfl)) ?_
  refine g_set (fun ρ h => S14 (c := c) (lk h rfl) (lk h rfl)) ?_
  generalize hz : c 5 = z
  refine g_set (fun ρ h => S15 (z := z) (lk h rfl) (lk h rfl)) ?_
  have hp := (page_len z).1
  refine g_set (fun ρ h => S16 hp (lk h rfl) (lk h rfl)) ?_
  refine g_set (fun ρ h => S17 hp (lk h rfl) (lk h rfl)) ?_
  refine g_keep (fun ρ h => S18 (p := pageL (drs z)) rfl hp (page_len z).2 (lk h rfl) (lk h rfl) (lk h rfl) (lk h rfl)) ?_
  refine g_set (fun ρ h => S19 (z := z) (lk h rfl)) ?_
  refine g_set (fun ρ h => S20 (z := z) (lk h rfl) (lk h rfl)) ?_
  refine g_keep (fun ρ h => S21 (z := z) (lk h rfl) (lk h rfl) (lk h rfl)) ?_
  refine g_set (fun ρ h => S22 (z := z) (c := c) (lk h rfl) (lk h rfl) (lk h rfl)) ?_
  refine g_keep (fun ρ h => S23 (z := z) (c := c) (lk h rfl) (lk h rfl) (lk h rfl) (lk h rfl)) ?_
  refine g_set (fun ρ h => S24 (z := z) (c := c) (lk h rfl) (lk h rfl) (lk h rfl)) ?_
  refine g_keep (fun ρ h => S25 (z := z) (c := c) (lk h rfl) (lk h rfl) (lk h rfl)) ?_
  refine g_set (fun ρ h => S26 (c := c) (lk h rfl) (lk h rfl) (lk h rfl) (lk h rfl) (lk h rfl)) ?_
  refine g_set (fun ρ h => S27 (c := c) (lk h rfl) (lk h rfl)) ?_
  refine g_keep (fun ρ h => S28 (c := c) hb (lk h rfl) (lk h rfl)) ?_
  refine g_set (fun ρ h => S29 (lk h rfl) (lk h rfl)) ?_
  refine g_set (fun ρ h => S30 (z := z) (c := c) (lk h rfl) (lk h rfl) (lk h rfl) (lk h rfl)) ?_
  have hk : (kB2 z c).length ≤ 200 := by
    have := allI_len z c
    simp [kB2, kB, csI]; omega
  refine g_keep (fun ρ h => S31 (z := z) (c := c) hk (lk h rfl) (lk h rfl) (lk h rfl)) ?_
  refine g_set (fun ρ h => S32 (z := z) (c := c) (lk h rfl) (lk h rfl) (lk h rfl) (lk h rfl)) ?_
  generalize tb z c = b
  have hf := bt_ok b
  obtain ⟨r1, r2, r3⟩ := redei b
  have hR : ringsOf (bt b) < 8 := by omega
  have G := games b
  refine g_set (fun ρ h => S33 hf (lk h rfl) (lk h rfl)) ?_
  refine g_set (fun ρ h => S34 hf r3 (lk h rfl) (lk h rfl) (lk h rfl)) ?_
  refine g_set (fun ρ h => S35 (b := b) (lk h rfl)) ?_
  refine g_set (fun ρ h => S36 (b := b) (lk h rfl)) ?_
  refine g_set (fun ρ h => S37 (b := b) (lk h rfl) (lk h rfl)) ?_
  refine g_set (fun ρ h => S38 (b := b) (lk h rfl) (lk h rfl)) ?_
  refine g_set (fun ρ h => S39 hR r1 (lk h rfl)) ?_
  refine g_set (fun ρ h => S40 hR r1 (lk h rfl) (lk h rfl)) ?_
  refine g_keep (fun ρ h => S41 hR (lk h rfl) (lk h rfl) (lk h rfl)) ?_
  refine g_set (fun ρ h => S42 (M := M) hR (lk h rfl) (lk h rfl)) ?_
  refine g_keep (fun ρ h => S43 (M := M) hR r1 (lk h rfl) (lk h rfl) (lk h rfl)) ?_
  refine g_set (fun ρ h => S44 (b := b) (lk h rfl) (lk h rfl)) ?_
  refine g_ex (x := 27) (P := fun w => w ∈ thr b) (fun ρ h => ?_) fun w ht => ?_
  · obtain ⟨w, hw, e⟩ := S45 (M := M) (lk h rfl) G (lk h rfl)
    exact ⟨w, hw, e _⟩
  have hw := G.tp w ht
  have hlo := G.lo w ht
  refine g_set (fun ρ h => S46 (b := b) (lk h rfl) (lk h rfl)) ?_
  refine g_set (fun ρ h => S47 (w := w) G (lk h rfl) (lk h rfl) (lk h rfl) (lk h rfl)) ?_
  refine g_set (fun ρ h => S48 (b := b) hw (lk h rfl) (lk h rfl) (lk h rfl)) ?_
  refine g_keep (fun ρ h => S49 (gr := grL b w) hlo (G.gl w ht) (lk h rfl) (lk h rfl) (lk h rfl)) ?_
  refine g_set (fun ρ h => S50 hw hlo (lk h rfl) (lk h rfl) (lk h rfl)) ?_
  refine g_set (fun ρ h => S51 hlo (lk h rfl) (lk h rfl)) ?_
  refine g_set (fun ρ h => S52 hw G (lk h rfl) (lk h rfl) (lk h rfl)) ?_
  refine g_set (fun ρ h => S53 ht G (lk h rfl) (lk h rfl) (lk h rfl) (lk h rfl) (lk h rfl)) ?_
  refine g_set (fun ρ h => S54 (w := w) (l := lostB b w) G ⟨_, rfl⟩ (lk h rfl) (lk h rfl) (lk h rfl) (lk h rfl)) ?_
  have hW : (w52 b w ++ w53 b w (lostB b w)).length ≤ 48 := by
    have h1 := G.fl
    have h2 := gr_len (w := w) G
    simp [w52, w53]; omega
  generalize w52 b w ++ w53 b w (lostB b w) = W at hW ⊢
  refine g_ex (x := 33) (P := fun o => o ∈ fou b) (fun ρ h => ?_) fun o ho' => ?_
  · obtain ⟨o, ho, e⟩ := S55 G (lk h rfl)
    exact ⟨o, ho, e _⟩
  have ho := G.fp o ho'
  refine g_set (fun ρ h => S56 ho (lk h rfl) (lk h rfl)) ?_
  refine g_set (fun ρ h => S57 ho (lk h rfl) (lk h rfl)) ?_
  refine g_set (fun ρ h => S58 (is := W) ho (by omega) (lk h rfl) (lk h rfl) (lk h rfl)) ?_
  refine g_set (fun ρ h => S59 (is := W ++ [0, 1]) ho (by simp; omega) (lk h rfl) (lk h rfl) (lk h rfl)) ?_
  refine g_set (fun ρ h => S60 (is := W ++ [0, 1] ++ [2, 1]) hw (by simp; omega) (lk h rfl) (lk h rfl)) ?_
  refine g_set (fun ρ h => S61 (is := W ++ [0, 1] ++ [2, 1] ++ [6, 4]) hw (by simp; omega) (lk h rfl) (lk h rfl)) ?_
  refine g_set (fun ρ h => S62 (is := W ++ [0, 1] ++ [2, 1] ++ [6, 4] ++ [4]) hw (by simp; omega) (lk h rfl) (lk h rfl)) ?_
  refine g_set (fun ρ h => S63 (is := W ++ [0, 1] ++ [2, 1] ++ [6, 4] ++ [4] ++ [6]) hw (by simp; omega) (lk h rfl) (lk h rfl)) ?_
  refine g_set (fun ρ h => S64 (M := M) (is := W ++ [0, 1] ++ [2, 1] ++ [6, 4] ++ [4] ++ [6] ++ [100, 100]) hw (by simp; omega) (lk h rfl) (lk h rfl) (lk h rfl)) ?_
  refine g_keep (fun ρ h => S65 (is := W ++ [0, 1] ++ [2, 1] ++ [6, 4] ++ [4] ++ [6] ++ [100, 100] ++ [80]) (by simp; omega) (lk h rfl) (lk h rfl)) ?_
  refine g_ret (fun ρ h => S66 (is := W) (by omega) ((lk h rfl : ρ.lookup 32 = some (.list ((W ++ [0, 1] ++ [2, 1] ++ [6, 4] ++ [4] ++ [6] ++ [100, 100] ++ [80]).map .int))).trans ?_) (lk h rfl))
  simp only [List.append_assoc, List.cons_append, List.nil_append]
theorem plain_law : ∀ ns : List Int, ns.length ≤ 63 → (PyData.list (ns.map .int)).layable0 = true → d_law [.list (ns.map .int)] = some (.bool true) := fun ns hl hy => by
  obtain ⟨ρ', e⟩ := goal_law hl hy [(0, .list (ns.map .int)), (51, .dict tokL)] fun _ => rfl
  unfold d_law callD
  rw [if_pos (show ([.list (ns.map .int)] : List D).length = pr_law.length from rfl)]
  show (match exS FL 20 200 [(0, .list (ns.map .int)), (51, .dict tokL)] ps_law with | some (.ret d, _) => some d | _ => none) = _
  rw [e]
end Ev
set_option maxHeartbeats 8000000
namespace Ev
open PySem PySem.W PyProof.Rows

/-- all objects of a heap, written out by their places -/
noncomputable def fragOf (h : Heap) : Frag := (List.range h.objs.size).filterMap fun a => (h.get? a).map fun o => (a, o)
theorem fragL_in {h : Heap} : ∀ {l : List Nat} {a : Addr} {o : Obj}, (l.filterMap fun a => (h.get? a).map fun o => (a, o)).lookup a = some o → h.get? a = some o
  | [], _, _, e => by cases e
  | b :: l, a, o, e => by
    rw [List.filterMap_cons] at e
    cases hb : h.get? b with
    | none => rw [hb] at e; exact fragL_in e
    | some x =>
      rw [hb] at e
      rw [Option.map_some] at e
      rw [List.lookup_cons] at e
      cases q : a == b with
      | true => rw [q] at e; cases e; rw [beq_iff_eq.mp q]; exact hb
      | false => rw [q] at e; exact fragL_in e
theorem fragOf_in (h : Heap) : (fragOf h).In h := fun _ _ e => fragL_in e

noncomputable abbrev obT : Type := List (Option (List PS)) × Option (PE × PE × List PE × List PE) × List (Option Unit) × Option Unit × List Int × Bool × Option Addr × Option Addr
noncomputable def obsK (K : Frag) : obT := (fnL.map fun x => fnCk K x.1 x.2.1 x.2.2.1 100, rdCk K cx_law_read pr_law_read, glL.map fun x => glCk K x.1 x.2, tabCk K "EXACT_TOKEN_TYPES" tokL, tabHs K "EXACT_TOKEN_TYPES", noNames K, excCk K "error_reply" [24], excCk K "error_proto" [24])
noncomputable def valK (P : Params) : obT := (fnL.map fun x => some x.2.2.2, some (pe_read, .var 1, [.var 0], q2_read), glL.map fun _ => some (), some (), (keysL tokL).map (PyData.keyHash P), true, some 37, some 49)
theorem kok_of {K : Frag} {P : Params} (e : obsK K = valK P) : KOk K P 37 49 24 :=
  ⟨congrArg (fun x => x.1) e, congrArg (fun x => x.2.1) e, congrArg (fun x => x.2.2.1) e, congrArg (fun x => x.2.2.2.1) e, congrArg (fun x => x.2.2.2.2.1) e, congrArg (fun x => x.2.2.2.2.2.1) e, congrArg (fun x => x.2.2.2.2.2.2.1) e, congrArg (fun x => x.2.2.2.2.2.2.2) e, by decide +kernel⟩
noncomputable def hook : Hook := ⟨obT, fun s => obsK (fragOf s.heap), fun w => valK w.params, fun w h => ∃ K : Frag, KOk K w.params 37 49 24 ∧ K.In h, fun _ _ e => ⟨_, kok_of e, fragOf_in _⟩, fun _ _ _ x k => x.elim fun K y => ⟨K, y.1, y.2.keeps k⟩⟩
noncomputable abbrev theQ : Program := view PySem.Challenge.pw_wo0054_01 [86]
noncomputable abbrev theL : List Str := PySem.Challenge.pw_wo0054_01.main.scope.names.map (·.1)
noncomputable abbrev theR : OpenRow := PySem.Challenge.rw_wo0054_01.row
noncomputable def sn (s : Shared) := openSeen theQ theL (importedModules PySem.Challenge.pw_wo0054_01.main.body) (fun s => xlAt theQ [] s && recOk (RowW.records theR.toRowW) s) true s
noncomputable def ends (b : Bool) (w : World) : Option Shared := openEnds treeTable PySem.Challenge.pw_wo0054_01 (w.withFollow "special-get-raises" b) 5882
theorem leftF : ∀ w : World, (ends false w).map (fun s => (sn s, Hook.obs hook s)) = some (openGood theQ theL, Hook.val hook (w.withFollow "special-get-raises" false)) := fun w => by
  unfold ends sn openEnds fencedOpening topFrom
  rw [Fast.te14082659384304107361, Fast.te14364793385576792824, Fast.te10274390034422433532, Fast.te14289696077712309145, Fast.te4187177175401517315, Fast.te5923862056798008813]
  kernel_rfl
theorem leftT : ∀ w : World, (ends true w).map (fun s => (sn s, Hook.obs hook s)) = some (openGood theQ theL, Hook.val hook (w.withFollow "special-get-raises" true)) := fun w => by
  unfold ends sn openEnds fencedOpening topFrom
  rw [Fast.te14082659384304107361, Fast.te14364793385576792824, Fast.te10274390034422433532, Fast.te14289696077712309145, Fast.te4187177175401517315, Fast.te5923862056798008813]
  kernel_rfl
theorem left : LeftO PySem.Challenge.pw_wo0054_01 theQ theL (fun s => xlAt theQ [] s && recOk (RowW.records theR.toRowW) s) (Hook.obs hook) (Hook.val hook) 5882 := fun w => by
  have e := World.withFollow_self w "special-get-raises"
  cases hb : w.params.followText "special-get-raises" with
  | false => have h := leftF w; unfold ends at h; rw [hb] at e; rw [e] at h; exact h
  | true => have h := leftT w; unfold ends at h; rw [hb] at e; rw [e] at h; exact h
theorem said0 : OpenLaw.wellSaid PySem.Challenge.rw_wo0054_01 = true := by
  rw [Fast.te9446332074065402090]
  kernel_rfl
end Ev
end
set_option maxHeartbeats 8000000
open PySem PySem.W PyProof.Rows
theorem PySem.Challenge.cw_wo0054_01_holds : PySem.Challenge.rw_wo0054_01.Holds := by
  refine holds_law Ev.said0 fun said => ?_
  refine PySem.W.holds_open (q := Ev.theQ) (loose := Ev.theL) (Xt := fun s => xlAt Ev.theQ [] s && recOk (RowW.records Ev.theR.toRowW) s) (XP := XL Ev.theQ []) (Yf := Hook.obs Ev.hook) (Ya := Hook.val Ev.hook) (YP := Hook.says Ev.hook) (N := 5882) Ev.left (Hook.of Ev.hook) (Hook.keeps Ev.hook) (fun s e => xl_of s (Bool.and_eq_true_iff.mp e).1) XL.keeps (by rfl) (by rfl) (by rfl) (fun s e => recFacts_of (Bool.and_eq_true_iff.mp e).2) (by rfl) said (by decide +kernel) ⟨rfl, rfl, rfl, rfl, rfl, by decide +kernel⟩ ?_ ?_
  · w_witness2
  · intro w s₀ s₁ mg mb G Y a o pm cd doc dV kV ho hd' hcd hD hmg hg args vals as hpre hlay hrd hwl hlo
    wrow_args hpre hlay hrd hwl hlo
    obtain ⟨K, kk, X⟩ := Y
    refine Ev.main_law kk X G.T.g G.T.nolimit ⟨mb, G.T.b, G.T.builtins⟩ (by assumption) (by assumption) ?_ hmg ?_ ?_
    · omega
    · exact Ev.plain_law _ (by omega) (by assumption)
    · intro h' tk hk
      refine GoodW.toG ⟨.inl ⟨_, .bool true, [], rfl, fun _ => rfl, .bool true, ?_, fun _ => ⟨.nil, fun a ha => by cases ha⟩⟩, hk, rfl, hg⟩
      refine postW_of (X := (true == true)) rfl ?_ rfl
      show WTm.value _ (WTm.eq .res (.lit (.bool true))) _ = some (.bool (true == true))
      exact w_eq_bool (w_res rfl) w_lit

import PyProof.Rows.All
import Wide.All
import OpenK.AllK
import Wide.FinOn
import Lean
import PySem.Challenge.RW_kx0008_01
open PySem PySem.W PyProof.Rows PySem.Calls
set_option Elab.async false
set_option maxRecDepth 100000
set_option genSizeOf false
set_option genInjectivity false
set_option bootstrap.genMatcherCode false
namespace Mine
inductive AV where
  | none
  | bool (b : Bool)
  | int (i : Int)
  | ref (a : Addr)
  deriving DecidableEq
inductive Sim : Value → AV → Prop
  | none : Sim .none .none
  | bool (b : Bool) : Sim (.bool b) (.bool b)
  | int (i : Int) (t : Tok) : Sim (.int i t) (.int i)
  | ref (a : Addr) : Sim (.ref a) (.ref a)
theorem Sim.toI {v : Value} {i : Int} (h : Sim v (.int i)) : ∃ t, v = .int i t := by cases h; exact ⟨_, rfl⟩
theorem Sim.toR {v : Value} {a : Addr} (h : Sim v (.ref a)) : v = .ref a := by cases h; rfl
theorem Sim.toB {v : Value} {b : Bool} (h : Sim v (.bool b)) : v = .bool b := by cases h; rfl
theorem Sim.toN {v : Value} (h : Sim v .none) : v = .none := by cases h; rfl
noncomputable def SimL (vs : List Value) : List AV → Prop :=
  List.rec (motive := fun _ => List AV → Prop) (fun as => List.casesOn as True fun _ _ => False) (fun v _ ih as => List.casesOn as False fun a as => Sim v a ∧ ih as) vs
theorem SimL.ind {P : List Value → List AV → Prop} (n : P [] []) (c : ∀ v a vs as, Sim v a → SimL vs as → P vs as → P (v :: vs) (a :: as)) : ∀ {vs : List Value} {as : List AV}, SimL vs as → P vs as := by
  intro vs
  induction vs with
  | nil =>
    intro as h
    cases as with
    | nil => exact n
    | cons _ _ => exact False.elim h
  | cons v vs ih =>
    intro as h
    cases as with
    | nil => exact False.elim h
    | cons a as => exact c v a vs as h.1 h.2 (ih h.2)
theorem SimL.length {vs : List Value} {as : List AV} (h : SimL vs as) : vs.length = as.length :=
  SimL.ind (P := fun vs as => vs.length = as.length) rfl (fun _ _ _ _ _ _ e => congrArg (· + 1) e) h
theorem SimL.get {vs : List Value} {as : List AV} {i : Nat} {a : AV} (h : SimL vs as) (e : as[i]? = some a) : ∃ v, vs[i]? = some v ∧ Sim v a :=
  SimL.ind (P := fun vs as => ∀ i a, as[i]? = some a → ∃ v, vs[i]? = some v ∧ Sim v a) (fun _ _ e => by rw [List.getElem?_nil] at e; cases e) (fun v b _ _ hv _ ih i a e => by
    cases i with
    | zero => exact ⟨v, rfl, Option.some.inj e ▸ hv⟩
    | succ i => exact ih i a e) h i a e
theorem SimL.append {vs ws : List Value} {as bs : List AV} (h : SimL vs as) (h' : SimL ws bs) : SimL (vs ++ ws) (as ++ bs) :=
  SimL.ind (P := fun vs as => SimL (vs ++ ws) (as ++ bs)) h' (fun _ _ _ _ hv _ ih => ⟨hv, ih⟩) h
theorem SimL.take {vs : List Value} {as : List AV} (n : Nat) (h : SimL vs as) : SimL (vs.take n) (as.take n) :=
  SimL.ind (P := fun vs as => ∀ n, SimL (vs.take n) (as.take n)) (fun n => by rw [List.take_nil, List.take_nil]; trivial) (fun _ _ _ _ hv _ ih n => by
    cases n with
    | zero => trivial
    | succ n => exact ⟨hv, ih n⟩) h n
theorem SimL.drop {vs : List Value} {as : List AV} (n : Nat) (h : SimL vs as) : SimL (vs.drop n) (as.drop n) :=
  SimL.ind (P := fun vs as => ∀ n, SimL (vs.drop n) (as.drop n)) (fun n => by rw [List.drop_nil, List.drop_nil]; trivial) (fun _ _ _ _ hv hs ih n => by
    cases n with
    | zero => exact ⟨hv, hs⟩
    | succ n => exact ih n) h n
theorem SimL.set {vs : List Value} {as : List AV} {v : Value} {a : AV} (n : Nat) (h : SimL vs as) (h' : Sim v a) : SimL (vs.set n v) (as.set n a) :=
  SimL.ind (P := fun vs as => ∀ n, SimL (vs.set n v) (as.set n a)) (fun _ => trivial) (fun _ _ _ _ hv hs ih n => by
    cases n with
    | zero => exact ⟨h', hs⟩
    | succ n => exact ⟨hv, ih n⟩) h n
theorem SimL.nil_iff {vs : List Value} : SimL vs [] → vs = [] := by
  cases vs with
  | nil => intro _; rfl
  | cons _ _ => intro h; exact False.elim h
noncomputable def FSim (es : List DictEntry) : List (String × AV) → Prop :=
  List.rec (motive := fun _ => List (String × AV) → Prop) (fun fs => List.casesOn fs True fun _ _ => False) (fun e _ ih fs => List.casesOn fs False fun p fs => (∃ t, e.key = .str (Str.ofString p.1) t) ∧ Sim e.val p.2 ∧ ih fs) es
theorem FSim.ind {P : List DictEntry → List (String × AV) → Prop} (n : P [] []) (c : ∀ e es x v fs t, e.key = .str (Str.ofString x) t → Sim e.val v → FSim es fs → P es fs → P (e :: es) ((x, v) :: fs)) : ∀ {es : List DictEntry} {fs : List (String × AV)}, FSim es fs → P es fs := by
  intro es
  induction es with
  | nil =>
    intro fs h
    cases fs with
    | nil => exact n
    | cons _ _ => exact False.elim h
  | cons e es ih =>
    intro fs h
    cases fs with
    | nil => exact False.elim h
    | cons p fs => exact h.1.elim fun t q => c e es p.1 p.2 fs t q h.2.1 h.2.2 (ih h.2.2)
noncomputable def KSim (es : List (Int × Value)) : List (Int × AV) → Prop :=
  List.rec (motive := fun _ => List (Int × AV) → Prop) (fun fs => List.casesOn fs True fun _ _ => False) (fun e _ ih fs => List.casesOn fs False fun p fs => e.1 = p.1 ∧ Sim e.2 p.2 ∧ ih fs) es
theorem KSim.ind {P : List (Int × Value) → List (Int × AV) → Prop} (n : P [] []) (c : ∀ k v es a fs, Sim v a → KSim es fs → P es fs → P ((k, v) :: es) ((k, a) :: fs)) : ∀ {es : List (Int × Value)} {fs : List (Int × AV)}, KSim es fs → P es fs := by
  intro es
  induction es with
  | nil =>
    intro fs h
    cases fs with
    | nil => exact n
    | cons _ _ => exact False.elim h
  | cons e es ih =>
    intro fs h
    cases fs with
    | nil => exact False.elim h
    | cons p fs =>
      obtain ⟨k, v⟩ := e
      obtain ⟨k', a⟩ := p
      obtain rfl : k = k' := h.1
      exact c k v es a fs h.2.1 h.2.2 (ih h.2.2)
structure AH where
  L : Addr → Option (List AV)
  I : Addr → Option (Addr × List (String × AV))
  T : Addr → Option (List AV)
  D : Addr → Option (List (Int × AV))
  B : Addr → Option Addr
abbrev Loc := String → Option AV
noncomputable def upd {α : Type} (f : Addr → Option α) (a : Addr) (v : α) : Addr → Option α := fun b => if b = a then some v else f b
noncomputable def Loc.set (σ : Loc) (x : String) (v : AV) : Loc := fun y => if y = x then some v else σ y
noncomputable def AH.setL (H : AH) (a : Addr) (xs : List AV) : AH := { H with L := upd H.L a xs }
noncomputable def AH.setI (H : AH) (a : Addr) (C : Addr) (fs : List (String × AV)) : AH := { H with I := upd H.I a (C, fs) }
noncomputable def AH.setT (H : AH) (a : Addr) (xs : List AV) : AH := { H with T := upd H.T a xs }
noncomputable def AH.setD (H : AH) (a : Addr) (es : List (Int × AV)) : AH := { H with D := upd H.D a es }
noncomputable def AH.setB (H : AH) (a l : Addr) : AH := { H with B := upd H.B a l }
noncomputable def AH.free (H : AH) (a : Addr) : Prop := H.L a = none ∧ H.I a = none ∧ H.T a = none ∧ H.D a = none ∧ H.B a = none
theorem AH.free.setL {H : AH} {q a : Addr} {xs : List AV} (h : H.free q) (e : q ≠ a) : (H.setL a xs).free q := by simpa [AH.free, AH.setL, upd, e] using h
theorem AH.free.setT {H : AH} {q a : Addr} {xs : List AV} (h : H.free q) (e : q ≠ a) : (H.setT a xs).free q := by simpa [AH.free, AH.setT, upd, e] using h
theorem AH.free.setI {H : AH} {q a C : Addr} {xs : List (String × AV)} (h : H.free q) (e : q ≠ a) : (H.setI a C xs).free q := by simpa [AH.free, AH.setI, upd, e] using h
theorem AH.free.setD {H : AH} {q a : Addr} {xs : List (Int × AV)} (h : H.free q) (e : q ≠ a) : (H.setD a xs).free q := by simpa [AH.free, AH.setD, upd, e] using h
theorem AH.free.setB {H : AH} {q a l : Addr} (h : H.free q) (e : q ≠ a) : (H.setB a l).free q := by simpa [AH.free, AH.setB, upd, e] using h
theorem AH.free.neL {H : AH} {q a : Addr} {xs : List AV} (h : H.free q) (e : H.L a = some xs) : q ≠ a := fun z => by rw [← z, h.1] at e; cases e
theorem AH.free.neT {H : AH} {q a : Addr} {xs : List AV} (h : H.free q) (e : H.T a = some xs) : q ≠ a := fun z => by rw [← z, h.2.2.1] at e; cases e
theorem AH.free.neI {H : AH} {q a : Addr} {x} (h : H.free q) (e : H.I a = some x) : q ≠ a := fun z => by rw [← z, h.2.1] at e; cases e
theorem AH.free.neD {H : AH} {q a : Addr} {x} (h : H.free q) (e : H.D a = some x) : q ≠ a := fun z => by rw [← z, h.2.2.2.1] at e; cases e
theorem AH.free.neB {H : AH} {q a : Addr} {x} (h : H.free q) (e : H.B a = some x) : q ≠ a := fun z => by rw [← z, h.2.2.2.2] at e; cases e
@[simp] theorem upd_same {α : Type} (f : Addr → Option α) (a : Addr) (v : α) : upd f a v a = some v := by simp [upd]
theorem upd_ne {α : Type} (f : Addr → Option α) {a b : Addr} (v : α) (h : b ≠ a) : upd f a v b = f b := by simp [upd, h]
structure Cx where
  prog : Program
  w : World
  K : Frag
  p : Program
  loose : List Str
  mean : ExcName → Option Value
  mg : Str → Option Value
  mb : Str → Option Value
  base : Heap
  os : OsState
  dr : Drawn
  ro : Addr → Option (List Value)
structure Cx.Ok (cx : Cx) : Prop where
  kin : cx.K.In cx.base
  top : Top cx.p cx.loose cx.mean cx.mg cx.mb cx.base
  ro : ∀ a vs, cx.ro a = some vs → cx.base.IsList a vs.toArray ∨ IsTup cx.base a vs.toArray
  big : ∃ b o, sysModules < b ∧ cx.base.get? b = some o
structure Frm where
  A₀ : Around
  outer : List Env
  L : Addr
  name : Str
  scope : Scope
  a : Addr
  cd : Value
@[reducible] def Frm.env (fr : Frm) : Env := envOf fr.name fr.scope fr.L fr.a fr.cd
@[reducible] def Frm.A (fr : Frm) : Around := fr.A₀.deeper fr.env
@[reducible] def Frm.fs (fr : Frm) : List Addr := fr.outer.filterMap (·.frame)
structure Frm.Ok (fr : Frm) (n : Nat) : Prop where
  kind : fr.scope.kind = .function
  handled : fr.A₀.handled = none
  depth : fr.A.depth + 3 * n ≤ 900
  units : fr.A.units + 30 * n ≤ 9000
  frames : fr.A₀.frames = some fr.outer
noncomputable def LocM (m : Str → Option Value) (σ : Loc) : Prop := ∀ x av, σ x = some av → ∃ v, m (Str.ofString x) = some v ∧ Sim v av
abbrev tupObj (vs : List Value) : Obj := { cls := .type "tuple", data := .seq vs.toArray }
abbrev bmObj (id : String) (l : Addr) : Obj := { cls := .type "builtin_function_or_method", data := .fields #[.builtin id, .ref l] }
noncomputable def getOk (K : Frag) (C : Addr) (x : Str) : Bool :=
  plainGet K C x && hasDictIn K C && (match findIn K (.ref C) x with | some attr => noGet K attr | none => false)
noncomputable def setOk (K : Frag) (C : Addr) (x : Str) : Bool :=
  findIn K (.ref C) "__setattr__" == some (some (.builtin "object.__setattr__")) && plainOver K C && takerIn K C x == some none && hasDictIn K C
noncomputable def fieldOk (K : Frag) (C : Addr) (x : String) : Bool := getOk K C (Str.ofString x) && setOk K C (Str.ofString x)
inductive MatL (news : List (Addr × Obj)) (a : Addr) (xs : List AV) : Prop
  | mk (hb : xs.length ≤ 1000) (vs : List Value) (n : Nat) (hm : (a, W.listOf vs.toArray n) ∈ news) (hs : SimL vs xs)
inductive MatT (news : List (Addr × Obj)) (a : Addr) (xs : List AV) : Prop
  | mk (vs : List Value) (hm : (a, tupObj vs) ∈ news) (hs : SimL vs xs)
inductive MatF (news : List (Addr × Obj)) (d : Addr) (fs : List (String × AV)) : Prop
  | mk (es : List DictEntry) (n : Nat) (hm : (d, dictOf es n) ∈ news) (hs : FSim es fs)
inductive MatI (cx : Cx) (news : List (Addr × Obj)) (δ : Addr → Addr) (a C : Addr) (fs : List (String × AV)) : Prop
  | mk (hm : (a, instObj C (δ a)) ∈ news) (hf : MatF news (δ a) fs) (hl : fs.length ≤ 100) (hn : ∀ y ∈ fs, fieldOk cx.K C y.1 = true)
inductive MatDE (cx : Cx) (news : List (Addr × Obj)) (a : Addr) (es : List (Int × AV)) : Prop
  | mk (hb : es.length ≤ 1000) (o : Obj) (kvs : List (Int × Value)) (hm : (a, o) ∈ news) (hc : o.cls = .type "dict") (hd : o.IsDictOf (PySem.intKind cx.prog cx.w) kvs) (hk : KSim kvs es) (hs : (a == sysModules) = false)
inductive MatD (cx : Cx) (news : List (Addr × Obj)) (HI : Addr → Option (Addr × List (String × AV))) (δ : Addr → Addr) (a : Addr) (es : List (Int × AV)) : Prop
  | mk (he : MatDE cx news a es) (ho : ∀ b, HI b ≠ none → δ b ≠ a)
structure Match (cx : Cx) (news : List (Addr × Obj)) (H : AH) (X : List (Addr × Obj)) (δ : Addr → Addr) : Prop where
  nd : (news.map (·.1)).Nodup
  L : ∀ a xs, H.L a = some xs → MatL news a xs
  T : ∀ a xs, H.T a = some xs → MatT news a xs
  I : ∀ a C fs, H.I a = some (C, fs) → MatI cx news δ a C fs
  inj : ∀ a b, H.I a ≠ none → H.I b ≠ none → δ a = δ b → a = b
  D : ∀ a es, H.D a = some es → MatD cx news H.I δ a es
  B : ∀ q l, H.B q = some l → (q, bmObj "list.append" l) ∈ news
  X : ∀ q ∈ X, q ∈ news ∧ H.free q.1 ∧ ∀ b, H.I b ≠ none → δ b ≠ q.1
structure StG (cx : Cx) (fr : Frm) (g : Heap) : Prop where
  bel : Below fr.A₀ cx.base fr.outer g
  kin : cx.K.In g
  top : Top cx.p cx.loose cx.mean cx.mg cx.mb g
  dicts : KtsDicts fr.fs g
inductive StX (cx : Cx) (fr : Frm) (g : Heap) (X : List (Addr × Obj)) (σ : Loc) (H : AH) (h : Heap) : Prop
  | mk (m : Str → Option Value) (news : List (Addr × Obj)) (δ : Addr → Addr) (F : Fr g fr.L h m) (N : News g fr.L h news) (lm : LocM m σ) (M : Match cx news H X δ)
structure St (cx : Cx) (fr : Frm) (g : Heap) (X : List (Addr × Obj)) (σ : Loc) (H : AH) (s : Shared) : Prop where
  gg : StG cx fr g
  ex : StX cx fr g X σ H s.heap
  gens : s.gens = #[]
  os : s.os = cx.os ∧ s.drawn = cx.dr
noncomputable def Turn (fr : Frm) (tn : Bool) (g g' : Heap) : Prop := (tn = false → g' = g) ∧ KtsTurn fr.fs g g'
theorem Turn.refl {fr : Frm} {tn : Bool} {g : Heap} : Turn fr tn g g := ⟨fun _ => rfl, .refl⟩
theorem Turn.trans {fr : Frm} {tn : Bool} {g g₁ g₂ : Heap} (x : Turn fr tn g g₁) (y : Turn fr tn g₁ g₂) : Turn fr tn g g₂ :=
  ⟨fun e => (y.1 e).trans (x.1 e), x.2.trans y.2⟩
structure XP where
  fly : Value → Loc → AH → Prop
  made : Value → Loc → AH → Prop
inductive ErrM (cx : Cx) (fr : Frm) (g' : Heap) (Xl : List (Addr × Obj)) (X : XP) (ea : Addr) (cls : Value) (σ' : Loc) (H' : AH) (δ : Addr → Addr) (hp : Heap) : Prop
  | mk (hX : X.made cls σ' H') (h : Heap) (vs : List Value) (m : Str → Option Value) (news : List (Addr × Obj)) (hm : Heap.MadeExcOf h hp ea cls vs) (F : Fr g' fr.L h m) (N : News g' fr.L h news) (lm : LocM m σ') (M : Match cx news H' Xl δ)
inductive ErrF (cx : Cx) (fr : Frm) (g' : Heap) (Xl : List (Addr × Obj)) (X : XP) (ea : Addr) (cls : Value) (σ' : Loc) (H' : AH) (δ : Addr → Addr) (hp : Heap) : Prop
  | mk (hX : X.fly cls σ' H') (G : Heap) (t : Addr) (vs : List Value) (m : Str → Option Value) (news : List (Addr × Obj)) (hr : RaisedS cx.base G (fr.env :: fr.outer) ea cls t vs news hp) (F : Fr g' fr.L G m) (hs : G.UpToSlots hp) (lm : LocM m σ') (M : Match cx news H' Xl δ)
inductive Err (cx : Cx) (fr : Frm) (tn : Bool) (g : Heap) (Xl : List (Addr × Obj)) (X : XP) (e : Value) (s' : Shared) : Prop
  | mk (g' : Heap) (ea : Addr) (cls : Value) (σ' : Loc) (H' : AH) (δ : Addr → Addr) (tr : Turn fr tn g g') (he : e = .ref ea) (hg : s'.gens = #[]) (ho : s'.os = cx.os ∧ s'.drawn = cx.dr) (tt : True) (gg : StG cx fr g')
    (hc : ErrM cx fr g' Xl X ea cls σ' H' δ s'.heap ∨ ErrF cx fr g' Xl X ea cls σ' H' δ s'.heap)
inductive Post {α : Type} (cx : Cx) (fr : Frm) (tn : Bool) (g : Heap) (Xl : List (Addr × Obj)) (R : α → Loc → AH → Prop) (a : α) (s' : Shared) : Prop
  | mk (g' : Heap) (σ' : Loc) (H' : AH) (tr : Turn fr tn g g') (st : St cx fr g' Xl σ' H' s') (r : R a σ' H')
theorem Post.trans {α : Type} {cx : Cx} {fr : Frm} {tn : Bool} {g g₁ : Heap} {Xl} {R : α → Loc → AH → Prop} {a : α} {s' : Shared} (t : Turn fr tn g g₁) (h : Post cx fr tn g₁ Xl R a s') : Post cx fr tn g Xl R a s' :=
  let ⟨g', σ', H', t', st, r⟩ := h; ⟨g', σ', H', t.trans t', st, r⟩
theorem Err.trans {cx : Cx} {fr : Frm} {tn : Bool} {g g₁ : Heap} {Xl} {X : XP} {e : Value} {s' : Shared} (t : Turn fr tn g g₁) (h : Err cx fr tn g₁ Xl X e s') : Err cx fr tn g Xl X e s' :=
  let ⟨g', ea, cls, σ', H', δ, t', a, b, c, d, f, r⟩ := h; ⟨g', ea, cls, σ', H', δ, t.trans t', a, b, c, d, f, r⟩
structure Mode where
  cx : Cx
  ok : cx.Ok
  n : Nat
  tn : Bool
noncomputable def SemT {α : Type} (cx : Cx) (fr : Frm) (tn : Bool) (X : XP) (t : Sem α) (σ : Loc) (H : AH) (R : α → Loc → AH → Prop) : Prop :=
  ∀ g Xl s, St cx fr g Xl σ H s → wpAny (model cx.prog cx.w) fr.A t (Post cx fr tn g Xl R) (Err cx fr tn g Xl X) s
section
variable {α β : Type} {cx : Cx} {fr : Frm} {tn : Bool} {X : XP} {σ : Loc} {H : AH}
theorem SemT.mono {t : Sem α} {R R' : α → Loc → AH → Prop} (h : SemT cx fr tn X t σ H R) (hR : ∀ a σ' H', R a σ' H' → R' a σ' H') : SemT cx fr tn X t σ H R' :=
  fun g Xl s hs => wpAny_mono (h g Xl s hs) (fun a s' ⟨g', σ', H', t, st, r⟩ => ⟨g', σ', H', t, st, hR _ _ _ r⟩) fun _ _ e => e
theorem SemT.seq {t : Sem β} {t1 : Sem α} {t2 : α → Sem β} {R : β → Loc → AH → Prop}
    (rule : ∀ (Q : β → Shared → Prop) (E : Value → Shared → Prop) (s : Shared), wpAny (model cx.prog cx.w) fr.A t1 (fun a s₁ => wpAny (model cx.prog cx.w) fr.A (t2 a) Q E s₁) E s → wpAny (model cx.prog cx.w) fr.A t Q E s)
    (h : SemT cx fr tn X t1 σ H (fun a σ' H' => SemT cx fr tn X (t2 a) σ' H' R)) : SemT cx fr tn X t σ H R := fun g Xl s hs => by
  refine rule _ _ s (wpAny_mono (h g Xl s hs) (fun a s₁ p1_ => ?_) fun _ _ e => e)
  obtain ⟨g', σ', H', tr, st, r⟩ := p1_
  exact wpAny_mono (r g' Xl s₁ st) (fun _ _ p => p.trans tr) fun _ _ e => e.trans tr
theorem SemT.pure {a : α} {R : α → Loc → AH → Prop} (h : R a σ H) : SemT cx fr tn X (pure a) σ H R := fun g Xl s hs => wpAny_pure ⟨g, σ, H, .refl, hs, h⟩
end
inductive VR (σ : Loc) (Q : AV → AH → Prop) (v : Value) (σ' : Loc) (H' : AH) : Prop
  | mk' (e : σ' = σ) (av : AV) (hv : Sim v av) (hq : Q av H')
theorem SemT.useV {cx : Cx} {fr : Frm} {tn : Bool} {X : XP} {σ : Loc} {H : AH} {t : Sem Value} {Q : AV → AH → Prop} {g : Heap} {Xl : List (Addr × Obj)} {s : Shared} {P E' : Value → Shared → Prop} (h : SemT cx fr tn X t σ H (VR σ Q)) (st : St cx fr g Xl σ H s)
    (k : ∀ v s' g' H' av, Turn fr tn g g' → St cx fr g' Xl σ H' s' → Sim v av → Q av H' → P v s') (ke : ∀ e s', Err cx fr tn g Xl X e s' → E' e s') : wpAny (model cx.prog cx.w) fr.A t P E' s := by
  refine wpAny_mono (h g Xl s st) (fun v s' p => ?_) ke
  cases p with
  | mk g' σ' H' tr st' r =>
    cases r with
    | mk' e av hv hq => subst e; exact k _ _ _ _ _ tr st' hv hq
theorem SemT.useF {cx : Cx} {fr : Frm} {X : XP} {σ : Loc} {H : AH} {t : Sem Value} {Q : AV → AH → Prop} {g : Heap} {Xl : List (Addr × Obj)} {s : Shared} {P E' : Value → Shared → Prop} (h : SemT cx fr false X t σ H (VR σ Q)) (st : St cx fr g Xl σ H s)
    (k : ∀ v s' H' av, St cx fr g Xl σ H' s' → Sim v av → Q av H' → P v s') (ke : ∀ e s', Err cx fr false g Xl X e s' → E' e s') : wpAny (model cx.prog cx.w) fr.A t P E' s :=
  h.useV st (fun v s' g' H' av tr st' hv q => by
    obtain rfl : g' = g := tr.1 rfl
    exact k _ _ _ _ st' hv q) ke
set_option linter.unusedVariables false
theorem ofString_inj {x y : String} (h : Str.ofString x = Str.ofString y) : x = y := by
  rw [Str.ofString_eq_toList, Str.ofString_eq_toList] at h
  have h1 : x.toList.map Char.toNat = y.toList.map Char.toNat := by
    have := congrArg (fun s : Str => s.cps.toList) h
    simpa using this
  have h2 : x.toList = y.toList := by
    have inj : ∀ (a b : List Char), a.map Char.toNat = b.map Char.toNat → a = b := by
      intro a
      induction a with
      | nil => intro b e; cases b with
        | nil => rfl
        | cons _ _ => simp at e
      | cons c a ih => intro b e; cases b with
        | nil => simp at e
        | cons d b =>
          simp at e
          have : c = d := Char.ext (UInt32.toNat_inj.mp e.1)
          rw [this, ih b e.2]
    exact inj _ _ h1
  exact String.toList_inj.mp h2
theorem ofString_iff {x y : String} : Str.ofString x = Str.ofString y ↔ x = y := ⟨ofString_inj, fun h => h ▸ rfl⟩
theorem LocM.set {m : Str → Option Value} {σ : Loc} {x : String} {v : Value} {av : AV} (h : LocM m σ) (hv : Sim v av) : LocM (fun y => if y = Str.ofString x then some v else m y) (σ.set x av) := by
  intro y a e
  unfold Loc.set at e
  by_cases hy : y = x
  · subst hy; simp at e; subst e; exact ⟨v, by simp, hv⟩
  · rw [if_neg hy] at e
    obtain ⟨w, h1, h2⟩ := h y a e
    exact ⟨w, by show (if Str.ofString y = Str.ofString x then some v else m (Str.ofString y)) = some w; rw [if_neg (fun q => hy (ofString_inj q))]; exact h1, h2⟩
theorem mem_uniq {news : List (Addr × Obj)} {h₀ h : Heap} {L : Addr} (N : News h₀ L h news) {a : Addr} {o o' : Obj} (h1 : (a, o) ∈ news) (h2 : (a, o') ∈ news) : o = o' := by
  have e1 := (N _ h1).1
  have e2 := (N _ h2).1
  exact Option.some.inj (e1.symm.trans e2)
theorem mem_split {news : List (Addr × Obj)} {a : Addr} {o : Obj} (nd : (news.map (·.1)).Nodup) (h : (a, o) ∈ news) :
    ∃ pre post, news = pre ++ (a, o) :: post ∧ (∀ p ∈ pre, p.1 ≠ a) ∧ (∀ p ∈ post, p.1 ≠ a) := by
  obtain ⟨pre, post, rfl⟩ := List.append_of_mem h
  refine ⟨pre, post, rfl, ?_, ?_⟩
  · intro p hp e
    rw [List.map_append, List.map_cons] at nd
    have := (List.nodup_append.mp nd).2.2 p.1 (List.mem_map_of_mem hp) a (by simp)
    exact this e
  · intro p hp e
    rw [List.map_append, List.map_cons] at nd
    have h2 := (List.nodup_append.mp nd).2.1
    have h3 := (List.nodup_cons.mp h2).1
    exact h3 (List.mem_map.mpr ⟨p, hp, e⟩)
theorem mem_turn {pre post : List (Addr × Obj)} {a b : Addr} {o o' x : Obj} (hb : b ≠ a) (h : (b, x) ∈ pre ++ (a, o) :: post) : (b, x) ∈ pre ++ (a, o') :: post := by
  rcases List.mem_append.mp h with h | h
  · exact List.mem_append_left _ h
  · rcases List.mem_cons.mp h with h | h
    · exact absurd (Prod.mk.inj h).1 hb
    · exact List.mem_append_right _ (List.mem_cons_of_mem _ h)
theorem upd_of_split {pre post : List (Addr × Obj)} {a : Addr} {o o' : Obj} (h1 : ∀ p ∈ pre, p.1 ≠ a) (h2 : ∀ p ∈ post, p.1 ≠ a) : Upd a o o' (pre ++ (a, o) :: post) (pre ++ (a, o') :: post) := by
  induction pre with
  | nil => exact .head h2
  | cons p pre ih => exact .tail (h1 p (by simp)) (ih fun q hq => h1 q (by simp [hq]))
theorem nd_turn {pre post : List (Addr × Obj)} {a : Addr} {o o' : Obj} (h : ((pre ++ (a, o) :: post).map (·.1)).Nodup) : ((pre ++ (a, o') :: post).map (·.1)).Nodup := by
  simpa using h
section
variable {cx : Cx} {news pre post : List (Addr × Obj)} {H : AH} {X : List (Addr × Obj)} {δ : Addr → Addr} {h₀ h : Heap} {Lx : Addr}
theorem Match.updL {a : Addr} {vs vs' : List Value} {n n' : Nat} {xs xs' : List AV} (N : News h₀ Lx h (pre ++ (a, W.listOf vs.toArray n) :: post)) (M : Match cx (pre ++ (a, W.listOf vs.toArray n) :: post) H X δ)
    (he : H.L a = some xs) (hs : SimL vs' xs') (hl : xs'.length ≤ 1000) : Match cx (pre ++ (a, W.listOf vs'.toArray n') :: post) (H.setL a xs') X δ := by
  have hm : (a, W.listOf vs.toArray n) ∈ pre ++ (a, W.listOf vs.toArray n) :: post := by simp
  have ne : ∀ {b : Addr} {o : Obj}, (b, o) ∈ pre ++ (a, W.listOf vs.toArray n) :: post → o.cls ≠ .type "list" → b ≠ a := fun hb hc e => by
    subst e
    have := mem_uniq N hb hm
    exact hc (by rw [this])
  refine ⟨nd_turn M.nd, ?_, ?_, ?_, M.inj, ?_, ?_, ?_⟩
  · intro b ys hb
    by_cases e : b = a
    · subst e
      simp [AH.setL] at hb; subst hb
      exact ⟨hl, vs', n', by simp, hs⟩
    · simp [AH.setL, upd_ne _ _ e] at hb
      obtain ⟨h1, ws, k, h2, h3⟩ := M.L b ys hb
      exact ⟨h1, ws, k, mem_turn e h2, h3⟩
  · intro b ys hb
    obtain ⟨ws, h2, h3⟩ := M.T b ys hb
    exact ⟨ws, mem_turn (ne h2 (by simp)) h2, h3⟩
  · intro b C fs hb
    obtain ⟨h1, ⟨es, k, h2, h3⟩, h4, h5⟩ := M.I b C fs hb
    exact ⟨mem_turn (ne h1 (by simp)) h1, ⟨es, k, mem_turn (ne h2 (by simp)) h2, h3⟩, h4, h5⟩
  · intro b es hb
    obtain ⟨⟨h0, o, kvs, h1, h2, h3, h5, h6⟩, h4⟩ := M.D b es hb
    exact ⟨⟨h0, o, kvs, mem_turn (ne h1 (by rw [h2]; simp)) h1, h2, h3, h5, h6⟩, h4⟩
  · intro q l hb
    have h1 := M.B q l hb
    exact mem_turn (ne h1 (by simp)) h1
  · intro q hq
    obtain ⟨h1, h2, h3⟩ := M.X q hq
    have e : q.1 ≠ a := h2.neL he
    exact ⟨mem_turn e h1, h2.setL e, h3⟩
theorem Match.free {a : Addr} (N : News h₀ Lx h news) (M : Match cx news H X δ) (hf : ∀ o, (a, o) ∉ news) : H.free a := by
  refine ⟨?_, ?_, ?_, ?_, ?_⟩
  · cases e : H.L a with
    | none => rfl
    | some xs => obtain ⟨_, vs, n, hm, _⟩ := M.L a xs e; exact absurd hm (hf _)
  · cases e : H.I a with
    | none => rfl
    | some xs => obtain ⟨C, fs⟩ := xs; exact absurd (M.I a C fs e).1 (hf _)
  · cases e : H.T a with
    | none => rfl
    | some xs => obtain ⟨vs, hm, _⟩ := M.T a xs e; exact absurd hm (hf _)
  · cases e : H.D a with
    | none => rfl
    | some xs => obtain ⟨⟨_, o, _, hm, _⟩, _⟩ := M.D a xs e; exact absurd hm (hf _)
  · cases e : H.B a with
    | none => rfl
    | some xs => exact absurd (M.B a xs e) (hf _)
theorem fresh_of_lt {a : Addr} (h : ∀ p ∈ news, p.1 < a) : ∀ o, (a, o) ∉ news := fun o hm => Nat.lt_irrefl _ (h _ hm)
theorem Match.nd_cons {a : Addr} {o : Obj} (M : Match cx news H X δ) (hf : ∀ o, (a, o) ∉ news) : (((a, o) :: news).map (·.1)).Nodup := by
  rw [List.map_cons, List.nodup_cons]
  refine ⟨fun hm => ?_, M.nd⟩
  obtain ⟨p, hp, e⟩ := List.mem_map.mp hm
  exact hf p.2 (by have e' : p.1 = a := e; rw [← e']; exact hp)
theorem Match.more {a : Addr} {o : Obj} (M : Match cx news H X δ) (hf : ∀ o, (a, o) ∉ news) : Match cx ((a, o) :: news) H X δ := by
  refine ⟨M.nd_cons hf, ?_, ?_, ?_, M.inj, ?_, ?_, ?_⟩
  · intro b ys hb; obtain ⟨h1, ws, k, h2, h3⟩ := M.L b ys hb; exact ⟨h1, ws, k, by simp [h2], h3⟩
  · intro b ys hb; obtain ⟨ws, h2, h3⟩ := M.T b ys hb; exact ⟨ws, by simp [h2], h3⟩
  · intro b C fs hb; obtain ⟨h1, ⟨es, k, h2, h3⟩, h4, h5⟩ := M.I b C fs hb; exact ⟨by simp [h1], ⟨es, k, by simp [h2], h3⟩, h4, h5⟩
  · intro b es hb; obtain ⟨⟨h0, o, kvs, h1, h2, h5, h6, h7⟩, h3⟩ := M.D b es hb; exact ⟨⟨h0, o, kvs, by simp [h1], h2, h5, h6, h7⟩, h3⟩
  · intro q l hb; exact List.mem_cons_of_mem _ (M.B q l hb)
  · intro q hq; obtain ⟨h1, h2⟩ := M.X q hq; exact ⟨List.mem_cons_of_mem _ h1, h2⟩
theorem Match.newL {a : Addr} {vs : List Value} {n : Nat} {xs : List AV} (M : Match cx news H X δ) (hf : ∀ o, (a, o) ∉ news) (hs : SimL vs xs) (hl : xs.length ≤ 1000) :
    Match cx ((a, W.listOf vs.toArray n) :: news) (H.setL a xs) X δ := by
  have M' := M.more (o := W.listOf vs.toArray n) hf
  refine ⟨M'.nd, ?_, M'.T, M'.I, M'.inj, M'.D, M'.B, fun q hq => ?_⟩
  · intro b ys hb
    by_cases e : b = a
    · subst e; simp [AH.setL] at hb; subst hb; exact ⟨hl, vs, n, by simp, hs⟩
    · simp [AH.setL, upd_ne _ _ e] at hb; exact M'.L b ys hb
  · have e : q.1 ≠ a := fun e => hf q.2 (by rw [← e]; exact (M.X q hq).1)
    obtain ⟨h1, h2, h3⟩ := M'.X q hq
    exact ⟨h1, h2.setL e, h3⟩
theorem Match.newT {a : Addr} {vs : List Value} {xs : List AV} (M : Match cx news H X δ) (hf : ∀ o, (a, o) ∉ news) (hs : SimL vs xs) :
    Match cx ((a, tupObj vs) :: news) (H.setT a xs) X δ := by
  have M' := M.more (o := tupObj vs) hf
  refine ⟨M'.nd, M'.L, ?_, M'.I, M'.inj, M'.D, M'.B, fun q hq => ?_⟩
  · intro b ys hb
    by_cases e : b = a
    · subst e; simp [AH.setT] at hb; subst hb; exact ⟨vs, by simp, hs⟩
    · simp [AH.setT, upd_ne _ _ e] at hb; exact M'.T b ys hb
  · have e : q.1 ≠ a := fun e => hf q.2 (by rw [← e]; exact (M.X q hq).1)
    obtain ⟨h1, h2, h3⟩ := M'.X q hq
    exact ⟨h1, h2.setT e, h3⟩
theorem Match.newB {a l : Addr} (M : Match cx news H X δ) (hf : ∀ o, (a, o) ∉ news) :
    Match cx ((a, bmObj "list.append" l) :: news) (H.setB a l) X δ := by
  have M' := M.more (o := bmObj "list.append" l) hf
  refine ⟨M'.nd, M'.L, M'.T, M'.I, M'.inj, M'.D, ?_, fun q hq => ?_⟩
  · intro b ys hb
    by_cases e : b = a
    · subst e; simp [AH.setB] at hb; subst hb; simp
    · simp [AH.setB, upd_ne _ _ e] at hb; exact M'.B b ys hb
  · have e : q.1 ≠ a := fun e => hf q.2 (by rw [← e]; exact (M.X q hq).1)
    obtain ⟨h1, h2, h3⟩ := M'.X q hq
    exact ⟨h1, h2.setB e, h3⟩
theorem Match.newI {a d C : Addr} (M : Match cx news H X δ) (hd : ∀ p ∈ news, p.1 < d) (ha : d < a) (N : News h₀ Lx h ((a, instObj C d) :: (d, dictOf [] 0) :: news)) :
    Match cx ((a, instObj C d) :: (d, dictOf [] 0) :: news) (H.setI a C []) X (fun b => if b = a then d else δ b) := by
  have hfd : ∀ o, (d, o) ∉ news := fresh_of_lt hd
  have hfa : ∀ o, (a, o) ∉ ((d, dictOf [] 0) :: news) := fresh_of_lt fun p hp => by
    rcases List.mem_cons.mp hp with rfl | hp
    · exact ha
    · exact Nat.lt_trans (hd p hp) ha
  have M' := (M.more (o := dictOf [] 0) hfd).more (o := instObj C d) hfa
  have nea : ∀ {b : Addr} {C' : Addr} {fs}, H.I b = some (C', fs) → b ≠ a := fun hb e => by
    subst e; exact hfa _ (List.mem_cons_of_mem _ (M.I _ _ _ hb).1)
  have ned : ∀ {b : Addr} {C' : Addr} {fs}, H.I b = some (C', fs) → δ b ≠ d := fun hb e => by
    obtain ⟨_, ⟨es, k, h2, _⟩, _⟩ := M.I _ _ _ hb
    exact hfd _ (e ▸ h2)
  refine ⟨M'.nd, M'.L, M'.T, ?_, ?_, ?_, M'.B, ?_⟩
  · intro b C' fs hb
    by_cases e : b = a
    · subst e
      simp [AH.setI] at hb
      obtain ⟨rfl, rfl⟩ := hb
      exact ⟨by simp, ⟨[], 0, by simp, trivial⟩, by simp, by simp⟩
    · simp [AH.setI, upd_ne _ _ e] at hb
      obtain ⟨h1, h2, h3, h4⟩ := M'.I b C' fs hb
      exact ⟨by simpa only [if_neg e] using h1, by simpa only [if_neg e] using h2, h3, h4⟩
  · intro b c hb hc he
    by_cases e : b = a
    · by_cases e' : c = a
      · rw [e, e']
      · rw [if_pos e, if_neg e'] at he
        simp [AH.setI, upd_ne _ _ e'] at hc
        obtain ⟨x, hx⟩ := Option.ne_none_iff_exists'.mp hc
        exact absurd he.symm (ned hx)
    · by_cases e' : c = a
      · rw [if_neg e, if_pos e'] at he
        simp [AH.setI, upd_ne _ _ e] at hb
        obtain ⟨x, hx⟩ := Option.ne_none_iff_exists'.mp hb
        exact absurd he (ned hx)
      · rw [if_neg e, if_neg e'] at he
        simp [AH.setI, upd_ne _ _ e] at hb
        simp [AH.setI, upd_ne _ _ e'] at hc
        exact M.inj b c hb hc he
  · intro b es hb
    obtain ⟨h1, h2⟩ := M'.D b es hb
    refine ⟨h1, fun c hc he => ?_⟩
    obtain ⟨⟨h0, o, kvs, hm, _⟩, _⟩ := M.D b es hb
    by_cases e : c = a
    · rw [if_pos e] at he; exact hfd _ (he ▸ hm)
    · rw [if_neg e] at he
      simp [AH.setI, upd_ne _ _ e] at hc
      exact h2 c hc he
  · intro q hq
    obtain ⟨h1, h2, h4⟩ := M'.X q hq
    have eq : q.1 ≠ a := fun e => hfa q.2 (by rw [← e]; exact List.mem_cons_of_mem _ (M.X q hq).1)
    refine ⟨h1, h2.setI eq, fun c hc he => ?_⟩
    by_cases e : c = a
    · rw [if_pos e] at he
      exact hfd q.2 (he ▸ (M.X q hq).1)
    · rw [if_neg e] at he
      simp [AH.setI, upd_ne _ _ e] at hc
      exact h4 c hc he
end
theorem St.same {cx : Cx} {fr : Frm} {g : Heap} {X} {σ : Loc} {H : AH} {s : Shared} {tk : Nat} (h : St cx fr g X σ H s) : St cx fr g X σ H { s with toks := tk } := ⟨h.gg, h.ex, h.gens, h.os⟩
section
variable {α : Type} {cx : Cx} {fr : Frm} {tn : Bool} {X : XP} {σ : Loc} {H : AH}
theorem SemT.leaf {t : Sem α} {R : α → Loc → AH → Prop}
    (h : ∀ g Xl s (Q : α → Shared → Prop) (E : Value → Shared → Prop), St cx fr g Xl σ H s → (∀ a tk, R a σ H → Q a { s with toks := tk }) → wpAny (model cx.prog cx.w) fr.A t Q E s) : SemT cx fr tn X t σ H R :=
  fun g Xl s hs => h g Xl s _ _ hs fun a tk r => ⟨g, σ, H, .refl, hs.same, r⟩
theorem SemT.leafW {t : Sem α} {R : α → Loc → AH → Prop}
    (h : ∀ g Xl s (Q : α → Shared → Prop) (E : Value → Shared → Prop), St cx fr g Xl σ H s → (∀ a h' tk σ' H', StX cx fr g Xl σ' H' h' → R a σ' H' → Q a { s with heap := h', toks := tk }) → wpAny (model cx.prog cx.w) fr.A t Q E s) : SemT cx fr tn X t σ H R :=
  fun g Xl s hs => h g Xl s _ _ hs fun a h' tk σ' H' ex r => ⟨g, σ', H', .refl, ⟨hs.gg, ex, hs.gens, hs.os⟩, r⟩
theorem SemT.seq3 {β γ : Type} {t : Sem γ} {t1 : Sem α} {t2 : α → Sem β} {t3 : α → β → Sem γ} {R : γ → Loc → AH → Prop}
    (rule : ∀ (Q : γ → Shared → Prop) (E : Value → Shared → Prop) (s : Shared), wpAny (model cx.prog cx.w) fr.A t1 (fun a s₁ => wpAny (model cx.prog cx.w) fr.A (t2 a) (fun b s₂ => wpAny (model cx.prog cx.w) fr.A (t3 a b) Q E s₂) E s₁) E s → wpAny (model cx.prog cx.w) fr.A t Q E s)
    (h : SemT cx fr tn X t1 σ H (fun a σ' H' => SemT cx fr tn X (t2 a) σ' H' (fun b σ'' H'' => SemT cx fr tn X (t3 a b) σ'' H'' R))) : SemT cx fr tn X t σ H R := fun g Xl s hs => by
  refine rule _ _ s (wpAny_mono (h g Xl s hs) (fun a s₁ p1_ => ?_) fun _ _ e => e)
  obtain ⟨g₁, σ₁, H₁, tr, st, r⟩ := p1_
  refine wpAny_mono (r g₁ Xl s₁ st) (fun b s₂ p1_ => ?_) fun _ _ e => e.trans tr
  obtain ⟨g₂, σ₂, H₂, tr₂, st₂, r₂⟩ := p1_
  exact wpAny_mono (r₂ g₂ Xl s₂ st₂) (fun _ _ p => p.trans (tr.trans tr₂)) fun _ _ e => e.trans (tr.trans tr₂)
theorem SemT.seq4 {β γ ζ : Type} {t : Sem ζ} {t1 : Sem α} {t2 : α → Sem β} {t3 : α → β → Sem γ} {t4 : α → β → γ → Sem ζ} {R : ζ → Loc → AH → Prop}
    (rule : ∀ (Q : ζ → Shared → Prop) (E : Value → Shared → Prop) (s : Shared), wpAny (model cx.prog cx.w) fr.A t1 (fun a s₁ => wpAny (model cx.prog cx.w) fr.A (t2 a) (fun b s₂ => wpAny (model cx.prog cx.w) fr.A (t3 a b) (fun c s₃ => wpAny (model cx.prog cx.w) fr.A (t4 a b c) Q E s₃) E s₂) E s₁) E s → wpAny (model cx.prog cx.w) fr.A t Q E s)
    (h : SemT cx fr tn X t1 σ H (fun a σ' H' => SemT cx fr tn X (t2 a) σ' H' (fun b σ'' H'' => SemT cx fr tn X (t3 a b) σ'' H'' (fun c σ₃ H₃ => SemT cx fr tn X (t4 a b c) σ₃ H₃ R)))) : SemT cx fr tn X t σ H R := fun g Xl s hs => by
  refine rule _ _ s (wpAny_mono (h g Xl s hs) (fun a s₁ p1_ => ?_) fun _ _ e => e)
  obtain ⟨g₁, σ₁, H₁, tr, st, r⟩ := p1_
  refine wpAny_mono (r g₁ Xl s₁ st) (fun b s₂ p1_ => ?_) fun _ _ e => e.trans tr
  obtain ⟨g₂, σ₂, H₂, tr₂, st₂, r₂⟩ := p1_
  refine wpAny_mono (r₂ g₂ Xl s₂ st₂) (fun c s₃ p1_ => ?_) fun _ _ e => e.trans (tr.trans tr₂)
  obtain ⟨g₃, σ₃, H₃, tr₃, st₃, r₃⟩ := p1_
  exact wpAny_mono (r₃ g₃ Xl s₃ st₃) (fun _ _ p => p.trans ((tr.trans tr₂).trans tr₃)) fun _ _ e => e.trans ((tr.trans tr₂).trans tr₃)
theorem VR.mk {Q : AV → AH → Prop} {v : Value} {av : AV} (hv : Sim v av) (h : Q av H) : VR σ Q v σ H := ⟨rfl, av, hv, h⟩
end
theorem isStr_of {x y : String} {t : Tok} : (Value.str (Str.ofString y) t).isStr (Str.ofString x) = decide (y = x) := by
  show (Str.ofString y == Str.ofString x) = decide (y = x)
  by_cases h : y = x
  · subst h; rw [decide_eq_true rfl, beq_self_eq_true]
  · rw [decide_eq_false h, beq_eq_false_iff_ne]; exact fun q => h (ofString_inj q)
theorem getL_hit {x : Str} {d : DictEntry} {es : List DictEntry} (h : d.key.isStr x = true) : getL x (d :: es) = some (some d.val) := by
  unfold getL; rw [List.find?_cons, h]
theorem getL_skip {x : Str} {d : DictEntry} {es : List DictEntry} {o : Option Value} (h : d.key.isStr x = false) (hr : d.refKey = false) (e : getL x es = some o) : getL x (d :: es) = some o := by
  unfold getL at e ⊢
  rw [List.find?_cons, h, List.any_cons, hr, Bool.false_or]; exact e
theorem lookup_hit {β : Type} {x : String} {w : β} {fs : List (String × β)} : ((x, w) :: fs).lookup x = some w := by rw [List.lookup_cons, beq_self_eq_true]
theorem lookup_skip {β : Type} {x y : String} {w : β} {fs : List (String × β)} (h : x ≠ y) : ((y, w) :: fs).lookup x = fs.lookup x := by rw [List.lookup_cons, beq_eq_false_iff_ne.mpr h]
theorem FSim.get {es : List DictEntry} {fs : List (String × AV)} {x : String} {av : AV} (h : FSim es fs) (e : fs.lookup x = some av) : ∃ v, getL (Str.ofString x) es = some (some v) ∧ Sim v av :=
  FSim.ind (P := fun es fs => fs.lookup x = some av → ∃ v, getL (Str.ofString x) es = some (some v) ∧ Sim v av) (fun e => nomatch e) (fun d es y w fs t hk hv _ ih e => by
    by_cases q : x = y
    · subst q
      rw [lookup_hit] at e
      exact ⟨d.val, getL_hit (by rw [hk, isStr_of, decide_eq_true rfl]), Option.some.inj e ▸ hv⟩
    · rw [lookup_skip q] at e
      obtain ⟨v, h1, h2⟩ := ih e
      exact ⟨v, getL_skip (by rw [hk, isStr_of, decide_eq_false (Ne.symm q)]) (by unfold DictEntry.refKey; rw [hk]) h1, h2⟩) h e
theorem FSim.miss {es : List DictEntry} {fs : List (String × AV)} {x : String} (h : FSim es fs) (e : fs.lookup x = none) : getL (Str.ofString x) es = some none :=
  FSim.ind (P := fun es fs => fs.lookup x = none → getL (Str.ofString x) es = some none) (fun _ => rfl) (fun d es y w fs t hk hv _ ih e => by
    have q : x ≠ y := fun q => by subst q; rw [lookup_hit] at e; cases e
    rw [lookup_skip q] at e
    exact getL_skip (by rw [hk, isStr_of, decide_eq_false (Ne.symm q)]) (by unfold DictEntry.refKey; rw [hk]) (ih e)) h e
noncomputable def putF (x : String) (v : AV) (fs : List (String × AV)) : List (String × AV) :=
  List.rec (motive := fun _ => List (String × AV)) [(x, v)] (fun p r ih => if p.1 = x then (p.1, v) :: r else p :: ih) fs
theorem putF_hit {x : String} {v w : AV} {r : List (String × AV)} : putF x v ((x, w) :: r) = (x, v) :: r := if_pos rfl
theorem putF_skip {x y : String} {v w : AV} {r : List (String × AV)} (h : y ≠ x) : putF x v ((y, w) :: r) = (y, w) :: putF x v r := if_neg h
theorem putL_hit {x : Str} {hs : Int} {k v : Value} {d : DictEntry} {es : List DictEntry} (h : d.key.isStr x = true) : putL x hs k v (d :: es) = { d with val := v } :: es := by
  unfold putL; rw [if_pos h]
theorem putL_skip {x : Str} {hs : Int} {k v : Value} {d : DictEntry} {es : List DictEntry} (h : d.key.isStr x = false) : putL x hs k v (d :: es) = d :: putL x hs k v es := by
  rw [putL, if_neg (by rw [h]; exact Bool.false_ne_true)]
theorem FSim.put {x : String} {v : Value} {av : AV} {hs : Int} {t : Tok} (hv : Sim v av) {es : List DictEntry} {fs : List (String × AV)} (h : FSim es fs) : FSim (putL (Str.ofString x) hs (.str (Str.ofString x) t) v es) (putF x av fs) :=
  FSim.ind (P := fun es fs => FSim (putL (Str.ofString x) hs (.str (Str.ofString x) t) v es) (putF x av fs)) ⟨⟨t, rfl⟩, hv, trivial⟩ (fun d es y w fs tk hk hw hr ih => by
    by_cases q : y = x
    · subst q
      rw [putL_hit (by rw [hk, isStr_of, decide_eq_true rfl]), putF_hit]
      exact ⟨⟨tk, hk⟩, hv, hr⟩
    · rw [putL_skip (by rw [hk, isStr_of, decide_eq_false q]), putF_skip q]
      exact ⟨⟨tk, hk⟩, hw, ih⟩) h
theorem putF_length (x : String) (v : AV) (fs : List (String × AV)) : (putF x v fs).length ≤ fs.length + 1 := by
  induction fs with
  | nil => exact Nat.le_refl _
  | cons p r ih =>
    obtain ⟨y, w⟩ := p
    by_cases q : y = x
    · subst q; rw [putF_hit]; exact Nat.le_succ _
    · rw [putF_skip q]; exact Nat.succ_le_succ ih
theorem putF_names {P : String → Prop} (x : String) (v : AV) (hx : P x) (fs : List (String × AV)) : (∀ y ∈ fs, P y.1) → ∀ y ∈ putF x v fs, P y.1 := by
  induction fs with
  | nil => exact fun _ y hy => List.mem_singleton.mp hy ▸ hx
  | cons p r ih =>
    intro h
    obtain ⟨z, w⟩ := p
    have hz : P z := h (z, w) (List.mem_cons_self ..)
    have hr : ∀ y ∈ r, P y.1 := fun y hy => h y (List.mem_cons_of_mem _ hy)
    by_cases q : z = x
    · subst q; rw [putF_hit]
      exact fun y hy => (List.mem_cons.mp hy).elim (fun e => e ▸ hz) (hr y)
    · rw [putF_skip q]
      exact fun y hy => (List.mem_cons.mp hy).elim (fun e => e ▸ hz) (ih hr y)
theorem FSim.length {es : List DictEntry} {fs : List (String × AV)} (h : FSim es fs) : es.length = fs.length :=
  FSim.ind (P := fun es fs => es.length = fs.length) rfl (fun _ _ _ _ _ _ _ _ _ e => congrArg (· + 1) e) h
theorem Sim.handed {v : Value} {av : AV} (h : Sim v av) : handedIn v = true := by cases h <;> rfl
section
variable {cx : Cx} {fr : Frm} {tn : Bool} {X : XP} {σ : Loc} {H : AH} {Q : AV → AH → Prop}
theorem T_ref {a : Addr} (h : Q (.ref a) H) : VR σ Q (.ref a) σ H := ⟨rfl, _, .ref a, h⟩
theorem T_loc {x : String} {pos : Pos} {av : AV} (hv : σ x = some av) (h : Q av H)
    (hk : fr.scope.kind = .function) (hl : fr.scope.names.lookup (Str.ofString x) = some .local)
    (hd : (Str.ofString x == ("__debug__" : Str)) = false) :
    SemT cx fr tn X (eval (.Name (Str.ofString x) pos) fr.env) σ H (VR σ Q) := .leaf fun g Xl s Q' E st k => by
  obtain ⟨m, news, δ, F, N, lm, M⟩ := st.ex
  obtain ⟨v, h1, h2⟩ := lm x av hv
  exact ld F h1 (k v s.toks (.mk h2 h)) hk hl hd
theorem T_glob {x : Str} {pos : Pos} {a : Addr} (hg : nsIn cx.K mainGlobals x = some (some (.ref a))) (h : Q (.ref a) H)
    (hk : fr.scope.kind = .function) (hl : fr.scope.names.lookup x = some .globalImplicit) (hd : (x == ("__debug__" : Str)) = false) :
    SemT cx fr tn X (eval (.Name x pos) fr.env) σ H (VR σ Q) := .leaf fun g Xl s Q' E st k => by
  obtain ⟨m, news, δ, F, N, lm, M⟩ := st.ex
  exact name_K F st.gg.kin (topRead_of st.gg.top) hg (k _ s.toks (.mk (.ref a) h)) hk hl hd
theorem T_builtin {x : Str} {pos : Pos} {v : Value} {R : Value → Loc → AH → Prop} (hg : nsIn cx.K mainGlobals x = some none) (hb : bootBuiltins x = some v) (hn : x ≠ "__name__") (h : R v σ H)
    (hk : fr.scope.kind = .function) (hl : fr.scope.names.lookup x = some .globalImplicit) (hd : (x == ("__debug__" : Str)) = false) :
    SemT cx fr tn X (eval (.Name x pos) fr.env) σ H R := .leaf fun g Xl s Q' E st k => by
  obtain ⟨m, news, δ, F, N, lm, M⟩ := st.ex
  exact name_B F st.gg.kin (topRead_of st.gg.top) hg hb hn (k _ s.toks h) hk hl hd
theorem T_int {i : Int} {kk : Nat} {pos : Pos} (h : Q (.int i) H) : SemT cx fr tn X (eval (.Constant (.int i) kk pos) fr.env) σ H (VR σ Q) :=
  .leaf fun g Xl s Q' E st k => wpAny_Constant_int (k _ _ (.mk (.int _ _) h))
theorem T_bool {b : Bool} {kk : Nat} {pos : Pos} (h : Q (.bool b) H) : SemT cx fr tn X (eval (.Constant (.bool b) kk pos) fr.env) σ H (VR σ Q) :=
  .leaf fun g Xl s Q' E st k => Constant_bool (k _ s.toks (.mk (.bool _) h))
theorem T_none {kk : Nat} {pos : Pos} (h : Q .none H) : SemT cx fr tn X (eval (.Constant .none kk pos) fr.env) σ H (VR σ Q) :=
  .leaf fun g Xl s Q' E st k => Constant_none (k _ s.toks (.mk .none h))
inductive BOp | add | sub | mul | fdiv | mod
  deriving DecidableEq
noncomputable def BOp.op : BOp → Operator
  | .add => .Add | .sub => .Sub | .mul => .Mult | .fdiv => .FloorDiv | .mod => .Mod
inductive BinP (Q : AV → Prop) : BOp → AV → AV → Prop
  | add {a b : Int} (k : Q (.int (a + b))) : BinP Q .add (.int a) (.int b)
  | sub {a b : Int} (k : Q (.int (a - b))) : BinP Q .sub (.int a) (.int b)
  | mul {a b : Int} (ha : -1000000 ≤ a ∧ a ≤ 1000000) (hb : -1000000 ≤ b ∧ b ≤ 1000000) (k : Q (.int (a * b))) : BinP Q .mul (.int a) (.int b)
  | fdiv {a b : Int} (ha : -1000000 ≤ a ∧ a ≤ 1000000) (hb : 0 < b ∧ b ≤ 1000000) (k : Q (.int (a / b))) : BinP Q .fdiv (.int a) (.int b)
  | mod {a b : Int} (hb : 0 < b) (k : Q (.int (a % b))) : BinP Q .mod (.int a) (.int b)
theorem log_small {a : Int} (ha : -1000000 ≤ a ∧ a ≤ 1000000) (h0 : a.natAbs ≠ 0) : a.natAbs.log2 < 20 := (Nat.log2_lt h0).mpr (by lia)
theorem pylong_small {a b : Int} (hb : 0 < b ∧ b ≤ 1000000) : Builtin.divisionGoesByPylong a b = false :=
  PyProof.noPylong_of_log2 (Nat.lt_trans (log_small (by lia) (by lia)) (by decide))
theorem T_bin {op : BOp} {va vb : Value} {a b : AV} (ha : Sim va a) (hb : Sim vb b) (hc : BinP (fun c => Q c H) op a b) :
    SemT cx fr tn X (binaryOp op.op va vb) σ H (VR σ Q) := .leaf fun g Xl s Q' E st k => by
  cases hc with
  | add h => obtain ⟨_, rfl⟩ := ha.toI; obtain ⟨_, rfl⟩ := hb.toI; exact add_int (k _ _ (.mk (.int _ _) h))
  | sub h => obtain ⟨_, rfl⟩ := ha.toI; obtain ⟨_, rfl⟩ := hb.toI; exact sub_int (k _ _ (.mk (.int _ _) h))
  | @mul a b q1 q2 h =>
    obtain ⟨_, rfl⟩ := ha.toI; obtain ⟨_, rfl⟩ := hb.toI
    refine mul_int (k _ _ (.mk (.int _ _) h)) (IntMulOk.of_left ?_)
    unfold Builtin.Int.intBits
    by_cases h0 : a = 0
    · rw [if_pos (by rw [beq_iff_eq]; exact h0)]; decide
    · have := log_small q1 (by lia)
      rw [if_neg (by rw [beq_iff_eq]; exact h0)]
      lia
  | fdiv q1 q2 h =>
    obtain ⟨_, rfl⟩ := ha.toI; obtain ⟨_, rfl⟩ := hb.toI
    refine floordiv_int (by lia) ?_ (.inl (pylong_small q2))
    rw [Int.fdiv_eq_ediv_of_nonneg _ (by lia)]
    exact k _ _ (.mk (.int _ _) h)
  | mod q h =>
    obtain ⟨_, rfl⟩ := ha.toI; obtain ⟨_, rfl⟩ := hb.toI
    refine mod_int (by lia) ?_
    rw [Int.fmod_eq_emod_of_nonneg _ (by lia)]
    exact k _ _ (.mk (.int _ _) h)
theorem T_neg {v : Value} {a : Int} (ha : Sim v (.int a)) (h : Q (.int (-a)) H) : SemT cx fr tn X (unaryOp .USub v) σ H (VR σ Q) := .leaf fun g Xl s Q' E st k => by
  obtain ⟨_, rfl⟩ := ha.toI; exact neg_int (k _ _ (.mk (.int _ _) h))
end
theorem isTup_of {news : List (Addr × Obj)} {h₀ h : Heap} {L a : Addr} {vs : List Value} (N : News h₀ L h news) (hm : (a, tupObj vs) ∈ news) : IsTup h a vs.toArray := N.isTup hm
theorem line1000 {n : Nat} (h : n ≤ 1000) : n ≤ sizeLine := by rw [sizeLine_eq]; lia
section
variable {cx : Cx} {fr : Frm} {tn : Bool} {X : XP} {σ : Loc} {H : AH} {Q : AV → AH → Prop}
theorem T_getAttr {a C : Addr} {fs : List (String × AV)} {x : String} {av : AV} {e : Bool} (hi : H.I a = some (C, fs)) (hl : fs.lookup x = some av) (h : Q av H) :
    SemT cx fr tn X (getAttr (.ref a) (Str.ofString x) e) σ H (VR σ Q) := .leaf fun g Xl s Q' E st k => by
  obtain ⟨m, news, δ, F, N, lm, M⟩ := st.ex
  obtain ⟨h1, ⟨es, n, h2, h3⟩, h4, h5⟩ := M.I a C fs hi
  obtain ⟨v, h6, h7⟩ := h3.get hl
  have hx : fieldOk cx.K C x = true := by
    obtain ⟨y, hy, e⟩ : ∃ y ∈ fs, y.1 = x := by
      clear h5 h3 hi
      induction fs with
      | nil => cases hl
      | cons p r ih =>
        obtain ⟨y, w⟩ := p
        rw [List.lookup_cons] at hl
        by_cases q : x = y
        · exact ⟨(y, w), by simp, q.symm⟩
        · have : (x == y) = false := by simpa using q
          rw [this] at hl
          obtain ⟨z, hz, e⟩ := ih hl (by simp at h4; lia)
          exact ⟨z, by simp [hz], e⟩
    exact e ▸ h5 y hy
  unfold fieldOk getOk at hx
  simp only [Bool.and_eq_true] at hx
  obtain ⟨⟨⟨q1, q2⟩, q3⟩, _⟩ := hx
  split at q3
  · rename_i attr ha
    exact get_own F st.gg.kin (InstAt.of_news N h1 h2) q1 q2 ha q3 h6 h7.handed (k v _ (.mk h7 h))
  · cases q3
theorem Match.updI {pre post : List (Addr × Obj)} {Xl : List (Addr × Obj)} {δ : Addr → Addr} {h₀ h : Heap} {Lx : Addr} {a C : Addr} {es es' : List DictEntry} {n n' : Nat} {fs fs' : List (String × AV)}
    (N : News h₀ Lx h (pre ++ (δ a, dictOf es n) :: post)) (M : Match cx (pre ++ (δ a, dictOf es n) :: post) H Xl δ) (he : H.I a = some (C, fs)) (hs : FSim es' fs') (hl : fs'.length ≤ 100) (hf : ∀ y ∈ fs', fieldOk cx.K C y.1 = true) :
    Match cx (pre ++ (δ a, dictOf es' n') :: post) (H.setI a C fs') Xl δ := by
  have hm : (δ a, dictOf es n) ∈ pre ++ (δ a, dictOf es n) :: post := by simp
  have ne : ∀ {b : Addr} {o : Obj}, (b, o) ∈ pre ++ (δ a, dictOf es n) :: post → o.cls ≠ .type "dict" → b ≠ δ a := fun hb hc e => by
    subst e
    have := mem_uniq N hb hm
    exact hc (by rw [this])
  have hI : ∀ b, (H.setI a C fs').I b ≠ none → H.I b ≠ none := fun b hb => by
    by_cases e : b = a
    · rw [e, he]; simp
    · simpa [AH.setI, upd_ne _ _ e] using hb
  refine ⟨nd_turn M.nd, ?_, ?_, ?_, ?_, ?_, ?_, ?_⟩
  · intro b ys hb; obtain ⟨h1, ws, k, h2, h3⟩ := M.L b ys hb; exact ⟨h1, ws, k, mem_turn (ne h2 (by simp)) h2, h3⟩
  · intro b ys hb; obtain ⟨ws, h2, h3⟩ := M.T b ys hb; exact ⟨ws, mem_turn (ne h2 (by simp)) h2, h3⟩
  · intro b D gs hb
    by_cases e : b = a
    · subst e
      simp [AH.setI] at hb
      obtain ⟨rfl, rfl⟩ := hb
      obtain ⟨h1, _, _, _⟩ := M.I b C fs he
      exact ⟨mem_turn (ne h1 (by simp)) h1, ⟨es', n', by simp, hs⟩, hl, hf⟩
    · simp [AH.setI, upd_ne _ _ e] at hb
      obtain ⟨h1, ⟨es₁, k, h2, h3⟩, h4, h5⟩ := M.I b D gs hb
      refine ⟨mem_turn (ne h1 (by simp)) h1, ⟨es₁, k, mem_turn (fun q => e ?_) h2, h3⟩, h4, h5⟩
      exact M.inj b a (by rw [hb]; simp) (by rw [he]; simp) q
  · intro b c hb hc q
    exact M.inj b c (hI b hb) (hI c hc) q
  · intro b es₁ hb
    obtain ⟨⟨h0, o, kvs, h1, h2, h25, h26, h27⟩, h3⟩ := M.D b es₁ hb
    exact ⟨⟨h0, o, kvs, mem_turn (fun q => h3 a (by rw [he]; simp) q.symm) h1, h2, h25, h26, h27⟩, fun c hc => h3 c (hI c hc)⟩
  · intro q l hb; have h1 := M.B q l hb; exact mem_turn (ne h1 (by simp)) h1
  · intro q hq
    obtain ⟨h1, h2, h4⟩ := M.X q hq
    exact ⟨mem_turn (fun e => h4 a (by rw [he]; simp) e.symm) h1, h2.setI (h2.neI he), fun c hc => h4 c (hI c hc)⟩
theorem T_setAttr {a C : Addr} {fs : List (String × AV)} {x : String} {v : Value} {av : AV} {R : Unit → Loc → AH → Prop} (hi : H.I a = some (C, fs)) (hv : Sim v av) (hn : fs.length < 100) (hx : fieldOk cx.K C x = true)
    (h : R () σ (H.setI a C (putF x av fs))) : SemT cx fr tn X (setAttr (.ref a) (Str.ofString x) v) σ H R := .leafW fun g Xl s Q' E st k => by
  obtain ⟨m, news, δ, F, N, lm, M⟩ := st.ex
  obtain ⟨h1, ⟨es, n, h2, h3⟩, h4, h5⟩ := M.I a C fs hi
  obtain ⟨pre, post, rfl, hp1, hp2⟩ := mem_split M.nd h2
  have hx' := hx
  unfold fieldOk setOk at hx
  simp only [Bool.and_eq_true, beq_iff_eq] at hx
  obtain ⟨_, ⟨⟨q1, q2⟩, q3⟩, q4⟩ := hx
  have hg : (getL (Str.ofString x) es).isSome = true := by
    cases e : fs.lookup x with
    | none => rw [h3.miss e]; rfl
    | some w => obtain ⟨v', h6, _⟩ := h3.get e; rw [h6]; rfl
  have hl := putF_length x av fs
  have h3' := FSim.put (x := x) (hs := PyData.keyHash cx.w.params (Str.ofString x)) (t := s.toks + 1) hv h3
  refine set_dict F st.gg.kin N (InstAt.of_news N h1 h2) rfl q1 q2 q3 q4 hg rfl (upd_of_split hp1 hp2) ?_ fun h' F' N' => ?_
  · rw [h3'.length]; lia
  · exact k () h' _ σ _ ⟨m, _, δ, F', N', lm, M.updI N hi h3' (by lia) (putF_names (P := fun y => fieldOk cx.K C y = true) x av hx' fs h5)⟩ h
noncomputable def seqAt (xs : List AV) (i : Int) : Option AV := if 0 ≤ i then xs[i.toNat]? else none
theorem seqAt_some {xs : List AV} {i : Int} {a : AV} (h : seqAt xs i = some a) : 0 ≤ i ∧ xs[i.toNat]? = some a := by
  unfold seqAt at h
  split at h
  · exact ⟨by assumption, h⟩
  · cases h
theorem T_item {value slice : Expr} {l : Addr} {xs : List AV} {i : Int} {vi : Value} {av : AV} (hi : Sim vi (.int i)) (hl : H.L l = some xs) (ha : seqAt xs i = some av) (h : Q av H)
    (hs : ∀ u, subscripted slice false (.ref l) (.int i u) = operate [.ref l, .int i u] (getItem (.ref l) (.int i u))) :
    SemT cx fr tn X (subscriptTail value slice (.ref l) vi) σ H (VR σ Q) := .leaf fun g Xl s Q' E st k => by
  obtain ⟨m, news, δ, F, N, lm, M⟩ := st.ex
  obtain ⟨hb, vs, n, h2, h3⟩ := M.L l xs hl
  obtain ⟨h0, ha⟩ := seqAt_some ha
  obtain ⟨v, h4, h5⟩ := h3.get ha
  obtain ⟨_, rfl⟩ := hi.toI
  rename_i u
  have hil : s.heap.IsList l vs.toArray := N.isList h2
  have hlt : i.toNat < xs.length := by
    rcases Nat.lt_or_ge i.toNat xs.length with q | q
    · exact q
    · rw [List.getElem?_eq_none q] at ha; cases ha
  exact tail_any hil.typeIs slot_list_getitem.lookup (wpAny_getItem_list hil h0 (by lia) (by simpa using h4) (k v s.toks (.mk h5 h))) (hs u)
theorem T_itemT {value slice : Expr} {l : Addr} {xs : List AV} {i : Int} {vi : Value} {av : AV} (hi : Sim vi (.int i)) (hl : H.T l = some xs) (ha : seqAt xs i = some av) (hb : i < 1000) (h : Q av H)
    (hs : ∀ u, subscripted slice false (.ref l) (.int i u) = operate [.ref l, .int i u] (getItem (.ref l) (.int i u))) :
    SemT cx fr tn X (subscriptTail value slice (.ref l) vi) σ H (VR σ Q) := .leaf fun g Xl s Q' E st k => by
  obtain ⟨m, news, δ, F, N, lm, M⟩ := st.ex
  obtain ⟨vs, h2, h3⟩ := M.T l xs hl
  obtain ⟨h0, ha⟩ := seqAt_some ha
  obtain ⟨v, h4, h5⟩ := h3.get ha
  obtain ⟨_, rfl⟩ := hi.toI
  rename_i u
  have hlt : i.toNat < vs.length := by
    rcases Nat.lt_or_ge i.toNat vs.length with q | q
    · exact q
    · rw [List.getElem?_eq_none q] at h4; cases h4
  refine item_tupleT (isTup_of N h2) (by lia) (by lia) (j := i.toNat) ?_ h4 (k v s.toks (.mk h5 h)) (hs u)
  exact PySem.seqIndex_of h0 (by lia)
theorem T_itemR {value slice : Expr} {l : Addr} {ws : List Value} {i : Int} {vi : Value} {j : Int} {tk : Tok} (ok : cx.Ok) (hi : Sim vi (.int i)) (hl : cx.ro l = some ws) (h0 : 0 ≤ i) (hb : i < 1000) (ha : ws[i.toNat]? = some (.int j tk)) (h : Q (.int j) H)
    (hs : ∀ u, subscripted slice false (.ref l) (.int i u) = operate [.ref l, .int i u] (getItem (.ref l) (.int i u))) :
    SemT cx fr tn X (subscriptTail value slice (.ref l) vi) σ H (VR σ Q) := .leaf fun g Xl s Q' E st k => by
  obtain ⟨m, news, δ, F, N, lm, M⟩ := st.ex
  obtain ⟨_, rfl⟩ := hi.toI
  rename_i u
  have keep : ∀ b o, cx.base.get? b = some o → s.heap.get? b = some o := fun b o e => F.keep b o (st.gg.bel.stays b o e)
  have hlt : i.toNat < ws.length := by
    rcases Nat.lt_or_ge i.toNat ws.length with q | q
    · exact q
    · rw [List.getElem?_eq_none q] at ha; cases ha
  rcases ok.ro l ws hl with q | q
  · have hil : s.heap.IsList l ws.toArray := q.at fun o e => keep _ o e
    exact tail_any hil.typeIs slot_list_getitem.lookup (wpAny_getItem_list hil h0 (by lia) (by simpa using ha) (k _ s.toks (.mk (.int _ _) h))) (hs u)
  · refine item_tupleT (q.keeps keep) (by lia) (by lia) (j := i.toNat) ?_ ha (k _ s.toks (.mk (.int _ _) h)) (hs u)
    exact PySem.seqIndex_of h0 (by lia)
theorem T_lenL {l : Addr} {xs : List AV} (hl : H.L l = some xs) (h : Q (.int xs.length) H) : SemT cx fr tn X (call (.builtin "len") [.ref l]) σ H (VR σ Q) := .leaf fun g Xl s Q' E st k => by
  obtain ⟨m, news, δ, F, N, lm, M⟩ := st.ex
  obtain ⟨hb, vs, n, h2, h3⟩ := M.L l xs hl
  have hil : s.heap.IsList l vs.toArray := N.isList h2
  exact kun_lenL (k := (xs.length : Int)) hil (by rw [List.size_toArray, h3.length]) (by lia) (k _ _ (.mk (.int _ _) h))
theorem T_lenR {l : Addr} {ws : List Value} (ok : cx.Ok) (hl : cx.ro l = some ws) (hb : ws.length ≤ 1000) (hli : cx.base.IsList l ws.toArray) (h : Q (.int ws.length) H) : SemT cx fr tn X (call (.builtin "len") [.ref l]) σ H (VR σ Q) := .leaf fun g Xl s Q' E st k => by
  obtain ⟨m, news, δ, F, N, lm, M⟩ := st.ex
  have keep : ∀ b o, cx.base.get? b = some o → s.heap.get? b = some o := fun b o e => F.keep b o (st.gg.bel.stays b o e)
  have hil : s.heap.IsList l ws.toArray := hli.at fun o e => keep _ o e
  exact kun_lenL (k := (ws.length : Int)) hil (by rw [List.size_toArray]) (by lia) (k _ _ (.mk (.int _ _) h))
theorem KSim.length {kvs : List (Int × Value)} {es : List (Int × AV)} (h : KSim kvs es) : kvs.length = es.length :=
  KSim.ind (P := fun kvs es => kvs.length = es.length) rfl (fun _ _ _ _ _ _ _ e => congrArg (· + 1) e) h
theorem T_lenD {l : Addr} {es : List (Int × AV)} (hl : H.D l = some es) (h : Q (.int es.length) H) : SemT cx fr tn X (call (.builtin "len") [.ref l]) σ H (VR σ Q) := .leaf fun g Xl s Q' E st k => by
  obtain ⟨m, news, δ, F, N, lm, M⟩ := st.ex
  obtain ⟨⟨hb, o, kvs, h1, h2, h3, h4, h5⟩, _⟩ := M.D l es hl
  have e := h4.length
  exact kda_len N h1 h3 h5 (by lia) (by rw [e]; exact k _ _ (.mk (.int _ _) h))
theorem T_append {l : Addr} {xs : List AV} {v : Value} {a : AV} (hl : H.L l = some xs) (hv : Sim v a) (hn : xs.length < 1000) (h : Q .none (H.setL l (xs ++ [a]))) :
    SemT cx fr tn X (call (.builtin "list.append") [.ref l, v]) σ H (VR σ Q) := .leafW fun g Xl s Q' E st k => by
  obtain ⟨m, news, δ, F, N, lm, M⟩ := st.ex
  obtain ⟨hb, vs, n, h2, h3⟩ := M.L l xs hl
  obtain ⟨pre, post, rfl, hp1, hp2⟩ := mem_split M.nd h2
  have e : vs.toArray.push v = (vs ++ [v]).toArray := by simp
  refine append_K F N (by rw [e]; exact upd_of_split hp1 hp2) (fun h' F' N' => ?_) (by rw [List.size_toArray, h3.length]; exact line1000 hb)
  exact k _ h' _ σ _ ⟨m, _, δ, F', N', lm, M.updL N hl (h3.append (show SimL [v] [a] from ⟨hv, trivial⟩)) (by simp; lia)⟩ (.mk .none h)
theorem min_sub (p e : Nat) : min p e + (e - p) = e := by
  rcases Nat.le_total p e with h | h
  · rw [Nat.min_eq_left h, Nat.add_sub_cancel' h]
  · rw [Nat.min_eq_right h, Nat.sub_eq_zero_of_le h, Nat.add_zero]
theorem T_insert {l : Addr} {xs : List AV} {vi v : Value} {i : Int} {a : AV} (hl : H.L l = some xs) (hi : Sim vi (.int i)) (h0 : 0 ≤ i) (h1 : i ≤ xs.length) (hv : Sim v a) (hn : xs.length < 1000) (h : Q .none (H.setL l (xs.take i.toNat ++ a :: xs.drop i.toNat))) :
    SemT cx fr tn X (call (.builtin "list.insert") [.ref l, vi, v]) σ H (VR σ Q) := .leafW fun g Xl s Q' E st k => by
  obtain ⟨m, news, δ, F, N, lm, M⟩ := st.ex
  obtain ⟨hb, vs, n, h2, h3⟩ := M.L l xs hl
  obtain ⟨pre, post, rfl, hp1, hp2⟩ := mem_split M.nd h2
  obtain ⟨_, rfl⟩ := hi.toI
  have hlen := h3.length
  have e : kl_ins vs.toArray.toList i v = vs.take i.toNat ++ v :: vs.drop i.toNat := by
    unfold kl_ins
    rw [if_neg (by lia)]
    simp only
    rw [Nat.min_eq_left (by lia)]
  refine kl_insert F N ?_ e (upd_of_split hp1 hp2) (by simp only; rw [hlen]; exact line1000 hb) fun h' F' N' => ?_
  · exact fitsIndex_of h0 (by lia)
  · exact k _ h' _ σ _ ⟨m, _, δ, F', N', lm, M.updL N hl ((h3.take _).append (show SimL (v :: vs.drop i.toNat) (a :: xs.drop i.toNat) from ⟨hv, h3.drop _⟩)) (by rw [List.length_append, List.length_take, List.length_cons, List.length_drop, ← Nat.add_assoc, min_sub]; exact hn)⟩ (.mk .none h)
theorem kl_cut_of {l : List Value} {k : Nat} {y : Value} (h : l[k]? = some y) : kl_cut l k = some (l.take k, y, l.drop (k + 1)) := by
  induction l generalizing k with
  | nil => simp at h
  | cons x r ih =>
    cases k with
    | zero => simp at h; subst h; rfl
    | succ k => simp at h; unfold kl_cut; rw [ih h]; rfl
theorem T_popAt {l : Addr} {xs : List AV} {vi : Value} {i : Int} {a : AV} (hl : H.L l = some xs) (hi : Sim vi (.int i)) (ha : seqAt xs i = some a) (h : Q a (H.setL l (xs.take i.toNat ++ xs.drop (i.toNat + 1)))) :
    SemT cx fr tn X (call (.builtin "list.pop") [.ref l, vi]) σ H (VR σ Q) := .leafW fun g Xl s Q' E st k => by
  obtain ⟨m, news, δ, F, N, lm, M⟩ := st.ex
  obtain ⟨hb, vs, n, h2, h3⟩ := M.L l xs hl
  obtain ⟨pre, post, rfl, hp1, hp2⟩ := mem_split M.nd h2
  obtain ⟨_, rfl⟩ := hi.toI
  obtain ⟨h0, ha⟩ := seqAt_some ha
  obtain ⟨v, h4, h5⟩ := h3.get ha
  have hlen := h3.length
  have hlt : i.toNat < vs.length := by
    rcases Nat.lt_or_ge i.toNat vs.length with q | q
    · exact q
    · rw [List.getElem?_eq_none q] at h4; cases h4
  refine kl_popAt F N (fitsIndex_of h0 (by lia)) (PySem.seqIndex_of h0 (by rw [List.size_toArray]; lia)) (kl_cut_of h4) (upd_of_split hp1 hp2) (by simp only; rw [hlen]; exact line1000 hb) fun h' F' N' => ?_
  exact k _ h' _ σ _ ⟨m, _, δ, F', N', lm, M.updL N hl ((h3.take _).append (h3.drop _)) (by rw [List.length_append, List.length_take, List.length_drop]; exact Nat.le_trans (Nat.add_le_add_left (Nat.sub_le_sub_left (Nat.le_succ _) _) _) (Nat.le_trans (Nat.le_of_eq (min_sub _ _)) hb))⟩ (.mk h5 h)
theorem kl_last_of {l : List Value} {y : Value} (h : l.getLast? = some y) : kl_last l = some (l.dropLast, y) := by
  induction l with
  | nil => simp at h
  | cons x r ih =>
    cases r with
    | nil => simp at h; subst h; rfl
    | cons z r =>
      rw [List.getLast?_cons_cons] at h
      unfold kl_last
      rw [ih h]; rfl
theorem SimL.getLast {vs : List Value} {xs : List AV} {a : AV} (h : SimL vs xs) (e : xs.getLast? = some a) : ∃ v, vs.getLast? = some v ∧ Sim v a ∧ SimL vs.dropLast xs.dropLast := by
  have hl := h.length
  have hd : SimL vs.dropLast xs.dropLast := by rw [List.dropLast_eq_take, List.dropLast_eq_take, hl]; exact h.take _
  rw [List.getLast?_eq_getElem?] at e
  obtain ⟨v, h1, h2⟩ := h.get e
  exact ⟨v, by rw [List.getLast?_eq_getElem?, hl]; exact h1, h2, hd⟩
theorem T_pop {l : Addr} {xs : List AV} {a : AV} (hl : H.L l = some xs) (ha : xs.getLast? = some a) (h : Q a (H.setL l xs.dropLast)) :
    SemT cx fr tn X (call (.builtin "list.pop") [.ref l]) σ H (VR σ Q) := .leafW fun g Xl s Q' E st k => by
  obtain ⟨m, news, δ, F, N, lm, M⟩ := st.ex
  obtain ⟨hb, vs, n, h2, h3⟩ := M.L l xs hl
  obtain ⟨pre, post, rfl, hp1, hp2⟩ := mem_split M.nd h2
  obtain ⟨v, h4, h5, h6⟩ := h3.getLast ha
  refine kl_pop F N (kl_last_of h4) (upd_of_split hp1 hp2) (by simp only; rw [h3.length]; exact line1000 hb) fun h' F' N' => ?_
  exact k _ h' _ σ _ ⟨m, _, δ, F', N', lm, M.updL N hl h6 (by simp; lia)⟩ (.mk h5 h)
theorem T_extend {l b : Addr} {xs ys : List AV} (hl : H.L l = some xs) (hb : H.L b = some ys) (hn : xs.length + ys.length ≤ 1000) (h : Q .none (H.setL l (xs ++ ys))) :
    SemT cx fr tn X (call (.builtin "list.extend") [.ref l, .ref b]) σ H (VR σ Q) := .leafW fun g Xl s Q' E st k => by
  obtain ⟨m, news, δ, F, N, lm, M⟩ := st.ex
  obtain ⟨hb1, vs, n, h2, h3⟩ := M.L l xs hl
  obtain ⟨hb2, ws, n', h4, h5⟩ := M.L b ys hb
  obtain ⟨pre, post, rfl, hp1, hp2⟩ := mem_split M.nd h2
  have hl1 := h3.length
  have hl2 := h5.length
  have nt : ¬(!vs.toArray.isEmpty && Builtin.List.listTooLong (vs.toArray.size + ws.toArray.size)) = true := by
    intro q
    rw [Bool.and_eq_true] at q
    have q2 := q.2
    unfold Builtin.List.listTooLong at q2
    simp at q2
    rw [sizeLine_eq] at q2
    lia
  have sz : vs.toArray.size + ws.toArray.size ≤ sizeLine + 1 := by
    rw [List.size_toArray, List.size_toArray, sizeLine_eq]; lia
  by_cases e : ws = []
  · subst e
    have ey : ys = [] := by cases ys with | nil => rfl | cons _ _ => exact h5.elim
    subst ey
    refine kxn_extend F N h4 rfl (upd_of_split hp1 hp2) nt (by simp only; rw [hl1]; exact line1000 hb1) sz fun h' F' N' => ?_
    exact k _ h' _ σ _ ⟨m, _, δ, F', N', lm, M.updL N hl (by simpa using h3) (by simpa using hb1)⟩ (.mk .none h)
  · refine kl_extend (l := vs ++ ws) F N h4 rfl (by simpa using e) (upd_of_split hp1 hp2) nt (by simp only; rw [hl1]; exact line1000 hb1) sz fun h' F' N' => ?_
    exact k _ h' _ σ _ ⟨m, _, δ, F', N', lm, M.updL N hl (h3.append h5) (by simp; lia)⟩ (.mk .none h)
theorem T_setItem {l : Addr} {xs : List AV} {vi v : Value} {i : Int} {a : AV} {R : Unit → Loc → AH → Prop} (hl : H.L l = some xs) (hi : Sim vi (.int i)) (h0 : 0 ≤ i) (h1 : i < xs.length) (hv : Sim v a) (h : R () σ (H.setL l (xs.set i.toNat a))) :
    SemT cx fr tn X (setItem (.ref l) vi v) σ H R := .leafW fun g Xl s Q' E st k => by
  obtain ⟨m, news, δ, F, N, lm, M⟩ := st.ex
  obtain ⟨hb, vs, n, h2, h3⟩ := M.L l xs hl
  obtain ⟨pre, post, rfl, hp1, hp2⟩ := mem_split M.nd h2
  obtain ⟨_, rfl⟩ := hi.toI
  have hlen := h3.length
  have e : ∀ (vs : List Value) (j : Nat), j < vs.length → ki_setL vs j v = some (vs.set j v) := by
    intro vs
    induction vs with
    | nil => intro j hj; simp at hj
    | cons x r ih =>
      intro j hj
      cases j with
      | zero => rfl
      | succ j => unfold ki_setL; rw [ih j (by simpa using hj)]; rfl
  refine ki_set F N h0 (by lia) (e vs i.toNat (by lia)) (upd_of_split hp1 hp2) fun h' F' N' => ?_
  exact k _ h' _ σ _ ⟨m, _, δ, F', N', lm, M.updL N hl (h3.set _ hv) (by simp; lia)⟩ h
theorem Match.newD_X {news : List (Addr × Obj)} {Xl : List (Addr × Obj)} {δ : Addr → Addr} {d : Addr} {o : Obj} {es : List (Int × AV)} (M : Match cx news H Xl δ) (hf : ∀ o, (d, o) ∉ news) :
    ∀ q ∈ Xl, q ∈ (d, o) :: news ∧ (H.setD d es).free q.1 ∧ ∀ b, (H.setD d es).I b ≠ none → δ b ≠ q.1 := fun q hq => by
  obtain ⟨h1, h2, h4⟩ := M.X q hq
  have e : q.1 ≠ d := fun e => hf q.2 (by rw [← e]; exact h1)
  exact ⟨List.mem_cons_of_mem _ h1, h2.setD e, h4⟩
theorem T_newList {vs : List Value} {xs : List AV} (hv : SimL vs xs) (hn : xs.length ≤ 1000) (h : ∀ a, H.free a → Q (.ref a) (H.setL a xs)) : SemT cx fr tn X (newList vs) σ H (VR σ Q) := .leafW fun g Xl s Q' E st k => by
  obtain ⟨m, news, δ, F, N, lm, M⟩ := st.ex
  refine newList_K F N (fun l h' F' N' hlt => ?_) (by rw [hv.length]; exact line1000 hn)
  have hf := fresh_of_lt hlt
  exact k _ h' _ σ _ ⟨m, _, δ, F', N', lm, M.newL hf hv hn⟩ (.mk (.ref l) (h l (M.free N hf)))
theorem T_newTuple {vs : List Value} {xs : List AV} (hv : SimL vs xs) (hn : xs.length ≤ 1000) (h : ∀ a, H.free a → Q (.ref a) (H.setT a xs)) : SemT cx fr tn X (newTuple vs) σ H (VR σ Q) := .leafW fun g Xl s Q' E st k => by
  obtain ⟨m, news, δ, F, N, lm, M⟩ := st.ex
  refine kup_newTuple F N (fun l h' F' N' hlt => ?_) (by rw [hv.length]; exact line1000 hn)
  have hf := fresh_of_lt hlt
  exact k _ h' _ σ _ ⟨m, _, δ, F', N', lm, M.newT hf hv⟩ (.mk (.ref l) (h l (M.free N hf)))
theorem T_listCopy {l : Addr} {xs : List AV} (hl : H.L l = some xs) (h : ∀ a, H.free a → Q (.ref a) (H.setL a xs)) : SemT cx fr tn X (call (.type "list") [.ref l]) σ H (VR σ Q) := .leafW fun g Xl s Q' E st k => by
  obtain ⟨m, news, δ, F, N, lm, M⟩ := st.ex
  obtain ⟨hb, vs, n, h2, h3⟩ := M.L l xs hl
  refine list_copyK F N (N.isList h2) (fun D c h' F' N' hlt => ?_) (by rw [List.size_toArray, h3.length]; exact line1000 hb)
  have hf := fresh_of_lt hlt
  exact k _ h' _ σ _ ⟨m, _, δ, F', N', lm, M.newL hf h3 hb⟩ (.mk (.ref D) (h D (M.free N hf)))
theorem T_newDict {env : Env} {pos : Pos} (h : ∀ a, H.free a → Q (.ref a) (H.setD a [])) : SemT cx fr tn X (eval (.Dict [] [] pos) env) σ H (VR σ Q) := .leafW fun g Xl s Q' E st k => by
  obtain ⟨m, news, δ, F, N, lm, M⟩ := st.ex
  refine newDict_K F N st.gg.top.nolimit fun d h' o F' N' hlt hsm _ _ hd _ => ?_
  have hf := fresh_of_lt hlt
  have M' := M.more (o := o) hf
  refine k _ h' _ σ (H.setD d []) ⟨m, _, δ, F', N', lm, ⟨M'.nd, M'.L, M'.T, M'.I, M'.inj, ?_, M'.B, M.newD_X hf⟩⟩ (.mk (.ref d) (h d (M.free N hf)))
  intro b es hb
  by_cases e : b = d
  · subst e
    simp [AH.setD] at hb; subst hb
    refine ⟨⟨by simp, o, [], by simp, ?_, hd, trivial, hsm⟩, fun c hc q => ?_⟩
    · obtain ⟨es, ep, hx, _⟩ := hd; exact hx.1
    · obtain ⟨x, hx⟩ := Option.ne_none_iff_exists'.mp hc
      obtain ⟨_, ⟨es, k', h2, _⟩, _⟩ := M.I c x.1 x.2 hx
      exact hf _ (q ▸ h2)
  · simp [AH.setD, upd_ne _ _ e] at hb
    exact M'.D b es hb
end
noncomputable def atK (es : List (Int × AV)) (k : Int) : Option AV := (es.find? fun kv => kv.1 = k).map (·.2)
noncomputable def putK (es : List (Int × AV)) (k : Int) (a : AV) : List (Int × AV) := if es.any (fun kv => kv.1 = k) then es.map (fun kv => if kv.1 = k then (kv.1, a) else kv) else es ++ [(k, a)]
noncomputable def delK (es : List (Int × AV)) (k : Int) : List (Int × AV) := es.filter fun kv => decide (kv.1 ≠ k)
theorem find_hit {β : Type} {k : Int} {w : β} {l : List (Int × β)} : ((k, w) :: l).find? (fun kv => decide (kv.1 = k)) = some (k, w) := List.find?_cons_of_pos (p := fun kv : Int × β => decide (kv.1 = k)) (decide_eq_true rfl)
theorem find_skip {β : Type} {k k₁ : Int} {w : β} {l : List (Int × β)} (q : k₁ ≠ k) : ((k₁, w) :: l).find? (fun kv => decide (kv.1 = k)) = l.find? (fun kv => decide (kv.1 = k)) := List.find?_cons_of_neg (p := fun kv : Int × β => decide (kv.1 = k)) (fun z => q (of_decide_eq_true z))
theorem filt_skip {β : Type} {k k₁ : Int} {w : β} {l : List (Int × β)} (q : k₁ = k) : ((k₁, w) :: l).filter (fun kv => decide (kv.1 ≠ k)) = l.filter (fun kv => decide (kv.1 ≠ k)) := List.filter_cons_of_neg (p := fun kv : Int × β => decide (kv.1 ≠ k)) (fun z => (of_decide_eq_true z : k₁ ≠ k) q)
theorem filt_keep {β : Type} {k k₁ : Int} {w : β} {l : List (Int × β)} (q : k₁ ≠ k) : ((k₁, w) :: l).filter (fun kv => decide (kv.1 ≠ k)) = (k₁, w) :: l.filter (fun kv => decide (kv.1 ≠ k)) := List.filter_cons_of_pos (p := fun kv : Int × β => decide (kv.1 ≠ k)) (decide_eq_true q)
inductive AtR : Option Value → Option AV → Prop
  | none : AtR none none
  | some {v : Value} {a : AV} (h : Sim v a) : AtR (some v) (some a)
theorem KSim.at {kvs : List (Int × Value)} {es : List (Int × AV)} (k : Int) (h : KSim kvs es) : AtR (valueAt kvs k) (atK es k) :=
  KSim.ind (P := fun kvs es => AtR (valueAt kvs k) (atK es k)) .none (fun k₁ v kvs a es hv _ ih => by
    by_cases q : k₁ = k
    · subst q
      rw [show valueAt ((k₁, v) :: kvs) k₁ = Option.some v from congrArg _ find_hit, show atK ((k₁, a) :: es) k₁ = Option.some a from congrArg _ find_hit]; exact .some hv
    · rw [show valueAt ((k₁, v) :: kvs) k = valueAt kvs k from congrArg _ (find_skip q), show atK ((k₁, a) :: es) k = atK es k from congrArg _ (find_skip q)]; exact ih) h
theorem AtR.get {o : Option Value} {a : AV} (h : AtR o (.some a)) : ∃ v, o = Option.some v ∧ Sim v a := by
  cases h with
  | some h => exact ⟨_, rfl, h⟩
theorem AtR.vr {o : Option Value} {p : Option AV} {Q : AV → AH → Prop} {σ : Loc} {H : AH} (h : AtR o p) (hq : Q (p.getD .none) H) : VR σ Q (o.getD .none) σ H := by
  cases h with
  | none => exact .mk .none hq
  | some h => exact .mk h hq
theorem AtR.isSome {o : Option Value} {p : Option AV} (h : AtR o p) : o.isSome = p.isSome := by
  cases h <;> rfl
theorem KSim.any {kvs : List (Int × Value)} {es : List (Int × AV)} (k : Int) (h : KSim kvs es) : kvs.any (fun kv => kv.1 = k) = es.any (fun kv => kv.1 = k) :=
  KSim.ind (P := fun kvs es => kvs.any (fun kv => kv.1 = k) = es.any (fun kv => kv.1 = k)) rfl (fun k₁ _ _ _ _ _ _ ih => congrArg (decide (k₁ = k) || ·) ih) h
theorem KSim.append {kvs kvs' : List (Int × Value)} {es es' : List (Int × AV)} (h : KSim kvs es) (h' : KSim kvs' es') : KSim (kvs ++ kvs') (es ++ es') :=
  KSim.ind (P := fun kvs es => KSim (kvs ++ kvs') (es ++ es')) h' (fun _ _ _ _ _ hv _ ih => ⟨rfl, hv, ih⟩) h
theorem KSim.map {v : Value} {a : AV} (hv : Sim v a) (k : Int) {kvs : List (Int × Value)} {es : List (Int × AV)} (h : KSim kvs es) :
    KSim (kvs.map (fun kv => if kv.1 = k then (kv.1, v) else kv)) (es.map (fun kv => if kv.1 = k then (kv.1, a) else kv)) :=
  KSim.ind (P := fun kvs es => KSim (kvs.map (fun kv => if kv.1 = k then (kv.1, v) else kv)) (es.map (fun kv => if kv.1 = k then (kv.1, a) else kv))) trivial (fun k₁ w kvs b es hw _ ih => by
    rw [List.map_cons, List.map_cons]
    by_cases q : k₁ = k
    · rw [if_pos q, if_pos q]; exact ⟨rfl, hv, ih⟩
    · rw [if_neg q, if_neg q]; exact ⟨rfl, hw, ih⟩) h
theorem KSim.put {v : Value} {a : AV} (hv : Sim v a) (k : Int) {kvs : List (Int × Value)} {es : List (Int × AV)} (h : KSim kvs es) : KSim (stored kvs k v) (putK es k a) := by
  unfold stored putK
  rw [h.any k]
  by_cases q : es.any (fun kv => kv.1 = k) = true
  · rw [if_pos q, if_pos q]; exact h.map hv k
  · rw [if_neg q, if_neg q]; exact h.append ⟨rfl, hv, trivial⟩
theorem KSim.del (k : Int) {kvs : List (Int × Value)} {es : List (Int × AV)} (h : KSim kvs es) : KSim (without kvs k) (delK es k) :=
  KSim.ind (P := fun kvs es => KSim (without kvs k) (delK es k)) trivial (fun k₁ w kvs b es hw _ ih => by
    by_cases q : k₁ = k
    · rw [show without ((k₁, w) :: kvs) k = without kvs k from filt_skip q, show delK ((k₁, b) :: es) k = delK es k from filt_skip q]; exact ih
    · rw [show without ((k₁, w) :: kvs) k = (k₁, w) :: without kvs k from filt_keep q, show delK ((k₁, b) :: es) k = (k₁, b) :: delK es k from filt_keep q]; exact ⟨rfl, hw, ih⟩) h
theorem putK_length (es : List (Int × AV)) (k : Int) (a : AV) : (putK es k a).length ≤ es.length + 1 := by
  unfold putK; split <;> simp
theorem delK_length (es : List (Int × AV)) (k : Int) : (delK es k).length ≤ es.length := List.length_filter_le _ _
noncomputable def isI (v : AV) : Option Int := by
  cases v with
  | int i => exact some i
  | _ => exact none
noncomputable def intsOf (xs : List AV) : Option (List Int) := List.rec (motive := fun _ => Option (List Int)) (some []) (fun a _ ih => (isI a).bind fun i => ih.map (i :: ·)) xs
theorem intsOf_cons {a : AV} {xs : List AV} {ns : List Int} (h : intsOf (a :: xs) = some ns) : ∃ i ms, a = .int i ∧ intsOf xs = some ms ∧ ns = i :: ms := by
  cases a with
  | int i =>
    obtain ⟨ms, e1, rfl⟩ := Option.map_eq_some_iff.mp (show (intsOf xs).map (i :: ·) = some ns from h)
    exact ⟨i, ms, rfl, e1, rfl⟩
  | _ => cases h
theorem SimL.ints {vs : List Value} {xs : List AV} {ns : List Int} (h : SimL vs xs) (e : intsOf xs = some ns) : IntsAre vs ns :=
  SimL.ind (P := fun vs xs => ∀ ns, intsOf xs = some ns → IntsAre vs ns) (fun ns e => by cases e; exact .nil) (fun v a vs as hv _ ih ns e => by
    obtain ⟨i, ms, rfl, e1, rfl⟩ := intsOf_cons e
    obtain ⟨t, rfl⟩ := hv.toI
    exact .cons i t (ih ms e1)) h ns e
theorem simL_of_ints {vs : List Value} {ns : List Int} (h : IntsAre vs ns) : SimL vs (ns.map .int) := by
  induction h with
  | nil => trivial
  | cons i t _ ih => exact ⟨.int i t, ih⟩
theorem intsOf_map (ns : List Int) : intsOf (ns.map .int) = some ns := by
  induction ns with
  | nil => rfl
  | cons i r ih => exact congrArg (Option.map (i :: ·)) ih
theorem intsOf_length {xs : List AV} : ∀ {ns : List Int}, intsOf xs = some ns → ns.length = xs.length := by
  induction xs with
  | nil => intro ns e; cases e; rfl
  | cons a xs ih =>
    intro ns e
    obtain ⟨i, ms, rfl, e1, rfl⟩ := intsOf_cons e
    exact congrArg (· + 1) (ih e1)
section
variable {cx : Cx} {fr : Frm} {tn : Bool} {X : XP} {σ : Loc} {H : AH} {Q : AV → AH → Prop}
theorem Match.updD {pre post : List (Addr × Obj)} {Xl : List (Addr × Obj)} {δ : Addr → Addr} {h₀ h : Heap} {Lx : Addr} {a : Addr} {o o' : Obj} {es es' : List (Int × AV)} {kvs' : List (Int × Value)}
    (N : News h₀ Lx h (pre ++ (a, o) :: post)) (M : Match cx (pre ++ (a, o) :: post) H Xl δ) (he : H.D a = some es) (hd : o'.IsDictOf (PySem.intKind cx.prog cx.w) kvs') (hk : KSim kvs' es') (hl : es'.length ≤ 1000) :
    Match cx (pre ++ (a, o') :: post) (H.setD a es') Xl δ := by
  have hm : (a, o) ∈ pre ++ (a, o) :: post := by simp
  obtain ⟨⟨_, o₁, _, hm₁, hc₁, _, _, hsm⟩, hfar⟩ := M.D a es he
  have ho : o₁ = o := mem_uniq N hm₁ hm
  subst ho
  have ne : ∀ {b : Addr} {x : Obj}, (b, x) ∈ pre ++ (a, o₁) :: post → x.cls ≠ .type "dict" → b ≠ a := fun hb hc e => by
    subst e
    have := mem_uniq N hb hm
    exact hc (by rw [this]; exact hc₁)
  refine ⟨nd_turn M.nd, ?_, ?_, ?_, M.inj, ?_, ?_, ?_⟩
  · intro b ys hb; obtain ⟨h1, ws, k, h2, h3⟩ := M.L b ys hb; exact ⟨h1, ws, k, mem_turn (ne h2 (by simp)) h2, h3⟩
  · intro b ys hb; obtain ⟨ws, h2, h3⟩ := M.T b ys hb; exact ⟨ws, mem_turn (ne h2 (by simp)) h2, h3⟩
  · intro b C fs hb
    obtain ⟨h1, ⟨es₁, k, h2, h3⟩, h4, h5⟩ := M.I b C fs hb
    have hb' : H.I b ≠ none := by
      have : H.I b = some (C, fs) := hb
      rw [this]; simp
    exact ⟨mem_turn (ne h1 (by simp)) h1, ⟨es₁, k, mem_turn (hfar b hb') h2, h3⟩, h4, h5⟩
  · intro b es₁ hb
    by_cases e : b = a
    · subst e
      simp [AH.setD] at hb; subst hb
      refine ⟨⟨hl, o', kvs', by simp, ?_, hd, hk, hsm⟩, hfar⟩
      obtain ⟨_, _, hx, _⟩ := hd; exact hx.1
    · simp [AH.setD, upd_ne _ _ e] at hb
      obtain ⟨⟨h0, o₂, kvs, h1, h2, h25, h26, h27⟩, h3⟩ := M.D b es₁ hb
      exact ⟨⟨h0, o₂, kvs, mem_turn e h1, h2, h25, h26, h27⟩, h3⟩
  · intro q l hb; have h1 := M.B q l hb; exact mem_turn (ne h1 (by simp)) h1
  · intro q hq
    obtain ⟨h1, h2, h4⟩ := M.X q hq
    have e : q.1 ≠ a := h2.neD he
    exact ⟨mem_turn e h1, h2.setD e, h4⟩
theorem updF_of_split {pre post : List (Addr × Obj)} {a : Addr} {o : Obj} (h1 : ∀ p ∈ pre, p.1 ≠ a) (h2 : ∀ p ∈ post, p.1 ≠ a) : UpdF a o (pre ++ (a, o) :: post) (fun o' => pre ++ (a, o') :: post) := by
  induction pre with
  | nil => exact .head h2
  | cons p pre ih => exact .tail (h1 p (by simp)) (ih fun q hq => h1 q (by simp [hq]))
theorem T_dget {d : Addr} {es : List (Int × AV)} {vk : Value} {k : Int} (hd : H.D d = some es) (hk : Sim vk (.int k)) (h : Q ((atK es k).getD .none) H) :
    SemT cx fr tn X (call (.builtin "dict.get") [.ref d, vk]) σ H (VR σ Q) := .leaf fun g Xl s Q' E st kk => by
  obtain ⟨m, news, δ, F, N, lm, M⟩ := st.ex
  obtain ⟨⟨hb, o, kvs, h1, h2, h3, h4, h5⟩, _⟩ := M.D d es hd
  obtain ⟨_, rfl⟩ := hk.toI
  refine kdg_get1 N h1 h3 h5 (intKind_is _ _ _ _) _ rfl ?_
  exact kk _ _ ((h4.at k).vr h)
theorem T_itemD {value slice : Expr} {d : Addr} {es : List (Int × AV)} {vk : Value} {k : Int} {a : AV} (hd : H.D d = some es) (hk : Sim vk (.int k)) (ha : atK es k = some a) (h : Q a H)
    (hs : ∀ u, subscripted slice false (.ref d) (.int k u) = operate [.ref d, .int k u] (getItem (.ref d) (.int k u))) (hg : ∀ r, letTemporaryGo value (.ref d) r = pure ()) :
    SemT cx fr tn X (subscriptTail value slice (.ref d) vk) σ H (VR σ Q) := .leaf fun g Xl s Q' E st kk => by
  obtain ⟨m, news, δ, F, N, lm, M⟩ := st.ex
  obtain ⟨⟨hb, o, kvs, h1, h2, h3, h4, h5⟩, _⟩ := M.D d es hd
  obtain ⟨_, rfl⟩ := hk.toI
  obtain ⟨v, e1, z⟩ := (ha ▸ h4.at k : AtR _ (.some a)).get
  exact kda_item N h1 h3 (intKind_is _ _ _ _) e1 (kk _ _ (.mk z h)) (hs _) hg
theorem T_inD {d : Addr} {es : List (Int × AV)} {vk : Value} {k : Int} (hd : H.D d = some es) (hk : Sim vk (.int k)) (h : Q (.bool (atK es k).isSome) H) :
    SemT cx fr tn X (compareOp .In vk (.ref d)) σ H (VR σ Q) := .leaf fun g Xl s Q' E st kk => by
  obtain ⟨m, news, δ, F, N, lm, M⟩ := st.ex
  obtain ⟨⟨hb, o, kvs, h1, h2, h3, h4, h5⟩, _⟩ := M.D d es hd
  obtain ⟨_, rfl⟩ := hk.toI
  exact kda_in N h1 h3 h5 (intKind_is _ _ _ _) _ (h4.at k).isSome (kk _ _ (.mk (.bool _) h))
theorem T_setD {d : Addr} {es : List (Int × AV)} {vk v : Value} {k : Int} {a : AV} {R : Unit → Loc → AH → Prop} (hd : H.D d = some es) (hk : Sim vk (.int k)) (hv : Sim v a) (hn : es.length < 1000) (h : R () σ (H.setD d (putK es k a))) :
    SemT cx fr tn X (setItem (.ref d) vk v) σ H R := .leafW fun g Xl s Q' E st kk => by
  obtain ⟨m, news, δ, F, N, lm, M⟩ := st.ex
  obtain ⟨⟨hb, o, kvs, h1, h2, h3, h4, h5⟩, _⟩ := M.D d es hd
  obtain ⟨pre, post, rfl, hp1, hp2⟩ := mem_split M.nd h1
  obtain ⟨_, rfl⟩ := hk.toI
  refine kda_set F N (updF_of_split hp1 hp2) h3 (intKind_is _ _ _ _) (by rw [h4.length]; exact line1000 hb) fun h' o' F' N' hd' => ?_
  have hl := putK_length es k a
  exact kk _ h' _ σ _ ⟨m, _, δ, F', N', lm, M.updD N hd hd' (h4.put hv k) (by lia)⟩ h
theorem T_dpop {d : Addr} {es : List (Int × AV)} {vk : Value} {k : Int} {a : AV} (hd : H.D d = some es) (hk : Sim vk (.int k)) (ha : atK es k = some a) (h : Q a (H.setD d (delK es k))) :
    SemT cx fr tn X (call (.builtin "dict.pop") [.ref d, vk]) σ H (VR σ Q) := .leafW fun g Xl s Q' E st kk => by
  obtain ⟨m, news, δ, F, N, lm, M⟩ := st.ex
  obtain ⟨⟨hb, o, kvs, h1, h2, h3, h4, h5⟩, _⟩ := M.D d es hd
  obtain ⟨pre, post, rfl, hp1, hp2⟩ := mem_split M.nd h1
  obtain ⟨_, rfl⟩ := hk.toI
  obtain ⟨v, e1, z⟩ := (ha ▸ h4.at k : AtR _ (.some a)).get
  · refine kob_pop (more := []) F N (updF_of_split hp1 hp2) h3 (intKind_is _ _ _ _) (.inl rfl) rfl (PySem.F.args_dict_pop_2 _ _) e1 (by rw [h4.length]; exact line1000 hb) fun h' o' F' N' hd' => ?_
    have hl := delK_length es k
    exact kk _ h' _ σ _ ⟨m, _, δ, F', N', lm, M.updD N hd hd' (h4.del k) (by lia)⟩ (.mk z h)
theorem T_dmethod {d : Addr} {es : List (Int × AV)} {name : Str} {id : String} {pl : Sem Bool} {R : Value × List Value → Loc → AH → Prop} (slot : Slot "dict" name id) (ty : typeOf (.builtin id) = pure (.type "method_descriptor")) (hd : H.D d = some es)
    (h : R (.builtin id, [.ref d]) σ H) : SemT cx fr tn X (getMethod (.ref d) name pl) σ H R := .leaf fun g Xl s Q' E st kk => by
  obtain ⟨m, news, δ, F, N, lm, M⟩ := st.ex
  obtain ⟨⟨hb, o, kvs, h1, h2, h3, h4, h5⟩, _⟩ := M.D d es hd
  exact kob_method slot ty N h1 h3 (kk _ s.toks h)
theorem T_lmethod {l : Addr} {xs : List AV} {name : Str} {id : String} {pl : Sem Bool} {R : Value × List Value → Loc → AH → Prop} (slot : Slot "list" name id) (ty : typeOf (.builtin id) = pure (.type "method_descriptor")) (hd : H.L l = some xs)
    (h : R (.builtin id, [.ref l]) σ H) : SemT cx fr tn X (getMethod (.ref l) name pl) σ H R := .leaf fun g Xl s Q' E st kk => by
  obtain ⟨m, news, δ, F, N, lm, M⟩ := st.ex
  obtain ⟨hb, vs, n, h2, h3⟩ := M.L l xs hd
  exact kl_method N h2 slot ty (kk _ s.toks h)
noncomputable def refOf (v : Value) : Option Addr := by
  cases v with
  | ref a => exact some a
  | _ => exact none
theorem refOf_ {v : Value} {a : Addr} (h : refOf v = some a) : v = .ref a := by
  cases v with
  | ref b => exact congrArg _ (Option.some.inj h)
  | _ => cases h
theorem bind2 {x : Option (Option Value)} {k : Addr → Option Addr} {f : Addr} (h : (x.bind fun o => o.bind fun v => (refOf v).bind k) = some f) : ∃ g, x = some (some (.ref g)) ∧ k g = some f := by
  cases x with
  | none => cases h
  | some o =>
    cases o with
    | none => cases h
    | some v =>
      cases e : refOf v with
      | none => rw [show (some (some v) : Option (Option Value)).bind (fun o => o.bind fun v => (refOf v).bind k) = (refOf v).bind k from rfl, e] at h; cases h
      | some g =>
        rw [show (some (some v) : Option (Option Value)).bind (fun o => o.bind fun v => (refOf v).bind k) = (refOf v).bind k from rfl, e] at h
        exact ⟨g, by rw [refOf_ e], h⟩
noncomputable def methIn (K : Frag) (C : Addr) (name : Str) : Option Addr :=
  if plainGet K C name then (findIn K (.ref C) name).bind fun o => o.bind fun v => (refOf v).bind fun f => if isFn K (.ref f) && keepIn K (.ref f) then some f else none else none
theorem methIn_spec {K : Frag} {C : Addr} {name : Str} {f : Addr} (h : methIn K C name = some f) : plainGet K C name = true ∧ findIn K (.ref C) name = some (some (.ref f)) ∧ isFn K (.ref f) = true ∧ keepIn K (.ref f) = true := by
  unfold methIn at h
  by_cases p : plainGet K C name = true
  · rw [if_pos p] at h
    obtain ⟨g, e2, h⟩ := bind2 h
    by_cases q : (isFn K (.ref g) && keepIn K (.ref g)) = true
    · rw [if_pos q] at h; cases h; exact ⟨p, e2, Bool.and_eq_true_iff.mp q⟩
    · rw [if_neg q] at h; cases h
  · rw [if_neg p] at h; cases h
theorem T_method {a C f : Addr} {fs : List (String × AV)} {x : String} {pl : Sem Bool} {R : Value × List Value → Loc → AH → Prop} (hi : H.I a = some (C, fs)) (hm : methIn cx.K C (Str.ofString x) = some f) (hl : fs.lookup x = none)
    (h : R (.ref f, [.ref a]) σ H) : SemT cx fr tn X (getMethod (.ref a) (Str.ofString x) pl) σ H R := .leaf fun g Xl s Q' E st kk => by
  obtain ⟨m, news, δ, F, N, lm, M⟩ := st.ex
  obtain ⟨h1, ⟨es, n, h2, h3⟩, h4, h5⟩ := M.I a C fs hi
  obtain ⟨q1, q2, q3, _⟩ := methIn_spec hm
  exact method_inst F st.gg.kin (InstAt.of_news N h1 h2) q1 q2 q3 (h3.miss hl) (kk _ s.toks h)
inductive IsR (H : AH) : AV → AV → Bool → Prop
  | nn : IsR H .none .none true
  | rn (a : Addr) : IsR H (.ref a) .none false
  | nr (a : Addr) : IsR H .none (.ref a) false
  | in_ (i : Int) : IsR H (.int i) .none false
  | rr (a : Addr) : IsR H (.ref a) (.ref a) true
  | ne {a b : Addr} {p q : Addr × List (String × AV)} (e : a ≠ b) (ha : H.I a = some p) (hb : H.I b = some q) : IsR H (.ref a) (.ref b) false
theorem T_is {va vb : Value} {a b : AV} {c : Bool} (ha : Sim va a) (hb : Sim vb b) (hc : IsR H a b c) (h : Q (.bool c) H) : SemT cx fr tn X (compareOp .Is va vb) σ H (VR σ Q) := .leaf fun g Xl s Q' E st kk => by
  have kk := kk _ s.toks (.mk (.bool _) h)
  cases hc with
  | rr => obtain rfl := ha.toR; obtain rfl := hb.toR; exact wpAny_is_ref_self kk
  | ne e hx hy =>
    obtain ⟨m, news, δ, F, N, lm, M⟩ := st.ex
    obtain rfl := ha.toR; obtain rfl := hb.toR
    exact wpAny_is_ref_other e (N _ (M.I _ _ _ hx).1).1 (N _ (M.I _ _ _ hy).1).1 (by simp) kk
  | nn => obtain rfl := ha.toN; obtain rfl := hb.toN; exact wpAny_is_plain rfl kk
  | rn => obtain rfl := ha.toR; obtain rfl := hb.toN; exact wpAny_is_plain rfl kk
  | nr => obtain rfl := ha.toN; obtain rfl := hb.toR; exact wpAny_is_plain rfl kk
  | in_ => obtain ⟨_, rfl⟩ := ha.toI; obtain rfl := hb.toN; exact wpAny_is_plain rfl kk
theorem T_isNot {va vb : Value} {a b : AV} {c : Bool} (ha : Sim va a) (hb : Sim vb b) (hc : IsR H a b c) (h : Q (.bool (!c)) H) : SemT cx fr tn X (compareOp .IsNot va vb) σ H (VR σ Q) := .leaf fun g Xl s Q' E st kk => by
  have kk := kk _ s.toks (.mk (.bool _) h)
  cases hc with
  | rr => obtain rfl := ha.toR; obtain rfl := hb.toR; exact wpAny_isNot_ref_self kk
  | ne e hx hy =>
    obtain ⟨m, news, δ, F, N, lm, M⟩ := st.ex
    obtain rfl := ha.toR; obtain rfl := hb.toR
    exact wpAny_isNot_ref_other e (N _ (M.I _ _ _ hx).1).1 (N _ (M.I _ _ _ hy).1).1 (by simp) kk
  | nn => obtain rfl := ha.toN; obtain rfl := hb.toN; exact wpAny_isNot_plain rfl kk
  | rn => obtain rfl := ha.toR; obtain rfl := hb.toN; exact wpAny_isNot_plain rfl kk
  | nr => obtain rfl := ha.toN; obtain rfl := hb.toR; exact wpAny_isNot_plain rfl kk
  | in_ => obtain ⟨_, rfl⟩ := ha.toI; obtain rfl := hb.toN; exact wpAny_isNot_plain rfl kk
noncomputable def truthIn (K : Frag) (C : Addr) : Bool := findIn K (.ref C) "__bool__" == some none && findIn K (.ref C) "__len__" == some none
noncomputable def truv (K : Frag) (H : AH) : AV → Option Bool
  | .bool b => some b
  | .none => some false
  | .ref a => match H.I a with | some (C, _) => if truthIn K C then some true else none | none => none
  | .int _ => none
theorem T_truthy {v : Value} {a : AV} {b : Bool} {R : Bool → Loc → AH → Prop} (hv : Sim v a) (hb : truv cx.K H a = some b) (h : R b σ H) : SemT cx fr tn X (truthy v) σ H R := .leaf fun g Xl s Q' E st kk => by
  obtain ⟨m, news, δ, F, N, lm, M⟩ := st.ex
  cases hv <;> simp only [truv] at hb <;> try cases hb
  · exact truthy_none (kk _ s.toks h)
  · exact wpAny_truthy_bool (kk _ s.toks h)
  · split at hb
    · rename_i C fs hi
      split at hb
      · rename_i q
        cases hb
        unfold truthIn at q
        rw [Bool.and_eq_true, beq_iff_eq, beq_iff_eq] at q
        obtain ⟨h1, ⟨es, n, h2, h3⟩, h4, h5⟩ := M.I _ C fs hi
        exact truthy_K0 F st.gg.kin (InstAt.of_news N h1 h2) q.1 q.2 (kk _ s.toks h)
      · cases hb
    · cases hb
theorem kf_ints_of {vs : List Value} {ns : List Int} (h : IntsAre vs ns) : kf_ints vs = true := by
  induction h with
  | nil => rfl
  | cons i t _ ih => exact ih
theorem isInt_any (k : Int) {vs : List Value} {ns : List Int} (h : IntsAre vs ns) : vs.any (isInt k) = ns.contains k := by
  induction h with
  | nil => rfl
  | cons i t h ih =>
    rw [List.any_cons, ih, List.contains_cons]
    congr 1
    by_cases q : i = k
    · subst q; simp [isInt]
    · simp only [isInt]; rw [show (i == k) = (k == i) from by rw [Bool.eq_iff_iff, beq_iff_eq, beq_iff_eq]; exact eq_comm]
theorem T_inL {l : Addr} {xs : List AV} {ns : List Int} {vk : Value} {k : Int} (hl : H.L l = some xs) (hi : intsOf xs = some ns) (hk : Sim vk (.int k)) (h : Q (.bool (ns.contains k)) H) :
    SemT cx fr tn X (compareOp .In vk (.ref l)) σ H (VR σ Q) := .leaf fun g Xl s Q' E st kk => by
  obtain ⟨m, news, δ, F, N, lm, M⟩ := st.ex
  obtain ⟨hb, vs, n, h2, h3⟩ := M.L l xs hl
  obtain ⟨_, rfl⟩ := hk.toI
  have hI := h3.ints hi
  exact kf_in N h2 (kf_ints_of hI) (isInt_any k hI) (kk _ s.toks (.mk (.bool _) h))
theorem T_notInL {l : Addr} {xs : List AV} {ns : List Int} {vk : Value} {k : Int} (hl : H.L l = some xs) (hi : intsOf xs = some ns) (hk : Sim vk (.int k)) (h : Q (.bool (!ns.contains k)) H) :
    SemT cx fr tn X (compareOp .NotIn vk (.ref l)) σ H (VR σ Q) := .leaf fun g Xl s Q' E st kk => by
  obtain ⟨m, news, δ, F, N, lm, M⟩ := st.ex
  obtain ⟨hb, vs, n, h2, h3⟩ := M.L l xs hl
  obtain ⟨_, rfl⟩ := hk.toI
  have hI := h3.ints hi
  exact kf_notin N h2 (kf_ints_of hI) (congrArg (!·) (isInt_any k hI)) (kk _ s.toks (.mk (.bool _) h))
theorem T_neInts {l l' : Addr} {xs xs' : List AV} {ns ns' : List Int} (hl : H.L l = some xs) (hl' : H.L l' = some xs') (hi : intsOf xs = some ns) (hi' : intsOf xs' = some ns') (hu : fr.A.units + 64 < cLine) (h : Q (.bool (!decide (ns = ns'))) H) :
    SemT cx fr tn X (compareOp .NotEq (.ref l) (.ref l')) σ H (VR σ Q) := .leaf fun g Xl s Q' E st kk => by
  obtain ⟨m, news, δ, F, N, lm, M⟩ := st.ex
  obtain ⟨hb, vs, n, h2, h3⟩ := M.L l xs hl
  obtain ⟨hb', vs', n', h2', h3'⟩ := M.L l' xs' hl'
  exact ke_ne_ints (N.isList h2) (N.isList h2') (h3.ints hi) (h3'.ints hi') hu (kk _ s.toks (.mk (.bool _) h))
theorem T_sortedL {l : Addr} {xs : List AV} {ns : List Int} (hl : H.L l = some xs) (hi : intsOf xs = some ns) (hn : ns.length < 64) (h : ∀ (a : Addr) (ms : List Int), H.free a → ms.Perm ns → ms.Pairwise (· ≤ ·) → Q (.ref a) (H.setL a (ms.map .int))) :
    SemT cx fr tn X (call (.builtin "sorted") [.ref l]) σ H (VR σ Q) := .leafW fun g Xl s Q' E st kk => by
  obtain ⟨m, news, δ, F, N, lm, M⟩ := st.ex
  obtain ⟨hb, vs, n, h2, h3⟩ := M.L l xs hl
  refine kso_sorted F N (N.isList h2) (h3.ints hi) hn fun D vs' ns' c h' F' N' hlt hI hlen hp hs _ => ?_
  have hf := fresh_of_lt hlt
  exact kk _ h' _ σ _ ⟨m, _, δ, F', N', lm, M.newL hf (simL_of_ints hI) (by simp; lia)⟩ (.mk (.ref D) (h D ns' (M.free N hf) hp hs))
theorem T_min {va vb : Value} {a b : Int} (ha : Sim va (.int a)) (hb : Sim vb (.int b)) (hh : fr.A.handled = none) (h : Q (.int (min a b)) H) : SemT cx fr tn X (call (.builtin "min") [va, vb]) σ H (VR σ Q) := .leafW fun g Xl s Q' E st kk => by
  obtain ⟨m, news, δ, F, N, lm, M⟩ := st.ex
  obtain ⟨_, rfl⟩ := ha.toI; obtain ⟨_, rfl⟩ := hb.toI
  refine min_two_N hh F N fun h' tk F' N' => ?_
  have e : (if b < a then b else a) = min a b := by split <;> lia
  rw [e]
  exact kk _ h' _ σ H ⟨m, news, δ, F', N', lm, M⟩ (.mk (.int _ _) h)
theorem T_max {va vb : Value} {a b : Int} (ha : Sim va (.int a)) (hb : Sim vb (.int b)) (hh : fr.A.handled = none) (h : Q (.int (max a b)) H) : SemT cx fr tn X (call (.builtin "max") [va, vb]) σ H (VR σ Q) := .leafW fun g Xl s Q' E st kk => by
  obtain ⟨m, news, δ, F, N, lm, M⟩ := st.ex
  obtain ⟨_, rfl⟩ := ha.toI; obtain ⟨_, rfl⟩ := hb.toI
  refine max_two_N hh F N fun h' tk F' N' => ?_
  have e : (if b > a then b else a) = max a b := by split <;> lia
  rw [e]
  exact kk _ h' _ σ H ⟨m, news, δ, F', N', lm, M⟩ (.mk (.int _ _) h)
end
inductive AF
  | next | brk | cont
  | ret (v : AV)
noncomputable def SimF : Flow → AF → Prop
  | .next, .next => True
  | .brk, .brk => True
  | .cont, .cont => True
  | .ret v, .ret a => Sim v a
  | _, _ => False
noncomputable def AF.val : AF → AV
  | .ret v => v
  | _ => .none
noncomputable def FR (Q : AF → Loc → AH → Prop) (f : Flow) (σ : Loc) (H : AH) : Prop := ∃ af, SimF f af ∧ Q af σ H
theorem SimF.val (f : Flow) (af : AF) : SimF f af → Sim (match f with | .ret v => v | _ => .none) af.val := by
  intro h
  cases f <;> cases af <;> first | exact h | exact .none | exact h.elim
structure ACall (fr : Frm) (h : Nat) (A : Around) : Prop where
  frames : A.frames = some (fr.env :: fr.outer)
  handled : A.handled = none
  depth : A.depth + 3 * h ≤ 901
  units : A.units + 30 * h ≤ 9010
  kind : fr.scope.kind = .function
inductive ErrC (cx : Cx) (fr : Frm) (g : Heap) (Xl : List (Addr × Obj)) (σ : Loc) (X : Value → AH → Prop) (e : Value) (s' : Shared) : Prop
  | mk (ea : Addr) (cls : Value) (H' : AH) (δ : Addr → Addr) (G : Heap) (t : Addr) (vs : List Value) (m : Str → Option Value) (news : List (Addr × Obj)) (h1 : e = .ref ea) (h2 : s'.gens = #[]) (h3 : s'.os = cx.os ∧ s'.drawn = cx.dr) (h4 : X cls H')
    (h5 : RaisedS cx.base G (fr.env :: fr.outer) ea cls t vs news s'.heap) (h6 : Fr g fr.L G m) (h7 : G.UpToSlots s'.heap) (h8 : LocM m σ) (h9 : Match cx news H' Xl δ)
inductive CallPost (cx : Cx) (fr : Frm) (tn : Bool) (g : Heap) (Xl : List (Addr × Obj)) (σ : Loc) (Q : AV → AH → Prop) (X : Value → AH → Prop) : Result → Shared → Prop
  | ret (v : Value) (s' : Shared) (p : Post cx fr tn g Xl (VR σ Q) v s') : CallPost cx fr tn g Xl σ Q X (.ok (.ret v)) s'
  | err (e : Value) (s' : Shared) (p : ErrC cx fr g Xl σ X e s') : CallPost cx fr tn g Xl σ Q X (.error e) s'
noncomputable def CallOK (cx : Cx) (h : Nat) (tn : Bool) (f : Value) (args : List AV) (H : AH) (Q : AV → AH → Prop) (X : Value → AH → Prop) : Prop :=
  ∀ (fr : Frm) (A : Around) (g : Heap) (Xl : List (Addr × Obj)) (σ : Loc) (s : Shared) (vs : List Value), ACall fr h A → SimL vs args → St cx fr g Xl σ H s →
    codeAny (model cx.prog cx.w) A (.call f ⟨vs, []⟩) (CallPost cx fr tn g Xl σ Q X) s
theorem CallPost.mono {cx : Cx} {fr : Frm} {tn : Bool} {g : Heap} {Xl} {σ : Loc} {Q Q' : AV → AH → Prop} {X X' : Value → AH → Prop} (hQ : ∀ v H, Q v H → Q' v H) (hX : ∀ c H, X c H → X' c H) {r : Result} {s' : Shared}
    (h : CallPost cx fr tn g Xl σ Q X r s') : CallPost cx fr tn g Xl σ Q' X' r s' := by
  cases h with
  | ret v s' h => obtain ⟨g', σ', H', t, st, e, av, hv, q⟩ := h; exact .ret _ _ ⟨g', σ', H', t, st, e, av, hv, hQ _ _ q⟩
  | err e s' h => cases h with
    | mk ea cls H' δ G t vs m news h1 h2 h3 h4 h5 h6 h7 h8 h9 => exact .err _ _ ⟨ea, cls, H', δ, G, t, vs, m, news, h1, h2, h3, hX _ _ h4, h5, h6, h7, h8, h9⟩
theorem CallOK.mono {cx : Cx} {h : Nat} {tn : Bool} {f : Value} {args : List AV} {H : AH} {Q Q' : AV → AH → Prop} {X X' : Value → AH → Prop} (c : CallOK cx h tn f args H Q X) (hQ : ∀ v H, Q v H → Q' v H) (hX : ∀ c H, X c H → X' c H) :
    CallOK cx h tn f args H Q' X' := fun fr A g Xl σ s vs ha hv hs => codeAny_mono (c fr A g Xl σ s vs ha hv hs) fun _ _ p => p.mono hQ hX
theorem CallOK.up {cx : Cx} {h h' : Nat} {tn : Bool} {f : Value} {args : List AV} {H : AH} {Q : AV → AH → Prop} {X : Value → AH → Prop} (c : CallOK cx h tn f args H Q X) (hh : h ≤ h') :
    CallOK cx h' tn f args H Q X := fun fr A g Xl σ s vs ha hv hs => c fr A g Xl σ s vs ⟨ha.frames, ha.handled, by have := ha.depth; lia, by have := ha.units; lia, ha.kind⟩ hv hs
theorem CallPost.turn {cx : Cx} {fr : Frm} {g : Heap} {Xl} {σ : Loc} {Q : AV → AH → Prop} {X : Value → AH → Prop} {r : Result} {s' : Shared}
    (h : CallPost cx fr false g Xl σ Q X r s') (tn : Bool) : CallPost cx fr tn g Xl σ Q X r s' := by
  cases h with
  | ret v s' h => obtain ⟨g', σ', H', t, a, b⟩ := h; exact .ret _ _ ⟨g', σ', H', ⟨fun _ => t.1 rfl, t.2⟩, a, b⟩
  | err e s' h => exact .err _ _ h
theorem CallOK.turn {cx : Cx} {h : Nat} {f : Value} {args : List AV} {H : AH} {Q : AV → AH → Prop} {X : Value → AH → Prop} (c : CallOK cx h false f args H Q X) (tn : Bool) :
    CallOK cx h tn f args H Q X := fun fr A g Xl σ s vs ha hv hs => codeAny_mono (c fr A g Xl σ s vs ha hv hs) fun _ _ p => p.turn tn
theorem Frm.Ok.acall {fr : Frm} {h : Nat} (o : fr.Ok h) : ACall fr h fr.A := by
  refine ⟨Around.frames_deeper o.frames, o.handled, ?_, ?_, o.kind⟩
  · have := o.depth; lia
  · have := o.units; lia
theorem ErrC.to {cx : Cx} {fr : Frm} {tn : Bool} {g : Heap} {Xl} {σ : Loc} {X : Value → AH → Prop} {X' : XP} (gg : StG cx fr g) (hX : ∀ c H, X c H → X'.fly c σ H) {e : Value} {s' : Shared}
    (h : ErrC cx fr g Xl σ X e s') : Err cx fr tn g Xl X' e s' := by
  cases h with
  | mk ea cls H' δ G t vs m news k1 k2 k3 k4 k5 k6 k7 k8 k9 => exact ⟨g, ea, cls, σ, H', δ, .refl, k1, k2, k3, trivial, gg, .inr ⟨hX _ _ k4, G, t, vs, m, news, k5, k6, k7, k8, k9⟩⟩
theorem T_call {cx : Cx} {fr : Frm} {tn : Bool} {X' : XP} {σ : Loc} {H : AH} {Q : AV → AH → Prop} {X : Value → AH → Prop} {h : Nat} {f : Value} {vs : List Value} {args : List AV}
    (o : fr.Ok h) (hc : CallOK cx h tn f args H Q X) (hv : SimL vs args) (hX : ∀ c H, X c H → X'.fly c σ H) : SemT cx fr tn X' (call f vs) σ H (VR σ Q) := fun g Xl s hs => by
  refine wpAny_call (codeAny_mono (hc fr fr.A g Xl σ s vs o.acall hv hs) fun r s' p => ?_)
  cases p with
  | ret v s' p => exact p
  | err e s' p => exact p.to hs.gg hX
noncomputable def bindσ (ns : List String) (args : List AV) : Loc := fun x => (ns.zip args).lookup x
theorem locM_binds : ∀ {ns : List String} {vs : List Value} {args : List AV}, ns.Nodup → SimL vs args → LocM (fun y => ((ns.map Str.ofString).zip vs).reverse.lookup y) (bindσ ns args) := by
  have key : ∀ {ns : List String} {vs : List Value} {args : List AV} {x : String} {av : AV}, SimL vs args → (ns.zip args).lookup x = some av → ∃ v, ((ns.map Str.ofString).zip vs).lookup (Str.ofString x) = some v ∧ Sim v av := by
    intro ns
    induction ns with
    | nil => intro vs args x av _ e; simp at e
    | cons n ns ih =>
      intro vs args x av h e
      cases args with
      | nil => simp at e
      | cons a args =>
        cases vs with
        | nil => exact h.elim
        | cons v vs =>
          simp only [List.map_cons, List.zip_cons_cons, List.lookup_cons] at e ⊢
          by_cases q : x = n
          · subst q
            simp at e; subst e
            exact ⟨v, by simp, h.1⟩
          · have q1 : (x == n) = false := by simpa using q
            have q2 : (Str.ofString x == Str.ofString n) = false := by
              simp only [beq_eq_false_iff_ne]; exact fun z => q (ofString_inj z)
            rw [q1] at e
            rw [q2]
            exact ih h.2 e
  have rev : ∀ {l : List (Str × Value)} {x : Str} {v : Value}, (l.map (·.1)).Nodup → l.lookup x = some v → l.reverse.lookup x = some v := by
    intro l
    induction l with
    | nil => intro x v _ e; simp at e
    | cons p l ih =>
      intro x v nd e
      obtain ⟨y, w⟩ := p
      rw [List.reverse_cons, List.lookup_append]
      simp only [List.map_cons, List.nodup_cons] at nd
      rw [List.lookup_cons] at e
      by_cases q : x = y
      · subst q
        simp at e; subst e
        have : l.reverse.lookup x = none := by
          rw [List.lookup_eq_none_iff]
          intro p hp
          rw [bne_iff_ne]
          intro z
          exact nd.1 (List.mem_map.mpr ⟨p, by simpa using hp, z.symm⟩)
        rw [this]; simp
      · have q1 : (x == y) = false := by simpa using q
        rw [q1] at e
        rw [ih nd.2 e]; rfl
  intro ns vs args nd h x av e
  obtain ⟨v, h1, h2⟩ := key h e
  refine ⟨v, rev ?_ h1, h2⟩
  have sub : ∀ (l : List Str) (vs : List Value), ((l.zip vs).map (·.1)).Sublist l := by
    intro l
    induction l with
    | nil => intro vs; simp
    | cons a l ih => intro vs; cases vs with
      | nil => simp
      | cons v vs => simp only [List.zip_cons_cons, List.map_cons]; exact (ih vs).cons_cons a
  refine List.Nodup.sublist (sub _ _) ?_
  rw [List.nodup_iff_pairwise_ne, List.pairwise_map]
  exact (List.nodup_iff_pairwise_ne.mp nd).imp fun {a b} hne he => hne (ofString_inj he)
inductive FnIn (K : Frag) (f : Addr) (ns : List String) (qual : Str) (scope : Scope) (cdv : Value) (body : List Stmt) : Prop
  | mk (oc : Value) (od : Option Addr) (name : Str) (params : Arguments) (dV kV doc pm : Value) (an : Option Addr) (ct : Value) (osl : Array (Option Value)) (hK : K.lookup f = some ⟨oc, od, .func (fnOf name qual params body scope dV kV doc pm an cdv ct), osl⟩)
    (hb : ∀ (s : Shared) (vs : List Value), vs.length = ns.length → K.In s.heap → BindsTo s (fnOf name qual params body scope dV kV doc pm an cdv ct) ⟨vs, []⟩ ((ns.map Str.ofString).zip vs))
    (code : codeIn K cdv qual = true) (nd : ns.Nodup) (loc : ∀ n ∈ ns, scope.names.lookup (Str.ofString n) = some .local) (co : scope.isCoroutine = false) (gen : scope.isGenerator = false) (kind : scope.kind = .function) (cell : ∀ x ∈ scope.names, x.2 ≠ .cell)
theorem CallOK.of_body {cx : Cx} (ok : cx.Ok) {h : Nat} {tn : Bool} {f : Addr} {ns : List String} {qual : Str} {scope : Scope} {cdv : Value} {body : List Stmt} {args : List AV} {H : AH} {Q : AV → AH → Prop} {X : Value → AH → Prop}
    (I : FnIn cx.K f ns qual scope cdv body) (hl : args.length = ns.length) (hx : tn = true → ∀ c H, ¬ X c H)
    (hb : ∀ fr : Frm, fr.Ok h → fr.scope = scope → SemT cx fr tn ⟨fun c _ H' => X c H', fun c _ H' => X c H'⟩ (execs body fr.env) (bindσ ns args) H (FR fun af _ H' => Q af.val H')) :
    CallOK cx (h + 1) tn (.ref f) args H Q X := fun fr A g Xl σ s vs ha hv hs => by
  obtain ⟨oc, od, name, params, dV, kV, doc, pm, an, ct, osl, hK, hbind, hcode, hnd, hloc, hco, hgen, hkind, hcell⟩ := I
  obtain ⟨m, news, δ, F, N, lm, M⟩ := hs.ex
  have hvl : vs.length = ns.length := hv.length.trans hl
  refine code_defS (g₀ := g) hs.gg.bel F hs.gg.kin N hs.gg.top ok.kin ok.top hs.gg.dicts .refl ha.frames hK hcode (by have := ha.depth; unfold recursionLimit; lia)
    (hbind s vs hvl (hs.gg.kin.keeps F.keep)) ?_ (fun g' L' h₁ FG F' N' B' X' T' D' => ?_) ha.kind hco hgen hkind hcell
  · intro y hy
    obtain ⟨n, hn, e⟩ : ∃ n ∈ ns, Str.ofString n = y.1 := by
      have := (List.of_mem_zip (a := y.1) (b := y.2) hy).1
      obtain ⟨n, hn, e⟩ := List.mem_map.mp this
      exact ⟨n, hn, e⟩
    rw [← e]; exact hloc n hn
  · let fr' : Frm := ⟨A, fr.env :: fr.outer, L', qual, scope, f, cdv⟩
    have ok' : fr'.Ok h := by
      refine ⟨hkind, ha.handled, ?_, ?_, ha.frames⟩
      · show A.depth + 1 + 3 * h ≤ 900
        have := ha.depth; lia
      · show A.units + 3 + 30 * h ≤ 9000
        have := ha.units; lia
    have gg' : StG cx fr' g' := ⟨B', X', T', D'⟩
    have st' : St cx fr' g' Xl (bindσ ns args) H { s with heap := h₁, toks := s.toks + ((ns.map Str.ofString).zip vs).length } :=
      ⟨gg', ⟨_, news, δ, F', N', locM_binds hnd hv, M⟩, hs.gens, hs.os⟩
    refine wpAny_mono (hb fr' ok' rfl g' Xl _ st') (fun fl s' p => ?_) fun e s' p => ?_
    · obtain ⟨g'', σ', H', ⟨tr1, tr2⟩, st'', af, hf, hq⟩ := p
      obtain ⟨m'', news'', δ'', F'', N'', lm'', M''⟩ := st''.ex
      cases tn with
      | false =>
        obtain rfl : g'' = g' := tr1 rfl
        refine leaveS_l F'' N'' fun F₀ N₀ => ?_
        exact .ret _ _ ⟨g, σ, H', .refl, ⟨hs.gg, ⟨m, news'', δ'', F₀, N₀, lm, M''⟩, st''.gens, st''.os⟩, rfl, af.val, SimF.val fl af hf, hq⟩
      | true =>
        refine leaveS_r F'' N'' tr2 fun g₁ t₁ F₀ N₀ B₀ X₀ T₀ D₀ => ?_
        exact .ret _ _ ⟨g₁, σ, H', ⟨(fun e => by cases e), t₁⟩, ⟨⟨B₀, X₀, T₀, D₀⟩, ⟨m, news'', δ'', F₀, N₀, lm, M''⟩, st''.gens, st''.os⟩, rfl, af.val, SimF.val fl af hf, hq⟩
    · obtain ⟨g'', ea, cls, σ', H', δ'', ⟨tr1, tr2⟩, rfl, hg, ho, _, gg'', hc⟩ := p
      cases tn with
      | true => rcases hc with ⟨hX, _⟩ | ⟨hX, _⟩ <;> exact absurd hX (hx rfl _ _)
      | false =>
        obtain rfl : g'' = g' := tr1 rfl
        rcases hc with ⟨hX, hh, ws, m₁, news₁, hm, F₁, N₁, lm₁, M₁⟩ | ⟨hX, G, t, ws, m₁, news₁, hr, F₁, hsm, lm₁, M₁⟩
        · refine leave_raiseS B' hm F₁ N₁ (fun h' t R _ U => ?_) hkind
          exact .err _ _ ⟨ea, cls, H', δ'', _, t, ws, m, news₁, rfl, hg, ho, hX, R, FG, U, lm, M₁⟩
        · refine leave_onS B' F₁ hr hsm fun h' R _ U => ?_
          exact .err _ _ ⟨ea, cls, H', δ'', _, t, ws, m, news₁, rfl, hg, ho, hX, R, FG, U, lm, M₁⟩
section
variable {cx : Cx} {fr : Frm} {tn : Bool} {X : XP} {σ : Loc} {H : AH} {Q : AV → AH → Prop}
theorem simL_slice_from {vs : List Value} {k : Int} (h0 : 0 ≤ k) : (slicePick vs.toArray (some k) none none).toList = vs.drop k.toNat := by
  obtain ⟨k, rfl⟩ := Int.eq_ofNat_of_zero_le h0
  have e : sliceBounds (some (k : Int)) none none vs.toArray.size = (((min k vs.length : Nat) : Int), ((vs.length : Nat) : Int), 1) := by
    simp only [sliceBounds, Option.getD_none, show (1 : Int) > 0 by decide, if_true, if_neg (show ¬ ((k : Int) < 0) from Int.not_lt.mpr h0), List.size_toArray]
    rw [← Lean.Omega.Int.ofNat_min, Int.max_eq_right (Int.natCast_nonneg _)]
  rw [kmk_pick_nat _ e]
  show (vs.drop (min k vs.length)).take (vs.length - min k vs.length) = _
  rw [kmk_drop_min, List.take_of_length_le]
  · rfl
  rw [List.length_drop]
  exact Nat.le_of_eq (Nat.min_def ▸ by split <;> lia)
theorem simL_slice_to {vs : List Value} {k : Int} (h0 : 0 ≤ k) : (slicePick vs.toArray none (some k) none).toList = vs.take k.toNat := by
  obtain ⟨k, rfl⟩ := Int.eq_ofNat_of_zero_le h0
  have e : sliceBounds none (some (k : Int)) none vs.toArray.size = (((0 : Nat) : Int), ((min k vs.length : Nat) : Int), 1) := by
    simp only [sliceBounds, Option.getD_none, show (1 : Int) > 0 by decide, if_true, if_neg (show ¬ ((k : Int) < 0) from Int.not_lt.mpr h0), List.size_toArray]
    rw [← Lean.Omega.Int.ofNat_min, Int.max_eq_right (Int.natCast_nonneg _)]; rfl
  rw [kmk_pick_nat _ e]
  show (vs.drop 0).take (min k vs.length - 0) = _
  rw [List.drop_zero, Nat.sub_zero, kmk_take_min]; rfl
theorem slice_core {value slice : Expr} {l : Addr} {xs ys : List AV} {lo hi : Option Int} {vl vu : Value} {R : Value → Loc → AH → Prop} {g : Heap} {Xl : List (Addr × Obj)} {s : Shared}
    (hs : St cx fr g Xl σ H s) (hl : H.L l = some xs) (pl : IsPart vl lo) (pu : IsPart vu hi) (hy : ∀ vs, SimL vs xs → SimL (slicePick vs.toArray lo hi none).toList ys) (hyl : ys.length ≤ 1000)
    (hsl : ∀ a, subscripted slice false (.ref l) (.ref a) = operate [.ref a, .ref l] (getItem (.ref l) (.ref a)))
    (h : ∀ a, H.free a → R (.ref a) σ (H.setL a ys)) :
    wpAny (model cx.prog cx.w) fr.A (subscriptTail value slice (.ref l) (.ref s.heap.objs.size)) (Post cx fr tn g Xl R) (Err cx fr tn g Xl X) { s with heap := s.heap.push { cls := .type "slice", data := .fields #[vl, vu, .none] } } := by
  obtain ⟨m, news, δ, F, N, lm, M⟩ := hs.ex
  obtain ⟨hb, vs, n, h2, h3⟩ := M.L l xs hl
  have hil : s.heap.IsList l vs.toArray := N.isList h2
  refine tail_any (Heap.IsList.typeIs (s := { s with heap := s.heap.push { cls := .type "slice", data := .fields #[vl, vu, .none] } }) (hil.push _)) slot_list_getitem.lookup
    (wpAny_getItem_list_slice (hil.push _) (Heap.IsSliceOf.new ..) pl pu .none (by simp) ?_ (by rw [List.size_toArray, h3.length]; exact line1000 hb)) (hsl _)
  have N1 := News.push (F.push { cls := .type "slice", data := .fields #[vl, vu, .none] }) (N.grown fun _ _ e => Heap.get?_push_of_some _ e) { cls := .type "list", data := .seq (slicePick vs.toArray lo hi none) }
  rw [Heap.size_push] at N1
  show Post cx fr tn g Xl R (.ref (s.heap.push _).objs.size) _
  rw [Heap.size_push]
  have hf := fresh_of_lt (a := s.heap.objs.size + 1) (fun p hp => Nat.lt_succ_of_lt (Heap.lt_size (N p hp).1))
  have hz : (slicePick vs.toArray lo hi none).toList.toArray = slicePick vs.toArray lo hi none := Array.toArray_toList
  refine ⟨g, σ, _, .refl, ⟨hs.gg, ⟨m, _, δ, (F.push _).push _, N1, lm, ?_⟩, hs.gens, hs.os⟩, h _ (M.free N hf)⟩
  have := M.newL (n := 0) hf (hy vs h3) hyl
  rw [hz] at this
  exact this
theorem SimL.sliceFrom {vs : List Value} {xs : List AV} {k : Int} (h : SimL vs xs) (h0 : 0 ≤ k) : SimL (slicePick vs.toArray (some k) none none).toList (xs.drop k.toNat) := by rw [simL_slice_from h0]; exact h.drop _
theorem SimL.sliceTo {vs : List Value} {xs : List AV} {k : Int} (h : SimL vs xs) (h0 : 0 ≤ k) : SimL (slicePick vs.toArray none (some k) none).toList (xs.take k.toNat) := by rw [simL_slice_to h0]; exact h.take _
theorem T_sliceFrom {value e : Expr} {p pos : Pos} {env : Env} {R : Value → Loc → AH → Prop}
    (h : SemT cx fr tn X (eval value env) σ H fun v σ₁ H₁ => SemT cx fr tn X (eval e env) σ₁ H₁ fun i σ₂ H₂ => ∃ l xs k, v = .ref l ∧ H₂.L l = some xs ∧ xs.length ≤ 1000 ∧ Sim i (.int k) ∧ 0 ≤ k ∧ ∀ a, H₂.free a → R (.ref a) σ₂ (H₂.setL a (xs.drop k.toNat))) :
    SemT cx fr tn X (eval (.Subscript value (.Slice (some e) none none p) pos) env) σ H R := fun g Xl s hs => by
  refine Subscript_ (wpAny_mono (h g Xl s hs) (fun v s₁ p1_ => ?_) fun _ _ e => e)
  obtain ⟨g₁, σ₁, H₁, tr, st, r⟩ := p1_
  refine wpAny_Slice ?_
  rw [evalPart_some]
  refine wpAny_mono (r g₁ Xl s₁ st) (fun i s₂ p1_ => ?_) fun _ _ e => e.trans tr
  obtain ⟨g₂, σ₂, H₂, tr₂, st₂, r₂⟩ := p1_
  rw [evalPart_none]
  refine wpAny_pure (wpAny_pure ?_)
  obtain ⟨l, xs, k, rfl, hl, hb, hi, h0, hR⟩ := r₂
  obtain ⟨_, rfl⟩ := hi.toI
  refine wpAny_mono (slice_core (R := R) (X := X) (tn := tn) st₂ hl (.int _ _) .none (fun vs hv => hv.sliceFrom h0) (by simp; lia) (fun a => by with_unfolding_all rfl) hR) (fun _ _ q => q.trans (tr.trans tr₂)) fun _ _ e => e.trans (tr.trans tr₂)
theorem T_sliceTo {value e : Expr} {p pos : Pos} {env : Env} {R : Value → Loc → AH → Prop}
    (h : SemT cx fr tn X (eval value env) σ H fun v σ₁ H₁ => SemT cx fr tn X (eval e env) σ₁ H₁ fun i σ₂ H₂ => ∃ l xs k, v = .ref l ∧ H₂.L l = some xs ∧ xs.length ≤ 1000 ∧ Sim i (.int k) ∧ 0 ≤ k ∧ ∀ a, H₂.free a → R (.ref a) σ₂ (H₂.setL a (xs.take k.toNat))) :
    SemT cx fr tn X (eval (.Subscript value (.Slice none (some e) none p) pos) env) σ H R := fun g Xl s hs => by
  refine Subscript_ (wpAny_mono (h g Xl s hs) (fun v s₁ p1_ => ?_) fun _ _ e => e)
  obtain ⟨g₁, σ₁, H₁, tr, st, r⟩ := p1_
  refine wpAny_Slice ?_
  rw [evalPart_none]
  refine wpAny_pure ?_
  rw [evalPart_some]
  refine wpAny_mono (r g₁ Xl s₁ st) (fun i s₂ p1_ => ?_) fun _ _ e => e.trans tr
  obtain ⟨g₂, σ₂, H₂, tr₂, st₂, r₂⟩ := p1_
  refine wpAny_pure ?_
  obtain ⟨l, xs, k, rfl, hl, hb, hi, h0, hR⟩ := r₂
  obtain ⟨_, rfl⟩ := hi.toI
  refine wpAny_mono (slice_core (R := R) (X := X) (tn := tn) st₂ hl .none (.int _ _) (fun vs hv => hv.sliceTo h0) (by simp; lia) (fun a => by with_unfolding_all rfl) hR) (fun _ _ q => q.trans (tr.trans tr₂)) fun _ _ e => e.trans (tr.trans tr₂)
theorem T_last {value slice : Expr} {l : Addr} {xs : List AV} {vi : Value} {av : AV} (hi : Sim vi (.int (-1))) (hl : H.L l = some xs) (ha : xs.getLast? = some av) (h : Q av H)
    (hs : ∀ u, subscripted slice false (.ref l) (.int (-1) u) = operate [.ref l, .int (-1) u] (getItem (.ref l) (.int (-1) u))) :
    SemT cx fr tn X (subscriptTail value slice (.ref l) vi) σ H (VR σ Q) := .leaf fun g Xl s Q' E st k => by
  obtain ⟨m, news, δ, F, N, lm, M⟩ := st.ex
  obtain ⟨hb, vs, n, h2, h3⟩ := M.L l xs hl
  obtain ⟨v, h4, h5, _⟩ := h3.getLast ha
  obtain ⟨_, rfl⟩ := hi.toI
  rename_i u
  have hil : s.heap.IsList l vs.toArray := N.isList h2
  have hne : 0 < vs.length := by
    cases vs with
    | nil => simp at h4
    | cons _ _ => simp
  refine tail_any hil.typeIs slot_list_getitem.lookup (wpAny_getItem_list_neg hil (by decide) (by rw [List.size_toArray]; lia) (by decide) (x := v) ?_ (k v s.toks (.mk h5 h))) (hs u)
  rw [List.size_toArray, List.getElem?_toArray]
  rw [List.getLast?_eq_getElem?] at h4
  rw [← h4]
  congr 1
  lia
theorem T_dictCopy {d : Addr} {es : List (Int × AV)} (hd : H.D d = some es) (ok : cx.Ok) (h : ∀ a, H.free a → Q (.ref a) (H.setD a es)) :
    SemT cx fr tn X (call (.type "dict") [.ref d]) σ H (VR σ Q) := .leafW fun g Xl s Q' E st k => by
  obtain ⟨m, news, δ, F, N, lm, M⟩ := st.ex
  obtain ⟨⟨hl, o, kvs, h1, h2, h3, h4, h5⟩, _⟩ := M.D d es hd
  have hlen := h4.length
  refine kt_call_dict h5 (Heap.dictOf_iff.mpr ⟨o, (N _ h1).1, h3⟩) (by rw [hlen]; exact line1000 hl) fun h' hm hs => ?_
  obtain ⟨o', ho', hd'⟩ := Heap.dictOf_iff.mp hm
  have N1 := News.push F N { cls := .type "dict", data := .dict #[] }
  have hf := fresh_of_lt (a := s.heap.objs.size) (fun p hp => (Heap.lt_size (N p hp).1))
  have F' : Fr g fr.L h' m := (F.push _).change hs (N1 _ (.head _)).2.1 (N1.fresh (.head _))
  have N' := N1.setHead N.apart hs ho'
  have hbig : sysModules < g.objs.size := by
    obtain ⟨b, o, hb, ho⟩ := ok.big
    exact Nat.lt_trans hb (Heap.lt_size (st.gg.bel.stays _ _ ho))
  have hsm : (s.heap.objs.size == sysModules) = false := F.notModules hbig
  have M' := M.more (o := o') hf
  refine k _ h' s.toks σ (H.setD s.heap.objs.size es) ⟨m, _, δ, F', N', lm, ⟨M'.nd, M'.L, M'.T, M'.I, M'.inj, ?_, M'.B, M.newD_X hf⟩⟩ (.mk (.ref _) (h _ (M.free N hf)))
  intro b es' hb'
  by_cases e : b = s.heap.objs.size
  · subst e
    simp [AH.setD] at hb'; subst hb'
    refine ⟨⟨hl, o', kvs, by simp, ?_, hd', h4, hsm⟩, fun c hc q => ?_⟩
    · obtain ⟨es, ep, hx, _⟩ := hd'; exact hx.1
    · obtain ⟨x, hx⟩ := Option.ne_none_iff_exists'.mp hc
      obtain ⟨_, ⟨es, k', h2, _⟩, _⟩ := M.I c x.1 x.2 hx
      exact hf _ (q ▸ h2)
  · simp [AH.setD, upd_ne _ _ e] at hb'
    exact M'.D b es' hb'
theorem sort_head {s : Shared} {A : Around} {E : Value → Shared → Prop} {g : Heap} {L : Addr} {m : Str → Option Value} {D : Addr} {vs : List Value} {ns : List Int} {news : List (Addr × Obj)} {Q : Value → Shared → Prop}
    (F : Fr g L s.heap m) (N : News g L s.heap ((D, W.listOf vs.toArray 0) :: news)) (hD : ∀ p ∈ news, p.1 ≠ D) (hI : IntsAre vs ns) (h64 : vs.length < 64)
    (h : ∀ (out : List Value) (ns' : List Int) (c : Nat) h', Fr g L h' m → News g L h' ((D, W.listOf out.toArray c) :: news) → IntsAre out ns' → ns'.Perm ns → ns'.Pairwise (· ≤ ·) → Q .none { s with heap := h' }) :
    wpAny (model cx.prog cx.w) A (call (.builtin "list.sort") [.ref D]) Q E s := by
  have z := N _ (List.mem_cons_self)
  refine wpAny_call_entry PyProof.Rows.slot_list_sort ⟨_, z.1, rfl⟩ PyProof.Rows.entry_list_sort (list_sort_tree (n := 0) (vs := vs) (by simpa using z.1) hI h64 fun out ns' hI' hp hP => ⟨.none, rfl, ?_⟩) (PyProof.Rows.args_list_sort _)
  have F1 : Fr g L (s.heap.update D (Obj.mapSeq fun _ => (#[] : Array Value))) m := F.change (Heap.SameBut.update ..) z.2.1 z.2.2
  have N1 := ki_turn (pre := []) (fun _ => (#[] : Array Value)) (its' := #[]) N (by simp) hD rfl rfl
  have N2 := News.grown N1 fun _ _ e => Heap.get?_push_of_some (seqObj "tuple" vs.toArray 0) e
  have N3 := News.grown N2 fun _ _ e => Heap.get?_push_of_some (seqObj "list" #[] 0) e
  have N4 := ki_turn (pre := []) (fun _ => out) (its' := out) N3 (by simp) hD rfl rfl
  have F4 : Fr g L ((((s.heap.update D (Obj.mapSeq fun _ => (#[] : Array Value))).push (seqObj "tuple" vs.toArray 0)).push (seqObj "list" #[] 0)).update D (Obj.mapSeq fun _ => out)) m :=
    ((F1.push (seqObj "tuple" vs.toArray 0)).push (seqObj "list" #[] 0)).change (Heap.SameBut.update ..) z.2.1 z.2.2
  have N5 : News g L (sortedHeap s.heap D vs out) ((D, W.listOf out.toList.toArray (if (out.size == (#[] : Array Value).size) = true then if ((#[] : Array Value).size == vs.toArray.size) = true then 0 else 0 + 1
            else (if ((#[] : Array Value).size == vs.toArray.size) = true then 0 else 0 + 1) + 1)) :: news) := by
    rw [Array.toArray_toList]
    exact N4
  exact h out.toList ns' _ _ F4 N5 hI' hp hP
theorem intKind_is_inv {prog : Program} {w : World} {k : Int} {v : Value} (h : (PySem.intKind prog w).is k v = true) : ∃ t, v = .int k t := by
  cases v with
  | int i t =>
    refine ⟨t, ?_⟩
    have : (i == k) = true := h
    rw [beq_iff_eq] at this
    rw [this]
  | _ => exact absurd h Bool.false_ne_true
theorem T_sortedD {d : Addr} {es : List (Int × AV)} (hd : H.D d = some es) (hn : es.length < 64) (hh : fr.A.handled = none)
    (h : ∀ (a : Addr) (ms : List Int), H.free a → ms.Perm (es.map (·.1)) → ms.Pairwise (· ≤ ·) → Q (.ref a) (H.setL a (ms.map .int))) :
    SemT cx fr tn X (call (.builtin "sorted") [.ref d]) σ H (VR σ Q) := .leafW fun g Xl s Q' E st k => by
  obtain ⟨m, news, δ, F, N, lm, M⟩ := st.ex
  obtain ⟨⟨hl, o, kvs, h1, h2, h3, h4, h5⟩, _⟩ := M.D d es hd
  have hlen := h4.length
  obtain ⟨ep, hat⟩ := (Heap.dictOf_iff.mpr ⟨o, (N _ h1).1, h3⟩ : s.heap.DictOf (PySem.intKind cx.prog cx.w) d kvs).dictAt
  refine kdu_sorted (kdl_dict (knd := PySem.intKind cx.prog cx.w) (kvs := kvs) (ep := ep) h5) hh F N hat (by rw [hlen]; exact line1000 hl) fun D h' tk vs F' N' hlt hvl hP => ?_
  have hI : IntsAre vs (es.map (·.1)) := by
    clear N' hlt hat h3 hn h
    have : ∀ (j : Nat) (v : Value), vs[j]? = some v → ∃ t k', es[j]? = some k' ∧ v = .int k'.1 t := by
      intro j v hv
      obtain ⟨kk, x, e1, e2⟩ := hP j v hv
      obtain ⟨t, rfl⟩ := intKind_is_inv e2
      have : ∀ {kvs : List (Int × Value)} {es : List (Int × AV)} {j : Nat} {kk : Int} {x : Value}, KSim kvs es → kvs[j]? = some (kk, x) → ∃ a, es[j]? = some (kk, a) := by
        intro kvs
        induction kvs with
        | nil => intro es j kk x _ e; simp at e
        | cons p kvs ih =>
          intro es j kk x hk e
          cases es with
          | nil => exact hk.elim
          | cons q es =>
            obtain ⟨e0, _, hk'⟩ := hk
            cases j with
            | zero => simp at e; subst e; simp at e0; exact ⟨q.2, by simp [e0]⟩
            | succ j => simp at e; obtain ⟨a, ha⟩ := ih hk' e; exact ⟨a, by simpa using ha⟩
      obtain ⟨a, ha⟩ := this h4 e1
      exact ⟨t, (kk, a), ha, rfl⟩
    have hvl' : vs.length = es.length := hvl.trans hlen
    clear hP hvl hd h4 h5 hlen hl h1 h2 F'
    induction vs generalizing es with
    | nil =>
      cases es with
      | nil => exact .nil
      | cons _ _ => simp at hvl'
    | cons v vs ih =>
      cases es with
      | nil => simp at hvl'
      | cons e es =>
        obtain ⟨t, k', e1, e2⟩ := this 0 v rfl
        simp at e1; subst e1; subst e2
        exact .cons _ _ (ih (fun j v hv => by
          have := this (j + 1) v (by simpa using hv)
          simpa using this) (by simpa using hvl'))
  have hf := fresh_of_lt hlt
  refine sort_head (cx := cx) (F := F') N' (fun p hp e => Nat.lt_irrefl _ (e ▸ hlt p hp)) hI (by rw [hvl, hlen]; exact hn) fun out ns' c h'' F'' N'' hI'' hp hs => ?_
  have hml : (ns'.map AV.int).length ≤ 1000 := by
    have := hp.length_eq
    simp at this ⊢; lia
  exact k _ h'' _ σ _ ⟨m, _, δ, F'', N'', lm, M.newL hf (simL_of_ints hI'') hml⟩ (.mk (.ref D) (h D ns' (M.free N hf) hp hs))
end
theorem bm_slot_get : Slot "method_descriptor" "__get__" "method_descriptor.__get__" :=
  .of (owner := "method_descriptor") (n := "__get__") (by rw [typeLookup_type, builtinLookup_eq_fast]; kernel_rfl) (by decide +kernel) (by decide +kernel) (by decide +kernel)
    (by first | exact .inl (by decide +kernel) | exact .inr (by decide +kernel)) (by rw [isSubtype_type]; kernel_rfl)
theorem bm_entry_get : entryFor table "method_descriptor.__get__" = some Builtin.«method_descriptor.__get__» := entryFor_of_tree (by kernel_rfl)
theorem bm_args_get (a b c : Value) : argsOk "method_descriptor.__get__" ⟨[a, b, c], []⟩ := by unfold argsOk; kernel_rfl
theorem bm_type : typeOf (.builtin "list.append") = pure (.type "method_descriptor") := by show builtinType _ = _; rw [builtinType_eq_fast]; kernel_rfl
theorem bm_lookup : typeLookup (.type "list") "append" = pure (some (.builtin "list.append")) := by rw [typeLookup_type, builtinLookup_eq_fast]; kernel_rfl
theorem bm_told : Manifest.toldItsClass.contains "list.append" = false := by decide +kernel
theorem bm_sub : isSubtype (.type "list") (.type "list") = pure true := by rw [isSubtype_type]; kernel_rfl
theorem bm_get2 : typeLookup (.type "method_descriptor") "__get__" = pure (some (.builtin "method_descriptor.__get__")) := by rw [typeLookup_type, builtinLookup_eq_fast]; kernel_rfl
theorem bm_set2 : typeLookup (.type "method_descriptor") "__set__" = pure none := by rw [typeLookup_type, builtinLookup_eq_fast]; kernel_rfl
theorem bm_del2 : typeLookup (.type "method_descriptor") "__delete__" = pure none := by rw [typeLookup_type, builtinLookup_eq_fast]; kernel_rfl
section
variable {prog : Program} {w : World} {M : Model} {A : Around} {E : Value → Shared → Prop} {s : Shared}
theorem bm_run {l : Addr} {P : Fin → Shared → Prop} (hT : s.TypeIs (.ref l) "list") (h : P (.done (.ret (.ref s.heap.objs.size))) { s with heap := s.heap.push (bmObj "list.append" l) }) :
    wpAny M A (Builtin.«method_descriptor.__get__» ⟨[.builtin "list.append", .ref l, .type "list"], []⟩) P E s := by
  have f1 := bm_told
  have f2 := bm_sub
  unfold Builtin.«method_descriptor.__get__»
  refine wpAny_bind (wpAny_of_eq (a := (.builtin "list.append", some (.ref l), some (.type "list"))) (by first | rfl | kernel_rfl) ?_)
  dsimp only
  simp only [f1, Bool.false_eq_true, if_false]
  refine wpAny_bind (m := (kfb_private% "checkInstance") (.builtin "list.append") (.ref l)) ?_
  show wpAny _ _ ((kfb_private% "nameAndClass") (.builtin "list.append") >>= _) _ _ _
  refine wpAny_bind (wpAny_of_eq (a := (("append" : Str), Value.type "list")) (by first | rfl | kernel_rfl) ?_)
  dsimp only
  refine wpAny_bind (wpAny_isInstance hT f2 ?_)
  rw [if_neg (by decide)]
  refine wpAny_pure ?_
  show wpAny M A (newFields "builtin_function_or_method" [.builtin "list.append", .ref l] >>= ret) P E s
  exact wpAny_bind (wpAny_newObj_type (wpAny_pure h))
theorem bm_find {l : Addr} {xs : Array Value} {n : Nat} {hp : Heap} {g d tk os} {Q : Builtin.ObjectAttr.Found → Shared → Prop} (ho : hp.get? l = some (W.listOf xs n))
    (h : Q (.bind (.builtin "method_descriptor.__get__") (.builtin "list.append")) ⟨hp, g, d, tk, os⟩) :
    wpAny M A (Builtin.ObjectAttr.find (.ref l) (.type "list") "append") Q E ⟨hp, g, d, tk, os⟩ := by
  have f5 := bm_lookup
  have f6 := bm_type
  have f7 := bm_get2
  have f8 := bm_set2
  have f9 := bm_del2
  have hT : (⟨hp, g, d, tk, os⟩ : Shared).TypeIs (.ref l) "list" := ⟨_, ho, rfl⟩
  have hf : (["__module__", "__name__", "__qualname__", "__doc__", "__annotations__"] : List Str).contains "append" = false := by decide +kernel
  unfold Builtin.ObjectAttr.find
  refine wpAny_bind (wpAny_of_eq f5 ?_)
  refine wpAny_bind (m := Builtin.ObjectAttr.getOf _) ?_
  unfold Builtin.ObjectAttr.getOf
  refine wpAny_specialOf_val f6 f7 ?_
  refine wpAny_bind (m := Builtin.ObjectAttr.dataDescriptor? _ _) ?_
  unfold Builtin.ObjectAttr.dataDescriptor? Builtin.ObjectAttr.takesStores
  dsimp only
  refine wpAny_bind (wpAny_bind (wpAny_specialOf_val f6 f8 ?_))
  rw [if_neg (by simp)]
  refine wpAny_bind (wpAny_specialOf_val f6 f9 (wpAny_pure ?_))
  rw [if_neg (by simp)]
  refine wpAny_pure ?_
  dsimp only
  unfold Builtin.ObjectAttr.ownThenClass Builtin.ObjectAttr.inOwnDict
  refine wpAny_bind (m := Builtin.ObjectAttr.ownDict l >>= fun d => Builtin.ObjectAttr.inDict _ d) ?_
  unfold Builtin.ObjectAttr.ownDict
  repeat (first | exact h | wp_step)
theorem bm_getAttr {l : Addr} {xs : Array Value} {n : Nat} {e : Bool} {Q : Value → Shared → Prop} (ho : s.heap.get? l = some (W.listOf xs n))
    (h : Q (.ref s.heap.objs.size) { s with heap := s.heap.push (bmObj "list.append" l), toks := s.toks + 1 }) :
    wpAny (model prog w) A (getAttr (.ref l) "append" e) Q E s := by
  obtain ⟨hp, g, d, tk, os⟩ := s
  dsimp only at ho
  have hT : ∀ tk', (⟨hp, g, d, tk', os⟩ : Shared).TypeIs (.ref l) "list" := fun _ => ⟨_, ho, rfl⟩
  have f3 := F.slot_list_getattribute.lookup
  have f4 := F.slot_list_getattribute.bind (.ref l)
  unfold getAttr getAttrBy
  repeat (any_goals (first | assumption | exact hT _ | ((with_reducible show wpAny _ _ (call (Value.builtin "list.__getattribute__") _ _) _ _ _); refine wpAny_call_entry F.slot_list_getattribute (hT _) am_entry_list_getattribute ?_ (F.args_list_getattribute_2 _ _)) | wp_step))
  rw [if_neg (by simp [onTheHeap])]
  unfold boundAndCalled
  have f5 := bm_lookup
  have f6 := bm_type
  have f7 := bm_get2
  have f8 := bm_set2
  have f9 := bm_del2
  have hf : (["__module__", "__name__", "__qualname__", "__doc__", "__annotations__"] : List Str).contains "append" = false := by decide +kernel
  rw [f4]
  refine wpAny_bind (wpAny_pure ?_)
  dsimp only [List.cons_append, List.nil_append]
  refine wpAny_call_entry F.slot_list_getattribute (hT _) am_entry_list_getattribute ?_ (F.args_list_getattribute_2 _ _)
  unfold Builtin.«object.__getattribute__»
  iterate 8 (first | assumption | exact hT _ | wp_step)
  refine wpAny_bind (wpAny_typeOf (hT _) ?_)
  dsimp only
  refine wpAny_bind (bm_find ho ?_)
  dsimp only
  unfold Builtin.ObjectAttr.bindTo
  dsimp only
  refine wpAny_bind (wpAny_holding (wpAny_call_entry bm_slot_get bm_type bm_entry_get (bm_run (hT _) ⟨_, rfl, wpAny_pure ⟨_, rfl, wpAny_pure h⟩⟩) (bm_args_get _ _ _)))
theorem bm_subm : isSubtype (.type "list") (.type "module") = pure false := by rw [isSubtype_type]; kernel_rfl
theorem bm_subt : isSubtype (.type "list") (.type "type") = pure false := by rw [isSubtype_type]; kernel_rfl
theorem bm_kind : builtinKind "list.append" = some .method := by decide +kernel
theorem bm_sig : Manifest.signature? "list.append" = some ⟨.oneArg, "list.append", "append", .self, [⟨"object", .posOnly, true⟩]⟩ := by first | decide +kernel | kernel_rfl
theorem bm_var : Manifest.varargsMethods.contains "list.append" = false := by decide +kernel
theorem bm_call {q l : Addr} {v : Value} {xs : Array Value} {n : Nat} {R : Result → Shared → Prop} (hq : s.heap.get? q = some (bmObj "list.append" l)) (ho : s.heap.get? l = some (W.listOf xs n)) (hsz : xs.size ≤ sizeLine)
    (h : ∀ h', Heap.SameBut l s.heap h' → h'.get? l = some (W.listOf (xs.push v) (n + 1)) → R (.ok (.ret .none)) { s with heap := h' }) :
    codeAny (model prog w) A (.call (.ref q) ⟨[v], []⟩) R s := by
  have hT : s.TypeIs (.ref l) "list" := ⟨_, ho, rfl⟩
  have f1 := bm_subm
  have f2 := bm_subt
  obtain ⟨hh, g, dr, t, os⟩ := s
  dsimp only at ho hq
  refine codeAny_of_tree ?_
  show wpAny _ _ (callAny (.ref q) _) _ _ _
  refine nd_load hq ?_
  show wpAny _ _ (checkBoundCall "list.append" ⟨[.ref l, v], []⟩ >>= fun _ => again (.builtin "list.append" ⟨[.ref l, v], []⟩)) _ _ _
  refine wpAny_bind ?_
  unfold checkBoundCall
  rw [bm_kind, bm_sig]
  dsimp only
  rw [if_neg (by decide)]
  refine wpAny_bind (wpAny_isInstance hT f1 ?_)
  rw [if_neg (by rw [bm_var]; decide)]
  refine wpAny_bind (m := isType (.ref l)) ?_
  unfold isType
  dsimp only
  refine wpAny_bind (wpAny_loadPart_at ho ?_)
  refine wpAny_pure ?_
  rw [if_neg (by simp)]
  refine wpAny_bind (wpAny_typeOf hT ?_)
  dsimp only
  refine wpAny_of_eq (a := ()) (by first | rfl | kernel_rfl) ?_
  refine wpAny_pure ⟨Code.quiet_builtin _ (by decide +kernel), codeAny_builtin entry_list_append ?_⟩
  show wpAny _ _ (updateSeq l (·.push v) >>= fun _ => ret .none) _ _ _
  refine wpAny_bind ?_
  refine wpAny_updateSeq ho rfl (wpAny_pure (h _ (Heap.SameBut.update ..) ?_))
  rw [Heap.get?_update_self _ ho (by rw [mapSeq_push]; rfl), mapSeq_push]
end
section
variable {cx : Cx} {fr : Frm} {tn : Bool} {X : XP} {σ : Loc} {H : AH} {Q : AV → AH → Prop}
theorem T_bmGet {l : Addr} {xs : List AV} {e : Bool} (hl : H.L l = some xs) (h : ∀ q, H.free q → Q (.ref q) (H.setB q l)) : SemT cx fr tn X (getAttr (.ref l) "append" e) σ H (VR σ Q) := .leafW fun g Xl s Q' E st k => by
  obtain ⟨m, news, δ, F, N, lm, M⟩ := st.ex
  obtain ⟨hb, vs, n, h2, h3⟩ := M.L l xs hl
  have hf := fresh_of_lt (a := s.heap.objs.size) (fun p hp => (Heap.lt_size (N p hp).1))
  exact bm_getAttr (N _ h2).1 (k _ _ _ σ _ ⟨m, _, δ, F.push _, N.push F _, lm, M.newB hf⟩ (.mk (.ref _) (h _ (M.free N hf))))
theorem bm_callOK {q l : Addr} {xs : List AV} {a : AV} {hh : Nat} {Xc : Value → AH → Prop} (hq : H.B q = some l) (hl : H.L l = some xs) (hn : xs.length < 1000) (h : Q .none (H.setL l (xs ++ [a]))) :
    CallOK cx hh tn (.ref q) [a] H Q Xc := fun fr A g Xl σ s vs ha hv hs => by
  obtain ⟨m, news, δ, F, N, lm, M⟩ := hs.ex
  obtain ⟨hb, ws, n, h2, h3⟩ := M.L l xs hl
  have h4 := M.B q l hq
  match vs, hv with
  | [v], hv =>
    refine bm_call (N _ h4).1 (N _ h2).1 (by rw [List.size_toArray, h3.length]; exact line1000 hb) fun h' hsm ho' => ?_
    obtain ⟨pre, post, rfl, hp1, hp2⟩ := mem_split M.nd h2
    have e : ws.toArray.push v = (ws ++ [v]).toArray := by simp
    rw [e] at ho'
    have z := N _ h2
    exact .ret _ _ ⟨g, σ, _, .refl, ⟨hs.gg, ⟨m, _, δ, F.change hsm z.2.1 z.2.2, news_set N hp1 hp2 hsm ho', lm, M.updL N hl (h3.append (show SimL [v] [a] from ⟨hv.1, trivial⟩)) (by simp; lia)⟩, hs.gens, hs.os⟩, rfl, _, .none, h⟩
  | [], hv => exact hv.elim
  | _ :: _ :: _, hv => exact hv.2.elim
theorem len_cons {α : Type} {l : List α} {n : Nat} (h : l.length = n + 1) : ∃ a r, l = a :: r ∧ r.length = n := by
  cases l with
  | nil => cases h
  | cons a r => exact ⟨a, r, rfl, Nat.succ.inj h⟩
noncomputable def isStrV (v : Value) : Bool := by
  cases v with
  | str _ _ => exact true
  | _ => exact false
theorem isStrV_ {v : Value} (h : isStrV v = true) : ∃ n t, v = .str n t := by
  cases v with
  | str n t => exact ⟨n, t, rfl⟩
  | _ => cases h
inductive EqIn (K : Frag) (C : Addr) : Prop
  | mk (nm q : Str) (N : Addr) (bs : List Value) (hdct : Bool) (sn : List Str) (sub : List Value) (ab : Bool) (col : Option Bool) (dd : Option Addr) (k0 k1 k2 k3 k5 : Option Value) (newId : String) (oc : Value) (od : Option Addr) (es : Array DictEntry) (ep : Nat) (osl : Array (Option Value))
    (hK : K.lookup C = some (excClassObj nm q C N bs [.type "object"] hdct sn sub ab col dd k0 k1 k2 k3 k5 newId)) (hN : K.lookup N = some ⟨oc, od, .dict es ep, osl⟩) (hs : es.toList.all (fun e => isStrV e.key) = true) (he : nsFind es "__eq__" = none) (hn : nsFind es "__ne__" = none)
theorem eq_cls {K : Frag} {h : Heap} {C x : Addr} {o : Obj} (X : K.In h) (q : EqIn K C) (hx : h.get? x = some o) (hc : o.cls = .ref C) : h.CmpInst x C [.type "object"] := by
  cases q with
  | mk nm q N bs hdct sn sub ab col dd k0 k1 k2 k3 k5 newId oc od es ep osl hK hN hs he hn =>
    exact ⟨o, nm, q, N, bs, hdct, sn, sub, ab, col, dd, k0, k1, k2, k3, k5, newId, nsFind es, hx, hc, X _ _ hK, ⟨_, es, ep, X _ _ hN, rfl, fun e h => isStrV_ (List.all_eq_true.mp hs e (Array.mem_toList_iff.mpr h)), fun _ => rfl⟩, he, hn⟩
theorem T_eqSame {a C : Addr} {fs : List (String × AV)} (hi : H.I a = some (C, fs)) (hc : EqIn cx.K C) (hu : fr.A.units < cLine) (h : Q (.bool true) H) : SemT cx fr tn X (compareOp .Eq (.ref a) (.ref a)) σ H (VR σ Q) := .leaf fun g Xl s Q' E st k => by
  obtain ⟨m, news, δ, F, N, lm, M⟩ := st.ex
  obtain ⟨h1, _⟩ := M.I a C fs hi
  obtain ⟨hp, gg, d, tk, os⟩ := s
  have X := st.gg.kin.keeps F.keep
  exact compareOp_eq_same PySem.F.cmp_object (eq_cls X hc (N _ h1).1 rfl) hu (k _ tk (.mk (.bool _) h))
noncomputable def spIn (K : Frag) (C : Addr) (name : Str) : Option Addr := (findIn K (.ref C) name).bind fun o => o.bind fun v => (refOf v).bind fun f => if isFn K (.ref f) then some f else none
theorem spIn_spec {K : Frag} {C f : Addr} {name : Str} (h : spIn K C name = some f) : findIn K (.ref C) name = some (some (.ref f)) ∧ isFn K (.ref f) = true := by
  obtain ⟨g, e2, h⟩ := bind2 h
  by_cases q : isFn K (.ref g) = true
  · rw [if_pos q] at h; cases h; exact ⟨e2, q⟩
  · rw [if_neg q] at h; cases h
theorem ACall.in1 {fr : Frm} {h : Nat} {A : Around} (a : ACall fr h A) (hu : A.units + 30 * h ≤ 9009) : ACall fr h A.in1 :=
  ⟨a.frames, a.handled, a.depth, by show A.units + 1 + 30 * h ≤ 9010; lia, a.kind⟩
theorem Frm.Ok.acall1 {fr : Frm} {h : Nat} (o : fr.Ok h) : ACall fr h fr.A.in1 := o.acall.in1 (by have := o.units; lia)
theorem T_lenObj {a C f : Addr} {fs : List (String × AV)} {hh : Nat} {Xc : Value → AH → Prop} (o : fr.Ok hh) (hi : H.I a = some (C, fs)) (hs : spIn cx.K C "__len__" = some f)
    (hc : CallOK cx hh tn (.ref f) [.ref a] H (fun v H' => ∃ n : Int, v = .int n ∧ 0 ≤ n ∧ n < 2 ^ 63 ∧ Q (.int n) H') Xc) (hX : ∀ c H, Xc c H → X.fly c σ H) :
    SemT cx fr tn X (call (.builtin "len") [.ref a]) σ H (VR σ Q) := fun g Xl s st => by
  obtain ⟨m, news, δ, F, N, lm, M⟩ := st.ex
  obtain ⟨h1, ⟨es, n, h2, h3⟩, h4, h5⟩ := M.I a C fs hi
  obtain ⟨q1, q2⟩ := spIn_spec hs
  refine len_K F st.gg.kin (InstAt.of_news N h1 h2) q1 q2 (wpAny_call (codeAny_mono (hc fr fr.A.in1 g Xl σ s [.ref a] o.acall1 ⟨.ref a, trivial⟩ st) fun r s' p => ?_))
  cases p with
  | err e s' p => exact p.to st.gg hX
  | ret v s' p =>
  obtain ⟨g', σ', H', t, st', e, av, hv, n, rfl, n0, n1, hq⟩ := p
  obtain ⟨_, rfl⟩ := hv.toI
  exact ⟨⟨n0, n1⟩, g', σ', H', t, ⟨st'.gg, st'.ex, st'.gens, st'.os⟩, e, _, .int _ _, hq⟩
theorem T_inObj {a C f : Addr} {fs : List (String × AV)} {hh : Nat} {v : Value} {av : AV} {Xc : Value → AH → Prop} (o : fr.Ok hh) (hi : H.I a = some (C, fs)) (hs : spIn cx.K C "__contains__" = some f) (hv : Sim v av)
    (hc : CallOK cx hh tn (.ref f) [.ref a, av] H (fun v H' => ∃ b : Bool, v = .bool b ∧ Q (.bool b) H') Xc) (hX : ∀ c H, Xc c H → X.fly c σ H) :
    SemT cx fr tn X (compareOp .In v (.ref a)) σ H (VR σ Q) := fun g Xl s st => by
  obtain ⟨m, news, δ, F, N, lm, M⟩ := st.ex
  obtain ⟨h1, ⟨es, n, h2, h3⟩, h4, h5⟩ := M.I a C fs hi
  obtain ⟨q1, q2⟩ := spIn_spec hs
  refine in_K F st.gg.kin (InstAt.of_news N h1 h2) q1 q2 (wpAny_call (codeAny_mono (hc fr fr.A g Xl σ s [.ref a, v] o.acall ⟨.ref a, hv, trivial⟩ st) fun r s' p => ?_))
  cases p with
  | err e s' p => exact p.to st.gg hX
  | ret v s' p =>
  obtain ⟨g', σ', H', t, st', e, av, hv, b, rfl, hq⟩ := p
  obtain rfl := hv.toB
  exact wpAny_truthy_bool ⟨g', σ', H', t, st', e, _, .bool _, hq⟩
end
noncomputable def CallKOK (cx : Cx) (h : Nat) (tn : Bool) (f : Value) (args : List AV) (ks : List String) (kargs : List AV) (H : AH) (Q : AV → AH → Prop) (X : Value → AH → Prop) : Prop :=
  ∀ (fr : Frm) (A : Around) (g : Heap) (Xl : List (Addr × Obj)) (σ : Loc) (s : Shared) (vs kvs : List Value), ACall fr h A → SimL vs args → SimL kvs kargs → St cx fr g Xl σ H s →
    codeAny (model cx.prog cx.w) A (.call f ⟨vs, (ks.map Str.ofString).zip kvs⟩) (CallPost cx fr tn g Xl σ Q X) s
section
variable {cx : Cx} {tn : Bool} {H : AH} {Q : AV → AH → Prop} {X : Value → AH → Prop}
theorem ACall.made {fr : Frm} {h : Nat} {A : Around} {C : Addr} {ps : List Value} {kw : List (Str × Value)} (a : ACall fr (h + 1) A) : ACall fr h (A.under (.builtin "type.__call__" ⟨.ref C :: ps, kw⟩)) := by
  have e1 : (Code.builtin "type.__call__" ⟨.ref C :: ps, kw⟩).weight = 1 := by kernel_rfl
  have e2 : (Code.builtin "type.__call__" ⟨.ref C :: ps, kw⟩).cUnits = 1 := by kernel_rfl
  have e3 : (Code.builtin "type.__call__" ⟨.ref C :: ps, kw⟩).envs = [] := by kernel_rfl
  refine ⟨?_, a.handled, ?_, ?_, a.kind⟩
  · simp only [Around.under, e3, pushEnvs]
    exact a.frames
  · show A.depth + (Code.builtin "type.__call__" ⟨.ref C :: ps, kw⟩).weight + 3 * h ≤ 901
    rw [e1]; have := a.depth; lia
  · show A.units + (Code.builtin "type.__call__" ⟨.ref C :: ps, kw⟩).cUnits + 30 * h ≤ 9010
    rw [e2]; have := a.units; lia
theorem CallPost.init {fr : Frm} {g : Heap} {Xl : List (Addr × Obj)} {σ : Loc} {x : Addr} {r : Result} {s' : Shared} (p : CallPost cx fr tn g Xl σ (fun v H' => v = .none ∧ Q (.ref x) H') X r s') :
    InitBack x (CallPost cx fr tn g Xl σ Q X) r s' := by
  cases p with
  | ret v s' p =>
    obtain ⟨g', σ', H', t, st, e, av, hv, rfl, hq⟩ := p
    obtain rfl := hv.toN
    exact ⟨rfl, .ret _ _ ⟨g', σ', H', t, st, e, _, .ref x, hq⟩⟩
  | err e s' p => exact .err _ _ p
theorem CallOK.of_class {h : Nat} {C f : Addr} {args : List AV} (hm : makesIn cx.K C = true) (hi : spIn cx.K C "__init__" = some f)
    (hc : ∀ x, H.free x → CallOK cx h tn (.ref f) (.ref x :: args) (H.setI x C []) (fun v H' => v = .none ∧ Q (.ref x) H') X) : CallOK cx (h + 1) tn (.ref C) args H Q X := fun fr A g Xl σ s vs ha hv hs => by
  obtain ⟨m, news, δ, F, N, lm, M⟩ := hs.ex
  obtain ⟨q1, q2⟩ := spIn_spec hi
  refine make_K F N (hs.gg.kin.keeps F.keep) hm q1 (beq_iff_eq.mp q2) fun x dx h' F' N' hlt hlt2 => ?_
  have hf := fresh_of_lt (a := x) (fun p hp => Nat.lt_trans (hlt p hp) hlt2)
  have st' : St cx fr g Xl σ (H.setI x C []) { s with heap := h' } := ⟨hs.gg, ⟨m, _, _, F', N', lm, M.newI hlt hlt2 N'⟩, hs.gens, hs.os⟩
  exact codeAny_mono (hc x (M.free N hf) fr _ g Xl σ _ (.ref x :: vs) ha.made ⟨.ref x, hv⟩ st') fun r s' p => p.init
theorem CallKOK.of_class {h : Nat} {C f : Addr} {args kargs : List AV} {ks : List String} (hm : makesIn cx.K C = true) (hi : spIn cx.K C "__init__" = some f)
    (hc : ∀ x, H.free x → CallKOK cx h tn (.ref f) (.ref x :: args) ks kargs (H.setI x C []) (fun v H' => v = .none ∧ Q (.ref x) H') X) : CallKOK cx (h + 1) tn (.ref C) args ks kargs H Q X := fun fr A g Xl σ s vs kvs ha hv hkv hs => by
  obtain ⟨m, news, δ, F, N, lm, M⟩ := hs.ex
  obtain ⟨q1, q2⟩ := spIn_spec hi
  refine make_K F N (hs.gg.kin.keeps F.keep) hm q1 (beq_iff_eq.mp q2) fun x dx h' F' N' hlt hlt2 => ?_
  have hf := fresh_of_lt (a := x) (fun p hp => Nat.lt_trans (hlt p hp) hlt2)
  have st' : St cx fr g Xl σ (H.setI x C []) { s with heap := h' } := ⟨hs.gg, ⟨m, _, _, F', N', lm, M.newI hlt hlt2 N'⟩, hs.gens, hs.os⟩
  exact codeAny_mono (hc x (M.free N hf) fr _ g Xl σ _ (.ref x :: vs) kvs ha.made ⟨.ref x, hv⟩ hkv st') fun r s' p => p.init
theorem CallOK.of_class0 {h : Nat} {C : Addr} (hm : makesIn cx.K C = true) (hi : findIn cx.K (.ref C) "__init__" = some (some (.builtin "object.__init__")))
    (hc : ∀ x, H.free x → Q (.ref x) (H.setI x C [])) : CallOK cx h tn (.ref C) [] H Q X := fun fr A g Xl σ s vs ha hv hs => by
  obtain ⟨m, news, δ, F, N, lm, M⟩ := hs.ex
  have e : vs = [] := SimL.nil_iff hv
  subst e
  refine make_K0 F N (hs.gg.kin.keeps F.keep) hm hi fun x dx h' F' N' hlt hlt2 => ?_
  have hf := fresh_of_lt (a := x) (fun p hp => Nat.lt_trans (hlt p hp) hlt2)
  exact .ret _ _ ⟨g, σ, _, .refl, ⟨hs.gg, ⟨m, _, _, F', N', lm, M.newI hlt hlt2 N'⟩, hs.gens, hs.os⟩, rfl, _, .ref x, hc x (M.free N hf)⟩
theorem CallOK.ofK {h : Nat} {f : Value} {args : List AV} (c : CallKOK cx h tn f args [] [] H Q X) : CallOK cx h tn f args H Q X := fun fr A g Xl σ s vs ha hv hs => c fr A g Xl σ s vs [] ha hv trivial hs
end
section
variable {cx : Cx} {fr : Frm} {tn : Bool} {X : XP} {σ : Loc} {H : AH} {Q : AV → AH → Prop}
theorem remove_ints (k : Int) {vs : List Value} {ns : List Int} (h : IntsAre vs ns) : k ∈ ns → ∃ j q, kf_at k vs = some j ∧ ki_delL vs j = some q ∧ IntsAre q (ns.erase k) := by
  induction h with
  | nil => exact fun h => by simp at h
  | cons i t h ih =>
    intro hk
    by_cases e : i = k
    · subst e
      exact ⟨0, _, by simp [kf_at, isInt], rfl, by simpa using h⟩
    · have hk' : k ∈ _ := (List.mem_cons.mp hk).resolve_left (fun q => e q.symm)
      obtain ⟨j, q, h1, h2, h3⟩ := ih hk'
      refine ⟨j + 1, .int i t :: q, ?_, ?_, ?_⟩
      · have eb : (i == k) = false := by simpa using e
        simp [kf_at, isInt, eb, h1]
      · simp [ki_delL, h2]
      · rw [List.erase_cons_tail (by simpa using e)]; exact .cons _ _ h3
theorem T_remove {l : Addr} {xs : List AV} {ns : List Int} {vk : Value} {k : Int} (hl : H.L l = some xs) (hi : intsOf xs = some ns) (hk : Sim vk (.int k)) (hm : k ∈ ns) (h : Q .none (H.setL l ((ns.erase k).map .int))) :
    SemT cx fr tn X (call (.builtin "list.remove") [.ref l, vk]) σ H (VR σ Q) := .leafW fun g Xl s Q' E st kk => by
  obtain ⟨m, news, δ, F, N, lm, M⟩ := st.ex
  obtain ⟨hb, vs, n, h2, h3⟩ := M.L l xs hl
  obtain ⟨pre, post, rfl, hp1, hp2⟩ := mem_split M.nd h2
  obtain ⟨_, rfl⟩ := hk.toI
  have hI := h3.ints hi
  obtain ⟨j, q, e1, e2, e3⟩ := remove_ints k hI hm
  refine kf_remove F N (kf_ints_of hI) e1 e2 (upd_of_split hp1 hp2) (by simp only; rw [h3.length]; exact line1000 hb) fun h' F' N' => ?_
  have hl' : ((ns.erase k).map AV.int).length ≤ 1000 := by
    have := List.length_erase_le (a := k) (l := ns)
    have := intsOf_length hi
    simp; lia
  exact kk _ h' _ σ _ ⟨m, _, δ, F', N', lm, M.updL N hl (simL_of_ints e3) hl'⟩ (.mk .none h)
noncomputable def notStar (e : Expr) : Bool := e.ctorIdx != 22
theorem starEach_of {e : Expr} {rest : List Expr} {env : Env} (h : notStar e = true) : starEach (e :: rest) env = (false, eval e env) :: starEach rest env := by
  cases e <;> first | rfl | cases h
theorem star_none {es : List Expr} {pos : Pos} {env : Env} (h : es.all notStar = true) : (backTo pos (starEach es env)).any (·.1) = false := by
  induction es with
  | nil => rfl
  | cons e es ih =>
    rw [List.all_cons, Bool.and_eq_true] at h
    rw [starEach_of h.1]
    show (false || (backTo pos (starEach es env)).any (·.1)) = false
    rw [ih h.2]; rfl
noncomputable def VRs (σ : Loc) (Q : List AV → AH → Prop) (vs : List Value) (σ' : Loc) (H' : AH) : Prop := σ' = σ ∧ ∃ avs, SimL vs avs ∧ Q avs H'
theorem T_callWith {P : Heap → Prop} {f : Value} {first : List Value} {es : List Expr} {pos : Pos} {R : Value → Loc → AH → Prop} (hes : es.all notStar = true)
    (hk : ∀ h, P h → ∃ k, (k = Keeper.frame ∨ k = Keeper.machine ∨ k = Keeper.boundFrame) ∧ Looks (model cx.prog cx.w) h (keeperOf f) k)
    (h : SemT cx fr tn X (spliced (backTo pos (starEach es fr.env))) σ H fun vs σ₁ H₁ => (∀ g Xl s, St cx fr g Xl σ₁ H₁ s → P s.heap) ∧ SemT cx fr tn X (call f (first ++ vs)) σ₁ H₁ R) :
    SemT cx fr tn X (callWith pos f first (backTo pos (starEach es fr.env)) []) σ H R := fun g Xl s hs => by
  have key : wpAny (model cx.prog cx.w) fr.A (spliced (backTo pos (starEach es fr.env))) (fun vs s₁ => P s₁.heap ∧ wpAny (model cx.prog cx.w) fr.A (call f (first ++ vs)) (Post cx fr tn g Xl R) (Err cx fr tn g Xl X) s₁) (Err cx fr tn g Xl X) s :=
    wpAny_mono (h g Xl s hs) (fun vs s₁ ⟨g₁, σ₁, H₁, tr, st, hp, r⟩ => ⟨hp g₁ Xl s₁ st, wpAny_mono (r g₁ Xl s₁ st) (fun _ _ q => q.trans tr) fun _ _ e => e.trans tr⟩) fun _ _ e => e
  refine callWith_of (P := P) (by rw [star_none hes]; rfl) hk ?_
  cases es with
  | nil =>
    unfold evalArgs
    show wpAny _ _ (spliced [] >>= _) _ _ s
    refine wpAny_bind (wpAny_mono key (fun vs s' h' => ?_) fun _ _ x => x)
    refine wpAny_holding ?_
    exact wpAny_bind (wpAny_pure (wpAny_bind (wpAny_pure (wpAny_pure h'))))
  | cons e es =>
    rw [List.all_cons, Bool.and_eq_true] at hes
    rw [starEach_of hes.1] at key ⊢
    exact evalArgs_plain key
theorem T_splicedNil {pos : Pos} {R : List Value → Loc → AH → Prop} (h : R [] σ H) : SemT cx fr tn X (spliced (backTo pos (starEach [] fr.env))) σ H R := fun g Xl s hs => args_nil ⟨g, σ, H, .refl, hs, h⟩
theorem T_splicedCons {pos : Pos} {e : Expr} {es : List Expr} {R : List Value → Loc → AH → Prop} (hes : notStar e = true)
    (h : SemT cx fr tn X (eval e fr.env) σ H fun v σ₁ H₁ => SemT cx fr tn X (spliced (backTo pos (starEach es fr.env))) σ₁ H₁ fun vs σ₂ H₂ => R (v :: vs) σ₂ H₂) : SemT cx fr tn X (spliced (backTo pos (starEach (e :: es) fr.env))) σ H R := fun g Xl s hs =>
  args_cons (wpAny_mono (h g Xl s hs) (fun v s₁ ⟨g₁, σ₁, H₁, tr, st, r⟩ => wpAny_mono (r g₁ Xl s₁ st) (fun vs s₂ ⟨g₂, σ₂, H₂, tr₂, st₂, r₂⟩ => ⟨g₂, σ₂, H₂, tr.trans tr₂, st₂, r₂⟩) fun _ _ e => e.trans tr) fun _ _ e => e) (starEach_of hes)
theorem keeps_true {M : Model} {f : Value} (hf : (match f with | .ref _ => false | _ => true) = true) (h : Heap) (_ : True) : ∃ k, (k = Keeper.frame ∨ k = Keeper.machine ∨ k = Keeper.boundFrame) ∧ Looks M h (keeperOf f) k := by
  cases f <;> first | exact ⟨.machine, .inr (.inl rfl), Looks.of_pure rfl⟩ | cases hf
noncomputable def BmP (q l : Addr) (h : Heap) : Prop := h.get? q = some (bmObj "list.append" l)
theorem keeps_bm {M : Model} {q l : Addr} (h : Heap) (X : BmP q l h) : ∃ k, (k = Keeper.frame ∨ k = Keeper.machine ∨ k = Keeper.boundFrame) ∧ Looks M h (keeperOf (.ref q)) k :=
  ⟨.machine, .inr (.inl rfl), (Looks.ld (part := none) X).andThen .now⟩
end
inductive CK | eq | ne | lt | le | gt | ge | is | isNot | inn | notIn
  deriving DecidableEq
noncomputable def CK.op : CK → CmpOp
  | .eq => .Eq | .ne => .NotEq | .lt => .Lt | .le => .LtE | .gt => .Gt | .ge => .GtE | .is => .Is | .isNot => .IsNot | .inn => .In | .notIn => .NotIn
inductive BC | len | list | dict | sorted | min | max
  deriving DecidableEq
noncomputable def BC.name : BC → Str
  | .len => "len" | .list => "list" | .dict => "dict" | .sorted => "sorted" | .min => "min" | .max => "max"
noncomputable def BC.val : BC → Value
  | .len => .builtin "len" | .list => .type "list" | .dict => .type "dict" | .sorted => .builtin "sorted" | .min => .builtin "min" | .max => .builtin "max"
mutual
inductive PE where
  | loc (x : String) | glob (x : String) | none | bool (b : Bool) | int (i : Int)
  | neg (p : PE) | not (p : PE)
  | bin (op : BOp) (p q : PE)
  | cmp (k : CK) (p q : PE)
  | and (ps : PEs) | or (ps : PEs)
  | attr (p : PE) (x : String)
  | item (p q : PE)
  | sliceFrom (p q : PE) | sliceTo (p q : PE)
  | tup (ps : PEs) | lst (ps : PEs) | dic
  | bcall (f : BC) (ps : PEs)
  | call (x : String) (ps : PEs)
  | callV (x : String) (ps : PEs)
  | meth (p : PE) (m : String) (ps : PEs)
  | methStar (p : PE) (m : String) (q : PE)
  | callK (x : String) (ks : List String) (ps : PEs)
  | keys (x : String)
inductive PEs where
  | nil | cons (p : PE) (ps : PEs)
end
noncomputable def kids (e : Expr) : List Expr := by
  cases e with
  | BoolOp _ vs _ => exact vs
  | BinOp l _ r _ => exact [l, r]
  | UnaryOp _ v _ => exact [v]
  | Compare l _ rs _ => exact l :: rs
  | Call f as kws _ => exact f :: as ++ kws.map (·.value)
  | Attribute v _ _ => exact [v]
  | Subscript v s _ => exact [v, s]
  | Starred v _ => exact [v]
  | List es _ => exact es
  | Tuple es _ _ => exact es
  | Slice a b _ _ => exact a.toList ++ b.toList
  | ListComp v gs _ _ => exact v :: gs.flatMap fun g => [g.target, g.iter]
  | _ => exact []
noncomputable def zE : Expr := .Dict [] [] default
noncomputable def kid (e : Expr) (i : Nat) : Expr := (kids e).getD i zE
noncomputable def kOf (e : Expr) : Nat := by
  cases e with
  | Constant _ k _ => exact k
  | Tuple _ k _ => exact k
  | _ => exact 0
noncomputable def kwOf (e : Expr) : List Keyword := by
  cases e with
  | Call _ _ kws _ => exact kws
  | _ => exact []
noncomputable def scOf (e : Expr) : Scope := by
  cases e with
  | ListComp _ _ sc _ => exact sc
  | _ => exact default
noncomputable def kw1 (l : List Keyword) : Keyword := l.headD ⟨none, zE, default⟩
mutual
noncomputable def toE : PE → Expr → Expr
  | .loc x, e => .Name (Str.ofString x) e.pos
  | .glob x, e => .Name (Str.ofString x) e.pos
  | .none, e => .Constant .none (kOf e) e.pos
  | .bool b, e => .Constant (.bool b) (kOf e) e.pos
  | .int i, e => .Constant (.int i) (kOf e) e.pos
  | .neg p, e => .UnaryOp .USub (toE p (kid e 0)) e.pos
  | .not p, e => .UnaryOp .Not (toE p (kid e 0)) e.pos
  | .bin op p q, e => .BinOp (toE p (kid e 0)) op.op (toE q (kid e 1)) e.pos
  | .cmp k p q, e => .Compare (toE p (kid e 0)) [k.op] [toE q (kid e 1)] e.pos
  | .and ps, e => .BoolOp .And (toEs ps (kids e)) e.pos
  | .or ps, e => .BoolOp .Or (toEs ps (kids e)) e.pos
  | .attr p x, e => .Attribute (toE p (kid e 0)) (Str.ofString x) e.pos
  | .item p q, e => .Subscript (toE p (kid e 0)) (toE q (kid e 1)) e.pos
  | .sliceFrom p q, e => .Subscript (toE p (kid e 0)) (.Slice (some (toE q (kid (kid e 1) 0))) .none .none (kid e 1).pos) e.pos
  | .sliceTo p q, e => .Subscript (toE p (kid e 0)) (.Slice .none (some (toE q (kid (kid e 1) 0))) .none (kid e 1).pos) e.pos
  | .tup ps, e => .Tuple (toEs ps (kids e)) (kOf e) e.pos
  | .lst ps, e => .List (toEs ps (kids e)) e.pos
  | .dic, e => .Dict [] [] e.pos
  | .bcall f ps, e => .Call (.Name f.name (kid e 0).pos) (toEs ps (kids e).tail) [] e.pos
  | .call x ps, e => .Call (.Name (Str.ofString x) (kid e 0).pos) (toEs ps (kids e).tail) [] e.pos
  | .callV x ps, e => .Call (.Name (Str.ofString x) (kid e 0).pos) (toEs ps (kids e).tail) [] e.pos
  | .meth p m ps, e => .Call (.Attribute (toE p (kid (kid e 0) 0)) (Str.ofString m) (kid e 0).pos) (toEs ps (kids e).tail) [] e.pos
  | .methStar p m q, e => .Call (.Attribute (toE p (kid (kid e 0) 0)) (Str.ofString m) (kid e 0).pos) [.Starred (toE q (kid (kid e 1) 0)) (kid e 1).pos] [] e.pos
  | .callK x ks ps, e => .Call (.Name (Str.ofString x) (kid e 0).pos) [] (toKs ps ks (kwOf e)) e.pos
  | .keys x, e => .ListComp (.Call (.Attribute (.Name (Str.ofString "elt") (kid (kid (kid e 0) 0) 0).pos) (Str.ofString "key") (kid (kid e 0) 0).pos) [] [] (kid e 0).pos) [⟨.Name (Str.ofString "elt") (kid e 1).pos, .Name (Str.ofString x) (kid e 2).pos, [], 0⟩] (scOf e) e.pos
noncomputable def toEs : PEs → List Expr → List Expr
  | .nil, _ => []
  | .cons p ps, es => toE p (es.headD zE) :: toEs ps es.tail
noncomputable def toKs : PEs → List String → List Keyword → List Keyword
  | .nil, _, _ => []
  | .cons p ps, ks, l => ⟨some (Str.ofString (ks.headD "")), toE p (kw1 l).value, (kw1 l).pos⟩ :: toKs ps ks.tail l.tail
end
noncomputable def PEs.len : PEs → Nat | .nil => 0 | .cons _ ps => ps.len + 1
noncomputable def okL (sc : Scope) (x : String) : Bool := sc.names.lookup (Str.ofString x) == some .local && !(Str.ofString x == ("__debug__" : Str))
noncomputable def okG (sc : Scope) (x : Str) : Bool := sc.names.lookup x == some .globalImplicit && !(x == ("__debug__" : Str))
noncomputable def notCall (e : Expr) : Bool := e.ctorIdx != 16
noncomputable def notSlice (e : Expr) : Bool := e.ctorIdx != 26
noncomputable def notSet (e : Expr) : Bool := e.ctorIdx != 7
noncomputable def notComp (e : Expr) : Bool := !(e.ctorIdx == 8 || e.ctorIdx == 9 || e.ctorIdx == 10)
noncomputable def notTup (e : Expr) : Bool := !(e.ctorIdx == 25 || e.ctorIdx == 24)
noncomputable def isName (e : Expr) : Bool := e.ctorIdx == 23
noncomputable def eqN (a b : Nat) : Bool := decide (a = b)
noncomputable def ltN (a b : Nat) : Bool := decide (a < b)
mutual
noncomputable def okE (sc : Scope) : PE → Expr → Bool
  | .loc x, _ => okL sc x
  | .glob x, _ => okG sc (Str.ofString x)
  | .none, _ => true
  | .bool _, _ => true
  | .int _, _ => true
  | .neg p, e => okE sc p (kid e 0)
  | .not p, e => okE sc p (kid e 0)
  | .bin _ p q, e => okE sc p (kid e 0) && okE sc q (kid e 1)
  | .cmp _ p q, e => notSet (toE q (kid e 1)) && (okE sc p (kid e 0) && okE sc q (kid e 1))
  | .and ps, e => okEs sc ps (kids e)
  | .or ps, e => okEs sc ps (kids e)
  | .attr p _, e => notCall (toE p (kid e 0)) && okE sc p (kid e 0)
  | .item p q, e => notSlice (toE q (kid e 1)) && (okE sc p (kid e 0) && okE sc q (kid e 1))
  | .sliceFrom p q, e => okE sc p (kid e 0) && okE sc q (kid (kid e 1) 0)
  | .sliceTo p q, e => okE sc p (kid e 0) && okE sc q (kid (kid e 1) 0)
  | .tup ps, e => okEs sc ps (kids e)
  | .lst ps, e => okEs sc ps (kids e)
  | .dic, _ => true
  | .bcall f ps, e => okG sc f.name && okEs sc ps (kids e).tail
  | .call x ps, e => okG sc (Str.ofString x) && okEs sc ps (kids e).tail
  | .callV x ps, e => okL sc x && okEs sc ps (kids e).tail
  | .meth p _ ps, e => (notCall (toE p (kid (kid e 0) 0)) && (eqN (kid e 0).pos.endLine e.pos.line && ltN (toEs ps (kids e).tail).length 20)) && (okE sc p (kid (kid e 0) 0) && okEs sc ps (kids e).tail)
  | .methStar p _ q, e => (notCall (toE p (kid (kid e 0) 0)) && eqN (kid e 0).pos.endLine e.pos.line) && (okE sc p (kid (kid e 0) 0) && okE sc q (kid (kid e 1) 0))
  | .callK x ks ps, e => (okG sc (Str.ofString x) && eqN ks.length ps.len) && okKs sc ps (kwOf e)
  | .keys x, e => (okL sc x && eqN (kid (kid e 0) 0).pos.endLine (kid e 0).pos.line) && ((scOf e).kind == .function && (scOf e).names == [(Str.ofString ".0", .local), (Str.ofString "elt", .local)])
noncomputable def okEs (sc : Scope) : PEs → List Expr → Bool
  | .nil, _ => true
  | .cons p ps, es => okE sc p (es.headD zE) && okEs sc ps es.tail
noncomputable def okKs (sc : Scope) : PEs → List Keyword → Bool
  | .nil, _ => true
  | .cons p ps, l => okE sc p (kw1 l).value && okKs sc ps l.tail
end
theorem and_ {a b : Bool} (h : (a && b) = true) : a = true ∧ b = true := Bool.and_eq_true_iff.mp h
theorem not_ {b : Bool} (h : (!b) = true) : b = false := by cases b; rfl; cases h
theorem okL_ {sc : Scope} {x : String} (h : okL sc x = true) : sc.names.lookup (Str.ofString x) = some .local ∧ (Str.ofString x == ("__debug__" : Str)) = false :=
  ⟨eq_of_beq (and_ h).1, not_ (and_ h).2⟩
theorem okG_ {sc : Scope} {x : Str} (h : okG sc x = true) : sc.names.lookup x = some .globalImplicit ∧ (x == ("__debug__" : Str)) = false :=
  ⟨eq_of_beq (and_ h).1, not_ (and_ h).2⟩
theorem notStar_E (p : PE) (e : Expr) : notStar (toE p e) = true := by cases p <;> rfl
theorem notStar_Es : ∀ (ps : PEs) (es : List Expr), (toEs ps es).all notStar = true
  | .nil, _ => rfl
  | .cons p ps, es => Bool.and_eq_true_iff.mpr ⟨notStar_E p _, notStar_Es ps es.tail⟩
noncomputable def tabAt (l : List (Addr × String × Addr)) (C : Addr) (m : String) : Option Addr := (l.find? fun p => p.1 == C && p.2.1 == m).map (·.2.2)
theorem tab_mem {l : List (Addr × String × Addr)} {C f : Addr} {m : String} (h : tabAt l C m = some f) : (C, m, f) ∈ l := by
  obtain ⟨⟨a, b, c⟩, e, rfl⟩ := Option.map_eq_some_iff.mp h
  have q := Bool.and_eq_true_iff.mp (List.find?_some (p := fun p : Addr × String × Addr => p.1 == C && p.2.1 == m) e)
  have := List.mem_of_find?_eq_some e
  rw [show a = C from eq_of_beq q.1, show b = m from eq_of_beq q.2] at this
  exact this
theorem tab_all {l : List (Addr × String × Addr)} {P : Addr → String → Addr → Bool} (h : (l.all fun p => P p.1 p.2.1 p.2.2) = true) {C f : Addr} {m : String} (e : tabAt l C m = some f) : P C m f = true := List.all_eq_true.mp h _ (tab_mem e)
noncomputable def mtabL : List (Addr × String × Addr) := [(234, "is_maximal", 91), (234, "is_minimal", 98), (234, "search_in_node", 105), (234, "maybe_cow_child", 112), (234, "_get_node", 119), (234, "get", 126), (234, "optimize_in_order_insertion", 133), (234, "insert_nonfull", 140), (234, "split", 147), (234, "try_left_steal", 154), (234, "try_right_steal", 161), (234, "adopt", 168), (234, "merge", 175), (234, "minimum", 182), (234, "balance", 196), (234, "delete", 203), (234, "visit_in_order", 210), (234, "maybe_cow", 224), (234, "clone", 231), (502, "key", 478), (502, "value", 485), (571, "key", 568), (545, "insert_element", 380), (545, "get_element", 387), (545, "_delete", 394), (545, "delete_key", 401), (545, "delete_exact", 408), (545, "visit_in_order", 422), (545, "make_immutable", 365), (545, "_check_mutable_and_park", 372), (614, "insert_element", 380), (614, "get_element", 387), (614, "_delete", 394), (614, "delete_key", 401), (614, "visit_in_order", 422), (614, "_check_mutable_and_park", 372), (614, "add", 604), (614, "discard", 611)]
noncomputable def ctabL : List (Addr × String × Addr) := [(0, "_MIN", 49), (0, "_MAX", 56), (0, "_Node", 234), (0, "_Creator", 66), (0, "KV", 502), (0, "Member", 571), (0, "BTreeDict", 545), (0, "BTreeSet", 614), (0, "_law_draw", 624), (0, "_law_shape", 631), (0, "_law_sound", 638), (0, "_law_stands", 645), (0, "_law_refuses", 652), (0, "_law_put", 659), (0, "_law_new", 666), (0, "_law_take", 673), (0, "_law_deed", 680), (0, "_law_member", 685), (0, "_law_end", 692)]
noncomputable def gtabL : List (Addr × String × Addr) := [(0, "_LAW_PLAIN", 617), (0, "Immutable", 340)]
noncomputable def sptabL : List (Addr × String × Addr) := [(545, "__len__", 415), (614, "__len__", 415), (614, "__contains__", 597), (234, "__init__", 84), (502, "__init__", 471), (571, "__init__", 561), (545, "__init__", 521), (614, "__init__", 590)]
noncomputable def bndtabL : List (Addr × String × Addr) := [(234, "adopt", 168)]
noncomputable def mtab (C : Addr) (m : String) : Option Addr := tabAt mtabL C m
noncomputable def ctab (x : String) : Option Addr := tabAt ctabL 0 x
noncomputable def gtab (x : String) : Option Addr := tabAt gtabL 0 x
noncomputable def sptab (C : Addr) (m : String) : Option Addr := tabAt sptabL C m
noncomputable def bndtab (C : Addr) (m : String) : Option Addr := tabAt bndtabL C m
noncomputable def fieldsL : List (Addr × List String) := [(234, ["t", "creator", "is_leaf", "elts", "children"]), (502, ["_key", "_value"]), (571, ["_key"]), (545, ["creator", "_immutable", "cursors", "t", "root", "size", "in_order"]), (614, ["creator", "_immutable", "cursors", "t", "root", "size", "in_order"])]
noncomputable def fields (C : Addr) : List String := ((fieldsL.find? fun p => p.1 == C).map (·.2)).getD []
theorem fields_mem {C : Addr} {x : String} (h : x ∈ fields C) : ∃ p ∈ fieldsL, p.1 = C ∧ x ∈ p.2 := by
  unfold fields at h
  cases e : fieldsL.find? fun p => p.1 == C with
  | none => rw [e] at h; cases h
  | some p => rw [e] at h; exact ⟨p, List.mem_of_find?_eq_some e, eq_of_beq (List.find?_some (p := fun p : Addr × List String => p.1 == C) e), h⟩
noncomputable def bndOk (K : Frag) (C : Addr) (name : Str) (f : Addr) : Bool :=
  plainGet K C name && hasDictIn K C && findIn K (.ref C) name == some (some (.ref f)) && isFn K (.ref f) && specialIn K (.ref f) "__get__" == some (some (.builtin "function.__get__")) && takesIn K (.ref f) == some false && !copiedNames.contains name && fnIn K f
noncomputable def trtab (C : Addr) : Bool := C == 234
noncomputable def freeNames : List String := ["len", "list", "dict", "sorted", "min", "max", "range", "zip", "enumerate", "ValueError"]
structure Tabs (cx : Cx) : Prop where
  ok : cx.Ok
  mt : ∀ C m f, mtab C m = some f → methIn cx.K C (Str.ofString m) = some f
  ct : ∀ x a, ctab x = some a → nsIn cx.K mainGlobals (Str.ofString x) = some (some (.ref a)) ∧ keepIn cx.K (.ref a) = true
  gt : ∀ x a, gtab x = some a → nsIn cx.K mainGlobals (Str.ofString x) = some (some (.ref a))
  sp : ∀ C m f, sptab C m = some f → spIn cx.K C (Str.ofString m) = some f
  ft : ∀ C x, x ∈ fields C → fieldOk cx.K C x = true
  tr : ∀ C, trtab C = true → truthIn cx.K C = true
  eqn : EqIn cx.K 234
  fresh : ∀ x ∈ freeNames, nsIn cx.K mainGlobals (Str.ofString x) = some none
  makes : ∀ C ∈ [234, 66, 502, 571, 545, 614], makesIn cx.K C = true
  creator : findIn cx.K (.ref 66) "__init__" = some (some (.builtin "object.__init__"))
  imm : ktsIn cx.K 340 "BaseException" = true
  exc : excIn cx.K 340 [.type "Exception", .type "BaseException", .type "object"] "Exception.__new__" = true
  bnd : ∀ C m f, bndtab C m = some f → bndOk cx.K C (Str.ofString m) f = true
noncomputable def tru (H : AH) : AV → Option Bool
  | .bool b => some b
  | .none => some false
  | .ref a => match H.I a with | some (C, _) => if trtab C then some true else none | none => none
  | .int _ => none
section
variable (cx : Cx) (h : Nat) (tn : Bool) (X : Value → AH → Prop)
inductive cmpP (H : AH) (Q : AV → AH → Prop) : CK → AV → AV → Prop
  | is {a b : AV} {c : Bool} (r : IsR H a b c) (k : Q (.bool c) H) : cmpP H Q .is a b
  | isNot {a b : AV} {c : Bool} (r : IsR H a b c) (k : Q (.bool (!c)) H) : cmpP H Q .isNot a b
  | eq {a b : Int} (k : Q (.bool (decide (a = b))) H) : cmpP H Q .eq (.int a) (.int b)
  | eqS {x : Addr} {fs : List (String × AV)} (hI : H.I x = some (234, fs)) (k : Q (.bool true) H) : cmpP H Q .eq (.ref x) (.ref x)
  | ne {a b : Int} (k : Q (.bool (decide (a ≠ b))) H) : cmpP H Q .ne (.int a) (.int b)
  | neB {a b : Bool} (k : Q (.bool (a != b)) H) : cmpP H Q .ne (.bool a) (.bool b)
  | neL {l l' : Addr} {xs xs' : List AV} {ns ns' : List Int} (h1 : H.L l = some xs) (h2 : H.L l' = some xs') (h3 : intsOf xs = some ns) (h4 : intsOf xs' = some ns') (k : Q (.bool (!decide (ns = ns'))) H) : cmpP H Q .ne (.ref l) (.ref l')
  | lt {a b : Int} (k : Q (.bool (decide (a < b))) H) : cmpP H Q .lt (.int a) (.int b)
  | le {a b : Int} (k : Q (.bool (decide (a ≤ b))) H) : cmpP H Q .le (.int a) (.int b)
  | gt {a b : Int} (k : Q (.bool (decide (b < a))) H) : cmpP H Q .gt (.int a) (.int b)
  | ge {a b : Int} (k : Q (.bool (decide (b ≤ a))) H) : cmpP H Q .ge (.int a) (.int b)
  | inD {d : Addr} {es : List (Int × AV)} {i : Int} (h1 : H.D d = some es) (k : Q (.bool (atK es i).isSome) H) : cmpP H Q .inn (.int i) (.ref d)
  | inL {l : Addr} {xs : List AV} {ns : List Int} {i : Int} (h1 : H.L l = some xs) (h2 : intsOf xs = some ns) (k : Q (.bool (ns.contains i)) H) : cmpP H Q .inn (.int i) (.ref l)
  | inO {x C f : Addr} {fs : List (String × AV)} {a : AV} (hI : H.I x = some (C, fs)) (hs : sptab C "__contains__" = some f) (hC : CallOK cx h tn (.ref f) [.ref x, a] H (fun v H' => ∃ c : Bool, v = .bool c ∧ Q (.bool c) H') X) : cmpP H Q .inn a (.ref x)
  | notIn {l : Addr} {xs : List AV} {ns : List Int} {i : Int} (h1 : H.L l = some xs) (h2 : intsOf xs = some ns) (k : Q (.bool (!ns.contains i)) H) : cmpP H Q .notIn (.int i) (.ref l)
inductive attrP (x : String) (a : AV) (H : AH) (Q : AV → AH → Prop) : Prop
  | fld (i C : Addr) (fs : List (String × AV)) (v : AV) (ha : a = .ref i) (hI : H.I i = some (C, fs)) (hl : fs.lookup x = some v) (hQ : Q v H)
  | app (hx : x = "append") (l : Addr) (xs : List AV) (ha : a = .ref l) (hL : H.L l = some xs) (hQ : ∀ q, H.free q → Q (.ref q) (H.setB q l))
inductive itemP (il : Bool) (a i : AV) (H : AH) (Q : AV → AH → Prop) : Prop
  | l (l : Addr) (j : Int) (xs : List AV) (v : AV) (ha : a = .ref l) (hi : i = .int j) (h1 : H.L l = some xs) (h2 : seqAt xs j = some v) (hQ : Q v H)
  | t (l : Addr) (j : Int) (xs : List AV) (v : AV) (ha : a = .ref l) (hi : i = .int j) (h1 : H.T l = some xs) (h2 : seqAt xs j = some v) (h3 : j < 1000) (hQ : Q v H)
  | r (l : Addr) (j : Int) (ws : List Value) (n : Int) (t : Tok) (ha : a = .ref l) (hi : i = .int j) (h1 : cx.ro l = some ws) (h2 : 0 ≤ j) (h3 : j < 1000) (h4 : ws[j.toNat]? = some (.int n t)) (hQ : Q (.int n) H)
  | z (l : Addr) (xs : List AV) (v : AV) (ha : a = .ref l) (hi : i = .int (-1)) (h1 : H.L l = some xs) (h2 : xs.getLast? = some v) (hQ : Q v H)
  | d (l : Addr) (j : Int) (es : List (Int × AV)) (v : AV) (ha : a = .ref l) (hi : i = .int j) (hil : il = true) (h1 : H.D l = some es) (h2 : atK es j = some v) (hQ : Q v H)
inductive bcP (f : BC) (vs : List AV) (H : AH) (Q : AV → AH → Prop) : Prop
  | lenL (l : Addr) (xs : List AV) (hf : f = .len) (hv : vs = [.ref l]) (h1 : H.L l = some xs) (hQ : Q (.int xs.length) H)
  | lenD (l : Addr) (es : List (Int × AV)) (hf : f = .len) (hv : vs = [.ref l]) (h1 : H.D l = some es) (hQ : Q (.int es.length) H)
  | lenR (l : Addr) (ws : List Value) (hf : f = .len) (hv : vs = [.ref l]) (h1 : cx.ro l = some ws) (h2 : ws.length ≤ 1000) (h3 : cx.base.IsList l ws.toArray) (hQ : Q (.int ws.length) H)
  | lenO (l C : Addr) (fs : List (String × AV)) (g : Addr) (hf : f = .len) (hv : vs = [.ref l]) (h1 : H.I l = some (C, fs)) (h2 : sptab C "__len__" = some g) (hC : CallOK cx h tn (.ref g) [.ref l] H (fun v H' => ∃ n : Int, v = .int n ∧ 0 ≤ n ∧ n < 2 ^ 63 ∧ Q (.int n) H') X)
  | list (l : Addr) (xs : List AV) (hf : f = .list) (hv : vs = [.ref l]) (h1 : H.L l = some xs) (hQ : ∀ a, H.free a → Q (.ref a) (H.setL a xs))
  | dict (d : Addr) (es : List (Int × AV)) (hf : f = .dict) (hv : vs = [.ref d]) (h1 : H.D d = some es) (hQ : ∀ a, H.free a → Q (.ref a) (H.setD a es))
  | sortL (l : Addr) (xs : List AV) (ns : List Int) (hf : f = .sorted) (hv : vs = [.ref l]) (h1 : H.L l = some xs) (h2 : intsOf xs = some ns) (h3 : ns.length < 64) (hQ : ∀ (a : Addr) (ms : List Int), H.free a → ms.Perm ns → ms.Pairwise (· ≤ ·) → Q (.ref a) (H.setL a (ms.map .int)))
  | sortD (l : Addr) (es : List (Int × AV)) (hf : f = .sorted) (hv : vs = [.ref l]) (h1 : H.D l = some es) (h2 : es.length < 64) (hQ : ∀ (a : Addr) (ms : List Int), H.free a → ms.Perm (es.map (·.1)) → ms.Pairwise (· ≤ ·) → Q (.ref a) (H.setL a (ms.map .int)))
  | min (a b : Int) (hf : f = .min) (hv : vs = [.int a, .int b]) (hQ : Q (.int (min a b)) H)
  | max (a b : Int) (hf : f = .max) (hv : vs = [.int a, .int b]) (hQ : Q (.int (max a b)) H)
inductive Tgt | fn (f x : Addr) | lm (x : Addr) | dm (x : Addr)
noncomputable def MethT (H : AH) (a : AV) (m : String) : Tgt → Prop
  | .fn f x => a = .ref x ∧ ∃ C fs, H.I x = some (C, fs) ∧ fs.lookup m = none ∧ mtab C m = some f
  | .lm x => a = .ref x ∧ m ∈ ["append", "pop", "insert", "extend", "remove"] ∧ ∃ xs, H.L x = some xs
  | .dm x => a = .ref x ∧ m ∈ ["get", "pop"] ∧ ∃ xs, H.D x = some xs
inductive lmP (x : Addr) (m : String) (vs : List AV) (H : AH) (Q : AV → AH → Prop) : Prop
  | append (xs : List AV) (v : AV) (hm : m = "append") (hv : vs = [v]) (hL : H.L x = some xs) (h1 : xs.length < 1000) (hQ : Q .none (H.setL x (xs ++ [v])))
  | pop (xs : List AV) (v : AV) (hm : m = "pop") (hv : vs = []) (hL : H.L x = some xs) (h1 : xs.getLast? = some v) (hQ : Q v (H.setL x xs.dropLast))
  | popAt (xs : List AV) (i : Int) (v : AV) (hm : m = "pop") (hv : vs = [.int i]) (hL : H.L x = some xs) (h1 : seqAt xs i = some v) (hQ : Q v (H.setL x (xs.take i.toNat ++ xs.drop (i.toNat + 1))))
  | insert (xs : List AV) (i : Int) (v : AV) (hm : m = "insert") (hv : vs = [.int i, v]) (hL : H.L x = some xs) (h1 : 0 ≤ i) (h2 : i ≤ xs.length) (h3 : xs.length < 1000) (hQ : Q .none (H.setL x (xs.take i.toNat ++ v :: xs.drop i.toNat)))
  | extend (xs : List AV) (b : Addr) (ys : List AV) (hm : m = "extend") (hv : vs = [.ref b]) (hL : H.L x = some xs) (h1 : H.L b = some ys) (h2 : xs.length + ys.length ≤ 1000) (hQ : Q .none (H.setL x (xs ++ ys)))
  | remove (xs : List AV) (k : Int) (ns : List Int) (hm : m = "remove") (hv : vs = [.int k]) (hL : H.L x = some xs) (h1 : intsOf xs = some ns) (h2 : k ∈ ns) (hQ : Q .none (H.setL x ((ns.erase k).map .int)))
inductive dmP (x : Addr) (m : String) (vs : List AV) (H : AH) (Q : AV → AH → Prop) : Prop
  | get (es : List (Int × AV)) (k : Int) (hm : m = "get") (hv : vs = [.int k]) (hD : H.D x = some es) (hQ : Q ((atK es k).getD .none) H)
  | pop (es : List (Int × AV)) (k : Int) (v : AV) (hm : m = "pop") (hv : vs = [.int k]) (hD : H.D x = some es) (h1 : atK es k = some v) (hQ : Q v (H.setD x (delK es k)))
noncomputable def tgtP (t : Tgt) (m : String) (vs : List AV) (H : AH) (Q : AV → AH → Prop) : Prop := match t with
  | .fn f x => CallOK cx h tn (.ref f) (.ref x :: vs) H Q X
  | .lm x => lmP x m vs H Q
  | .dm x => dmP x m vs H Q
inductive KeysL (H : AH) : List AV → List Int → Prop
  | nil : KeysL H [] []
  | cons {e : Addr} {k : Int} {xs : List AV} {ns : List Int} (hI : H.I e = some (571, [("_key", .int k)])) (r : KeysL H xs ns) : KeysL H (.ref e :: xs) (k :: ns)
noncomputable def PE.isLoc (p : PE) : Bool := by
  cases p with
  | loc _ => exact true
  | _ => exact false
mutual
noncomputable def wpE : PE → Loc → AH → (AV → AH → Prop) → Prop
  | .loc x, σ, H, Q => ∃ v, σ x = some v ∧ Q v H
  | .glob x, _, H, Q => ∃ a, gtab x = some a ∧ Q (.ref a) H
  | .none, _, H, Q => Q .none H
  | .bool b, _, H, Q => Q (.bool b) H
  | .int i, _, H, Q => Q (.int i) H
  | .neg p, σ, H, Q => wpE p σ H fun a H' => ∃ i, a = .int i ∧ Q (.int (-i)) H'
  | .not p, σ, H, Q => wpE p σ H fun a H' => ∃ b, tru H' a = some b ∧ Q (.bool (!b)) H'
  | .bin op p q, σ, H, Q => wpE p σ H fun a H₁ => wpE q σ H₁ fun b H₂ => BinP (fun c => Q c H₂) op a b
  | .cmp k p q, σ, H, Q => wpE p σ H fun a H₁ => wpE q σ H₁ fun b H₂ => cmpP cx h tn X H₂ Q k a b
  | .and ps, σ, H, Q => wpA ps σ H Q
  | .or ps, σ, H, Q => wpO ps σ H Q
  | .attr p x, σ, H, Q => wpE p σ H fun a H₁ => attrP x a H₁ Q
  | .item p q, σ, H, Q => wpE p σ H fun a H₁ => wpE q σ H₁ fun b H₂ => itemP cx p.isLoc a b H₂ Q
  | .sliceFrom p q, σ, H, Q => wpE p σ H fun a H₁ => wpE q σ H₁ fun b H₂ => ∃ l xs k, a = .ref l ∧ b = .int k ∧ H₂.L l = some xs ∧ xs.length ≤ 1000 ∧ 0 ≤ k ∧ ∀ n, H₂.free n → Q (.ref n) (H₂.setL n (xs.drop k.toNat))
  | .sliceTo p q, σ, H, Q => wpE p σ H fun a H₁ => wpE q σ H₁ fun b H₂ => ∃ l xs k, a = .ref l ∧ b = .int k ∧ H₂.L l = some xs ∧ xs.length ≤ 1000 ∧ 0 ≤ k ∧ ∀ n, H₂.free n → Q (.ref n) (H₂.setL n (xs.take k.toNat))
  | .tup ps, σ, H, Q => wpEs ps σ H fun vs H₁ => vs.length ≤ 1000 ∧ ∀ n, H₁.free n → Q (.ref n) (H₁.setT n vs)
  | .lst ps, σ, H, Q => wpEs ps σ H fun vs H₁ => vs.length ≤ 1000 ∧ ∀ n, H₁.free n → Q (.ref n) (H₁.setL n vs)
  | .dic, _, H, Q => ∀ n, H.free n → Q (.ref n) (H.setD n [])
  | .bcall f ps, σ, H, Q => wpEs ps σ H fun vs H₁ => bcP cx h tn X f vs H₁ Q
  | .call x ps, σ, H, Q => ∃ a, ctab x = some a ∧ wpEs ps σ H fun vs H₁ => CallOK cx h tn (.ref a) vs H₁ Q X
  | .callV x ps, σ, H, Q => ∃ q l, σ x = some (.ref q) ∧ wpEs ps σ H fun vs H₁ => H₁.B q = some l ∧ CallOK cx h tn (.ref q) vs H₁ Q X
  | .meth p m ps, σ, H, Q => wpE p σ H fun a H₁ => ∃ t, MethT H₁ a m t ∧ wpEs ps σ H₁ fun vs H₂ => tgtP cx h tn X t m vs H₂ Q
  | .methStar p m q, σ, H, Q => wpE p σ H fun a H₁ => ∃ f x C fs, a = .ref x ∧ H₁.I x = some (C, fs) ∧ fs.lookup m = none ∧ bndtab C m = some f ∧
      wpE q σ H₁ fun b H₂ => ∃ t vs, b = .ref t ∧ H₂.T t = some vs ∧ vs.length ≤ 1000 ∧ CallOK cx h tn (.ref f) (.ref x :: vs) H₂ Q X
  | .callK x ks ps, σ, H, Q => ∃ a, ctab x = some a ∧ wpEs ps σ H fun vs H₁ => CallKOK cx h tn (.ref a) [] ks vs H₁ Q X
  | .keys x, σ, H, Q => ∃ l xs ns, σ x = some (.ref l) ∧ H.L l = some xs ∧ KeysL H xs ns ∧ (∀ (H₂ : AH) e k, H₂.I e = some (571, [("_key", .int k)]) → CallOK cx h false (.ref 568) [.ref e] H₂ (fun v H' => v = .int k ∧ H' = H₂) fun _ _ => False) ∧ ∀ n, H.free n → Q (.ref n) (H.setL n (ns.map .int))
noncomputable def wpEs : PEs → Loc → AH → (List AV → AH → Prop) → Prop
  | .nil, _, H, Q => Q [] H
  | .cons p ps, σ, H, Q => wpE p σ H fun a H₁ => wpEs ps σ H₁ fun vs H₂ => Q (a :: vs) H₂
noncomputable def wpA : PEs → Loc → AH → (AV → AH → Prop) → Prop
  | .nil, _, _, _ => False
  | .cons p ps, σ, H, Q => wpE p σ H fun a H₁ => (ps = .nil ∧ Q a H₁) ∨ (ps ≠ .nil ∧ ∃ b, tru H₁ a = some b ∧ if b then wpA ps σ H₁ Q else Q a H₁)
noncomputable def wpO : PEs → Loc → AH → (AV → AH → Prop) → Prop
  | .nil, _, _, _ => False
  | .cons p ps, σ, H, Q => wpE p σ H fun a H₁ => (ps = .nil ∧ Q a H₁) ∨ (ps ≠ .nil ∧ ∃ b, tru H₁ a = some b ∧ if b then Q a H₁ else wpO ps σ H₁ Q)
end
mutual
noncomputable def wpC : PE → Loc → AH → (Bool → AH → Prop) → Prop
  | .not p, σ, H, Q => wpC p σ H fun b H' => Q (!b) H'
  | .neg _, _, _, _ => False
  | .and ps, σ, H, Q => wpCA ps σ H Q
  | .or ps, σ, H, Q => wpCO ps σ H Q
  | p, σ, H, Q => wpE cx h tn X p σ H fun a H' => ∃ b, tru H' a = some b ∧ Q b H'
noncomputable def wpCA : PEs → Loc → AH → (Bool → AH → Prop) → Prop
  | .nil, _, H, Q => Q true H
  | .cons p ps, σ, H, Q => wpC p σ H fun b H₁ => if b then wpCA ps σ H₁ Q else Q false H₁
noncomputable def wpCO : PEs → Loc → AH → (Bool → AH → Prop) → Prop
  | .nil, _, H, Q => Q false H
  | .cons p ps, σ, H, Q => wpC p σ H fun b H₁ => if b then Q true H₁ else wpCO ps σ H₁ Q
end
end
abbrev XL (X : Value → AH → Prop) : XP := ⟨fun c _ H => X c H, fun c _ H => X c H⟩
section
variable {cx : Cx} {fr : Frm} {tn : Bool} {X : Value → AH → Prop} {XX : XP} {σ : Loc} {H : AH} {h : Nat}
theorem SemT.bindV {α β : Type} {t : Sem β} {t1 : Sem α} {t2 : α → Sem β} {R : β → Loc → AH → Prop} {R1 : α → Loc → AH → Prop} {XY : XP}
    (rule : ∀ (Q : β → Shared → Prop) (E : Value → Shared → Prop) (s : Shared), wpAny (model cx.prog cx.w) fr.A t1 (fun a s₁ => wpAny (model cx.prog cx.w) fr.A (t2 a) Q E s₁) E s → wpAny (model cx.prog cx.w) fr.A t Q E s)
    (h1 : SemT cx fr tn XY t1 σ H R1) (h2 : ∀ a σ' H', R1 a σ' H' → SemT cx fr tn XY (t2 a) σ' H' R) : SemT cx fr tn XY t σ H R :=
  SemT.seq rule (h1.mono h2)
theorem SemT.of_eq {α : Type} {t t' : Sem α} {R : α → Loc → AH → Prop} {XY : XP} (rule : ∀ (Q : α → Shared → Prop) (E : Value → Shared → Prop) (s : Shared), wpAny (model cx.prog cx.w) fr.A t' Q E s → wpAny (model cx.prog cx.w) fr.A t Q E s)
    (h : SemT cx fr tn XY t' σ H R) : SemT cx fr tn XY t σ H R := fun g Xl s hs => rule _ _ _ (h g Xl s hs)
theorem tru_spec (T : Tabs cx) {a : AV} {b : Bool} (e : tru H a = some b) : truv cx.K H a = some b := by
  cases a with
  | ref x =>
    simp only [tru, truv] at e ⊢
    cases hI : H.I x with
    | none => rw [hI] at e; cases e
    | some p =>
      obtain ⟨C, fs⟩ := p
      rw [hI] at e
      simp only at e ⊢
      by_cases q : trtab C = true
      · rw [if_pos q] at e; rw [if_pos (T.tr C q)]; exact e
      · rw [if_neg q] at e; cases e
  | _ => exact e
theorem T_tru (T : Tabs cx) {v : Value} {a : AV} {b : Bool} {R : Bool → Loc → AH → Prop} (hv : Sim v a) (hb : tru H a = some b) (k : R b σ H) : SemT cx fr tn XX (truthy v) σ H R := T_truthy hv (tru_spec T hb) k
theorem T_cmpP (T : Tabs cx) (o : fr.Ok h) (hX : ∀ c H, X c H → XX.fly c σ H) {k : CK} {va vb : Value} {a b : AV} {Q : AV → AH → Prop} (ha : Sim va a) (hb : Sim vb b) (hc : cmpP cx h tn X H Q k a b) : SemT cx fr tn XX (compareOp k.op va vb) σ H (VR σ Q) := by
  have hu : fr.A.units + 64 < cLine := by have := o.units; unfold cLine; lia
  cases hc with
  | is r h => exact T_is ha hb r h
  | isNot r h => exact T_isNot ha hb r h
  | eq h => obtain ⟨_, rfl⟩ := ha.toI; obtain ⟨_, rfl⟩ := hb.toI; exact .leaf fun g Xl s Q' E st k => eq_int (k _ s.toks (.mk (.bool _) h))
  | eqS hI h => obtain rfl := ha.toR; obtain rfl := hb.toR; exact T_eqSame hI T.eqn (by lia) h
  | @ne a b h => obtain ⟨_, rfl⟩ := ha.toI; obtain ⟨_, rfl⟩ := hb.toI; exact .leaf fun g Xl s Q' E st k => ne_int (k _ s.toks (.mk (.bool _) ((decide_not (p := a = b) ▸ h : Q (.bool (!decide (a = b))) H))))
  | neB h => obtain rfl := ha.toB; obtain rfl := hb.toB; exact .leaf fun g Xl s Q' E st k => ne_bool (k _ s.toks (.mk (.bool _) h))
  | neL h1 h2 h3 h4 h => obtain rfl := ha.toR; obtain rfl := hb.toR; exact T_neInts h1 h2 h3 h4 hu h
  | lt h => obtain ⟨_, rfl⟩ := ha.toI; obtain ⟨_, rfl⟩ := hb.toI; exact .leaf fun g Xl s Q' E st k => lt_int (k _ s.toks (.mk (.bool _) h))
  | le h => obtain ⟨_, rfl⟩ := ha.toI; obtain ⟨_, rfl⟩ := hb.toI; exact .leaf fun g Xl s Q' E st k => le_int (k _ s.toks (.mk (.bool _) h))
  | gt h => obtain ⟨_, rfl⟩ := ha.toI; obtain ⟨_, rfl⟩ := hb.toI; exact .leaf fun g Xl s Q' E st k => gt_int (k _ s.toks (.mk (.bool _) h))
  | ge h => obtain ⟨_, rfl⟩ := ha.toI; obtain ⟨_, rfl⟩ := hb.toI; exact .leaf fun g Xl s Q' E st k => ge_int (k _ s.toks (.mk (.bool _) h))
  | inD h1 h => obtain rfl := hb.toR; exact T_inD h1 ha h
  | inL h1 h2 h => obtain rfl := hb.toR; exact T_inL h1 h2 ha h
  | inO hI hs hC => obtain rfl := hb.toR; exact T_inObj o hI (T.sp _ _ _ hs) ha hC hX
  | notIn h1 h2 h => obtain rfl := hb.toR; exact T_notInL h1 h2 ha h
theorem T_attrP {x : String} {v : Value} {a : AV} {e : Bool} {Q : AV → AH → Prop} (ha : Sim v a) (hc : attrP x a H Q) : SemT cx fr tn XX (getAttr v (Str.ofString x) e) σ H (VR σ Q) := by
  rcases hc with ⟨i, C, fs, w, rfl, hI, hl, hQ⟩ | ⟨rfl, l, xs, rfl, hl, hQ⟩
  · obtain rfl := ha.toR; exact T_getAttr hI hl hQ
  · obtain rfl := ha.toR; exact T_bmGet hl hQ
theorem sub_int {sl : Expr} {l : Addr} {i : Int} {u : Tok} (hs : notSlice sl = true) : subscripted sl false (.ref l) (.int i u) = operate [.ref l, .int i u] (getItem (.ref l) (.int i u)) := by
  cases sl <;> first | with_unfolding_all rfl | cases hs
theorem letGo_name {e : Expr} (h : isName e = true) (o r : Value) : letTemporaryGo e o r = pure () := by
  cases e <;> first | rfl | cases h
theorem T_itemP (T : Tabs cx) {value slice : Expr} {vo vi : Value} {a i : AV} {il : Bool} {Q : AV → AH → Prop} (ha : Sim vo a) (hi : Sim vi i) (hs : notSlice slice = true) (hn : il = true → isName value = true) (hc : itemP cx il a i H Q) :
    SemT cx fr tn XX (subscriptTail value slice vo vi) σ H (VR σ Q) := by
  rcases hc with ⟨l, j, xs, v, rfl, rfl, h1, h2, hQ⟩ | ⟨l, j, xs, v, rfl, rfl, h1, h2, h3, hQ⟩ | ⟨l, j, ws, n, t, rfl, rfl, h1, h2, h3, h4, hQ⟩ | ⟨l, xs, v, rfl, rfl, h1, h2, hQ⟩ | ⟨l, j, es, v, rfl, rfl, hil, h1, h2, hQ⟩ <;> obtain rfl := ha.toR
  · exact T_item hi h1 h2 hQ fun u => sub_int hs
  · exact T_itemT hi h1 h2 h3 hQ fun u => sub_int hs
  · exact T_itemR T.ok hi h1 h2 h3 h4 hQ fun u => sub_int hs
  · exact T_last hi h1 h2 hQ fun u => sub_int hs
  · exact T_itemD h1 hi h2 hQ (fun u => sub_int hs) fun r => letGo_name (hn hil) _ _
theorem SimL.one {vs : List Value} {a : AV} (hv : SimL vs [a]) : ∃ v, vs = [v] ∧ Sim v a := by
  match vs, hv with
  | [v], hv => exact ⟨v, rfl, hv.1⟩
  | [], hv => exact hv.elim
  | _ :: _ :: _, hv => exact hv.2.elim
theorem SimL.two {vs : List Value} {a b : AV} (hv : SimL vs [a, b]) : ∃ v w, vs = [v, w] ∧ Sim v a ∧ Sim w b := by
  match vs, hv with
  | [v, w], hv => exact ⟨v, w, rfl, hv.1, hv.2.1⟩
  | [], hv => exact hv.elim
  | [_], hv => exact hv.2.elim
  | _ :: _ :: _ :: _, hv => exact hv.2.2.elim
theorem T_bcP (T : Tabs cx) (o : fr.Ok h) (hX : ∀ c H, X c H → XX.fly c σ H) {f : BC} {vs : List Value} {as : List AV} {Q : AV → AH → Prop} (hv : SimL vs as) (hc : bcP cx h tn X f as H Q) : SemT cx fr tn XX (call f.val vs) σ H (VR σ Q) := by
  have hh : fr.A.handled = none := o.handled
  have one : ∀ {l : Addr}, as = [.ref l] → vs = [.ref l] := fun e => by
    subst e
    obtain ⟨v, rfl, hw⟩ := hv.one
    rw [hw.toR]
  cases hc with
  | lenL l xs e e' h1 hQ => subst e; obtain rfl := one e'; exact T_lenL h1 hQ
  | lenD l es e e' h1 hQ => subst e; obtain rfl := one e'; exact T_lenD h1 hQ
  | lenR l ws e e' h1 h2 h3 hQ => subst e; obtain rfl := one e'; exact T_lenR T.ok h1 h2 h3 hQ
  | lenO l C fs g e e' h1 h2 hC => subst e; obtain rfl := one e'; exact T_lenObj o h1 (T.sp _ _ _ h2) hC hX
  | list l xs e e' h1 hQ => subst e; obtain rfl := one e'; exact T_listCopy h1 hQ
  | dict l xs e e' h1 hQ => subst e; obtain rfl := one e'; exact T_dictCopy h1 T.ok hQ
  | sortL l xs ns e e' h1 h2 h3 hQ => subst e; obtain rfl := one e'; exact T_sortedL h1 h2 h3 hQ
  | sortD l es e e' h1 h2 hQ => subst e; obtain rfl := one e'; exact T_sortedD h1 h2 hh hQ
  | min a b e e' hQ => subst e e'; obtain ⟨v, w, rfl, hv, hw⟩ := hv.two; exact T_min hv hw hh hQ
  | max a b e e' hQ => subst e e'; obtain ⟨v, w, rfl, hv, hw⟩ := hv.two; exact T_max hv hw hh hQ
theorem ty_append : typeOf (.builtin "list.append") = pure (.type "method_descriptor") := bm_type
theorem list_slots (m : String) (hm : m ∈ ["append", "pop", "insert", "extend", "remove"]) : ∃ id, Slot "list" (Str.ofString m) id ∧ typeOf (.builtin id) = pure (.type "method_descriptor") ∧ id = "list." ++ m := by
  simp only [List.mem_cons, List.not_mem_nil, or_false] at hm
  rcases hm with rfl | rfl | rfl | rfl | rfl
  · exact ⟨"list.append", F.slot_list_append, by show builtinType _ = _; rw [builtinType_eq_fast]; kernel_rfl, rfl⟩
  · exact ⟨"list.pop", F.slot_list_pop, by show builtinType _ = _; rw [builtinType_eq_fast]; kernel_rfl, rfl⟩
  · exact ⟨"list.insert", F.slot_list_insert, by show builtinType _ = _; rw [builtinType_eq_fast]; kernel_rfl, rfl⟩
  · exact ⟨"list.extend", F.slot_list_extend, by show builtinType _ = _; rw [builtinType_eq_fast]; kernel_rfl, rfl⟩
  · exact ⟨"list.remove", F.slot_list_remove, by show builtinType _ = _; rw [builtinType_eq_fast]; kernel_rfl, rfl⟩
theorem dict_slots (m : String) (hm : m ∈ ["get", "pop"]) : ∃ id, Slot "dict" (Str.ofString m) id ∧ typeOf (.builtin id) = pure (.type "method_descriptor") ∧ id = "dict." ++ m := by
  simp only [List.mem_cons, List.not_mem_nil, or_false] at hm
  rcases hm with rfl | rfl
  · exact ⟨"dict.get", F.slot_dict_get, by show builtinType _ = _; rw [builtinType_eq_fast]; kernel_rfl, rfl⟩
  · exact ⟨"dict.pop", F.slot_dict_pop, by show builtinType _ = _; rw [builtinType_eq_fast]; kernel_rfl, rfl⟩
theorem T_lmP {x : Addr} {m : String} {vs : List Value} {as : List AV} {Q : AV → AH → Prop} (hv : SimL vs as) (hc : lmP x m as H Q) : SemT cx fr tn XX (call (.builtin ("list." ++ m)) (.ref x :: vs)) σ H (VR σ Q) := by
  rcases hc with ⟨xs, v, rfl, rfl, hl, h1, hQ⟩ | ⟨xs, v, rfl, rfl, hl, h1, hQ⟩ | ⟨xs, i, v, rfl, rfl, hl, h1, hQ⟩ | ⟨xs, i, v, rfl, rfl, hl, h1, h2, h3, hQ⟩ | ⟨xs, b, ys, rfl, rfl, hl, h1, h2, hQ⟩ | ⟨xs, k, ns, rfl, rfl, hl, h1, h2, hQ⟩
  · obtain ⟨w, rfl, hw⟩ := hv.one; exact T_append hl hw h1 hQ
  · obtain rfl := hv.nil_iff; exact T_pop hl h1 hQ
  · obtain ⟨w, rfl, hw⟩ := hv.one; exact T_popAt hl hw h1 hQ
  · obtain ⟨w, u, rfl, hw, hu⟩ := hv.two; exact T_insert hl hw h1 h2 hu h3 hQ
  · obtain ⟨w, rfl, hw⟩ := hv.one; obtain rfl := hw.toR; exact T_extend hl h1 h2 hQ
  · obtain ⟨w, rfl, hw⟩ := hv.one; exact T_remove hl h1 hw h2 hQ
theorem T_dmP {x : Addr} {m : String} {vs : List Value} {as : List AV} {Q : AV → AH → Prop} (hv : SimL vs as) (hc : dmP x m as H Q) : SemT cx fr tn XX (call (.builtin ("dict." ++ m)) (.ref x :: vs)) σ H (VR σ Q) := by
  rcases hc with ⟨xs, k, rfl, rfl, hl, hQ⟩ | ⟨xs, k, v, rfl, rfl, hl, h1, hQ⟩
  · obtain ⟨w, rfl, hw⟩ := hv.one; exact T_dget hl hw hQ
  · obtain ⟨w, rfl, hw⟩ := hv.one; exact T_dpop hl hw h1 hQ
end
section
variable {cx : Cx} {fr : Frm} {tn : Bool} {X : Value → AH → Prop} {XX : XP} {σ : Loc} {H : AH} {h : Nat}
theorem boot_bc (f : BC) : bootBuiltins f.name = some f.val := by cases f <;> decide +kernel
theorem bc_free (T : Tabs cx) (f : BC) : nsIn cx.K mainGlobals f.name = some none := by
  cases f
  · exact T.fresh "len" (by decide)
  · exact T.fresh "list" (by decide)
  · exact T.fresh "dict" (by decide)
  · exact T.fresh "sorted" (by decide)
  · exact T.fresh "min" (by decide)
  · exact T.fresh "max" (by decide)
theorem bc_ne (f : BC) : f.name ≠ "__name__" := by cases f <;> decide +kernel
theorem behind_ok {op : CmpOp} {r : Expr} (h : notSet r = true) : behindInMarks op r = false := by cases r <;> first | rfl | cases h
theorem T_callName {P : Heap → Prop} {id : Str} {np pos : Pos} {es : List Expr} {f : Value} {R : Value → Loc → AH → Prop} (hes : es.all notStar = true)
    (hn : SemT cx fr tn XX (eval (.Name id np) fr.env) σ H fun v σ' H' => v = f ∧ σ' = σ ∧ H' = H)
    (hk : ∀ h, P h → ∃ k, (k = Keeper.frame ∨ k = Keeper.machine ∨ k = Keeper.boundFrame) ∧ Looks (model cx.prog cx.w) h (keeperOf f) k)
    (hc : SemT cx fr tn XX (spliced (backTo pos (starEach es fr.env))) σ H fun vs σ₁ H₁ => (∀ g Xl s, St cx fr g Xl σ₁ H₁ s → P s.heap) ∧ SemT cx fr tn XX (call f vs) σ₁ H₁ R) :
    SemT cx fr tn XX (eval (.Call (.Name id np) es [] pos) fr.env) σ H R := by
  refine SemT.bindV (t1 := eval (.Name id np) fr.env) (t2 := fun f => callWith pos f [] (backTo pos (starEach es fr.env)) []) (fun Q E s q => Call_ q) hn ?_
  rintro v σ' H' ⟨rfl, rfl, rfl⟩
  exact T_callWith hes hk hc
theorem T_methCall {m : Str} {e : Expr} {apos pos : Pos} {es : List Expr} {R : Value → Loc → AH → Prop} (hne : notCall e = true) (hp : apos.endLine = pos.line) (hl : es.length < 20) (hes : es.all notStar = true)
    (hc : SemT cx fr tn XX (eval e fr.env) σ H fun v σ₁ H₁ => ∀ pl : Sem Bool, SemT cx fr tn XX (getMethod v m pl) σ₁ H₁ fun fx σ₂ H₂ => SemT cx fr tn XX (callWith pos fx.1 fx.2 (backTo pos (starEach es fr.env)) []) σ₂ H₂ R) :
    SemT cx fr tn XX (eval (.Call (.Attribute e m apos) es [] pos) fr.env) σ H R := by
  have hform : methodCallForm (es.length + 0) (backTo pos (starEach es fr.env)) [] = true := by
    unfold methodCallForm
    have h1 : (backTo pos (starEach es fr.env)).all (!·.1) = true := by
      have := star_none (pos := pos) (env := fr.env) hes
      rw [List.all_eq_not_any_not]
      simp only [Bool.not_not]
      rw [this]; rfl
    rw [h1]
    simp
    lia
  have hb : attributeBase e m fr.env (eval e fr.env) = eval e fr.env := by cases e <;> first | rfl | cases hne
  have he : eval (.Call (.Attribute e m apos) es [] pos) fr.env = (do
      let ov ← eval e fr.env
      standAt apos.atName
      let __x ← holding [ov] (getMethod ov m (do return (← importBound e fr.env).getD true))
      match __x with
        | (f, first) => callWith pos f first (backTo pos (starEach es fr.env)) []) := by
    show (do
      let ov ← attributeBase e m fr.env (eval e fr.env)
      standAt apos.atName
      methodCall e m apos pos fr.env ov (es.length + 0) (backTo pos (starEach es fr.env)) []) = _
    rw [hb]
    unfold methodCall calleeOf methodCallPos
    rw [hform]
    simp [hp]
  refine SemT.seq3 (t1 := eval e fr.env) (t2 := fun v => getMethod v m (do return (← importBound e fr.env).getD true)) (t3 := fun v fx => callWith pos fx.1 fx.2 (backTo pos (starEach es fr.env)) []) (fun Q E s q => MethodCall_ q he) ?_
  exact hc.mono fun v σ₁ H₁ k => k _
theorem Match.unX {news : List (Addr × Obj)} {Xl Xl' : List (Addr × Obj)} {δ : Addr → Addr} (M : Match cx news H Xl' δ) (hX : ∀ q ∈ Xl, q ∈ Xl') : Match cx news H Xl δ :=
  ⟨M.nd, M.L, M.T, M.I, M.inj, M.D, M.B, fun q hq => M.X q (hX q hq)⟩
theorem St.unX {g : Heap} {Xl Xl' : List (Addr × Obj)} {s : Shared} (st : St cx fr g Xl' σ H s) (hX : ∀ q ∈ Xl, q ∈ Xl') : St cx fr g Xl σ H s :=
  let ⟨m, news, δ, F, N, lm, M⟩ := st.ex
  ⟨st.gg, ⟨m, news, δ, F, N, lm, M.unX hX⟩, st.gens, st.os⟩
theorem Post.unX {α : Type} {g : Heap} {Xl Xl' : List (Addr × Obj)} {R : α → Loc → AH → Prop} {a : α} {s : Shared} (p : Post cx fr tn g Xl' R a s) (hX : ∀ q ∈ Xl, q ∈ Xl') : Post cx fr tn g Xl R a s :=
  let ⟨g', σ', H', t, st, r⟩ := p; ⟨g', σ', H', t, st.unX hX, r⟩
theorem Err.unX {g : Heap} {Xl Xl' : List (Addr × Obj)} {XY : XP} {e : Value} {s : Shared} (p : Err cx fr tn g Xl' XY e s) (hX : ∀ q ∈ Xl, q ∈ Xl') : Err cx fr tn g Xl XY e s := by
  obtain ⟨g', ea, cls, σ', H', δ, t, h1, h2, h3, h4, h5, h6⟩ := p
  refine ⟨g', ea, cls, σ', H', δ, t, h1, h2, h3, h4, h5, ?_⟩
  rcases h6 with ⟨z, hh, vs, m, news, a, b, c, d, M⟩ | ⟨z, G, t, vs, m, news, a, b, c, d, M⟩
  · exact .inl ⟨z, hh, vs, m, news, a, b, c, d, M.unX hX⟩
  · exact .inr ⟨z, G, t, vs, m, news, a, b, c, d, M.unX hX⟩
theorem Match.lock {news : List (Addr × Obj)} {Xl : List (Addr × Obj)} {δ : Addr → Addr} {h₀ hp : Heap} {Lx : Addr} {q : Addr} {o : Obj} (N : News h₀ Lx hp news) (M : Match cx news H Xl δ) (hf : ∀ o, (q, o) ∉ news) : Match cx ((q, o) :: news) H ((q, o) :: Xl) δ := by
  have M' := M.more (o := o) hf
  refine ⟨M'.nd, M'.L, M'.T, M'.I, M'.inj, M'.D, M'.B, fun p hp => ?_⟩
  rcases List.mem_cons.mp hp with rfl | hp
  · refine ⟨by simp, M.free N hf, fun b hb e => ?_⟩
    obtain ⟨x, hx⟩ := Option.ne_none_iff_exists'.mp hb
    obtain ⟨_, ⟨es, k, h2, _⟩, _⟩ := M.I b x.1 x.2 hx
    exact hf _ (by rw [← (show δ b = q from e)]; exact h2)
  · exact M'.X p hp
theorem T_methStar (T : Tabs cx) (o : fr.Ok h) (hXX : ∀ c H, X c H → XX.fly c σ H) {m : String} {e e2 : Expr} {apos sp pos : Pos} {Q : AV → AH → Prop} (hne : notCall e = true)
    (h1 : SemT cx fr tn XX (eval e fr.env) σ H fun v σ₁ H₁ => σ₁ = σ ∧ ∃ f x C fs, v = .ref x ∧ H₁.I x = some (C, fs) ∧ fs.lookup m = none ∧ bndtab C m = some f ∧
      SemT cx fr tn XX (eval e2 fr.env) σ₁ H₁ (VR σ fun b H₂ => ∃ t vs, b = .ref t ∧ H₂.T t = some vs ∧ vs.length ≤ 1000 ∧ CallOK cx h tn (.ref f) (.ref x :: vs) H₂ Q X)) :
    SemT cx fr tn XX (eval (.Call (.Attribute e (Str.ofString m) apos) [.Starred e2 sp] [] pos) fr.env) σ H (VR σ Q) := fun g Xl s hs => by
  have hb : attributeBase e (Str.ofString m) fr.env (eval e fr.env) = eval e fr.env := by cases e <;> first | rfl | cases hne
  have he : eval (.Call (.Attribute e (Str.ofString m) apos) [.Starred e2 sp] [] pos) fr.env = (do
      let ov ← eval e fr.env
      standAt apos.atName
      let x ← holding [ov] (do pure (← getAttr ov (Str.ofString m) true, ([] : List Value)))
      callWith pos x.1 x.2 (backTo pos [(true, eval e2 fr.env)]) []) := by
    show (do
      let ov ← attributeBase e (Str.ofString m) fr.env (eval e fr.env)
      standAt apos.atName
      methodCall e (Str.ofString m) apos pos fr.env ov 1 (backTo pos [(true, eval e2 fr.env)]) []) = _
    rw [hb]
    rfl
  rw [he]
  refine wpAny_bind (wpAny_mono (h1 g Xl s hs) (fun v s₁ p1_ => wpAny_bind (wpAny_standAt ?_)) fun _ _ e => e)
  obtain ⟨g₁, σ₁, H₁, tr, st, eσ₁, f, x, C, fs, hv, hI, hl, hm, h2⟩ := p1_
  subst hv eσ₁
  obtain ⟨mm, news, δ, F, N, lm, M⟩ := st.ex
  obtain ⟨k1, ⟨es, n, k2, k3⟩, k4, k5⟩ := M.I x C fs hI
  have hbd := T.bnd _ _ _ hm
  unfold bndOk at hbd
  simp only [Bool.and_eq_true, beq_iff_eq, Bool.not_eq_true'] at hbd
  refine wpAny_bind (wpAny_holding (wpAny_bind (kbm_bound F st.gg.kin N (InstAt.of_news N k1 k2) hbd.1.1.1.1.1.1.1 hbd.1.1.1.1.1.1.2 hbd.1.1.1.1.1.2 hbd.1.1.1.1.2 hbd.1.1.1.2 hbd.1.1.2 hbd.1.2 (k3.miss hl) fun q h' F' N' hlt => wpAny_pure ?_)))
  dsimp only
  have hf := fresh_of_lt hlt
  have st₂ : St cx fr g₁ ((q, methodObj (.ref f) (.ref x)) :: Xl) σ₁ H₁ { s₁ with heap := h', toks := s₁.toks + 1 } := ⟨st.gg, ⟨mm, _, δ, F', N', lm, M.lock N hf⟩, st.gens, st.os⟩
  have hX : ∀ z ∈ Xl, z ∈ (q, methodObj (.ref f) (.ref x)) :: Xl := fun z hz => List.mem_cons_of_mem _ hz
  show wpAny _ _ (callWith pos (.ref q) [] [(true, (do let v ← eval e2 fr.env; standAt pos; pure v))] []) _ _ _
  refine ks_call (P := MethP cx.K q f (.ref x)) rfl (keeps_M hbd.2) (ks_lone ?_)
  refine h2.useV st₂ (fun b s₃ g₃ H₃ av tr₃ st₃ hav p1_ => ?_) fun _ _ e => (e.unX hX).trans tr
  obtain ⟨t, vs, hav', hT, hlen, hc⟩ := p1_
  subst hav'
  obtain rfl := hav.toR
  obtain ⟨m₃, news₃, δ₃, F₃, N₃, lm₃, M₃⟩ := st₃.ex
  obtain ⟨ws, hw, hsim⟩ := M₃.T t vs hT
  have hq := (M₃.X _ (List.mem_cons_self)).1
  refine star_seq (ws := ws) F₃ N₃ hw rfl rfl (.inr rfl) rfl (by rw [List.size_toArray, hsim.length]; exact line1000 hlen) fun h'' F'' N'' => ⟨methP N'' hq (st₃.gg.kin.keeps F''.keep), ?_⟩
  have st₄ : St cx fr g₃ ((q, methodObj (.ref f) (.ref x)) :: Xl) σ₁ H₃ { s₃ with heap := h'' } := ⟨st₃.gg, ⟨m₃, news₃, δ₃, F'', N'', lm₃, M₃⟩, st₃.gens, st₃.os⟩
  refine call_meth N'' hq (codeAny_mono (hc fr fr.A g₃ _ σ₁ _ (.ref x :: ws) o.acall ⟨.ref x, hsim⟩ st₄) fun r s' p => ?_)
  cases p with
  | ret v s' p => exact (Post.unX p hX).trans (tr.trans tr₃)
  | err e s' p => exact (Err.unX (p.to st₄.gg hXX) hX).trans (tr.trans tr₃)
end
section
variable {cx : Cx} {fr : Frm} {tn : Bool} {σ : Loc} {H : AH} {h : Nat}
theorem news_turn {pre post : List (Addr × Obj)} {g hp hp' : Heap} {L I : Addr} {o o' : Obj} (N : News g L hp (pre ++ (I, o) :: post)) (h1 : ∀ p ∈ pre, p.1 ≠ I) (h2 : ∀ p ∈ post, p.1 ≠ I)
    (hk : ∀ b o, b ∉ [I] → hp.get? b = some o → hp'.get? b = some o) (hI : hp'.get? I = some o') : News g L hp' (pre ++ (I, o') :: post) := by
  intro p hp₁
  rcases List.mem_append.mp hp₁ with q | q
  · have := N p (by simp [q])
    exact ⟨hk _ _ (by simpa using h1 p q) this.1, this.2⟩
  · rcases List.mem_cons.mp q with rfl | q
    · have := N (I, o) (by simp)
      exact ⟨hI, this.2⟩
    · have := N p (by simp [q])
      exact ⟨hk _ _ (by simpa using h2 p q) this.1, this.2⟩
theorem Match.turnX {pre post : List (Addr × Obj)} {Xl : List (Addr × Obj)} {δ : Addr → Addr} {I : Addr} {o o' : Obj} (M : Match cx (pre ++ (I, o) :: post) H ((I, o) :: Xl) δ) (hX : ∀ q ∈ Xl, q.1 ≠ I) :
    Match cx (pre ++ (I, o') :: post) H ((I, o') :: Xl) δ := by
  obtain ⟨_, hf, hδ⟩ := M.X (I, o) (List.mem_cons_self)
  dsimp only at hf hδ
  refine ⟨nd_turn M.nd, ?_, ?_, ?_, M.inj, ?_, ?_, ?_⟩
  · intro b ys hb; obtain ⟨h1, ws, k, h2, h3⟩ := M.L b ys hb; exact ⟨h1, ws, k, mem_turn (hf.neL hb).symm h2, h3⟩
  · intro b ys hb; obtain ⟨ws, h2, h3⟩ := M.T b ys hb; exact ⟨ws, mem_turn (hf.neT hb).symm h2, h3⟩
  · intro b C fs hb
    obtain ⟨h1, ⟨es, k, h2, h3⟩, h4, h5⟩ := M.I b C fs hb
    exact ⟨mem_turn (hf.neI hb).symm h1, ⟨es, k, mem_turn (hδ b (by rw [hb]; simp)) h2, h3⟩, h4, h5⟩
  · intro b es hb; obtain ⟨⟨h0, o, kvs, h1, h2, h25, h26, h27⟩, h3⟩ := M.D b es hb; exact ⟨⟨h0, o, kvs, mem_turn (hf.neD hb).symm h1, h2, h25, h26, h27⟩, h3⟩
  · intro q l hb; exact mem_turn (hf.neB hb).symm (M.B q l hb)
  · intro q hq
    rcases List.mem_cons.mp hq with rfl | hq
    · exact ⟨by simp, hf, hδ⟩
    · obtain ⟨h1, h2⟩ := M.X q (List.mem_cons_of_mem _ hq)
      exact ⟨mem_turn (hX q hq) h1, h2⟩
theorem St.turnX {g : Heap} {Xl : List (Addr × Obj)} {s : Shared} {I : Addr} {o o' : Obj} {h' : Heap} {tk : Nat} (st : St cx fr g ((I, o) :: Xl) σ H s) (hX : ∀ q ∈ Xl, q.1 ≠ I)
    (hk : ∀ b o, b ∉ [I] → s.heap.get? b = some o → h'.get? b = some o) (hI : h'.get? I = some o') : St cx fr g ((I, o') :: Xl) σ H { s with heap := h', toks := tk } := by
  obtain ⟨m, news, δ, F, N, lm, M⟩ := st.ex
  have hm := (M.X _ (List.mem_cons_self)).1
  have hz := N _ hm
  obtain ⟨pre, post, rfl, p1, p2⟩ := mem_split M.nd hm
  exact ⟨st.gg, ⟨m, _, δ, LCg.fr_but F hk (fun e => hz.2.1 e.symm) hz.2.2, news_turn N p1 p2 hk hI, lm, M.turnX hX⟩, st.gens, st.os⟩
noncomputable def Off (H : AH) (δ : Addr → Addr) (a : Addr) : Prop := H.free a ∧ ∀ b, H.I b ≠ none → δ b ≠ a
theorem Match.drop {news : List (Addr × Obj)} {Xl Xl' : List (Addr × Obj)} {δ : Addr → Addr} (M : Match cx news H Xl' δ) (ads : List Addr) (hoff : ∀ a ∈ ads, Off H δ a) (hX : ∀ q ∈ Xl, q ∈ Xl' ∧ q.1 ∉ ads) :
    Match cx (news.filter (fun p => decide (p.1 ∉ ads))) H Xl δ := by
  have keep : ∀ {a : Addr} {o : Obj}, a ∉ ads → (a, o) ∈ news → (a, o) ∈ news.filter (fun p => decide (p.1 ∉ ads)) := fun h1 h2 => List.mem_filter.mpr ⟨h2, by simpa using h1⟩
  refine ⟨List.Nodup.sublist (List.filter_sublist.map _) M.nd, ?_, ?_, ?_, M.inj, ?_, ?_, ?_⟩
  · intro b ys hb; obtain ⟨h1, ws, k, h2, h3⟩ := M.L b ys hb; exact ⟨h1, ws, k, keep (fun e => (hoff _ e).1.neL hb rfl) h2, h3⟩
  · intro b ys hb; obtain ⟨ws, h2, h3⟩ := M.T b ys hb; exact ⟨ws, keep (fun e => (hoff _ e).1.neT hb rfl) h2, h3⟩
  · intro b C fs hb
    obtain ⟨h1, ⟨es, k, h2, h3⟩, h4, h5⟩ := M.I b C fs hb
    exact ⟨keep (fun e => (hoff _ e).1.neI hb rfl) h1, ⟨es, k, keep (fun e => (hoff _ e).2 b (by rw [hb]; simp) rfl) h2, h3⟩, h4, h5⟩
  · intro b es hb; obtain ⟨⟨h0, o, kvs, h1, h2, h25, h26, h27⟩, h3⟩ := M.D b es hb; exact ⟨⟨h0, o, kvs, keep (fun e => (hoff _ e).1.neD hb rfl) h1, h2, h25, h26, h27⟩, h3⟩
  · intro q l hb; exact keep (fun e => (hoff _ e).1.neB hb rfl) (M.B q l hb)
  · intro q hq
    obtain ⟨h1, h2⟩ := hX q hq
    obtain ⟨h3, h4⟩ := M.X q h1
    exact ⟨keep h2 h3, h4⟩
noncomputable def AH.dropL (H : AH) (l : Addr) : AH := { H with L := fun b => if b = l then none else H.L b }
inductive LockL (cx : Cx) (H : AH) (news Xl : List (Addr × Obj)) (δ : Addr → Addr) (l : Addr) (xs : List AV) : Prop
  | mk (vs : List Value) (n : Nat) (hm : (l, W.listOf vs.toArray n) ∈ news) (hs : SimL vs xs) (hb : xs.length ≤ 1000) (M' : Match cx news (H.dropL l) ((l, W.listOf vs.toArray n) :: Xl) δ) (hX : ∀ q ∈ Xl, q.1 ≠ l)
theorem Match.lockL {news : List (Addr × Obj)} {Xl : List (Addr × Obj)} {δ : Addr → Addr} {h₀ hp : Heap} {Lx l : Addr} {xs : List AV} (N : News h₀ Lx hp news) (M : Match cx news H Xl δ) (hl : H.L l = some xs) :
    LockL cx H news Xl δ l xs := by
  obtain ⟨hb, vs, n, hm, hs⟩ := M.L l xs hl
  have ne : ∀ {b : Addr} {o : Obj}, (b, o) ∈ news → o.cls ≠ .type "list" → b ≠ l := fun hb hc e => by
    subst e
    have := mem_uniq N hb hm
    exact hc (by rw [this])
  refine ⟨vs, n, hm, hs, hb, ⟨M.nd, ?_, M.T, M.I, M.inj, M.D, M.B, fun q hq => ?_⟩, fun q hq => (M.X q hq).2.1.neL hl⟩
  · intro b ys hb
    by_cases e : b = l
    · simp [AH.dropL, e] at hb
    · simp [AH.dropL, e] at hb; exact M.L b ys hb
  · rcases List.mem_cons.mp hq with rfl | hq
    · refine ⟨hm, ⟨by simp [AH.dropL], ?_, ?_, ?_, ?_⟩, ?_⟩
      · cases e : H.I l with
        | none => exact e
        | some p => obtain ⟨C, fs⟩ := p; exact absurd rfl (ne (M.I l C fs e).1 (by simp))
      · cases e : H.T l with
        | none => exact e
        | some p => obtain ⟨ws, h1, _⟩ := M.T l p e; exact absurd rfl (ne h1 (by simp))
      · cases e : H.D l with
        | none => exact e
        | some p => obtain ⟨⟨_, o, kvs, h1, h2, _⟩, _⟩ := M.D l p e; exact absurd rfl (ne h1 (by rw [h2]; simp))
      · cases e : H.B l with
        | none => exact e
        | some p => exact absurd rfl (ne (M.B l p e) (by simp))
      · intro b hb e
        obtain ⟨x, hx⟩ := Option.ne_none_iff_exists'.mp hb
        obtain ⟨_, ⟨es, k, h2, _⟩, _⟩ := M.I b x.1 x.2 hx
        exact ne h2 (by simp) e
    · obtain ⟨h1, ⟨h2, h3⟩, h4⟩ := M.X q hq
      exact ⟨h1, ⟨by simp [AH.dropL]; intro _; exact h2, h3⟩, h4⟩
theorem Match.unlockL {news : List (Addr × Obj)} {Xl : List (Addr × Obj)} {δ : Addr → Addr} {l : Addr} {vs : List Value} {n : Nat} {xs : List AV} (M : Match cx news H ((l, W.listOf vs.toArray n) :: Xl) δ) (hs : SimL vs xs) (hb : xs.length ≤ 1000) (hX : ∀ q ∈ Xl, q.1 ≠ l) :
    Match cx news (H.setL l xs) Xl δ := by
  have hm := (M.X _ (List.mem_cons_self)).1
  refine ⟨M.nd, ?_, M.T, M.I, M.inj, M.D, M.B, fun q hq => ?_⟩
  · intro b ys hb'
    by_cases e : b = l
    · subst e; simp [AH.setL] at hb'; subst hb'; exact ⟨hb, vs, n, hm, hs⟩
    · simp [AH.setL, upd_ne _ _ e] at hb'; exact M.L b ys hb'
  · obtain ⟨h1, h2, h3⟩ := M.X q (List.mem_cons_of_mem _ hq)
    exact ⟨h1, h2.setL (hX q hq), h3⟩
abbrev XN : XP := ⟨fun _ _ _ => False, fun _ _ _ => False⟩
theorem Err.none {g : Heap} {Xl : List (Addr × Obj)} {e : Value} {s : Shared} (x : Err cx fr tn g Xl XN e s) : False := by
  obtain ⟨g', ea, cls, σ', H', δ, tr, he, hg, ho, tt, gg, hc⟩ := x
  rcases hc with ⟨hX, _⟩ | ⟨hX, _⟩ <;> exact hX
theorem key_eval (T : Tabs cx) (o : fr.Ok h) {scope : Scope} {cl : List (Str × Addr)} {C : Addr} {p1 apos cpos : Pos} {g : Heap} {Xl : List (Addr × Obj)} {s : Shared} {m₂ : Str → Option Value} {e : Addr} {k : Int}
    (st : St cx fr g Xl σ H s) (hn : s.heap.Ns C m₂) (hv : m₂ (Str.ofString "elt") = some (.ref e)) (hkind : scope.kind = .function) (hx : scope.names.lookup (Str.ofString "elt") = some .local) (hp : apos.endLine = cpos.line)
    (hI : H.I e = some (571, [("_key", .int k)])) (hc : CallOK cx h false (.ref 568) [.ref e] H (fun v H' => v = .int k ∧ H' = H) fun _ _ => False) :
    wpAny (model cx.prog cx.w) fr.A (eval (.Call (.Attribute (.Name (Str.ofString "elt") p1) (Str.ofString "key") apos) [] [] cpos) (compEnvC scope cl C fr.env)) (Post cx fr false g Xl (VR σ fun v H' => v = .int k ∧ H' = H)) (fun _ _ => False) s := by
  refine MethodCall_ (pl := do return (← importBound (.Name (Str.ofString "elt") p1) (compEnvC scope cl C fr.env)).getD true) ?_ ?_
  · refine wpAny_Name (wpAny_loadName_local (by exact hkind) (lookup_relabel_local hx) hn hv ?_) (by decide)
    have hmt := T.mt 571 "key" 568 rfl
    have hk := (methIn_spec hmt).2.2.2
    have S : ∀ pl : Sem Bool, SemT cx fr false XN (getMethod (.ref e) (Str.ofString "key") pl) σ H (fun fx σ₂ H₂ => SemT cx fr false XN (callWith cpos fx.1 fx.2 (backTo cpos (starEach [] fr.env)) []) σ₂ H₂ (VR σ fun v H' => v = .int k ∧ H' = H)) := fun pl => by
      refine T_method hI hmt rfl ?_
      refine T_callWith (P := cx.K.In) rfl (keeps_K hk) ?_
      refine T_splicedNil ⟨fun g Xl s st => ?_, T_call (X := fun _ _ => False) o hc (show SimL [.ref e] [.ref e] from ⟨.ref e, trivial⟩) fun _ _ q => q⟩
      obtain ⟨m, news, δ, F, _⟩ := st.ex
      exact st.gg.kin.keeps F.keep
    refine wpAny_mono (S _ g Xl s st) (fun fx s₂ p => ?_) fun _ _ e => e.none
    obtain ⟨g₂, σ₂, H₂, tr, st₂, r⟩ := p
    refine wpAny_mono (r g₂ Xl s₂ st₂) (fun v s₃ p => p.trans tr) fun _ _ e => e.none
  · show (do
      let ov ← attributeBase (.Name (Str.ofString "elt") p1) (Str.ofString "key") (compEnvC scope cl C fr.env) (eval (.Name (Str.ofString "elt") p1) (compEnvC scope cl C fr.env))
      standAt apos.atName
      methodCall (.Name (Str.ofString "elt") p1) (Str.ofString "key") apos cpos (compEnvC scope cl C fr.env) ov 0 (backTo cpos (starEach [] (compEnvC scope cl C fr.env))) []) = _
    unfold methodCall calleeOf methodCallPos
    have hform : methodCallForm 0 (backTo cpos (starEach [] (compEnvC scope cl C fr.env))) [] = true := rfl
    rw [hform]
    simp [hp]
    rfl
theorem St.lock {g : Heap} {Xl : List (Addr × Obj)} {s : Shared} {a : Addr} {o : Obj} {h' : Heap} {tk : Nat} (st : St cx fr g Xl σ H s) (ha : s.heap.get? a = none) (hlt : a ≠ fr.L) (hk : ∀ b o, s.heap.get? b = some o → h'.get? b = some o) (hn : h'.get? a = some o) :
    St cx fr g ((a, o) :: Xl) σ H { s with heap := h', toks := tk } := by
  obtain ⟨m, news, δ, F, N, lm, M⟩ := st.ex
  have hf : ∀ o, (a, o) ∉ news := fun o hm => by have := (N _ hm).1; rw [ha] at this; cases this
  have hg : g.get? a = none := by
    cases e : g.get? a with
    | none => rfl
    | some o' => have := F.keep a o' e; rw [ha] at this; cases this
  refine ⟨st.gg, ⟨m, _, δ, F.keeps hk, fun p hp => ?_, lm, M.lock N hf⟩, st.gens, st.os⟩
  rcases List.mem_cons.mp hp with rfl | hp
  · exact ⟨hn, hlt, hg⟩
  · exact ⟨hk _ _ (N p hp).1, (N p hp).2⟩
theorem St.locked {g : Heap} {Xl : List (Addr × Obj)} {s : Shared} (st : St cx fr g Xl σ H s) {q : Addr × Obj} (hq : q ∈ Xl) : s.heap.get? q.1 = some q.2 ∧ q.1 ≠ fr.L := by
  obtain ⟨m, news, δ, F, N, lm, M⟩ := st.ex
  have := N _ (M.X q hq).1
  exact ⟨this.1, this.2.1⟩
theorem St.L_lt {g : Heap} {Xl : List (Addr × Obj)} {s : Shared} (st : St cx fr g Xl σ H s) : fr.L < s.heap.objs.size := by
  obtain ⟨m, news, δ, F, N, lm, M⟩ := st.ex
  exact F.ns.lt
theorem St.leave {g : Heap} {Xl : List (Addr × Obj)} {s : Shared} {I : Addr} {o : Obj} {h' : Heap} {tk : Nat} (st : St cx fr g ((I, o) :: Xl) σ H s) (hX : ∀ q ∈ Xl, q.1 ≠ I)
    (hk : ∀ b o, b ∉ [I] → s.heap.get? b = some o → h'.get? b = some o) : St cx fr g Xl σ H { s with heap := h', toks := tk } := by
  obtain ⟨m, news, δ, F, N, lm, M⟩ := st.ex
  have hm := M.X _ (List.mem_cons_self)
  have hz := N _ hm.1
  refine ⟨st.gg, ⟨m, _, δ, LCg.fr_but F hk (fun e => hz.2.1 e.symm) hz.2.2, fun p hp => ?_, lm, M.drop [I] (fun a ha => by rw [List.mem_singleton.mp ha]; exact hm.2) (fun q hq => ⟨List.mem_cons_of_mem _ hq, by simpa using hX q hq⟩)⟩, st.gens, st.os⟩
  obtain ⟨h1, h2⟩ := List.mem_filter.mp hp
  have h2 : p.1 ∉ [I] := of_decide_eq_true h2
  exact ⟨hk _ _ h2 (N p h1).1, (N p h1).2⟩
theorem SimL.snoc {vs : List Value} {as : List AV} {v : Value} {a : AV} (h : SimL vs as) (h' : Sim v a) : SimL (vs ++ [v]) (as ++ [a]) := h.append ⟨h', trivial⟩
inductive KeyAt (H : AH) (v : Value) (ns : List Int) (i : Nat) : Prop
  | mk (e : Addr) (k : Int) (ev : v = .ref e) (hI : H.I e = some (571, [("_key", .int k)])) (hn : ns[i]? = some k)
theorem keys_at {xs : List AV} {ns : List Int} (hk : KeysL H xs ns) : ∀ {vs : List Value} {i : Nat} {v : Value}, SimL vs xs → vs[i]? = some v → KeyAt H v ns i := by
  induction hk with
  | nil =>
    intro vs i v hs h
    cases vs with
    | nil => cases h
    | cons => exact hs.elim
  | cons hI r ih =>
    intro vs i v hs h
    cases vs with
    | nil => exact hs.elim
    | cons w vs =>
      cases i with
      | zero => cases h; exact ⟨_, _, hs.1.toR, hI, rfl⟩
      | succ i => cases ih (i := i) hs.2 h with
        | mk e k a b c => exact ⟨e, k, a, b, c⟩
theorem keys_len {xs : List AV} {ns : List Int} (hk : KeysL H xs ns) : ns.length = xs.length := by
  induction hk with
  | nil => rfl
  | cons _ _ ih => exact congrArg Nat.succ ih
theorem all_cons {α : Type} {P : α → Prop} {a : α} {l : List α} (h : P a) (t : ∀ q ∈ l, P q) : ∀ q ∈ a :: l, P q := List.forall_mem_cons.mpr ⟨h, t⟩
theorem sw2 {α : Type} {a b : α} {l : List α} : ∀ q ∈ b :: a :: l, q ∈ a :: b :: l := fun q hq => (List.Perm.swap _ _ _).subset hq
theorem sw3 {α : Type} {a b c : α} {l : List α} : ∀ q ∈ c :: b :: a :: l, q ∈ a :: b :: c :: l := fun q hq => (((List.Perm.swap _ _ _).trans ((List.Perm.swap _ _ _).cons _)).trans (List.Perm.swap _ _ _)).subset hq
theorem rot3 {α : Type} {a b c : α} {l : List α} : ∀ q ∈ b :: c :: a :: l, q ∈ a :: b :: c :: l := fun q hq => (((List.Perm.swap _ _ _).cons _).trans (List.Perm.swap _ _ _)).subset hq
inductive CInv (cx : Cx) (fr : Frm) (g : Heap) (Xl : List (Addr × Obj)) (σ : Loc) (H : AH) (I C D l : Addr) (vs : List Value) (ns : List Int) (k : Nat) (s' : Shared) : Prop
  | mk (i : Nat) (ys : List Value) (oI oC : Obj) (m : Str → Option Value) (hi : i ≤ vs.length) (hk : k = vs.length + 1 - i) (hyl : ys.length = i) (hys : SimL ys ((ns.take i).map .int)) (hit : s'.heap.IsListIter I l i) (hoC : LCg.NsObj oC m)
    (st : St cx fr g ((I, oI) :: (C, oC) :: (D, LCg.lst ys) :: Xl) σ H s')
theorem comp_loop (T : Tabs cx) (o : fr.Ok h) {scope : Scope} {cl : List (Str × Addr)} {p1 apos cpos p2 pos : Pos} {iter : Expr} {g : Heap} {Xl : List (Addr × Obj)} {s : Shared} {I C D l : Addr} {vs : List Value} {xs : List AV} {ns : List Int} {R : Result → Shared → Prop}
    (hkind : scope.kind = .function) (hx : scope.names.lookup (Str.ofString "elt") = some .local) (hp : apos.endLine = cpos.line)
    (hIC : I ≠ C) (hID : I ≠ D) (hIl : l ≠ I) (hCD : C ≠ D) (hLL : ∀ {Xl' σ s}, St cx fr g Xl' σ H s → (∀ q ∈ Xl, q ∈ Xl') → s.heap.IsList l vs.toArray) (hX : ∀ q ∈ Xl, q.1 ≠ I ∧ q.1 ≠ C ∧ q.1 ≠ D) (hs : SimL vs xs) (hk : KeysL H xs ns) (hb : xs.length ≤ 1000)
    (hc : ∀ e k, H.I e = some (571, [("_key", .int k)]) → CallOK cx h false (.ref 568) [.ref e] H (fun v H' => v = .int k ∧ H' = H) fun _ _ => False)
    {oI oC : Obj} {m : Str → Option Value} (st : St cx fr g ((I, oI) :: (C, oC) :: (D, LCg.lst []) :: Xl) σ H s) (hit : s.heap.IsListIter I l 0) (hoC : LCg.NsObj oC m)
    (hR : ∀ s' ys oC m, St cx fr g ((C, oC) :: (D, LCg.lst ys) :: Xl) σ H s' → LCg.NsObj oC m → SimL ys (ns.map .int) → R (.ok .next) s') :
    codeAny (model cx.prog cx.w) fr.A (.compLoop (.ListComp (.Call (.Attribute (.Name (Str.ofString "elt") p1) (Str.ofString "key") apos) [] [] cpos) [⟨.Name (Str.ofString "elt") p2, iter, [], 0⟩] scope pos) 0 (.ref I) (.ref D) (compEnvC scope cl C fr.env)) R s := by
  have hn1 : ns.length = xs.length := keys_len hk
  have hn2 : vs.length = xs.length := hs.length
  refine codeAny_compLoop_tests (CInv cx fr g Xl σ H I C D l vs ns) ?_ (vs.length + 1) ⟨0, [], oI, oC, m, Nat.zero_le _, rfl, rfl, trivial, hit, hoC, st⟩
  intro k s' hinv
  cases hinv with
  | mk i ys oI oC m hi hk' hyl hys hit hoC st =>
  subst hk'
  have hlist : s'.heap.IsList l vs.toArray := hLL st fun q hq => List.mem_cons_of_mem _ (List.mem_cons_of_mem _ (List.mem_cons_of_mem _ hq))
  have Wk := Walks.list (prog := cx.prog) (w := cx.w) (A := fr.A) o.handled I l hIl vs.toArray
  have hXI : ∀ q ∈ (C, oC) :: (D, LCg.lst ys) :: Xl, q.1 ≠ I :=
    all_cons hIC.symm (all_cons hID.symm fun q hq => (hX q hq).1)
  by_cases hlt : i < vs.length
  · refine Wk.item i _ _ _ (by simpa using hlt) ⟨hit, hlist⟩ fun v h₂ tk₂ hPv hst₂ hk₂ => ?_
    obtain ⟨oI', heI, hoI⟩ := hst₂.1
    have st₂ := st.turnX (tk := tk₂) hXI hk₂ heI
    have st₂' := st₂.unX sw2
    refine wpAny_assign_Name (wpAny_storeName_local (lookup_relabel_local hx) (hoC.ns (st₂'.locked (q := (C, oC)) (by simp)).1) (fun h₃ hn₃ hs₃ => ?_) (by simp [compEnvC, relabel, hkind]))
    obtain ⟨oC', heC, hoC'⟩ := LCg.ns_obj hn₃
    have hXC : ∀ q ∈ (I, oI') :: (D, LCg.lst ys) :: Xl, q.1 ≠ C :=
      all_cons hIC (all_cons hCD.symm fun q hq => (hX q hq).2.1)
    have st₃ := st₂'.turnX (tk := tk₂ + 1) (h' := h₃) hXC (fun b o hb e => hs₃.extBut b o (fun q : b = C => hb (List.mem_singleton.mpr q)) e) heC
    refine wpAny_tests_nil ?_
    simp only [if_true]
    cases keys_at hk hs (v := v) (i := i) (by simpa using hPv) with
    | mk e k ev hIe hnk =>
    subst ev
    refine wpAny_mono (key_eval T o st₃ hn₃ (by simp) hkind hx hp hIe (hc e k hIe)) (fun y s₄ p => ?_) fun _ _ q => q.elim
    obtain ⟨g₄, σ₄, H₄, tr, st₄, r⟩ := p
    obtain rfl : g₄ = g := tr.1 rfl
    obtain ⟨rfl, av, hva, rfl, rfl⟩ := r
    have st₄' := st₄.unX sw3
    have hXD : ∀ q ∈ (I, oI') :: (C, oC') :: Xl, q.1 ≠ D :=
      all_cons hID (all_cons hCD fun q hq => (hX q hq).2.2)
    refine append_at (hsz := by show ys.toArray.size ≤ sizeLine; rw [List.size_toArray, hyl]; have : (1000 : Nat) ≤ sizeLine := by decide
                                lia) (st₄'.locked (q := (D, LCg.lst ys)) (by simp)).1 fun h₅ hs₅ hD₅ => ?_
    have st₅ := st₄'.turnX (tk := s₄.toks) (h' := h₅) (o' := LCg.lst (ys ++ [y])) hXD (fun b o hb e => hs₅.extBut b o (by simpa using hb) e) (hD₅.trans (congrArg some (LCg.lst_snoc ys y)))
    refine ⟨vs.length + 1 - (i + 1), by lia, i + 1, ys ++ [y], oI', oC', _, hlt, rfl, by rw [List.length_append, List.length_singleton, hyl], ?_, ⟨oI', (st₅.locked (q := (I, oI')) (by simp)).1, hoI⟩, hoC', st₅.unX rot3⟩
    have : ns.take (i + 1) = ns.take i ++ [k] := by rw [List.take_add_one, hnk]; rfl
    rw [this, List.map_append]
    exact hys.snoc hva
  · obtain rfl : i = vs.length := by lia
    refine Wk.done _ _ _ (by simpa using ⟨hit, hlist⟩) fun h₂ tk₂ hk₂ => ?_
    refine hR _ ys oC m (st.leave hXI hk₂) hoC ?_
    rw [List.take_of_length_le (by lia)] at hys
    exact hys
theorem KeysL.dropL {l : Addr} {xs : List AV} {ns : List Int} (hk : KeysL H xs ns) : KeysL (H.dropL l) xs ns := by
  induction hk with
  | nil => exact .nil
  | cons hI _ ih => exact .cons hI ih
theorem T_keys {XX : XP} (T : Tabs cx) (o : fr.Ok h) {scope : Scope} {p1 apos cpos p2 p3 pos : Pos} {x : String} {l : Addr} {xs : List AV} {ns : List Int} {Q : AV → AH → Prop}
    (hkind : scope.kind = .function) (hnm : scope.names = [(Str.ofString ".0", .local), (Str.ofString "elt", .local)]) (hp : apos.endLine = cpos.line)
    (h2 : fr.scope.names.lookup (Str.ofString x) = some .local) (h3 : (Str.ofString x == ("__debug__" : Str)) = false)
    (hσ : σ x = some (.ref l)) (hl : H.L l = some xs) (hk : KeysL H xs ns)
    (hc : ∀ (H₂ : AH) e k, H₂.I e = some (571, [("_key", .int k)]) → CallOK cx h false (.ref 568) [.ref e] H₂ (fun v H' => v = .int k ∧ H' = H₂) fun _ _ => False)
    (hQ : ∀ n, H.free n → Q (.ref n) (H.setL n (ns.map .int))) :
    SemT cx fr tn XX (eval (.ListComp (.Call (.Attribute (.Name (Str.ofString "elt") p1) (Str.ofString "key") apos) [] [] cpos) [⟨.Name (Str.ofString "elt") p2, .Name (Str.ofString x) p3, [], 0⟩] scope pos) fr.env) σ H (VR σ Q) := fun g Xl s st => by
  have hx : scope.names.lookup (Str.ofString "elt") = some .local := by rw [hnm]; decide
  have hnames : ∀ y ∈ scope.names, y.2 = .local → scope.names.lookup y.1 = some .local := by rw [hnm]; decide
  have hcell : ∀ y ∈ scope.names, y.2 ≠ .cell := by rw [hnm]; decide
  have hclos : closureFor scope fr.env = pure [] := by unfold closureFor; rw [hnm]; rfl
  rw [eval_ListComp]
  refine wpAny_comprehension_free (use := none) rfl (by intro _; rfl) hclos hkind hnames ?_
  refine (T_loc (tn := tn) (X := XX) (Q := fun av H' => av = .ref l ∧ H' = H) hσ ⟨rfl, rfl⟩ o.kind h2 h3).useV st (fun xv s₁ g₁ H₁ av tr st₁ hva r => ?_) fun _ _ e => e
  obtain ⟨rfl, rfl⟩ := r
  obtain rfl := hva.toR
  obtain ⟨m, news, δ, F, N, lm, M⟩ := st₁.ex
  obtain ⟨vs, n, hm, hs, hb, M', hne⟩ := M.lockL N hl
  have st₂ : St cx fr g₁ ((l, W.listOf vs.toArray n) :: Xl) σ (H₁.dropL l) s₁ := ⟨st₁.gg, ⟨m, news, δ, F, N, lm, M'⟩, st₁.gens, st₁.os⟩
  have hgl := (st₂.locked (q := (l, W.listOf vs.toArray n)) (by simp)).1
  have hlist : s₁.heap.IsList l vs.toArray := ⟨_, hgl, rfl, n, rfl⟩
  have hlt := st₁.L_lt
  have hXlt : ∀ q ∈ (l, W.listOf vs.toArray n) :: Xl, q.1 < s₁.heap.objs.size := fun q hq => Heap.lt_size (st₂.locked hq).1
  have hll := hXlt (l, W.listOf vs.toArray n) (by simp)
  refine wpAny_pyIter_list hlist ?_
  have stI := st₂.lock (tk := s₁.toks) (a := s₁.heap.objs.size) (o := { cls := .type "list_iterator", data := .fields #[.ref l, .int 0 0] }) (Heap.get?_none_of_le (Nat.le_refl _)) (Nat.ne_of_gt hlt) (fun b o e => Heap.get?_push_of_some _ e) (Heap.get?_push_size _ rfl)
  have hz1 : (s₁.heap.push { cls := .type "list_iterator", data := .fields #[.ref l, .int 0 0] }).objs.size = s₁.heap.objs.size + 1 := Heap.size_push _ _
  generalize s₁.heap.push { cls := .type "list_iterator", data := .fields #[.ref l, .int 0 0] } = H1 at stI hz1 ⊢
  refine wpAny_newObj_type ?_
  have stD := stI.lock (tk := s₁.toks) (a := H1.objs.size) (o := LCg.lst []) (h' := H1.push { cls := .type "list", dict := none, data := .seq ([] : List Value).toArray }) (Heap.get?_none_of_le (Nat.le_refl _)) (Nat.ne_of_gt (by rw [hz1]; exact Nat.lt_succ_of_lt hlt)) (fun b o e => Heap.get?_push_of_some _ e) (Heap.get?_push_size _ rfl)
  have hz2 : (H1.push { cls := .type "list", dict := none, data := .seq ([] : List Value).toArray }).objs.size = s₁.heap.objs.size + 2 := by rw [Heap.size_push, hz1]
  generalize H1.push { cls := .type "list", dict := none, data := .seq ([] : List Value).toArray } = H2 at stD hz2 ⊢
  refine wpAny_newFunctionEnv hcell (by intro y hy; simp at hy) (fun h₁ hns hsb => ?_) hkind
  obtain ⟨oC, heC, hoC⟩ := LCg.ns_obj hns
  have stC := stD.lock (tk := s₁.toks + ([] : List (Str × Value)).length) (a := H2.objs.size) (o := oC) (h' := h₁) (Heap.get?_none_of_le (Nat.le_refl _)) (Nat.ne_of_gt (by rw [hz2]; exact Nat.lt_succ_of_lt (Nat.lt_succ_of_lt hlt))) (fun b o e => hsb.extBut b o (Nat.ne_of_lt (Heap.lt_size e)) (Heap.get?_push_of_some _ e)) heC
  have e1 : H1.objs.size = s₁.heap.objs.size + 1 := hz1
  have stJ := stC.unX (Xl := (s₁.heap.objs.size, { cls := .type "list_iterator", data := .fields #[.ref l, .int 0 0] }) :: (H2.objs.size, oC) :: (H1.objs.size, LCg.lst []) :: (l, W.listOf vs.toArray n) :: Xl) (fun q hq => rot3 _ (rot3 _ hq))
  have hIC : s₁.heap.objs.size ≠ H2.objs.size := Nat.ne_of_lt (by rw [hz2]; exact Nat.lt_succ_of_lt (Nat.lt_succ_self _))
  have hID : s₁.heap.objs.size ≠ H1.objs.size := Nat.ne_of_lt (by rw [hz1]; exact Nat.lt_succ_self _)
  have hCD : H2.objs.size ≠ H1.objs.size := Nat.ne_of_gt (by rw [hz1, hz2]; exact Nat.lt_succ_self _)
  have hIl : l ≠ s₁.heap.objs.size := Nat.ne_of_lt hll
  have hCl : l ≠ H2.objs.size := Nat.ne_of_lt (by rw [hz2]; exact Nat.lt_succ_of_lt (Nat.lt_succ_of_lt hll))
  have hDl : l ≠ H1.objs.size := Nat.ne_of_lt (by rw [hz1]; exact Nat.lt_succ_of_lt hll)
  have hX : ∀ q ∈ Xl, q.1 ≠ s₁.heap.objs.size ∧ q.1 ≠ H2.objs.size ∧ q.1 ≠ H1.objs.size := fun q hq => by
    have := hXlt q (List.mem_cons_of_mem _ hq)
    exact ⟨Nat.ne_of_lt this, Nat.ne_of_lt (by rw [hz2]; exact Nat.lt_succ_of_lt (Nat.lt_succ_of_lt this)), Nat.ne_of_lt (by rw [hz1]; exact Nat.lt_succ_of_lt this)⟩
  have hit : h₁.IsListIter s₁.heap.objs.size l 0 := ⟨_, (stJ.locked (List.mem_cons_self)).1, rfl, rfl⟩
  generalize H1.objs.size = D at *
  generalize H2.objs.size = C at *
  have loop := comp_loop (cl := []) (p1 := p1) (p2 := p2) (iter := .Name (Str.ofString x) p3) (pos := pos) (R := compPost (model cx.prog cx.w) fr.A (Err cx fr tn g Xl XX) none (Post cx fr tn g Xl (VR σ Q)) (.ref D) C) T o hkind hx hp hIC hID hIl hCD (fun st sub => ⟨_, (st.locked (q := (l, W.listOf vs.toArray n)) (sub _ (List.mem_cons_self))).1, rfl, n, rfl⟩) (all_cons ⟨hIl, hCl, hDl⟩ hX) hs hk.dropL hb (fun e k he => hc _ e k he) stJ hit hoC fun s' ys oC m st' hoC' hys => by
    refine ⟨m, hoC'.ns (st'.locked (q := (C, oC)) (by simp)).1, fun h' hs' => ?_⟩
    have stE := st'.leave (tk := s'.toks) (h' := h') (fun q hq => by
      rcases List.mem_cons.mp hq with rfl | hq
      · exact hCD.symm
      rcases List.mem_cons.mp hq with rfl | hq
      · exact hCl
      · exact (hX q hq).2.1) (fun b o hb e => hs'.extBut b o (fun q : b = C => hb (List.mem_singleton.mpr q)) e)
    obtain ⟨m₂, news₂, δ₂, F₂, N₂, lm₂, M₂⟩ := stE.ex
    have hfr := (M₂.X _ (List.mem_cons_self)).2.1
    have hfD : H₁.free D := ⟨by have := hfr.1; simpa [AH.dropL, hDl.symm] using this, hfr.2.1, hfr.2.2.1, hfr.2.2.2.1, hfr.2.2.2.2⟩
    have M3 := Match.unlockL (l := D) (vs := ys) (n := ys.length) M₂ hys (by rw [List.length_map, keys_len hk]; exact hb) fun q hq => by
      rcases List.mem_cons.mp hq with rfl | hq
      · exact hDl
      · exact (hX q hq).2.2
    have M4 := M3.unlockL hs hb hne
    have e4 : ((H₁.dropL l).setL D (ns.map .int)).setL l xs = H₁.setL D (ns.map .int) := by
      show ({ H₁ with L := _ } : AH) = { H₁ with L := _ }
      congr 1
      funext b
      simp only [upd, AH.dropL, AH.setL]
      by_cases q : b = l
      · subst q; simp [hDl, hl]
      · simp [q]
    rw [e4] at M4
    exact ⟨g₁, σ, _, tr, ⟨stE.gg, ⟨m₂, news₂, δ₂, F₂, N₂, lm₂, M4⟩, stE.gens, stE.os⟩, .mk' rfl (.ref D) (.ref D) (hQ D hfD)⟩
  have hl4 : h₁.IsList l vs.toArray := ⟨_, (stJ.locked (q := (l, W.listOf vs.toArray n)) (by simp)).1, rfl, n, rfl⟩
  exact codeAny_compStart_list loop ((Walks.list (prog := cx.prog) (w := cx.w) (A := fr.A) o.handled _ l hIl vs.toArray).self 0 _ _ _ ⟨hit, hl4⟩ loop)
end
section
variable {cx : Cx} {fr : Frm} {tn : Bool} {X : Value → AH → Prop} {XX : XP} {h : Nat}
theorem VR.of {σ : Loc} {R1 : AV → AH → Prop} {R2 : Value → Loc → AH → Prop} (k : ∀ v av H', Sim v av → R1 av H' → R2 v σ H') : ∀ v σ' H', VR σ R1 v σ' H' → R2 v σ' H' := by
  rintro v σ' H' ⟨rfl, av, hv, r⟩
  exact k v av H' hv r
theorem VRs.of {σ : Loc} {R1 : List AV → AH → Prop} {R2 : List Value → Loc → AH → Prop} (k : ∀ v av H', SimL v av → R1 av H' → R2 v σ H') : ∀ v σ' H', VRs σ R1 v σ' H' → R2 v σ' H' := by
  rintro v σ' H' ⟨rfl, av, hv, r⟩
  exact k v av H' hv r
theorem isName_loc {p : PE} (hl : p.isLoc = true) (e : Expr) : isName (toE p e) = true := by cases p <;> first | rfl | cases hl
theorem SemT.evalV {t : Sem Value} {σ : Loc} {H : AH} {Q : AV → AH → Prop} {R : Value → Loc → AH → Prop} (h1 : SemT cx fr tn XX t σ H (VR σ Q)) (k : ∀ v av H', Sim v av → Q av H' → R v σ H') : SemT cx fr tn XX t σ H R := h1.mono (VR.of k)
theorem attr_eq {e : Expr} {a : Str} {pos : Pos} {env : Env} (h : notCall e = true) : eval (.Attribute e a pos) env = (do
      let o ← eval e env
      standAt pos.atName
      let r ← holding [o] (getAttr o a true)
      letTemporaryGo e o r
      pure r) := by cases e <;> first | rfl | cases h
theorem kws_facts {pos : Pos} {env : Env} {ks : List String} : ∀ {ps : PEs} {l : List Keyword}, ks.length = ps.len → (backToKw pos (keywordEach (toKs ps ks l) env)).all (·.1.isSome) = true ∧ (backToKw pos (keywordEach (toKs ps ks l) env)).any (·.1.isNone) = false ∧ (backToKw pos (keywordEach (toKs ps ks l) env)).filterMap (·.1) = ks.map Str.ofString := by
  induction ks with
  | nil =>
    intro ps l h
    cases ps with
    | nil => exact ⟨rfl, rfl, rfl⟩
    | cons => cases h
  | cons k ks ih =>
    intro ps l h
    cases ps with
    | nil => cases h
    | cons p ps =>
      have h := ih (ps := ps) (l := l.tail) (Nat.succ.inj h)
      exact ⟨h.1, h.2.1, congrArg (Str.ofString k :: ·) h.2.2⟩
theorem T_callK {σ : Loc} {H : AH} {Q : AV → AH → Prop} {f : Value} {vs : List Value} {args : List AV} {ks : List String}
    (o : fr.Ok h) (hX : ∀ c H, X c H → XX.fly c σ H) (hc : CallKOK cx h tn f [] ks args H Q X) (hv : SimL vs args) : SemT cx fr tn XX (call f [] ((ks.map Str.ofString).zip vs)) σ H (VR σ Q) := fun g Xl s hs => by
  refine wpAny_call (codeAny_mono (hc fr fr.A g Xl σ s [] vs o.acall trivial hv hs) fun r s' p => ?_)
  cases p with
  | ret v s' p => exact p
  | err e s' p => exact p.to hs.gg hX
noncomputable def methNames (m : String) : Bool := m ∈ ["append", "pop", "insert", "extend", "remove", "get"]
end
section
variable {cx : Cx} {fr : Frm} {tn : Bool} {X : Value → AH → Prop} {XX : XP} {h : Nat}
noncomputable def SE (cx : Cx) (fr : Frm) (tn : Bool) (X : Value → AH → Prop) (XX : XP) (h : Nat) (σ : Loc) (p : PE) : Prop :=
  ∀ (e : Expr) (H : AH) (Q : AV → AH → Prop), okE fr.scope p e = true → wpE cx h tn X p σ H Q → SemT cx fr tn XX (eval (toE p e) fr.env) σ H (VR σ Q)
inductive SEs (cx : Cx) (fr : Frm) (tn : Bool) (X : Value → AH → Prop) (XX : XP) (h : Nat) (σ : Loc) (ps : PEs) : Prop
  | mk (a : ∀ (es : List Expr) (pos : Pos) (H : AH) (Q : List AV → AH → Prop), okEs fr.scope ps es = true → wpEs cx h tn X ps σ H Q → SemT cx fr tn XX (spliced (backTo pos (starEach (toEs ps es) fr.env))) σ H (VRs σ Q))
    (k : ∀ (ks : List String) (l : List Keyword) (pos : Pos) (H : AH) (Q : List AV → AH → Prop), okKs fr.scope ps l = true → wpEs cx h tn X ps σ H Q → SemT cx fr tn XX (evalAll ((backToKw pos (keywordEach (toKs ps ks l) fr.env)).map (·.2))) σ H (VRs σ Q))
    (an : ∀ (es : List Expr) (pos : Pos) (H : AH) (Q : AV → AH → Prop), okEs fr.scope ps es = true → wpA cx h tn X ps σ H Q → SemT cx fr tn XX (eval (.BoolOp .And (toEs ps es) pos) fr.env) σ H (VR σ Q))
    (or : ∀ (es : List Expr) (pos : Pos) (H : AH) (Q : AV → AH → Prop), okEs fr.scope ps es = true → wpO cx h tn X ps σ H Q → SemT cx fr tn XX (eval (.BoolOp .Or (toEs ps es) pos) fr.env) σ H (VR σ Q))
section
variable {σ : Loc}
theorem e_loc (o : fr.Ok h) {x : String} : SE cx fr tn X XX h σ (.loc x) := fun e H Q he hw => by
  obtain ⟨v, hv, hQ⟩ := hw
  exact T_loc hv hQ o.kind (okL_ he).1 (okL_ he).2
theorem e_glob (T : Tabs cx) (o : fr.Ok h) {x : String} : SE cx fr tn X XX h σ (.glob x) := fun e H Q he hw => by
  obtain ⟨a, ha, hQ⟩ := hw
  exact T_glob (T.gt _ _ ha) hQ o.kind (okG_ he).1 (okG_ he).2
theorem e_neg {p : PE} (ih : SE cx fr tn X XX h σ p) : SE cx fr tn X XX h σ (.neg p) := fun e H Q he hw => by
  refine SemT.seq (fun Q E s q => UnaryOp_ q) ((ih _ _ _ he hw).evalV fun v av H' hv r => ?_)
  obtain ⟨i, rfl, hQ⟩ := r
  exact T_neg hv hQ
theorem e_not (T : Tabs cx) {p : PE} (ih : SE cx fr tn X XX h σ p) : SE cx fr tn X XX h σ (.not p) := fun e H Q he hw => by
  refine SemT.seq (fun Q E s q => UnaryOp_ q) ((ih _ _ _ he hw).evalV fun v av H' hv r => ?_)
  obtain ⟨b, hb, hQ⟩ := r
  refine fun g Xl s st => not_of (wpAny_mono (T_tru T hv hb (R := fun c σ' H'' => c = b ∧ σ' = σ ∧ H'' = H') ⟨rfl, rfl, rfl⟩ g Xl s st) (fun c s' p1_ => ?_) fun _ _ e => e)
  obtain ⟨g', σ', H'', t, st', rfl, rfl, rfl⟩ := p1_
  exact ⟨g', _, _, t, st', rfl, _, .bool _, hQ⟩
theorem e_bin {op : BOp} {p q : PE} (ih : SE cx fr tn X XX h σ p) (ih2 : SE cx fr tn X XX h σ q) : SE cx fr tn X XX h σ (.bin op p q) := fun e H Q he hw =>
  have he := and_ he
  SemT.seq3 (fun Q E s q => wpAny_BinOp q) ((ih _ _ _ he.1 hw).evalV fun v av H' hv r => (ih2 _ _ _ he.2 r).evalV fun v' av' H'' hv' r' => T_bin hv hv' r')
theorem e_cmp (T : Tabs cx) (o : fr.Ok h) (hX : ∀ c H, X c H → XX.fly c σ H) {k : CK} {p q : PE} (ih : SE cx fr tn X XX h σ p) (ih2 : SE cx fr tn X XX h σ q) : SE cx fr tn X XX h σ (.cmp k p q) := fun e H Q he hw =>
  have he := and_ he
  have h2 := and_ he.2
  SemT.seq3 (fun Q E s q => wpAny_Compare1 q (behind_ok he.1)) ((ih _ _ _ h2.1 hw).evalV fun v av H' hv r => (ih2 _ _ _ h2.2 r).evalV fun v' av' H'' hv' r' => T_cmpP T o hX hv hv' r')
theorem e_attr {p : PE} {x : String} (ih : SE cx fr tn X XX h σ p) : SE cx fr tn X XX h σ (.attr p x) := fun e H Q he hw =>
  have he := and_ he
  SemT.seq (fun Q E s q => Attribute_any_ q (attr_eq he.1)) ((ih _ _ _ he.2 hw).evalV fun v av H' hv r => T_attrP hv r)
theorem e_item (T : Tabs cx) {p q : PE} (ih : SE cx fr tn X XX h σ p) (ih2 : SE cx fr tn X XX h σ q) : SE cx fr tn X XX h σ (.item p q) := fun e H Q he hw =>
  have he := and_ he
  have h2 := and_ he.2
  SemT.seq3 (fun Q E s q => Subscript_ q) ((ih _ _ _ h2.1 hw).evalV fun v av H' hv r => (ih2 _ _ _ h2.2 r).evalV fun v' av' H'' hv' r' => T_itemP T hv hv' he.1 (fun e => isName_loc e _) r')
theorem e_from {p q : PE} (ih : SE cx fr tn X XX h σ p) (ih2 : SE cx fr tn X XX h σ q) : SE cx fr tn X XX h σ (.sliceFrom p q) := fun e H Q he hw => by
  have he := and_ he
  refine T_sliceFrom ((ih _ _ _ he.1 hw).evalV fun v av H' hv r => (ih2 _ _ _ he.2 r).evalV fun v' av' H'' hv' r' => ?_)
  obtain ⟨l, xs, k, rfl, rfl, a1, a2, a3, hQ⟩ := r'
  obtain rfl := hv.toR
  exact ⟨l, xs, k, rfl, a1, a2, hv', a3, fun n hn => .mk (.ref n) (hQ n hn)⟩
theorem e_to {p q : PE} (ih : SE cx fr tn X XX h σ p) (ih2 : SE cx fr tn X XX h σ q) : SE cx fr tn X XX h σ (.sliceTo p q) := fun e H Q he hw => by
  have he := and_ he
  refine T_sliceTo ((ih _ _ _ he.1 hw).evalV fun v av H' hv r => (ih2 _ _ _ he.2 r).evalV fun v' av' H'' hv' r' => ?_)
  obtain ⟨l, xs, k, rfl, rfl, a1, a2, a3, hQ⟩ := r'
  obtain rfl := hv.toR
  exact ⟨l, xs, k, rfl, a1, a2, hv', a3, fun n hn => .mk (.ref n) (hQ n hn)⟩
theorem e_tup {ps : PEs} (ih : SEs cx fr tn X XX h σ ps) : SE cx fr tn X XX h σ (.tup ps) := fun e H Q he hw =>
  let ⟨a, _, _, _⟩ := ih
  SemT.bindV (fun Q E s q => Tuple_ q) (a _ _ _ _ he hw) (VRs.of fun v av H' hv r => T_newTuple hv r.1 r.2)
theorem e_lst {ps : PEs} (ih : SEs cx fr tn X XX h σ ps) : SE cx fr tn X XX h σ (.lst ps) := fun e H Q he hw =>
  let ⟨a, _, _, _⟩ := ih
  SemT.bindV (fun Q E s q => List_ q) (a _ _ _ _ he hw) (VRs.of fun v av H' hv r => T_newList hv r.1 r.2)
theorem e_bcall (T : Tabs cx) (o : fr.Ok h) (hX : ∀ c H, X c H → XX.fly c σ H) {f : BC} {ps : PEs} (ih : SEs cx fr tn X XX h σ ps) : SE cx fr tn X XX h σ (.bcall f ps) := fun e H Q he hw => by
  obtain ⟨a, _, _, _⟩ := ih
  have he := and_ he
  have hg := okG_ he.1
  exact T_callName (f := f.val) (P := fun _ => True) (notStar_Es _ _) (T_builtin (bc_free T f) (boot_bc f) (bc_ne f) ⟨rfl, rfl, rfl⟩ o.kind hg.1 hg.2) (keeps_true (by cases f <;> rfl)) ((a _ _ _ _ he.2 hw).mono (VRs.of fun v av H' hv r => ⟨fun _ _ _ _ => trivial, T_bcP T o hX hv r⟩))
theorem kin_st {σ : Loc} {H : AH} (g : Heap) (Xl : List (Addr × Obj)) (s : Shared) (st : St cx fr g Xl σ H s) : cx.K.In s.heap := by
  obtain ⟨m, news, δ, F, _⟩ := st.ex
  exact st.gg.kin.keeps F.keep
theorem ref_of {a : Addr} {H : AH} {v : Value} {av : AV} {H' : AH} (hv : Sim v av) (r : av = .ref a ∧ H' = H) : v = .ref a ∧ σ = σ ∧ H' = H := by
  obtain ⟨rfl, rfl⟩ := r
  exact ⟨hv.toR, rfl, rfl⟩
theorem e_call (T : Tabs cx) (o : fr.Ok h) (hX : ∀ c H, X c H → XX.fly c σ H) {x : String} {ps : PEs} (ih : SEs cx fr tn X XX h σ ps) : SE cx fr tn X XX h σ (.call x ps) := fun e H Q he hw => by
  obtain ⟨f, _, _, _⟩ := ih
  have he := and_ he
  have hg := okG_ he.1
  obtain ⟨a, ha, hw⟩ := hw
  have hk := T.ct _ _ ha
  exact T_callName (f := .ref a) (P := cx.K.In) (notStar_Es _ _) ((T_glob (Q := fun av H' => av = .ref a ∧ H' = H) hk.1 ⟨rfl, rfl⟩ o.kind hg.1 hg.2).evalV fun v av H' hv r => ref_of hv r) (keeps_K hk.2) ((f _ _ _ _ he.2 hw).mono (VRs.of fun v av H' hv r => ⟨kin_st, T_call o r hv hX⟩))
theorem e_callV (o : fr.Ok h) (hX : ∀ c H, X c H → XX.fly c σ H) {x : String} {ps : PEs} (ih : SEs cx fr tn X XX h σ ps) : SE cx fr tn X XX h σ (.callV x ps) := fun e H Q he hw => by
  obtain ⟨f, _, _, _⟩ := ih
  have he := and_ he
  have hg := okL_ he.1
  obtain ⟨q, l, hq, hw⟩ := hw
  refine T_callName (f := .ref q) (P := BmP q l) (notStar_Es _ _) ((T_loc (Q := fun av H' => av = .ref q ∧ H' = H) hq ⟨rfl, rfl⟩ o.kind hg.1 hg.2).evalV fun v av H' hv r => ref_of hv r) keeps_bm ((f _ _ _ _ he.2 hw).mono (VRs.of fun v av H' hv r => ⟨fun g Xl s st => ?_, T_call o r.2 hv hX⟩))
  obtain ⟨m, news, δ, F, N, lm, M⟩ := st.ex
  exact (N _ (M.B q l r.1)).1
theorem e_meth (T : Tabs cx) (o : fr.Ok h) (hX : ∀ c H, X c H → XX.fly c σ H) {p : PE} {m : String} {ps : PEs} (ih : SE cx fr tn X XX h σ p) (ih2 : SEs cx fr tn X XX h σ ps) : SE cx fr tn X XX h σ (.meth p m ps) := fun e H Q he hw => by
  obtain ⟨f, _, _, _⟩ := ih2
  have he := and_ he
  have h1 := and_ he.1
  have h2 := and_ he.2
  have h3 := and_ h1.2
  refine T_methCall h1.1 (of_decide_eq_true h3.1) (of_decide_eq_true h3.2) (notStar_Es _ _) ((ih _ _ _ h2.1 hw).evalV fun v av H' hv r pl => ?_)
  obtain ⟨t, ht, hw2⟩ := r
  cases t with
  | fn fa x =>
    obtain ⟨rfl, C, fs, hI, hl, hm⟩ := ht
    obtain rfl := hv.toR
    have hmt := T.mt _ _ _ hm
    exact T_method hI hmt hl (T_callWith (P := cx.K.In) (notStar_Es _ _) (keeps_K (methIn_spec hmt).2.2.2) ((f _ _ _ _ h2.2 hw2).mono (VRs.of fun v av H' hv r => ⟨kin_st, T_call o r (show SimL (.ref x :: v) (.ref x :: av) from ⟨.ref x, hv⟩) hX⟩)))
  | lm x =>
    obtain ⟨rfl, hmem, xs, hL⟩ := ht
    obtain rfl := hv.toR
    obtain ⟨id, s1, s2, rfl⟩ := list_slots m hmem
    exact T_lmethod s1 s2 hL (T_callWith (P := fun _ => True) (notStar_Es _ _) (keeps_true rfl) ((f _ _ _ _ h2.2 hw2).mono (VRs.of fun v av H' hv r => ⟨fun _ _ _ _ => trivial, T_lmP hv r⟩)))
  | dm x =>
    obtain ⟨rfl, hmem, xs, hL⟩ := ht
    obtain rfl := hv.toR
    obtain ⟨id, s1, s2, rfl⟩ := dict_slots m hmem
    exact T_dmethod s1 s2 hL (T_callWith (P := fun _ => True) (notStar_Es _ _) (keeps_true rfl) ((f _ _ _ _ h2.2 hw2).mono (VRs.of fun v av H' hv r => ⟨fun _ _ _ _ => trivial, T_dmP hv r⟩)))
theorem e_star (T : Tabs cx) (o : fr.Ok h) (hX : ∀ c H, X c H → XX.fly c σ H) {p q : PE} {m : String} (ih : SE cx fr tn X XX h σ p) (ih2 : SE cx fr tn X XX h σ q) : SE cx fr tn X XX h σ (.methStar p m q) := fun e H Q he hw => by
  have he := and_ he
  have h1 := and_ he.1
  have h2 := and_ he.2
  refine T_methStar T o hX h1.1 ((ih _ _ _ h2.1 hw).evalV fun v av H' hv r => ⟨rfl, ?_⟩)
  obtain ⟨f, x, C, fs, rfl, a1, a2, a3, hw2⟩ := r
  obtain rfl := hv.toR
  exact ⟨f, x, C, fs, rfl, a1, a2, a3, ih2 _ _ _ h2.2 hw2⟩
theorem e_callK (T : Tabs cx) (o : fr.Ok h) (hX : ∀ c H, X c H → XX.fly c σ H) {x : String} {ks : List String} {ps : PEs} (ih : SEs cx fr tn X XX h σ ps) : SE cx fr tn X XX h σ (.callK x ks ps) := fun e H Q he hw => by
  obtain ⟨_, f, _, _⟩ := ih
  have he := and_ he
  have h1 := and_ he.1
  have hg := okG_ h1.1
  obtain ⟨a, ha, hw⟩ := hw
  have hk := T.ct _ _ ha
  obtain ⟨g1, g2, g3⟩ := kws_facts (pos := e.pos) (env := fr.env) (l := kwOf e) (of_decide_eq_true h1.2)
  refine SemT.seq (t2 := fun f => callWith e.pos f [] (backTo e.pos (starEach [] fr.env)) (backToKw e.pos (keywordEach (toKs ps ks (kwOf e)) fr.env))) (fun Q E s q => wpAny_Call_Name_kw q) ((T_glob (Q := fun av H' => av = .ref a ∧ H' = H) hk.1 ⟨rfl, rfl⟩ o.kind hg.1 hg.2).evalV fun v av H' hv r => ?_)
  obtain ⟨rfl, rfl⟩ := r
  obtain rfl := hv.toR
  refine fun g Xl s st => callWith_KW0 (h₀ := g) st.gg.kin hk.2 g1 (wpAny_mono (f _ _ _ _ _ he.2 hw g Xl s st) (fun vs s₁ p1_ => ?_) fun _ _ e => e) (by rw [g2]; rfl)
  obtain ⟨g₁, σ₁, H₁, tr, st₁, rfl, avs, hvs, r⟩ := p1_
  refine ⟨kin_st _ _ _ st₁, ?_⟩
  rw [g3, List.nil_append]
  exact wpAny_mono (T_callK o hX r hvs g₁ Xl s₁ st₁) (fun _ _ q => q.trans tr) fun _ _ e => e.trans tr
theorem e_keys (T : Tabs cx) (o : fr.Ok h) {x : String} : SE cx fr tn X XX h σ (.keys x) := fun e H Q he hw => by
  have he := and_ he
  have h1 := and_ he.1
  have h2 := and_ he.2
  have hg := okL_ h1.1
  obtain ⟨l, xs, ns, a1, a2, a3, a4, a5⟩ := hw
  exact T_keys T o (eq_of_beq h2.1) (eq_of_beq h2.2) (of_decide_eq_true h1.2) hg.1 hg.2 a1 a2 a3 a4 a5
theorem es_nil : SEs cx fr tn X XX h σ .nil :=
  .mk (fun es pos H Q he hw => T_splicedNil ⟨rfl, [], trivial, hw⟩) (fun ks l pos H Q he hw g Xl s st => kwAll_nil ⟨g, σ, H, .refl, st, rfl, [], trivial, hw⟩) (fun es pos H Q he hw => hw.elim) (fun es pos H Q he hw => hw.elim)
theorem es_cons (T : Tabs cx) {p : PE} {ps : PEs} (ih : SE cx fr tn X XX h σ p) (ih2 : SEs cx fr tn X XX h σ ps) : SEs cx fr tn X XX h σ (.cons p ps) := by
  obtain ⟨fa, fk, fn, fo⟩ := ih2
  refine .mk (fun es pos H Q he hw => ?_) (fun ks l pos H Q he hw g Xl s st => ?_) (fun es pos H Q he hw => ?_) (fun es pos H Q he hw => ?_)
  · have he := and_ he
    exact T_splicedCons (notStar_E _ _) ((ih _ _ _ he.1 hw).evalV fun v av H' hv r => (fa _ pos _ _ he.2 r).mono (VRs.of fun vs avs H'' hvs r' => ⟨rfl, av :: avs, ⟨hv, hvs⟩, r'⟩))
  · have he := and_ he
    refine kwAll_cons (wpAny_mono (ih _ _ _ he.1 hw g Xl s st) (fun v s₁ p1_ => ?_) fun _ _ e => e)
    obtain ⟨g₁, σ₁, H₁, tr, st₁, rfl, av, hv, r⟩ := p1_
    refine wpAny_mono (fk _ _ _ _ _ he.2 r g₁ Xl s₁ st₁) (fun vs s₂ p1_ => ?_) fun _ _ e => e.trans tr
    obtain ⟨g₂, σ₂, H₂, tr₂, st₂, e2, avs, hvs, r₂⟩ := p1_
    exact ⟨g₂, σ₂, H₂, tr.trans tr₂, st₂, e2, av :: avs, ⟨hv, hvs⟩, r₂⟩
  · have he := and_ he
    cases ps with
    | nil =>
      refine SemT.of_eq (t' := eval (toE p (es.headD zE)) fr.env) (fun Q E s q => BoolOp_one q) ((ih _ _ _ he.1 hw).evalV fun v av H' hv r => ?_)
      rcases r with ⟨_, hQ⟩ | ⟨q, _⟩
      · exact .mk hv hQ
      · exact absurd rfl q
    | cons p2 ps =>
      refine fun g Xl s st => BoolOp_and (wpAny_mono (ih _ _ _ he.1 hw g Xl s st) (fun v s₁ p1_ => ?_) fun _ _ e => e)
      obtain ⟨g₁, σ₁, H₁, tr, st₁, rfl, av, hv, r⟩ := p1_
      rcases r with ⟨q, _⟩ | ⟨_, b, hb, r⟩
      · cases q
      refine wpAny_mono (T_tru T hv hb (R := fun c σ' H'' => c = b ∧ σ' = σ₁ ∧ H'' = H₁) ⟨rfl, rfl, rfl⟩ g₁ Xl s₁ st₁) (fun c s₂ p1_ => ?_) fun _ _ e => e.trans tr
      obtain ⟨g₂, σ₂, H₂, tr₂, st₂, rfl, rfl, rfl⟩ := p1_
      cases c
      · exact ⟨g₂, σ₂, H₂, tr.trans tr₂, st₂, rfl, av, hv, r⟩
      · exact wpAny_mono (fn _ _ _ _ he.2 r g₂ Xl s₂ st₂) (fun _ _ q => q.trans (tr.trans tr₂)) fun _ _ e => e.trans (tr.trans tr₂)
  · have he := and_ he
    cases ps with
    | nil =>
      refine SemT.of_eq (t' := eval (toE p (es.headD zE)) fr.env) (fun Q E s q => BoolOp_one q) ((ih _ _ _ he.1 hw).evalV fun v av H' hv r => ?_)
      rcases r with ⟨_, hQ⟩ | ⟨q, _⟩
      · exact .mk hv hQ
      · exact absurd rfl q
    | cons p2 ps =>
      refine fun g Xl s st => BoolOp_or (wpAny_mono (ih _ _ _ he.1 hw g Xl s st) (fun v s₁ p1_ => ?_) fun _ _ e => e)
      obtain ⟨g₁, σ₁, H₁, tr, st₁, rfl, av, hv, r⟩ := p1_
      rcases r with ⟨q, _⟩ | ⟨_, b, hb, r⟩
      · cases q
      refine wpAny_mono (T_tru T hv hb (R := fun c σ' H'' => c = b ∧ σ' = σ₁ ∧ H'' = H₁) ⟨rfl, rfl, rfl⟩ g₁ Xl s₁ st₁) (fun c s₂ p1_ => ?_) fun _ _ e => e.trans tr
      obtain ⟨g₂, σ₂, H₂, tr₂, st₂, rfl, rfl, rfl⟩ := p1_
      cases c
      · exact wpAny_mono (fo _ _ _ _ he.2 r g₂ Xl s₂ st₂) (fun _ _ q => q.trans (tr.trans tr₂)) fun _ _ e => e.trans (tr.trans tr₂)
      · exact ⟨g₂, σ₂, H₂, tr.trans tr₂, st₂, rfl, av, hv, r⟩
end
theorem sE (T : Tabs cx) (o : fr.Ok h) (p : PE) (e : Expr) (σ : Loc) (H : AH) (Q : AV → AH → Prop) (hX : ∀ c H, X c H → XX.fly c σ H) : okE fr.scope p e = true → wpE cx h tn X p σ H Q → SemT cx fr tn XX (eval (toE p e) fr.env) σ H (VR σ Q) :=
  (PE.rec (motive_1 := SE cx fr tn X XX h σ) (motive_2 := SEs cx fr tn X XX h σ)
    (fun _ => e_loc o) (fun _ => e_glob T o) (fun _ _ _ _ hw => T_none hw) (fun _ _ _ _ _ hw => T_bool hw) (fun _ _ _ _ _ hw => T_int hw) (fun _ => e_neg) (fun _ => e_not T) (fun _ _ _ => e_bin) (fun _ _ _ => e_cmp T o hX)
    (fun _ ih e H Q he hw => let ⟨_, _, f, _⟩ := ih; f _ _ _ _ he hw) (fun _ ih e H Q he hw => let ⟨_, _, _, f⟩ := ih; f _ _ _ _ he hw) (fun _ _ => e_attr) (fun _ _ => e_item T) (fun _ _ => e_from) (fun _ _ => e_to) (fun _ => e_tup) (fun _ => e_lst) (fun _ _ _ _ hw => T_newDict hw)
    (fun _ _ => e_bcall T o hX) (fun _ _ => e_call T o hX) (fun _ _ => e_callV o hX) (fun _ _ _ => e_meth T o hX) (fun _ _ _ => e_star T o hX) (fun _ _ _ => e_callK T o hX) (fun _ => e_keys T o) es_nil (fun _ _ => es_cons T) p : SE cx fr tn X XX h σ p) e H Q
theorem sEs (T : Tabs cx) (o : fr.Ok h) (ps : PEs) (es : List Expr) (pos : Pos) (σ : Loc) (H : AH) (Q : List AV → AH → Prop) (hX : ∀ c H, X c H → XX.fly c σ H) (he : okEs fr.scope ps es = true) (hw : wpEs cx h tn X ps σ H Q) : SemT cx fr tn XX (spliced (backTo pos (starEach (toEs ps es) fr.env))) σ H (VRs σ Q) := by
  cases ps with
  | nil => exact T_splicedNil ⟨rfl, [], trivial, hw⟩
  | cons p ps =>
    have he := and_ he
    exact T_splicedCons (notStar_E _ _) ((sE T o p _ σ H _ hX he.1 hw).evalV fun v av H' hv r => (sEs T o ps es.tail pos σ H' _ hX he.2 r).mono (VRs.of fun vs avs H'' hvs r' => ⟨rfl, av :: avs, ⟨hv, hvs⟩, r'⟩))
termination_by structural ps
end
noncomputable def condPlain (e : Expr) : Bool := !(e.ctorIdx == 0 || e.ctorIdx == 3 || e.ctorIdx == 5 || e.ctorIdx == 15)
theorem isTrue_eq {e : Expr} {env : Env} {whole : Sem Value} (h : condPlain e = true) : PySem.isTrue e env whole = (do
      let v ← whole
      standAt e.pos
      holding [v] (truthy v)) := by
  cases e <;> first | rfl | cases h
noncomputable def PE.special (p : PE) : Bool := by
  cases p with
  | not _ => exact true
  | neg _ => exact true
  | and _ => exact true
  | or _ => exact true
  | cmp _ _ _ => exact true
  | _ => exact false
theorem plain_E {p : PE} (hp : p.special = false) (e : Expr) : condPlain (toE p e) = true := by cases p <;> first | rfl | cases hp
noncomputable def CR (σ : Loc) (Q : Bool → AH → Prop) (b : Bool) (σ' : Loc) (H' : AH) : Prop := σ' = σ ∧ Q b H'
section
variable {cx : Cx} {fr : Frm} {tn : Bool} {X : Value → AH → Prop} {XX : XP} {h : Nat}
theorem wpC_plain {p : PE} (hp : p.special = false) {σ : Loc} {H : AH} {Q : Bool → AH → Prop} (hw : wpC cx h tn X p σ H Q) : wpE cx h tn X p σ H fun a H' => ∃ b, tru H' a = some b ∧ Q b H' := by cases p <;> first | exact hw | cases hp
noncomputable def SC (cx : Cx) (fr : Frm) (tn : Bool) (X : Value → AH → Prop) (XX : XP) (h : Nat) (σ : Loc) (p : PE) : Prop :=
  ∀ (e : Expr) (H : AH) (Q : Bool → AH → Prop), okE fr.scope p e = true → wpC cx h tn X p σ H Q → SemT cx fr tn XX (PySem.isTrue (toE p e) fr.env (eval (toE p e) fr.env)) σ H (CR σ Q)
inductive SCs (cx : Cx) (fr : Frm) (tn : Bool) (X : Value → AH → Prop) (XX : XP) (h : Nat) (σ : Loc) (ps : PEs) : Prop
  | mk (an : ∀ (es : List Expr) (pos : Pos) (whole : Sem Value) (H : AH) (Q : Bool → AH → Prop), okEs fr.scope ps es = true → wpCA cx h tn X ps σ H Q → SemT cx fr tn XX (PySem.isTrue (.BoolOp .And (toEs ps es) pos) fr.env whole) σ H (CR σ Q))
    (or : ∀ (es : List Expr) (pos : Pos) (whole : Sem Value) (H : AH) (Q : Bool → AH → Prop), okEs fr.scope ps es = true → wpCO cx h tn X ps σ H Q → SemT cx fr tn XX (PySem.isTrue (.BoolOp .Or (toEs ps es) pos) fr.env whole) σ H (CR σ Q))
section
variable {σ : Loc}
theorem q_plain (T : Tabs cx) (o : fr.Ok h) (hX : ∀ c H, X c H → XX.fly c σ H) {p : PE} (hp : p.special = false) : SC cx fr tn X XX h σ p := fun e H Q he hw => by
  refine SemT.seq (fun Q E s q => isTrue_plain q (isTrue_eq (plain_E hp e))) ((sE T o p e σ H _ hX he (wpC_plain hp hw)).evalV fun v av H' hv r => ?_)
  obtain ⟨b, hb, hQ⟩ := r
  exact T_tru T hv hb ⟨rfl, hQ⟩
theorem q_not {p : PE} (ih : SC cx fr tn X XX h σ p) : SC cx fr tn X XX h σ (.not p) := fun e H Q he hw => by
  refine fun g Xl s st => isTrue_not (wpAny_mono (ih _ _ _ he hw g Xl s st) (fun c s' p1_ => ?_) fun _ _ e => e)
  obtain ⟨g', σ', H', t, st', r⟩ := p1_
  exact ⟨g', σ', H', t, st', r⟩
theorem q_cmp (T : Tabs cx) (o : fr.Ok h) (hX : ∀ c H, X c H → XX.fly c σ H) {k : CK} {p q : PE} : SC cx fr tn X XX h σ (.cmp k p q) := fun e H Q he hw => by
  have he := and_ he
  have h2 := and_ he.2
  refine SemT.seq4 (fun Q E s q => wpAny_isTrue_Compare1 q (behind_ok he.1)) ((sE T o p _ σ H _ hX h2.1 hw).evalV fun v av H' hv r => (sE T o q _ σ H' _ hX h2.2 r).evalV fun v' av' H'' hv' r' => (T_cmpP T o hX hv hv' r').evalV fun v'' av'' H₃ hv'' p1_ => ?_)
  obtain ⟨b, hb, hQ⟩ := p1_
  exact T_tru T hv'' hb ⟨rfl, hQ⟩
theorem qs_nil : SCs cx fr tn X XX h σ .nil :=
  .mk (fun es pos whole H Q he hw g Xl s st => isTrue_and_nil ⟨g, σ, H, .refl, st, rfl, hw⟩) (fun es pos whole H Q he hw g Xl s st => isTrue_or_nil ⟨g, σ, H, .refl, st, rfl, hw⟩)
theorem qs_cons {p : PE} {ps : PEs} (ih : SC cx fr tn X XX h σ p) (ih2 : SCs cx fr tn X XX h σ ps) : SCs cx fr tn X XX h σ (.cons p ps) := by
  obtain ⟨fa, fo⟩ := ih2
  refine .mk (fun es pos whole H Q he hw => ?_) (fun es pos whole H Q he hw => ?_)
  · have he := and_ he
    refine fun g Xl s st => isTrue_and (wpAny_mono (ih _ _ _ he.1 hw g Xl s st) (fun c s₁ p1_ => ?_) fun _ _ e => e)
    obtain ⟨g₁, σ₁, H₁, tr, st₁, rfl, r⟩ := p1_
    cases c
    · exact ⟨g₁, σ₁, H₁, tr, st₁, rfl, r⟩
    · exact wpAny_mono (fa _ pos whole _ _ he.2 r g₁ Xl s₁ st₁) (fun _ _ q => q.trans tr) fun _ _ e => e.trans tr
  · have he := and_ he
    refine fun g Xl s st => isTrue_or (wpAny_mono (ih _ _ _ he.1 hw g Xl s st) (fun c s₁ p1_ => ?_) fun _ _ e => e)
    obtain ⟨g₁, σ₁, H₁, tr, st₁, rfl, r⟩ := p1_
    cases c
    · exact wpAny_mono (fo _ pos whole _ _ he.2 r g₁ Xl s₁ st₁) (fun _ _ q => q.trans tr) fun _ _ e => e.trans tr
    · exact ⟨g₁, σ₁, H₁, tr, st₁, rfl, r⟩
end
theorem sC (T : Tabs cx) (o : fr.Ok h) (p : PE) (e : Expr) (σ : Loc) (H : AH) (Q : Bool → AH → Prop) (hX : ∀ c H, X c H → XX.fly c σ H) : okE fr.scope p e = true → wpC cx h tn X p σ H Q → SemT cx fr tn XX (PySem.isTrue (toE p e) fr.env (eval (toE p e) fr.env)) σ H (CR σ Q) :=
  have P := fun p hp => q_plain T o hX (p := p) hp
  (PE.rec (motive_1 := SC cx fr tn X XX h σ) (motive_2 := SCs cx fr tn X XX h σ)
    (fun _ => P _ rfl) (fun _ => P _ rfl) (P _ rfl) (fun _ => P _ rfl) (fun _ => P _ rfl) (fun _ _ _ _ _ _ hw => hw.elim) (fun _ => q_not) (fun _ _ _ _ _ => P _ rfl) (fun _ _ _ _ _ => q_cmp T o hX)
    (fun _ ih e H Q he hw => let ⟨f, _⟩ := ih; f _ _ _ _ _ he hw) (fun _ ih e H Q he hw => let ⟨_, f⟩ := ih; f _ _ _ _ _ he hw) (fun _ _ _ => P _ rfl) (fun _ _ _ _ => P _ rfl) (fun _ _ _ _ => P _ rfl) (fun _ _ _ _ => P _ rfl) (fun _ _ => P _ rfl) (fun _ _ => P _ rfl) (P _ rfl)
    (fun _ _ _ => P _ rfl) (fun _ _ _ => P _ rfl) (fun _ _ _ => P _ rfl) (fun _ _ _ _ _ => P _ rfl) (fun _ _ _ _ _ => P _ rfl) (fun _ _ _ _ => P _ rfl) (fun _ => P _ rfl) qs_nil (fun _ _ => qs_cons) p : SC cx fr tn X XX h σ p) e H Q
end
section
variable {prog : Program} {w : World} {A : Around} {E : Value → Shared → Prop} {s : Shared}
theorem own_issub {C : Addr} {dep : Int} {tk : Tok} {P : Fin → Shared → Prop} {nm q : Str} {N : Addr} {bs bm : List Value} {hdct : Bool} {sn : List Str} {sub : List Value} {ab : Bool} {col : Option Bool} {dd : Option Addr} {k0 k1 k2 k3 k5 : Option Value} {newId : String}
    (hC : s.heap.get? C = some (excClassObj nm q C N bs bm hdct sn sub ab col dd k0 k1 k2 k3 k5 newId)) (h : P (.done (.ret (.bool true))) s) :
    wpAny (model prog w) A (Builtin.«issubclass.nested» ⟨[.ref C, .ref C, .int dep tk], []⟩) P E s := by
  have hT : s.TypeIs (.ref C) "type" := ⟨_, hC, rfl⟩
  unfold Builtin.«issubclass.nested»
  dsimp only
  refine wpAny_bind (wpAny_typeOf hT ?_)
  rw [if_pos (by decide)]
  obtain ⟨hp, g, d, tk', os⟩ := s
  dsimp only at hC
  have kt : ∀ {Q : Bool → Shared → Prop}, Q true ⟨hp, g, d, tk', os⟩ → wpAny (model prog w) A (isType (.ref C)) Q E ⟨hp, g, d, tk', os⟩ := fun hQ => by
    unfold isType
    dsimp only
    exact wpAny_bind (wpAny_loadPart_at hC (wpAny_pure hQ))
  refine wpAny_bind ?_
  show wpAny _ _ (isType (.ref C) >>= fun a => isType (.ref C) >>= fun b => _) _ _ _
  refine wpAny_bind (kt ?_)
  refine wpAny_bind (kt ?_)
  refine wpAny_isSubtype_exc hC ?_
  rw [show (Value.ref C :: bm).contains (.ref C) = true by simp]
  exact wpAny_pure h
theorem raise_own_cls {env : Env} {x : Str} {np pos : Pos} {C : Addr} {B newId initId : String} {bmB : List Value} {mg : Str → Option Value} {h₀ : Heap} {Q : Flow → Shared → Prop} (hh : A.handled = none)
    (O : OwnCls x C bmB newId mg h₀) (FB : ExcBaseFacts B newId initId bmB) (hk : ∀ b o, h₀.get? b = some o → s.heap.get? b = some o)
    (hx : wpAny (model prog w) A (eval (.Name x np) env) (fun v s₁ => v = .ref C ∧ s₁ = s) E s)
    (h : ∀ h' e, Heap.MadeExcOf s.heap h' e (.ref C) [] → E (.ref e) { s with heap := h' }) :
    wpAny (model prog w) A (exec (.Raise (some (.Name x np)) none pos) env) Q E s := by
  obtain ⟨tl, N, nm, q, bs, hdct, sn, sub, ab, col, dd, k0, k1, k2, k3, k5, mN, hC, hN, hni, T⟩ := (O.keeps hk).obj
  have hbase : (Value.ref C :: tl).contains (.type "BaseException") = true := by
    rw [List.contains_cons, T.hasType FB.hasBase, Bool.or_true]
  show wpAny (model prog w) A (do standAt pos; raiseStmt env (some (do let v ← eval (.Name x np) env; standAt pos; pure v)) none) Q E s
  refine wpAny_bind (wpAny_standAt ?_)
  unfold raiseStmt
  dsimp only
  refine wpAny_bind (wpAny_bind (wpAny_mono hx (fun v s₁ h₁ => wpAny_bind (wpAny_standAt (wpAny_pure ?_))) fun _ _ e => e))
  obtain ⟨rfl, hs₁⟩ := h₁
  subst s₁
  obtain ⟨hp, g, d, tk, os⟩ := s
  dsimp only at hC hN T h
  have kt : ∀ {hp' : Heap} {Q : Bool → Shared → Prop}, hp'.get? C = some (excClassObj nm q C N bs tl hdct sn sub ab col dd k0 k1 k2 k3 k5 newId) → Q true ⟨hp', g, d, tk, os⟩ → wpAny (model prog w) A (isType (.ref C)) Q E ⟨hp', g, d, tk, os⟩ := fun hC hQ => by
    unfold isType
    dsimp only
    exact wpAny_bind (wpAny_loadPart_at hC (wpAny_pure hQ))
  refine wpAny_bind (wpAny_pure ?_)
  dsimp only
  refine wpAny_bind (wpAny_holding ?_)
  unfold excFromValue isExcClass
  refine wpAny_bind (wpAny_bind (kt hC ?_))
  rw [if_pos rfl]
  refine wpAny_isSubtype_exc hC ?_
  rw [if_pos hbase]
  refine wpAny_bind (wpAny_call_exc_subT FB T hC hN hni (fun h' e hm => ?_) (Nat.zero_le _))
  obtain ⟨t, he, _⟩ := hm.there
  have hC' := hm.keeps _ _ hC
  have kT : ∀ {Q : Value → Shared → Prop}, Q (.ref C) ⟨h', g, d, tk, os⟩ → wpAny (model prog w) A (typeOf (.ref e)) Q E ⟨h', g, d, tk, os⟩ := fun hQ => by
    unfold typeOf
    dsimp only
    exact wpAny_bind (wpAny_loadPart_at he (wpAny_pure hQ))
  refine wpAny_bind (m := isInstance (.ref e) (.type "BaseException")) ?_
  unfold isInstance
  refine wpAny_bind (kT ?_)
  refine wpAny_isSubtype_exc hC' ?_
  rw [hbase]
  simp only [Bool.not_true, Bool.false_eq_true, if_false]
  refine wpAny_pure ?_
  refine wpAny_bind (kt hC' ?_)
  rw [if_pos rfl]
  refine wpAny_bind (wpAny_holding ?_)
  unfold raisedFor
  simp only [Bool.false_eq_true, if_false]
  refine wpAny_bind (kT ?_)
  refine wpAny_bind (call_issubclass (S := fun _ R s => s.heap.get? C = some (excClassObj nm q C N bs tl hdct sn sub ab col dd k0 k1 k2 k3 k5 newId) ∧ R (.ok (.ret (.bool true))) s) (fun _ _ _ _ _ hs => issubclass_outer (own_issub hs.1 hs.2)) ⟨hC', ?_⟩)
  dsimp only [wants]
  refine wpAny_bind (wpAny_truthy_bool ?_)
  rw [if_pos rfl]
  refine wpAny_pure ?_
  unfold setFlight raiseNew
  refine wpAny_bind (wpAny_bind (wpAny_field (i := 1) (x := Value.none) he rfl rfl ?_))
  rw [if_neg (by decide)]
  refine wpAny_pure (wpAny_bind (wpAny_handled ?_))
  rw [hh]
  first
    | exact wpAny_throw (h h' e hm)
    | exact wpAny_bind (wpAny_pure (wpAny_throw (h h' e hm)))
end
section
variable {cx : Cx} {fr : Frm} {tn : Bool} {X : Value → AH → Prop} {XX : XP} {σ : Loc} {H : AH} {h : Nat}
abbrev NoX : XP := ⟨fun _ _ _ => False, fun _ _ _ => False⟩
theorem Err.no {g : Heap} {Xl : List (Addr × Obj)} {e : Value} {s : Shared} (p : Err cx fr tn g Xl NoX e s) : False := by
  obtain ⟨g', ea, cls, σ', H', δ, t, h1, h2, h3, h4, _, h5⟩ := p
  rcases h5 with ⟨z, _⟩ | ⟨z, _⟩ <;> exact z
theorem SemT.noX {α : Type} {t : Sem α} {R : α → Loc → AH → Prop} (k : SemT cx fr tn NoX t σ H R) : SemT cx fr tn XX t σ H R := fun g Xl s hs => wpAny_mono (k g Xl s hs) (fun _ _ q => q) fun _ _ e => e.no.elim
theorem T_store {x : String} {v : Value} {av : AV} {R : Unit → Loc → AH → Prop} (hv : Sim v av) (hk : fr.scope.kind = .function) (hl : fr.scope.names.lookup (Str.ofString x) = some .local) (hQ : R () (σ.set x av) H) :
    SemT cx fr tn XX (storeName fr.env (Str.ofString x) v) σ H R := .leafW fun g Xl s Q' E st k => by
  obtain ⟨m, news, δ, F, N, lm, M⟩ := st.ex
  exact stN F N (fun h' F' N' => k () h' _ (σ.set x av) H ⟨_, news, δ, F', N', lm.set hv, M⟩ hQ) hk hl
theorem T_loadName {x : String} {av : AV} {R : Value → Loc → AH → Prop} (hx : σ x = some av) (hk : fr.scope.kind = .function) (hl : fr.scope.names.lookup (Str.ofString x) = some .local) (hQ : ∀ v, Sim v av → R v σ H) :
    SemT cx fr tn XX (loadName fr.env (Str.ofString x)) σ H R := .leaf fun g Xl s Q' E st k => by
  obtain ⟨m, news, δ, F, N, lm, M⟩ := st.ex
  obtain ⟨v, h1, h2⟩ := lm x av hx
  exact ldn F h1 (k v s.toks (hQ v h2)) hk hl
theorem swaps_no {value : Expr} {t : Option Expr} {l : Nat} {env : Env} (hv : notComp value = true) : swapsWith value t l env = pure false := by
  cases value <;> first | rfl | cases hv
theorem swapped_no {ts : List Expr} {k : Nat} {tp : Pos} {value : Expr} {env : Env} (hv : notTup value = true) : swappedStores [.Tuple ts k tp] value env = pure none := by
  cases value <;> first | rfl | cases hv
theorem folded_no {iter : Expr} {env : Env} (hv : notSet iter = true) (x : Value) : foldedSetIterable iter env x = pure x := by
  cases iter <;> first | rfl | cases hv
theorem inter_no (hk : fr.scope.kind = .function) : interactive fr.env = false := by
  show (fr.scope.kind == .module && _) = false
  rw [hk]; rfl
theorem Err.made {g : Heap} {Xl : List (Addr × Obj)} {s : Shared} {h' : Heap} {e : Addr} {cls : Value} {vs : List Value} (st : St cx fr g Xl σ H s) (hm : Heap.MadeExcOf s.heap h' e cls vs) (hX : XX.made cls σ H) :
    Err cx fr tn g Xl XX (.ref e) { s with heap := h' } := by
  obtain ⟨m, news, δ, F, N, lm, M⟩ := st.ex
  exact ⟨g, e, cls, σ, H, δ, .refl, rfl, st.gens, st.os, trivial, st.gg, .inl ⟨hX, s.heap, vs, m, news, hm, F, N, lm, M⟩⟩
theorem T_raiseV {np cpos pos cp : Pos} {msg : Str} {kk : Nat} {R : Flow → Loc → AH → Prop} (T : Tabs cx) (o : fr.Ok h) (hl : fr.scope.names.lookup (Str.ofString "ValueError") = some .globalImplicit)
    (hX : XX.made (.type "ValueError") σ H) :
    SemT cx fr tn XX (exec (.Raise (some (.Call (.Name (Str.ofString "ValueError") np) [.Constant (.str msg) kk cp] [] cpos)) none pos) fr.env) σ H R := fun g Xl s st => by
  have st0 := st
  obtain ⟨m, news, δ, F, N, lm, M⟩ := st.ex
  refine Raise_madeB PySem.F.excCall_ValueError PySem.F.excRaise_ValueError o.handled (name_B F st.gg.kin (topRead_of st.gg.top) (T.fresh "ValueError" (by decide)) (v := .type "ValueError") (by decide +kernel) (by decide) ⟨rfl, ?_⟩ o.kind hl (by decide)) rfl rfl
  refine args_cons (wpAny_Constant_str (args_nil ⟨line1000 (by simp), fun h' e hm => ?_⟩)) rfl
  exact Err.made (s := { s with toks := s.toks + 1 }) ⟨st0.gg, st0.ex, st0.gens, st0.os⟩ hm.of hX
theorem T_raiseC {np pos : Pos} {R : Flow → Loc → AH → Prop} (T : Tabs cx) (o : fr.Ok h) (hl : fr.scope.names.lookup (Str.ofString "Immutable") = some .globalImplicit)
    (hX : XX.made (.ref 340) σ H) :
    SemT cx fr tn XX (exec (.Raise (some (.Name (Str.ofString "Immutable") np)) none pos) fr.env) σ H R := fun g Xl s st => by
  have st0 := st
  obtain ⟨m, news, δ, F, N, lm, M⟩ := st.ex
  have hg := T.gt "Immutable" 340 rfl
  refine raise_own_cls (h₀ := g) (C := 340) o.handled (own_of_in st.gg.kin (topRead_of st.gg.top) hg T.exc) PySem.F.excBase_Exception F.keep (name_K F st.gg.kin (topRead_of st.gg.top) hg ⟨rfl, rfl⟩ o.kind hl (by decide)) fun h' e hm => ?_
  exact Err.made st0 hm hX
theorem T_while {test : Expr} {body : List Stmt} {pos : Pos} {R : Flow → Loc → AH → Prop} (Inv : Nat → Loc → AH → Prop) {n : Nat} (h0 : Inv n σ H)
    (step : ∀ n σ H, Inv n σ H → SemT cx fr tn NoX (PySem.isTrue test fr.env (eval test fr.env)) σ H fun b σ₁ H₁ =>
      if b then SemT cx fr tn NoX (execs body fr.env) σ₁ H₁ (fun f σ₂ H₂ => match f with
        | .next => ∃ m, m < n ∧ Inv m σ₂ H₂
        | .cont => ∃ m, m < n ∧ Inv m σ₂ H₂
        | .brk => R .next σ₂ H₂
        | .ret v => R (.ret v) σ₂ H₂) else R .next σ₁ H₁) :
    SemT cx fr tn XX (exec (.While test body [] pos) fr.env) σ H R := fun g Xl s st => by
  refine wpAny_While (codeAny_whileLoop (fun n s' => ∃ g' σ' H', Turn fr tn g g' ∧ St cx fr g' Xl σ' H' s' ∧ Inv n σ' H') ?_ n ⟨g, σ, H, .refl, st, h0⟩)
  rintro n s' ⟨g', σ', H', tr, st', hI⟩
  refine wpAny_mono (step n σ' H' hI g' Xl s' st') (fun b s₂ p1_ => ?_) fun _ _ e => e.no.elim
  obtain ⟨g₂, σ₂, H₂, tr₂, st₂, r⟩ := p1_
  cases b
  · rw [if_neg (by simp)] at r ⊢
    exact wpAny_execs_nil ⟨g₂, σ₂, H₂, tr.trans tr₂, st₂, r⟩
  · rw [if_pos rfl] at r ⊢
    refine wpAny_mono (r g₂ Xl s₂ st₂) (fun f s₃ p1_ => ?_) fun _ _ e => e.no.elim
    obtain ⟨g₃, σ₃, H₃, tr₃, st₃, r₃⟩ := p1_
    have t := (tr.trans tr₂).trans tr₃
    match f with
    | .next => obtain ⟨m, hm, hI'⟩ := r₃; exact ⟨m, hm, g₃, σ₃, H₃, t, st₃, hI'⟩
    | .cont => obtain ⟨m, hm, hI'⟩ := r₃; exact ⟨m, hm, g₃, σ₃, H₃, t, st₃, hI'⟩
    | .brk => exact ⟨g₃, σ₃, H₃, t, st₃, r₃⟩
    | .ret v => exact ⟨g₃, σ₃, H₃, t, st₃, r₃⟩
end
section
variable {cx : Cx} {fr : Frm} {tn : Bool} {X : Value → AH → Prop} {XX : XP} {σ : Loc} {H : AH} {h : Nat}
abbrev rangeIt (a n : Int) : Obj := { cls := .type "range_iterator", data := .fields #[rawInt a, rawInt n, rawInt 1] }
noncomputable def TurnR (R : Flow → Loc → AH → Prop) (rst : AH → AH) (nxt : Loc → AH → Prop) : Flow → Loc → AH → Prop := fun f σ H => match f with
  | .next => nxt σ H
  | .cont => nxt σ H
  | .brk => R .next σ (rst H)
  | .ret v => R (.ret v) σ (rst H)
inductive RangeV (vs : List AV) (lo : Int) (cnt : Nat) : Prop
  | inl (n : Int) (hv : vs = [.int n]) (hl : lo = 0) (hc : cnt = n.toNat) (h1 : n < 1000000) (h2 : -1000000 < n)
  | inr (a b : Int) (hv : vs = [.int a, .int b]) (hl : lo = a) (hc : cnt = (b - a).toNat) (h1 : a < 1000000) (h2 : -1000000 < a) (h3 : b < 1000000) (h4 : -1000000 < b)
inductive ForRP (S : (Loc → AH → Prop) → Loc → AH → Prop) (D : Loc → AH → Prop) (x : String) (σ : Loc) (vs : List AV) (H₁ : AH) : Prop
  | mk (lo : Int) (cnt : Nat) (Inv : Nat → Loc → AH → Prop) (hv : RangeV vs lo cnt) (h0 : Inv 0 σ H₁) (step : ∀ k σ H, k < cnt → Inv k σ H → S (Inv (k + 1)) (σ.set x (.int (lo + k))) H) (done : ∀ σ H, Inv cnt σ H → D σ H)
theorem ForRP.mono {S S' : (Loc → AH → Prop) → Loc → AH → Prop} {D D' : Loc → AH → Prop} {x : String} {vs : List AV} (h : ForRP S D x σ vs H) (hS : ∀ n σ H, S n σ H → S' n σ H) (hD : ∀ σ H, D σ H → D' σ H) : ForRP S' D' x σ vs H := by
  cases h with
  | mk lo cnt Inv hv h0 step done => exact ⟨lo, cnt, Inv, hv, h0, fun k σ H a b => hS _ _ _ (step k σ H a b), fun σ H a => hD _ _ (done σ H a)⟩
theorem range_loop {x : String} {xp : Pos} {body : List Stmt} {R : Flow → Loc → AH → Prop} {lo : Int} {cnt : Nat} {I : Addr} {g : Heap} {Xl : List (Addr × Obj)} {s : Shared} {E : Value → Shared → Prop} (Inv : Nat → Loc → AH → Prop)
    (o : fr.Ok h) (hl : fr.scope.names.lookup (Str.ofString x) = some .local) (hX : ∀ q ∈ Xl, q.1 ≠ I)
    (st : St cx fr g ((I, rangeIt lo cnt) :: Xl) σ H s) (h0 : Inv 0 σ H)
    (step : ∀ k σ H, k < cnt → Inv k σ H → SemT cx fr tn NoX (execs body fr.env) (σ.set x (.int (lo + k))) H (TurnR R id (Inv (k + 1))))
    (done : ∀ σ H, Inv cnt σ H → R .next σ H) :
    codeAny (model cx.prog cx.w) fr.A (.forLoop (.Name (Str.ofString x) xp) (.ref I) body [] fr.env) (fun r s' => match r with | .ok f => Post cx fr tn g Xl R f s' | .error e => cameBackBy (model cx.prog cx.w) fr.A fr.env E e s') s := by
  have W := Walks.range (prog := cx.prog) (w := cx.w) (A := fr.A) o.handled I lo 1 cnt
  have hsub : ∀ {a : Int} {n : Int}, ∀ z ∈ Xl, z ∈ (I, rangeIt a n) :: Xl := fun z hz => List.mem_cons_of_mem _ hz
  refine codeAny_forLoop (I := fun n s' => ∃ k g' σ' H', n + k = cnt ∧ Turn fr tn g g' ∧ St cx fr g' ((I, rangeIt (lo + (k : Nat) * 1) ((cnt : Int) - (k : Nat))) :: Xl) σ' H' s' ∧ Inv k σ' H') ?_ cnt ⟨0, g, σ, H, rfl, .refl, by simpa using st, h0⟩ (by intro _; rfl)
  rintro n s' ⟨k, g', σ', H', hn, tr, st', hI⟩
  have hit : IsRangeIter s'.heap I (lo + (k : Nat) * 1) ((cnt : Int) - (k : Nat)) 1 := by
    obtain ⟨m, news, δ, F, N, lm, M⟩ := st'.ex
    exact (N _ (M.X _ (List.mem_cons_self)).1).1
  by_cases hk : k < cnt
  · refine W.item k s' _ _ hk hit fun v h' tk hv hit' hkeep => ?_
    obtain ⟨t, rfl⟩ := hv
    have st₁ : St cx fr g' ((I, rangeIt (lo + ((k + 1 : Nat) : Int) * 1) ((cnt : Int) - ((k + 1 : Nat) : Int))) :: Xl) σ' H' { s' with heap := h', toks := tk } := st'.turnX hX hkeep hit'
    dsimp only
    have hs : SemT cx fr tn NoX (assign (.Name (Str.ofString x) xp) fr.env (.int (lo + (k : Nat) * 1) t)) σ' H' (fun _ σ₁ H₁ => σ₁ = σ'.set x (.int (lo + k)) ∧ H₁ = H') :=
      .of_eq (fun Q E s q => PyProof.Rows.assign_Name q) (T_store (av := .int (lo + k)) (by rw [Int.mul_one]; exact .int _ _) o.kind hl ⟨rfl, rfl⟩)
    refine wpAny_mono (hs g' _ _ st₁) (fun _ s₂ p1_ => ?_) fun _ _ e => e.no.elim
    obtain ⟨g₂, σ₂, H₂, tr₂, st₂, e1, e2⟩ := p1_
    subst e1 e2
    refine wpAny_mono (step k σ' _ hk hI g₂ _ s₂ st₂) (fun f s₃ p1_ => ?_) fun _ _ e => e.no.elim
    obtain ⟨g₃, σ₃, H₃, tr₃, st₃, r⟩ := p1_
    have t3 := (tr.trans tr₂).trans tr₃
    match f with
    | .next => exact ⟨n - 1, by lia, k + 1, g₃, σ₃, H₃, by lia, t3, st₃, r⟩
    | .cont => exact ⟨n - 1, by lia, k + 1, g₃, σ₃, H₃, by lia, t3, st₃, r⟩
    | .brk => exact ⟨g₃, σ₃, H₃, t3, st₃.unX hsub, r⟩
    | .ret v => exact ⟨g₃, σ₃, H₃, t3, st₃.unX hsub, r⟩
  · have e : k = cnt := by lia
    subst e
    refine W.done s' _ _ hit fun h' tk hkeep => ?_
    dsimp only
    obtain ⟨m, news, δ, F, N, lm, M⟩ := st'.ex
    have hm := (M.X _ (List.mem_cons_self)).1
    have hz := N _ hm
    have hoff := (M.X _ (List.mem_cons_self)).2
    refine wpAny_execs_nil ⟨g', σ', H', tr, ⟨st'.gg, ⟨m, _, δ, LCg.fr_but F hkeep (fun e => hz.2.1 e.symm) hz.2.2, fun p hp => ?_, lm, M.drop [I] (fun a ha => by rw [List.mem_singleton.mp ha]; exact hoff) fun q hq => ⟨List.mem_cons_of_mem _ hq, by simpa using hX q hq⟩⟩, st'.gens, st'.os⟩, done σ' H' hI⟩
    obtain ⟨h1, h2⟩ := List.mem_filter.mp hp
    have := N p h1
    exact ⟨hkeep _ _ (by simpa using h2) this.1, this.2⟩
theorem T_forRange {x : String} {xp np cpos pos : Pos} {es : List Expr} {body : List Stmt} {R : Flow → Loc → AH → Prop} (T : Tabs cx) (o : fr.Ok h) (hl : fr.scope.names.lookup (Str.ofString x) = some .local) (hg : fr.scope.names.lookup (Str.ofString "range") = some .globalImplicit)
    (hes : es.all notStar = true) (hn : es ≠ [])
    (hc : SemT cx fr tn NoX (spliced (backTo cpos (starEach es fr.env))) σ H (VRs σ (ForRP (fun n σ H => SemT cx fr tn NoX (execs body fr.env) σ H (TurnR R id n)) (R .next) x σ))) :
    SemT cx fr tn XX (exec (.For (.Name (Str.ofString x) xp) (.Call (.Name (Str.ofString "range") np) es [] cpos) body [] pos) fr.env) σ H R := fun g Xl s st => by
  refine wpAny_For ?_ (by intro _; rfl)
  obtain ⟨m, news, δ, F, N, lm, M⟩ := st.ex
  obtain ⟨e₀, rest, rfl⟩ := List.exists_cons_of_ne_nil hn
  rw [List.all_cons, Bool.and_eq_true] at hes
  refine Call_ (name_B F st.gg.kin (topRead_of st.gg.top) (T.fresh "range" (by decide)) (v := .type "range") (by decide +kernel) (by decide) ?_ o.kind hg (by decide))
  refine PyProof.Rows.callWith_type1 (wpAny_mono (hc g Xl s st) (fun vs s₁ p1_ => ?_) fun _ _ e => e.no.elim) (starEach_of hes.1) (star_none hes.2)
  obtain ⟨g₁, σ₁, H₁, tr, st₁, e1, avs, hvs, lo, cnt, Inv, hav, h0, step, done⟩ := p1_
  subst e1
  have fin : ∀ (o' : Obj) (a b : Int) (t u v : Tok) (tk : Nat), o' = { cls := .type "range", data := .fields #[.int a t, .int b u, .int 1 v] } → lo = a → cnt = (b - a).toNat → a < 1000000 → -1000000 < a → b < 1000000 → -1000000 < b →
      wpAny (model cx.prog cx.w) fr.A (pyIter (.ref s₁.heap.objs.size)) (fun it s₂ => codeAny (model cx.prog cx.w) fr.A (.forLoop (.Name (Str.ofString x) xp) it body [] fr.env)
        (fun r s' => match r with | .ok f => Post cx fr tn g Xl R f s' | .error e => cameBackBy (model cx.prog cx.w) fr.A fr.env (Err cx fr tn g Xl XX) e s') s₂) (Err cx fr tn g Xl XX) { s₁ with heap := s₁.heap.push o', toks := tk } := by
    intro o' a b t u v tk ho ha hcnt h1 h2 h3 h4
    subst ho ha
    obtain ⟨m₁, news₁, δ₁, F₁, N₁, lm₁, M₁⟩ := st₁.ex
    refine wpAny_pyIter_range (IsRange.new _ _ _ _ _ _ _) (small_one (by lia) (by lia) (by lia) (by lia)) ?_
    rw [rangeSize_nat, ← hcnt]
    have F₂ : Fr g₁ fr.L (s₁.heap.push { cls := .type "range", data := .fields #[.int lo t, .int b u, .int 1 v] }) m₁ := F₁.push _
    have N₂ : News g₁ fr.L (s₁.heap.push { cls := .type "range", data := .fields #[.int lo t, .int b u, .int 1 v] }) news₁ := N₁.grown fun _ _ e => Heap.get?_push_of_some _ e
    have hlt : ∀ p ∈ news₁, p.1 < (s₁.heap.push { cls := .type "range", data := .fields #[.int lo t, .int b u, .int 1 v] }).objs.size := fun p hp => Heap.lt_size (N₂ p hp).1
    have N₃ := News.push F₂ N₂ (rangeIt lo cnt)
    have hXf : ∀ q ∈ Xl, q.1 ≠ (s₁.heap.push { cls := .type "range", data := .fields #[.int lo t, .int b u, .int 1 v] }).objs.size := fun q hq => Nat.ne_of_lt (hlt q (M₁.X q hq).1)
    have st₃ : St cx fr g₁ (((s₁.heap.push { cls := .type "range", data := .fields #[.int lo t, .int b u, .int 1 v] }).objs.size, rangeIt lo cnt) :: Xl) σ₁ H₁ { s₁ with heap := (s₁.heap.push { cls := .type "range", data := .fields #[.int lo t, .int b u, .int 1 v] }).push (rangeIt lo cnt), toks := tk } :=
      ⟨st₁.gg, ⟨m₁, _, δ₁, F₂.push _, N₃, lm₁, M₁.lock N₂ (fresh_of_lt hlt)⟩, st₁.gens, st₁.os⟩
    refine codeAny_mono (range_loop (R := R) (tn := tn) Inv o hl hXf st₃ h0 step done (E := Err cx fr tn g Xl XX)) fun r s' p => ?_
    match r with
    | .ok f => exact p.trans tr
    | .error e => exact p
  rcases hav with ⟨n, rfl, rfl, hcnt, b1, b2⟩ | ⟨a, b, rfl, rfl, hcnt, b1, b2, b3, b4⟩
  · obtain ⟨v, rfl, hv⟩ := hvs.one
    obtain ⟨_, rfl⟩ := hv.toI
    exact call_range_1 (fin _ 0 n _ _ _ _ rfl rfl (by rw [Int.sub_zero]; exact hcnt) (by lia) (by lia) b1 b2)
  · obtain ⟨v, w, rfl, hv, hw⟩ := hvs.two
    obtain ⟨_, rfl⟩ := hv.toI; obtain ⟨_, rfl⟩ := hw.toI
    exact call_range_2 (fin _ lo b _ _ _ _ rfl rfl hcnt b1 b2 b3 b4)
end
theorem subL_of : ∀ {l all : List (Addr × Obj)}, (∀ p ∈ l, p ∈ all) → SubL l all
  | [], _, _ => trivial
  | p :: r, all, h => ⟨h p (by simp), subL_of fun q hq => h q (by simp [hq])⟩
theorem allObj_of : ∀ {ws : List (Addr × String)} {k : List (Addr × Obj) → Prop}, (∀ its, Objs ws its → k its) → AllObj ws k
  | [], k, h => h [] trivial
  | w :: ws, k, h => fun o ho => allObj_of fun its hi => h ((w.1, o) :: its) ⟨⟨rfl, ho⟩, hi⟩
theorem objs_fst : ∀ {ws : List (Addr × String)} {its : List (Addr × Obj)}, Objs ws its → its.map (·.1) = ws.map (·.1) := fun h => h.map
section
variable {cx : Cx} {fr : Frm} {X : Value → AH → Prop} {XX : XP} {σ : Loc} {H : AH} {h : Nat}
theorem Off.of_fresh {news : List (Addr × Obj)} {Xl : List (Addr × Obj)} {δ : Addr → Addr} {h₀ hp : Heap} {Lx : Addr} {q : Addr} (N : News h₀ Lx hp news) (M : Match cx news H Xl δ) (hf : ∀ o, (q, o) ∉ news) : Off H δ q := by
  refine ⟨M.free N hf, fun b hb e => ?_⟩
  obtain ⟨x, hx⟩ := Option.ne_none_iff_exists'.mp hb
  obtain ⟨_, ⟨es, k, h2, _⟩, _⟩ := M.I b x.1 x.2 hx
  exact hf _ (by rw [← e]; exact h2)
theorem Match.adds {news : List (Addr × Obj)} {Xl : List (Addr × Obj)} {δ : Addr → Addr} {its : List (Addr × Obj)} : (its.map (·.1)).Nodup → (∀ p ∈ its, Off H δ p.1 ∧ ∀ q ∈ news, q.1 ≠ p.1) → Match cx news H Xl δ → Match cx (its ++ news) H (its ++ Xl) δ := by
  induction its with
  | nil => exact fun _ _ M => M
  | cons p its ih =>
    intro nd hoff M
    rw [List.map_cons, List.nodup_cons] at nd
    have M1 := ih nd.2 (fun q hq => hoff q (by simp [hq])) M
    obtain ⟨a, o⟩ := p
    have hf : ∀ o', (a, o') ∉ its ++ news := fun o' hm => by
      rcases List.mem_append.mp hm with hm | hm
      · exact nd.1 (List.mem_map.mpr ⟨_, hm, rfl⟩)
      · exact (hoff (a, o) (by simp)).2 _ hm rfl
    have M2 := M1.more (o := o) hf
    refine ⟨M2.nd, M2.L, M2.T, M2.I, M2.inj, M2.D, M2.B, fun q hq => ?_⟩
    rcases List.mem_cons.mp hq with rfl | hq
    · exact ⟨by simp, (hoff (a, o) (by simp)).1⟩
    · exact M2.X q hq
theorem items_rest {g : Heap} {Xl keep : List (Addr × Obj)} {s : Shared} {target : Expr} {body : List Stmt} {ws : List (Addr × String)} {R : Flow → Loc → AH → Prop} {items : List Itm} {bnd : Nat → Loc → Loc} {rst : AH → AH}
    (Inv : Nat → Loc → AH → Prop) (gg : StG cx fr g) (hgens : s.gens = #[]) (hos : s.os = cx.os ∧ s.drawn = cx.dr)
    (hws : (ws.map (·.1)).Nodup) (hkw : ∀ p ∈ keep ++ Xl, p.1 ∉ ws.map (·.1))
    (hA : ∀ k a v s' σ H its, items[k]? = some a → St cx fr g (its ++ (keep ++ Xl)) σ H s' → a.Is v s'.heap → wpAny (model cx.prog cx.w) fr.A (assign target fr.env v) (Post cx fr false g (its ++ (keep ++ Xl)) (fun _ σ₁ H₁ => σ₁ = bnd k σ ∧ H₁ = H)) (fun _ _ => False) s')
    (hB : ∀ k a σ H, items[k]? = some a → Inv k σ H → SemT cx fr false NoX (execs body fr.env) (bnd k σ) H (TurnR R rst (Inv (k + 1))))
    (hR : ∀ news H δ, Match cx news H (keep ++ Xl) δ → Match cx news (rst H) Xl δ)
    (done : ∀ σ H, Inv items.length σ H → R .next σ (rst H)) :
    ∀ (r : List Itm) (k : Nat) (σ : Loc) (H : AH) (m : Str → Option Value) (news : List (Addr × Obj)) (δ : Addr → Addr), items.drop k = r → k ≤ items.length → LocM m σ → Match cx news H (keep ++ Xl) δ → (∀ p ∈ news, p.1 ∉ ws.map (·.1)) → (∀ w ∈ ws, Off H δ w.1) → Inv k σ H →
      ItemsRest cx.prog cx.w fr.A (fun _ _ => False) g fr.env target body (Post cx fr false g Xl R) s ws keep r m news := by
  intro r
  induction r with
  | nil =>
    intro k σ H m news δ hd hk lm M hn ho hI hp tk F N
    have e : k = items.length := by
      have := congrArg List.length hd
      rw [List.length_drop, List.length_nil] at this
      lia
    subst e
    exact ⟨g, σ, _, .refl, ⟨gg, ⟨m, news, δ, F, N, lm, hR _ _ _ M⟩, hgens, hos⟩, done σ H hI⟩
  | cons a r ih =>
    intro k σ H m news δ hd hk lm M hn ho hI v hp tk hv F
    have ha : items[k]? = some a := by
      have : (items.drop k)[0]? = some a := by rw [hd]; rfl
      simpa using this
    have hr : items.drop (k + 1) = r := by
      rw [← List.drop_drop, hd]; rfl
    have hk' : k + 1 ≤ items.length := by
      rcases Nat.lt_or_ge k items.length with q | q
      · exact q
      · rw [List.getElem?_eq_none q] at ha; cases ha
    refine allObj_of fun its hits N => ?_
    have hmap := objs_fst hits
    have M₁ : Match cx (its ++ news) H (its ++ (keep ++ Xl)) δ := Match.adds (by rw [hmap]; exact hws) (fun p hp => by
      have : p.1 ∈ ws.map (·.1) := by rw [← hmap]; exact List.mem_map_of_mem hp
      refine ⟨?_, fun q hq e => hn q hq (e ▸ this)⟩
      obtain ⟨w, hw, e⟩ := List.mem_map.mp this
      exact e ▸ ho w hw) M
    have st : St cx fr g (its ++ (keep ++ Xl)) σ H { s with heap := hp, toks := tk } := ⟨gg, ⟨m, _, δ, F, N, lm, M₁⟩, hgens, hos⟩
    refine wpAny_mono (hA k a v _ σ H its ha st hv) (fun _ s₂ p1_ => ?_) fun _ _ e => e
    obtain ⟨g₂, σ₂, H₂, tr₂, st₂, e1, e2⟩ := p1_
    subst e1 e2
    obtain rfl : g₂ = g := tr₂.1 rfl
    refine wpAny_mono (hB k a σ _ ha hI g₂ _ s₂ st₂) (fun f s₃ p1_ => ?_) fun _ _ e => e.no
    obtain ⟨g₃, σ₃, H₃, tr₃, st₃, r₃⟩ := p1_
    obtain rfl : g₃ = g₂ := tr₃.1 rfl
    have hfin : ∀ (hI' : Inv (k + 1) σ₃ H₃), UnrEndW g₃ fr.env.locals { s with heap := hp, toks := tk } its (fun m' n' => SubL keep n' ∧ ItemsRest cx.prog cx.w fr.A (fun _ _ => False) g₃ fr.env target body (Post cx fr false g₃ Xl R) s ws keep r m' n') s₃ := fun hI' => by
      obtain ⟨m₃, news₃, δ₃, F₃, N₃, lm₃, M₃⟩ := st₃.ex
      have hoff : ∀ a ∈ ws.map (·.1), Off H₃ δ₃ a := fun a ha => by
        rw [← hmap] at ha
        obtain ⟨p, hp, e⟩ := List.mem_map.mp ha
        have := (M₃.X p (by simp [hp])).2
        exact e ▸ this
      have M₄ : Match cx (news₃.filter (fun p => decide (p.1 ∉ ws.map (·.1)))) H₃ (keep ++ Xl) δ₃ := M₃.drop _ hoff fun q hq => ⟨by simp only [List.mem_append]; exact .inr (by simpa using hq), hkw q hq⟩
      refine ⟨s₃.heap, s₃.toks, m₃, news₃.filter (fun p => decide (p.1 ∉ ws.map (·.1))), ?_, F₃, fun p hp => ?_, fun p hp q hq e => ?_, subL_of fun p hp => (M₄.X p (by simp [hp])).1, ?_⟩
      · obtain ⟨h1, h2⟩ := st₃.os
        have h3 := st₃.gens
        obtain ⟨o1, o2⟩ := hos
        obtain ⟨a1, a2, a3, a4, a5⟩ := s₃
        dsimp only at *
        rw [hgens, o1, o2]
        simp only [Shared.mk.injEq]
        exact ⟨trivial, h3, h2, trivial, h1⟩
      · rcases List.mem_append.mp hp with q | q
        · exact N₃ p (M₃.X p (by simp [q])).1
        · exact N₃ p (List.mem_filter.mp q).1
      · have h1 := (List.mem_filter.mp hp).2
        simp only [decide_eq_true_eq] at h1
        exact h1 (by rw [e, ← hmap]; exact List.mem_map_of_mem hq)
      · exact ih (k + 1) σ₃ H₃ m₃ _ δ₃ hr hk' lm₃ M₄ (fun p hp => by
          have := (List.mem_filter.mp hp).2
          simpa using this) (fun w hw => hoff _ (List.mem_map_of_mem hw)) hI'
    match f with
    | .next => exact hfin r₃
    | .cont => exact hfin r₃
    | .brk =>
      obtain ⟨m₃, news₃, δ₃, F₃, N₃, lm₃, M₃⟩ := st₃.ex
      exact ⟨g₃, σ₃, _, .refl, ⟨st₃.gg, ⟨m₃, news₃, δ₃, F₃, N₃, lm₃, hR _ _ _ (M₃.unX fun q hq => by simp only [List.mem_append]; exact .inr (by simpa using hq))⟩, st₃.gens, st₃.os⟩, r₃⟩
    | .ret v =>
      obtain ⟨m₃, news₃, δ₃, F₃, N₃, lm₃, M₃⟩ := st₃.ex
      exact ⟨g₃, σ₃, _, .refl, ⟨st₃.gg, ⟨m₃, news₃, δ₃, F₃, N₃, lm₃, hR _ _ _ (M₃.unX fun q hq => by simp only [List.mem_append]; exact .inr (by simpa using hq))⟩, st₃.gens, st₃.os⟩, r₃⟩
end
section
variable {cx : Cx} {fr : Frm} {X : Value → AH → Prop} {XX : XP} {σ : Loc} {H : AH} {h : Nat}
theorem T_pair {x y : String} {xp yp tp : Pos} {k : Nat} {tn : Bool} {t : Addr} {v w : Value} {a b : AV} {g : Heap} {Xl : List (Addr × Obj)} {s : Shared} (o : fr.Ok h)
    (hlx : fr.scope.names.lookup (Str.ofString x) = some .local) (hly : fr.scope.names.lookup (Str.ofString y) = some .local) (hv : Sim v a) (hw : Sim w b)
    (st : St cx fr g Xl σ H s) (ht : IsTup s.heap t #[v, w]) {R : Unit → Loc → AH → Prop} (hR : R () ((σ.set x a).set y b) H) {E : Value → Shared → Prop} :
    wpAny (model cx.prog cx.w) fr.A (assign (.Tuple [.Name (Str.ofString x) xp, .Name (Str.ofString y) yp] k tp) fr.env (.ref t)) (Post cx fr tn g Xl R) E s := by
  obtain ⟨m, news, δ, F, N, lm, M⟩ := st.ex
  refine unpackN_ F N ht o.handled rfl rfl fun h' F' N' => ?_
  have st' : St cx fr g Xl σ H { s with heap := h' } := ⟨st.gg, ⟨m, news, δ, F', N', lm, M⟩, st.gens, st.os⟩
  have h1 : SemT cx fr tn NoX (assign (.Name (Str.ofString x) xp) fr.env v) σ H (fun _ σ₁ H₁ => σ₁ = σ.set x a ∧ H₁ = H) := .of_eq (fun Q E s q => PyProof.Rows.assign_Name q) (T_store hv o.kind hlx ⟨rfl, rfl⟩)
  have h2 : SemT cx fr tn NoX (assign (.Name (Str.ofString y) yp) fr.env w) (σ.set x a) H (fun _ σ₁ H₁ => σ₁ = (σ.set x a).set y b ∧ H₁ = H) := .of_eq (fun Q E s q => PyProof.Rows.assign_Name q) (T_store hw o.kind hly ⟨rfl, rfl⟩)
  show wpAny _ _ (assignInOrder [fun v => assign (.Name (Str.ofString x) xp) fr.env v, fun v => assign (.Name (Str.ofString y) yp) fr.env v] [v, w]) _ _ _
  refine assignInOrder_cons (wpAny_mono (h1 g Xl _ st') (fun _ s₁ p1_ => ?_) fun _ _ e => e.no.elim)
  obtain ⟨g₁, σ₁, H₁, tr₁, st₁, e1, e2⟩ := p1_
  subst e1 e2
  refine assignInOrder_cons (wpAny_mono (h2 g₁ Xl _ st₁) (fun _ s₂ p1_ => ?_) fun _ _ e => e.no.elim)
  obtain ⟨g₂, σ₂, H₂, tr₂, st₂, e1, e2⟩ := p1_
  subst e1 e2
  exact assignInOrder_nil ⟨g₂, _, _, tr₁.trans tr₂, st₂, hR⟩
inductive ForLP (S : (AH → AH) → (Loc → AH → Prop) → Loc → AH → Prop) (D : Loc → AH → Prop) (x : String) (σ : Loc) (a : AV) (H₁ : AH) : Prop
  | mk (l : Addr) (xs : List AV) (ha : a = .ref l) (hL : H₁.L l = some xs) (Inv : Nat → Loc → AH → Prop) (h0 : Inv 0 σ (H₁.dropL l))
    (step : ∀ k a σ H, xs[k]? = some a → Inv k σ H → S (·.setL l xs) (Inv (k + 1)) (σ.set x a) H) (done : ∀ σ H, Inv xs.length σ H → D σ (H.setL l xs))
inductive ForEP (S : (AH → AH) → (Loc → AH → Prop) → Loc → AH → Prop) (D : Loc → AH → Prop) (x y : String) (σ : Loc) (a : AV) (H₁ : AH) : Prop
  | mk (l : Addr) (xs : List AV) (ha : a = .ref l) (hL : H₁.L l = some xs) (Inv : Nat → Loc → AH → Prop) (h0 : Inv 0 σ (H₁.dropL l))
    (step : ∀ k a σ H, xs[k]? = some a → Inv k σ H → S (·.setL l xs) (Inv (k + 1)) ((σ.set x (.int k)).set y a) H) (done : ∀ σ H, Inv xs.length σ H → D σ (H.setL l xs))
inductive ForZP (S : (AH → AH) → (Loc → AH → Prop) → Loc → AH → Prop) (D : Loc → AH → Prop) (x y : String) (σ : Loc) (a c : AV) (H₂ : AH) : Prop
  | mk (l l' : Addr) (xs ys : List AV) (ha : a = .ref l) (hc : c = .ref l') (hll : l ≠ l') (hL : H₂.L l = some xs) (hL' : H₂.L l' = some ys) (hle : xs.length = ys.length) (Inv : Nat → Loc → AH → Prop) (h0 : Inv 0 σ ((H₂.dropL l').dropL l))
    (step : ∀ k a c σ H, xs[k]? = some a → ys[k]? = some c → Inv k σ H → S (fun H => (H.setL l xs).setL l' ys) (Inv (k + 1)) ((σ.set x a).set y c) H) (done : ∀ σ H, Inv xs.length σ H → D σ ((H.setL l xs).setL l' ys))
section
variable {S S' : (AH → AH) → (Loc → AH → Prop) → Loc → AH → Prop} {D D' : Loc → AH → Prop} {x y : String} {a c : AV}
theorem ForLP.mono (h : ForLP S D x σ a H) (hS : ∀ r n σ H, S r n σ H → S' r n σ H) (hD : ∀ σ H, D σ H → D' σ H) : ForLP S' D' x σ a H := by
  cases h with
  | mk l xs ha hL Inv h0 step done => exact ⟨l, xs, ha, hL, Inv, h0, fun k a σ H p q => hS _ _ _ _ (step k a σ H p q), fun σ H p => hD _ _ (done σ H p)⟩
theorem ForEP.mono (h : ForEP S D x y σ a H) (hS : ∀ r n σ H, S r n σ H → S' r n σ H) (hD : ∀ σ H, D σ H → D' σ H) : ForEP S' D' x y σ a H := by
  cases h with
  | mk l xs ha hL Inv h0 step done => exact ⟨l, xs, ha, hL, Inv, h0, fun k a σ H p q => hS _ _ _ _ (step k a σ H p q), fun σ H p => hD _ _ (done σ H p)⟩
theorem ForZP.mono (h : ForZP S D x y σ a c H) (hS : ∀ r n σ H, S r n σ H → S' r n σ H) (hD : ∀ σ H, D σ H → D' σ H) : ForZP S' D' x y σ a c H := by
  cases h with
  | mk l l' xs ys ha hc hll hL hL' hle Inv h0 step done => exact ⟨l, l', xs, ys, ha, hc, hll, hL, hL', hle, Inv, h0, fun k a c σ H p q r => hS _ _ _ _ (step k a c σ H p q r), fun σ H p => hD _ _ (done σ H p)⟩
end
theorem T_forL {x : String} {xp pos : Pos} {iter : Expr} {body : List Stmt} {R : Flow → Loc → AH → Prop} (o : fr.Ok h) (hl : fr.scope.names.lookup (Str.ofString x) = some .local) (hset : notSet iter = true)
    (hc : SemT cx fr false NoX (eval iter fr.env) σ H (VR σ (ForLP (fun rst nxt σ H => SemT cx fr false NoX (execs body fr.env) σ H (TurnR R rst nxt)) (R .next) x σ))) :
    SemT cx fr false XX (exec (.For (.Name (Str.ofString x) xp) iter body [] pos) fr.env) σ H R := fun g Xl s st => by
  obtain ⟨m₀, news₀, δ₀, F₀, N₀, lm₀, M₀⟩ := st.ex
  refine wpAny_mono (E := fun _ _ => False) (For_turns (Q := Post cx fr false g Xl R) (h₀ := g) (m := m₀) F₀ (hc.useF st (fun v s₁ H₁ av st₁ hv p1_ => ?_) fun _ _ e => e.no) (folded_no hset) PassesOwn.never) (fun _ _ q => q) fun _ _ e => e.elim
  obtain ⟨l, xs, hav, hL, Inv, h0, step, done⟩ := p1_
  subst hav
  obtain rfl := hv.toR
  obtain ⟨m, news, δ, F, N, lm, M⟩ := st₁.ex
  obtain ⟨vs, n, hm, hs, hb, M', hXl⟩ := M.lockL N hL
  refine iter_listTurns o.handled F N hm rfl rfl fun I hI => ?_
  have hlen := hs.length
  refine items_rest (items := vs.map .val) (bnd := fun k σ => match xs[k]? with | some a => σ.set x a | none => σ) (rst := fun H => H.setL l xs) (keep := [(l, W.listOf vs.toArray n)]) Inv st₁.gg st₁.gens st₁.os (by simp) (fun p hp => ?_) ?_ ?_ ?_ ?_ _ 0 _ _ _ _ _ rfl (by simp) lm M' (fun p hp => ?_) (fun w hw => ?_) h0
  · have : p.1 < I := by
      rcases List.mem_append.mp hp with q | q
      · exact hI p (by rw [List.mem_singleton.mp q]; exact hm)
      · exact hI p (M.X p q).1
    simp; exact Nat.ne_of_lt this
  · intro k a v s' σ H its ha st' hv
    obtain ⟨u, hu, rfl⟩ : ∃ u, vs[k]? = some u ∧ a = .val u := by
      rw [List.getElem?_map] at ha
      cases e : vs[k]? with
      | none => rw [e] at ha; cases ha
      | some u => rw [e] at ha; exact ⟨u, rfl, (Option.some.inj ha).symm⟩
    have hv' : v = u := hv
    subst hv'
    have hlt : k < xs.length := by
      rcases Nat.lt_or_ge k vs.length with q | q
      · lia
      · rw [List.getElem?_eq_none q] at hu; cases hu
    obtain ⟨w, hw, hsim⟩ := hs.get (List.getElem?_eq_getElem hlt)
    rw [hu] at hw
    cases hw
    have h1 : SemT cx fr false NoX (assign (.Name (Str.ofString x) xp) fr.env v) σ H (fun _ σ₁ H₁ => σ₁ = σ.set x xs[k] ∧ H₁ = H) := .of_eq (fun Q E s q => PyProof.Rows.assign_Name q) (T_store hsim o.kind hl ⟨rfl, rfl⟩)
    refine wpAny_mono (h1 g _ s' st') (fun _ s₂ ⟨g₂, σ₂, H₂, t₂, st₂, e1, e2⟩ => ⟨g₂, σ₂, H₂, t₂, st₂, ?_, e2⟩) fun _ _ e => e.no
    rw [List.getElem?_eq_getElem hlt]; exact e1
  · intro k a σ H ha hI'
    have hlt : k < xs.length := by
      rcases Nat.lt_or_ge k vs.length with q | q
      · lia
      · rw [List.getElem?_eq_none (by simpa using q)] at ha; cases ha
    have := step k xs[k] σ H (List.getElem?_eq_getElem hlt) hI'
    rw [List.getElem?_eq_getElem hlt]
    exact this
  · intro news' H' δ' M''
    exact Match.unlockL M'' hs hb hXl
  · intro σ' H' hI'
    exact done σ' H' (by rw [List.length_map, hlen] at hI'; exact hI')
  · simp; exact Nat.ne_of_lt (hI p hp)
  · obtain rfl : w = (I, "list_iterator") := by simpa using hw
    exact Off.of_fresh N M' (fresh_of_lt hI)
theorem T_forE {x y : String} {xp yp tp np cpos pos : Pos} {tk : Nat} {e : Expr} {body : List Stmt} {R : Flow → Loc → AH → Prop} (T : Tabs cx) (o : fr.Ok h) (hlx : fr.scope.names.lookup (Str.ofString x) = some .local) (hly : fr.scope.names.lookup (Str.ofString y) = some .local)
    (hg : fr.scope.names.lookup (Str.ofString "enumerate") = some .globalImplicit) (hst : notStar e = true)
    (hc : SemT cx fr false NoX (eval e fr.env) σ H (VR σ (ForEP (fun rst nxt σ H => SemT cx fr false NoX (execs body fr.env) σ H (TurnR R rst nxt)) (R .next) x y σ))) :
    SemT cx fr false XX (exec (.For (.Tuple [.Name (Str.ofString x) xp, .Name (Str.ofString y) yp] tk tp) (.Call (.Name (Str.ofString "enumerate") np) [e] [] cpos) body [] pos) fr.env) σ H R := fun g Xl s st => by
  obtain ⟨m₀, news₀, δ₀, F₀, N₀, lm₀, M₀⟩ := st.ex
  refine wpAny_mono (E := fun _ _ => False) (For_turns (Q := Post cx fr false g Xl R) (h₀ := g) (m := m₀) F₀ ?_ (by intro _; rfl) PassesOwn.never) (fun _ _ q => q) fun _ _ e => e.elim
  refine Call_ (name_B F₀ st.gg.kin (topRead_of st.gg.top) (T.fresh "enumerate" (by decide)) (v := .type "enumerate") (by decide +kernel) (by decide) ?_ o.kind hg (by decide))
  refine PyProof.Rows.callWith_type1 (args_cons (hc.useF st (fun v s₁ H₁ av st₁ hv p1_ => args_nil ?_) fun _ _ e => e.no) (starEach_of hst)) (starEach_of hst) rfl
  obtain ⟨l, xs, hav, hL, Inv, h0, step, done⟩ := p1_
  subst hav
  obtain rfl := hv.toR
  obtain ⟨m, news, δ, F, N, lm, M⟩ := st₁.ex
  obtain ⟨vs, n, hm, hs, hb, M', hXl⟩ := M.lockL N hL
  refine ktu_enum o.handled F N hm rfl rfl rfl fun I hI => ?_
  have hlen := hs.length
  have hil := enumItems_length vs 0
  have hfar : ∀ p ∈ (l, W.listOf vs.toArray n) :: Xl, p.1 < I := fun p hp => by
    rcases List.mem_cons.mp hp with rfl | q
    · exact hI _ hm
    · exact hI p (M.X p q).1
  have hin : ∀ {z : Nat}, z < I → z ∉ [I + 1, I] := fun {z} hz hm => by
    simp only [List.mem_cons, List.not_mem_nil, or_false] at hm
    rcases hm with e | e
    · exact absurd (show z < I + 1 from Nat.lt_succ_of_lt hz) (by rw [e]; exact Nat.lt_irrefl _)
    · exact absurd hz (by rw [e]; exact Nat.lt_irrefl _)
  refine items_rest (ws := [(I + 1, "enumerate"), (I, "list_iterator")]) (items := enumItems 0 vs) (bnd := fun k σ => match xs[k]? with | some a => (σ.set x (.int k)).set y a | none => σ) (rst := fun H => H.setL l xs) (keep := [(l, W.listOf vs.toArray n)]) Inv st₁.gg st₁.gens st₁.os ?_ (fun p hp => hin (hfar p hp)) ?_ ?_ ?_ ?_ _ 0 _ _ _ _ _ rfl (by simp) lm M' (fun p hp => hin (hI p hp)) (fun w hw => ?_) h0
  · simp only [List.map_cons, List.map_nil, List.nodup_cons, List.mem_singleton, List.not_mem_nil, not_false_eq_true, List.nodup_nil, and_true]
    exact fun e => absurd (Nat.lt_succ_self I) (by rw [show Nat.succ I = I from e]; exact Nat.lt_irrefl _)
  · intro k a v s' σ H its ha st' hv
    have hlt : k < vs.length := by
      rcases Nat.lt_or_ge k vs.length with q | q
      · exact q
      · rw [List.getElem?_eq_none (by rw [hil]; exact q)] at ha; cases ha
    have hlt' : k < xs.length := by lia
    have hg' := enumItems_get vs 0 k (v := vs[k]) (List.getElem?_eq_getElem hlt)
    rw [ha] at hg'
    cases hg'
    obtain ⟨w, hw, hsim⟩ := hs.get (List.getElem?_eq_getElem hlt')
    rw [List.getElem?_eq_getElem hlt] at hw
    cases hw
    obtain ⟨T', t, rfl, ht⟩ := hv
    refine T_pair (a := .int k) (b := xs[k]) o hlx hly (by rw [Nat.zero_add]; exact .int _ _) hsim st' ht ⟨?_, rfl⟩
    rw [List.getElem?_eq_getElem hlt']
  · intro k a σ H ha hI'
    have hlt : k < xs.length := by
      rcases Nat.lt_or_ge k vs.length with q | q
      · lia
      · rw [List.getElem?_eq_none (by rw [hil]; exact q)] at ha; cases ha
    have := step k xs[k] σ H (List.getElem?_eq_getElem hlt) hI'
    rw [List.getElem?_eq_getElem hlt]
    exact this
  · intro news' H' δ' M''
    exact Match.unlockL M'' hs hb hXl
  · intro σ' H' hI'
    exact done σ' H' (by rw [hil, hlen] at hI'; exact hI')
  · simp only [List.mem_cons, List.not_mem_nil, or_false] at hw
    rcases hw with rfl | rfl
    · exact Off.of_fresh N M' (fresh_of_lt fun p hp => Nat.lt_succ_of_lt (hI p hp))
    · exact Off.of_fresh N M' (fresh_of_lt hI)
theorem T_forZ {x y : String} {xp yp tp np cpos pos : Pos} {tk : Nat} {e₁ e₂ : Expr} {body : List Stmt} {R : Flow → Loc → AH → Prop} (T : Tabs cx) (o : fr.Ok h) (hlx : fr.scope.names.lookup (Str.ofString x) = some .local) (hly : fr.scope.names.lookup (Str.ofString y) = some .local)
    (hg : fr.scope.names.lookup (Str.ofString "zip") = some .globalImplicit) (hst₁ : notStar e₁ = true) (hst₂ : notStar e₂ = true)
    (hc : SemT cx fr false NoX (eval e₁ fr.env) σ H (VR σ fun a H₁ => SemT cx fr false NoX (eval e₂ fr.env) σ H₁ (VR σ fun b H₂ => ForZP (fun rst nxt σ H => SemT cx fr false NoX (execs body fr.env) σ H (TurnR R rst nxt)) (R .next) x y σ a b H₂))) :
    SemT cx fr false XX (exec (.For (.Tuple [.Name (Str.ofString x) xp, .Name (Str.ofString y) yp] tk tp) (.Call (.Name (Str.ofString "zip") np) [e₁, e₂] [] cpos) body [] pos) fr.env) σ H R := fun g Xl s st => by
  obtain ⟨m₀, news₀, δ₀, F₀, N₀, lm₀, M₀⟩ := st.ex
  refine wpAny_mono (E := fun _ _ => False) (For_turns (Q := Post cx fr false g Xl R) (h₀ := g) (m := m₀) F₀ ?_ (by intro _; rfl) PassesOwn.never) (fun _ _ q => q) fun _ _ e => e.elim
  refine Call_ (name_B F₀ st.gg.kin (topRead_of st.gg.top) (T.fresh "zip" (by decide)) (v := .type "zip") (by decide +kernel) (by decide) ?_ o.kind hg (by decide))
  have hz : (backTo cpos (starEach [e₂] fr.env)).any (·.1) = false := star_none (by simp [hst₂])
  refine PyProof.Rows.callWith_type1 (args_cons (hc.useF st (fun v s₁ H₁ av st₁ hv hc₂ => ?_) fun _ _ e => e.no) (starEach_of hst₁)) (starEach_of hst₁) hz
  refine args_cons (hc₂.useF st₁ (fun v₂ s₂ H₂ av₂ st₂ hv₂ p1_ => args_nil ?_) fun _ _ e => e.no) (starEach_of hst₂)
  obtain ⟨l, l', xs, ys, hav, hav₂, hll, hL, hL', hle, Inv, h0, step, done⟩ := p1_
  subst hav hav₂
  obtain rfl := hv.toR; obtain rfl := hv₂.toR
  obtain ⟨m, news, δ, F, N, lm, M⟩ := st₂.ex
  obtain ⟨vs', n', hm', hs', hb', M₁, hXl'⟩ := M.lockL N hL'
  obtain ⟨vs, n, hm, hs, hb, M', hXl⟩ := M₁.lockL N (xs := xs) (l := l) (by simpa [AH.dropL, hll] using hL)
  refine ktu_zip o.handled F N hm rfl rfl hm' rfl rfl fun I hI => ?_
  have hlen := hs.length
  have hlen' := hs'.length
  have hil : (zipItems vs vs').length = vs.length := by rw [zipItems_length]; lia
  have hfar : ∀ p ∈ (l, W.listOf vs.toArray n) :: (l', W.listOf vs'.toArray n') :: Xl, p.1 < I := fun p hp => by
    rcases List.mem_cons.mp hp with rfl | q
    · exact hI _ hm
    · rcases List.mem_cons.mp q with rfl | q
      · exact hI _ hm'
      · exact hI p (M.X p q).1
  have hin : ∀ {z : Nat}, z < I → z ∉ ([I + 4, I + 2, I + 3, I, I + 1] : List Nat) := fun {z} hz hm => by
    simp only [List.mem_cons, List.not_mem_nil, or_false] at hm
    lia
  refine items_rest (ws := [(I + 4, "zip"), (I + 2, "tuple"), (I + 3, "tuple"), (I, "list_iterator"), (I + 1, "list_iterator")]) (items := zipItems vs vs') (bnd := fun k σ => match xs[k]?, ys[k]? with | some a, some b => (σ.set x a).set y b | _, _ => σ) (rst := fun H => (H.setL l xs).setL l' ys) (keep := [(l, W.listOf vs.toArray n), (l', W.listOf vs'.toArray n')]) Inv st₂.gg st₂.gens st₂.os ?_ (fun p hp => hin (hfar p hp)) ?_ ?_ ?_ ?_ _ 0 _ _ _ _ _ rfl (by simp) lm M' (fun p hp => hin (hI p hp)) (fun w hw => ?_) h0
  · show ([I + 4, I + 2, I + 3, I, I + 1] : List Nat).Nodup
    simp
  · intro k a v s' σ H its ha st' hv
    have hlt : k < vs.length := by
      rcases Nat.lt_or_ge k vs.length with q | q
      · exact q
      · rw [List.getElem?_eq_none (by rw [hil]; exact q)] at ha; cases ha
    have hlt' : k < vs'.length := by lia
    have hg' := zipItems_get vs vs' k (x := vs[k]) (y := vs'[k]) (List.getElem?_eq_getElem hlt) (List.getElem?_eq_getElem hlt')
    rw [ha] at hg'
    cases hg'
    obtain ⟨w, hw, hsim⟩ := hs.get (List.getElem?_eq_getElem (show k < xs.length by lia))
    rw [List.getElem?_eq_getElem hlt] at hw
    cases hw
    obtain ⟨w', hw', hsim'⟩ := hs'.get (List.getElem?_eq_getElem (show k < ys.length by lia))
    rw [List.getElem?_eq_getElem hlt'] at hw'
    cases hw'
    obtain ⟨T', t, rfl, ht⟩ := hv
    refine T_pair (a := xs[k]) (b := ys[k]) o hlx hly hsim hsim' st' ht ⟨?_, rfl⟩
    rw [List.getElem?_eq_getElem (show k < xs.length by lia), List.getElem?_eq_getElem (show k < ys.length by lia)]
  · intro k a σ H ha hI'
    have hlt : k < xs.length := by
      rcases Nat.lt_or_ge k vs.length with q | q
      · lia
      · rw [List.getElem?_eq_none (by rw [hil]; exact q)] at ha; cases ha
    have hlt' : k < ys.length := by lia
    have := step k xs[k] ys[k] σ H (List.getElem?_eq_getElem hlt) (List.getElem?_eq_getElem hlt') hI'
    rw [List.getElem?_eq_getElem hlt, List.getElem?_eq_getElem hlt']
    exact this
  · intro news' H' δ' M''
    exact Match.unlockL (Match.unlockL (Xl := (l', W.listOf vs'.toArray n') :: Xl) M'' hs hb hXl) hs' hb' hXl'
  · intro σ' H' hI'
    exact done σ' H' (by rw [hil, hlen] at hI'; exact hI')
  · have : ∀ z : Nat, I ≤ z → Off ((H₂.dropL l').dropL l) δ z := fun z hz => Off.of_fresh N M' (fresh_of_lt fun p hp => Nat.lt_of_lt_of_le (hI p hp) hz)
    simp only [List.mem_cons, List.not_mem_nil, or_false] at hw
    rcases hw with rfl | rfl | rfl | rfl | rfl
    · exact this (I + 4) (Nat.le_add_right _ _)
    · exact this (I + 2) (Nat.le_add_right _ _)
    · exact this (I + 3) (Nat.le_add_right _ _)
    · exact this I (Nat.le_refl _)
    · exact this (I + 1) (Nat.le_add_right _ _)
end
section
variable {cx : Cx} {fr : Frm} {XX : XP} {σ : Loc} {H : AH} {h : Nat}
theorem try_sub : isSubtype (.type "ValueError") (.type "BaseException") = pure true := by rw [isSubtype_type]; kernel_rfl
theorem try_nt : isSubtype (.type ((Manifest.find? "ValueError").elim "type" fun y => y.metatype)) (.type "tuple") = pure false := by rw [isSubtype_type]; kernel_rfl
theorem try_self : isSubtype (.type "ValueError") (.type "ValueError") = pure true := by rw [isSubtype_type]; kernel_rfl
theorem T_tryV {e : Expr} {ep np tp hp rp pos : Pos} {kk : Nat} {R : Flow → Loc → AH → Prop} (T : Tabs cx) (o : fr.Ok h) (hg : fr.scope.names.lookup (Str.ofString "ValueError") = some .globalImplicit) (hcomp : notComp e = true)
    (hc : SemT cx fr false ⟨fun c σ' H' => σ' = σ ∧ c = .type "ValueError" ∧ R (.ret (.bool true)) σ H', fun _ _ _ => False⟩ (eval e fr.env) σ H (VR σ fun _ H₁ => R .next σ H₁)) :
    SemT cx fr true XX (exec (.Try [.Expr e ep] [.ExceptHandler (some (.Name (Str.ofString "ValueError") np)) none [.Return (some (.Constant (.bool true) kk tp)) rp] hp] [] [] pos) fr.env) σ H R := fun g Xl s st => by
  refine wpAny_mono (E := fun _ _ => False) (wpAny_Try_except ?_) (fun _ _ q => q) fun _ _ e => e.elim
  refine wpAny_execs_cons (wpAny_Expr_any (wpAny_mono (hc g Xl s st) (fun v s₁ p1_ => ?_) fun ev s₁ er => ?_) (inter_no o.kind) (swaps_no hcomp))
  · obtain ⟨g₁, σ₁, H₁, tr, st₁, e1, av, hv, r⟩ := p1_
    subst e1
    exact wpAny_execs_nil (wpAny_execs_nil ⟨g₁, σ₁, H₁, ⟨(fun q => by cases q), tr.2⟩, st₁, r⟩)
  · obtain ⟨g₁, ea, cls, σ₁, H₁, δ, tr, rfl, hgens, hos, _, gg, er⟩ := er
    obtain rfl : g₁ = g := tr.1 rfl
    rcases er with ⟨hf, _⟩ | ⟨⟨e1, rfl, hR⟩, G, t, vs, m, news, R, F, U, lm, M⟩
    · exact hf.elim
    subst e1
    refine caught_S0 R F gg.bel U T.ok.kin T.ok.top gg.dicts .refl (T.fresh "ValueError" (by decide)) (T' := "ValueError") (by decide +kernel) (by decide) try_sub try_nt try_self (fun h' g' news₂ k1 k2 k3 k4 k5 k6 k7 k8 k9 => ?_) o.kind hg (by decide) (by passes_own)
    exact wpAny_execs_cons (wpAny_Return_some (Constant_bool ⟨g', σ₁, H₁, ⟨(fun q => by cases q), k1⟩, ⟨⟨k6, k7, k8, k9⟩, ⟨m, news, δ, k2, k5, lm, M⟩, hgens, hos⟩, hR⟩))
theorem T_tryI {x : String} {e : Expr} {ep np tp hp ap xp pos : Pos} {kk : Nat} {R : Flow → Loc → AH → Prop} (T : Tabs cx) (o : fr.Ok h) (hg : fr.scope.names.lookup (Str.ofString "Immutable") = some .globalImplicit) (hl : fr.scope.names.lookup (Str.ofString x) = some .local) (hcomp : notComp e = true)
    (hc : SemT cx fr false ⟨fun c σ' H' => σ' = σ ∧ c = .ref 340 ∧ R .next (σ.set x (.bool true)) H', fun _ _ _ => False⟩ (eval e fr.env) σ H (VR σ fun _ H₁ => R .next σ H₁)) :
    SemT cx fr true XX (exec (.Try [.Expr e ep] [.ExceptHandler (some (.Name (Str.ofString "Immutable") np)) none [.Assign [.Name (Str.ofString x) xp] (.Constant (.bool true) kk tp) ap] hp] [] [] pos) fr.env) σ H R := fun g Xl s st => by
  refine wpAny_mono (E := fun _ _ => False) (wpAny_Try_except ?_) (fun _ _ q => q) fun _ _ e => e.elim
  refine wpAny_execs_cons (wpAny_Expr_any (wpAny_mono (hc g Xl s st) (fun v s₁ p1_ => ?_) fun ev s₁ er => ?_) (inter_no o.kind) (swaps_no hcomp))
  · obtain ⟨g₁, σ₁, H₁, tr, st₁, e1, av, hv, r⟩ := p1_
    subst e1
    exact wpAny_execs_nil (wpAny_execs_nil ⟨g₁, σ₁, H₁, ⟨(fun q => by cases q), tr.2⟩, st₁, r⟩)
  · obtain ⟨g₁, ea, cls, σ₁, H₁, δ, tr, rfl, hgens, hos, _, gg, er⟩ := er
    obtain rfl : g₁ = g := tr.1 rfl
    rcases er with ⟨hf, _⟩ | ⟨⟨e1, rfl, hR⟩, G, t, vs, m, news, R, F, U, lm, M⟩
    · exact hf.elim
    subst e1
    refine caught_SO0 R F gg.bel U T.ok.kin T.ok.top gg.dicts .refl (T.gt "Immutable" 340 rfl) T.imm (fun h' g' news₂ k1 k2 k3 k4 k5 k6 k7 k8 k9 => ?_) o.kind hg (by decide) (by passes_own)
    refine wpAny_execs_cons (wpAny_Assign_Name (Constant_bool ?_) (swaps_no rfl))
    refine stN k2 k5 (fun h'' F' N' => wpAny_execs_nil ?_) o.kind hl
    exact ⟨g', _, H₁, ⟨(fun q => by cases q), k1⟩, ⟨⟨k6, k7, k8, k9⟩, ⟨_, news, δ, F', N', lm.set (.bool true), M⟩, hgens, hos⟩, hR⟩
end
inductive PS where
  | nil | cons (s b : PS)
  | expr (p : PE) | assign (x : String) (p : PE) | setAttr (p : PE) (x : String) (q : PE) | setItem (p i q : PE) | assignT (x y : String) (p : PE)
  | augAttr (p : PE) (x : String) (op : BOp) (q : PE) | augName (x : String) (op : BOp) (q : PE)
  | ret (p : PE) | retN | ite (c : PE) (a b : PS) | whil (c : PE) (b : PS)
  | forL (x : String) (p : PE) (b : PS) | forE (x y : String) (p : PE) (b : PS) | forZ (x y : String) (p q : PE) (b : PS) | forR (x : String) (ps : PEs) (b : PS)
  | raiseV | raiseC | assert (p : PE) | tryV (p : PE) | tryI (x : String) (p : PE) | pass | brk | cont
noncomputable def isLocal (sc : Scope) (id : Str) : Bool := sc.names.lookup id == some .local
noncomputable def isGl (sc : Scope) (id : Str) : Bool := sc.names.lookup id == some .globalImplicit
noncomputable def sEx (s : Stmt) : List Expr := by
  cases s with
  | Expr v _ => exact [v]
  | Assign ts v _ => exact v :: ts
  | AugAssign t _ v _ => exact [v, t]
  | Return v _ => exact v.toList
  | If t _ _ _ => exact [t]
  | While t _ _ _ => exact [t]
  | For t i _ _ _ => exact [i, t]
  | Assert t m _ => exact t :: m.toList
  | Raise e _ _ => exact e.toList
  | Try _ hs _ _ _ => exact hs.flatMap fun h => match h with | .ExceptHandler t _ _ _ => t.toList
  | _ => exact []
noncomputable def sBs (s : Stmt) : List (List Stmt) := by
  cases s with
  | If _ a b _ => exact [a, b]
  | While _ b _ _ => exact [b]
  | For _ _ b _ _ => exact [b]
  | Try b hs _ _ _ => exact b :: hs.map fun h => match h with | .ExceptHandler _ _ b _ => b
  | _ => exact []
noncomputable def sHp (s : Stmt) : Pos := by
  cases s with
  | Try _ hs _ _ _ => exact (hs.map fun h => match h with | .ExceptHandler _ _ _ p => p).headD default
  | _ => exact default
noncomputable def strOf (e : Expr) : Str := by
  cases e with
  | Constant c _ _ =>
    cases c with
    | str s => exact s
    | _ => exact default
  | _ => exact default
noncomputable def sx (st : Stmt) (i : Nat) : Expr := (sEx st).getD i zE
noncomputable def sb (st : Stmt) (i : Nat) : List Stmt := (sBs st).getD i []
noncomputable def sb1 (st : Stmt) (i : Nat) : Stmt := (sb st i).headD (.Pass default)
noncomputable def nm (x : String) (e : Expr) : Expr := .Name (Str.ofString x) e.pos
noncomputable def nm2 (x y : String) (e : Expr) : Expr := .Tuple [nm x (kid e 0), nm y (kid e 1)] (kOf e) e.pos
noncomputable def tru1 (e : Expr) : Expr := .Constant (.bool true) (kOf e) e.pos
mutual
noncomputable def toS : PS → Stmt → Stmt
  | .nil, st => .Pass st.pos
  | .cons _ _, st => .Pass st.pos
  | .expr p, st => .Expr (toE p (sx st 0)) st.pos
  | .assign x p, st => .Assign [nm x (sx st 1)] (toE p (sx st 0)) st.pos
  | .setAttr p x q, st => .Assign [.Attribute (toE p (kid (sx st 1) 0)) (Str.ofString x) (sx st 1).pos] (toE q (sx st 0)) st.pos
  | .setItem p i q, st => .Assign [.Subscript (toE p (kid (sx st 1) 0)) (toE i (kid (sx st 1) 1)) (sx st 1).pos] (toE q (sx st 0)) st.pos
  | .assignT x y p, st => .Assign [nm2 x y (sx st 1)] (toE p (sx st 0)) st.pos
  | .augAttr p x op q, st => .AugAssign (.Attribute (toE p (kid (sx st 1) 0)) (Str.ofString x) (sx st 1).pos) op.op (toE q (sx st 0)) st.pos
  | .augName x op q, st => .AugAssign (nm x (sx st 1)) op.op (toE q (sx st 0)) st.pos
  | .ret p, st => .Return (some (toE p (sx st 0))) st.pos
  | .retN, st => .Return .none st.pos
  | .ite c a b, st => .If (toE c (sx st 0)) (toB a (sb st 0)) (toB b (sb st 1)) st.pos
  | .whil c b, st => .While (toE c (sx st 0)) (toB b (sb st 0)) [] st.pos
  | .forL x p b, st => .For (nm x (sx st 1)) (toE p (sx st 0)) (toB b (sb st 0)) [] st.pos
  | .forE x y p b, st => .For (nm2 x y (sx st 1)) (.Call (nm "enumerate" (kid (sx st 0) 0)) [toE p (kid (sx st 0) 1)] [] (sx st 0).pos) (toB b (sb st 0)) [] st.pos
  | .forZ x y p q b, st => .For (nm2 x y (sx st 1)) (.Call (nm "zip" (kid (sx st 0) 0)) [toE p (kid (sx st 0) 1), toE q (kid (sx st 0) 2)] [] (sx st 0).pos) (toB b (sb st 0)) [] st.pos
  | .forR x ps b, st => .For (nm x (sx st 1)) (.Call (nm "range" (kid (sx st 0) 0)) (toEs ps (kids (sx st 0)).tail) [] (sx st 0).pos) (toB b (sb st 0)) [] st.pos
  | .raiseV, st => .Raise (some (.Call (nm "ValueError" (kid (sx st 0) 0)) [.Constant (.str (strOf (kid (sx st 0) 1))) (kOf (kid (sx st 0) 1)) (kid (sx st 0) 1).pos] [] (sx st 0).pos)) .none st.pos
  | .raiseC, st => .Raise (some (nm "Immutable" (sx st 0))) .none st.pos
  | .assert p, st => .Assert (toE p (sx st 0)) (sEx st).tail.head? st.pos
  | .tryV p, st => .Try [.Expr (toE p (sx (sb1 st 0) 0)) (sb1 st 0).pos] [.ExceptHandler (some (nm "ValueError" (sx st 0))) .none [.Return (some (tru1 (sx (sb1 st 1) 0))) (sb1 st 1).pos] (sHp st)] [] [] st.pos
  | .tryI x p, st => .Try [.Expr (toE p (sx (sb1 st 0) 0)) (sb1 st 0).pos] [.ExceptHandler (some (nm "Immutable" (sx st 0))) .none [.Assign [nm x (sx (sb1 st 1) 1)] (tru1 (sx (sb1 st 1) 0)) (sb1 st 1).pos] (sHp st)] [] [] st.pos
  | .pass, st => .Pass st.pos
  | .brk, st => .Break st.pos
  | .cont, st => .Continue st.pos
noncomputable def toB : PS → List Stmt → List Stmt
  | .cons s b, l => toS s (l.headD (.Pass default)) :: toB b l.tail
  | _, _ => []
end
mutual
noncomputable def okS (sc : Scope) : PS → Stmt → Bool
  | .nil, _ => false
  | .cons _ _, _ => false
  | .expr p, st => notComp (toE p (sx st 0)) && okE sc p (sx st 0)
  | .assign x p, st => (isLocal sc (Str.ofString x) && notComp (toE p (sx st 0))) && okE sc p (sx st 0)
  | .setAttr p _ q, st => notComp (toE q (sx st 0)) && (okE sc p (kid (sx st 1) 0) && okE sc q (sx st 0))
  | .setItem p i q, st => (notComp (toE q (sx st 0)) && okE sc i (kid (sx st 1) 1)) && (okE sc p (kid (sx st 1) 0) && okE sc q (sx st 0))
  | .assignT x y p, st => (isLocal sc (Str.ofString x) && isLocal sc (Str.ofString y)) && ((notComp (toE p (sx st 0)) && notTup (toE p (sx st 0))) && okE sc p (sx st 0))
  | .augAttr p _ op q, st => (op == .add || op == .sub) && (okE sc p (kid (sx st 1) 0) && okE sc q (sx st 0))
  | .augName x op q, st => (op == .add || op == .sub) && (isLocal sc (Str.ofString x) && okE sc q (sx st 0))
  | .ret p, st => okE sc p (sx st 0)
  | .retN, _ => true
  | .ite c a b, st => okE sc c (sx st 0) && (okB sc a (sb st 0) && okB sc b (sb st 1))
  | .whil c b, st => okE sc c (sx st 0) && okB sc b (sb st 0)
  | .forL x p b, st => (isLocal sc (Str.ofString x) && notSet (toE p (sx st 0))) && (okE sc p (sx st 0) && okB sc b (sb st 0))
  | .forE x y p b, st => ((isLocal sc (Str.ofString x) && isLocal sc (Str.ofString y)) && isGl sc (Str.ofString "enumerate")) && (okE sc p (kid (sx st 0) 1) && okB sc b (sb st 0))
  | .forZ x y p q b, st => ((isLocal sc (Str.ofString x) && isLocal sc (Str.ofString y)) && isGl sc (Str.ofString "zip")) && (okE sc p (kid (sx st 0) 1) && (okE sc q (kid (sx st 0) 2) && okB sc b (sb st 0)))
  | .forR x ps b, st => ((isLocal sc (Str.ofString x) && isGl sc (Str.ofString "range")) && !(eqN ps.len 0)) && (okEs sc ps (kids (sx st 0)).tail && okB sc b (sb st 0))
  | .raiseV, _ => isGl sc (Str.ofString "ValueError")
  | .raiseC, _ => isGl sc (Str.ofString "Immutable")
  | .assert p, st => okE sc p (sx st 0)
  | .tryV p, st => (isGl sc (Str.ofString "ValueError") && notComp (toE p (sx (sb1 st 0) 0))) && okE sc p (sx (sb1 st 0) 0)
  | .tryI x p, st => ((isGl sc (Str.ofString "Immutable") && isLocal sc (Str.ofString x)) && notComp (toE p (sx (sb1 st 0) 0))) && okE sc p (sx (sb1 st 0) 0)
  | .pass, _ => true
  | .brk, _ => true
  | .cont, _ => true
noncomputable def okB (sc : Scope) : PS → List Stmt → Bool
  | .nil, _ => true
  | .cons s b, l => okS sc s (l.headD (.Pass default)) && okB sc b l.tail
  | _, _ => false
end
noncomputable def augv (o : BOp) (a b : Int) : Int := by
  cases o with
  | sub => exact a - b
  | _ => exact a + b
section
variable (cx : Cx) (h : Nat) (tn : Bool)
inductive setItemP (a i v : AV) (H : AH) (Q : AH → Prop) : Prop
  | l (l : Addr) (xs : List AV) (k : Int) (ha : a = .ref l) (hi : i = .int k) (h1 : H.L l = some xs) (h2 : 0 ≤ k) (h3 : k < xs.length) (hQ : Q (H.setL l (xs.set k.toNat v)))
  | d (d : Addr) (es : List (Int × AV)) (k : Int) (ha : a = .ref d) (hi : i = .int k) (h1 : H.D d = some es) (h2 : es.length < 1000) (hQ : Q (H.setD d (putK es k v)))
abbrev FX := Value → AH → Prop
noncomputable def noX : FX := fun _ _ => False
noncomputable def turnP (Q : AF → Loc → AH → Prop) (rst : AH → AH) (nxt : Loc → AH → Prop) : AF → Loc → AH → Prop
  | .next, σ, H => nxt σ H
  | .cont, σ, H => nxt σ H
  | .brk, σ, H => Q .next σ (rst H)
  | .ret v, σ, H => Q (.ret v) σ (rst H)
noncomputable def thenP (Q : AF → Loc → AH → Prop) (k : Loc → AH → Prop) : AF → Loc → AH → Prop
  | .next, σ, H => k σ H
  | .brk, σ, H => Q .brk σ H
  | .cont, σ, H => Q .cont σ H
  | .ret v, σ, H => Q (.ret v) σ H
noncomputable def wpS : PS → FX → Loc → AH → (AF → Loc → AH → Prop) → Prop
  | .nil, _, σ, H, Q => Q .next σ H
  | .cons s b, X, σ, H, Q => wpS s X σ H (thenP Q fun σ' H' => wpS b X σ' H' Q)
  | .expr p, X, σ, H, Q => wpE cx h tn X p σ H fun _ H' => Q .next σ H'
  | .assign x p, X, σ, H, Q => wpE cx h tn X p σ H fun a H' => Q .next (σ.set x a) H'
  | .setAttr p x q, X, σ, H, Q => wpE cx h tn X q σ H fun v H₁ => wpE cx h tn X p σ H₁ fun a H₂ => ∃ i C fs, a = .ref i ∧ H₂.I i = some (C, fs) ∧ fs.length < 100 ∧ x ∈ fields C ∧ Q .next σ (H₂.setI i C (putF x v fs))
  | .setItem p i q, X, σ, H, Q => wpE cx h tn X q σ H fun v H₁ => wpE cx h tn X p σ H₁ fun a H₂ => wpE cx h tn X i σ H₂ fun j H₃ => setItemP a j v H₃ fun H' => Q .next σ H'
  | .assignT x y p, X, σ, H, Q => wpE cx h tn X p σ H fun a H₁ => ∃ t v w, a = .ref t ∧ H₁.T t = some [v, w] ∧ Q .next ((σ.set x v).set y w) H₁
  | .augAttr p x op q, X, σ, H, Q => wpE cx h tn X p σ H fun a H₁ => ∃ i C fs old, a = .ref i ∧ H₁.I i = some (C, fs) ∧ fs.lookup x = some (.int old) ∧ wpE cx h tn X q σ H₁ fun b H₂ => ∃ d fs', b = .int d ∧ H₂.I i = some (C, fs') ∧ fs'.length < 100 ∧ x ∈ fields C ∧ Q .next σ (H₂.setI i C (putF x (.int (augv op old d)) fs'))
  | .augName x op q, X, σ, H, Q => ∃ old, σ x = some (.int old) ∧ wpE cx h tn X q σ H fun b H₂ => ∃ d, b = .int d ∧ Q .next (σ.set x (.int (augv op old d))) H₂
  | .ret p, X, σ, H, Q => wpE cx h tn X p σ H fun a H' => Q (.ret a) σ H'
  | .retN, _, σ, H, Q => Q (.ret .none) σ H
  | .ite c a b, X, σ, H, Q => wpC cx h tn X c σ H fun v H' => if v then wpS a X σ H' Q else wpS b X σ H' Q
  | .whil c b, _, σ, H, Q => ∃ (Inv : Nat → Loc → AH → Prop) (n : Nat), Inv n σ H ∧ ∀ n σ H, Inv n σ H → wpC cx h tn noX c σ H fun v H' => if v then wpS b noX σ H' (turnP Q id fun σ' H'' => ∃ m, m < n ∧ Inv m σ' H'') else Q .next σ H'
  | .forL x p b, _, σ, H, Q => tn = false ∧ wpE cx h tn noX p σ H (ForLP (fun rst nxt σ H => wpS b noX σ H (turnP Q rst nxt)) (Q .next) x σ)
  | .forE x y p b, _, σ, H, Q => tn = false ∧ wpE cx h tn noX p σ H (ForEP (fun rst nxt σ H => wpS b noX σ H (turnP Q rst nxt)) (Q .next) x y σ)
  | .forZ x y p q b, _, σ, H, Q => tn = false ∧ wpE cx h tn noX p σ H fun a H₁ => wpE cx h tn noX q σ H₁ fun c H₂ => ForZP (fun rst nxt σ H => wpS b noX σ H (turnP Q rst nxt)) (Q .next) x y σ a c H₂
  | .forR x ps b, _, σ, H, Q => wpEs cx h tn noX ps σ H (ForRP (fun nxt σ H => wpS b noX σ H (turnP Q id nxt)) (Q .next) x σ)
  | .raiseV, X, σ, H, _ => X (.type "ValueError") H
  | .raiseC, X, σ, H, _ => X (.ref 340) H
  | .assert p, X, σ, H, Q => wpC cx h tn X p σ H fun b H' => b = true ∧ Q .next σ H'
  | .tryV p, _, σ, H, Q => tn = true ∧ wpE cx h false (fun c H' => c = .type "ValueError" ∧ Q (.ret (.bool true)) σ H') p σ H fun _ H' => Q .next σ H'
  | .tryI x p, _, σ, H, Q => tn = true ∧ wpE cx h false (fun c H' => c = .ref 340 ∧ Q .next (σ.set x (.bool true)) H') p σ H fun _ H' => Q .next σ H'
  | .pass, _, σ, H, Q => Q .next σ H
  | .brk, _, σ, H, Q => Q .brk σ H
  | .cont, _, σ, H, Q => Q .cont σ H
end
section
variable {cx : Cx} {fr : Frm} {tn : Bool} {h : Nat}
theorem FR.next {Q : AF → Loc → AH → Prop} {σ : Loc} {H : AH} (h : Q .next σ H) : FR Q .next σ H := ⟨.next, trivial, h⟩
theorem FR.ret {Q : AF → Loc → AH → Prop} {σ : Loc} {H : AH} {v : Value} {a : AV} (hv : Sim v a) (h : Q (.ret a) σ H) : FR Q (.ret v) σ H := ⟨.ret a, hv, h⟩
theorem FR.turn {Q : AF → Loc → AH → Prop} {rst : AH → AH} {nxt : Loc → AH → Prop} {f : Flow} {σ : Loc} {H : AH} (h : FR (turnP Q rst nxt) f σ H) :
    TurnR (FR Q) rst nxt f σ H := by
  obtain ⟨af, hf, q⟩ := h
  cases f <;> cases af <;> first | exact hf.elim | skip
  · exact q
  · exact ⟨.next, trivial, q⟩
  · exact q
  · exact ⟨.ret _, hf, q⟩
theorem isLocal_eq {sc : Scope} {id : Str} (e : isLocal sc id = true) : sc.names.lookup id = some .local := by simpa [isLocal] using e
theorem isGl_eq {sc : Scope} {id : Str} (e : isGl sc id = true) : sc.names.lookup id = some .globalImplicit := by simpa [isGl] using e
theorem T_aug {op : BOp} {va vb : Value} {a b : Int} {XX : XP} {σ : Loc} {H : AH} {R : Value → Loc → AH → Prop} (ho : (op == .add || op == .sub) = true) (ha : Sim va (.int a)) (hb : Sim vb (.int b)) (hR : ∀ v, Sim v (.int (augv op a b)) → R v σ H) :
    SemT cx fr tn XX (inplaceOp op.op va vb) σ H R := .leaf fun g Xl s Q' E st k => by
  cases ha; cases hb
  cases op <;> first | cases ho | skip
  · exact iadd_int (k _ _ (hR _ (.int _ _)))
  · exact isub_int (k _ _ (hR _ (.int _ _)))
theorem SemT.last {α β : Type} {t : Sem α} {t1 : Sem β} (f : β → α) {XX : XP} {σ : Loc} {H : AH} {R : α → Loc → AH → Prop}
    (rule : ∀ (Q : α → Shared → Prop) (E : Value → Shared → Prop) (s : Shared), wpAny (model cx.prog cx.w) fr.A t1 (fun b => Q (f b)) E s → wpAny (model cx.prog cx.w) fr.A t Q E s)
    (k : SemT cx fr tn XX t1 σ H (fun b σ' H' => R (f b) σ' H')) : SemT cx fr tn XX t σ H R := fun g Xl s st => rule _ _ _ (wpAny_mono (k g Xl s st) (fun _ _ ⟨g₁, σ₁, H₁, tr, st₁, r⟩ => ⟨g₁, σ₁, H₁, tr, st₁, r⟩) fun _ _ e => e)
theorem SemT.seqL {α β γ : Type} {t : Sem γ} {t1 : Sem α} {t2 : α → Sem β} (f : β → γ) {XX : XP} {σ : Loc} {H : AH} {R : γ → Loc → AH → Prop}
    (rule : ∀ (Q : γ → Shared → Prop) (E : Value → Shared → Prop) (s : Shared), wpAny (model cx.prog cx.w) fr.A t1 (fun a s₁ => wpAny (model cx.prog cx.w) fr.A (t2 a) (fun b => Q (f b)) E s₁) E s → wpAny (model cx.prog cx.w) fr.A t Q E s)
    (k : SemT cx fr tn XX t1 σ H (fun a σ' H' => SemT cx fr tn XX (t2 a) σ' H' (fun b σ'' H'' => R (f b) σ'' H''))) : SemT cx fr tn XX t σ H R := fun g Xl s hs => by
  refine rule _ _ s (wpAny_mono (k g Xl s hs) (fun a s₁ p1_ => ?_) fun _ _ e => e)
  obtain ⟨g₁, σ₁, H₁, tr, st, r⟩ := p1_
  exact wpAny_mono (r g₁ Xl s₁ st) (fun _ _ ⟨g₂, σ₂, H₂, tr₂, st₂, r₂⟩ => ⟨g₂, σ₂, H₂, tr.trans tr₂, st₂, r₂⟩) fun _ _ e => e.trans tr
theorem SemT.seqL3 {α β γ ζ : Type} {t : Sem ζ} {t1 : Sem α} {t2 : α → Sem β} {t3 : α → β → Sem γ} (f : γ → ζ) {XX : XP} {σ : Loc} {H : AH} {R : ζ → Loc → AH → Prop}
    (rule : ∀ (Q : ζ → Shared → Prop) (E : Value → Shared → Prop) (s : Shared), wpAny (model cx.prog cx.w) fr.A t1 (fun a s₁ => wpAny (model cx.prog cx.w) fr.A (t2 a) (fun b s₂ => wpAny (model cx.prog cx.w) fr.A (t3 a b) (fun c => Q (f c)) E s₂) E s₁) E s → wpAny (model cx.prog cx.w) fr.A t Q E s)
    (k : SemT cx fr tn XX t1 σ H (fun a σ' H' => SemT cx fr tn XX (t2 a) σ' H' (fun b σ'' H'' => SemT cx fr tn XX (t3 a b) σ'' H'' (fun c σ₃ H₃ => R (f c) σ₃ H₃)))) : SemT cx fr tn XX t σ H R := fun g Xl s hs => by
  refine rule _ _ s (wpAny_mono (k g Xl s hs) (fun a s₁ p1_ => ?_) fun _ _ e => e)
  obtain ⟨g₁, σ₁, H₁, tr, st, r⟩ := p1_
  refine wpAny_mono (r g₁ Xl s₁ st) (fun b s₂ p1_ => ?_) fun _ _ e => e.trans tr
  obtain ⟨g₂, σ₂, H₂, tr₂, st₂, r₂⟩ := p1_
  exact wpAny_mono (r₂ g₂ Xl s₂ st₂) (fun _ _ ⟨g₃, σ₃, H₃, tr₃, st₃, r₃⟩ => ⟨g₃, σ₃, H₃, (tr.trans tr₂).trans tr₃, st₃, r₃⟩) fun _ _ e => e.trans (tr.trans tr₂)
theorem SemT.seqL4 {α β γ ζ η : Type} {t : Sem η} {t1 : Sem α} {t2 : α → Sem β} {t3 : α → β → Sem γ} {t4 : α → β → γ → Sem ζ} (f : ζ → η) {XX : XP} {σ : Loc} {H : AH} {R : η → Loc → AH → Prop}
    (rule : ∀ (Q : η → Shared → Prop) (E : Value → Shared → Prop) (s : Shared), wpAny (model cx.prog cx.w) fr.A t1 (fun a s₁ => wpAny (model cx.prog cx.w) fr.A (t2 a) (fun b s₂ => wpAny (model cx.prog cx.w) fr.A (t3 a b) (fun c s₃ => wpAny (model cx.prog cx.w) fr.A (t4 a b c) (fun d => Q (f d)) E s₃) E s₂) E s₁) E s → wpAny (model cx.prog cx.w) fr.A t Q E s)
    (k : SemT cx fr tn XX t1 σ H (fun a σ' H' => SemT cx fr tn XX (t2 a) σ' H' (fun b σ'' H'' => SemT cx fr tn XX (t3 a b) σ'' H'' (fun c σ₃ H₃ => SemT cx fr tn XX (t4 a b c) σ₃ H₃ (fun d σ₄ H₄ => R (f d) σ₄ H₄))))) : SemT cx fr tn XX t σ H R := fun g Xl s hs => by
  refine rule _ _ s (wpAny_mono (k g Xl s hs) (fun a s₁ p1_ => ?_) fun _ _ e => e)
  obtain ⟨g₁, σ₁, H₁, tr, st, r⟩ := p1_
  refine wpAny_mono (r g₁ Xl s₁ st) (fun b s₂ p1_ => ?_) fun _ _ e => e.trans tr
  obtain ⟨g₂, σ₂, H₂, tr₂, st₂, r₂⟩ := p1_
  refine wpAny_mono (r₂ g₂ Xl s₂ st₂) (fun c s₃ p1_ => ?_) fun _ _ e => e.trans (tr.trans tr₂)
  obtain ⟨g₃, σ₃, H₃, tr₃, st₃, r₃⟩ := p1_
  exact wpAny_mono (r₃ g₃ Xl s₃ st₃) (fun _ _ ⟨g₄, σ₄, H₄, tr₄, st₄, r₄⟩ => ⟨g₄, σ₄, H₄, ((tr.trans tr₂).trans tr₃).trans tr₄, st₄, r₄⟩) fun _ _ e => e.trans ((tr.trans tr₂).trans tr₃)
inductive SP (cx : Cx) (fr : Frm) (h : Nat) (p : PS) : Prop
  | mk (s : ∀ (st : Stmt) (tn : Bool) (X : FX) (σ : Loc) (H : AH) (Q : AF → Loc → AH → Prop), okS fr.scope p st = true → wpS cx h tn p X σ H Q → SemT cx fr tn (XL X) (exec (toS p st) fr.env) σ H (FR Q))
    (b : ∀ (l : List Stmt) (tn : Bool) (X : FX) (σ : Loc) (H : AH) (Q : AF → Loc → AH → Prop), okB fr.scope p l = true → wpS cx h tn p X σ H Q → SemT cx fr tn (XL X) (execs (toB p l) fr.env) σ H (FR Q))
theorem hx {X : FX} {σ : Loc} : ∀ c H, X c H → (XL X).fly c σ H := fun _ _ z => z
section
variable (T : Tabs cx) (o : fr.Ok h)
include T o
theorem p_expr {p : PE} : SP cx fr h (.expr p) := .mk (fun st tn X σ H Q hs hw => by
    have hw : wpE cx h tn X p σ H fun _ H' => Q .next σ H' := hw
    have hs := and_ hs
    exact .last (fun _ => .next) (fun Q E s q => wpAny_Expr_any q (inter_no o.kind) (swaps_no hs.1)) ((sE T o p _ σ H _ hx hs.2 hw).evalV fun v av H' hv r => FR.next r)) (fun _ _ _ _ _ _ h _ => nomatch h)
theorem p_assign {x : String} {p : PE} : SP cx fr h (.assign x p) := .mk (fun st tn X σ H Q hs hw => by
    have hw : wpE cx h tn X p σ H fun a H' => Q .next (σ.set x a) H' := hw
    have hs := and_ hs
    have h1 := and_ hs.1
    exact .seqL (fun _ => .next) (fun Q E s q => wpAny_Assign_Name q (swaps_no h1.2)) ((sE T o p _ σ H _ hx hs.2 hw).evalV fun v av H' hv r => T_store hv o.kind (isLocal_eq h1.1) (FR.next r))) (fun _ _ _ _ _ _ h _ => nomatch h)
theorem p_setAttr {p : PE} {x : String} {q : PE} : SP cx fr h (.setAttr p x q) := .mk (fun st tn X σ H Q hs hw => by
    have hw : wpE cx h tn X q σ H fun v H₁ => wpE cx h tn X p σ H₁ fun a H₂ => ∃ i C fs, a = .ref i ∧ H₂.I i = some (C, fs) ∧ fs.length < 100 ∧ x ∈ fields C ∧ Q .next σ (H₂.setI i C (putF x v fs)) := hw
    have hs := and_ hs
    have h1 := and_ hs.2
    refine .seqL3 (fun _ => .next) (fun Q E s q => plainObj_wpAny_Assign_Attribute q (swaps_no hs.1)) ((sE T o q _ σ H _ hx h1.2 hw).evalV fun v av H' hv r => (sE T o p _ σ H' _ hx h1.1 r).evalV fun w aw H'' hw' r' => ?_)
    obtain ⟨i, C, fs, rfl, a1, a2, a3, a4⟩ := r'
    obtain rfl := hw'.toR
    exact T_setAttr a1 hv a2 (T.ft C x a3) (FR.next a4)) (fun _ _ _ _ _ _ h _ => nomatch h)
theorem p_setItem {p i q : PE} : SP cx fr h (.setItem p i q) := .mk (fun st tn X σ H Q hs hw => by
    have hw : wpE cx h tn X q σ H fun v H₁ => wpE cx h tn X p σ H₁ fun a H₂ => wpE cx h tn X i σ H₂ fun j H₃ => setItemP a j v H₃ fun H' => Q .next σ H' := hw
    have hs := and_ hs
    have h1 := and_ hs.1
    have h2 := and_ hs.2
    refine .seqL4 (fun _ => .next) (fun Q E s q => wpAny_Assign_Subscript q (swaps_no h1.1)) ((sE T o q _ σ H _ hx h2.2 hw).evalV fun v av H' hv r => (sE T o p _ σ H' _ hx h2.1 r).evalV fun w aw H'' hw' r' => (sE T o i _ σ H'' _ hx h1.2 r').evalV fun u au H₃ hu r₃ => ?_)
    rcases r₃ with ⟨l, xs, k, rfl, rfl, a1, a2, a3, a4⟩ | ⟨d, es, k, rfl, rfl, a1, a2, a3⟩
    · obtain rfl := hw'.toR; exact T_setItem a1 hu a2 a3 hv (FR.next a4)
    · obtain rfl := hw'.toR; exact T_setD a1 hu hv a2 (FR.next a3)) (fun _ _ _ _ _ _ h _ => nomatch h)
theorem p_assignT {x y : String} {p : PE} : SP cx fr h (.assignT x y p) := .mk (fun st tn X σ H Q hs hw => by
    have hw : wpE cx h tn X p σ H fun a H₁ => ∃ t v w, a = .ref t ∧ H₁.T t = some [v, w] ∧ Q .next ((σ.set x v).set y w) H₁ := hw
    have hs := and_ hs
    have h1 := and_ hs.1
    have h2 := and_ hs.2
    have h3 := and_ h2.1
    refine .seqL (fun _ => .next) (fun Q E s q => Assign_Tuple q (by unfold swapsWithSole; exact swaps_no h3.1) (swapped_no h3.2)) ((sE T o p _ σ H _ hx h2.2 hw).evalV fun v av H' hv r => ?_)
    obtain ⟨t, a, b, rfl, a1, a2⟩ := r
    obtain rfl := hv.toR
    refine fun g Xl s st => ?_
    obtain ⟨m, news, δ, F, N, lm, M⟩ := st.ex
    obtain ⟨vs, hm, hsim⟩ := M.T t _ a1
    obtain ⟨v, w, rfl, hv, hw'⟩ := hsim.two
    exact T_pair (tn := tn) o (isLocal_eq h1.1) (isLocal_eq h1.2) hv hw' st (N.isTup hm) (FR.next a2)) (fun _ _ _ _ _ _ h _ => nomatch h)
theorem p_augAttr {p : PE} {x : String} {op : BOp} {q : PE} : SP cx fr h (.augAttr p x op q) := .mk (fun st tn X σ H Q hs hw => by
    have hw : wpE cx h tn X p σ H fun a H₁ => ∃ i C fs old, a = .ref i ∧ H₁.I i = some (C, fs) ∧ fs.lookup x = some (.int old) ∧ wpE cx h tn X q σ H₁ fun b H₂ => ∃ d fs', b = .int d ∧ H₂.I i = some (C, fs') ∧ fs'.length < 100 ∧ x ∈ fields C ∧ Q .next σ (H₂.setI i C (putF x (.int (augv op old d)) fs')) := hw
    have hs := and_ hs
    have h1 := and_ hs.2
    refine fun g Xl s st => wpAny_AugAssign_AttributeAny ((sE T o p _ σ H _ hx h1.1 hw).useV st (fun v s₁ g₁ H₁ av tr st₁ hv p1_ => ?_) fun _ _ e => e)
    obtain ⟨i, C, fs, old, rfl, a1, a2, hw2⟩ := p1_
    obtain rfl := hv.toR
    refine (T_getAttr (tn := tn) (X := XL X) a1 a2 (Q := fun a H' => a = .int old ∧ H' = H₁) ⟨rfl, rfl⟩).useV st₁ (fun v' s₂ g₂ H₂ av' tr₂ st₂ hv' p1_ => ?_) fun _ _ e => e.trans tr
    obtain ⟨rfl, rfl⟩ := p1_
    refine (sE T o q _ _ _ _ hx h1.2 hw2).useV st₂ (fun w s₃ g₃ H₃ aw tr₃ st₃ hw' p1_ => ?_) fun _ _ e => e.trans (tr.trans tr₂)
    obtain ⟨d, fs', rfl, b1, b2, b3, b4⟩ := p1_
    refine wpAny_mono (T_aug (tn := tn) (XX := XL X) (R := fun u σ' H' => σ' = σ ∧ H' = H₃ ∧ Sim u (.int (augv op old d))) hs.1 hv' hw' (fun u hu => ⟨rfl, rfl, hu⟩) g₃ Xl s₃ st₃) (fun u s₄ p1_ => ?_) fun _ _ e => e.trans ((tr.trans tr₂).trans tr₃)
    obtain ⟨g₄, σ₄, H₄, tr₄, st₄, rfl, rfl, hu⟩ := p1_
    refine wpAny_mono (T_setAttr (tn := tn) (X := XL X) (R := fun _ σ' H' => FR Q .next σ' H') b1 hu b2 (T.ft C x b3) (FR.next b4) g₄ Xl s₄ st₄) (fun _ s₅ p1_ => ?_) fun _ _ e => e.trans (((tr.trans tr₂).trans tr₃).trans tr₄)
    obtain ⟨g₅, σ₅, H₅, tr₅, st₅, r⟩ := p1_
    exact ⟨g₅, σ₅, H₅, (((tr.trans tr₂).trans tr₃).trans tr₄).trans tr₅, st₅, r⟩) (fun _ _ _ _ _ _ h _ => nomatch h)
theorem p_augName {x : String} {op : BOp} {q : PE} : SP cx fr h (.augName x op q) := .mk (fun st tn X σ H Q hs hw => by
    have hs := and_ hs
    have h1 := and_ hs.2
    obtain ⟨old, ho, hw⟩ : ∃ old, σ x = some (.int old) ∧ wpE cx h tn X q σ H fun b H₂ => ∃ d, b = .int d ∧ Q .next (σ.set x (.int (augv op old d))) H₂ := hw
    refine .seqL4 (fun _ => .next) (fun Q E s q => wpAny_AugAssign_Name q) (T_loadName ho o.kind (isLocal_eq h1.1) fun v hv => (sE T o q _ σ H _ hx h1.2 hw).evalV fun w aw H' hw' r => ?_)
    obtain ⟨d, rfl, r⟩ := r
    exact T_aug hs.1 hv hw' fun u hu => T_store hu o.kind (isLocal_eq h1.1) (FR.next r)) (fun _ _ _ _ _ _ h _ => nomatch h)
theorem p_ret {p : PE} : SP cx fr h (.ret p) := .mk (fun st tn X σ H Q hs hw => by
    have hw : wpE cx h tn X p σ H fun a H' => Q (.ret a) σ H' := hw
    exact .last (fun v => .ret v) (fun Q E s q => wpAny_Return_some q) ((sE T o p _ σ H _ hx hs hw).evalV fun v av H' hv r => FR.ret hv r)) (fun _ _ _ _ _ _ h _ => nomatch h)
theorem p_ite {c : PE} {a b : PS} (iha : SP cx fr h a) (ihb : SP cx fr h b) : SP cx fr h (.ite c a b) := .mk (fun st tn X σ H Q hs hw => by
    obtain ⟨_, fa⟩ := iha
    obtain ⟨_, fb⟩ := ihb
    have hw : wpC cx h tn X c σ H fun v H' => if v then wpS cx h tn a X σ H' Q else wpS cx h tn b X σ H' Q := hw
    have hs := and_ hs
    have h1 := and_ hs.2
    refine fun g Xl s st => wpAny_If (wpAny_mono (sC T o c _ σ H _ hx hs.1 hw g Xl s st) (fun v s₁ p1_ => ?_) fun _ _ e => e)
    obtain ⟨g₁, σ₁, H₁, tr, st₁, rfl, r⟩ := p1_
    cases v
    · exact wpAny_mono (fb _ tn X _ H₁ Q h1.2 r g₁ Xl s₁ st₁) (fun _ _ q => q.trans tr) fun _ _ e => e.trans tr
    · exact wpAny_mono (fa _ tn X _ H₁ Q h1.1 r g₁ Xl s₁ st₁) (fun _ _ q => q.trans tr) fun _ _ e => e.trans tr) (fun _ _ _ _ _ _ h _ => nomatch h)
theorem p_whil {c : PE} {b : PS} (ih : SP cx fr h b) : SP cx fr h (.whil c b) := .mk (fun st tn X σ H Q hs hw => by
    obtain ⟨_, f⟩ := ih
    have hs := and_ hs
    obtain ⟨Inv, n, h0, step⟩ : ∃ (Inv : Nat → Loc → AH → Prop) (n : Nat), Inv n σ H ∧ ∀ n σ H, Inv n σ H → wpC cx h tn noX c σ H fun v H' => if v then wpS cx h tn b noX σ H' (turnP Q id fun σ' H'' => ∃ m, m < n ∧ Inv m σ' H'') else Q .next σ H' := hw
    refine T_while Inv h0 fun n σ H hI => ?_
    refine (sC T o c _ σ H _ hx hs.1 (step n σ H hI) : SemT cx fr tn (XL noX) _ _ _ _).mono fun v σ' H' ⟨e1, r⟩ => ?_
    subst e1
    cases v
    · exact FR.next r
    · exact (f _ tn noX σ' H' _ hs.2 r).mono fun f σ₂ H₂ q => FR.turn q) (fun _ _ _ _ _ _ h _ => nomatch h)
theorem p_forL {x : String} {p : PE} {b : PS} (ih : SP cx fr h b) : SP cx fr h (.forL x p b) := .mk (fun st tn X σ H Q hs hw => by
    obtain ⟨_, f⟩ := ih
    have hs := and_ hs
    have h1 := and_ hs.1
    have h2 := and_ hs.2
    obtain ⟨rfl, hz⟩ := hw
    exact T_forL o (isLocal_eq h1.1) h1.2 ((sE (X := noX) (XX := XL noX) T o p _ σ H _ hx h2.1 hz).mono (VR.of fun v av H' hv r => ⟨rfl, av, hv, r.mono (fun _ _ σ H q => (f _ false noX σ H _ h2.2 q).mono fun f σ₂ H₂ q => FR.turn q) fun σ H q => FR.next q⟩))) (fun _ _ _ _ _ _ h _ => nomatch h)
theorem p_forE {x y : String} {p : PE} {b : PS} (ih : SP cx fr h b) : SP cx fr h (.forE x y p b) := .mk (fun st tn X σ H Q hs hw => by
    obtain ⟨_, f⟩ := ih
    have hs := and_ hs
    have h1 := and_ hs.1
    have h2 := and_ hs.2
    have h3 := and_ h1.1
    obtain ⟨rfl, hz⟩ := hw
    exact T_forE T o (isLocal_eq h3.1) (isLocal_eq h3.2) (isGl_eq h1.2) (notStar_E _ _) ((sE (X := noX) (XX := XL noX) T o p _ σ H _ hx h2.1 hz).mono (VR.of fun v av H' hv r => ⟨rfl, av, hv, r.mono (fun _ _ σ H q => (f _ false noX σ H _ h2.2 q).mono fun f σ₂ H₂ q => FR.turn q) fun σ H q => FR.next q⟩))) (fun _ _ _ _ _ _ h _ => nomatch h)
theorem p_forZ {x y : String} {p q : PE} {b : PS} (ih : SP cx fr h b) : SP cx fr h (.forZ x y p q b) := .mk (fun st tn X σ H Q hs hw => by
    obtain ⟨_, f⟩ := ih
    have hs := and_ hs
    have h1 := and_ hs.1
    have h2 := and_ hs.2
    have h3 := and_ h1.1
    have h4 := and_ h2.2
    obtain ⟨rfl, hz⟩ := hw
    exact T_forZ T o (isLocal_eq h3.1) (isLocal_eq h3.2) (isGl_eq h1.2) (notStar_E _ _) (notStar_E _ _) ((sE (X := noX) (XX := XL noX) T o p _ σ H _ hx h2.1 hz).mono (VR.of fun v av H' hv r => ⟨rfl, av, hv, (sE (X := noX) (XX := XL noX) T o q _ σ H' _ hx h4.1 r).mono (VR.of fun v' av' H'' hv' r' => ⟨rfl, av', hv', r'.mono (fun _ _ σ H q => (f _ false noX σ H _ h4.2 q).mono fun f σ₂ H₂ q => FR.turn q) fun σ H q => FR.next q⟩)⟩))) (fun _ _ _ _ _ _ h _ => nomatch h)
theorem p_forR {x : String} {ps : PEs} {b : PS} (ih : SP cx fr h b) : SP cx fr h (.forR x ps b) := .mk (fun st tn X σ H Q hs hw => by
    obtain ⟨_, f⟩ := ih
    have hs := and_ hs
    have h1 := and_ hs.1
    have h2 := and_ hs.2
    have h3 := and_ h1.1
    exact T_forRange T o (isLocal_eq h3.1) (isGl_eq h3.2) (notStar_Es _ _) (by cases ps with | nil => cases h1.2 | cons _ _ => exact List.cons_ne_nil _ _) ((sEs (X := noX) (XX := XL noX) T o ps _ _ σ H _ hx h2.1 hw).mono (VRs.of fun v av H' hv r => ⟨rfl, av, hv, r.mono (fun _ σ H q => (f _ tn noX σ H _ h2.2 q).mono fun f σ₂ H₂ q => FR.turn q) fun σ H q => FR.next q⟩))) (fun _ _ _ _ _ _ h _ => nomatch h)
theorem p_assert {p : PE} : SP cx fr h (.assert p) := .mk (fun st tn X σ H Q hs hw => by
    have hw : wpC cx h tn X p σ H fun b H' => b = true ∧ Q .next σ H' := hw
    refine fun g Xl s st => wpAny_Assert_holds (wpAny_mono (sC T o p _ σ H _ hx hs hw g Xl s st) (fun v s₁ p1_ => ?_) fun _ _ e => e)
    obtain ⟨g₁, σ₁, H₁, tr, st₁, rfl, hb, r⟩ := p1_
    exact ⟨hb, g₁, _, H₁, tr, st₁, FR.next r⟩) (fun _ _ _ _ _ _ h _ => nomatch h)
theorem p_tryV {p : PE} : SP cx fr h (.tryV p) := .mk (fun st tn X σ H Q hs hw => by
    have hs := and_ hs
    have h1 := and_ hs.1
    obtain ⟨rfl, hz⟩ := hw
    exact T_tryV T o (isGl_eq h1.1) h1.2 ((sE (X := fun c H' => c = .type "ValueError" ∧ Q (.ret (.bool true)) σ H') (XX := ⟨fun c σ' H' => σ' = σ ∧ c = .type "ValueError" ∧ FR Q (.ret (.bool true)) σ H', fun _ _ _ => False⟩) T o p _ σ H _ (fun c H' z => ⟨rfl, z.1, FR.ret (.bool true) z.2⟩) hs.2 hz).mono (VR.of fun v av H' hv r => ⟨rfl, av, hv, FR.next r⟩))) (fun _ _ _ _ _ _ h _ => nomatch h)
theorem p_tryI {x : String} {p : PE} : SP cx fr h (.tryI x p) := .mk (fun st tn X σ H Q hs hw => by
    have hs := and_ hs
    have h1 := and_ hs.1
    have h2 := and_ h1.1
    obtain ⟨rfl, hz⟩ := hw
    exact T_tryI T o (isGl_eq h2.1) (isLocal_eq h2.2) h1.2 ((sE (X := fun c H' => c = .ref 340 ∧ Q .next (σ.set x (.bool true)) H') (XX := ⟨fun c σ' H' => σ' = σ ∧ c = .ref 340 ∧ FR Q .next (σ.set x (.bool true)) H', fun _ _ _ => False⟩) T o p _ σ H _ (fun c H' z => ⟨rfl, z.1, FR.next z.2⟩) hs.2 hz).mono (VR.of fun v av H' hv r => ⟨rfl, av, hv, FR.next r⟩))) (fun _ _ _ _ _ _ h _ => nomatch h)
theorem p_cons {p b : PS} (ih : SP cx fr h p) (ih2 : SP cx fr h b) : SP cx fr h (.cons p b) := .mk (fun _ _ _ _ _ _ h _ => nomatch h) (fun l tn X σ H Q hs hw => by
    obtain ⟨fs, _⟩ := ih
    obtain ⟨_, fb⟩ := ih2
    have hs := and_ hs
    refine fun g Xl s st => wpAny_execs_cons (wpAny_mono (fs _ tn X σ H _ hs.1 hw g Xl s st) (fun f s₁ p1_ => ?_) fun _ _ e => e)
    obtain ⟨g₁, σ₁, H₁, tr, st₁, af, hf, r⟩ := p1_
    cases f <;> cases af <;> first | exact hf.elim | skip
    · exact wpAny_mono (fb _ tn X σ₁ H₁ Q hs.2 r g₁ Xl s₁ st₁) (fun _ _ q => q.trans tr) fun _ _ e => e.trans tr
    · exact ⟨g₁, σ₁, H₁, tr, st₁, .brk, trivial, r⟩
    · exact ⟨g₁, σ₁, H₁, tr, st₁, .cont, trivial, r⟩
    · exact ⟨g₁, σ₁, H₁, tr, st₁, .ret _, hf, r⟩)
theorem sP (p : PS) : SP cx fr h p :=
  PS.rec (motive := SP cx fr h) (.mk (fun _ _ _ _ _ _ h _ => nomatch h) fun _ _ _ σ H _ _ hw g _ _ st => wpAny_execs_nil ⟨g, σ, H, .refl, st, FR.next hw⟩) (fun _ _ => p_cons T o)
    (fun _ => p_expr T o) (fun _ _ => p_assign T o) (fun _ _ _ => p_setAttr T o) (fun _ _ _ => p_setItem T o) (fun _ _ _ => p_assignT T o) (fun _ _ _ _ => p_augAttr T o) (fun _ _ _ => p_augName T o) (fun _ => p_ret T o)
    (.mk (fun _ _ _ σ H _ _ hw g _ _ st => wpAny_Return_none ⟨g, σ, H, .refl, st, FR.ret .none hw⟩) (fun _ _ _ _ _ _ h _ => nomatch h))
    (fun _ _ _ => p_ite T o) (fun _ _ => p_whil T o) (fun _ _ _ => p_forL T o) (fun _ _ _ _ => p_forE T o) (fun _ _ _ _ _ => p_forZ T o) (fun _ _ _ => p_forR T o)
    (.mk (fun _ _ _ _ _ _ hs hw => T_raiseV T o (isGl_eq hs) hw) (fun _ _ _ _ _ _ h _ => nomatch h)) (.mk (fun _ _ _ _ _ _ hs hw => T_raiseC T o (isGl_eq hs) hw) (fun _ _ _ _ _ _ h _ => nomatch h))
    (fun _ => p_assert T o) (fun _ => p_tryV T o) (fun _ _ => p_tryI T o)
    (.mk (fun _ _ _ σ H _ _ hw g _ _ st => wpAny_Pass ⟨g, σ, H, .refl, st, FR.next hw⟩) (fun _ _ _ _ _ _ h _ => nomatch h))
    (.mk (fun _ _ _ σ H _ _ hw g _ _ st => wpAny_Break ⟨g, σ, H, .refl, st, .brk, trivial, hw⟩) (fun _ _ _ _ _ _ h _ => nomatch h))
    (.mk (fun _ _ _ σ H _ _ hw g _ _ st => wpAny_Continue ⟨g, σ, H, .refl, st, .cont, trivial, hw⟩) (fun _ _ _ _ _ _ h _ => nomatch h)) p
theorem sB (p : PS) (l : List Stmt) (tn : Bool) (X : FX) (σ : Loc) (H : AH) (Q : AF → Loc → AH → Prop) (hs : okB fr.scope p l = true) (hw : wpS cx h tn p X σ H Q) : SemT cx fr tn (XL X) (execs (toB p l) fr.env) σ H (FR Q) :=
  let ⟨_, f⟩ := sP T o p
  f l tn X σ H Q hs hw
end
end
noncomputable def f__MIN : PS :=
  (.cons (.ret (.bin .sub (.loc "t") (.int 1)))
    .nil)
noncomputable def f__MAX : PS :=
  (.cons (.ret (.bin .sub (.bin .mul (.int 2) (.loc "t")) (.int 1)))
    .nil)
noncomputable def f__Node___init__ : PS :=
  (.cons (.assert (.cmp .ge (.loc "t") (.int 3)))
    (.cons (.setAttr (.loc "self") "t" (.loc "t"))
    (.cons (.setAttr (.loc "self") "creator" (.loc "creator"))
    (.cons (.setAttr (.loc "self") "is_leaf" (.loc "is_leaf"))
    (.cons (.setAttr (.loc "self") "elts" (.lst .nil))
    (.cons (.setAttr (.loc "self") "children" (.lst .nil))
    .nil))))))
noncomputable def f__Node_is_maximal : PS :=
  (.cons (.assert (.cmp .le (.bcall .len (.cons (.attr (.loc "self") "elts") .nil)) (.call "_MAX" (.cons (.attr (.loc "self") "t") .nil))))
    (.cons (.ret (.cmp .eq (.bcall .len (.cons (.attr (.loc "self") "elts") .nil)) (.call "_MAX" (.cons (.attr (.loc "self") "t") .nil))))
    .nil))
noncomputable def f__Node_is_minimal : PS :=
  (.cons (.assert (.cmp .ge (.bcall .len (.cons (.attr (.loc "self") "elts") .nil)) (.call "_MIN" (.cons (.attr (.loc "self") "t") .nil))))
    (.cons (.ret (.cmp .eq (.bcall .len (.cons (.attr (.loc "self") "elts") .nil)) (.call "_MIN" (.cons (.attr (.loc "self") "t") .nil))))
    .nil))
noncomputable def f__Node_search_in_node : PS :=
  (.cons (.assign "l" (.bcall .len (.cons (.attr (.loc "self") "elts") .nil)))
    (.cons (.ite (.and (.cons (.cmp .gt (.loc "l") (.int 0)) (.cons (.cmp .gt (.loc "key") (.meth (.item (.attr (.loc "self") "elts") (.bin .sub (.loc "l") (.int 1))) "key" .nil)) .nil)))
    (.cons (.ret (.tup (.cons (.loc "l") (.cons (.bool false) .nil))))
    .nil)
    .nil)
    (.cons (.assign "l" (.int 0))
    (.cons (.assign "i" (.bcall .len (.cons (.attr (.loc "self") "elts") .nil)))
    (.cons (.assign "r" (.bin .sub (.loc "i") (.int 1)))
    (.cons (.assign "equal" (.bool false))
    (.cons (.whil (.cmp .le (.loc "l") (.loc "r"))
    (.cons (.assign "m" (.bin .fdiv (.bin .add (.loc "l") (.loc "r")) (.int 2)))
    (.cons (.assign "k" (.meth (.item (.attr (.loc "self") "elts") (.loc "m")) "key" .nil))
    (.cons (.ite (.cmp .eq (.loc "key") (.loc "k"))
    (.cons (.assign "i" (.loc "m"))
    (.cons (.assign "equal" (.bool true))
    (.cons .brk
    .nil)))
    (.cons (.ite (.cmp .lt (.loc "key") (.loc "k"))
    (.cons (.assign "i" (.loc "m"))
    (.cons (.assign "r" (.bin .sub (.loc "m") (.int 1)))
    .nil))
    (.cons (.assign "l" (.bin .add (.loc "m") (.int 1)))
    .nil))
    .nil))
    .nil))))
    (.cons (.ret (.tup (.cons (.loc "i") (.cons (.loc "equal") .nil))))
    .nil))))))))
noncomputable def f__Node_maybe_cow_child : PS :=
  (.cons (.assert (.not (.attr (.loc "self") "is_leaf")))
    (.cons (.assign "child" (.item (.attr (.loc "self") "children") (.loc "index")))
    (.cons (.assign "cloned" (.meth (.loc "child") "maybe_cow" (.cons (.attr (.loc "self") "creator") .nil)))
    (.cons (.ite (.loc "cloned")
    (.cons (.setItem (.attr (.loc "self") "children") (.loc "index") (.loc "cloned"))
    (.cons (.ret (.loc "cloned"))
    .nil))
    (.cons (.ret (.loc "child"))
    .nil))
    .nil))))
noncomputable def f__Node__get_node : PS :=
  (.cons (.assignT "i" "equal" (.meth (.loc "self") "search_in_node" (.cons (.loc "key") .nil)))
    (.cons (.ite (.loc "equal")
    (.cons (.ret (.tup (.cons (.loc "self") (.cons (.loc "i") .nil))))
    .nil)
    (.cons (.ite (.attr (.loc "self") "is_leaf")
    (.cons (.ret (.tup (.cons .none (.cons (.int 0) .nil))))
    .nil)
    (.cons (.assign "child" (.meth (.loc "self") "maybe_cow_child" (.cons (.loc "i") .nil)))
    (.cons (.ret (.meth (.loc "child") "_get_node" (.cons (.loc "key") .nil)))
    .nil)))
    .nil))
    .nil))
noncomputable def f__Node_get : PS :=
  (.cons (.assignT "i" "equal" (.meth (.loc "self") "search_in_node" (.cons (.loc "key") .nil)))
    (.cons (.ite (.loc "equal")
    (.cons (.ret (.item (.attr (.loc "self") "elts") (.loc "i")))
    .nil)
    (.cons (.ite (.attr (.loc "self") "is_leaf")
    (.cons (.ret .none)
    .nil)
    (.cons (.ret (.meth (.item (.attr (.loc "self") "children") (.loc "i")) "get" (.cons (.loc "key") .nil)))
    .nil))
    .nil))
    .nil))
noncomputable def f__Node_optimize_in_order_insertion : PS :=
  (.cons (.ite (.cmp .eq (.loc "index") (.int 0))
    (.cons .retN
    .nil)
    .nil)
    (.cons (.assign "left" (.item (.attr (.loc "self") "children") (.bin .sub (.loc "index") (.int 1))))
    (.cons (.ite (.cmp .eq (.bcall .len (.cons (.attr (.loc "left") "elts") .nil)) (.call "_MAX" (.cons (.attr (.loc "self") "t") .nil)))
    (.cons .retN
    .nil)
    .nil)
    (.cons (.assign "left" (.meth (.loc "self") "maybe_cow_child" (.cons (.bin .sub (.loc "index") (.int 1)) .nil)))
    (.cons (.whil (.cmp .lt (.bcall .len (.cons (.attr (.loc "left") "elts") .nil)) (.call "_MAX" (.cons (.attr (.loc "self") "t") .nil)))
    (.cons (.ite (.not (.meth (.loc "left") "try_right_steal" (.cons (.loc "self") (.cons (.bin .sub (.loc "index") (.int 1)) .nil))))
    (.cons .brk
    .nil)
    .nil)
    .nil))
    .nil)))))
noncomputable def f__Node_insert_nonfull : PS :=
  (.cons (.assert (.not (.meth (.loc "self") "is_maximal" .nil)))
    (.cons (.whil (.bool true)
    (.cons (.assign "key" (.meth (.loc "element") "key" .nil))
    (.cons (.assignT "i" "equal" (.meth (.loc "self") "search_in_node" (.cons (.loc "key") .nil)))
    (.cons (.ite (.loc "equal")
    (.cons (.assign "old" (.item (.attr (.loc "self") "elts") (.loc "i")))
    (.cons (.setItem (.attr (.loc "self") "elts") (.loc "i") (.loc "element"))
    (.cons (.ret (.loc "old"))
    .nil)))
    (.cons (.ite (.attr (.loc "self") "is_leaf")
    (.cons (.expr (.meth (.attr (.loc "self") "elts") "insert" (.cons (.loc "i") (.cons (.loc "element") .nil))))
    (.cons (.ret .none)
    .nil))
    (.cons (.assign "child" (.meth (.loc "self") "maybe_cow_child" (.cons (.loc "i") .nil)))
    (.cons (.ite (.meth (.loc "child") "is_maximal" .nil)
    (.cons (.expr (.methStar (.loc "self") "adopt" (.meth (.loc "child") "split" .nil)))
    (.cons .cont
    .nil))
    .nil)
    (.cons (.assign "oelt" (.meth (.loc "child") "insert_nonfull" (.cons (.loc "element") (.cons (.loc "in_order") .nil))))
    (.cons (.ite (.loc "in_order")
    (.cons (.expr (.meth (.loc "self") "optimize_in_order_insertion" (.cons (.loc "i") .nil)))
    .nil)
    .nil)
    (.cons (.ret (.loc "oelt"))
    .nil))))))
    .nil))
    .nil))))
    .nil))
noncomputable def f__Node_split : PS :=
  (.cons (.assert (.meth (.loc "self") "is_maximal" .nil))
    (.cons (.assign "right" (.call "_Node" (.cons (.attr (.loc "self") "t") (.cons (.attr (.loc "self") "creator") (.cons (.attr (.loc "self") "is_leaf") .nil)))))
    (.cons (.setAttr (.loc "right") "elts" (.bcall .list (.cons (.sliceFrom (.attr (.loc "self") "elts") (.bin .add (.call "_MIN" (.cons (.attr (.loc "self") "t") .nil)) (.int 1))) .nil)))
    (.cons (.assign "middle" (.item (.attr (.loc "self") "elts") (.call "_MIN" (.cons (.attr (.loc "self") "t") .nil))))
    (.cons (.setAttr (.loc "self") "elts" (.bcall .list (.cons (.sliceTo (.attr (.loc "self") "elts") (.call "_MIN" (.cons (.attr (.loc "self") "t") .nil))) .nil)))
    (.cons (.ite (.not (.attr (.loc "self") "is_leaf"))
    (.cons (.setAttr (.loc "right") "children" (.bcall .list (.cons (.sliceFrom (.attr (.loc "self") "children") (.bin .add (.call "_MIN" (.cons (.attr (.loc "self") "t") .nil)) (.int 1))) .nil)))
    (.cons (.setAttr (.loc "self") "children" (.bcall .list (.cons (.sliceTo (.attr (.loc "self") "children") (.bin .add (.call "_MIN" (.cons (.attr (.loc "self") "t") .nil)) (.int 1))) .nil)))
    .nil))
    .nil)
    (.cons (.ret (.tup (.cons (.loc "self") (.cons (.loc "middle") (.cons (.loc "right") .nil)))))
    .nil)))))))
noncomputable def f__Node_try_left_steal : PS :=
  (.cons (.ite (.cmp .ne (.loc "index") (.int 0))
    (.cons (.assign "left" (.item (.attr (.loc "parent") "children") (.bin .sub (.loc "index") (.int 1))))
    (.cons (.ite (.not (.meth (.loc "left") "is_minimal" .nil))
    (.cons (.assign "left" (.meth (.loc "parent") "maybe_cow_child" (.cons (.bin .sub (.loc "index") (.int 1)) .nil)))
    (.cons (.assign "elt" (.item (.attr (.loc "parent") "elts") (.bin .sub (.loc "index") (.int 1))))
    (.cons (.setItem (.attr (.loc "parent") "elts") (.bin .sub (.loc "index") (.int 1)) (.meth (.attr (.loc "left") "elts") "pop" .nil))
    (.cons (.expr (.meth (.attr (.loc "self") "elts") "insert" (.cons (.int 0) (.cons (.loc "elt") .nil))))
    (.cons (.ite (.not (.attr (.loc "left") "is_leaf"))
    (.cons (.assert (.not (.attr (.loc "self") "is_leaf")))
    (.cons (.assign "child" (.meth (.attr (.loc "left") "children") "pop" .nil))
    (.cons (.expr (.meth (.attr (.loc "self") "children") "insert" (.cons (.int 0) (.cons (.loc "child") .nil))))
    .nil)))
    .nil)
    (.cons (.ret (.bool true))
    .nil))))))
    .nil)
    .nil))
    .nil)
    (.cons (.ret (.bool false))
    .nil))
noncomputable def f__Node_try_right_steal : PS :=
  (.cons (.ite (.cmp .lt (.bin .add (.loc "index") (.int 1)) (.bcall .len (.cons (.attr (.loc "parent") "children") .nil)))
    (.cons (.assign "right" (.item (.attr (.loc "parent") "children") (.bin .add (.loc "index") (.int 1))))
    (.cons (.ite (.not (.meth (.loc "right") "is_minimal" .nil))
    (.cons (.assign "right" (.meth (.loc "parent") "maybe_cow_child" (.cons (.bin .add (.loc "index") (.int 1)) .nil)))
    (.cons (.assign "elt" (.item (.attr (.loc "parent") "elts") (.loc "index")))
    (.cons (.setItem (.attr (.loc "parent") "elts") (.loc "index") (.meth (.attr (.loc "right") "elts") "pop" (.cons (.int 0) .nil)))
    (.cons (.expr (.meth (.attr (.loc "self") "elts") "append" (.cons (.loc "elt") .nil)))
    (.cons (.ite (.not (.attr (.loc "right") "is_leaf"))
    (.cons (.assert (.not (.attr (.loc "self") "is_leaf")))
    (.cons (.assign "child" (.meth (.attr (.loc "right") "children") "pop" (.cons (.int 0) .nil)))
    (.cons (.expr (.meth (.attr (.loc "self") "children") "append" (.cons (.loc "child") .nil)))
    .nil)))
    .nil)
    (.cons (.ret (.bool true))
    .nil))))))
    .nil)
    .nil))
    .nil)
    (.cons (.ret (.bool false))
    .nil))
noncomputable def f__Node_adopt : PS :=
  (.cons (.assert (.not (.meth (.loc "self") "is_maximal" .nil)))
    (.cons (.assert (.not (.attr (.loc "self") "is_leaf")))
    (.cons (.assign "key" (.meth (.loc "middle") "key" .nil))
    (.cons (.assignT "i" "equal" (.meth (.loc "self") "search_in_node" (.cons (.loc "key") .nil)))
    (.cons (.assert (.not (.loc "equal")))
    (.cons (.expr (.meth (.attr (.loc "self") "elts") "insert" (.cons (.loc "i") (.cons (.loc "middle") .nil))))
    (.cons (.ite (.cmp .eq (.bcall .len (.cons (.attr (.loc "self") "children") .nil)) (.int 0))
    (.cons (.setAttr (.loc "self") "children" (.lst (.cons (.loc "left") (.cons (.loc "right") .nil))))
    .nil)
    (.cons (.assert (.cmp .eq (.item (.attr (.loc "self") "children") (.loc "i")) (.loc "left")))
    (.cons (.expr (.meth (.attr (.loc "self") "children") "insert" (.cons (.bin .add (.loc "i") (.int 1)) (.cons (.loc "right") .nil))))
    .nil)))
    .nil)))))))
noncomputable def f__Node_merge : PS :=
  (.cons (.assign "right" (.meth (.attr (.loc "parent") "children") "pop" (.cons (.bin .add (.loc "index") (.int 1)) .nil)))
    (.cons (.expr (.meth (.attr (.loc "self") "elts") "append" (.cons (.meth (.attr (.loc "parent") "elts") "pop" (.cons (.loc "index") .nil)) .nil)))
    (.cons (.expr (.meth (.attr (.loc "self") "elts") "extend" (.cons (.attr (.loc "right") "elts") .nil)))
    (.cons (.ite (.not (.attr (.loc "self") "is_leaf"))
    (.cons (.expr (.meth (.attr (.loc "self") "children") "extend" (.cons (.attr (.loc "right") "children") .nil)))
    .nil)
    .nil)
    .nil))))
noncomputable def f__Node_minimum : PS :=
  (.cons (.ite (.attr (.loc "self") "is_leaf")
    (.cons (.ret (.item (.attr (.loc "self") "elts") (.int 0)))
    .nil)
    (.cons (.ret (.meth (.item (.attr (.loc "self") "children") (.int 0)) "minimum" .nil))
    .nil))
    .nil)
noncomputable def f__Node_balance : PS :=
  (.cons (.assert (.not (.attr (.loc "parent") "is_leaf")))
    (.cons (.ite (.meth (.loc "self") "try_left_steal" (.cons (.loc "parent") (.cons (.loc "index") .nil)))
    (.cons .retN
    .nil)
    .nil)
    (.cons (.ite (.meth (.loc "self") "try_right_steal" (.cons (.loc "parent") (.cons (.loc "index") .nil)))
    (.cons .retN
    .nil)
    .nil)
    (.cons (.ite (.cmp .eq (.loc "index") (.int 0))
    (.cons (.expr (.meth (.loc "self") "merge" (.cons (.loc "parent") (.cons (.loc "index") .nil))))
    .nil)
    (.cons (.assign "left" (.meth (.loc "parent") "maybe_cow_child" (.cons (.bin .sub (.loc "index") (.int 1)) .nil)))
    (.cons (.expr (.meth (.loc "left") "merge" (.cons (.loc "parent") (.cons (.bin .sub (.loc "index") (.int 1)) .nil))))
    .nil)))
    .nil))))
noncomputable def f__Node_delete : PS :=
  (.cons (.assert (.or (.cons (.cmp .is (.loc "parent") .none) (.cons (.not (.meth (.loc "self") "is_minimal" .nil)) .nil))))
    (.cons (.assignT "i" "equal" (.meth (.loc "self") "search_in_node" (.cons (.loc "key") .nil)))
    (.cons (.assign "original_key" .none)
    (.cons (.ite (.loc "equal")
    (.cons (.ite (.and (.cons (.cmp .isNot (.loc "exact") .none) (.cons (.cmp .isNot (.item (.attr (.loc "self") "elts") (.loc "i")) (.loc "exact")) .nil)))
    (.cons .raiseV
    .nil)
    .nil)
    (.cons (.ite (.attr (.loc "self") "is_leaf")
    (.cons (.ret (.meth (.attr (.loc "self") "elts") "pop" (.cons (.loc "i") .nil)))
    .nil)
    .nil)
    (.cons (.assign "exact" .none)
    (.cons (.assign "original_key" (.loc "key"))
    (.cons (.assign "least_successor" (.meth (.item (.attr (.loc "self") "children") (.bin .add (.loc "i") (.int 1))) "minimum" .nil))
    (.cons (.assign "key" (.meth (.loc "least_successor") "key" .nil))
    (.cons (.assign "i" (.bin .add (.loc "i") (.int 1)))
    .nil)))))))
    .nil)
    (.cons (.ite (.attr (.loc "self") "is_leaf")
    (.cons (.ite (.cmp .isNot (.loc "exact") .none)
    (.cons .raiseV
    .nil)
    .nil)
    (.cons (.ret .none)
    .nil))
    .nil)
    (.cons (.assign "child" (.meth (.loc "self") "maybe_cow_child" (.cons (.loc "i") .nil)))
    (.cons (.ite (.meth (.loc "child") "is_minimal" .nil)
    (.cons (.expr (.meth (.loc "child") "balance" (.cons (.loc "self") (.cons (.loc "i") .nil))))
    (.cons (.assignT "i" "equal" (.meth (.loc "self") "search_in_node" (.cons (.loc "key") .nil)))
    (.cons (.assert (.not (.loc "equal")))
    (.cons (.assign "child" (.item (.attr (.loc "self") "children") (.loc "i")))
    (.cons (.assert (.not (.meth (.loc "child") "is_minimal" .nil)))
    .nil)))))
    .nil)
    (.cons (.assign "elt" (.meth (.loc "child") "delete" (.cons (.loc "key") (.cons (.loc "self") (.cons (.loc "exact") .nil)))))
    (.cons (.ite (.cmp .isNot (.loc "original_key") .none)
    (.cons (.assignT "node" "i" (.meth (.loc "self") "_get_node" (.cons (.loc "original_key") .nil)))
    (.cons (.assert (.cmp .isNot (.loc "node") .none))
    (.cons (.assert (.cmp .isNot (.loc "elt") .none))
    (.cons (.assign "oelt" (.item (.attr (.loc "node") "elts") (.loc "i")))
    (.cons (.setItem (.attr (.loc "node") "elts") (.loc "i") (.loc "elt"))
    (.cons (.assign "elt" (.loc "oelt"))
    .nil))))))
    .nil)
    (.cons (.ret (.loc "elt"))
    .nil))))))))))
noncomputable def f__Node_visit_in_order : PS :=
  (.cons (.forE "i" "elt" (.attr (.loc "self") "elts")
    (.cons (.ite (.not (.attr (.loc "self") "is_leaf"))
    (.cons (.expr (.meth (.item (.attr (.loc "self") "children") (.loc "i")) "visit_in_order" (.cons (.loc "visit") .nil)))
    .nil)
    .nil)
    (.cons (.expr (.callV "visit" (.cons (.loc "elt") .nil)))
    .nil)))
    (.cons (.ite (.not (.attr (.loc "self") "is_leaf"))
    (.cons (.expr (.meth (.item (.attr (.loc "self") "children") (.neg (.int 1))) "visit_in_order" (.cons (.loc "visit") .nil)))
    .nil)
    .nil)
    .nil))
noncomputable def f__Node_maybe_cow : PS :=
  (.cons (.ite (.cmp .isNot (.attr (.loc "self") "creator") (.loc "creator"))
    (.cons (.ret (.meth (.loc "self") "clone" (.cons (.loc "creator") .nil)))
    .nil)
    (.cons (.ret .none)
    .nil))
    .nil)
noncomputable def f__Node_clone : PS :=
  (.cons (.assign "cloned" (.call "_Node" (.cons (.attr (.loc "self") "t") (.cons (.loc "creator") (.cons (.attr (.loc "self") "is_leaf") .nil)))))
    (.cons (.expr (.meth (.attr (.loc "cloned") "elts") "extend" (.cons (.attr (.loc "self") "elts") .nil)))
    (.cons (.ite (.not (.attr (.loc "self") "is_leaf"))
    (.cons (.expr (.meth (.attr (.loc "cloned") "children") "extend" (.cons (.attr (.loc "self") "children") .nil)))
    .nil)
    .nil)
    (.cons (.ret (.loc "cloned"))
    .nil))))
noncomputable def f_BTree___init__ : PS :=
  (.cons (.setAttr (.loc "self") "creator" (.call "_Creator" .nil))
    (.cons (.setAttr (.loc "self") "_immutable" (.bool false))
    (.cons (.setAttr (.loc "self") "cursors" (.lst .nil))
    (.cons (.ite (.cmp .isNot (.loc "original") .none)
    (.cons (.ite (.not (.attr (.loc "original") "_immutable"))
    (.cons .raiseV
    .nil)
    .nil)
    (.cons (.setAttr (.loc "self") "t" (.attr (.loc "original") "t"))
    (.cons (.setAttr (.loc "self") "root" (.attr (.loc "original") "root"))
    (.cons (.setAttr (.loc "self") "size" (.attr (.loc "original") "size"))
    .nil))))
    (.cons (.ite (.cmp .lt (.loc "t") (.int 3))
    (.cons .raiseV
    .nil)
    .nil)
    (.cons (.setAttr (.loc "self") "t" (.loc "t"))
    (.cons (.setAttr (.loc "self") "root" (.call "_Node" (.cons (.attr (.loc "self") "t") (.cons (.attr (.loc "self") "creator") (.cons (.bool true) .nil)))))
    (.cons (.setAttr (.loc "self") "size" (.int 0))
    .nil)))))
    .nil))))
noncomputable def f_BTree_make_immutable : PS :=
  (.cons (.ite (.not (.attr (.loc "self") "_immutable"))
    (.cons (.setAttr (.loc "self") "_immutable" (.bool true))
    .nil)
    .nil)
    .nil)
noncomputable def f_BTree__check_mutable_and_park : PS :=
  (.cons (.ite (.attr (.loc "self") "_immutable")
    (.cons .raiseC
    .nil)
    .nil)
    (.cons (.forL "cursor" (.attr (.loc "self") "cursors")
    (.cons (.expr (.meth (.loc "cursor") "park" .nil))
    .nil))
    .nil))
noncomputable def f_BTree_insert_element : PS :=
  (.cons (.expr (.meth (.loc "self") "_check_mutable_and_park" .nil))
    (.cons (.assign "cloned" (.meth (.attr (.loc "self") "root") "maybe_cow" (.cons (.attr (.loc "self") "creator") .nil)))
    (.cons (.ite (.loc "cloned")
    (.cons (.setAttr (.loc "self") "root" (.loc "cloned"))
    .nil)
    .nil)
    (.cons (.ite (.meth (.attr (.loc "self") "root") "is_maximal" .nil)
    (.cons (.assign "old_root" (.attr (.loc "self") "root"))
    (.cons (.setAttr (.loc "self") "root" (.call "_Node" (.cons (.attr (.loc "self") "t") (.cons (.attr (.loc "self") "creator") (.cons (.bool false) .nil)))))
    (.cons (.expr (.methStar (.attr (.loc "self") "root") "adopt" (.meth (.loc "old_root") "split" .nil)))
    .nil)))
    .nil)
    (.cons (.assign "oelt" (.meth (.attr (.loc "self") "root") "insert_nonfull" (.cons (.loc "elt") (.cons (.loc "in_order") .nil))))
    (.cons (.ite (.cmp .is (.loc "oelt") .none)
    (.cons (.augAttr (.loc "self") "size" .add (.int 1))
    .nil)
    .nil)
    (.cons (.ret (.loc "oelt"))
    .nil)))))))
noncomputable def f_BTree_get_element : PS :=
  (.cons (.ret (.meth (.attr (.loc "self") "root") "get" (.cons (.loc "key") .nil)))
    .nil)
noncomputable def f_BTree__delete : PS :=
  (.cons (.expr (.meth (.loc "self") "_check_mutable_and_park" .nil))
    (.cons (.assign "cloned" (.meth (.attr (.loc "self") "root") "maybe_cow" (.cons (.attr (.loc "self") "creator") .nil)))
    (.cons (.ite (.loc "cloned")
    (.cons (.setAttr (.loc "self") "root" (.loc "cloned"))
    .nil)
    .nil)
    (.cons (.assign "elt" (.meth (.attr (.loc "self") "root") "delete" (.cons (.loc "key") (.cons .none (.cons (.loc "exact") .nil)))))
    (.cons (.ite (.cmp .isNot (.loc "elt") .none)
    (.cons (.augAttr (.loc "self") "size" .sub (.int 1))
    (.cons (.ite (.cmp .eq (.bcall .len (.cons (.attr (.attr (.loc "self") "root") "elts") .nil)) (.int 0))
    (.cons (.ite (.not (.attr (.attr (.loc "self") "root") "is_leaf"))
    (.cons (.assert (.cmp .eq (.bcall .len (.cons (.attr (.attr (.loc "self") "root") "children") .nil)) (.int 1)))
    (.cons (.setAttr (.loc "self") "root" (.item (.attr (.attr (.loc "self") "root") "children") (.int 0)))
    .nil))
    .nil)
    .nil)
    .nil)
    .nil))
    .nil)
    (.cons (.ret (.loc "elt"))
    .nil))))))
noncomputable def f_BTree_delete_key : PS :=
  (.cons (.ret (.meth (.loc "self") "_delete" (.cons (.loc "key") (.cons .none .nil))))
    .nil)
noncomputable def f_BTree_delete_exact : PS :=
  (.cons (.assign "delt" (.meth (.loc "self") "_delete" (.cons (.meth (.loc "element") "key" .nil) (.cons (.loc "element") .nil))))
    (.cons (.assert (.cmp .is (.loc "delt") (.loc "element")))
    (.cons (.ret (.loc "delt"))
    .nil)))
noncomputable def f_BTree___len__ : PS :=
  (.cons (.ret (.attr (.loc "self") "size"))
    .nil)
noncomputable def f_BTree_visit_in_order : PS :=
  (.cons (.expr (.meth (.attr (.loc "self") "root") "visit_in_order" (.cons (.loc "visit") .nil)))
    .nil)
noncomputable def f_KV___init__ : PS :=
  (.cons (.setAttr (.loc "self") "_key" (.loc "key"))
    (.cons (.setAttr (.loc "self") "_value" (.loc "value"))
    .nil))
noncomputable def f_KV_key : PS :=
  (.cons (.ret (.attr (.loc "self") "_key"))
    .nil)
noncomputable def f_KV_value : PS :=
  (.cons (.ret (.attr (.loc "self") "_value"))
    .nil)
noncomputable def f_Member___init__ : PS :=
  (.cons (.setAttr (.loc "self") "_key" (.loc "key"))
    .nil)
noncomputable def f_Member_key : PS :=
  (.cons (.ret (.attr (.loc "self") "_key"))
    .nil)
noncomputable def f_BTreeSet___contains__ : PS :=
  (.cons (.ret (.cmp .isNot (.meth (.loc "self") "get_element" (.cons (.loc "x") .nil)) .none))
    .nil)
noncomputable def f_BTreeSet_add : PS :=
  (.cons (.assign "elt" (.call "Member" (.cons (.loc "value") .nil)))
    (.cons (.expr (.meth (.loc "self") "insert_element" (.cons (.loc "elt") (.cons (.attr (.loc "self") "in_order") .nil))))
    .nil))
noncomputable def f_BTreeSet_discard : PS :=
  (.cons (.expr (.meth (.loc "self") "delete_key" (.cons (.loc "value") .nil)))
    .nil)
noncomputable def f__law_draw : PS :=
  (.cons (.ite (.cmp .lt (.loc "place") (.bcall .len (.cons (.loc "script") .nil)))
    (.cons (.ret (.bin .mod (.item (.loc "script") (.loc "place")) (.int 16000)))
    .nil)
    .nil)
    (.cons (.ret (.item (.glob "_LAW_PLAIN") (.bin .mod (.loc "place") (.int 30))))
    .nil))
noncomputable def f__law_shape : PS :=
  (.cons (.assign "count" (.bcall .len (.cons (.attr (.loc "node") "elts") .nil)))
    (.cons (.ite (.or (.cons (.cmp .eq (.loc "room") (.int 0)) (.cons (.cmp .gt (.loc "count") (.bin .sub (.bin .mul (.int 2) (.loc "t")) (.int 1))) .nil)))
    (.cons (.ret (.tup (.cons (.neg (.int 1)) (.cons (.int 0) .nil))))
    .nil)
    .nil)
    (.cons (.ite (.and (.cons (.not (.loc "top")) (.cons (.cmp .lt (.loc "count") (.bin .sub (.loc "t") (.int 1))) .nil)))
    (.cons (.ret (.tup (.cons (.neg (.int 1)) (.cons (.int 0) .nil))))
    .nil)
    .nil)
    (.cons (.assign "last" (.loc "low"))
    (.cons (.forL "elt" (.attr (.loc "node") "elts")
    (.cons (.assign "key" (.meth (.loc "elt") "key" .nil))
    (.cons (.ite (.and (.cons (.cmp .isNot (.loc "last") .none) (.cons (.not (.cmp .lt (.loc "last") (.loc "key"))) .nil)))
    (.cons (.ret (.tup (.cons (.neg (.int 1)) (.cons (.int 0) .nil))))
    .nil)
    .nil)
    (.cons (.assign "last" (.loc "key"))
    .nil))))
    (.cons (.ite (.and (.cons (.cmp .isNot (.loc "last") .none) (.cons (.cmp .isNot (.loc "high") .none) (.cons (.not (.cmp .lt (.loc "last") (.loc "high"))) .nil))))
    (.cons (.ret (.tup (.cons (.neg (.int 1)) (.cons (.int 0) .nil))))
    .nil)
    .nil)
    (.cons (.ite (.attr (.loc "node") "is_leaf")
    (.cons (.ite (.cmp .ne (.bcall .len (.cons (.attr (.loc "node") "children") .nil)) (.int 0))
    (.cons (.ret (.tup (.cons (.neg (.int 1)) (.cons (.int 0) .nil))))
    .nil)
    .nil)
    (.cons (.ret (.tup (.cons (.int 0) (.cons (.loc "count") .nil))))
    .nil))
    .nil)
    (.cons (.ite (.cmp .ne (.bcall .len (.cons (.attr (.loc "node") "children") .nil)) (.bin .add (.loc "count") (.int 1)))
    (.cons (.ret (.tup (.cons (.neg (.int 1)) (.cons (.int 0) .nil))))
    .nil)
    .nil)
    (.cons (.assign "total" (.loc "count"))
    (.cons (.assign "depth" (.neg (.int 1)))
    (.cons (.forR "place" (.cons (.bin .add (.loc "count") (.int 1)) .nil)
    (.cons (.assign "below" (.loc "low"))
    (.cons (.assign "above" (.loc "high"))
    (.cons (.ite (.cmp .gt (.loc "place") (.int 0))
    (.cons (.assign "below" (.meth (.item (.attr (.loc "node") "elts") (.bin .sub (.loc "place") (.int 1))) "key" .nil))
    .nil)
    .nil)
    (.cons (.ite (.cmp .lt (.loc "place") (.loc "count"))
    (.cons (.assign "above" (.meth (.item (.attr (.loc "node") "elts") (.loc "place")) "key" .nil))
    .nil)
    .nil)
    (.cons (.assignT "deep" "much" (.call "_law_shape" (.cons (.item (.attr (.loc "node") "children") (.loc "place")) (.cons (.loc "t") (.cons (.loc "below") (.cons (.loc "above") (.cons (.bool false) (.cons (.bin .sub (.loc "room") (.int 1)) .nil))))))))
    (.cons (.ite (.cmp .lt (.loc "deep") (.int 0))
    (.cons (.ret (.tup (.cons (.neg (.int 1)) (.cons (.int 0) .nil))))
    .nil)
    .nil)
    (.cons (.ite (.and (.cons (.cmp .gt (.loc "place") (.int 0)) (.cons (.cmp .ne (.loc "deep") (.loc "depth")) .nil)))
    (.cons (.ret (.tup (.cons (.neg (.int 1)) (.cons (.int 0) .nil))))
    .nil)
    .nil)
    (.cons (.assign "depth" (.loc "deep"))
    (.cons (.augName "total" .add (.loc "much"))
    .nil))))))))))
    (.cons (.ret (.tup (.cons (.bin .add (.loc "depth") (.int 1)) (.cons (.loc "total") .nil))))
    .nil))))))))))))
noncomputable def f__law_sound : PS :=
  (.cons (.assignT "depth" "total" (.call "_law_shape" (.cons (.attr (.loc "tree") "root") (.cons (.loc "t") (.cons .none (.cons .none (.cons (.bool true) (.cons (.int 8) .nil))))))))
    (.cons (.ret (.and (.cons (.cmp .ge (.loc "depth") (.int 0)) (.cons (.cmp .eq (.loc "total") (.bcall .len (.cons (.loc "tree") .nil))) .nil))))
    .nil))
noncomputable def f__law_stands : PS :=
  (.cons (.ite (.cmp .ne (.bcall .len (.cons (.loc "tree") .nil)) (.bcall .len (.cons (.loc "held") .nil)))
    (.cons (.ret (.bool false))
    .nil)
    .nil)
    (.cons (.assign "seen" (.lst .nil))
    (.cons (.expr (.meth (.loc "tree") "visit_in_order" (.cons (.attr (.loc "seen") "append") .nil)))
    (.cons (.ite (.cmp .ne (.bcall .len (.cons (.loc "seen") .nil)) (.bcall .len (.cons (.loc "held") .nil)))
    (.cons (.ret (.bool false))
    .nil)
    .nil)
    (.cons (.forZ "elt" "key" (.loc "seen") (.bcall .sorted (.cons (.loc "held") .nil))
    (.cons (.ite (.cmp .isNot (.loc "elt") (.item (.loc "held") (.loc "key")))
    (.cons (.ret (.bool false))
    .nil)
    .nil)
    .nil))
    (.cons (.ite (.cmp .isNot (.meth (.loc "tree") "get_element" (.cons (.loc "probe") .nil)) (.meth (.loc "held") "get" (.cons (.loc "probe") .nil)))
    (.cons (.ret (.bool false))
    .nil)
    .nil)
    (.cons (.ite (.cmp .isNot (.meth (.loc "tree") "get_element" (.cons (.bin .add (.loc "probe") (.int 1)) .nil)) .none)
    (.cons (.ret (.bool false))
    .nil)
    .nil)
    (.cons (.ret (.call "_law_sound" (.cons (.loc "tree") (.cons (.loc "t") .nil))))
    .nil))))))))
noncomputable def f__law_refuses : PS :=
  (.cons (.tryV (.meth (.loc "tree") "delete_exact" (.cons (.loc "elt") .nil)))
    (.cons (.ret (.bool false))
    .nil))
noncomputable def f__law_put : PS :=
  (.cons (.assign "old" (.meth (.loc "held") "get" (.cons (.loc "key") .nil)))
    (.cons (.ite (.cmp .isNot (.meth (.loc "tree") "insert_element" (.cons (.loc "elt") (.cons (.loc "in_order") .nil))) (.loc "old"))
    (.cons (.ret (.bool false))
    .nil)
    .nil)
    (.cons (.ite (.cmp .isNot (.loc "old") .none)
    (.cons (.expr (.meth (.loc "gone") "append" (.cons (.tup (.cons (.loc "key") (.cons (.loc "old") .nil))) .nil)))
    .nil)
    .nil)
    (.cons (.setItem (.loc "held") (.loc "key") (.loc "elt"))
    (.cons (.ret (.bool true))
    .nil)))))
noncomputable def f__law_new : PS :=
  (.cons (.assign "elt" (.call "KV" (.cons (.loc "key") (.cons (.loc "value") .nil))))
    (.cons (.ite (.or (.cons (.cmp .ne (.meth (.loc "elt") "key" .nil) (.loc "key")) (.cons (.cmp .ne (.meth (.loc "elt") "value" .nil) (.loc "value")) .nil)))
    (.cons (.ret (.bool false))
    .nil)
    .nil)
    (.cons (.ret (.call "_law_put" (.cons (.loc "tree") (.cons (.loc "held") (.cons (.loc "gone") (.cons (.loc "key") (.cons (.loc "elt") (.cons (.loc "in_order") .nil))))))))
    .nil)))
noncomputable def f__law_take : PS :=
  (.cons (.assign "old" (.meth (.loc "held") "get" (.cons (.loc "key") .nil)))
    (.cons (.ite (.loc "exactly")
    (.cons (.ite (.cmp .isNot (.meth (.loc "tree") "delete_exact" (.cons (.loc "old") .nil)) (.loc "old"))
    (.cons (.ret (.bool false))
    .nil)
    .nil)
    .nil)
    (.cons (.ite (.cmp .isNot (.meth (.loc "tree") "delete_key" (.cons (.loc "key") .nil)) (.loc "old"))
    (.cons (.ret (.bool false))
    .nil)
    .nil)
    .nil))
    (.cons (.ite (.cmp .isNot (.loc "old") .none)
    (.cons (.expr (.meth (.loc "gone") "append" (.cons (.tup (.cons (.loc "key") (.cons (.meth (.loc "held") "pop" (.cons (.loc "key") .nil)) .nil))) .nil)))
    .nil)
    .nil)
    (.cons (.ret (.bool true))
    .nil))))
noncomputable def f__law_deed : PS :=
  (.cons (.assign "kind" (.bin .mod (.loc "number") (.int 10)))
    (.cons (.assign "rest" (.bin .fdiv (.loc "number") (.int 160)))
    (.cons (.assign "key" (.bin .sub (.bin .mul (.int 3) (.bin .mod (.bin .fdiv (.loc "number") (.int 10)) (.int 16))) (.int 20)))
    (.cons (.ite (.cmp .lt (.loc "kind") (.int 2))
    (.cons (.ret (.call "_law_new" (.cons (.loc "tree") (.cons (.loc "held") (.cons (.loc "gone") (.cons (.loc "key") (.cons (.loc "value") (.cons (.loc "in_order") .nil))))))))
    .nil)
    .nil)
    (.cons (.ite (.cmp .eq (.loc "kind") (.int 2))
    (.cons (.ret (.call "_law_take" (.cons (.loc "tree") (.cons (.loc "held") (.cons (.loc "gone") (.cons (.loc "key") (.cons (.bool false) .nil)))))))
    .nil)
    .nil)
    (.cons (.ite (.and (.cons (.cmp .eq (.loc "kind") (.int 3)) (.cons (.cmp .inn (.loc "key") (.loc "held")) .nil)))
    (.cons (.ret (.call "_law_take" (.cons (.loc "tree") (.cons (.loc "held") (.cons (.loc "gone") (.cons (.loc "key") (.cons (.bool true) .nil)))))))
    .nil)
    .nil)
    (.cons (.ite (.and (.cons (.cmp .eq (.loc "kind") (.int 4)) (.cons (.cmp .inn (.loc "key") (.loc "held")) .nil)))
    (.cons (.ret (.call "_law_refuses" (.cons (.loc "tree") (.cons (.call "KV" (.cons (.loc "key") (.cons (.meth (.item (.loc "held") (.loc "key")) "value" .nil) .nil))) .nil))))
    .nil)
    .nil)
    (.cons (.ite (.and (.cons (.cmp .eq (.loc "kind") (.int 5)) (.cons (.cmp .gt (.bcall .len (.cons (.loc "gone") .nil)) (.int 0)) .nil)))
    (.cons (.ret (.call "_law_refuses" (.cons (.loc "tree") (.cons (.item (.item (.loc "gone") (.bin .mod (.loc "rest") (.bcall .len (.cons (.loc "gone") .nil)))) (.int 1)) .nil))))
    .nil)
    .nil)
    (.cons (.ite (.and (.cons (.cmp .eq (.loc "kind") (.int 6)) (.cons (.cmp .gt (.bcall .len (.cons (.loc "gone") .nil)) (.int 0)) .nil)))
    (.cons (.assignT "name" "elt" (.meth (.loc "gone") "pop" (.cons (.bin .mod (.loc "rest") (.bcall .len (.cons (.loc "gone") .nil))) .nil)))
    (.cons (.ret (.call "_law_put" (.cons (.loc "tree") (.cons (.loc "held") (.cons (.loc "gone") (.cons (.loc "name") (.cons (.loc "elt") (.cons (.loc "in_order") .nil))))))))
    .nil))
    .nil)
    (.cons (.ite (.cmp .eq (.loc "kind") (.int 7))
    (.cons (.forR "step" (.cons (.bin .add (.int 1) (.bin .mod (.loc "rest") (.int 4))) .nil)
    (.cons (.ite (.cmp .isNot (.meth (.loc "tree") "delete_key" (.cons (.bin .add (.loc "key") (.int 1)) .nil)) .none)
    (.cons (.ret (.bool false))
    .nil)
    .nil)
    .nil))
    (.cons (.ret (.bool true))
    .nil))
    .nil)
    (.cons (.ite (.cmp .eq (.loc "kind") (.int 8))
    (.cons (.forR "step" (.cons (.bin .add (.int 1) (.bin .mod (.loc "rest") (.int 4))) .nil)
    (.cons (.ite (.not (.call "_law_refuses" (.cons (.loc "tree") (.cons (.call "KV" (.cons (.bin .sub (.loc "key") (.int 1)) (.cons (.loc "value") .nil))) .nil))))
    (.cons (.ret (.bool false))
    .nil)
    .nil)
    .nil))
    (.cons (.ret (.bool true))
    .nil))
    .nil)
    (.cons (.ite (.and (.cons (.cmp .eq (.loc "kind") (.int 9)) (.cons (.cmp .gt (.bcall .len (.cons (.loc "held") .nil)) (.int 0)) .nil)))
    (.cons (.ret (.call "_law_take" (.cons (.loc "tree") (.cons (.loc "held") (.cons (.loc "gone") (.cons (.item (.bcall .sorted (.cons (.loc "held") .nil)) (.bin .mod (.loc "rest") (.bcall .len (.cons (.loc "held") .nil)))) (.cons (.bool true) .nil)))))))
    .nil)
    .nil)
    (.cons (.ite (.cmp .inn (.loc "key") (.loc "held"))
    (.cons (.ret (.call "_law_take" (.cons (.loc "tree") (.cons (.loc "held") (.cons (.loc "gone") (.cons (.loc "key") (.cons (.bool false) .nil)))))))
    .nil)
    .nil)
    (.cons (.ret (.call "_law_refuses" (.cons (.loc "tree") (.cons (.call "KV" (.cons (.loc "key") (.cons (.loc "value") .nil))) .nil))))
    .nil))))))))))))))
noncomputable def f__law_member : PS :=
  (.cons (.assign "name" (.bin .mul (.neg (.int 5)) (.bin .mod (.bin .fdiv (.loc "number") (.int 3)) (.int 16))))
    (.cons (.ite (.cmp .eq (.bin .mod (.loc "number") (.int 3)) (.int 0))
    (.cons (.expr (.meth (.loc "many") "discard" (.cons (.loc "name") .nil)))
    (.cons (.ite (.cmp .inn (.loc "name") (.loc "names"))
    (.cons (.expr (.meth (.loc "names") "remove" (.cons (.loc "name") .nil)))
    .nil)
    .nil)
    .nil))
    (.cons (.expr (.meth (.loc "many") "add" (.cons (.loc "name") .nil)))
    (.cons (.ite (.cmp .notIn (.loc "name") (.loc "names"))
    (.cons (.expr (.meth (.loc "names") "append" (.cons (.loc "name") .nil)))
    .nil)
    .nil)
    .nil)))
    (.cons (.assign "seen" (.lst .nil))
    (.cons (.expr (.meth (.loc "many") "visit_in_order" (.cons (.attr (.loc "seen") "append") .nil)))
    (.cons (.ite (.cmp .ne (.keys "seen") (.bcall .sorted (.cons (.loc "names") .nil)))
    (.cons (.ret (.bool false))
    .nil)
    .nil)
    (.cons (.ite (.cmp .ne (.cmp .inn (.loc "name") (.loc "many")) (.cmp .ne (.bin .mod (.loc "number") (.int 3)) (.int 0)))
    (.cons (.ret (.bool false))
    .nil)
    .nil)
    (.cons (.ite (.or (.cons (.cmp .inn (.bin .add (.loc "name") (.int 1)) (.loc "many")) (.cons (.cmp .ne (.bcall .len (.cons (.loc "many") .nil)) (.bcall .len (.cons (.loc "names") .nil))) .nil)))
    (.cons (.ret (.bool false))
    .nil)
    .nil)
    (.cons (.ret (.call "_law_sound" (.cons (.loc "many") (.cons (.loc "t") .nil))))
    .nil))))))))
noncomputable def f__law_end : PS :=
  (.cons (.expr (.meth (.loc "tree") "make_immutable" .nil))
    (.cons (.assign "young" (.callK "BTreeDict" ["original"] (.cons (.loc "tree") .nil)))
    (.cons (.assign "left" (.bcall .dict (.cons (.loc "held") .nil)))
    (.cons (.assign "keys" (.bcall .sorted (.cons (.loc "held") .nil)))
    (.cons (.forR "step" (.cons (.bcall .len (.cons (.loc "keys") .nil)) .nil)
    (.cons (.assign "key" (.item (.loc "keys") (.bin .mod (.bin .add (.loc "turn") (.bin .mul (.int 17) (.loc "step"))) (.bcall .len (.cons (.loc "keys") .nil)))))
    (.cons (.assign "elt" (.meth (.loc "left") "pop" (.cons (.loc "key") .nil)))
    (.cons (.ite (.or (.cons (.cmp .isNot (.meth (.loc "young") "delete_exact" (.cons (.loc "elt") .nil)) (.loc "elt")) (.cons (.not (.call "_law_refuses" (.cons (.loc "young") (.cons (.loc "elt") .nil)))) .nil)))
    (.cons (.ret (.bool false))
    .nil)
    .nil)
    (.cons (.ite (.not (.call "_law_stands" (.cons (.loc "young") (.cons (.loc "left") (.cons (.loc "t") (.cons (.loc "key") .nil))))))
    (.cons (.ret (.bool false))
    .nil)
    .nil)
    (.cons (.assign "refused" (.bool false))
    (.cons (.tryI "refused" (.meth (.loc "tree") "delete_exact" (.cons (.loc "elt") .nil)))
    (.cons (.ite (.not (.loc "refused"))
    (.cons (.ret (.bool false))
    .nil)
    .nil)
    .nil))))))))
    (.cons (.ret (.and (.cons (.cmp .eq (.bcall .len (.cons (.loc "young") .nil)) (.int 0)) (.cons (.call "_law_stands" (.cons (.loc "tree") (.cons (.loc "held") (.cons (.loc "t") (.cons (.neg (.int 20)) .nil))))) .nil))))
    .nil))))))
noncomputable def f_law : PS :=
  (.cons (.assign "first" (.call "_law_draw" (.cons (.loc "script") (.cons (.int 0) .nil))))
    (.cons (.assign "t" (.bin .add (.int 3) (.bin .fdiv (.bin .mod (.loc "first") (.int 8)) (.int 3))))
    (.cons (.assign "in_order" (.cmp .eq (.bin .mod (.loc "first") (.int 2)) (.int 1)))
    (.cons (.assign "tree" (.callK "BTreeDict" ["t", "in_order"] (.cons (.loc "t") (.cons (.loc "in_order") .nil))))
    (.cons (.assign "many" (.callK "BTreeSet" ["t", "in_order"] (.cons (.loc "t") (.cons (.loc "in_order") .nil))))
    (.cons (.assign "stride" (.bin .add (.int 1) (.bin .mul (.int 2) (.bin .mod (.call "_law_draw" (.cons (.loc "script") (.cons (.int 1) .nil))) (.int 8)))))
    (.cons (.assign "fill" (.bin .sub (.int 16) (.bin .mod (.call "_law_draw" (.cons (.loc "script") (.cons (.int 2) .nil))) (.int 17))))
    (.cons (.assign "held" .dic)
    (.cons (.assign "gone" (.lst .nil))
    (.cons (.assign "names" (.lst .nil))
    (.cons (.forR "step" (.cons (.loc "fill") .nil)
    (.cons (.ite (.not (.call "_law_new" (.cons (.loc "tree") (.cons (.loc "held") (.cons (.loc "gone") (.cons (.bin .sub (.bin .mul (.int 3) (.bin .mod (.bin .mul (.loc "step") (.loc "stride")) (.int 16))) (.int 20)) (.cons (.loc "step") (.cons (.loc "in_order") .nil))))))))
    (.cons (.ret (.bool false))
    .nil)
    .nil)
    (.cons (.expr (.meth (.loc "many") "add" (.cons (.bin .mul (.neg (.int 5)) (.bin .mod (.bin .mul (.loc "step") (.loc "stride")) (.int 16))) .nil)))
    (.cons (.expr (.meth (.loc "names") "append" (.cons (.bin .mul (.neg (.int 5)) (.bin .mod (.bin .mul (.loc "step") (.loc "stride")) (.int 16))) .nil)))
    .nil))))
    (.cons (.ite (.not (.call "_law_stands" (.cons (.loc "tree") (.cons (.loc "held") (.cons (.loc "t") (.cons (.neg (.int 20)) .nil))))))
    (.cons (.ret (.bool false))
    .nil)
    .nil)
    (.cons (.forR "place" (.cons (.int 3) (.cons (.bcall .min (.cons (.bcall .max (.cons (.bcall .len (.cons (.loc "script") .nil)) (.cons (.int 13) .nil))) (.cons (.bin .sub (.int 14) (.bin .fdiv (.loc "fill") (.int 2))) .nil))) .nil))
    (.cons (.assign "number" (.call "_law_draw" (.cons (.loc "script") (.cons (.loc "place") .nil))))
    (.cons (.ite (.not (.call "_law_deed" (.cons (.loc "tree") (.cons (.loc "held") (.cons (.loc "gone") (.cons (.loc "number") (.cons (.bin .add (.int 100) (.loc "place")) (.cons (.loc "in_order") .nil))))))))
    (.cons (.ret (.bool false))
    .nil)
    .nil)
    (.cons (.ite (.not (.call "_law_stands" (.cons (.loc "tree") (.cons (.loc "held") (.cons (.loc "t") (.cons (.bin .sub (.bin .mul (.int 3) (.bin .mod (.bin .fdiv (.loc "number") (.int 10)) (.int 16))) (.int 20)) .nil))))))
    (.cons (.ret (.bool false))
    .nil)
    .nil)
    (.cons (.ite (.not (.call "_law_member" (.cons (.loc "many") (.cons (.loc "names") (.cons (.bin .add (.loc "number") (.loc "place")) (.cons (.loc "t") .nil))))))
    (.cons (.ret (.bool false))
    .nil)
    .nil)
    .nil)))))
    (.cons (.ret (.call "_law_end" (.cons (.loc "tree") (.cons (.loc "held") (.cons (.loc "t") (.cons (.loc "first") .nil))))))
    .nil))))))))))))))
noncomputable def fdAt (K : Frag) (f : Addr) : FuncData := match K.lookup f with
  | some ⟨_, _, .func fd, _⟩ => fd
  | _ => default
noncomputable def bodyAt (K : Frag) (f : Addr) : List Stmt := match (fdAt K f).body with | .stmts b => b | _ => []
noncomputable def fnAt (K : Frag) (f : Addr) : FuncData := fnOf (fdAt K f).name (fdAt K f).qualname (fdAt K f).params (bodyAt K f) (fdAt K f).scope (fdAt K f).defaults (fdAt K f).kwdefaults (fdAt K f).doc (fdAt K f).pyModule (fdAt K f).annotations (fdAt K f).code (fdAt K f).closureTuple
noncomputable def fnOb (K : Frag) (f : Addr) : Obj := ⟨.type "function", none, .func (fnAt K f), #[]⟩
noncomputable def fnC (K : Frag) (f : Addr) (ns : List String) (b : PS) : Bool :=
  ((codeIn K (fdAt K f).code (fdAt K f).qualname && (ns.all fun n => (fdAt K f).scope.names.lookup (Str.ofString n) == some .local)) && (!(fdAt K f).scope.isCoroutine && !(fdAt K f).scope.isGenerator)) &&
    (((fdAt K f).scope.kind == .function && ((fdAt K f).scope.names.all fun x => x.2 != .cell)) && okB (fdAt K f).scope b (bodyAt K f))
inductive FnB (K : Frag) (f : Addr) (ns : List String) (b : PS) : Prop
  | mk (qual : Str) (scope : Scope) (cdv : Value) (l : List Stmt) (I : FnIn K f ns qual scope cdv (toB b l)) (ok : okB scope b l = true)
theorem all_ne {l : List (Str × NameKind)} (h : (l.all fun x => x.2 != .cell) = true) : ∀ x ∈ l, x.2 ≠ .cell := fun x hx => bne_iff_ne.mp (List.all_eq_true.mp h x hx)
theorem fn_of {K : Frag} {f : Addr} {ns : List String} {b : PS} (nd : ns.Nodup) (h : fnC K f ns b = true) (e : toB b (bodyAt K f) = bodyAt K f) (hK : K.lookup f = some (fnOb K f))
    (hb : ∀ (s : Shared) (vs : List Value), vs.length = ns.length → K.In s.heap → BindsTo s (fdAt K f) ⟨vs, []⟩ ((ns.map Str.ofString).zip vs)) : FnB K f ns b := by
  have e2 : fdAt K f = fnAt K f := by conv => lhs; unfold fdAt
                                      rw [hK]; rfl
  have h := and_ h
  have h1 := and_ h.1
  have h2 := and_ h.2
  have h3 := and_ h1.1
  have h4 := and_ h1.2
  have h5 := and_ h2.1
  refine .mk (fdAt K f).qualname (fdAt K f).scope (fdAt K f).code (bodyAt K f) ?_ h2.2
  rw [e]
  exact .mk (.type "function") none _ _ _ _ _ _ _ _ #[] hK (fun s vs hl X => (congrArg (fun fd => BindsTo s fd ⟨vs, []⟩ ((ns.map Str.ofString).zip vs)) e2).mp (hb s vs hl X)) h3.1 nd (fun n hn => eq_of_beq (List.all_eq_true.mp h3.2 n hn)) (not_ h4.1) (not_ h4.2) (eq_of_beq h5.1) (all_ne h5.2)
noncomputable def lst (n : Nat) (v : Nat → Value) : List Value := (List.range n).map v
theorem lst_of (l : List Value) : l = lst l.length (fun i => l.getD i .none) := by
  unfold lst
  refine List.ext_getElem (by rw [List.length_map, List.length_range]) fun i h _ => ?_
  rw [List.getElem_map, List.getElem_range, List.getD_eq_getElem?_getD, List.getElem?_eq_getElem h]; rfl
theorem b_of {K : Frag} {fd : FuncData} {ns : List String} (e : ∀ S v, peek K S (bindArgs fd ⟨lst ns.length v, []⟩) = some ((ns.map Str.ofString).zip (lst ns.length v))) (s : Shared) (l : List Value) (h0 : l.length = ns.length) (X : K.In s.heap) : BindsTo s fd ⟨l, []⟩ ((ns.map Str.ofString).zip l) := by
  rw [lst_of l, h0]
  exact kp_binds X fun S => e S _
theorem call_of {cx : Cx} (T : Tabs cx) {h : Nat} {tn : Bool} {f : Addr} {ns : List String} {b : PS} {args : List AV} {H : AH} {Q : AV → AH → Prop} {X : Value → AH → Prop} (F : FnB cx.K f ns b) (hl : args.length = ns.length) (hx : tn = true → ∀ c H, ¬ X c H)
    (hw : wpS cx h tn b X (bindσ ns args) H (fun af _ H' => Q af.val H')) : CallOK cx (h + 1) tn (.ref f) args H Q X := by
  obtain ⟨qual, scope, cdv, l, I, hb⟩ := F
  refine CallOK.of_body T.ok I hl hx fun fr o e => ?_
  subst e
  exact sB T o b l tn X _ H _ hb hw
section
variable {cx : Cx} {h : Nat} {tn : Bool} {X : Value → AH → Prop} {H : AH} {Q : AV → AH → Prop}
theorem tru_bool (b : Bool) : tru H (.bool b) = some b := rfl
theorem tru_none : tru H .none = some false := rfl
theorem tru_node {a : Addr} {fs : List (String × AV)} (e : H.I a = some (234, fs)) : tru H (.ref a) = some true := by simp [tru, e, trtab]
theorem cmp_is_rr {a : Addr} (k : Q (.bool true) H) : cmpP cx h tn X H Q .is (.ref a) (.ref a) := .is (.rr a) k
theorem cmp_isNot_nn (k : Q (.bool false) H) : cmpP cx h tn X H Q .isNot .none .none := .isNot .nn k
theorem cmp_isNot_rr {a : Addr} (k : Q (.bool false) H) : cmpP cx h tn X H Q .isNot (.ref a) (.ref a) := .isNot (.rr a) k
theorem set_at (σ : Loc) (x y : String) (v : AV) : (σ.set x v) y = if y = x then some v else σ y := rfl
theorem val_ret (v : AV) : (AF.ret v).val = v := rfl
theorem val_next : AF.next.val = .none := rfl
theorem bind_nil (args : List AV) (x : String) : bindσ [] args x = none := by simp [bindσ]
theorem bind_cons (n : String) (ns : List String) (a : AV) (args : List AV) (x : String) : bindσ (n :: ns) (a :: args) x = if x = n then some a else bindσ ns args x := by
  unfold bindσ
  rw [List.zip_cons_cons, List.lookup_cons]
  by_cases e : x = n
  · subst e; simp
  · have : (x == n) = false := by simpa using e
    rw [this, if_neg e]
theorem attrP_I {x : String} {i C : Addr} {fs : List (String × AV)} {v : AV} (h1 : H.I i = some (C, fs)) (h2 : fs.lookup x = some v) (h3 : Q v H) : attrP x (.ref i) H Q := .fld i C fs v rfl h1 h2 h3
theorem len_L {l : Addr} {xs : List AV} (h1 : H.L l = some xs) (h2 : Q (.int xs.length) H) : bcP cx h tn X .len [.ref l] H Q := .lenL l xs rfl rfl h1 h2
theorem item_L {il : Bool} {l : Addr} {j : Int} {xs : List AV} {v : AV} (h1 : H.L l = some xs) (h2 : seqAt xs j = some v) (h3 : Q v H) : itemP cx il (.ref l) (.int j) H Q := .l l j xs v rfl rfl h1 h2 h3
theorem item_T {il : Bool} {l : Addr} {j : Int} {xs : List AV} {v : AV} (h1 : H.T l = some xs) (h2 : seqAt xs j = some v) (hb : j < 1000) (h3 : Q v H) : itemP cx il (.ref l) (.int j) H Q := .t l j xs v rfl rfl h1 h2 hb h3
theorem item_last {il : Bool} {l : Addr} {xs : List AV} {v : AV} (h1 : H.L l = some xs) (h2 : xs.getLast? = some v) (h3 : Q v H) : itemP cx il (.ref l) (.int (-1)) H Q := .z l xs v rfl rfl h1 h2 h3
theorem item_D {l : Addr} {j : Int} {es : List (Int × AV)} {v : AV} (h1 : H.D l = some es) (h2 : atK es j = some v) (h3 : Q v H) : itemP cx true (.ref l) (.int j) H Q := .d l j es v rfl rfl rfl h1 h2 h3
end
structure NR where
  e : Addr
  k : Addr
  c : Addr
  lf : Bool
  es : List Addr
  ch : List Addr
noncomputable def refs (l : List Addr) : List AV := l.map .ref
noncomputable def ndF (t : Int) (r : NR) : List (String × AV) := [("t", .int t), ("creator", .ref r.c), ("is_leaf", .bool r.lf), ("elts", .ref r.e), ("children", .ref r.k)]
structure Nd (H : AH) (t : Int) (a : Addr) (r : NR) : Prop where
  I : H.I a = some (234, ndF t r)
  E : H.L r.e = some (refs r.es)
  K : H.L r.k = some (refs r.ch)
abbrev NM := Addr → Option NR
noncomputable def Own (N : NM) (b : Addr) : Prop := ∃ a r, N a = some r ∧ (b = r.e ∨ b = r.k)
structure Rep (t : Int) (H : AH) (N : NM) : Prop where
  nd : ∀ a r, N a = some r → Nd H t a r
  sep : ∀ a r b s, N a = some r → N b = some s → a ≠ b → r.e ≠ s.e ∧ r.e ≠ s.k ∧ r.k ≠ s.e ∧ r.k ≠ s.k
  own : ∀ a r, N a = some r → r.e ≠ r.k
structure Step (ex : Addr → Prop) (t : Int) (H : AH) (N : NM) (H' : AH) (N' : NM) : Prop where
  rep : Rep t H' N'
  L : ∀ b, ¬ H.free b → ¬ Own N b → ¬ ex b → H'.L b = H.L b
  I : ∀ b, ¬ H.free b → N b = none → ¬ ex b → H'.I b = H.I b
  T : ∀ b, ¬ H.free b → ¬ ex b → H'.T b = H.T b
  D : ∀ b, ¬ H.free b → ¬ ex b → H'.D b = H.D b
  B : ∀ b, ¬ H.free b → ¬ ex b → H'.B b = H.B b
  dom : ∀ b, N b ≠ none → N' b ≠ none
  new : ∀ b, N b = none → N' b ≠ none → H.free b
  own : ∀ b, Own N' b → Own N b ∨ H.free b
  nf : ∀ b, ¬ H.free b → ¬ H'.free b
  inst : ∀ b, H.I b ≠ none → H'.I b ≠ none
noncomputable def no : Addr → Prop := fun _ => False
section
variable {t : Int} {H H' H'' : AH} {N N' N'' : NM} {ex ex' : Addr → Prop}
theorem Step.refl (R : Rep t H N) : Step ex t H N H N :=
  ⟨R, fun _ _ _ _ => rfl, fun _ _ _ _ => rfl, fun _ _ _ => rfl, fun _ _ _ => rfl, fun _ _ _ => rfl, fun _ h => h, fun b h h' => absurd h h', fun b h => .inl h, fun _ h => h, fun _ h => h⟩
theorem Step.trans (a : Step ex t H N H' N') (b : Step ex t H' N' H'' N'') : Step ex t H N H'' N'' := by
  refine ⟨b.rep, ?_, ?_, ?_, ?_, ?_, fun x h => b.dom x (a.dom x h), ?_, ?_, fun x h => b.nf x (a.nf x h), fun x h => b.inst x (a.inst x h)⟩
  · intro x h1 h2 h3
    rw [b.L x (a.nf x h1) (fun h => (a.own x h).elim h2 h1) h3, a.L x h1 h2 h3]
  · intro x h1 h2 h4
    have h3 : N' x = none := by
      cases e : N' x with
      | none => rfl
      | some r => exact absurd (a.new x h2 (by rw [e]; simp)) h1
    rw [b.I x (a.nf x h1) h3 h4, a.I x h1 h2 h4]
  · intro x h1 h2; rw [b.T x (a.nf x h1) h2, a.T x h1 h2]
  · intro x h1 h2; rw [b.D x (a.nf x h1) h2, a.D x h1 h2]
  · intro x h1 h2; rw [b.B x (a.nf x h1) h2, a.B x h1 h2]
  · intro x h1 h2
    by_cases h3 : N' x = none
    · have := b.new x h3 h2
      exact Classical.not_not.mp fun q => a.nf x q this
    · exact a.new x h1 h3
  · intro x h1
    rcases b.own x h1 with h | h
    · exact a.own x h
    · exact .inr (Classical.not_not.mp fun q => a.nf x q h)
theorem Step.weak (a : Step ex t H N H' N') (h : ∀ b, ex b → ex' b) : Step ex' t H N H' N' :=
  ⟨a.rep, fun b h1 h2 h3 => a.L b h1 h2 (fun q => h3 (h b q)), fun b h1 h2 h3 => a.I b h1 h2 (fun q => h3 (h b q)), fun b h1 h3 => a.T b h1 (fun q => h3 (h b q)), fun b h1 h3 => a.D b h1 (fun q => h3 (h b q)), fun b h1 h3 => a.B b h1 (fun q => h3 (h b q)), a.dom, a.new, a.own, a.nf, a.inst⟩
theorem Step.any (a : Step no t H N H' N') : Step ex t H N H' N' := a.weak fun _ h => h.elim
theorem nf_L {b : Addr} {xs : List AV} (h : H.L b = some xs) : ¬ H.free b := fun q => by rw [q.1] at h; cases h
theorem nf_I {b : Addr} {x} (h : H.I b = some x) : ¬ H.free b := fun q => by rw [q.2.1] at h; cases h
theorem nf_T {b : Addr} {x} (h : H.T b = some x) : ¬ H.free b := fun q => by rw [q.2.2.1] at h; cases h
theorem nf_D {b : Addr} {x} (h : H.D b = some x) : ¬ H.free b := fun q => by rw [q.2.2.2.1] at h; cases h
theorem nf_B {b : Addr} {x} (h : H.B b = some x) : ¬ H.free b := fun q => by rw [q.2.2.2.2] at h; cases h
theorem nf_setL {a b : Addr} {xs : List AV} (h : ¬ H.free b) : ¬ (H.setL a xs).free b := fun q => h ⟨by
  have := q.1; simp only [AH.setL, upd] at this; (split at this <;> first | exact this | cases this), q.2.1, q.2.2.1, q.2.2.2.1, q.2.2.2.2⟩
theorem nf_setI {a b C : Addr} {xs} (h : ¬ H.free b) : ¬ (H.setI a C xs).free b := fun q => h ⟨q.1, by
  have := q.2.1; simp only [AH.setI, upd] at this; (split at this <;> first | exact this | cases this), q.2.2.1, q.2.2.2.1, q.2.2.2.2⟩
theorem nf_setT {a b : Addr} {xs} (h : ¬ H.free b) : ¬ (H.setT a xs).free b := fun q => h ⟨q.1, q.2.1, by
  have := q.2.2.1; simp only [AH.setT, upd] at this; (split at this <;> first | exact this | cases this), q.2.2.2.1, q.2.2.2.2⟩
theorem nf_setD {a b : Addr} {xs} (h : ¬ H.free b) : ¬ (H.setD a xs).free b := fun q => h ⟨q.1, q.2.1, q.2.2.1, by
  have := q.2.2.2.1; simp only [AH.setD, upd] at this; (split at this <;> first | exact this | cases this), q.2.2.2.2⟩
theorem nf_setB {a b l : Addr} (h : ¬ H.free b) : ¬ (H.setB a l).free b := fun q => h ⟨q.1, q.2.1, q.2.2.1, q.2.2.2.1, by
  have := q.2.2.2.2; simp only [AH.setB, upd] at this; (split at this <;> first | exact this | cases this)⟩
theorem inst_setI {a b C : Addr} {xs} (h : H.I b ≠ none) : (H.setI a C xs).I b ≠ none := by
  simp only [AH.setI, upd]
  split
  · simp
  · exact h
theorem own_nf (R : Rep t H N) {b : Addr} (h : Own N b) : ¬ H.free b := by
  obtain ⟨a, r, h1, rfl | rfl⟩ := h
  · exact nf_L (R.nd a r h1).E
  · exact nf_L (R.nd a r h1).K
theorem free_none (R : Rep t H N) {b : Addr} (h : H.free b) : N b = none := by
  cases e : N b with
  | none => rfl
  | some r => exact absurd h (nf_I (R.nd b r e).I)
theorem upd_at {α : Type} {f : Addr → Option α} {a : Addr} {v : α} : upd f a v a = some v := by simp [upd]
theorem upd_off {α : Type} {f : Addr → Option α} {a b : Addr} {v : α} (h : b ≠ a) : upd f a v b = f b := by simp [upd, h]
theorem Step.setT {a : Addr} {xs : List AV} (R : Rep t H N) (hf : H.free a) : Step ex t H N (H.setT a xs) N := by
  refine ⟨⟨fun b r h => ⟨(R.nd b r h).I, (R.nd b r h).E, (R.nd b r h).K⟩, R.sep, R.own⟩, fun _ _ _ _ => rfl, fun _ _ _ _ => rfl, fun b h _ => ?_, fun _ _ _ => rfl, fun _ _ _ => rfl, fun _ h => h, fun b h h' => absurd h h', fun b h => .inl h, fun b h => nf_setT h, fun _ h => h⟩
  exact upd_off fun e => h (e ▸ hf)
theorem Step.setB {a l : Addr} (R : Rep t H N) (hf : H.free a) : Step ex t H N (H.setB a l) N := by
  refine ⟨⟨fun b r h => ⟨(R.nd b r h).I, (R.nd b r h).E, (R.nd b r h).K⟩, R.sep, R.own⟩, fun _ _ _ _ => rfl, fun _ _ _ _ => rfl, fun _ _ _ => rfl, fun _ _ _ => rfl, fun b h _ => ?_, fun _ h => h, fun b h h' => absurd h h', fun b h => .inl h, fun b h => nf_setB h, fun _ h => h⟩
  exact upd_off fun e => h (e ▸ hf)
theorem Step.setD {a : Addr} {xs} (R : Rep t H N) (hf : H.free a ∨ ex a) : Step ex t H N (H.setD a xs) N := by
  refine ⟨⟨fun b r h => ⟨(R.nd b r h).I, (R.nd b r h).E, (R.nd b r h).K⟩, R.sep, R.own⟩, fun _ _ _ _ => rfl, fun _ _ _ _ => rfl, fun _ _ _ => rfl, fun b h h' => ?_, fun _ _ _ => rfl, fun _ h => h, fun b h h' => absurd h h', fun b h => .inl h, fun b h => nf_setD h, fun _ h => h⟩
  exact upd_off fun e => by subst e; exact hf.elim h h'
theorem Step.setL {a : Addr} {xs : List AV} (R : Rep t H N) (hf : H.free a ∨ (ex a ∧ ¬ Own N a)) : Step ex t H N (H.setL a xs) N := by
  have hno : ¬ Own N a := fun h => hf.elim (own_nf R h) fun q => q.2 h
  refine ⟨⟨fun b r h => ⟨(R.nd b r h).I, ?_, ?_⟩, R.sep, R.own⟩, fun b h h1 h' => ?_, fun _ _ _ _ => rfl, fun _ _ _ => rfl, fun _ _ _ => rfl, fun _ _ _ => rfl, fun _ h => h, fun b h h' => absurd h h', fun b h => .inl h, fun b h => nf_setL h, fun _ h => h⟩
  · exact (upd_off fun e => hno ⟨b, r, h, .inl e.symm⟩).trans (R.nd b r h).E
  · exact (upd_off fun e => hno ⟨b, r, h, .inr e.symm⟩).trans (R.nd b r h).K
  · exact upd_off fun e => by subst e; exact hf.elim h fun q => h' q.1
theorem Step.setI {a C : Addr} {fs} (R : Rep t H N) (hn : N a = none) (hf : H.free a ∨ ex a) : Step ex t H N (H.setI a C fs) N := by
  refine ⟨⟨fun b r h => ⟨?_, (R.nd b r h).E, (R.nd b r h).K⟩, R.sep, R.own⟩, fun _ _ _ _ => rfl, fun b h h1 h' => ?_, fun _ _ _ => rfl, fun _ _ _ => rfl, fun _ _ _ => rfl, fun _ h => h, fun b h h' => absurd h h', fun b h => .inl h, fun b h => nf_setI h, fun b h => inst_setI h⟩
  · exact (upd_off fun e => by subst e; rw [hn] at h; cases h).trans (R.nd b r h).I
  · exact upd_off fun e => by subst e; exact hf.elim h h'
theorem Step.setE {a : Addr} {r : NR} {xs : List Addr} (R : Rep t H N) (h : N a = some r) : Step ex t H N (H.setL r.e (refs xs)) (upd N a { r with es := xs }) := by
  have hd := R.nd a r h
  have ho : ∀ b s, N b = some s → b ≠ a → s.e ≠ r.e ∧ s.k ≠ r.e := fun b s hb hne => by
    have := R.sep b s a r hb h hne
    exact ⟨this.1, this.2.2.1⟩
  refine ⟨⟨fun b s hb => ?_, fun b s b' s' hb hb' hne => ?_, fun b s hb => ?_⟩, fun b h1 h2 _ => ?_, fun _ _ _ _ => rfl, fun _ _ _ => rfl, fun _ _ _ => rfl, fun _ _ _ => rfl, fun b hb => ?_, fun b h1 h2 => ?_, fun b hb => ?_, fun b h => nf_setL h, fun _ h => h⟩
  · by_cases e : b = a
    · subst e
      rw [upd_at] at hb; cases hb
      exact ⟨hd.I, upd_at, (upd_off (R.own b r h).symm).trans hd.K⟩
    · rw [upd_off e] at hb
      have q := R.nd b s hb
      exact ⟨q.I, (upd_off (ho b s hb e).1).trans q.E, (upd_off (ho b s hb e).2).trans q.K⟩
  · by_cases e : b = a
    · subst e
      rw [upd_at] at hb; cases hb
      rw [upd_off (Ne.symm hne)] at hb'
      exact R.sep b r b' s' h hb' hne
    · rw [upd_off e] at hb
      by_cases e' : b' = a
      · subst e'
        rw [upd_at] at hb'; cases hb'
        exact R.sep b s b' r hb h hne
      · rw [upd_off e'] at hb'
        exact R.sep b s b' s' hb hb' hne
  · by_cases e : b = a
    · subst e
      rw [upd_at] at hb; cases hb
      exact R.own b r h
    · rw [upd_off e] at hb; exact R.own b s hb
  · exact upd_off fun e => h2 ⟨a, r, h, .inl e⟩
  · by_cases e : b = a
    · subst e; rw [upd_at]; simp
    · rw [upd_off e]; exact hb
  · by_cases e : b = a
    · subst e; rw [h] at h1; cases h1
    · rw [upd_off e] at h2; exact absurd h1 h2
  · obtain ⟨x, s, hx, hs⟩ := hb
    by_cases e : x = a
    · subst e; rw [upd_at] at hx; cases hx
      exact .inl ⟨x, r, h, hs⟩
    · rw [upd_off e] at hx; exact .inl ⟨x, s, hx, hs⟩
theorem Step.setK {a : Addr} {r : NR} {xs : List Addr} (R : Rep t H N) (h : N a = some r) : Step ex t H N (H.setL r.k (refs xs)) (upd N a { r with ch := xs }) := by
  have hd := R.nd a r h
  have ho : ∀ b s, N b = some s → b ≠ a → s.e ≠ r.k ∧ s.k ≠ r.k := fun b s hb hne => by
    have := R.sep b s a r hb h hne
    exact ⟨this.2.1, this.2.2.2⟩
  refine ⟨⟨fun b s hb => ?_, fun b s b' s' hb hb' hne => ?_, fun b s hb => ?_⟩, fun b h1 h2 _ => ?_, fun _ _ _ _ => rfl, fun _ _ _ => rfl, fun _ _ _ => rfl, fun _ _ _ => rfl, fun b hb => ?_, fun b h1 h2 => ?_, fun b hb => ?_, fun b h => nf_setL h, fun _ h => h⟩
  · by_cases e : b = a
    · subst e
      rw [upd_at] at hb; cases hb
      exact ⟨hd.I, (upd_off (R.own b r h)).trans hd.E, upd_at⟩
    · rw [upd_off e] at hb
      have q := R.nd b s hb
      exact ⟨q.I, (upd_off (ho b s hb e).1).trans q.E, (upd_off (ho b s hb e).2).trans q.K⟩
  · by_cases e : b = a
    · subst e
      rw [upd_at] at hb; cases hb
      rw [upd_off (Ne.symm hne)] at hb'
      exact R.sep b r b' s' h hb' hne
    · rw [upd_off e] at hb
      by_cases e' : b' = a
      · subst e'
        rw [upd_at] at hb'; cases hb'
        exact R.sep b s b' r hb h hne
      · rw [upd_off e'] at hb'
        exact R.sep b s b' s' hb hb' hne
  · by_cases e : b = a
    · subst e
      rw [upd_at] at hb; cases hb
      exact R.own b r h
    · rw [upd_off e] at hb; exact R.own b s hb
  · exact upd_off fun e => h2 ⟨a, r, h, .inr e⟩
  · by_cases e : b = a
    · subst e; rw [upd_at]; simp
    · rw [upd_off e]; exact hb
  · by_cases e : b = a
    · subst e; rw [h] at h1; cases h1
    · rw [upd_off e] at h2; exact absurd h1 h2
  · obtain ⟨x, s, hx, hs⟩ := hb
    by_cases e : x = a
    · subst e; rw [upd_at] at hx; cases hx
      exact .inl ⟨x, r, h, hs⟩
    · rw [upd_off e] at hx; exact .inl ⟨x, s, hx, hs⟩
theorem Step.put {a : Addr} {r' : NR} (R : Rep t H N) {H' : AH}
    (hI : H'.I a = some (234, ndF t r')) (hE : H'.L r'.e = some (refs r'.es)) (hK : H'.L r'.k = some (refs r'.ch)) (hek : r'.e ≠ r'.k)
    (ha : H.free a ∨ N a ≠ none)
    (he : H.free r'.e ∨ ∃ r, N a = some r ∧ r.e = r'.e) (hk : H.free r'.k ∨ ∃ r, N a = some r ∧ r.k = r'.k)
    (fL : ∀ b, b ≠ r'.e → b ≠ r'.k → ¬ H.free b → H'.L b = H.L b) (fI : ∀ b, b ≠ a → ¬ H.free b → H'.I b = H.I b)
    (fT : ∀ b, ¬ H.free b → H'.T b = H.T b) (fD : ∀ b, ¬ H.free b → H'.D b = H.D b) (fB : ∀ b, ¬ H.free b → H'.B b = H.B b) (nf : ∀ b, ¬ H.free b → ¬ H'.free b) :
    Step ex t H N H' (upd N a r') := by
  have inst : ∀ b, H.I b ≠ none → H'.I b ≠ none := fun b h => by
    by_cases e : b = a
    · subst e; rw [hI]; simp
    · rw [fI b e (fun q => h q.2.1)]; exact h
  have se : ∀ b s, N b = some s → b ≠ a → s.e ≠ r'.e ∧ s.k ≠ r'.e := fun b s hb hne => by
    rcases he with h | ⟨r, h, h'⟩
    · exact ⟨fun e => nf_L (R.nd b s hb).E (e ▸ h), fun e => nf_L (R.nd b s hb).K (e ▸ h)⟩
    · have := R.sep b s a r hb h hne
      rw [← h']; exact ⟨this.1, this.2.2.1⟩
  have sk : ∀ b s, N b = some s → b ≠ a → s.e ≠ r'.k ∧ s.k ≠ r'.k := fun b s hb hne => by
    rcases hk with h | ⟨r, h, h'⟩
    · exact ⟨fun e => nf_L (R.nd b s hb).E (e ▸ h), fun e => nf_L (R.nd b s hb).K (e ▸ h)⟩
    · have := R.sep b s a r hb h hne
      rw [← h']; exact ⟨this.2.1, this.2.2.2⟩
  refine ⟨⟨fun b s hb => ?_, fun b s b' s' hb hb' hne => ?_, fun b s hb => ?_⟩, fun b h1 h2 _ => ?_, fun b h1 h2 _ => ?_, fun b h _ => fT b h, fun b h _ => fD b h, fun b h _ => fB b h, fun b hb => ?_, fun b h1 h2 => ?_, fun b hb => ?_, nf, inst⟩
  · by_cases e : b = a
    · subst e
      rw [upd_at] at hb; cases hb
      exact ⟨hI, hE, hK⟩
    · rw [upd_off e] at hb
      have q := R.nd b s hb
      refine ⟨(fI b e (nf_I q.I)).trans q.I, (fL _ (se b s hb e).1 (sk b s hb e).1 (nf_L q.E)).trans q.E, (fL _ (se b s hb e).2 (sk b s hb e).2 (nf_L q.K)).trans q.K⟩
  · by_cases e : b = a
    · subst e
      rw [upd_at] at hb; cases hb
      rw [upd_off (Ne.symm hne)] at hb'
      have h1 := se b' s' hb' (Ne.symm hne)
      have h2 := sk b' s' hb' (Ne.symm hne)
      exact ⟨h1.1.symm, h1.2.symm, h2.1.symm, h2.2.symm⟩
    · rw [upd_off e] at hb
      by_cases e' : b' = a
      · subst e'
        rw [upd_at] at hb'; cases hb'
        have h1 := se b s hb e
        have h2 := sk b s hb e
        exact ⟨h1.1, h2.1, h1.2, h2.2⟩
      · rw [upd_off e'] at hb'
        exact R.sep b s b' s' hb hb' hne
  · by_cases e : b = a
    · subst e
      rw [upd_at] at hb; cases hb
      exact hek
    · rw [upd_off e] at hb; exact R.own b s hb
  · refine fL b (fun e => ?_) (fun e => ?_) h1
    · subst e
      rcases he with h | ⟨r, h, h'⟩
      · exact h1 h
      · exact h2 ⟨a, r, h, .inl h'.symm⟩
    · subst e
      rcases hk with h | ⟨r, h, h'⟩
      · exact h1 h
      · exact h2 ⟨a, r, h, .inr h'.symm⟩
  · refine fI b (fun e => ?_) h1
    subst e
    exact ha.elim h1 fun q => q h2
  · by_cases e : b = a
    · subst e; rw [upd_at]; simp
    · rw [upd_off e]; exact hb
  · by_cases e : b = a
    · subst e; exact ha.resolve_right fun q => q h1
    · rw [upd_off e] at h2; exact absurd h1 h2
  · obtain ⟨x, s, hx, hs⟩ := hb
    by_cases e : x = a
    · subst e; rw [upd_at] at hx; cases hx
      rcases hs with rfl | rfl
      · rcases he with h | ⟨r, h, h'⟩
        · exact .inr h
        · exact .inl ⟨x, r, h, .inl h'.symm⟩
      · rcases hk with h | ⟨r, h, h'⟩
        · exact .inr h
        · exact .inl ⟨x, r, h, .inr h'.symm⟩
    · rw [upd_off e] at hx; exact .inl ⟨x, s, hx, hs⟩
end
structure TM (H H' : AH) : Prop where
  L : H'.L = H.L
  I : H'.I = H.I
  D : H'.D = H.D
  B : H'.B = H.B
  T : ∀ b, ¬ H.free b → H'.T b = H.T b
  nf : ∀ b, ¬ H.free b → ¬ H'.free b
section
variable {t : Int} {H H' H'' : AH} {N N' N'' : NM} {ex ex' : Addr → Prop}
theorem TM.refl : TM H H := ⟨rfl, rfl, rfl, rfl, fun _ _ => rfl, fun _ h => h⟩
theorem TM.trans (a : TM H H') (b : TM H' H'') : TM H H'' := ⟨b.L.trans a.L, b.I.trans a.I, b.D.trans a.D, b.B.trans a.B, fun x h => (b.T x (a.nf x h)).trans (a.T x h), fun x h => b.nf x (a.nf x h)⟩
theorem TM.setT {a : Addr} {xs : List AV} (hf : H.free a) : TM H (H.setT a xs) := ⟨rfl, rfl, rfl, rfl, fun b h => upd_off fun e => h (e ▸ hf), fun b h => nf_setT h⟩
theorem TM.step (a : TM H H') (R : Rep t H N) : Step ex t H N H' N :=
  ⟨⟨fun b r h => ⟨by rw [a.I]; exact (R.nd b r h).I, by rw [a.L]; exact (R.nd b r h).E, by rw [a.L]; exact (R.nd b r h).K⟩, R.sep, R.own⟩, fun _ _ _ _ => by rw [a.L], fun _ _ _ _ => by rw [a.I], fun b h _ => a.T b h, fun _ _ _ => by rw [a.D], fun _ _ _ => by rw [a.B], fun _ h => h, fun b h h' => absurd h h', fun b h => .inl h, a.nf, fun b h => by rw [a.I]; exact h⟩
theorem Nd.tm {a : Addr} {r : NR} (n : Nd H t a r) (m : TM H H') : Nd H' t a r := ⟨by rw [m.I]; exact n.I, by rw [m.L]; exact n.E, by rw [m.L]; exact n.K⟩
end
section
variable {t : Int}
theorem ndF_t (r : NR) : (ndF t r).lookup "t" = some (.int t) := rfl
theorem ndF_c (r : NR) : (ndF t r).lookup "creator" = some (.ref r.c) := rfl
theorem ndF_lf (r : NR) : (ndF t r).lookup "is_leaf" = some (.bool r.lf) := rfl
theorem ndF_e (r : NR) : (ndF t r).lookup "elts" = some (.ref r.e) := rfl
theorem ndF_k (r : NR) : (ndF t r).lookup "children" = some (.ref r.k) := rfl
theorem ndF_no {m : String} (r : NR) (h1 : m ≠ "t") (h2 : m ≠ "creator") (h3 : m ≠ "is_leaf") (h4 : m ≠ "elts") (h5 : m ≠ "children") : (ndF t r).lookup m = none := by
  have e1 : (m == "t") = false := by simpa using h1
  have e2 : (m == "creator") = false := by simpa using h2
  have e3 : (m == "is_leaf") = false := by simpa using h3
  have e4 : (m == "elts") = false := by simpa using h4
  have e5 : (m == "children") = false := by simpa using h5
  simp [ndF, List.lookup, e1, e2, e3, e4, e5]
theorem refs_length (l : List Addr) : (refs l).length = l.length := by simp [refs]
theorem refs_get (l : List Addr) (i : Nat) : (refs l)[i]? = l[i]?.map .ref := by simp [refs]
theorem seqAt_refs {l : List Addr} {i : Int} {x : Addr} (h0 : 0 ≤ i) (h : l[i.toNat]? = some x) : seqAt (refs l) i = some (.ref x) := by simp [seqAt, h0, refs_get, h]
theorem putE_nd (r : NR) (l : Addr) : putF "elts" (.ref l) (ndF t r) = ndF t { r with e := l } := rfl
theorem putK_nd (r : NR) (l : Addr) : putF "children" (.ref l) (ndF t r) = ndF t { r with k := l } := rfl
end
noncomputable def PS.tl (p : PS) : PS := by
  cases p with
  | cons _ b => exact b
  | _ => exact .nil
theorem tl_cons (a b : PS) : (PS.cons a b).tl = b := rfl
abbrev retP (Q : AV → AH → Prop) : AF → Loc → AH → Prop := fun af _ H' => Q af.val H'
noncomputable def turnQ (Q : AF → Loc → AH → Prop) (rst : AH → AH) (nxt : Loc → AH → Prop) : AF → Loc → AH → Prop := turnP Q rst nxt
theorem l_hit {σ : Loc} {x : String} {v : AV} : (σ.set x v) x = some v := if_pos rfl
theorem l_miss {σ : Loc} {x y : String} {v w : AV} (h : y ≠ x) (e : σ y = some w) : (σ.set x v) y = some w := (if_neg h).trans e
theorem l_bhit {x : String} {ns : List String} {v : AV} {vs : List AV} : bindσ (x :: ns) (v :: vs) x = some v := (bind_cons x ns v vs x).trans (if_pos rfl)
theorem l_bmiss {x y : String} {ns : List String} {v w : AV} {vs : List AV} (h : y ≠ x) (e : bindσ ns vs y = some w) : bindσ (x :: ns) (v :: vs) y = some w := (bind_cons x ns v vs y).trans ((if_neg h).trans e)
theorem le_ {a b m : Nat} (h : b ≤ m) (e : Nat.ble a b = true) : a ≤ m := Nat.le_trans (Nat.le_of_ble_eq_true e) h
noncomputable def kSeq (cx : Cx) (h : Nat) (tn : Bool) (X : FX) (b : PS) (Q : AF → Loc → AH → Prop) : AF → Loc → AH → Prop := thenP Q fun σ H => wpS cx h tn b X σ H Q
noncomputable def kExpr (Q : AF → Loc → AH → Prop) (σ : Loc) : AV → AH → Prop := fun _ H => Q .next σ H
noncomputable def kAsg (x : String) (Q : AF → Loc → AH → Prop) (σ : Loc) : AV → AH → Prop := fun a H => Q .next (σ.set x a) H
noncomputable def kSA2 (x : String) (Q : AF → Loc → AH → Prop) (σ : Loc) (v : AV) : AV → AH → Prop := fun a H => ∃ i C fs, a = .ref i ∧ H.I i = some (C, fs) ∧ fs.length < 100 ∧ x ∈ fields C ∧ Q .next σ (H.setI i C (putF x v fs))
noncomputable def kSA1 (cx : Cx) (h : Nat) (tn : Bool) (X : FX) (p : PE) (x : String) (Q : AF → Loc → AH → Prop) (σ : Loc) : AV → AH → Prop := fun v H => wpE cx h tn X p σ H (kSA2 x Q σ v)
noncomputable def kSI3 (Q : AF → Loc → AH → Prop) (σ : Loc) (v a : AV) : AV → AH → Prop := fun j H => setItemP a j v H fun H => Q .next σ H
noncomputable def kSI2 (cx : Cx) (h : Nat) (tn : Bool) (X : FX) (i : PE) (Q : AF → Loc → AH → Prop) (σ : Loc) (v : AV) : AV → AH → Prop := fun a H => wpE cx h tn X i σ H (kSI3 Q σ v a)
noncomputable def kSI1 (cx : Cx) (h : Nat) (tn : Bool) (X : FX) (p i : PE) (Q : AF → Loc → AH → Prop) (σ : Loc) : AV → AH → Prop := fun v H => wpE cx h tn X p σ H (kSI2 cx h tn X i Q σ v)
noncomputable def kAsT (x y : String) (Q : AF → Loc → AH → Prop) (σ : Loc) : AV → AH → Prop := fun a H => ∃ t v w, a = .ref t ∧ H.T t = some [v, w] ∧ Q .next ((σ.set x v).set y w) H
noncomputable def kAA2 (x : String) (op : BOp) (Q : AF → Loc → AH → Prop) (σ : Loc) (i C : Addr) (old : Int) : AV → AH → Prop := fun b H => ∃ d fs, b = .int d ∧ H.I i = some (C, fs) ∧ fs.length < 100 ∧ x ∈ fields C ∧ Q .next σ (H.setI i C (putF x (.int (augv op old d)) fs))
noncomputable def kAA1 (cx : Cx) (h : Nat) (tn : Bool) (X : FX) (x : String) (op : BOp) (q : PE) (Q : AF → Loc → AH → Prop) (σ : Loc) : AV → AH → Prop := fun a H => ∃ i C fs old, a = .ref i ∧ H.I i = some (C, fs) ∧ fs.lookup x = some (.int old) ∧ wpE cx h tn X q σ H (kAA2 x op Q σ i C old)
noncomputable def kAN (x : String) (op : BOp) (Q : AF → Loc → AH → Prop) (σ : Loc) (old : Int) : AV → AH → Prop := fun b H => ∃ d, b = .int d ∧ Q .next (σ.set x (.int (augv op old d))) H
noncomputable def locP (σ : Loc) (x : String) (Q : AV → AH → Prop) (H : AH) : Prop := ∃ v, σ x = some v ∧ Q v H
noncomputable def kRet (Q : AF → Loc → AH → Prop) (σ : Loc) : AV → AH → Prop := fun a H => Q (.ret a) σ H
noncomputable def kIte (cx : Cx) (h : Nat) (tn : Bool) (X : FX) (a b : PS) (Q : AF → Loc → AH → Prop) (σ : Loc) : Bool → AH → Prop := fun v H => if v then wpS cx h tn a X σ H Q else wpS cx h tn b X σ H Q
noncomputable def kAst (Q : AF → Loc → AH → Prop) (σ : Loc) : Bool → AH → Prop := fun b H => b = true ∧ Q .next σ H
noncomputable def kLess (Inv : Nat → Loc → AH → Prop) (n : Nat) : Loc → AH → Prop := fun σ H => ∃ m, m < n ∧ Inv m σ H
noncomputable def kWh (cx : Cx) (h : Nat) (tn : Bool) (b : PS) (Q : AF → Loc → AH → Prop) (Inv : Nat → Loc → AH → Prop) (n : Nat) (σ : Loc) : Bool → AH → Prop := fun v H => if v then wpS cx h tn b noX σ H (turnP Q id (kLess Inv n)) else Q .next σ H
noncomputable def kNotB (Q : AV → AH → Prop) : Bool → AH → Prop := fun b H => Q (.bool (!b)) H
noncomputable def kTru (Q : Bool → AH → Prop) : AV → AH → Prop := fun a H => ∃ b, tru H a = some b ∧ Q b H
noncomputable def kBin2 (op : BOp) (Q : AV → AH → Prop) (a : AV) : AV → AH → Prop := fun b H => BinP (fun c => Q c H) op a b
noncomputable def kBin1 (cx : Cx) (h : Nat) (tn : Bool) (X : FX) (op : BOp) (q : PE) (Q : AV → AH → Prop) (σ : Loc) : AV → AH → Prop := fun a H => wpE cx h tn X q σ H (kBin2 op Q a)
noncomputable def kCmp2 (cx : Cx) (h : Nat) (tn : Bool) (X : FX) (c : CK) (Q : AV → AH → Prop) (a : AV) : AV → AH → Prop := fun b H => cmpP cx h tn X H Q c a b
noncomputable def kCmp1 (cx : Cx) (h : Nat) (tn : Bool) (X : FX) (c : CK) (q : PE) (Q : AV → AH → Prop) (σ : Loc) : AV → AH → Prop := fun a H => wpE cx h tn X q σ H (kCmp2 cx h tn X c Q a)
noncomputable def kAttr (x : String) (Q : AV → AH → Prop) : AV → AH → Prop := fun a H => attrP x a H Q
noncomputable def kItem2 (cx : Cx) (il : Bool) (Q : AV → AH → Prop) (a : AV) : AV → AH → Prop := fun b H => itemP cx il a b H Q
noncomputable def kItem1 (cx : Cx) (h : Nat) (tn : Bool) (X : FX) (il : Bool) (q : PE) (Q : AV → AH → Prop) (σ : Loc) : AV → AH → Prop := fun a H => wpE cx h tn X q σ H (kItem2 cx il Q a)
noncomputable def kFrom2 (Q : AV → AH → Prop) (a : AV) : AV → AH → Prop := fun b H => ∃ l xs k, a = .ref l ∧ b = .int k ∧ H.L l = some xs ∧ xs.length ≤ 1000 ∧ 0 ≤ k ∧ ∀ n, H.free n → Q (.ref n) (H.setL n (xs.drop k.toNat))
noncomputable def kFrom1 (cx : Cx) (h : Nat) (tn : Bool) (X : FX) (q : PE) (Q : AV → AH → Prop) (σ : Loc) : AV → AH → Prop := fun a H => wpE cx h tn X q σ H (kFrom2 Q a)
noncomputable def kTo2 (Q : AV → AH → Prop) (a : AV) : AV → AH → Prop := fun b H => ∃ l xs k, a = .ref l ∧ b = .int k ∧ H.L l = some xs ∧ xs.length ≤ 1000 ∧ 0 ≤ k ∧ ∀ n, H.free n → Q (.ref n) (H.setL n (xs.take k.toNat))
noncomputable def kTo1 (cx : Cx) (h : Nat) (tn : Bool) (X : FX) (q : PE) (Q : AV → AH → Prop) (σ : Loc) : AV → AH → Prop := fun a H => wpE cx h tn X q σ H (kTo2 Q a)
noncomputable def kTup (Q : AV → AH → Prop) : List AV → AH → Prop := fun vs H => vs.length ≤ 1000 ∧ ∀ n, H.free n → Q (.ref n) (H.setT n vs)
noncomputable def kLst (Q : AV → AH → Prop) : List AV → AH → Prop := fun vs H => vs.length ≤ 1000 ∧ ∀ n, H.free n → Q (.ref n) (H.setL n vs)
noncomputable def kBc (cx : Cx) (h : Nat) (tn : Bool) (X : FX) (f : BC) (Q : AV → AH → Prop) : List AV → AH → Prop := fun vs H => bcP cx h tn X f vs H Q
noncomputable def kCall (cx : Cx) (h : Nat) (tn : Bool) (X : FX) (a : Addr) (Q : AV → AH → Prop) : List AV → AH → Prop := fun vs H => CallOK cx h tn (.ref a) vs H Q X
noncomputable def kCallV (cx : Cx) (h : Nat) (tn : Bool) (X : FX) (q l : Addr) (Q : AV → AH → Prop) : List AV → AH → Prop := fun vs H => H.B q = some l ∧ CallOK cx h tn (.ref q) vs H Q X
noncomputable def kCallK (cx : Cx) (h : Nat) (tn : Bool) (X : FX) (a : Addr) (ks : List String) (Q : AV → AH → Prop) : List AV → AH → Prop := fun vs H => CallKOK cx h tn (.ref a) [] ks vs H Q X
noncomputable def kMeth2 (cx : Cx) (h : Nat) (tn : Bool) (X : FX) (m : String) (t : Tgt) (Q : AV → AH → Prop) : List AV → AH → Prop := fun vs H => tgtP cx h tn X t m vs H Q
noncomputable def kMeth1 (cx : Cx) (h : Nat) (tn : Bool) (X : FX) (m : String) (ps : PEs) (Q : AV → AH → Prop) (σ : Loc) : AV → AH → Prop := fun a H => ∃ t, MethT H a m t ∧ wpEs cx h tn X ps σ H (kMeth2 cx h tn X m t Q)
noncomputable def kStar2 (cx : Cx) (h : Nat) (tn : Bool) (X : FX) (f x : Addr) (Q : AV → AH → Prop) : AV → AH → Prop := fun b H => ∃ t vs, b = .ref t ∧ H.T t = some vs ∧ vs.length ≤ 1000 ∧ CallOK cx h tn (.ref f) (.ref x :: vs) H Q X
noncomputable def kStar1 (cx : Cx) (h : Nat) (tn : Bool) (X : FX) (m : String) (q : PE) (Q : AV → AH → Prop) (σ : Loc) : AV → AH → Prop := fun a H => ∃ f x C fs, a = .ref x ∧ H.I x = some (C, fs) ∧ fs.lookup m = none ∧ bndtab C m = some f ∧ wpE cx h tn X q σ H (kStar2 cx h tn X f x Q)
noncomputable def kAi (cx : Cx) (h : Nat) (tn : Bool) (X : FX) (ps : PEs) (Q : AV → AH → Prop) (σ : Loc) (a : AV) : Bool → AH → Prop := fun b H => if b then wpA cx h tn X ps σ H Q else Q a H
noncomputable def kOi (cx : Cx) (h : Nat) (tn : Bool) (X : FX) (ps : PEs) (Q : AV → AH → Prop) (σ : Loc) (a : AV) : Bool → AH → Prop := fun b H => if b then Q a H else wpO cx h tn X ps σ H Q
noncomputable def kA (cx : Cx) (h : Nat) (tn : Bool) (X : FX) (ps : PEs) (Q : AV → AH → Prop) (σ : Loc) : AV → AH → Prop := fun a H => (ps = .nil ∧ Q a H) ∨ (ps ≠ .nil ∧ kTru (kAi cx h tn X ps Q σ a) a H)
noncomputable def kO (cx : Cx) (h : Nat) (tn : Bool) (X : FX) (ps : PEs) (Q : AV → AH → Prop) (σ : Loc) : AV → AH → Prop := fun a H => (ps = .nil ∧ Q a H) ∨ (ps ≠ .nil ∧ kTru (kOi cx h tn X ps Q σ a) a H)
noncomputable def kCons2 (Q : List AV → AH → Prop) (a : AV) : List AV → AH → Prop := fun vs H => Q (a :: vs) H
noncomputable def kCons1 (cx : Cx) (h : Nat) (tn : Bool) (X : FX) (ps : PEs) (Q : List AV → AH → Prop) (σ : Loc) : AV → AH → Prop := fun a H => wpEs cx h tn X ps σ H (kCons2 Q a)
noncomputable def kCNot (Q : Bool → AH → Prop) : Bool → AH → Prop := fun b H => Q (!b) H
noncomputable def kCA (cx : Cx) (h : Nat) (tn : Bool) (X : FX) (ps : PEs) (Q : Bool → AH → Prop) (σ : Loc) : Bool → AH → Prop := fun b H => if b then wpCA cx h tn X ps σ H Q else Q false H
noncomputable def kCO (cx : Cx) (h : Nat) (tn : Bool) (X : FX) (ps : PEs) (Q : Bool → AH → Prop) (σ : Loc) : Bool → AH → Prop := fun b H => if b then Q true H else wpCO cx h tn X ps σ H Q
noncomputable def kFL (cx : Cx) (h : Nat) (tn : Bool) (x : String) (b : PS) (Q : AF → Loc → AH → Prop) (σ : Loc) : AV → AH → Prop := ForLP (fun rst nxt σ H => wpS cx h tn b noX σ H (turnP Q rst nxt)) (Q .next) x σ
noncomputable def kFE (cx : Cx) (h : Nat) (tn : Bool) (x y : String) (b : PS) (Q : AF → Loc → AH → Prop) (σ : Loc) : AV → AH → Prop := ForEP (fun rst nxt σ H => wpS cx h tn b noX σ H (turnP Q rst nxt)) (Q .next) x y σ
noncomputable def kFZ2 (cx : Cx) (h : Nat) (tn : Bool) (x y : String) (b : PS) (Q : AF → Loc → AH → Prop) (σ : Loc) (a : AV) : AV → AH → Prop := ForZP (fun rst nxt σ H => wpS cx h tn b noX σ H (turnP Q rst nxt)) (Q .next) x y σ a
noncomputable def kFZ1 (cx : Cx) (h : Nat) (tn : Bool) (x y : String) (q : PE) (b : PS) (Q : AF → Loc → AH → Prop) (σ : Loc) : AV → AH → Prop := fun a H => wpE cx h tn noX q σ H (kFZ2 cx h tn x y b Q σ a)
noncomputable def kFR (cx : Cx) (h : Nat) (tn : Bool) (x : String) (b : PS) (Q : AF → Loc → AH → Prop) (σ : Loc) : List AV → AH → Prop := ForRP (fun nxt σ H => wpS cx h tn b noX σ H (turnP Q id nxt)) (Q .next) x σ
section
variable {cx : Cx} {h : Nat} {tn : Bool} {X : FX} {σ : Loc} {H : AH}
section
variable {Q : AF → Loc → AH → Prop} {Qv : AV → AH → Prop} {s b a : PS} {v : AV} {k nxt : Loc → AH → Prop} {rst : AH → AH} {p q i : PE} {ps : PEs} {x y : String} {op : BOp} {Inv : Nat → Loc → AH → Prop} {n : Nat}
theorem w_last (x : wpS cx h tn s X σ H Q) : wpS cx h tn (.cons s .nil) X σ H Q :=
  have e : Q = (thenP Q fun σ' H' => wpS cx h tn .nil X σ' H' Q) := by
    funext f σ' H'
    cases f <;> rfl
  (congrArg (wpS cx h tn s X σ H) e).mp x
theorem w_consC {c : PS} (x : wpS cx h tn s X σ H (kSeq cx h tn X (.cons b c) Q)) : wpS cx h tn (.cons s (.cons b c)) X σ H Q := x
theorem w_cons (x : wpS cx h tn s X σ H (kSeq cx h tn X b Q)) : wpS cx h tn (.cons s b) X σ H Q := x
theorem gS (x : wpS cx h tn b X σ H Q) : wpS cx h tn b X σ H Q := x
theorem gE {Q : AV → AH → Prop} (x : wpE cx h tn X p σ H Q) : wpE cx h tn X p σ H Q := x
theorem gC {Q : Bool → AH → Prop} (x : wpC cx h tn X p σ H Q) : wpC cx h tn X p σ H Q := x
theorem batchT {A G : Prop} : (A → G) → A → G := fun d => d
theorem w_body (x : let K := turnQ Q rst nxt; wpS cx h tn b X σ H K) : wpS cx h tn b X σ H (turnP Q rst nxt) := x
theorem w_nil (x : Q .next σ H) : wpS cx h tn .nil X σ H Q := x
theorem w_then_n (x : wpS cx h tn b X σ H Q) : kSeq cx h tn X b Q .next σ H := x
theorem w_then_r (x : Q (.ret v) σ H) : kSeq cx h tn X b Q (.ret v) σ H := x
theorem w_then_b (x : Q .brk σ H) : kSeq cx h tn X b Q .brk σ H := x
theorem w_then_c (x : Q .cont σ H) : kSeq cx h tn X b Q .cont σ H := x
theorem w_turn_n (x : nxt σ H) : turnQ Q rst nxt .next σ H := x
theorem w_turn_c (x : nxt σ H) : turnQ Q rst nxt .cont σ H := x
theorem w_turn_b (x : Q .next σ (rst H)) : turnQ Q rst nxt .brk σ H := x
theorem w_turn_r (x : Q (.ret v) σ (rst H)) : turnQ Q rst nxt (.ret v) σ H := x
theorem w_ret_r (x : Qv v H) : retP Qv (.ret v) σ H := x
theorem w_ret_n (x : Qv .none H) : retP Qv .next σ H := x
theorem u_expr {a : AV} (x : Q .next σ H) : kExpr Q σ a H := x
theorem u_asg {a : AV} (z : Q .next (σ.set x a) H) : kAsg x Q σ a H := z
theorem u_SA1 (z : wpE cx h tn X p σ H (kSA2 x Q σ v)) : kSA1 cx h tn X p x Q σ v H := z
theorem sa2 {i C : Addr} {fs : List (String × AV)} (hI : H.I i = some (C, fs)) (hl : fs.length < 100) (hx : x ∈ fields C) (k : Q .next σ (H.setI i C (putF x v fs))) : kSA2 x Q σ v (.ref i) H := ⟨i, C, fs, rfl, hI, hl, hx, k⟩
theorem u_SI1 (z : wpE cx h tn X p σ H (kSI2 cx h tn X i Q σ v)) : kSI1 cx h tn X p i Q σ v H := z
theorem u_SI2 {a : AV} (z : wpE cx h tn X i σ H (kSI3 Q σ v a)) : kSI2 cx h tn X i Q σ v a H := z
theorem si_L {l : Addr} {k : Int} {xs : List AV} (h1 : H.L l = some xs) (h2 : 0 ≤ k) (h3 : k < xs.length) (hQ : Q .next σ (H.setL l (xs.set k.toNat v))) : kSI3 Q σ v (.ref l) (.int k) H := .l l xs k rfl rfl h1 h2 h3 hQ
theorem si_D {d : Addr} {k : Int} {es : List (Int × AV)} (h1 : H.D d = some es) (h2 : es.length < 1000) (hQ : Q .next σ (H.setD d (putK es k v))) : kSI3 Q σ v (.ref d) (.int k) H := .d d es k rfl rfl h1 h2 hQ
theorem asT {t : Addr} {v w : AV} (h : H.T t = some [v, w]) (k : Q .next ((σ.set x v).set y w) H) : kAsT x y Q σ (.ref t) H := ⟨t, v, w, rfl, h, k⟩
theorem u_AA1 {a : AV} (z : ∃ i C fs old, a = .ref i ∧ H.I i = some (C, fs) ∧ fs.lookup x = some (.int old) ∧ wpE cx h tn X q σ H (kAA2 x op Q σ i C old)) : kAA1 cx h tn X x op q Q σ a H := z
theorem u_AA2 {b : AV} {i C : Addr} {old : Int} (z : ∃ d fs, b = .int d ∧ H.I i = some (C, fs) ∧ fs.length < 100 ∧ x ∈ fields C ∧ Q .next σ (H.setI i C (putF x (.int (augv op old d)) fs))) : kAA2 x op Q σ i C old b H := z
theorem u_AN {b old : Int} (z : Q .next (σ.set x (.int (augv op old b))) H) : kAN x op Q σ old (.int b) H := ⟨b, rfl, z⟩
theorem u_ret (z : Q (.ret v) σ H) : kRet Q σ v H := z
theorem u_ite_t (z : wpS cx h tn a X σ H Q) : kIte cx h tn X a b Q σ true H := z
theorem u_ite_f (z : wpS cx h tn b X σ H Q) : kIte cx h tn X a b Q σ false H := z
theorem g_nt {Q : Bool → AH → Prop} (z : Q false H) : Q (!true) H := z
theorem g_nf {Q : Bool → AH → Prop} (z : Q true H) : Q (!false) H := z
theorem u_ast {b : Bool} (z : b = true ∧ Q .next σ H) : kAst Q σ b H := z
theorem u_less (z : ∃ m, m < n ∧ Inv m σ H) : kLess Inv n σ H := z
theorem u_wh_t (z : wpS cx h tn b noX σ H (turnP Q id (kLess Inv n))) : kWh cx h tn b Q Inv n σ true H := z
theorem u_wh_f (z : Q .next σ H) : kWh cx h tn b Q Inv n σ false H := z
theorem s_expr (z : wpE cx h tn X p σ H (kExpr Q σ)) : wpS cx h tn (.expr p) X σ H Q := z
theorem s_assign (z : wpE cx h tn X p σ H (kAsg x Q σ)) : wpS cx h tn (.assign x p) X σ H Q := z
theorem s_setAttr (z : wpE cx h tn X q σ H (kSA1 cx h tn X p x Q σ)) : wpS cx h tn (.setAttr p x q) X σ H Q := z
theorem s_setItem (z : wpE cx h tn X q σ H (kSI1 cx h tn X p i Q σ)) : wpS cx h tn (.setItem p i q) X σ H Q := z
theorem s_assignT (z : wpE cx h tn X p σ H (kAsT x y Q σ)) : wpS cx h tn (.assignT x y p) X σ H Q := z
theorem s_augAttr (z : wpE cx h tn X p σ H (kAA1 cx h tn X x op q Q σ)) : wpS cx h tn (.augAttr p x op q) X σ H Q := z
theorem s_augName {old : Int} (e : σ x = some (.int old)) (z : wpE cx h tn X q σ H (kAN x op Q σ old)) : wpS cx h tn (.augName x op q) X σ H Q := ⟨old, e, z⟩
theorem s_ret (z : wpE cx h tn X p σ H (kRet Q σ)) : wpS cx h tn (.ret p) X σ H Q := z
theorem s_retN (z : Q (.ret .none) σ H) : wpS cx h tn .retN X σ H Q := z
theorem s_ite (z : wpC cx h tn X p σ H (kIte cx h tn X a b Q σ)) : wpS cx h tn (.ite p a b) X σ H Q := z
theorem s_whil (z : ∃ (Inv : Nat → Loc → AH → Prop) (n : Nat), Inv n σ H ∧ ∀ n σ H, Inv n σ H → wpC cx h tn noX p σ H (kWh cx h tn b Q Inv n σ)) : wpS cx h tn (.whil p b) X σ H Q := z
theorem s_raiseV (z : X (.type "ValueError") H) : wpS cx h tn .raiseV X σ H Q := z
theorem s_raiseC (z : X (.ref 340) H) : wpS cx h tn .raiseC X σ H Q := z
theorem s_assert (z : wpC cx h tn X p σ H (kAst Q σ)) : wpS cx h tn (.assert p) X σ H Q := z
theorem s_pass (z : Q .next σ H) : wpS cx h tn .pass X σ H Q := z
theorem s_brk (z : Q .brk σ H) : wpS cx h tn .brk X σ H Q := z
theorem s_cont (z : Q .cont σ H) : wpS cx h tn .cont X σ H Q := z
theorem u_FL {a : AV} (z : ForLP (fun rst nxt σ H => wpS cx h tn b noX σ H (turnP Q rst nxt)) (Q .next) x σ a H) : kFL cx h tn x b Q σ a H := z
theorem u_FE {a : AV} (z : ForEP (fun rst nxt σ H => wpS cx h tn b noX σ H (turnP Q rst nxt)) (Q .next) x y σ a H) : kFE cx h tn x y b Q σ a H := z
theorem u_FZ1 {a : AV} (z : wpE cx h tn noX q σ H (kFZ2 cx h tn x y b Q σ a)) : kFZ1 cx h tn x y q b Q σ a H := z
theorem u_FZ2 {a c : AV} (z : ForZP (fun rst nxt σ H => wpS cx h tn b noX σ H (turnP Q rst nxt)) (Q .next) x y σ a c H) : kFZ2 cx h tn x y b Q σ a c H := z
theorem u_FR {vs : List AV} (z : ForRP (fun nxt σ H => wpS cx h tn b noX σ H (turnP Q id nxt)) (Q .next) x σ vs H) : kFR cx h tn x b Q σ vs H := z
theorem s_forL (z : tn = false ∧ wpE cx h tn noX p σ H (kFL cx h tn x b Q σ)) : wpS cx h tn (.forL x p b) X σ H Q := z
theorem s_forE (z : tn = false ∧ wpE cx h tn noX p σ H (kFE cx h tn x y b Q σ)) : wpS cx h tn (.forE x y p b) X σ H Q := z
theorem s_forZ (z : tn = false ∧ wpE cx h tn noX p σ H (kFZ1 cx h tn x y q b Q σ)) : wpS cx h tn (.forZ x y p q b) X σ H Q := z
theorem s_forR (z : wpEs cx h tn noX ps σ H (kFR cx h tn x b Q σ)) : wpS cx h tn (.forR x ps b) X σ H Q := z
theorem s_tryV (z : tn = true ∧ wpE cx h false (fun c H' => c = .type "ValueError" ∧ Q (.ret (.bool true)) σ H') p σ H (kExpr Q σ)) : wpS cx h tn (.tryV p) X σ H Q := z
theorem s_tryI (z : tn = true ∧ wpE cx h false (fun c H' => c = .ref 340 ∧ Q .next (σ.set x (.bool true)) H') p σ H (kExpr Q σ)) : wpS cx h tn (.tryI x p) X σ H Q := z
end
section
variable {Q : AV → AH → Prop} {Ql : List AV → AH → Prop} {Qb : Bool → AH → Prop} {p q : PE} {ps : PEs} {x m : String} {v a b : AV} {vs : List AV} {A B : Prop} {bb il : Bool} {h' : Nat}
theorem r_loc (k : locP σ x Q H) : wpE cx h tn X (.loc x) σ H Q := k
theorem loc_ (e : σ x = some v) (k : Q v H) : locP σ x Q H := ⟨v, e, k⟩
theorem r_none (k : Q .none H) : wpE cx h tn X .none σ H Q := k
theorem r_bool {b : Bool} (k : Q (.bool b) H) : wpE cx h tn X (.bool b) σ H Q := k
theorem r_int {i : Int} (k : Q (.int i) H) : wpE cx h tn X (.int i) σ H Q := k
theorem r_glob {a : Addr} (e : gtab x = some a) (k : Q (.ref a) H) : wpE cx h tn X (.glob x) σ H Q := ⟨a, e, k⟩
theorem r_negI {i : Int} (k : Q (.int (-i)) H) : wpE cx h tn X (.neg (.int i)) σ H Q := ⟨i, rfl, k⟩
theorem r_not (k : wpE cx h tn X p σ H (kTru (kNotB Q))) : wpE cx h tn X (.not p) σ H Q := k
theorem u_notB {b : Bool} (k : Q (.bool (!b)) H) : kNotB Q b H := k
theorem u_tru {b : Bool} (k : Qb b H) : kTru Qb (.bool b) H := ⟨b, rfl, k⟩
theorem u_truN (k : Qb false H) : kTru Qb .none H := ⟨false, rfl, k⟩
theorem t_node {a : Addr} {fs : List (String × AV)} (e : H.I a = some (234, fs)) (k : Qb true H) : kTru Qb (.ref a) H := ⟨true, tru_node e, k⟩
theorem r_bin {op : BOp} (k : wpE cx h tn X p σ H (kBin1 cx h tn X op q Q σ)) : wpE cx h tn X (.bin op p q) σ H Q := k
theorem u_bin1 {op : BOp} (k : wpE cx h tn X q σ H (kBin2 op Q a)) : kBin1 cx h tn X op q Q σ a H := k
theorem r_add {a b : Int} (k : Q (.int (a + b)) H) : kBin2 .add Q (.int a) (.int b) H := .add k
theorem r_sub {a b : Int} (k : Q (.int (a - b)) H) : kBin2 .sub Q (.int a) (.int b) H := .sub k
theorem u_bin2 {op : BOp} (k : BinP (fun c => Q c H) op a b) : kBin2 op Q a b H := k
theorem r_cmp {c : CK} (k : wpE cx h tn X p σ H (kCmp1 cx h tn X c q Q σ)) : wpE cx h tn X (.cmp c p q) σ H Q := k
theorem u_cmp1 {c : CK} (k : wpE cx h tn X q σ H (kCmp2 cx h tn X c Q a)) : kCmp1 cx h tn X c q Q σ a H := k
theorem u_cmp2 {c : CK} (k : cmpP cx h tn X H Q c a b) : kCmp2 cx h tn X c Q a b H := k
theorem r_and (k : wpA cx h tn X ps σ H Q) : wpE cx h tn X (.and ps) σ H Q := k
theorem r_or (k : wpO cx h tn X ps σ H Q) : wpE cx h tn X (.or ps) σ H Q := k
theorem r_attr (k : wpE cx h tn X p σ H (kAttr x Q)) : wpE cx h tn X (.attr p x) σ H Q := k
theorem u_attr (k : attrP x a H Q) : kAttr x Q a H := k
theorem r_item (k : wpE cx h tn X p σ H (kItem1 cx h tn X p.isLoc q Q σ)) : wpE cx h tn X (.item p q) σ H Q := k
theorem u_item1 (k : wpE cx h tn X q σ H (kItem2 cx il Q a)) : kItem1 cx h tn X il q Q σ a H := k
theorem u_item2 (k : itemP cx il a b H Q) : kItem2 cx il Q a b H := k
theorem r_from (k : wpE cx h tn X p σ H (kFrom1 cx h tn X q Q σ)) : wpE cx h tn X (.sliceFrom p q) σ H Q := k
theorem u_from1 (k : wpE cx h tn X q σ H (kFrom2 Q a)) : kFrom1 cx h tn X q Q σ a H := k
theorem from_L {l : Addr} {xs : List AV} {k : Int} (h1 : H.L l = some xs) (h2 : xs.length ≤ 1000) (h3 : 0 ≤ k) (hQ : ∀ n, H.free n → Q (.ref n) (H.setL n (xs.drop k.toNat))) : kFrom2 Q (.ref l) (.int k) H := ⟨l, xs, k, rfl, rfl, h1, h2, h3, hQ⟩
theorem r_to (k : wpE cx h tn X p σ H (kTo1 cx h tn X q Q σ)) : wpE cx h tn X (.sliceTo p q) σ H Q := k
theorem u_to1 (k : wpE cx h tn X q σ H (kTo2 Q a)) : kTo1 cx h tn X q Q σ a H := k
theorem to_L {l : Addr} {xs : List AV} {k : Int} (h1 : H.L l = some xs) (h2 : xs.length ≤ 1000) (h3 : 0 ≤ k) (hQ : ∀ n, H.free n → Q (.ref n) (H.setL n (xs.take k.toNat))) : kTo2 Q (.ref l) (.int k) H := ⟨l, xs, k, rfl, rfl, h1, h2, h3, hQ⟩
theorem r_tup (k : wpEs cx h tn X ps σ H (kTup Q)) : wpE cx h tn X (.tup ps) σ H Q := k
theorem tup_ (h : vs.length ≤ 1000) (k : ∀ n, H.free n → Q (.ref n) (H.setT n vs)) : kTup Q vs H := ⟨h, k⟩
theorem r_lst (k : wpEs cx h tn X ps σ H (kLst Q)) : wpE cx h tn X (.lst ps) σ H Q := k
theorem lst_ (h : vs.length ≤ 1000) (k : ∀ n, H.free n → Q (.ref n) (H.setL n vs)) : kLst Q vs H := ⟨h, k⟩
theorem r_dic (k : ∀ n, H.free n → Q (.ref n) (H.setD n [])) : wpE cx h tn X .dic σ H Q := k
theorem r_bcall {f : BC} (k : wpEs cx h tn X ps σ H (kBc cx h tn X f Q)) : wpE cx h tn X (.bcall f ps) σ H Q := k
theorem u_bc {f : BC} (k : bcP cx h tn X f vs H Q) : kBc cx h tn X f Q vs H := k
theorem r_call {a : Addr} (e : ctab x = some a) (k : wpEs cx h tn X ps σ H (kCall cx h tn X a Q)) : wpE cx h tn X (.call x ps) σ H Q := ⟨a, e, k⟩
theorem u_call {a : Addr} (k : CallOK cx h tn (.ref a) vs H Q X) : kCall cx h tn X a Q vs H := k
theorem r_callV {q l : Addr} (e : σ x = some (.ref q)) (k : wpEs cx h tn X ps σ H (kCallV cx h tn X q l Q)) : wpE cx h tn X (.callV x ps) σ H Q := ⟨q, l, e, k⟩
theorem u_callV {q l : Addr} (k : H.B q = some l ∧ CallOK cx h tn (.ref q) vs H Q X) : kCallV cx h tn X q l Q vs H := k
theorem r_callK {a : Addr} {ks : List String} (e : ctab x = some a) (k : wpEs cx h tn X ps σ H (kCallK cx h tn X a ks Q)) : wpE cx h tn X (.callK x ks ps) σ H Q := ⟨a, e, k⟩
theorem u_callK {a : Addr} {ks : List String} (k : CallKOK cx h tn (.ref a) [] ks vs H Q X) : kCallK cx h tn X a ks Q vs H := k
theorem r_meth (k : wpE cx h tn X p σ H (kMeth1 cx h tn X m ps Q σ)) : wpE cx h tn X (.meth p m ps) σ H Q := k
theorem u_meth2 {t : Tgt} (k : tgtP cx h tn X t m vs H Q) : kMeth2 cx h tn X m t Q vs H := k
theorem dm_get {x : Addr} {es : List (Int × AV)} {k : Int} (hD : H.D x = some es) (hQ : Q ((atK es k).getD .none) H) : kMeth2 cx h tn X "get" (.dm x) Q [.int k] H := .get es k rfl rfl hD hQ
theorem dm_pop {x : Addr} {es : List (Int × AV)} {k : Int} {v : AV} (hD : H.D x = some es) (h1 : atK es k = some v) (hQ : Q v (H.setD x (delK es k))) : kMeth2 cx h tn X "pop" (.dm x) Q [.int k] H := .pop es k v rfl rfl hD h1 hQ
noncomputable def ndM (m : String) : Option Addr := if m ∈ ["t", "creator", "is_leaf", "elts", "children"] then none else mtab 234 m
theorem meth_fn {x C f : Addr} {fs : List (String × AV)} (h1 : H.I x = some (C, fs)) (h2 : fs.lookup m = none) (h3 : mtab C m = some f) (k : wpEs cx h tn X ps σ H (kMeth2 cx h tn X m (.fn f x) Q)) : kMeth1 cx h tn X m ps Q σ (.ref x) H := ⟨.fn f x, ⟨rfl, C, fs, h1, h2, h3⟩, k⟩
theorem nd_fn {t : Int} {x f : Addr} {r : NR} (n : Nd H t x r) (h : ndM m = some f) (k : wpEs cx h' tn X ps σ H (kMeth2 cx h' tn X m (.fn f x) Q)) : kMeth1 cx h' tn X m ps Q σ (.ref x) H := by
  unfold ndM at h
  by_cases q : m ∈ ["t", "creator", "is_leaf", "elts", "children"]
  · rw [if_pos q] at h; cases h
  · rw [if_neg q] at h
    simp only [List.mem_cons, List.not_mem_nil, or_false, not_or] at q
    exact meth_fn n.I (ndF_no r q.1 q.2.1 q.2.2.1 q.2.2.2.1 q.2.2.2.2) h k
theorem nd_e {t : Int} {x : Addr} {r : NR} (n : Nd H t x r) (k : Q (.ref r.e) H) : attrP "elts" (.ref x) H Q := attrP_I n.I (ndF_e r) k
theorem nd_k {t : Int} {x : Addr} {r : NR} (n : Nd H t x r) (k : Q (.ref r.k) H) : attrP "children" (.ref x) H Q := attrP_I n.I (ndF_k r) k
theorem nd_t {t : Int} {x : Addr} {r : NR} (n : Nd H t x r) (k : Q (.int t) H) : attrP "t" (.ref x) H Q := attrP_I n.I (ndF_t r) k
theorem nd_c {t : Int} {x : Addr} {r : NR} (n : Nd H t x r) (k : Q (.ref r.c) H) : attrP "creator" (.ref x) H Q := attrP_I n.I (ndF_c r) k
theorem nd_lf {t : Int} {x : Addr} {r : NR} (n : Nd H t x r) (k : Q (.bool r.lf) H) : attrP "is_leaf" (.ref x) H Q := attrP_I n.I (ndF_lf r) k
theorem nd_lf' {t : Int} {x : Addr} {r : NR} {b : Bool} (n : Nd H t x r) (h : r.lf = b) (k : Q (.bool b) H) : attrP "is_leaf" (.ref x) H Q := nd_lf n (h ▸ k)
theorem meth_L {x : Addr} {xs : List AV} (h1 : H.L x = some xs) (h2 : m ∈ ["append", "pop", "insert", "extend", "remove"]) (k : wpEs cx h tn X ps σ H (kMeth2 cx h tn X m (.lm x) Q)) : kMeth1 cx h tn X m ps Q σ (.ref x) H := ⟨.lm x, ⟨rfl, h2, xs, h1⟩, k⟩
theorem meth_D {x : Addr} {xs} (h1 : H.D x = some xs) (h2 : m ∈ ["get", "pop"]) (k : wpEs cx h tn X ps σ H (kMeth2 cx h tn X m (.dm x) Q)) : kMeth1 cx h tn X m ps Q σ (.ref x) H := ⟨.dm x, ⟨rfl, h2, xs, h1⟩, k⟩
theorem r_star (k : wpE cx h tn X p σ H (kStar1 cx h tn X m q Q σ)) : wpE cx h tn X (.methStar p m q) σ H Q := k
theorem u_star1 (k : ∃ f x C fs, a = .ref x ∧ H.I x = some (C, fs) ∧ fs.lookup m = none ∧ bndtab C m = some f ∧ wpE cx h tn X q σ H (kStar2 cx h tn X f x Q)) : kStar1 cx h tn X m q Q σ a H := k
theorem u_star2 {f x : Addr} (k : ∃ t vs, b = .ref t ∧ H.T t = some vs ∧ vs.length ≤ 1000 ∧ CallOK cx h tn (.ref f) (.ref x :: vs) H Q X) : kStar2 cx h tn X f x Q b H := k
theorem r_acons (k : wpE cx h tn X p σ H (kA cx h tn X ps Q σ)) : wpA cx h tn X (.cons p ps) σ H Q := k
theorem r_ocons (k : wpE cx h tn X p σ H (kO cx h tn X ps Q σ)) : wpO cx h tn X (.cons p ps) σ H Q := k
theorem r_afin (k : Q a H) : kA cx h tn X .nil Q σ a H := .inl ⟨rfl, k⟩
theorem r_ofin (k : Q a H) : kO cx h tn X .nil Q σ a H := .inl ⟨rfl, k⟩
theorem r_amore (k : kTru (kAi cx h tn X (.cons p ps) Q σ a) a H) : kA cx h tn X (.cons p ps) Q σ a H := .inr ⟨fun q => (by cases q), k⟩
theorem r_omore (k : kTru (kOi cx h tn X (.cons p ps) Q σ a) a H) : kO cx h tn X (.cons p ps) Q σ a H := .inr ⟨fun q => (by cases q), k⟩
theorem u_ai_t (k : wpA cx h tn X ps σ H Q) : kAi cx h tn X ps Q σ a true H := k
theorem u_ai_f (k : Q a H) : kAi cx h tn X ps Q σ a false H := k
theorem u_oi_t (k : Q a H) : kOi cx h tn X ps Q σ a true H := k
theorem u_oi_f (k : wpO cx h tn X ps σ H Q) : kOi cx h tn X ps Q σ a false H := k
theorem r_nil (k : Ql [] H) : wpEs cx h tn X .nil σ H Ql := k
theorem r_cons (k : wpE cx h tn X p σ H (kCons1 cx h tn X ps Ql σ)) : wpEs cx h tn X (.cons p ps) σ H Ql := k
theorem u_cons1 (k : wpEs cx h tn X ps σ H (kCons2 Ql a)) : kCons1 cx h tn X ps Ql σ a H := k
theorem u_cons2 (k : Ql (a :: vs) H) : kCons2 Ql a vs H := k
theorem c_not (k : wpC cx h tn X p σ H (kCNot Qb)) : wpC cx h tn X (.not p) σ H Qb := k
theorem u_cnot_t (k : Qb false H) : kCNot Qb true H := k
theorem u_cnot_f (k : Qb true H) : kCNot Qb false H := k
theorem c_and (k : wpCA cx h tn X ps σ H Qb) : wpC cx h tn X (.and ps) σ H Qb := k
theorem c_or (k : wpCO cx h tn X ps σ H Qb) : wpC cx h tn X (.or ps) σ H Qb := k
theorem c_loc (k : wpE cx h tn X (.loc x) σ H (kTru Qb)) : wpC cx h tn X (.loc x) σ H Qb := k
theorem c_bool {b : Bool} (k : Qb b H) : wpC cx h tn X (.bool b) σ H Qb := ⟨b, rfl, k⟩
theorem c_cmp {c : CK} (k : wpE cx h tn X (.cmp c p q) σ H (kTru Qb)) : wpC cx h tn X (.cmp c p q) σ H Qb := k
theorem c_attr (k : wpE cx h tn X (.attr p x) σ H (kTru Qb)) : wpC cx h tn X (.attr p x) σ H Qb := k
theorem c_call (k : wpE cx h tn X (.call x ps) σ H (kTru Qb)) : wpC cx h tn X (.call x ps) σ H Qb := k
theorem c_meth (k : wpE cx h tn X (.meth p m ps) σ H (kTru Qb)) : wpC cx h tn X (.meth p m ps) σ H Qb := k
theorem c_anil (k : Qb true H) : wpCA cx h tn X .nil σ H Qb := k
theorem c_acons (k : wpC cx h tn X p σ H (kCA cx h tn X ps Qb σ)) : wpCA cx h tn X (.cons p ps) σ H Qb := k
theorem c_onil (k : Qb false H) : wpCO cx h tn X .nil σ H Qb := k
theorem c_ocons (k : wpC cx h tn X p σ H (kCO cx h tn X ps Qb σ)) : wpCO cx h tn X (.cons p ps) σ H Qb := k
theorem u_ca_t (k : wpCA cx h tn X ps σ H Qb) : kCA cx h tn X ps Qb σ true H := k
theorem u_ca_f (k : Qb false H) : kCA cx h tn X ps Qb σ false H := k
theorem u_co_t (k : Qb true H) : kCO cx h tn X ps Qb σ true H := k
theorem u_co_f (k : wpCO cx h tn X ps σ H Qb) : kCO cx h tn X ps Qb σ false H := k
theorem p_lt {a b : Int} (k : Q (.bool (decide (a < b))) H) : cmpP cx h tn X H Q .lt (.int a) (.int b) := .lt k
theorem p_le {a b : Int} (k : Q (.bool (decide (a ≤ b))) H) : cmpP cx h tn X H Q .le (.int a) (.int b) := .le k
theorem p_gt {a b : Int} (k : Q (.bool (decide (b < a))) H) : cmpP cx h tn X H Q .gt (.int a) (.int b) := .gt k
theorem p_ge {a b : Int} (k : Q (.bool (decide (b ≤ a))) H) : cmpP cx h tn X H Q .ge (.int a) (.int b) := .ge k
theorem p_eq {a b : Int} (k : Q (.bool (decide (a = b))) H) : cmpP cx h tn X H Q .eq (.int a) (.int b) := .eq k
theorem p_ne {a b : Int} (k : Q (.bool (decide (a ≠ b))) H) : cmpP cx h tn X H Q .ne (.int a) (.int b) := .ne k
theorem p_is_nn (k : Q (.bool true) H) : cmpP cx h tn X H Q .is .none .none := .is .nn k
theorem p_is_rn {a : Addr} (k : Q (.bool false) H) : cmpP cx h tn X H Q .is (.ref a) .none := .is (.rn a) k
theorem p_is_in {a : Int} (k : Q (.bool false) H) : cmpP cx h tn X H Q .is (.int a) .none := .is (.in_ a) k
theorem p_not_nn (k : Q (.bool false) H) : cmpP cx h tn X H Q .isNot .none .none := .isNot .nn k
theorem p_not_rn {a : Addr} (k : Q (.bool true) H) : cmpP cx h tn X H Q .isNot (.ref a) .none := .isNot (.rn a) k
theorem p_not_in {a : Int} (k : Q (.bool true) H) : cmpP cx h tn X H Q .isNot (.int a) .none := .isNot (.in_ a) k
end
end
local macro_rules | `(tactic| walk_at "l") => `(tactic| first | with_reducible assumption | with_reducible exact l_hit | with_reducible exact l_bhit | ((with_reducible apply l_miss); decide; walk_at "l") | ((with_reducible apply l_bmiss); decide; walk_at "l"))
local macro_rules | `(tactic| walk_at "u") => do
  let f (s : String) (g : Lean.Ident → Lean.MacroM (Lean.TSyntax `Lean.Parser.Tactic.tacticSeq)) := (s.splitOn " ").toArray.mapM fun x => g (Lean.mkIdent (.mkSimple x))
  let p (i : Lean.Ident) : Lean.MacroM (Lean.TSyntax `Lean.Parser.Tactic.tacticSeq) := `(tacticSeq| refine $i ?_)
  let S ← f "w_consC s_assign s_ite s_expr s_ret s_setAttr w_nil s_retN s_setItem s_assignT s_augAttr s_whil s_assert s_raiseV s_raiseC s_pass s_brk s_cont s_forL s_forE s_forZ s_forR s_tryV s_tryI" p
  let E ← f "r_loc r_attr r_meth r_int r_cmp r_item r_bin r_bcall r_none r_bool r_not r_and r_or r_from r_to r_tup r_lst r_dic r_star" p
  let C ← f "c_cmp c_not c_loc c_attr c_and c_or c_call c_meth" p
  let R ← f "u_cons1 u_cons2 u_attr r_cons r_nil u_asg w_then_n u_ret u_cmp1 u_cmp2 u_ite_t u_ite_f u_meth2 u_bc u_item1 u_item2 u_bin1 u_expr w_ret_r w_then_r w_ret_n w_turn_n w_turn_c w_turn_b w_turn_r w_then_b w_then_c u_SA1 u_SI1 u_SI2 u_AA1 u_AA2 u_less u_wh_f u_ast u_FL u_FE u_FZ1 u_FZ2 u_FR u_notB u_from1 u_to1 u_call u_callV u_callK u_star1 u_star2 r_acons r_ocons u_ai_t u_ai_f u_oi_t u_oi_f u_cnot_t u_cnot_f c_anil c_acons c_onil c_ocons u_ca_t u_ca_f u_co_t u_co_f g_nt g_nf" p
  let d := #[← `(tacticSeq| refine gE ?_; first $[| $E]*), ← `(tacticSeq| refine gS ?_; first $[| $S]*), ← `(tacticSeq| refine gC ?_; first $[| $C]*)] ++ R
  let b ← `(tacticSeq| refine' (?_ : type_of% batchT) ?_ ?_; rotate_left; (· with_reducible (intro k; (first $[| $d]*); (repeat (first $[| $d]*)); exact k)); rotate_left; exact fun _ k => k)
  let u ← f "w_body" fun i => `(tacticSeq| (with_reducible refine $i ?_); intro K)
  let c ← f "loc_ s_augName" fun i => `(tacticSeq| (with_reducible apply $i); walk_at "l")
  let e ← f "r_call r_glob r_callK" fun i => `(tacticSeq| (with_reducible apply $i); exact rfl)
  let t ← f "w_last w_cons u_wh_t u_tru u_truN r_add r_sub u_bin2 u_AN r_afin r_ofin r_amore r_omore c_bool p_lt p_le p_gt p_ge p_eq p_ne p_is_nn p_is_rn p_is_in p_not_nn p_not_rn p_not_in r_negI" fun i => `(tacticSeq| with_reducible refine $i ?_)
  let x := u ++ #[b] ++ c ++ t ++ e
  `(tactic| repeat (first $[| $x]*))
local macro_rules | `(tactic| walk_at "r") => `(tactic| first | rfl | assumption | trivial | walk_at "l")
structure Bod (cx : Cx) : Prop where
  T : Tabs cx
  f49 : FnB cx.K 49 ["t"] f__MIN
  f56 : FnB cx.K 56 ["t"] f__MAX
  f84 : FnB cx.K 84 ["self", "t", "creator", "is_leaf"] f__Node___init__
  f91 : FnB cx.K 91 ["self"] f__Node_is_maximal
  f98 : FnB cx.K 98 ["self"] f__Node_is_minimal
  f105 : FnB cx.K 105 ["self", "key"] f__Node_search_in_node
  f112 : FnB cx.K 112 ["self", "index"] f__Node_maybe_cow_child
  f119 : FnB cx.K 119 ["self", "key"] f__Node__get_node
  f126 : FnB cx.K 126 ["self", "key"] f__Node_get
  f133 : FnB cx.K 133 ["self", "index"] f__Node_optimize_in_order_insertion
  f140 : FnB cx.K 140 ["self", "element", "in_order"] f__Node_insert_nonfull
  f147 : FnB cx.K 147 ["self"] f__Node_split
  f154 : FnB cx.K 154 ["self", "parent", "index"] f__Node_try_left_steal
  f161 : FnB cx.K 161 ["self", "parent", "index"] f__Node_try_right_steal
  f168 : FnB cx.K 168 ["self", "left", "middle", "right"] f__Node_adopt
  f175 : FnB cx.K 175 ["self", "parent", "index"] f__Node_merge
  f182 : FnB cx.K 182 ["self"] f__Node_minimum
  f196 : FnB cx.K 196 ["self", "parent", "index"] f__Node_balance
  f203 : FnB cx.K 203 ["self", "key", "parent", "exact"] f__Node_delete
  f210 : FnB cx.K 210 ["self", "visit"] f__Node_visit_in_order
  f224 : FnB cx.K 224 ["self", "creator"] f__Node_maybe_cow
  f231 : FnB cx.K 231 ["self", "creator"] f__Node_clone
  f365 : FnB cx.K 365 ["self"] f_BTree_make_immutable
  f372 : FnB cx.K 372 ["self"] f_BTree__check_mutable_and_park
  f380 : FnB cx.K 380 ["self", "elt", "in_order"] f_BTree_insert_element
  f387 : FnB cx.K 387 ["self", "key"] f_BTree_get_element
  f394 : FnB cx.K 394 ["self", "key", "exact"] f_BTree__delete
  f401 : FnB cx.K 401 ["self", "key"] f_BTree_delete_key
  f408 : FnB cx.K 408 ["self", "element"] f_BTree_delete_exact
  f415 : FnB cx.K 415 ["self"] f_BTree___len__
  f422 : FnB cx.K 422 ["self", "visit"] f_BTree_visit_in_order
  f471 : FnB cx.K 471 ["self", "key", "value"] f_KV___init__
  f478 : FnB cx.K 478 ["self"] f_KV_key
  f485 : FnB cx.K 485 ["self"] f_KV_value
  f561 : FnB cx.K 561 ["self", "key"] f_Member___init__
  f568 : FnB cx.K 568 ["self"] f_Member_key
  f597 : FnB cx.K 597 ["self", "x"] f_BTreeSet___contains__
  f604 : FnB cx.K 604 ["self", "value"] f_BTreeSet_add
  f611 : FnB cx.K 611 ["self", "value"] f_BTreeSet_discard
  f624 : FnB cx.K 624 ["script", "place"] f__law_draw
  f631 : FnB cx.K 631 ["node", "t", "low", "high", "top", "room"] f__law_shape
  f638 : FnB cx.K 638 ["tree", "t"] f__law_sound
  f645 : FnB cx.K 645 ["tree", "held", "t", "probe"] f__law_stands
  f652 : FnB cx.K 652 ["tree", "elt"] f__law_refuses
  f659 : FnB cx.K 659 ["tree", "held", "gone", "key", "elt", "in_order"] f__law_put
  f666 : FnB cx.K 666 ["tree", "held", "gone", "key", "value", "in_order"] f__law_new
  f673 : FnB cx.K 673 ["tree", "held", "gone", "key", "exactly"] f__law_take
  f680 : FnB cx.K 680 ["tree", "held", "gone", "number", "value", "in_order"] f__law_deed
  f692 : FnB cx.K 692 ["tree", "held", "t", "turn"] f__law_end
noncomputable def El (H : AH) (κ : Addr → Int) (x : Addr) : Prop := (∃ v : Int, H.I x = some (502, [("_key", .int (κ x)), ("_value", .int v)])) ∨ H.I x = some (571, [("_key", .int (κ x))])
section
variable {cx : Cx} {H H' : AH} {t : Int} {N N' : NM} {κ : Addr → Int} {ex : Addr → Prop}
theorem El.nf {x : Addr} (e : El H κ x) : ¬ H.free x := by rcases e with ⟨v, e⟩ | e <;> exact nf_I e
theorem El.nn {x : Addr} (R : Rep t H N) (e : El H κ x) : N x = none := by
  cases q : N x with
  | none => rfl
  | some r =>
    have := (R.nd x r q).I
    rcases e with ⟨v, e⟩ | e <;> (rw [e] at this; injection this with this; injection this with this; exact absurd this (by decide))
theorem El.step {x : Addr} (R : Rep t H N) (s : Step ex t H N H' N') (hx : ¬ ex x) (e : El H κ x) : El H' κ x := by
  have := s.I x e.nf (e.nn R) hx
  unfold El
  rw [this]; exact e
theorem El.tm {x : Addr} (m : TM H H') (e : El H κ x) : El H' κ x := by unfold El; rw [m.I]; exact e
end
section
variable {cx : Cx} {tn : Bool} {H : AH} {X : Value → AH → Prop} {t : Int} {N : NM} {h : Nat} {κ : Addr → Int}
theorem call_of' (T : Tabs cx) {f : Addr} {ns : List String} {b : PS} {args : List AV} {Q : AV → AH → Prop} (hh : 1 ≤ h) (F : FnB cx.K f ns b) (hl : args.length = ns.length) (hx : tn = true → ∀ c H, ¬ X c H)
    (hw : ∀ m, h = m + 1 → let K := retP Q; wpS cx m tn b X (bindσ ns args) H K) : CallOK cx h tn (.ref f) args H Q X := by
  obtain ⟨m, rfl⟩ : ∃ m, h = m + 1 := ⟨h - 1, by lia⟩
  exact call_of T F hl hx (hw m rfl)
theorem c_MIN (B : Bod cx) (hh : 1 ≤ h) {Q : AV → AH → Prop} (kq : Q (.int (t - 1)) H) : CallOK cx h false (.ref 49) [.int t] H Q X := by
  refine call_of' B.T hh B.f49 rfl (fun q => by cases q) fun m _ => ?_
  intro K0
  unfold f__MIN
  walk_at "u"
  exact kq
theorem c_MAX (B : Bod cx) (hh : 1 ≤ h) (ht : 3 ≤ t ∧ t ≤ 5) {Q : AV → AH → Prop} (kq : Q (.int (2 * t - 1)) H) : CallOK cx h false (.ref 56) [.int t] H Q X := by
  refine call_of' B.T hh B.f56 rfl (fun q => by cases q) fun m _ => ?_
  intro K0
  unfold f__MAX
  walk_at "u"
  refine .mul (by decide) (by lia) ?_
  walk_at "u"
  exact kq
theorem c_key (B : Bod cx) (hh : 1 ≤ h) {x : Addr} (f : Addr) (hf : (f = 478 ∧ ∃ v : Int, H.I x = some (502, [("_key", .int (κ x)), ("_value", .int v)])) ∨ (f = 568 ∧ H.I x = some (571, [("_key", .int (κ x))]))) {Q : AV → AH → Prop} (kq : Q (.int (κ x)) H) : CallOK cx h false (.ref f) [.ref x] H Q X := by
  rcases hf with ⟨rfl, v, hI⟩ | ⟨rfl, hI⟩
  · refine call_of' B.T hh B.f478 rfl (fun q => by cases q) fun m _ => ?_
    unfold f_KV_key
    walk_at "u"
    refine attrP_I hI rfl ?_
    walk_at "u"
    exact kq 
  · refine call_of' B.T hh B.f568 rfl (fun q => by cases q) fun m _ => ?_
    unfold f_Member_key
    walk_at "u"
    refine attrP_I hI rfl ?_
    walk_at "u"
    exact kq 
theorem w_key (B : Bod cx) (hh : 1 ≤ h) {x : Addr} {P : AV → AH → Prop} {σ : Loc} (e : El H κ x) (k : P (.int (κ x)) H) : kMeth1 cx h false X "key" .nil P σ (.ref x) H := by
  rcases e with ⟨v, e⟩ | e
  · refine meth_fn e rfl rfl ?_
    walk_at "u"
    exact c_key B hh 478 (.inl ⟨rfl, v, e⟩) k
  · refine meth_fn e rfl rfl ?_
    walk_at "u"
    exact c_key B hh 568 (.inr ⟨rfl, e⟩) k
theorem c_is_maximal (B : Bod cx) (hh : 2 ≤ h) {a : Addr} {r : NR} (n : Nd H t a r) (ht : 3 ≤ t ∧ t ≤ 5) (hm : (r.es.length : Int) ≤ 2 * t - 1) {Q : AV → AH → Prop} (kq : Q (.bool (decide ((r.es.length : Int) = 2 * t - 1))) H) : CallOK cx h false (.ref 91) [.ref a] H Q X := by
  refine call_of' B.T (by lia) B.f91 rfl (fun q => by cases q) fun m _ => ?_
  intro K0
  unfold f__Node_is_maximal
  walk_at "u"
  refine nd_e n ?_
  walk_at "u"
  refine len_L n.E ?_
  walk_at "u"
  refine nd_t n ?_
  walk_at "u"
  refine c_MAX B (by lia) ht ?_
  walk_at "u"
  refine ⟨by simpa [refs_length] using hm, ?_⟩
  walk_at "u"
  refine nd_e n ?_
  walk_at "u"
  refine len_L n.E ?_
  walk_at "u"
  refine nd_t n ?_
  walk_at "u"
  refine c_MAX B (by lia) ht ?_
  walk_at "u"
  rw [refs_length]
  exact kq
theorem c_is_minimal (B : Bod cx) (hh : 2 ≤ h) {a : Addr} {r : NR} (n : Nd H t a r) (hm : t - 1 ≤ (r.es.length : Int)) {Q : AV → AH → Prop} (kq : Q (.bool (decide ((r.es.length : Int) = t - 1))) H) : CallOK cx h false (.ref 98) [.ref a] H Q X := by
  refine call_of' B.T (by lia) B.f98 rfl (fun q => by cases q) fun m _ => ?_
  intro K0
  unfold f__Node_is_minimal
  walk_at "u"
  refine nd_e n ?_
  walk_at "u"
  refine len_L n.E ?_
  walk_at "u"
  refine nd_t n ?_
  walk_at "u"
  refine c_MIN B (by lia) ?_
  walk_at "u"
  refine ⟨by simpa [refs_length] using hm, ?_⟩
  walk_at "u"
  refine nd_e n ?_
  walk_at "u"
  refine len_L n.E ?_
  walk_at "u"
  refine nd_t n ?_
  walk_at "u"
  refine c_MIN B (by lia) ?_
  walk_at "u"
  rw [refs_length]
  exact kq
structure Sr (ks : List Int) (k : Int) (i : Nat) (b : Bool) : Prop where
  le : i ≤ ks.length
  lo : ∀ j x, j < i → ks[j]? = some x → x < k
  hit : b = true → ks[i]? = some k
  hi : b = false → ∀ j x, i ≤ j → ks[j]? = some x → k < x
theorem sorted_get {ks : List Int} (hs : ks.Pairwise (· < ·)) {i j : Nat} {x y : Int} (hij : i < j) (hx : ks[i]? = some x) (hy : ks[j]? = some y) : x < y := by
  obtain ⟨h1, e1⟩ := List.getElem?_eq_some_iff.mp hx
  obtain ⟨h2, e2⟩ := List.getElem?_eq_some_iff.mp hy
  have := List.pairwise_iff_getElem.mp hs i j h1 h2 hij
  rw [e1, e2] at this
  exact this
inductive SI (a : Addr) (key : Int) (ks : List Int) (k : Nat) (σ : Loc) : Prop
  | mk (l i : Nat) (e1 : σ "self" = some (.ref a)) (e2 : σ "key" = some (.int key)) (e3 : σ "l" = some (.int l)) (e4 : σ "r" = some (.int (i - 1))) (e5 : σ "i" = some (.int i)) (e6 : σ "equal" = some (.bool false))
    (h1 : l ≤ i) (h2 : i ≤ ks.length) (h3 : ∀ j x, j < l → ks[j]? = some x → x < key) (h4 : ∀ j x, i ≤ j → ks[j]? = some x → key < x) (hk : k = i - l)
theorem c_search (B : Bod cx) (hh : 2 ≤ h) {a : Addr} {r : NR} {key : Int} (n : Nd H t a r) (hn : r.es.length < 1000) (hel : ∀ x ∈ r.es, El H κ x) (hs : (r.es.map κ).Pairwise (· < ·)) {Q : AV → AH → Prop} (kq : ∀ H' tp i b, H'.T tp = some [.int (i : Nat), .bool b] → TM H H' → Sr (r.es.map κ) key i b → Q (.ref tp) H') :
    CallOK cx h false (.ref 105) [.ref a, .int key] H Q X := by
  have hget : ∀ (m : Nat), m < r.es.length → ∃ x, r.es[m]? = some x ∧ El H κ x ∧ (r.es.map κ)[m]? = some (κ x) := fun m hm => by
    refine ⟨r.es[m], List.getElem?_eq_getElem hm, hel _ (List.getElem_mem hm), ?_⟩
    rw [List.getElem?_map, List.getElem?_eq_getElem hm]; rfl
  have hlen : (refs r.es).length = r.es.length := refs_length _
  have hlk : (r.es.map κ).length = r.es.length := List.length_map _
  refine call_of' B.T (by lia) B.f105 rfl (fun q => by cases q) fun m _ => ?_
  intro K0
  have main : ∀ σ, σ "self" = some (.ref a) → σ "key" = some (.int key) → wpS cx m false f__Node_search_in_node.tl.tl X σ H K0 := by
    intro σ f1 f2
    unfold f__Node_search_in_node
    simp only [tl_cons]
    walk_at "u"
    refine nd_e n ?_
    walk_at "u"
    refine len_L n.E ?_
    rw [hlen]
    walk_at "u"
    refine ⟨fun k σ H' => H = H' ∧ SI a key (r.es.map κ) k σ, r.es.length, ?_, ?_⟩
    · refine ⟨rfl, 0, r.es.length, by walk_at "r", by walk_at "r", by walk_at "r", by walk_at "r", by walk_at "r", by walk_at "r", by lia, by lia, fun j x hj => by lia, fun j x hj hx => ?_, by lia⟩
      have := (List.getElem?_eq_some_iff.mp hx).1
      lia
    · rintro k σ _ ⟨rfl, l, i, e1, e2, e3, e4, e5, e6, h1, h2, h3, h4, rfl⟩
      walk_at "u"
      by_cases hc : l < i
      · have hc' : decide ((l : Int) ≤ i - 1) = true := by simp; lia
        rw [hc']
        walk_at "u"
        refine .fdiv (by lia) (by lia) ?_
        obtain ⟨x, hx, ex, hk⟩ := hget ((l + i - 1) / 2) (by lia)
        have hm : ((l : Int) + (i - 1)) / 2 = ((l + i - 1) / 2 : Nat) := by lia
        rw [hm]
        generalize hM : (l + i - 1) / 2 = M at *
        have hM1 : l ≤ M ∧ M < i := by lia
        clear hM hm
        walk_at "u"
        refine nd_e n ?_
        walk_at "u"
        refine item_L n.E (seqAt_refs (by lia) (by rw [Int.toNat_natCast]; exact hx)) ?_
        walk_at "u"
        refine w_key B (by lia) ex ?_
        walk_at "u"
        by_cases q1 : key = κ x
        · rw [decide_eq_true q1]
          walk_at "u"
          refine tup_ (by simp) fun tp hf => ?_
          walk_at "u"
          refine kq _ tp M true upd_at (TM.setT hf) ⟨by lia, fun j y hj hy => sorted_get hs hj hy (q1 ▸ hk), fun _ => q1 ▸ hk, fun q => by cases q⟩
        · rw [decide_eq_false q1]
          walk_at "u"
          by_cases q2 : key < κ x
          · rw [decide_eq_true q2]
            walk_at "u"
            refine ⟨M - l, by lia, by walk_at "r", l, M, by walk_at "r", by walk_at "r", by walk_at "r", by walk_at "r", by walk_at "r", by walk_at "r", by lia, by lia, h3, fun j y hj hy => ?_, rfl⟩
            by_cases e : M = j
            · subst e; rw [hk] at hy; cases hy; exact q2
            · exact Int.lt_trans q2 (sorted_get hs (by lia) hk hy)
          · rw [decide_eq_false q2]
            walk_at "u"
            refine ⟨i - (M + 1), by lia, by walk_at "r", M + 1, i, by walk_at "r", by walk_at "r", by walk_at "r", by walk_at "r", by walk_at "r", by walk_at "r", by lia, by lia, fun j y hj hy => ?_, h4, rfl⟩
            by_cases e : j = M
            · subst e; rw [hk] at hy; cases hy; lia
            · have := sorted_get hs (show j < M by lia) hy hk
              lia
      · have hc' : decide ((l : Int) ≤ i - 1) = false := by simp; lia
        rw [hc']
        walk_at "u"
        have : l = i := by lia
        subst this
        walk_at "u"
        refine tup_ (by simp) fun tp hf => ?_
        walk_at "u"
        refine kq _ tp l false upd_at (TM.setT hf) ⟨by lia, h3, (fun q => by cases q), fun _ => h4⟩
  rw [show f__Node_search_in_node = .cons (.assign "l" (.bcall .len (.cons (.attr (.loc "self") "elts") .nil)))
    (.cons (.ite (.and (.cons (.cmp .gt (.loc "l") (.int 0)) (.cons (.cmp .gt (.loc "key") (.meth (.item (.attr (.loc "self") "elts") (.bin .sub (.loc "l") (.int 1))) "key" .nil)) .nil)))
    (.cons (.ret (.tup (.cons (.loc "l") (.cons (.bool false) .nil)))) .nil) .nil) f__Node_search_in_node.tl.tl) from rfl]
  generalize f__Node_search_in_node.tl.tl = bd at main ⊢
  walk_at "u"
  refine nd_e n ?_
  walk_at "u"
  refine len_L n.E ?_
  rw [hlen]
  walk_at "u"
  by_cases h0 : 0 < r.es.length
  · obtain ⟨x, hx, ex, hk⟩ := hget (r.es.length - 1) (by lia)
    rw [decide_eq_true (show (0 : Int) < r.es.length by lia)]
    walk_at "u"
    refine nd_e n ?_
    walk_at "u"
    refine item_L n.E (seqAt_refs (by lia) (by rw [show ((r.es.length : Int) - 1).toNat = r.es.length - 1 by lia]; exact hx)) ?_
    walk_at "u"
    refine w_key B (by lia) ex ?_
    walk_at "u"
    by_cases h1 : κ x < key
    · rw [decide_eq_true h1]
      walk_at "u"
      refine tup_ (by simp) fun tp hf => ?_
      walk_at "u"
      refine kq _ tp r.es.length false upd_at (TM.setT hf) ⟨by lia, fun j y hj hy => ?_, (fun q => by cases q), fun _ j y hj hy => ?_⟩
      · by_cases e : j = r.es.length - 1
        · subst e; rw [hk] at hy; cases hy; exact h1
        · exact Int.lt_trans (sorted_get hs (by lia) hy hk) h1
      · have := (List.getElem?_eq_some_iff.mp hy).1
        lia
    · rw [decide_eq_false h1]
      walk_at "u"
      exact main _ rfl rfl
  · rw [decide_eq_false (show ¬ (0 : Int) < r.es.length by lia)]
    walk_at "u"
    exact main _ rfl rfl
end
section
variable {cx : Cx} {tn : Bool} {H H' : AH} {X : Value → AH → Prop} {t : Int} {N N' : NM} {h : Nat} {κ : Addr → Int} {ex : Addr → Prop}
theorem I_setI {a C : Addr} {fs} : (H.setI a C fs).I a = some (C, fs) := upd_at
theorem L_setL {a : Addr} {xs} : (H.setL a xs).L a = some xs := upd_at
theorem c_new (B : Bod cx) (hh : 2 ≤ h) (R : Rep t H N) (ht : 3 ≤ t ∧ t ≤ 5) {c : Addr} {lf : Bool} {Q : AV → AH → Prop} (kq : ∀ H' a r, H.free a → r.c = c → r.lf = lf → r.es = [] → r.ch = [] → Step ex t H N H' (upd N a r) → Q (.ref a) H') :
    CallOK cx h false (.ref 234) [.int t, .ref c, .bool lf] H Q X := by
  obtain ⟨m, rfl⟩ : ∃ m, h = m + 1 := ⟨h - 1, by lia⟩
  refine CallOK.of_class (B.T.makes 234 (by decide)) (B.T.sp 234 "__init__" 84 rfl) fun x hf => ?_
  refine call_of' B.T (by lia) B.f84 rfl (fun q => by cases q) fun m _ => ?_
  intro K0
  unfold f__Node___init__
  walk_at "u"
  refine ⟨by simp; lia, ?_⟩
  walk_at "u"
  refine sa2 I_setI (by simp) (by decide) ?_
  walk_at "u"
  refine sa2 I_setI (by simp [putF]) (by decide) ?_
  walk_at "u"
  refine sa2 I_setI (by simp [putF]) (by decide) ?_
  walk_at "u"
  refine lst_ (by simp) fun e he => ?_
  walk_at "u"
  refine sa2 I_setI (by simp [putF]) (by decide) ?_
  walk_at "u"
  refine lst_ (by simp) fun k hk => ?_
  walk_at "u"
  refine sa2 I_setI (by simp [putF]) (by decide) ?_
  walk_at "u"
  have he' : H.free e := Classical.not_not.mp fun q => nf_setI (nf_setI (nf_setI (nf_setI q))) he
  have hk' : H.free k := Classical.not_not.mp fun q => nf_setI (nf_setL (nf_setI (nf_setI (nf_setI (nf_setI q))))) hk
  have hek : e ≠ k := fun q => by
    subst q
    exact absurd hk.1 (by simp [AH.setI, AH.setL, upd])
  walk_at "u"
  refine ⟨by walk_at "r", kq _ x ⟨e, k, c, lf, [], []⟩ hf rfl rfl rfl rfl (Step.put R upd_at ?_ upd_at hek (.inl hf) (.inl he') (.inl hk') ?_ ?_ ?_ ?_ ?_ ?_)⟩
  · simp [AH.setI, AH.setL, upd, hek, refs]
  · intro b h1 h2 h3
    simp only at h1 h2
    simp [AH.setI, AH.setL, upd, h1, h2]
  · intro b h1 h2
    simp [AH.setI, AH.setL, upd, h1]
  · intro b h1; rfl
  · intro b h1; rfl
  · intro b h1; rfl
  · intro b h1
    exact nf_setI (nf_setL (nf_setI (nf_setL (nf_setI (nf_setI (nf_setI (nf_setI h1)))))))
theorem w_extend {x b : Addr} {xs ys : List AV} {Q : AV → AH → Prop} (hx : H.L x = some xs) (hb : H.L b = some ys) (hn : xs.length + ys.length ≤ 1000) (k : Q .none (H.setL x (xs ++ ys))) : tgtP cx h tn X (.lm x) "extend" [.ref b] H Q := .extend xs b ys rfl rfl hx hb hn k
theorem w_append {x : Addr} {v : AV} {xs : List AV} {Q : AV → AH → Prop} (hx : H.L x = some xs) (hn : xs.length < 1000) (k : Q .none (H.setL x (xs ++ [v]))) : tgtP cx h tn X (.lm x) "append" [v] H Q := .append xs v rfl rfl hx hn k
theorem w_pop {x : Addr} {v : AV} {xs : List AV} {Q : AV → AH → Prop} (hx : H.L x = some xs) (hv : xs.getLast? = some v) (k : Q v (H.setL x xs.dropLast)) : tgtP cx h tn X (.lm x) "pop" [] H Q := .pop xs v rfl rfl hx hv k
theorem w_popAt {x : Addr} {i : Int} {v : AV} {xs : List AV} {Q : AV → AH → Prop} (hx : H.L x = some xs) (hv : seqAt xs i = some v) (k : Q v (H.setL x (xs.take i.toNat ++ xs.drop (i.toNat + 1)))) : tgtP cx h tn X (.lm x) "pop" [.int i] H Q := .popAt xs i v rfl rfl hx hv k
theorem w_insert {x : Addr} {i : Int} {v : AV} {xs : List AV} {Q : AV → AH → Prop} (hx : H.L x = some xs) (h0 : 0 ≤ i) (h1 : i ≤ xs.length) (hn : xs.length < 1000) (k : Q .none (H.setL x (xs.take i.toNat ++ v :: xs.drop i.toNat))) : tgtP cx h tn X (.lm x) "insert" [.int i, v] H Q := .insert xs i v rfl rfl hx h0 h1 hn k
theorem refs_append (a b : List Addr) : refs (a ++ b) = refs a ++ refs b := by simp [refs]
theorem refs_nil : refs [] = [] := rfl
theorem refs_cons (a : Addr) (l : List Addr) : refs (a :: l) = .ref a :: refs l := rfl
theorem refs_take (l : List Addr) (n : Nat) : (refs l).take n = refs (l.take n) := by simp [refs]
theorem refs_drop (l : List Addr) (n : Nat) : (refs l).drop n = refs (l.drop n) := by simp [refs]
theorem refs_set (l : List Addr) (n : Nat) (x : Addr) : (refs l).set n (.ref x) = refs (l.set n x) := by simp [refs]
theorem refs_dropLast (l : List Addr) : (refs l).dropLast = refs l.dropLast := by simp [refs]
theorem refs_last (l : List Addr) : (refs l).getLast? = l.getLast?.map .ref := by simp [refs]
theorem c_clone (B : Bod cx) (hh : 3 ≤ h) (R : Rep t H N) (ht : 3 ≤ t ∧ t ≤ 5) {a c : Addr} {r : NR} (hr : N a = some r) (he : r.es.length ≤ 1000) (hc : r.ch.length ≤ 1000) (hl : r.lf = true → r.ch = []) {Q : AV → AH → Prop} (kq : ∀ H' a' r', H.free a' → r'.c = c → r'.lf = r.lf → r'.es = r.es → r'.ch = r.ch → Step ex t H N H' (upd N a' r') → Q (.ref a') H') :
    CallOK cx h false (.ref 231) [.ref a, .ref c] H Q X := by
  refine call_of' B.T (by lia) B.f231 rfl (fun q => by cases q) fun m _ => ?_
  intro K0
  have n := R.nd a r hr
  unfold f__Node_clone
  walk_at "u"
  refine nd_t n ?_
  walk_at "u"
  refine nd_lf n ?_
  walk_at "u"
  refine c_new (ex := ex) B (by lia) R ht fun H1 a' r' hf z1 h1 h2 h3 s1 => ?_
  subst z1
  have hne : a ≠ a' := fun e => nf_I n.I (e ▸ hf)
  have hr1 : (upd N a' r') a = some r := (upd_off hne).trans hr
  have n1 := s1.rep.nd a r hr1
  have n1' := s1.rep.nd a' r' upd_at
  walk_at "u"
  refine nd_e n1' ?_
  walk_at "u"
  refine meth_L n1'.E (by simp) ?_
  walk_at "u"
  refine nd_e n1 ?_
  walk_at "u"
  refine w_extend n1'.E n1.E (by rw [h2]; simp [refs_length, refs_nil]; lia) ?_
  walk_at "u"
  rw [h2, refs_nil, List.nil_append]
  have s2 := Step.setE (ex := ex) (xs := r.es) s1.rep (a := a') upd_at
  generalize H1.setL r'.e (refs r.es) = H2 at s2 ⊢
  have hu : upd (upd N a' r') a' { r' with es := r.es } = upd N a' { r' with es := r.es } := by funext b; simp only [upd]; split <;> rfl
  rw [hu] at s2
  have hr2 : (upd N a' { r' with es := r.es }) a = some r := (upd_off hne).trans hr
  have n2 := s2.rep.nd a r hr2
  have n2' := s2.rep.nd a' _ upd_at
  walk_at "u"
  refine nd_lf n2 ?_
  walk_at "u"
  cases hlf : r.lf with
  | true =>
    walk_at "u"
    exact kq _ a' { r' with es := r.es } hf rfl (by rw [← h1, hlf] at *) rfl (h3.trans (hl hlf).symm) (s1.trans s2)
  | false =>
    walk_at "u"
    refine nd_k n2' ?_
    walk_at "u"
    refine meth_L n2'.K (by simp) ?_
    walk_at "u"
    refine nd_k n2 ?_
    walk_at "u"
    refine w_extend n2'.K n2.K (by simp [h3, refs_length, refs_nil]; lia) ?_
    walk_at "u"
    have s3 := Step.setK (ex := ex) (xs := r.ch) s2.rep (a := a') upd_at
    refine kq _ a' { r' with es := r.es, ch := r.ch } hf rfl (by first | exact h1 | exact h1.trans hlf) rfl rfl ?_
    have hu : upd (upd N a' { r' with es := r.es }) a' { r' with es := r.es, ch := r.ch } = upd N a' { r' with es := r.es, ch := r.ch } := by funext b; simp only [upd]; split <;> rfl
    rw [hu] at s3
    simp only [h3, refs_nil, List.nil_append]
    exact (s1.trans s2).trans s3
theorem cmp_isNot_dec {Q : AV → AH → Prop} {a b : Addr} (ha : H.I a ≠ none) (hb : H.I b ≠ none) (k : Q (.bool (!decide (a = b))) H) : cmpP cx h tn X H Q .isNot (.ref a) (.ref b) := by
  obtain ⟨x, hx⟩ := Option.ne_none_iff_exists'.mp ha
  obtain ⟨y, hy⟩ := Option.ne_none_iff_exists'.mp hb
  by_cases e : a = b
  · subst e
    rw [decide_eq_true rfl] at k
    exact .isNot (.rr a) k
  · rw [decide_eq_false e] at k
    exact .isNot (.ne e hx hy) k
theorem c_cow (B : Bod cx) (hh : 4 ≤ h) (R : Rep t H N) (ht : 3 ≤ t ∧ t ≤ 5) {a c : Addr} {r : NR} (hr : N a = some r) (he : r.es.length ≤ 1000) (hc : r.ch.length ≤ 1000) (hl : r.lf = true → r.ch = []) (i1 : H.I r.c ≠ none) (i2 : H.I c ≠ none) {Q : AV → AH → Prop} (k1 : r.c = c → Q .none H)
    (k2 : r.c ≠ c → ∀ H' a' r', H.free a' → r'.c = c → r'.lf = r.lf → r'.es = r.es → r'.ch = r.ch → Step ex t H N H' (upd N a' r') → Q (.ref a') H') :
    CallOK cx h false (.ref 224) [.ref a, .ref c] H Q X := by
  refine call_of' B.T (by lia) B.f224 rfl (fun q => by cases q) fun m _ => ?_
  intro K0
  have n := R.nd a r hr
  unfold f__Node_maybe_cow
  walk_at "u"
  refine nd_c n ?_
  walk_at "u"
  refine cmp_isNot_dec i1 i2 ?_
  walk_at "u"
  by_cases e : r.c = c
  · rw [decide_eq_true e]
    walk_at "u"
    exact k1 e
  · rw [decide_eq_false e]
    walk_at "u"
    refine nd_fn n rfl ?_
    walk_at "u"
    exact c_clone (ex := ex) B (by lia) R ht hr he hc hl (k2 e)
theorem seqAt_of {l : List Addr} {i : Nat} {x : Addr} (h : l[i]? = some x) : seqAt (refs l) (i : Int) = some (.ref x) := seqAt_refs (by lia) (by simpa using h)
theorem set_same {l : List Addr} {i : Nat} {x : Addr} (h : l[i]? = some x) : l.set i x = l := by
  obtain ⟨h1, h2⟩ := List.getElem?_eq_some_iff.mp h
  rw [← h2]; exact List.set_getElem_self h1
structure CowC (a i k : Addr) (r rk : NR) (N N' : NM) (k' : Addr) (rk' : NR) : Prop where
  top : N' a = some { r with ch := r.ch.set i k' }
  kid : N' k' = some rk'
  c : rk'.c = r.c
  es : rk'.es = rk.es
  ch : rk'.ch = rk.ch
  lf : rk'.lf = rk.lf
  new : k' = k ∨ N k' = none
  keep : ∀ b s, b ≠ a → N b = some s → N' b = some s
theorem c_cow_child (B : Bod cx) (hh : 5 ≤ h) (R : Rep t H N) (ht : 3 ≤ t ∧ t ≤ 5) {a k : Addr} {i : Nat} {r rk : NR} (hr : N a = some r) (hlf : r.lf = false) (hk : r.ch[i]? = some k) (hrk : N k = some rk) (he : rk.es.length ≤ 1000) (hc : rk.ch.length ≤ 1000) (hl : rk.lf = true → rk.ch = []) (i1 : H.I rk.c ≠ none) (i2 : H.I r.c ≠ none) {Q : AV → AH → Prop} (kq : ∀ H' k' N' rk', Step ex t H N H' N' → CowC a i k r rk N N' k' rk' → Q (.ref k') H') :
    CallOK cx h false (.ref 112) [.ref a, .int i] H Q X := by
  refine call_of' B.T (by lia) B.f112 rfl (fun q => by cases q) fun m _ => ?_
  intro K0
  have n := R.nd a r hr
  have nk := R.nd k rk hrk
  have hi : i < r.ch.length := (List.getElem?_eq_some_iff.mp hk).1
  unfold f__Node_maybe_cow_child
  walk_at "u"
  refine nd_lf n ?_
  walk_at "u"
  rw [hlf]
  walk_at "u"
  refine ⟨rfl, ?_⟩
  walk_at "u"
  refine nd_k n ?_
  walk_at "u"
  refine item_L n.K (seqAt_of hk) ?_
  walk_at "u"
  refine nd_fn nk rfl ?_
  walk_at "u"
  refine nd_c n ?_
  walk_at "u"
  refine c_cow (ex := ex) B (by lia) R ht hrk he hc hl i1 i2 (fun e => ?_) fun e H' a' r' hf h1 h2 h3 h4 s1 => ?_
  · walk_at "u"
    refine kq _ k N rk (Step.refl R) ⟨?_, hrk, e, rfl, rfl, rfl, .inl rfl, fun b s _ h => h⟩
    rw [set_same hk]; exact hr
  · have hne : a ≠ a' := fun e => nf_I n.I (e ▸ hf)
    have hr1 : (upd N a' r') a = some r := (upd_off hne).trans hr
    have n1 := s1.rep.nd a r hr1
    have n1' := s1.rep.nd a' r' upd_at
    walk_at "u"
    refine t_node n1'.I ?_
    walk_at "u"
    refine nd_k n1 ?_
    walk_at "u"
    refine si_L n1.K (by lia) (by rw [refs_length]; lia) ?_
    walk_at "u"
    rw [show ((i : Int)).toNat = i from by lia, refs_set]
    have s2 := Step.setK (ex := ex) (xs := r.ch.set i a') s1.rep hr1
    refine kq _ a' _ r' (s1.trans s2) ⟨upd_at, (upd_off (Ne.symm hne)).trans upd_at, h1, h3, h4, h2, .inr (free_none R hf), fun b s hb h => ?_⟩
    rw [upd_off hb]
    refine (upd_off fun e => ?_).trans h
    subst e
    rw [free_none R hf] at h; cases h
end
structure Kid (N : NM) (W : Addr → Prop) (t : Int) (k : Addr) (e : List Addr) : Prop where
  ex : ∃ r, N k = some r ∧ r.lf = true ∧ r.es = e ∧ r.ch = [] ∧ W r.c
  lo : t - 1 ≤ e.length
  hi : (e.length : Int) ≤ 2 * t - 1
abbrev PL := List (Addr × List Addr × Addr)
abbrev RL := List (Addr × Addr × List Addr)
structure ZT (N : NM) (W : Addr → Prop) (t : Int) (a : Addr) (r : NR) (P : PL) (k : Addr) (e : List Addr) (R : RL) : Prop where
  top : N a = some r
  lf : r.lf = false
  c : W r.c
  es : r.es = P.map (·.2.2) ++ R.map (·.1)
  ch : r.ch = P.map (·.1) ++ k :: R.map (·.2.1)
  kP : ∀ p ∈ P, Kid N W t p.1 p.2.1
  kk : Kid N W t k e
  kR : ∀ p ∈ R, Kid N W t p.2.1 p.2.2
  nd : r.ch.Nodup
noncomputable def fP (P : PL) : List Addr := P.flatMap fun p => p.2.1 ++ [p.2.2]
noncomputable def fR (R : RL) : List Addr := R.flatMap fun p => p.1 :: p.2.2
inductive Tree (N : NM) (W : Addr → Prop) (t : Int) (a : Addr) (S : List Addr) : Prop
  | leaf (r : NR) (h : N a = some r) (lf : r.lf = true) (es : r.es = S) (ch : r.ch = []) (c : W r.c) (hi : (S.length : Int) ≤ 2 * t - 1)
  | node (r : NR) (P : PL) (k : Addr) (e : List Addr) (R : RL) (Z : ZT N W t a r P k e R) (s : S = fP P ++ (e ++ fR R)) (one : P = [] → R = [] → t ≤ e.length)
section
variable {N N' : NM} {W : Addr → Prop} {t : Int} {a k : Addr} {r : NR} {P : PL} {e : List Addr} {R : RL} {κ : Addr → Int} {S : List Addr}
theorem fP_nil : fP [] = [] := rfl
theorem fR_nil : fR [] = [] := rfl
theorem fP_snoc (P : PL) (k : Addr) (e : List Addr) (x : Addr) : fP (P ++ [(k, e, x)]) = fP P ++ (e ++ [x]) := by simp [fP]
theorem fR_cons (R : RL) (k : Addr) (e : List Addr) (x : Addr) : fR ((x, k, e) :: R) = x :: (e ++ fR R) := by simp [fR]
theorem sub_P : ∀ P : PL, (P.map (·.2.2)).Sublist (fP P)
  | [] => .slnil
  | (k, e, x) :: P => by
    have : fP ((k, e, x) :: P) = e ++ (x :: fP P) := by simp [fP]
    rw [this, List.map_cons]
    exact ((sub_P P).cons_cons x).trans (List.sublist_append_right _ _)
theorem sub_R : ∀ R : RL, (R.map (·.1)).Sublist (fR R)
  | [] => .slnil
  | (x, k, e) :: R => by
    rw [fR_cons, List.map_cons]
    exact ((sub_R R).trans (List.sublist_append_right _ _)).cons_cons x
theorem ZT.sub (Z : ZT N W t a r P k e R) : r.es.Sublist (fP P ++ (e ++ fR R)) := by
  rw [Z.es]
  exact (sub_P P).append ((sub_R R).trans (List.sublist_append_right _ _))
theorem ZT.len (Z : ZT N W t a r P k e R) : r.es.length = P.length + R.length := by rw [Z.es]; simp
theorem ZT.clen (Z : ZT N W t a r P k e R) : r.ch.length = P.length + R.length + 1 := by rw [Z.ch]; simp; lia
theorem ZT.sorted (Z : ZT N W t a r P k e R) (hs : ((fP P ++ (e ++ fR R)).map κ).Pairwise (· < ·)) : (r.es.map κ).Pairwise (· < ·) := hs.sublist (Z.sub.map κ)
theorem ZT.kid (Z : ZT N W t a r P k e R) : r.ch[P.length]? = some k := by rw [Z.ch]; simp
theorem ZT.right {x k1 : Addr} {e1 : List Addr} (Z : ZT N W t a r P k e ((x, k1, e1) :: R)) : ZT N W t a r (P ++ [(k, e, x)]) k1 e1 R :=
  ⟨Z.top, Z.lf, Z.c, by rw [Z.es]; simp, by rw [Z.ch]; simp, fun p hp => by
    rcases List.mem_append.mp hp with h | h
    · exact Z.kP p h
    · rw [List.mem_singleton] at h; subst h; exact Z.kk, Z.kR (x, k1, e1) (by simp), fun p hp => Z.kR p (by simp [hp]), Z.nd⟩
theorem ZT.left {x k1 : Addr} {e1 : List Addr} (Z : ZT N W t a r (P ++ [(k1, e1, x)]) k e R) : ZT N W t a r P k1 e1 ((x, k, e) :: R) :=
  ⟨Z.top, Z.lf, Z.c, by rw [Z.es]; simp, by rw [Z.ch]; simp, fun p hp => Z.kP p (by simp [hp]), Z.kP (k1, e1, x) (by simp), fun p hp => by
    rcases List.mem_cons.mp hp with h | h
    · subst h; exact Z.kk
    · exact Z.kR p h, Z.nd⟩
theorem fs_right (P : PL) (k : Addr) (e : List Addr) (x k1 : Addr) (e1 : List Addr) (R : RL) : fP (P ++ [(k, e, x)]) ++ (e1 ++ fR R) = fP P ++ (e ++ fR ((x, k1, e1) :: R)) := by simp [fP_snoc, fR_cons]
inductive ZTFirst (N : NM) (W : Addr → Prop) (t : Int) (a : Addr) (r : NR) (l : List Addr) : Prop
  | mk (k' : Addr) (e' : List Addr) (R' : RL) (Z : ZT N W t a r [] k' e' R') (q : fP [] ++ (e' ++ fR R') = l)
theorem ZT.first (n : Nat) : ∀ {P : PL} {k : Addr} {e : List Addr} {R : RL}, P.length = n → ZT N W t a r P k e R → ZTFirst N W t a r (fP P ++ (e ++ fR R)) := by
  induction n with
  | zero =>
    intro P k e R h Z
    cases List.length_eq_zero_iff.mp h
    exact ⟨k, e, R, Z, rfl⟩
  | succ n ih =>
    intro P k e R h Z
    have hne : P ≠ [] := by intro q; subst q; simp at h
    obtain ⟨P0, ⟨k1, e1, x⟩, rfl⟩ : ∃ l' x, P = l' ++ [x] := ⟨P.dropLast, P.getLast hne, (List.dropLast_concat_getLast hne).symm⟩
    rw [fs_right]
    exact ih (by simpa using h) Z.left
inductive ZTMove (N : NM) (W : Addr → Prop) (t : Int) (a : Addr) (r : NR) (l : List Addr) (n : Nat) : Prop
  | mk (P' : PL) (k' : Addr) (e' : List Addr) (R' : RL) (Z : ZT N W t a r P' k' e' R') (q : fP P' ++ (e' ++ fR R') = l) (hn : P'.length = n)
theorem ZT.move (i : Nat) : ∀ {P : PL} {k : Addr} {e : List Addr} {R : RL}, i ≤ R.length → ZT N W t a r P k e R → ZTMove N W t a r (fP P ++ (e ++ fR R)) (P.length + i) := by
  induction i with
  | zero => exact fun _ Z => ⟨_, _, _, _, Z, rfl, rfl⟩
  | succ i ih =>
    intro P k e R h Z
    cases R with
    | nil => cases h
    | cons p R =>
      obtain ⟨x, k1, e1⟩ := p
      have := ih (Nat.le_of_succ_le_succ h) Z.right
      rw [fs_right, List.length_append] at this
      rw [Nat.add_comm i 1, ← Nat.add_assoc]
      exact this
theorem ZT.focus (Z : ZT N W t a r P k e R) {i : Nat} (hi : i ≤ r.es.length) : ZTMove N W t a r (fP P ++ (e ++ fR R)) i := by
  obtain ⟨k0, e0, R0, Z0, q0⟩ := ZT.first _ rfl Z
  have := ZT.move i (by have := Z0.len; simp at this; lia) Z0
  rw [q0, List.length_nil, Nat.zero_add] at this
  exact this
theorem ZT.sep_at (Z : ZT N W t a r P k e R) {x : Addr} (h : r.es[P.length]? = some x) : ∃ k1 e1 R', R = (x, k1, e1) :: R' := by
  rw [Z.es] at h
  match R with
  | [] => simp at h
  | (y, k1, e1) :: R' =>
    simp at h; subst h
    exact ⟨k1, e1, R', rfl⟩
theorem snoc_of {α : Type} {l : List α} (h : l ≠ []) : ∃ l' x, l = l' ++ [x] := ⟨l.dropLast, l.getLast h, (List.dropLast_concat_getLast h).symm⟩
theorem ZT.miss (Z : ZT N W t a r P k e R) (hs : ((fP P ++ (e ++ fR R)).map κ).Pairwise (· < ·)) {key : Int} {i : Nat} (sr : Sr (r.es.map κ) key i false) :
    ∃ P' k' e' R', ZT N W t a r P' k' e' R' ∧ fP P' ++ (e' ++ fR R') = fP P ++ (e ++ fR R) ∧ P'.length = i ∧ (∀ y ∈ fP P', κ y < key) ∧ (∀ y ∈ fR R', key < κ y) := by
  obtain ⟨P', k', e', R', Z', q, rfl⟩ := Z.focus (by simpa using sr.le)
  refine ⟨P', k', e', R', Z', q, rfl, ?_, ?_⟩
  · by_cases hP : P' = []
    · subst hP; simp [fP]
    · obtain ⟨P0, ⟨k1, e1, x⟩, rfl⟩ := snoc_of hP
      have hx : κ x < key := by
        refine sr.lo P0.length (κ x) (by simp) ?_
        rw [Z'.es, List.getElem?_map]
        simp
      rw [← q, fP_snoc] at hs
      intro y hy
      rw [fP_snoc] at hy
      simp only [List.map_append, List.append_assoc, List.map_cons, List.map_nil] at hs
      rw [← List.append_assoc] at hs hy
      rcases List.mem_append.mp hy with h | h
      · have := (List.pairwise_append.mp hs).2.2 (κ y) (by rw [← List.map_append]; exact List.mem_map_of_mem h) (κ x) (by simp)
        lia
      · rw [List.mem_singleton] at h; subst h; exact hx
  · match R' with
    | [] => simp [fR]
    | (x, k1, e1) :: R0 =>
      have hx : key < κ x := by
        refine sr.hi rfl P'.length (κ x) (Nat.le_refl _) ?_
        rw [Z'.es, List.getElem?_map]
        simp
      rw [← q, fR_cons] at hs
      intro y hy
      rw [fR_cons] at hy
      rcases List.mem_cons.mp hy with h | h
      · subst h; exact hx
      · have h1 : ((x :: (e1 ++ fR R0)).map κ).Pairwise (· < ·) := hs.sublist (((List.sublist_append_right e' _).trans (List.sublist_append_right (fP P') _)).map κ)
        rw [List.map_cons, List.pairwise_cons] at h1
        have := h1.1 (κ y) (List.mem_map_of_mem h)
        lia
theorem ZT.hit (Z : ZT N W t a r P k e R) {key : Int} {i : Nat} (sr : Sr (r.es.map κ) key i true) :
    ∃ P' k' e' x k1 e1 R', ZT N W t a r P' k' e' ((x, k1, e1) :: R') ∧ fP P' ++ (e' ++ fR ((x, k1, e1) :: R')) = fP P ++ (e ++ fR R) ∧ P'.length = i ∧ κ x = key ∧ r.es[i]? = some x := by
  obtain ⟨P', k', e', R', Z', q, rfl⟩ := Z.focus (by simpa using sr.le)
  have h := sr.hit rfl
  rw [List.getElem?_map] at h
  obtain ⟨x, hx, hk⟩ := Option.map_eq_some_iff.mp h
  obtain ⟨k1, e1, R0, rfl⟩ := Z'.sep_at hx
  exact ⟨P', k', e', x, k1, e1, R0, Z', q, rfl, hk, hx⟩
theorem ZT.stops (Z : ZT N W t a r P k e R) {key : Int} {i : Nat} {b : Bool} (hl : ∀ y ∈ fP P, κ y < key) (hr : ∀ y ∈ fR R, key < κ y) (sr : Sr (r.es.map κ) key i b) : b = false ∧ i = P.length := by
  have lo : ∀ j x, j < P.length → (r.es.map κ)[j]? = some x → x < key := fun j x hj hx => by
    rw [Z.es, List.map_append, List.getElem?_append_left (by simpa using hj)] at hx
    obtain ⟨y, hy, rfl⟩ := List.mem_map.mp (List.mem_of_getElem? hx)
    exact hl y ((sub_P P).subset hy)
  have hi : ∀ j x, P.length ≤ j → (r.es.map κ)[j]? = some x → key < x := fun j x hj hx => by
    rw [Z.es, List.map_append, List.getElem?_append_right (by simpa using hj)] at hx
    obtain ⟨y, hy, rfl⟩ := List.mem_map.mp (List.mem_of_getElem? hx)
    exact hr y ((sub_R R).subset hy)
  have hi' : i = P.length := by
    by_cases h1 : i < P.length
    · obtain ⟨x, hx⟩ : ∃ x, (r.es.map κ)[i]? = some x := ⟨_, List.getElem?_eq_getElem (by rw [List.length_map, Z.len]; lia)⟩
      have := lo i x h1 hx
      cases b with
      | true => have := sr.hit rfl; rw [hx] at this; cases this; lia
      | false => have := sr.hi rfl i x (Nat.le_refl _) hx; lia
    · by_cases h2 : P.length < i
      · have := sr.le
        obtain ⟨x, hx⟩ : ∃ x, (r.es.map κ)[P.length]? = some x := ⟨_, List.getElem?_eq_getElem (by lia)⟩
        have h3 := sr.lo _ x h2 hx
        have h4 := hi _ x (Nat.le_refl _) hx
        lia
      · lia
  subst hi'
  refine ⟨?_, rfl⟩
  cases b with
  | false => rfl
  | true => have := hi _ key (Nat.le_refl _) (sr.hit rfl); lia
end
inductive FindR (κ : Addr → Int) (S : List Addr) (key : Int) (v : AV) : Prop
  | inl (A : List Addr) (x : Addr) (B : List Addr) (h1 : S = A ++ x :: B) (h2 : κ x = key) (h3 : v = .ref x)
  | inr (h1 : ∀ x ∈ S, κ x ≠ key) (h3 : v = .none)
theorem FindR.val {κ : Addr → Int} {S : List Addr} {key : Int} {v : AV} (f : FindR κ S key v) : v = .none ∨ ∃ x, v = .ref x := by
  rcases f with ⟨_, x, _, _, _, e⟩ | ⟨_, e⟩
  · exact .inr ⟨x, e⟩
  · exact .inl e
section
variable {κ : Addr → Int} {es : List Addr} {key : Int} {i : Nat}
theorem Sr.split_hit (sr : Sr (es.map κ) key i true) : ∃ x, es[i]? = some x ∧ κ x = key ∧ es = es.take i ++ x :: es.drop (i + 1) := by
  have h := sr.hit rfl
  rw [List.getElem?_map] at h
  obtain ⟨x, hx, hk⟩ := Option.map_eq_some_iff.mp h
  obtain ⟨h1, h2⟩ := List.getElem?_eq_some_iff.mp hx
  refine ⟨x, hx, hk, ?_⟩
  rw [← h2, List.getElem_cons_drop, List.take_append_drop]
theorem Sr.split_miss (sr : Sr (es.map κ) key i false) : i ≤ es.length ∧ (∀ y ∈ es.take i, κ y < key) ∧ (∀ y ∈ es.drop i, key < κ y) := by
  have hle : i ≤ es.length := by simpa using sr.le
  refine ⟨hle, fun y hy => ?_, fun y hy => ?_⟩
  · obtain ⟨j, hj, e⟩ := List.getElem_of_mem hy
    rw [List.getElem_take] at e
    rw [List.length_take] at hj
    refine sr.lo j (κ y) (by lia) ?_
    rw [List.getElem?_map, List.getElem?_eq_getElem (by lia), e]; rfl
  · obtain ⟨j, hj, e⟩ := List.getElem_of_mem hy
    rw [List.getElem_drop] at e
    rw [List.length_drop] at hj
    refine sr.hi rfl (i + j) (κ y) (by lia) ?_
    rw [List.getElem?_map, List.getElem?_eq_getElem (by lia), e]; rfl
theorem Sr.none (sr : Sr (es.map κ) key i false) : ∀ x ∈ es, κ x ≠ key := by
  obtain ⟨h1, h2, h3⟩ := sr.split_miss
  intro x hx
  rw [← List.take_append_drop i es] at hx
  rcases List.mem_append.mp hx with h | h
  · have := h2 x h; lia
  · have := h3 x h; lia
end
section
variable {cx : Cx} {tn : Bool} {H H' : AH} {X : Value → AH → Prop} {t : Int} {N N' : NM} {h : Nat} {κ : Addr → Int} {ex : Addr → Prop} {W : Addr → Prop}
theorem c_get_leaf (B : Bod cx) (hh : 3 ≤ h) {a : Addr} {r : NR} {key : Int} (n : Nd H t a r) (hlf : r.lf = true) (hn : r.es.length < 1000) (hel : ∀ x ∈ r.es, El H κ x) (hs : (r.es.map κ).Pairwise (· < ·)) {Q : AV → AH → Prop} (kq : ∀ v H', FindR κ r.es key v → TM H H' → Q v H') :
    CallOK cx h false (.ref 126) [.ref a, .int key] H Q X := by
  refine call_of' B.T (by lia) B.f126 rfl (fun q => by cases q) fun m _ => ?_
  intro K0
  unfold f__Node_get
  walk_at "u"
  refine nd_fn n rfl ?_
  walk_at "u"
  refine c_search B (by lia) n hn hel hs fun H1 tp i b hT m1 sr => ?_
  have n1 := n.tm m1
  walk_at "u"
  refine asT hT ?_
  walk_at "u"
  cases b with
  | true =>
    obtain ⟨x, hx, hk, hsp⟩ := sr.split_hit
    walk_at "u"
    refine nd_e n1 ?_
    walk_at "u"
    refine item_L n1.E (seqAt_of hx) ?_
    walk_at "u"
    exact kq _ _ (.inl _ x _ hsp hk rfl) m1
  | false =>
    walk_at "u"
    refine nd_lf n1 ?_
    walk_at "u"
    rw [hlf]
    walk_at "u"
    exact kq _ _ (.inr sr.none rfl) m1
theorem FindR.lift {S : List Addr} {key : Int} {v : AV} (f : FindR κ S key v) {A B : List Addr} (hA : ∀ y ∈ A, κ y < key) (hB : ∀ y ∈ B, key < κ y) : FindR κ (A ++ (S ++ B)) key v := by
  rcases f with ⟨A', x, B', rfl, h1, h2⟩ | ⟨h1, h2⟩
  · exact .inl (A ++ A') x (B' ++ B) (by simp) h1 h2
  · refine .inr (fun x hx => ?_) h2
    rcases List.mem_append.mp hx with h | h
    · have := hA x h; lia
    · rcases List.mem_append.mp h with h | h
      · exact h1 x h
      · have := hB x h; lia
structure Good (H : AH) (κ : Addr → Int) (W : Addr → Prop) (t : Int) (S : List Addr) : Prop where
  t : 3 ≤ t ∧ t ≤ 5
  el : ∀ x ∈ S, El H κ x
  so : (S.map κ).Pairwise (· < ·)
  len : S.length ≤ 17
  cr : ∀ c, W c → H.I c ≠ none
theorem Good.tm {S : List Addr} (g : Good H κ W t S) (m : TM H H') : Good H' κ W t S := ⟨g.t, fun x hx => (g.el x hx).tm m, g.so, g.len, fun c hc => by rw [m.I]; exact g.cr c hc⟩
theorem Good.step {S : List Addr} (R : Rep t H N) (g : Good H κ W t S) (s : Step no t H N H' N') : Good H' κ W t S := ⟨g.t, fun x hx => (g.el x hx).step R s (fun h => h), g.so, g.len, fun c hc => s.inst c (g.cr c hc)⟩
theorem Good.sub {S S' : List Addr} (g : Good H κ W t S) (h : S'.Sublist S) : Good H κ W t S' := ⟨g.t, fun x hx => g.el x (h.subset hx), g.so.sublist (h.map κ), Nat.le_trans h.length_le g.len, g.cr⟩
theorem mid_sub (A S B : List Addr) : S.Sublist (A ++ (S ++ B)) := (List.sublist_append_left S B).trans (List.sublist_append_right A _)
theorem c_get_root (B : Bod cx) (hh : 4 ≤ h) (R : Rep t H N) {a : Addr} {S : List Addr} {key : Int} (T : Tree N W t a S) (g : Good H κ W t S) {Q : AV → AH → Prop} (kq : ∀ v H', FindR κ S key v → TM H H' → Q v H') :
    CallOK cx h false (.ref 126) [.ref a, .int key] H Q X := by
  cases T with
  | leaf r ha hlf hes hch hc hi =>
    subst hes
    exact c_get_leaf B (by lia) (R.nd a r ha) hlf (by have := g.len; lia) g.el g.so kq
  | node r P k e Rl Z hS one =>
    subst hS
    have n := R.nd a r Z.top
    refine call_of' B.T (by lia) B.f126 rfl (fun q => by cases q) fun m _ => ?_
    intro K0
    unfold f__Node_get
    walk_at "u"
    refine nd_fn n rfl ?_
    walk_at "u"
    refine c_search B (by lia) n (by have := Z.sub.length_le; have := g.len; lia) (fun x hx => g.el x (Z.sub.subset hx)) (Z.sorted g.so) fun H1 tp i b hT m1 sr => ?_
    have n1 := n.tm m1
    walk_at "u"
    refine asT hT ?_
    walk_at "u"
    cases b with
    | true =>
      obtain ⟨P', k', e', x, k1, e1, R', Z', q, rfl, hk, hx⟩ := Z.hit sr
      walk_at "u"
      refine nd_e n1 ?_
      walk_at "u"
      refine item_L n1.E (seqAt_of hx) ?_
      walk_at "u"
      refine kq _ _ (.inl (fP P' ++ e') x (e1 ++ fR R') ?_ hk rfl) m1
      rw [← q, fR_cons]; simp
    | false =>
      walk_at "u"
      refine nd_lf n1 ?_
      walk_at "u"
      rw [Z.lf]
      walk_at "u"
      obtain ⟨P', k', e', R', Z', q, rfl, hl, hr⟩ := Z.miss g.so sr
      obtain ⟨rk, hrk, hlf, rfl, hch, hw⟩ := Z'.kk.ex
      have nk := (R.nd k' rk hrk).tm m1
      rw [← q] at g
      have gk := (g.tm m1).sub (mid_sub _ _ _)
      walk_at "u"
      refine nd_k n1 ?_
      walk_at "u"
      refine item_L n1.K (seqAt_of Z'.kid) ?_
      walk_at "u"
      refine nd_fn nk rfl ?_
      walk_at "u"
      refine c_get_leaf B (by lia) nk hlf (by have := gk.len; lia) gk.el gk.so fun v H2 f m2 => ?_
      exact kq _ _ (q ▸ f.lift hl hr) (m1.trans m2)
theorem c_minimum (B : Bod cx) (hh : 1 ≤ h) {a x : Addr} {r : NR} (n : Nd H t a r) (hlf : r.lf = true) (hx : r.es[0]? = some x) {Q : AV → AH → Prop} (kq : Q (.ref x) H) :
    CallOK cx h false (.ref 182) [.ref a] H Q X := by
  refine call_of' B.T (by lia) B.f182 rfl (fun q => by cases q) fun m _ => ?_
  intro K0
  unfold f__Node_minimum
  walk_at "u"
  refine nd_lf n ?_
  walk_at "u"
  rw [hlf]
  walk_at "u"
  refine nd_e n ?_
  walk_at "u"
  refine item_L n.E (seqAt_of (i := 0) hx) ?_
  walk_at "u"
  exact kq 
end
set_option linter.unusedSimpArgs false
theorem ndF_lf' {t : Int} {r : NR} {b : Bool} (h : r.lf = b) : (ndF t r).lookup "is_leaf" = some (.bool b) := by rw [← h]; rfl
inductive InsR (κ : Addr → Int) (S : List Addr) (x : Addr) (v : AV) (S' : List Addr) : Prop
  | inl (A : List Addr) (old : Addr) (B : List Addr) (h1 : S = A ++ old :: B) (h2 : κ old = κ x) (h3 : S' = A ++ x :: B) (h4 : v = .ref old)
  | inr (A B : List Addr) (h1 : S = A ++ B) (h2 : S' = A ++ x :: B) (h3 : v = .none) (h4 : ∀ y ∈ A, κ y < κ x) (h5 : ∀ y ∈ B, κ x < κ y)
section
variable {cx : Cx} {tn : Bool} {H H' : AH} {X : Value → AH → Prop} {t : Int} {N N' : NM} {h : Nat} {κ : Addr → Int} {ex : Addr → Prop} {W : Addr → Prop}
theorem InsR.lift {S S' : List Addr} {x : Addr} {v : AV} (f : InsR κ S x v S') {A B : List Addr} (hA : ∀ y ∈ A, κ y < κ x) (hB : ∀ y ∈ B, κ x < κ y) : InsR κ (A ++ (S ++ B)) x v (A ++ (S' ++ B)) := by
  rcases f with ⟨A', o, B', rfl, h1, rfl, h2⟩ | ⟨A', B', rfl, rfl, h2, h3, h4⟩
  · exact .inl (A ++ A') o (B' ++ B) (by simp) h1 (by simp) h2
  · refine .inr (A ++ A') (B' ++ B) (by simp) (by simp) h2 (fun y hy => ?_) (fun y hy => ?_)
    · exact (List.mem_append.mp hy).elim (hA y) (h3 y)
    · exact (List.mem_append.mp hy).elim (h4 y) (hB y)
theorem InsR.so {S S' : List Addr} {x : Addr} {v : AV} (f : InsR κ S x v S') (hs : (S.map κ).Pairwise (· < ·)) : (S'.map κ).Pairwise (· < ·) := by
  rcases f with ⟨A, o, B, rfl, h1, rfl, h2⟩ | ⟨A, B, rfl, rfl, h2, h3, h4⟩
  · simpa [h1] using hs
  · rw [List.map_append, List.pairwise_append] at hs
    rw [List.map_append, List.map_cons, List.pairwise_append, List.pairwise_cons]
    refine ⟨hs.1, ⟨?_, hs.2.1⟩, ?_⟩
    · intro y hy
      obtain ⟨z, hz, rfl⟩ := List.mem_map.mp hy
      exact h4 z hz
    · intro y hy z hz
      obtain ⟨y, hy', rfl⟩ := List.mem_map.mp hy
      rcases List.mem_cons.mp hz with rfl | hz
      · exact h3 y hy'
      · exact hs.2.2 _ hy z hz
theorem InsR.mem {S S' : List Addr} {x : Addr} {v : AV} (f : InsR κ S x v S') : ∀ y ∈ S', y = x ∨ y ∈ S := by
  intro y hy
  rcases f with ⟨A, o, B, rfl, h1, rfl, h2⟩ | ⟨A, B, rfl, rfl, h2, h3, h4⟩
  · rcases List.mem_append.mp hy with h | h
    · exact .inr (by simp [h])
    · rcases List.mem_cons.mp h with h | h
      · exact .inl h
      · exact .inr (by simp [h])
  · rcases List.mem_append.mp hy with h | h
    · exact .inr (by simp [h])
    · rcases List.mem_cons.mp h with h | h
      · exact .inl h
      · exact .inr (by simp [h])
theorem InsR.len {S S' : List Addr} {x : Addr} {v : AV} (f : InsR κ S x v S') : S.length ≤ S'.length ∧ S'.length ≤ S.length + 1 := by
  rcases f with ⟨A, o, B, rfl, h1, rfl, h2⟩ | ⟨A, B, rfl, rfl, h2, h3, h4⟩ <;> simp <;> lia
theorem c_insert_leaf (B : Bod cx) (hh : 4 ≤ h) (R : Rep t H N) (ht : 3 ≤ t ∧ t ≤ 5) {a x : Addr} {r : NR} {io : AV} (hr : N a = some r) (hlf : r.lf = true) (hn : (r.es.length : Int) < 2 * t - 1) (hel : ∀ x ∈ r.es, El H κ x) (hs : (r.es.map κ).Pairwise (· < ·)) (hx : El H κ x) {Q : AV → AH → Prop} (kq : ∀ v H' es', InsR κ r.es x v es' → Step ex t H N H' (upd N a { r with es := es' }) → Q v H') :
    CallOK cx h false (.ref 140) [.ref a, .ref x, io] H Q X := by
  have n := R.nd a r hr
  refine call_of' B.T (by lia) B.f140 rfl (fun q => by cases q) fun m _ => ?_
  intro K0
  unfold f__Node_insert_nonfull
  walk_at "u"
  refine nd_fn n rfl ?_
  walk_at "u"
  refine c_is_maximal B (by lia) n ht (by lia) ?_
  rw [decide_eq_false (by lia)]
  walk_at "u"
  refine ⟨by walk_at "r", ?_⟩
  walk_at "u"
  refine ⟨fun k σ H' => H' = H ∧ σ "self" = some (.ref a) ∧ σ "element" = some (.ref x) ∧ σ "in_order" = some io, 0, ⟨rfl, rfl, rfl, rfl⟩, ?_⟩
  rintro _ σ _ ⟨rfl, e1, e2, e3⟩
  walk_at "u"
  refine w_key B (by lia) hx ?_
  walk_at "u"
  refine nd_fn n rfl ?_
  walk_at "u"
  refine c_search B (by lia) n (by lia) hel hs fun H2 tp i b hT m1 sr => ?_
  have n1 := n.tm m1
  have s1 := m1.step (ex := ex) R
  walk_at "u"
  refine asT hT ?_
  walk_at "u"
  cases b with
  | true =>
    obtain ⟨old, hold, hk, hsp⟩ := sr.split_hit
    have hi : i < r.es.length := (List.getElem?_eq_some_iff.mp hold).1
    walk_at "u"
    refine nd_e n1 ?_
    walk_at "u"
    refine item_L n1.E (seqAt_of hold) ?_
    walk_at "u"
    refine nd_e n1 ?_
    walk_at "u"
    refine si_L n1.E (by lia) (by rw [refs_length]; lia) ?_
    walk_at "u"
    rw [show ((i : Int)).toNat = i from by lia, refs_set]
    have s2 := Step.setE (ex := ex) (xs := r.es.set i x) s1.rep hr
    refine kq _ _ (r.es.set i x) (.inl _ old _ hsp hk ?_ rfl) (s1.trans s2)
    rw [List.set_eq_take_append_cons_drop, if_pos hi]
  | false =>
    obtain ⟨hi, hA, hB⟩ := sr.split_miss
    walk_at "u"
    refine nd_lf' n1 hlf ?_
    walk_at "u"
    refine nd_e n1 ?_
    walk_at "u"
    refine meth_L n1.E (by simp) ?_
    walk_at "u"
    refine w_insert n1.E (by lia) (by rw [refs_length]; lia) (by rw [refs_length]; lia) ?_
    walk_at "u"
    rw [show ((i : Int)).toNat = i from by lia, refs_take, refs_drop, ← refs_cons, ← refs_append]
    have s2 := Step.setE (ex := ex) (xs := r.es.take i ++ x :: r.es.drop i) s1.rep hr
    exact kq _ _ _ (.inr _ _ ((List.take_append_drop i r.es).symm) rfl rfl hA hB) (s1.trans s2)
end
section
variable {cx : Cx} {tn : Bool} {H H' : AH} {X : Value → AH → Prop} {t : Int} {N N' : NM} {h : Nat} {κ : Addr → Int} {ex : Addr → Prop} {W : Addr → Prop}
theorem Step.freshL {l : Addr} {xs : List AV} (R : Rep t H N) (hf : H.free l) : Step ex t H N (H.setL l xs) N := Step.setL R (.inl hf)
theorem Step.putE {a l : Addr} {r : NR} {es : List Addr} (R : Rep t H N) (hr : N a = some r) (hf : H.free l) :
    Step ex t H N ((H.setL l (refs es)).setI a 234 (ndF t { r with e := l })) (upd N a { r with e := l, es := es }) := by
  have n := R.nd a r hr
  have hk : r.k ≠ l := fun e => nf_L n.K (e ▸ hf)
  refine Step.put R upd_at upd_at ?_ (Ne.symm hk) (.inr (by rw [hr]; simp)) (.inl hf) (.inr ⟨r, hr, rfl⟩) ?_ ?_ (fun _ _ => rfl) (fun _ _ => rfl) (fun _ _ => rfl) (fun b h => nf_setI (nf_setL h))
  · exact (upd_off hk).trans n.K
  · intro b h1 h2 h3; exact upd_off h1
  · intro b h1 h2; exact upd_off h1
theorem Step.putK {a l : Addr} {r : NR} {ch : List Addr} (R : Rep t H N) (hr : N a = some r) (hf : H.free l) :
    Step ex t H N ((H.setL l (refs ch)).setI a 234 (ndF t { r with k := l })) (upd N a { r with k := l, ch := ch }) := by
  have n := R.nd a r hr
  have he : r.e ≠ l := fun e => nf_L n.E (e ▸ hf)
  refine Step.put R upd_at ?_ upd_at he (.inr (by rw [hr]; simp)) (.inr ⟨r, hr, rfl⟩) (.inl hf) ?_ ?_ (fun _ _ => rfl) (fun _ _ => rfl) (fun _ _ => rfl) (fun b h => nf_setI (nf_setL h))
  · exact (upd_off he).trans n.E
  · intro b h1 h2 h3; exact upd_off h2
  · intro b h1 h2; exact upd_off h1
theorem list_L {l : Addr} {xs : List AV} {Q : AV → AH → Prop} (h1 : H.L l = some xs) (h2 : ∀ a, H.free a → Q (.ref a) (H.setL a xs)) : bcP cx h tn X .list [.ref l] H Q := .list l xs rfl rfl h1 h2
theorem ndF_len (r : NR) : (ndF t r).length < 100 := by show 5 < 100; lia
theorem c_split (B : Bod cx) (hh : 3 ≤ h) (R : Rep t H N) (ht : 3 ≤ t ∧ t ≤ 5) {a : Addr} {r : NR} (hr : N a = some r) (hlf : r.lf = true) (hch : r.ch = []) (hn : (r.es.length : Int) = 2 * t - 1) {Q : AV → AH → Prop} (kq : ∀ H' tp mid rt N' ra rr, H'.T tp = some [.ref a, .ref mid, .ref rt] → Step ex t H N H' N' → N' a = some ra → N' rt = some rr → N rt = none → ra.c = r.c → rr.c = r.c → ra.lf = true → rr.lf = true → ra.ch = [] → rr.ch = [] → r.es = ra.es ++ mid :: rr.es → (ra.es.length : Int) = t - 1 → (rr.es.length : Int) = t - 1 → (∀ b s, b ≠ a → N b = some s → N' b = some s) → Q (.ref tp) H') :
    CallOK cx h false (.ref 147) [.ref a] H Q X := by
  have n := R.nd a r hr
  obtain ⟨T, hT⟩ : ∃ T : Nat, t = T := ⟨t.toNat, by lia⟩
  subst hT
  refine call_of' B.T (by lia) B.f147 rfl (fun q => by cases q) fun m _ => ?_
  intro K0
  unfold f__Node_split
  walk_at "u"
  refine nd_fn n rfl ?_
  walk_at "u"
  refine c_is_maximal B (by lia) n ht (by lia) ?_
  rw [decide_eq_true hn]
  walk_at "u"
  refine ⟨rfl, ?_⟩
  walk_at "u"
  refine nd_t n ?_
  walk_at "u"
  refine nd_c n ?_
  walk_at "u"
  refine nd_lf n ?_
  walk_at "u"
  refine c_new (ex := ex) B (by lia) R ht fun H2 rt r0 hf h1 h2 h3 h4 s1 => ?_
  have hne : a ≠ rt := fun e => nf_I n.I (e ▸ hf)
  have hr1 : (upd N rt r0) a = some r := (upd_off hne).trans hr
  have n1 := s1.rep.nd a r hr1
  have m1 := s1.rep.nd rt r0 upd_at
  walk_at "u"
  refine nd_e n1 ?_
  walk_at "u"
  refine nd_t n1 ?_
  walk_at "u"
  refine c_MIN B (by lia) ?_
  walk_at "u"
  refine from_L n1.E (by rw [refs_length]; lia) (by lia) fun l1 hl1 => ?_
  have s2 := s1.trans (Step.freshL (ex := ex) (xs := List.drop (((T : Int) - 1 + 1)).toNat (refs r.es)) s1.rep hl1)
  generalize hH4 : H2.setL l1 (List.drop (((T : Int) - 1 + 1)).toNat (refs r.es)) = H4 at s2 ⊢
  have hL4 : H4.L l1 = some (refs (r.es.drop T)) := by rw [← hH4, ← refs_drop, show ((T : Int) - 1 + 1).toNat = T by lia]; exact upd_at
  walk_at "u"
  refine list_L hL4 fun l2 hl2 => ?_
  walk_at "u"
  have m2 := s2.rep.nd rt r0 upd_at
  walk_at "u"
  refine sa2 m2.I (ndF_len _) (by decide) ?_
  rw [putE_nd]
  have s3 := s2.trans (Step.putE (ex := ex) (es := r.es.drop T) s2.rep upd_at hl2)
  have hu : upd (upd N rt r0) rt { e := l2, k := r0.k, c := r0.c, lf := r0.lf, es := r.es.drop T, ch := r0.ch } = upd N rt { e := l2, k := r0.k, c := r0.c, lf := r0.lf, es := r.es.drop T, ch := r0.ch } := by funext b; simp only [upd]; split <;> rfl
  rw [hu] at s3
  have hr3 : (upd N rt { e := l2, k := r0.k, c := r0.c, lf := r0.lf, es := r.es.drop T, ch := r0.ch }) a = some r := (upd_off hne).trans hr
  generalize (H4.setL l2 (refs (r.es.drop T))).setI rt 234 (ndF (T : Int) { e := l2, k := r0.k, c := r0.c, lf := r0.lf, es := r0.es, ch := r0.ch }) = H5 at s3 ⊢
  have n3 := s3.rep.nd a r hr3
  walk_at "u"
  refine nd_e n3 ?_
  walk_at "u"
  refine nd_t n3 ?_
  walk_at "u"
  refine c_MIN B (by lia) ?_
  walk_at "u"
  obtain ⟨mid, hmid⟩ : ∃ x, r.es[T - 1]? = some x := ⟨_, List.getElem?_eq_getElem (by lia)⟩
  walk_at "u"
  refine item_L n3.E (seqAt_refs (by lia) (by rw [show ((T : Int) - 1).toNat = T - 1 by lia]; exact hmid)) ?_
  walk_at "u"
  refine nd_e n3 ?_
  walk_at "u"
  refine nd_t n3 ?_
  walk_at "u"
  refine c_MIN B (by lia) ?_
  walk_at "u"
  refine to_L n3.E (by rw [refs_length]; lia) (by lia) fun l3 hl3 => ?_
  have s4 := s3.trans (Step.freshL (ex := ex) (xs := List.take (((T : Int) - 1)).toNat (refs r.es)) s3.rep hl3)
  generalize hH6 : H5.setL l3 (List.take (((T : Int) - 1)).toNat (refs r.es)) = H6 at s4 ⊢
  have hL6 : H6.L l3 = some (refs (r.es.take (T - 1))) := by rw [← hH6, ← refs_take, show ((T : Int) - 1).toNat = T - 1 by lia]; exact upd_at
  walk_at "u"
  refine list_L hL6 fun l4 hl4 => ?_
  walk_at "u"
  have n4 := s4.rep.nd a r hr3
  walk_at "u"
  refine sa2 n4.I (ndF_len _) (by decide) ?_
  rw [putE_nd]
  have s5 := s4.trans (Step.putE (ex := ex) (es := r.es.take (T - 1)) s4.rep hr3 hl4)
  generalize (H6.setL l4 (refs (r.es.take (T - 1)))).setI a 234 (ndF (T : Int) { r with e := l4 }) = H7 at s5 ⊢
  have n5 := s5.rep.nd a _ upd_at
  walk_at "u"
  refine nd_lf' n5 hlf ?_
  walk_at "u"
  refine tup_ (by simp) fun tp htp => ?_
  refine kq _ tp mid rt _ _ _ upd_at (s5.trans (Step.setT s5.rep htp)) upd_at ((upd_off (Ne.symm hne)).trans upd_at) (free_none R hf) rfl h1 hlf (h2.trans hlf) hch h4 ?_ ?_ ?_ (fun b s hb h => ?_)
  · obtain ⟨h1, h2⟩ := List.getElem?_eq_some_iff.mp hmid
    show r.es = r.es.take (T - 1) ++ mid :: r.es.drop T
    rw [← h2]
    have := List.getElem_cons_drop (as := r.es) (i := T - 1) h1
    rw [show T - 1 + 1 = T by lia] at this
    rw [this, List.take_append_drop]
  · show ((r.es.take (T - 1)).length : Int) = _
    rw [List.length_take]; lia
  · show ((r.es.drop T).length : Int) = _
    rw [List.length_drop]; lia
  · rw [upd_off hb]
    exact (upd_off fun e => by subst e; rw [free_none R hf] at h; cases h).trans h
end
section
variable {cx : Cx} {tn : Bool} {H H' : AH} {X : Value → AH → Prop} {t : Int} {N N' : NM} {h : Nat} {κ : Addr → Int} {ex : Addr → Prop} {W : Addr → Prop}
theorem upd_upd {α : Type} {f : Addr → Option α} {a : Addr} {v w : α} : upd (upd f a v) a w = upd f a w := by funext b; simp only [upd]; split <;> rfl
theorem cmp_eq_node {x : Addr} {fs : List (String × AV)} {Q : AV → AH → Prop} (hI : H.I x = some (234, fs)) (k : Q (.bool true) H) : cmpP cx h tn X H Q .eq (.ref x) (.ref x) := .eqS hI k
theorem c_adopt (B : Bod cx) (hh : 3 ≤ h) (R : Rep t H N) (ht : 3 ≤ t ∧ t ≤ 5) {a left mid rt : Addr} {r rl : NR} {p : Nat} (hr : N a = some r) (hlf : r.lf = false) (hn : (r.es.length : Int) < 2 * t - 1) (hel : ∀ x ∈ r.es, El H κ x) (hs : (r.es.map κ).Pairwise (· < ·)) (hm : El H κ mid)
    (hp : ∀ i b, Sr (r.es.map κ) (κ mid) i b → b = false ∧ i = p) (hk : r.ch[p]? = some left) (hl : N left = some rl) (hc : r.ch.length < 1000) {Q : AV → AH → Prop} (kq : ∀ v H', Step ex t H N H' (upd N a { r with es := r.es.take p ++ mid :: r.es.drop p, ch := r.ch.take (p + 1) ++ rt :: r.ch.drop (p + 1) }) → Q v H') :
    CallOK cx h false (.ref 168) [.ref a, .ref left, .ref mid, .ref rt] H Q X := by
  have n := R.nd a r hr
  have hpc : p < r.ch.length := (List.getElem?_eq_some_iff.mp hk).1
  refine call_of' B.T (by lia) B.f168 rfl (fun q => by cases q) fun m _ => ?_
  intro K0
  unfold f__Node_adopt
  walk_at "u"
  refine nd_fn n rfl ?_
  walk_at "u"
  refine c_is_maximal B (by lia) n ht (by lia) ?_
  rw [decide_eq_false (by lia)]
  walk_at "u"
  refine ⟨rfl, ?_⟩
  walk_at "u"
  refine nd_lf' n hlf ?_
  walk_at "u"
  refine ⟨rfl, ?_⟩
  walk_at "u"
  refine w_key B (by lia) hm ?_
  walk_at "u"
  refine nd_fn n rfl ?_
  walk_at "u"
  refine c_search B (by lia) n (by lia) hel hs fun H2 tp i b hT m1 sr => ?_
  have n1 := n.tm m1
  have s1 := m1.step (ex := ex) R
  obtain ⟨rfl, rfl⟩ := hp i b sr
  have hi : i ≤ r.es.length := by simpa using sr.le
  walk_at "u"
  refine asT hT ?_
  walk_at "u"
  refine ⟨rfl, ?_⟩
  walk_at "u"
  refine nd_e n1 ?_
  walk_at "u"
  refine meth_L n1.E (by simp) ?_
  walk_at "u"
  refine w_insert n1.E (by lia) (by rw [refs_length]; lia) (by rw [refs_length]; lia) ?_
  walk_at "u"
  rw [show ((i : Int)).toNat = i from by lia, refs_take, refs_drop, ← refs_cons, ← refs_append]
  have s2 := s1.trans (Step.setE (ex := ex) (xs := r.es.take i ++ mid :: r.es.drop i) s1.rep hr)
  generalize H2.setL r.e (refs (r.es.take i ++ mid :: r.es.drop i)) = H3 at s2 ⊢
  have n2 := s2.rep.nd a _ upd_at
  have hne : left ≠ a ∨ left = a := (Classical.em (left = a)).symm
  have nl : ∃ fs, H3.I left = some (234, fs) := by
    by_cases e : left = a
    · subst e; exact ⟨_, n2.I⟩
    · exact ⟨_, (s2.rep.nd left rl ((upd_off e).trans hl)).I⟩
  obtain ⟨fs, nl⟩ := nl
  walk_at "u"
  refine nd_k n2 ?_
  walk_at "u"
  refine len_L n2.K ?_
  walk_at "u"
  rw [decide_eq_false (by rw [refs_length]; show ¬ ((r.ch.length : Int) = 0); lia)]
  walk_at "u"
  refine nd_k n2 ?_
  walk_at "u"
  refine item_L n2.K (seqAt_of hk) ?_
  walk_at "u"
  refine cmp_eq_node nl ?_
  walk_at "u"
  refine ⟨rfl, ?_⟩
  walk_at "u"
  refine nd_k n2 ?_
  walk_at "u"
  refine meth_L n2.K (by simp) ?_
  walk_at "u"
  refine w_insert n2.K (by lia) (by rw [refs_length]; show (i : Int) + 1 ≤ r.ch.length; lia) (by rw [refs_length]; exact hc) ?_
  walk_at "u"
  rw [show ((i : Int) + 1).toNat = i + 1 from by lia, refs_take, refs_drop, ← refs_cons, ← refs_append]
  have s3 := s2.trans (Step.setK (ex := ex) (xs := r.ch.take (i + 1) ++ rt :: r.ch.drop (i + 1)) s2.rep upd_at)
  rw [upd_upd] at s3
  walk_at "u"
  exact kq _ _ s3
theorem c_adopt_new (B : Bod cx) (hh : 3 ≤ h) (R : Rep t H N) (ht : 3 ≤ t ∧ t ≤ 5) {a left mid rt : Addr} {r : NR} (hr : N a = some r) (hlf : r.lf = false) (he : r.es = []) (hch : r.ch = []) (hm : El H κ mid) {Q : AV → AH → Prop} (kq : ∀ v H' k', Step ex t H N H' (upd N a { r with k := k', es := [mid], ch := [left, rt] }) → Q v H') :
    CallOK cx h false (.ref 168) [.ref a, .ref left, .ref mid, .ref rt] H Q X := by
  have n := R.nd a r hr
  refine call_of' B.T (by lia) B.f168 rfl (fun q => by cases q) fun m _ => ?_
  intro K0
  unfold f__Node_adopt
  walk_at "u"
  refine nd_fn n rfl ?_
  walk_at "u"
  refine c_is_maximal B (by lia) n ht (by rw [he]; simp; lia) ?_
  rw [decide_eq_false (by rw [he]; simp; lia)]
  walk_at "u"
  refine ⟨rfl, ?_⟩
  walk_at "u"
  refine nd_lf' n hlf ?_
  walk_at "u"
  refine ⟨rfl, ?_⟩
  walk_at "u"
  refine w_key B (by lia) hm ?_
  walk_at "u"
  refine nd_fn n rfl ?_
  walk_at "u"
  refine c_search (κ := κ) B (by lia) n (by rw [he]; simp) (by rw [he]; simp) (by rw [he]; simp) fun H2 tp i b hT m1 sr => ?_
  have n1 := n.tm m1
  have s1 := m1.step (ex := ex) R
  have hi : i = 0 := by have := sr.le; rw [he] at this; simpa using this
  subst hi
  have hb : b = false := by
    cases b with
    | false => rfl
    | true => have := sr.hit rfl; rw [he] at this; simp at this
  subst hb
  walk_at "u"
  refine asT hT ?_
  walk_at "u"
  refine ⟨rfl, ?_⟩
  walk_at "u"
  refine nd_e n1 ?_
  walk_at "u"
  refine meth_L n1.E (by simp) ?_
  walk_at "u"
  refine w_insert n1.E (by lia) (by rw [refs_length]; lia) (by rw [he]; simp [refs]) ?_
  walk_at "u"
  rw [he]
  have s2 := s1.trans (Step.setE (ex := ex) (xs := [mid]) s1.rep hr)
  rw [show List.take ((0 : Nat) : Int).toNat (refs []) ++ AV.ref mid :: List.drop ((0 : Nat) : Int).toNat (refs []) = refs [mid] from rfl]
  generalize H2.setL r.e (refs [mid]) = H3 at s2 ⊢
  have n2 := s2.rep.nd a _ upd_at
  walk_at "u"
  refine nd_k n2 ?_
  walk_at "u"
  refine len_L n2.K ?_
  walk_at "u"
  rw [decide_eq_true (by rw [refs_length]; show ((r.ch.length : Int) = 0); rw [hch]; rfl)]
  walk_at "u"
  refine lst_ (by simp) fun l hl => ?_
  walk_at "u"
  refine sa2 n2.I (ndF_len _) (by decide) ?_
  rw [putK_nd]
  have s3 := s2.trans (Step.putK (ex := ex) (ch := [left, rt]) s2.rep upd_at hl)
  rw [upd_upd] at s3
  exact kq _ _ l s3
end
noncomputable def FrC (c : Addr) (N N' : NM) : Prop := ∀ b s, N b = some s → s.c ≠ c → N' b = some s
section
variable {N N' N'' : NM} {W : Addr → Prop} {t : Int} {a k c : Addr} {r : NR} {P : PL} {e : List Addr} {R : RL} {κ : Addr → Int} {S : List Addr}
theorem FrC.refl : FrC c N N := fun _ _ h _ => h
theorem FrC.trans (h : FrC c N N') (h' : FrC c N' N'') : FrC c N N'' := fun b s hb hc => h' b s (h b s hb hc) hc
theorem FrC.upd {s : NR} (h : N a = some r) (hc : r.c = c) : FrC c N (upd N a s) := fun b s hb hs => by
  refine (upd_off fun e => ?_).trans hb
  subst e; rw [h] at hb; cases hb; exact hs hc
theorem FrC.new {s : NR} (h : N a = none) : FrC c N (Mine.upd N a s) := fun b s hb hs => by
  refine (upd_off fun e => ?_).trans hb
  subst e; rw [h] at hb; cases hb
theorem CowC.fr {k' : Addr} {j : Nat} {rk rk' : NR} (h : N a = some r) (C : CowC a j k r rk N N' k' rk') : FrC r.c N N' := fun b s hb hs => C.keep b s (fun e => by subst e; rw [h] at hb; cases hb; exact hs rfl) hb
theorem Kid.ne (Z : ZT N W t a r P k e R) {k1 : Addr} {e1 : List Addr} (h : Kid N W t k1 e1) : k1 ≠ a := fun q => by
  subst q
  obtain ⟨s, h1, h2, _⟩ := h.ex
  rw [Z.top] at h1; cases h1
  rw [Z.lf] at h2; cases h2
theorem Kid.keep {k1 : Addr} {e1 : List Addr} (h : Kid N W t k1 e1) (hk : ∀ s, N k1 = some s → N' k1 = some s) : Kid N' W t k1 e1 := by
  obtain ⟨s, h1, h2⟩ := h.ex
  exact ⟨⟨s, hk s h1, h2⟩, h.lo, h.hi⟩
theorem Kid.some {k1 : Addr} {e1 : List Addr} (h : Kid N W t k1 e1) : N k1 ≠ none := by
  obtain ⟨s, h1, _⟩ := h.ex
  rw [h1]; simp
theorem ZT.ndP (Z : ZT N W t a r P k e R) : (∀ p ∈ P, p.1 ≠ k) ∧ (∀ p ∈ R, p.2.1 ≠ k) := by
  have := Z.nd
  rw [Z.ch, List.nodup_append] at this
  obtain ⟨h1, h2, h3⟩ := this
  rw [List.nodup_cons] at h2
  refine ⟨fun p hp q => h3 p.1 (List.mem_map_of_mem hp) k (by simp) q, fun p hp q => h2.1 ?_⟩
  rw [← q]; exact List.mem_map_of_mem (f := fun p : Addr × Addr × List Addr => p.2.1) hp
theorem ZT.cow (Z : ZT N W t a r P k e R) {rk rk' : NR} {k' : Addr} (hk : N k = some rk) (C : CowC a P.length k r rk N N' k' rk') : ZT N' W t a { r with ch := r.ch.set P.length k' } P k' e R := by
  have kp : ∀ {k1 e1}, Kid N W t k1 e1 → Kid N' W t k1 e1 := fun h => h.keep fun s hs => C.keep _ s (Kid.ne Z h) hs
  obtain ⟨s, h1, h2, h3, h4, h5⟩ := Z.kk.ex
  rw [hk] at h1; cases h1
  have hch : r.ch.set P.length k' = P.map (·.1) ++ k' :: R.map (·.2.1) := by rw [Z.ch, List.set_append_right _ _ (by simp)]; simp
  refine ⟨C.top, Z.lf, Z.c, Z.es, hch, fun p hp => kp (Z.kP p hp), ⟨⟨rk', C.kid, C.lf.trans h2, C.es.trans h3, C.ch.trans h4, by rw [C.c]; exact Z.c⟩, Z.kk.lo, Z.kk.hi⟩, fun p hp => kp (Z.kR p hp), ?_⟩
  show (r.ch.set P.length k').Nodup
  rcases C.new with q | q
  · subst q; rw [set_same Z.kid]; exact Z.nd
  · rw [hch]
    have nd := Z.nd
    rw [Z.ch] at nd
    rw [List.nodup_append, List.nodup_cons] at nd ⊢
    refine ⟨nd.1, ⟨fun h => ?_, nd.2.1.2⟩, fun x hx y hy => ?_⟩
    · obtain ⟨p, hp, rfl⟩ := List.mem_map.mp h
      exact (Z.kR p hp).some q
    · rcases List.mem_cons.mp hy with rfl | hy
      · obtain ⟨p, hp, rfl⟩ := List.mem_map.mp hx
        intro e; subst e
        exact (Z.kP p hp).some q
      · exact nd.2.2 x hx y (by simp [hy])
theorem ZT.modK (Z : ZT N W t a r P k e R) {rk : NR} {e' : List Addr} (hk : N k = some rk) (lo : t - 1 ≤ (e'.length : Int)) (hi : (e'.length : Int) ≤ 2 * t - 1) : ZT (upd N k { rk with es := e' }) W t a r P k e' R := by
  obtain ⟨s, h1, h2, h3, h4, h5⟩ := Z.kk.ex
  rw [hk] at h1; cases h1
  have hka := Kid.ne Z Z.kk
  refine ⟨(upd_off (Ne.symm hka)).trans Z.top, Z.lf, Z.c, Z.es, Z.ch, fun p hp => (Z.kP p hp).keep fun s hs => (upd_off (Z.ndP.1 p hp)).trans hs, ⟨⟨_, upd_at, h2, rfl, h4, h5⟩, lo, hi⟩, fun p hp => (Z.kR p hp).keep fun s hs => (upd_off (Z.ndP.2 p hp)).trans hs, Z.nd⟩
theorem ZT.setSep {x y k1 : Addr} {e1 : List Addr} (Z : ZT N W t a r P k e ((x, k1, e1) :: R)) : ZT (upd N a { r with es := r.es.set P.length y }) W t a { r with es := r.es.set P.length y } P k e ((y, k1, e1) :: R) := by
  have kp : ∀ {k1 e1}, Kid N W t k1 e1 → Kid (upd N a { r with es := r.es.set P.length y }) W t k1 e1 := fun h => h.keep fun s hs => (upd_off (Kid.ne Z h)).trans hs
  refine ⟨upd_at, Z.lf, Z.c, ?_, Z.ch, fun p hp => kp (Z.kP p hp), kp Z.kk, fun p hp => ?_, Z.nd⟩
  · show r.es.set P.length y = _
    rw [Z.es, List.set_append_right _ _ (by simp)]; simp
  · rcases List.mem_cons.mp hp with rfl | hp
    · exact kp (Z.kR (x, k1, e1) (by simp))
    · exact kp (Z.kR p (by simp [hp]))
theorem ZT.merge {x k1 : Addr} {e1 : List Addr} (Z : ZT N W t a r P k e ((x, k1, e1) :: R)) {rk : NR} (hk : N k = some rk) (hi : ((e ++ x :: e1).length : Int) ≤ 2 * t - 1) :
    ZT (upd (upd N a { r with ch := r.ch.take (P.length + 1) ++ r.ch.drop (P.length + 2), es := r.es.take P.length ++ r.es.drop (P.length + 1) }) k { rk with es := e ++ x :: e1 }) W t a { r with ch := r.ch.take (P.length + 1) ++ r.ch.drop (P.length + 2), es := r.es.take P.length ++ r.es.drop (P.length + 1) } P k (e ++ x :: e1) R := by
  obtain ⟨s, h1, h2, h3, h4, h5⟩ := Z.kk.ex
  rw [hk] at h1; cases h1
  have hka := Kid.ne Z Z.kk
  have e1' : r.es.take P.length ++ r.es.drop (P.length + 1) = P.map (·.2.2) ++ R.map (·.1) := by rw [Z.es]; simp [List.take_append, List.drop_append]
  have e2' : r.ch.take (P.length + 1) ++ r.ch.drop (P.length + 2) = P.map (·.1) ++ k :: R.map (·.2.1) := by rw [Z.ch, show P.length = (P.map (·.1)).length by simp, List.take_length_add_append, List.drop_length_add_append]; simp
  refine ⟨(upd_off (Ne.symm hka)).trans upd_at, Z.lf, Z.c, e1', e2', fun p hp => (Z.kP p hp).keep fun s hs => (upd_off (Z.ndP.1 p hp)).trans ((upd_off (Kid.ne Z (Z.kP p hp))).trans hs), ⟨⟨_, upd_at, h2, rfl, h4, h5⟩, ?_, hi⟩, fun p hp => ?_, ?_⟩
  · have := Z.kk.lo; simp; lia
  · have hp' : p ∈ (x, k1, e1) :: R := by simp [hp]
    exact (Z.kR p hp').keep fun s hs => (upd_off (Z.ndP.2 p hp')).trans ((upd_off (Kid.ne Z (Z.kR p hp'))).trans hs)
  · show (r.ch.take (P.length + 1) ++ r.ch.drop (P.length + 2)).Nodup
    rw [e2']
    have nd := Z.nd
    rw [Z.ch] at nd
    exact nd.sublist (List.Sublist.append (List.Sublist.refl _) ((List.sublist_cons_self _ _).cons_cons k))
theorem ZT.split (Z : ZT N W t a r P k e R) {mid rt : Addr} {ra rr : NR} (ha : N' k = some ra) (hr : N' rt = some rr) (hn : N rt = none) (ca : W ra.c) (cr : W rr.c) (la : ra.lf = true) (lr : rr.lf = true) (xa : ra.ch = []) (xr : rr.ch = [])
    (n1 : (ra.es.length : Int) = t - 1) (n2 : (rr.es.length : Int) = t - 1) (ht : 3 ≤ t) (kp : ∀ b s, b ≠ k → N b = some s → N' b = some s) :
    ZT (upd N' a { r with es := r.es.take P.length ++ mid :: r.es.drop P.length, ch := r.ch.take (P.length + 1) ++ rt :: r.ch.drop (P.length + 1) }) W t a { r with es := r.es.take P.length ++ mid :: r.es.drop P.length, ch := r.ch.take (P.length + 1) ++ rt :: r.ch.drop (P.length + 1) } P k ra.es ((mid, rt, rr.es) :: R) := by
  have hka := Kid.ne Z Z.kk
  have hra : rt ≠ a := fun q => by subst q; rw [Z.top] at hn; cases hn
  have hrk : rt ≠ k := fun q => by subst q; exact Z.kk.some hn
  have e1 : r.es.take P.length ++ mid :: r.es.drop P.length = P.map (·.2.2) ++ mid :: R.map (·.1) := by rw [Z.es]; simp [List.take_append, List.drop_append]
  have e2 : r.ch.take (P.length + 1) ++ rt :: r.ch.drop (P.length + 1) = P.map (·.1) ++ k :: rt :: R.map (·.2.1) := by rw [Z.ch, show P.length = (P.map (·.1)).length by simp, List.take_length_add_append, List.drop_length_add_append]; simp
  refine ⟨upd_at, Z.lf, Z.c, e1, e2, fun p hp => (Z.kP p hp).keep fun s hs => (upd_off (Kid.ne Z (Z.kP p hp))).trans (kp _ s (Z.ndP.1 p hp) hs), ⟨⟨ra, (upd_off hka).trans ha, la, rfl, xa, ca⟩, by lia, by lia⟩, fun p hp => ?_, ?_⟩
  · rcases List.mem_cons.mp hp with rfl | hp
    · exact ⟨⟨rr, (upd_off hra).trans hr, lr, rfl, xr, cr⟩, by simp only; lia, by simp only; lia⟩
    · exact (Z.kR p hp).keep fun s hs => (upd_off (Kid.ne Z (Z.kR p hp))).trans (kp _ s (Z.ndP.2 p hp) hs)
  · show (r.ch.take (P.length + 1) ++ rt :: r.ch.drop (P.length + 1)).Nodup
    rw [e2]
    have nd := Z.nd
    rw [Z.ch] at nd
    have hnew : rt ∉ P.map (·.1) ++ k :: R.map (·.2.1) := fun h => by
      rcases List.mem_append.mp h with h | h
      · obtain ⟨p, hp, q⟩ := List.mem_map.mp h
        have q' : p.1 = rt := q
        exact (Z.kP p hp).some (q' ▸ hn)
      · rcases List.mem_cons.mp h with h | h
        · exact hrk h
        · obtain ⟨p, hp, q⟩ := List.mem_map.mp h
          have q' : p.2.1 = rt := q
          exact (Z.kR p hp).some (q' ▸ hn)
    have hperm : (P.map (·.1) ++ k :: rt :: R.map (·.2.1)).Perm (rt :: (P.map (·.1) ++ k :: R.map (·.2.1))) := by
      refine List.Perm.trans ?_ (List.perm_middle (a := rt) (l₁ := P.map (·.1) ++ [k]) (l₂ := R.map (·.2.1)) |>.trans ?_)
      · simp
      · simp
    rw [hperm.nodup_iff, List.nodup_cons]
    exact ⟨hnew, nd⟩
end
section
variable {cx : Cx} {tn : Bool} {H H' : AH} {X : Value → AH → Prop} {t : Int} {N N' : NM} {h : Nat} {κ : Addr → Int} {ex : Addr → Prop} {W : Addr → Prop}
structure Stole (ex : Addr → Prop) (W : Addr → Prop) (t : Int) (H : AH) (N : NM) (a : Addr) (r : NR) (k : Addr) (H' : AH) (N' : NM) (r' rk' : NR) : Prop where
  step : Step ex t H N H' N'
  c : r'.c = r.c
  fr : FrC r.c N N'
  kid : N' k = some rk'
  kc : rk'.c = r.c
theorem kid_rec {k : Addr} {e : List Addr} (K : Kid N W t k e) {rk : NR} (h : N k = some rk) : rk.lf = true ∧ rk.es = e ∧ rk.ch = [] ∧ W rk.c := by
  obtain ⟨s, h1, h2, h3, h4, h5⟩ := K.ex
  rw [h] at h1; cases h1
  exact ⟨h2, h3, h4, h5⟩
theorem c_left_steal (B : Bod cx) (hh : 6 ≤ h) (R : Rep t H N) (ht : 3 ≤ t ∧ t ≤ 5) {a k : Addr} {r rk : NR} {P : PL} {e : List Addr} {Rl : RL} (Z : ZT N W t a r P k e Rl) (hk : N k = some rk) (hkc : rk.c = r.c) (hlen : (e.length : Int) < 2 * t - 1) (cr : ∀ c, W c → H.I c ≠ none) {Q : AV → AH → Prop}
    (k1 : ∀ H' N' r' rk' P' e' u, ZT N' W t a r' P' k e' Rl → Stole ex W t H N a r k H' N' r' rk' → P'.length = P.length → fP P = fP P' ++ u → e' = u ++ e → u.length = 1 → Q (.bool true) H')
    (k2 : (∀ P0 kl el x, P = P0 ++ [(kl, el, x)] → (el.length : Int) = t - 1) → Q (.bool false) H) :
    CallOK cx h false (.ref 154) [.ref k, .ref a, .int P.length] H Q X := by
  have n := R.nd a r Z.top
  obtain ⟨g1, g2, g3, g4⟩ := kid_rec Z.kk hk
  refine call_of' B.T (by lia) B.f154 rfl (fun q => by cases q) fun m _ => ?_
  intro K0
  unfold f__Node_try_left_steal
  walk_at "u"
  try rw [hj]
  by_cases hP : P = []
  · subst hP
    rw [decide_eq_false (by simp)]
    walk_at "u"
    try rw [hj]
    exact k2 fun P0 kl el x q => by simp at q
  · obtain ⟨P0, ⟨kl, el, x⟩, rfl⟩ := snoc_of hP
    have hi : ((P0 ++ [(kl, el, x)]).length : Int) = (P0.length : Int) + 1 := by simp
    have hj : ((P0.length : Int) + 1 - 1) = (P0.length : Int) := by lia
    have Zl := Z.left
    obtain ⟨rl, hl⟩ := Option.ne_none_iff_exists'.mp Zl.kk.some
    obtain ⟨l1, l2, l3, l4⟩ := kid_rec Zl.kk hl
    have nl := R.nd kl rl hl
    rw [hi, decide_eq_true (by lia)]
    walk_at "u"
    try rw [hj]
    refine nd_k n ?_
    walk_at "u"
    try rw [hj]
    walk_at "u"
    try rw [hj]
    refine item_L n.K (seqAt_of Zl.kid) ?_
    walk_at "u"
    try rw [hj]
    refine nd_fn nl rfl ?_
    walk_at "u"
    try rw [hj]
    refine c_is_minimal B (by lia) nl (by rw [l2]; exact Zl.kk.lo) ?_
    walk_at "u"
    try rw [hj]
    by_cases hm : (rl.es.length : Int) = t - 1
    · rw [decide_eq_true hm]
      walk_at "u"
      try rw [hj]
      refine k2 fun P1 kl' el' x' q => ?_
      obtain ⟨-, q⟩ := List.append_inj' q rfl
      injection q with q
      injection q with _ q
      injection q with q
      rw [← q, ← l2]; exact hm
    · rw [decide_eq_false hm]
      walk_at "u"
      try rw [hj]
      refine nd_fn n rfl ?_
      walk_at "u"
      try rw [hj]
      refine c_cow_child (ex := ex) B (by lia) R ht Z.top Z.lf Zl.kid hl (by have := Zl.kk.hi; rw [l2]; lia) (by rw [l3]; simp) (fun _ => l3) (cr _ l4) (cr _ Z.c) fun H1 kl' N1 rl' s1 C => ?_
      have Z1 := Zl.cow hl C
      have R1 := s1.rep
      have hk1 : N1 k = some rk := C.keep k rk (Kid.ne Z Z.kk) hk
      have n1 := R1.nd a _ Z1.top
      have nl1 := R1.nd kl' rl' C.kid
      have fr1 := C.fr Z.top
      obtain ⟨m1, m2, m3, m4⟩ := kid_rec Z1.kk C.kid
      walk_at "u"
      try rw [hj]
      refine nd_e n1 ?_
      walk_at "u"
      try rw [hj]
      have hx : r.es[P0.length]? = some x := by rw [Z.es]; simp
      walk_at "u"
      try rw [hj]
      refine item_L n1.E (seqAt_of hx) ?_
      walk_at "u"
      try rw [hj]
      have hne : el ≠ [] := by intro q; subst q; have := Zl.kk.lo; simp at this; lia
      obtain ⟨el', y, rfl⟩ := snoc_of hne
      walk_at "u"
      try rw [hj]
      refine nd_e nl1 ?_
      walk_at "u"
      try rw [hj]
      refine meth_L nl1.E (by simp) ?_
      walk_at "u"
      try rw [hj]
      refine w_pop (v := .ref y) nl1.E (by rw [m2]; simp [refs]) ?_
      walk_at "u"
      try rw [hj]
      rw [refs_dropLast]
      have s2 := s1.trans (Step.setE (ex := ex) (xs := rl'.es.dropLast) s1.rep C.kid)
      have hd : rl'.es.dropLast = el' := by rw [m2]; simp
      rw [hd] at s2 ⊢
      have Z2 := Z1.modK (e' := el') C.kid (by have := Zl.kk.lo; rw [l2] at hm; simp at this hm; lia) (by have := Zl.kk.hi; simp at this; lia)
      have fr2 : FrC r.c N1 (upd N1 kl' { rl' with es := el' }) := FrC.upd C.kid C.c
      generalize H1.setL rl'.e (refs el') = H2 at s2 ⊢
      have n2 := s2.rep.nd a _ Z2.top
      walk_at "u"
      try rw [hj]
      refine nd_e n2 ?_
      walk_at "u"
      try rw [hj]
      refine si_L n2.E (by lia) (by rw [refs_length]; have := Z2.len; simp at this ⊢; lia) ?_
      rw [show ((P0.length : Int)).toNat = P0.length by lia, refs_set]
      have s3 := s2.trans (Step.setE (ex := ex) (xs := r.es.set P0.length y) s2.rep Z2.top)
      have Z3 := Z2.setSep (y := y)
      have fr3 := FrC.upd (c := r.c) (s := { r with ch := r.ch.set P0.length kl', es := r.es.set P0.length y }) Z2.top rfl
      generalize H2.setL r.e (refs (r.es.set P0.length y)) = H3 at s3 ⊢
      have hne' : k ≠ kl' := Z1.right.ndP.1 (kl', el' ++ [y], x) (by simp) |>.symm
      have hka := Kid.ne Z Z.kk
      have hk3 : (upd (upd N1 kl' { rl' with es := el' }) a { r with ch := r.ch.set P0.length kl', es := r.es.set P0.length y }) k = some rk := (upd_off hka).trans ((upd_off hne').trans hk1)
      have n3 := s3.rep.nd k rk hk3
      walk_at "u"
      try rw [hj]
      refine nd_e n3 ?_
      walk_at "u"
      try rw [hj]
      refine meth_L n3.E (by simp) ?_
      walk_at "u"
      try rw [hj]
      refine w_insert n3.E (by lia) (by rw [refs_length]; lia) (by rw [refs_length, g2]; lia) ?_
      walk_at "u"
      try rw [hj]
      rw [show List.take (0 : Int).toNat (refs rk.es) ++ AV.ref x :: List.drop (0 : Int).toNat (refs rk.es) = refs (x :: e) by rw [g2]; rfl]
      have s4 := s3.trans (Step.setE (ex := ex) (xs := x :: e) s3.rep hk3)
      have Z4 := Z3.right.modK (e' := x :: e) hk3 (by have := Z.kk.lo; simp; lia) (by simp; lia)
      have fr4 := FrC.upd (c := r.c) (s := { rk with es := x :: e }) hk3 hkc
      generalize H3.setL rk.e (refs (x :: e)) = H4 at s4 ⊢
      have hl4 := Z4.left.kk.ex
      obtain ⟨rl4, q1, q2, q3, q4, q5⟩ := hl4
      have n4 := s4.rep.nd kl' rl4 q1
      walk_at "u"
      try rw [hj]
      refine nd_lf' n4 q2 ?_
      walk_at "u"
      try rw [hj]
      refine k1 _ _ _ _ _ _ [x] Z4 ⟨s4, rfl, ((fr1.trans fr2).trans fr3).trans fr4, upd_at, hkc⟩ (by simp) ?_ rfl rfl
      rw [fP_snoc, fP_snoc]; simp
theorem c_right_steal (B : Bod cx) (hh : 6 ≤ h) (R : Rep t H N) (ht : 3 ≤ t ∧ t ≤ 5) {a k : Addr} {r rk : NR} {P : PL} {e : List Addr} {Rl : RL} (Z : ZT N W t a r P k e Rl) (hk : N k = some rk) (hkc : rk.c = r.c) (hlen : (e.length : Int) < 2 * t - 1) (cr : ∀ c, W c → H.I c ≠ none) {Q : AV → AH → Prop}
    (k1 : ∀ H' N' r' rk' Rl' e' u, ZT N' W t a r' P k e' Rl' → Stole ex W t H N a r k H' N' r' rk' → Rl'.length = Rl.length → fR Rl = u ++ fR Rl' → e' = e ++ u → u.length = 1 → Q (.bool true) H')
    (k2 : (∀ R0 k1 e1 x, Rl = (x, k1, e1) :: R0 → (e1.length : Int) = t - 1) → Q (.bool false) H) :
    CallOK cx h false (.ref 161) [.ref k, .ref a, .int P.length] H Q X := by
  have n := R.nd a r Z.top
  obtain ⟨g1, g2, g3, g4⟩ := kid_rec Z.kk hk
  refine call_of' B.T (by lia) B.f161 rfl (fun q => by cases q) fun m _ => ?_
  intro K0
  unfold f__Node_try_right_steal
  walk_at "u"
  try rw [hj]
  refine nd_k n ?_
  walk_at "u"
  try rw [hj]
  refine len_L n.K ?_
  walk_at "u"
  try rw [hj]
  rw [refs_length, Z.clen]
  rcases Rl with _ | ⟨⟨x, kl, el⟩, R0⟩
  · rw [decide_eq_false (by simp)]
    walk_at "u"
    try rw [hj]
    exact k2 fun P0 kl el x q => by simp at q
  · have hj : ((P.length : Int) + 1) = ((P.length + 1 : Nat) : Int) := by lia
    have Zl := Z.right
    have hPl : (P ++ [(k, e, x)]).length = P.length + 1 := by simp
    obtain ⟨rl, hl⟩ := Option.ne_none_iff_exists'.mp Zl.kk.some
    obtain ⟨l1, l2, l3, l4⟩ := kid_rec Zl.kk hl
    have nl := R.nd kl rl hl
    have hkid := Zl.kid
    rw [hPl] at hkid
    rw [decide_eq_true (by simp; lia)]
    walk_at "u"
    try rw [hj]
    refine nd_k n ?_
    walk_at "u"
    try rw [hj]
    walk_at "u"
    try rw [hj]
    refine item_L n.K (seqAt_of hkid) ?_
    walk_at "u"
    try rw [hj]
    refine nd_fn nl rfl ?_
    walk_at "u"
    try rw [hj]
    refine c_is_minimal B (by lia) nl (by rw [l2]; exact Zl.kk.lo) ?_
    walk_at "u"
    try rw [hj]
    by_cases hm : (rl.es.length : Int) = t - 1
    · rw [decide_eq_true hm]
      walk_at "u"
      try rw [hj]
      refine k2 fun P1 kl' el' x' q => ?_
      injection q with q
      injection q with _ q
      injection q with _ q
      rw [← q, ← l2]; exact hm
    · rw [decide_eq_false hm]
      walk_at "u"
      try rw [hj]
      refine nd_fn n rfl ?_
      walk_at "u"
      try rw [hj]
      refine c_cow_child (ex := ex) B (by lia) R ht Z.top Z.lf hkid hl (by have := Zl.kk.hi; rw [l2]; lia) (by rw [l3]; simp) (fun _ => l3) (cr _ l4) (cr _ Z.c) fun H1 kl' N1 rl' s1 C => ?_
      rw [← hPl] at C
      have Z1 := Zl.cow hl C
      have R1 := s1.rep
      have hk1 : N1 k = some rk := C.keep k rk (Kid.ne Z Z.kk) hk
      have n1 := R1.nd a _ Z1.top
      have nl1 := R1.nd kl' rl' C.kid
      have fr1 := C.fr Z.top
      obtain ⟨m1, m2, m3, m4⟩ := kid_rec Z1.kk C.kid
      walk_at "u"
      try rw [hj]
      refine nd_e n1 ?_
      walk_at "u"
      try rw [hj]
      have hx : r.es[P.length]? = some x := by rw [Z.es]; simp
      walk_at "u"
      try rw [hj]
      refine item_L n1.E (seqAt_of hx) ?_
      walk_at "u"
      try rw [hj]
      have hne : el ≠ [] := by intro q; subst q; have := Zl.kk.lo; simp at this; lia
      obtain ⟨y, el', rfl⟩ := List.exists_cons_of_ne_nil hne
      walk_at "u"
      try rw [hj]
      refine nd_e nl1 ?_
      walk_at "u"
      try rw [hj]
      refine meth_L nl1.E (by simp) ?_
      walk_at "u"
      try rw [hj]
      refine w_popAt (v := .ref y) nl1.E (seqAt_of (i := 0) (by rw [m2]; rfl)) ?_
      walk_at "u"
      try rw [hj]
      rw [show List.take (0 : Int).toNat (refs rl'.es) ++ List.drop ((0 : Int).toNat + 1) (refs rl'.es) = refs el' by rw [m2]; rfl]
      have s2 := s1.trans (Step.setE (ex := ex) (xs := el') s1.rep C.kid)
      have Z2 := Z1.modK (e' := el') C.kid (by have := Zl.kk.lo; rw [l2] at hm; simp at this hm; lia) (by have := Zl.kk.hi; simp at this; lia)
      have fr2 : FrC r.c N1 (upd N1 kl' { rl' with es := el' }) := FrC.upd C.kid C.c
      generalize H1.setL rl'.e (refs el') = H2 at s2 ⊢
      have n2 := s2.rep.nd a _ Z2.top
      walk_at "u"
      try rw [hj]
      refine nd_e n2 ?_
      walk_at "u"
      try rw [hj]
      refine si_L n2.E (by lia) (by rw [refs_length]; have := Z2.len; simp at this ⊢; lia) ?_
      rw [show ((P.length : Int)).toNat = P.length by lia, refs_set]
      have s3 := s2.trans (Step.setE (ex := ex) (xs := r.es.set P.length y) s2.rep Z2.top)
      have Z3 := Z2.left.setSep (y := y)
      have fr3 := FrC.upd (c := r.c) (s := { r with ch := r.ch.set (P ++ [(k, e, x)]).length kl', es := r.es.set P.length y }) Z2.top rfl
      generalize H2.setL r.e (refs (r.es.set P.length y)) = H3 at s3 ⊢
      have hne' : k ≠ kl' := Z1.ndP.1 (k, e, x) (by simp)
      have hka := Kid.ne Z Z.kk
      have hk3 : (upd (upd N1 kl' { rl' with es := el' }) a { r with ch := r.ch.set (P ++ [(k, e, x)]).length kl', es := r.es.set P.length y }) k = some rk := (upd_off hka).trans ((upd_off hne').trans hk1)
      have n3 := s3.rep.nd k rk hk3
      walk_at "u"
      try rw [hj]
      refine nd_e n3 ?_
      walk_at "u"
      try rw [hj]
      refine meth_L n3.E (by simp) ?_
      walk_at "u"
      try rw [hj]
      refine w_append n3.E (by rw [refs_length, g2]; lia) ?_
      walk_at "u"
      try rw [hj]
      rw [show refs rk.es ++ [AV.ref x] = refs (e ++ [x]) by rw [g2, refs_append]; rfl]
      have s4 := s3.trans (Step.setE (ex := ex) (xs := e ++ [x]) s3.rep hk3)
      have Z4 := Z3.modK (e' := e ++ [x]) hk3 (by have := Z.kk.lo; simp; lia) (by simp; lia)
      have fr4 := FrC.upd (c := r.c) (s := { rk with es := e ++ [x] }) hk3 hkc
      generalize H3.setL rk.e (refs (e ++ [x])) = H4 at s4 ⊢
      have hl4 := Z4.right.kk.ex
      obtain ⟨rl4, q1, q2, q3, q4, q5⟩ := hl4
      have n4 := s4.rep.nd kl' rl4 q1
      walk_at "u"
      try rw [hj]
      refine nd_lf' n4 q2 ?_
      walk_at "u"
      try rw [hj]
      refine k1 _ _ _ _ _ _ [x] Z4 ⟨s4, rfl, ((fr1.trans fr2).trans fr3).trans fr4, upd_at, hkc⟩ (by simp) ?_ rfl rfl
      rw [fR_cons, fR_cons]; simp
end
section
variable {cx : Cx} {tn : Bool} {H H' H'' : AH} {X : Value → AH → Prop} {t : Int} {N N' N'' : NM} {h : Nat} {κ : Addr → Int} {ex : Addr → Prop} {W : Addr → Prop}
theorem Stole.trans {a k k' : Addr} {r r' r'' rk rk' : NR} (s : Stole ex W t H N a r k H' N' r' rk) (s' : Stole ex W t H' N' a r' k' H'' N'' r'' rk') : Stole ex W t H N a r k' H'' N'' r'' rk' :=
  ⟨s.step.trans s'.step, s'.c.trans s.c, s.fr.trans (s.c ▸ s'.fr), s'.kid, s'.kc.trans s.c⟩
theorem c_merge (B : Bod cx) (hh : 1 ≤ h) (R : Rep t H N) (ht : 3 ≤ t ∧ t ≤ 5) {a k : Addr} {r rk : NR} {P : PL} {e : List Addr} {x k1 : Addr} {e1 : List Addr} {Rl : RL} (Z : ZT N W t a r P k e ((x, k1, e1) :: Rl)) (hk : N k = some rk) (hkc : rk.c = r.c) (hi : ((e ++ x :: e1).length : Int) ≤ 2 * t - 1) {Q : AV → AH → Prop} (kq : ∀ v H' N' r' rk', ZT N' W t a r' P k (e ++ x :: e1) Rl → Stole ex W t H N a r k H' N' r' rk' → Q v H') :
    CallOK cx h false (.ref 175) [.ref k, .ref a, .int P.length] H Q X := by
  have n := R.nd a r Z.top
  obtain ⟨q1, q2, q3, q4⟩ := kid_rec Z.kk hk
  have Zr := Z.right
  have hPl : (P ++ [(k, e, x)]).length = P.length + 1 := by simp
  obtain ⟨r1, h1⟩ := Option.ne_none_iff_exists'.mp Zr.kk.some
  obtain ⟨l1, l2, l3, l4⟩ := kid_rec Zr.kk h1
  have hkid := Zr.kid
  rw [hPl] at hkid
  have hka := Kid.ne Z Z.kk
  have h1a := Kid.ne Z Zr.kk
  have h1k : k1 ≠ k := Z.ndP.2 (x, k1, e1) (by simp)
  have hj : ((P.length : Int) + 1) = ((P.length + 1 : Nat) : Int) := by lia
  have hx : r.es[P.length]? = some x := by rw [Z.es]; simp
  have hle : e.length + e1.length ≤ 10 := by simp at hi; lia
  refine call_of' B.T (by lia) B.f175 rfl (fun q => by cases q) fun m _ => ?_
  intro K0
  unfold f__Node_merge
  walk_at "u"
  try rw [hj]
  refine nd_k n ?_
  walk_at "u"
  try rw [hj]
  refine meth_L n.K (by simp) ?_
  walk_at "u"
  try rw [hj]
  refine w_popAt (v := .ref k1) n.K (seqAt_of hkid) ?_
  walk_at "u"
  try rw [hj]
  rw [show ((P.length + 1 : Nat) : Int).toNat = P.length + 1 by lia, refs_take, refs_drop, ← refs_append]
  have s1 := Step.setK (ex := ex) (xs := r.ch.take (P.length + 1) ++ r.ch.drop (P.length + 1 + 1)) R Z.top
  generalize H.setL r.k (refs (r.ch.take (P.length + 1) ++ r.ch.drop (P.length + 1 + 1))) = H1 at s1 ⊢
  have n1 := s1.rep.nd a _ upd_at
  have nk1 := s1.rep.nd k rk ((upd_off hka).trans hk)
  walk_at "u"
  try rw [hj]
  refine nd_e nk1 ?_
  walk_at "u"
  try rw [hj]
  refine meth_L nk1.E (by simp) ?_
  walk_at "u"
  try rw [hj]
  refine nd_e n1 ?_
  walk_at "u"
  try rw [hj]
  refine meth_L n1.E (by simp) ?_
  walk_at "u"
  try rw [hj]
  refine w_popAt (v := .ref x) n1.E (seqAt_of hx) ?_
  walk_at "u"
  try rw [hj]
  rw [show ((P.length : Nat) : Int).toNat = P.length by lia, refs_take, refs_drop, ← refs_append]
  have s2 := s1.trans (Step.setE (ex := ex) (xs := r.es.take P.length ++ r.es.drop (P.length + 1)) s1.rep upd_at)
  rw [upd_upd] at s2
  generalize H1.setL _ (refs (r.es.take P.length ++ r.es.drop (P.length + 1))) = H2 at s2 ⊢
  have nk2 := s2.rep.nd k rk ((upd_off hka).trans hk)
  refine w_append nk2.E (by rw [refs_length, q2]; lia) ?_
  walk_at "u"
  try rw [hj]
  rw [show refs rk.es ++ [AV.ref x] = refs (e ++ [x]) by rw [q2, refs_append]; rfl]
  have s3 := s2.trans (Step.setE (ex := ex) (xs := e ++ [x]) s2.rep ((upd_off hka).trans hk))
  generalize H2.setL rk.e (refs (e ++ [x])) = H3 at s3 ⊢
  have nk3 := s3.rep.nd k _ upd_at
  have n13 := s3.rep.nd k1 r1 ((upd_off h1k).trans ((upd_off h1a).trans h1))
  walk_at "u"
  try rw [hj]
  refine nd_e nk3 ?_
  walk_at "u"
  try rw [hj]
  refine meth_L nk3.E (by simp) ?_
  walk_at "u"
  try rw [hj]
  refine nd_e n13 ?_
  walk_at "u"
  try rw [hj]
  refine w_extend nk3.E n13.E (by rw [refs_length, refs_length, l2]; simp; lia) ?_
  walk_at "u"
  try rw [hj]
  rw [show refs (e ++ [x]) ++ refs r1.es = refs (e ++ x :: e1) by rw [l2, ← refs_append]; simp]
  have s4 := s3.trans (Step.setE (ex := ex) (xs := e ++ x :: e1) s3.rep upd_at)
  rw [upd_upd] at s4
  generalize H3.setL _ (refs (e ++ x :: e1)) = H4 at s4 ⊢
  have nk4 := s4.rep.nd k _ upd_at
  walk_at "u"
  try rw [hj]
  refine nd_lf' nk4 q1 ?_
  walk_at "u"
  try rw [hj]
  refine kq _ _ _ _ _ (Z.merge hk hi) ⟨s4, rfl, ?_, upd_at, hkc⟩
  exact (FrC.upd Z.top rfl).trans (FrC.upd ((upd_off hka).trans hk) hkc)
theorem c_balance (B : Bod cx) (hh : 7 ≤ h) (R : Rep t H N) (ht : 3 ≤ t ∧ t ≤ 5) {a k : Addr} {r rk : NR} {P : PL} {e : List Addr} {Rl : RL} (Z : ZT N W t a r P k e Rl) (hk : N k = some rk) (hkc : rk.c = r.c) (hmin : (e.length : Int) = t - 1) (hs : P ≠ [] ∨ Rl ≠ []) (cr : ∀ c, W c → H.I c ≠ none) {Q : AV → AH → Prop} (kq : ∀ v H' N' r' P' k' e' Rl' rk' u w, ZT N' W t a r' P' k' e' Rl' → Stole ex W t H N a r k' H' N' r' rk' → fP P = fP P' ++ u → fR Rl = w ++ fR Rl' → e' = u ++ (e ++ w) → t ≤ (e'.length : Int) → Q v H') :
    CallOK cx h false (.ref 196) [.ref k, .ref a, .int P.length] H Q X := by
  have n := R.nd a r Z.top
  have nk := R.nd k rk hk
  refine call_of' B.T (by lia) B.f196 rfl (fun q => by cases q) fun m _ => ?_
  intro K0
  unfold f__Node_balance
  walk_at "u"
  try rw [hj]
  refine nd_lf' n Z.lf ?_
  walk_at "u"
  try rw [hj]
  refine ⟨rfl, ?_⟩
  walk_at "u"
  try rw [hj]
  refine nd_fn nk rfl ?_
  walk_at "u"
  try rw [hj]
  refine c_left_steal (ex := ex) B (by lia) R ht Z hk hkc (by lia) cr (fun H1 N1 r1 rk1 P1 e1 u Z1 S1 hl hu he hul => ?_) fun hlm => ?_
  · walk_at "u"
    refine kq _ _ N1 r1 P1 k e1 Rl rk1 u [] Z1 S1 hu (by simp) (by simp [he]) ?_
    rw [he]; simp; lia
  · walk_at "u"
    refine nd_fn nk rfl ?_
    walk_at "u"
    try rw [hj]
    refine c_right_steal (ex := ex) B (by lia) R ht Z hk hkc (by lia) cr (fun H2 N2 r2 rk2 Rl2 e2 u Z2 S2 hl hu he hul => ?_) fun hrm => ?_
    · walk_at "u"
      refine kq _ _ N2 r2 P k e2 Rl2 rk2 [] u Z2 S2 (by simp) hu (by simp [he]) ?_
      rw [he]; simp; lia
    · walk_at "u"
      by_cases hP : P = []
      · subst hP
        rw [decide_eq_true (by simp)]
        walk_at "u"
        try rw [hj]
        rcases Rl with _ | ⟨⟨x, k1, e1'⟩, R0⟩
        · exact absurd hs (by simp)
        · have h1 := hrm R0 k1 e1' x rfl
          walk_at "u"
          try rw [hj]
          refine nd_fn nk rfl ?_
          walk_at "u"
          try rw [hj]
          refine c_merge (ex := ex) B (by lia) R ht Z hk hkc (by simp; lia) fun v H3 N3 r3 rk3 Z3 S3 => ?_
          walk_at "u"
          try rw [hj]
          refine kq _ _ N3 r3 [] k _ R0 rk3 [] (x :: e1') Z3 S3 rfl (by simp [fR_cons]) rfl ?_
          simp; lia
      · obtain ⟨P0, ⟨kl, el, x⟩, rfl⟩ := snoc_of hP
        have hi : ((P0 ++ [(kl, el, x)]).length : Int) = (P0.length : Int) + 1 := by simp
        have hj : ((P0.length : Int) + 1 - 1) = (P0.length : Int) := by lia
        have hlm' := hlm P0 kl el x rfl
        have Zl := Z.left
        obtain ⟨rl, hl⟩ := Option.ne_none_iff_exists'.mp Zl.kk.some
        obtain ⟨l1, l2, l3, l4⟩ := kid_rec Zl.kk hl
        rw [hi, decide_eq_false (by lia)]
        walk_at "u"
        try rw [hj]
        try rw [hj]
        walk_at "u"
        try rw [hj]
        refine nd_fn n rfl ?_
        walk_at "u"
        try rw [hj]
        refine c_cow_child (ex := ex) B (by lia) R ht Z.top Z.lf Zl.kid hl (by rw [l2]; lia) (by rw [l3]; simp) (fun _ => l3) (cr _ l4) (cr _ Z.c) fun H3 kl' N3 rl' s3 C => ?_
        have Z3 := Zl.cow hl C
        have nl3 := s3.rep.nd kl' rl' C.kid
        walk_at "u"
        try rw [hj]
        refine nd_fn nl3 rfl ?_
        walk_at "u"
        try rw [hj]
        refine c_merge (ex := ex) B (by lia) s3.rep ht Z3 C.kid C.c (by simp; lia) fun v H4 N4 r4 rk4 Z4 S4 => ?_
        walk_at "u"
        try rw [hj]
        refine kq _ _ N4 r4 P0 kl' _ _ rk4 (el ++ [x]) [] Z4 ⟨s3.trans S4.step, S4.c, (C.fr Z.top).trans S4.fr, S4.kid, S4.kc⟩ (by rw [fP_snoc]) (by simp) (by simp) ?_
        simp; lia
end
noncomputable def exA : Option Addr → AV | none => .none | some y => .ref y
inductive DelR (κ : Addr → Int) (S : List Addr) (key : Int) (xo : Option Addr) (v : AV) (S' : List Addr) : Prop
  | inl (A : List Addr) (x : Addr) (B : List Addr) (h1 : S = A ++ x :: B) (h2 : κ x = key) (h3 : v = .ref x) (h4 : S' = A ++ B) (h5 : ∀ y, xo = some y → y = x)
  | inr (h1 : ∀ x ∈ S, κ x ≠ key) (h2 : v = .none) (h3 : S' = S) (h4 : xo = none)
noncomputable def Not1 (κ : Addr → Int) (S : List Addr) (key : Int) (y : Addr) : Prop := ∀ x ∈ S, κ x = key → x ≠ y
section
variable {cx : Cx} {tn : Bool} {H H' H'' : AH} {X : Value → AH → Prop} {t : Int} {N N' N'' : NM} {h : Nat} {κ : Addr → Int} {ex : Addr → Prop} {W : Addr → Prop}
theorem upd_self {a : Addr} {r : NR} (h : N a = some r) : upd N a r = N := by
  funext b; simp only [upd]; split
  · rename_i e; rw [e, h]
  · rfl
theorem DelR.lift {S S' : List Addr} {key : Int} {xo : Option Addr} {v : AV} (d : DelR κ S key xo v S') {A B : List Addr} (hA : ∀ y ∈ A, κ y < key) (hB : ∀ y ∈ B, key < κ y) : DelR κ (A ++ (S ++ B)) key xo v (A ++ (S' ++ B)) := by
  rcases d with ⟨A', x, B', rfl, h1, h2, rfl, h3⟩ | ⟨h1, h2, rfl, h3⟩
  · exact .inl (A ++ A') x (B' ++ B) (by simp) h1 h2 (by simp) h3
  · refine .inr (fun x hx => ?_) h2 rfl h3
    rcases List.mem_append.mp hx with h | h
    · have := hA x h; lia
    · rcases List.mem_append.mp h with h | h
      · exact h1 x h
      · have := hB x h; lia
theorem Not1.lift {S : List Addr} {key : Int} {y : Addr} (d : Not1 κ S key y) {A B : List Addr} (hA : ∀ y ∈ A, κ y < key) (hB : ∀ y ∈ B, key < κ y) : Not1 κ (A ++ (S ++ B)) key y := by
  intro x hx hk
  rcases List.mem_append.mp hx with h | h
  · have := hA x h; lia
  · rcases List.mem_append.mp h with h | h
    · exact d x h hk
    · have := hB x h; lia
theorem so_split {A B A' B' : List Addr} {x x' : Addr} (e : A ++ x :: B = A' ++ x' :: B') (hs : ((A ++ x :: B).map κ).Pairwise (· < ·)) (hk : κ x = κ x') : A = A' ∧ x = x' ∧ B = B' := by
  have hlen : A.length = A'.length := by
    have g1 : ((A ++ x :: B).map κ)[A.length]? = some (κ x) := by simp
    have g2 : ((A ++ x :: B).map κ)[A'.length]? = some (κ x') := by rw [e]; simp
    rcases Nat.lt_trichotomy A.length A'.length with h | h | h
    · have := sorted_get hs h g1 g2; lia
    · exact h
    · have := sorted_get hs h g2 g1; lia
  obtain ⟨h1, h2⟩ := List.append_inj e hlen
  injection h2 with h2 h3
  exact ⟨h1, h2, h3⟩
theorem c_delete_leaf (B : Bod cx) (hh : 3 ≤ h) (R : Rep t H N) (ht : 3 ≤ t ∧ t ≤ 5) {a : Addr} {r : NR} {key : Int} {pv : AV} {xo : Option Addr} (hr : N a = some r) (hlf : r.lf = true) (hn : r.es.length < 1000) (hel : ∀ x ∈ r.es, El H κ x) (hs : (r.es.map κ).Pairwise (· < ·))
    (hxo : ∀ y, xo = some y → H.I y ≠ none) (hp : pv = .none ∨ (∃ b, pv = .ref b) ∧ t ≤ (r.es.length : Int)) (hX : ∀ y H', xo = some y → Not1 κ r.es key y → TM H H' → X (.type "ValueError") H') {Q : AV → AH → Prop} (kq : ∀ v H' es', DelR κ r.es key xo v es' → Step ex t H N H' (upd N a { r with es := es' }) → Q v H') :
    CallOK cx h false (.ref 203) [.ref a, .int key, pv, exA xo] H Q X := by
  have n := R.nd a r hr
  refine call_of' B.T (by lia) B.f203 rfl (fun q => by cases q) fun m _ => ?_
  intro K0
  have main : wpS cx m false (f__Node_delete.tl) X (bindσ ["self", "key", "parent", "exact"] [.ref a, .int key, pv, exA xo]) H K0 := by
    unfold f__Node_delete
    simp only [tl_cons]
    walk_at "u"
    refine nd_fn n rfl ?_
    walk_at "u"
    refine c_search B (by lia) n hn hel hs fun H1 tp i b hT m1 sr => ?_
    have n1 := n.tm m1
    have s1 := m1.step (ex := ex) R
    walk_at "u"
    refine asT hT ?_
    walk_at "u"
    cases b with
    | true =>
      obtain ⟨x, hx, hk, hsp⟩ := sr.split_hit
      have hi : i < r.es.length := (List.getElem?_eq_some_iff.mp hx).1
      have last : (∀ y, xo = some y → y = x) → Q (.ref x) (H1.setL r.e ((refs r.es).take (i : Int).toNat ++ (refs r.es).drop ((i : Int).toNat + 1))) := fun q => by
        refine kq _ _ _ (.inl _ x _ hsp hk rfl rfl q) ?_
        rw [show ((i : Int)).toNat = i from by lia, refs_take, refs_drop, ← refs_append]
        exact s1.trans (Step.setE s1.rep hr)
      cases xo with
      | none =>
        unfold exA
        walk_at "u"
        refine nd_lf' n1 hlf ?_
        walk_at "u"
        refine nd_e n1 ?_
        walk_at "u"
        refine meth_L n1.E (by simp) ?_
        walk_at "u"
        refine w_popAt n1.E (seqAt_of hx) ?_
        walk_at "u"
        exact last (fun y h => by cases h)
      | some y =>
        unfold exA
        walk_at "u"
        refine nd_e n1 ?_
        walk_at "u"
        refine item_L n1.E (seqAt_of hx) ?_
        walk_at "u"
        refine cmp_isNot_dec (by rw [m1.I]; rcases hel x (List.mem_of_getElem? hx) with ⟨v, e⟩ | e <;> (rw [e]; simp)) (by rw [m1.I]; exact hxo y rfl) ?_
        walk_at "u"
        by_cases e : x = y
        · rw [decide_eq_true e]
          walk_at "u"
          refine nd_lf' n1 hlf ?_
          walk_at "u"
          refine nd_e n1 ?_
          walk_at "u"
          refine meth_L n1.E (by simp) ?_
          walk_at "u"
          refine w_popAt n1.E (seqAt_of hx) ?_
          walk_at "u"
          exact last (fun y' h => by cases h; exact e.symm)
        · rw [decide_eq_false e]
          walk_at "u"
          refine hX y _ rfl ?_ m1
          intro z hz hkz hzy
          rw [hsp] at hs hz
          obtain ⟨Az, Bz, hz'⟩ := List.append_of_mem hz
          obtain ⟨-, q, -⟩ := so_split hz' hs (hk.trans hkz.symm)
          exact e (q.trans hzy)
    | false =>
      walk_at "u"
      refine nd_lf' n1 hlf ?_
      walk_at "u"
      cases xo with
      | none =>
        unfold exA
        walk_at "u"
        exact kq _ _ r.es (.inr sr.none rfl rfl rfl) (by rw [upd_self hr]; exact s1)
      | some y =>
        unfold exA
        walk_at "u"
        exact hX y _ rfl (fun z hz hkz => absurd hkz (sr.none z hz)) m1
  rw [show f__Node_delete = .cons (.assert (.or (.cons (.cmp .is (.loc "parent") .none) (.cons (.not (.meth (.loc "self") "is_minimal" .nil)) .nil)))) f__Node_delete.tl from rfl]
  generalize f__Node_delete.tl = bd at main ⊢
  rcases hp with rfl | ⟨⟨b, rfl⟩, hlen⟩
  · walk_at "u"
    exact ⟨rfl, main⟩
  · walk_at "u"
    refine nd_fn n rfl ?_
    walk_at "u"
    refine c_is_minimal B (by lia) n (by lia) ?_
    rw [decide_eq_false (by lia)]
    walk_at "u"
    exact ⟨rfl, main⟩
theorem c_gn_leaf (B : Bod cx) (hh : 3 ≤ h) (R : Rep t H N) {a x : Addr} {r : NR} {key : Int} (hr : N a = some r) (hn : r.es.length < 1000) (hel : ∀ x ∈ r.es, El H κ x) (hs : (r.es.map κ).Pairwise (· < ·)) (hx : x ∈ r.es) (hk : κ x = key) {Q : AV → AH → Prop} (kq : ∀ H' tp j, H'.T tp = some [.ref a, .int (j : Nat)] → TM H H' → ∀ x', r.es[j]? = some x' → κ x' = key → r.es = r.es.take j ++ x' :: r.es.drop (j + 1) → Q (.ref tp) H') :
    CallOK cx h false (.ref 119) [.ref a, .int key] H Q X := by
  have n := R.nd a r hr
  refine call_of' B.T (by lia) B.f119 rfl (fun q => by cases q) fun m _ => ?_
  intro K0
  unfold f__Node__get_node
  walk_at "u"
  refine nd_fn n rfl ?_
  walk_at "u"
  refine c_search B (by lia) n hn hel hs fun H1 tp i b hT m1 sr => ?_
  walk_at "u"
  refine asT hT ?_
  walk_at "u"
  cases b with
  | false => exact absurd hk (sr.none x hx)
  | true =>
    obtain ⟨x', hx', hk', hsp⟩ := sr.split_hit
    walk_at "u"
    refine tup_ (by simp) fun q hq => ?_
    walk_at "u"
    exact kq _ q i upd_at (m1.trans (TM.setT hq)) x' hx' hk' hsp
inductive SetT (W : Addr → Prop) (t : Int) (c : Addr) (N : NM) (a : Addr) (S : List Addr) : Prop
  | mk (r : NR) (P : PL) (k : Addr) (e : List Addr) (R : RL) (h1 : r.c = c) (Z : ZT N W t a r P k e R) (h : fP P ++ (e ++ fR R) = S)
theorem c_gn_root (B : Bod cx) (hh : 6 ≤ h) (R : Rep t H N) {a x : Addr} {r : NR} {P : PL} {k : Addr} {e : List Addr} {Rl : RL} {A C : List Addr} {key : Int} (Z : ZT N W t a r P k e Rl) (g : Good H κ W t (fP P ++ (e ++ fR Rl))) (hS : fP P ++ (e ++ fR Rl) = A ++ x :: C) (hk : κ x = key) {Q : AV → AH → Prop} (kq : ∀ H' tp mm j N' rm, H'.T tp = some [.ref mm, .int (j : Nat)] → Step ex t H N H' N' → FrC r.c N N' → N' mm = some rm → rm.c = r.c → rm.es[j]? = some x → (∀ y, SetT W t r.c (upd N' mm { rm with es := rm.es.set j y }) a (A ++ y :: C)) → Q (.ref tp) H') :
    CallOK cx h false (.ref 119) [.ref a, .int key] H Q X := by
  have n := R.nd a r Z.top
  refine call_of' B.T (by lia) B.f119 rfl (fun q => by cases q) fun m _ => ?_
  intro K0
  unfold f__Node__get_node
  walk_at "u"
  refine nd_fn n rfl ?_
  walk_at "u"
  refine c_search B (by lia) n (by have := Z.sub.length_le; have := g.len; lia) (fun x hx => g.el x (Z.sub.subset hx)) (Z.sorted g.so) fun H1 tp i b hT m1 sr => ?_
  have n1 := n.tm m1
  have s1 := m1.step (ex := ex) R
  walk_at "u"
  refine asT hT ?_
  walk_at "u"
  cases b with
  | true =>
    obtain ⟨P', k', e', x', k1, e1, R', Z', q, rfl, hk', hx'⟩ := Z.hit sr
    walk_at "u"
    refine tup_ (by simp) fun tq hq => ?_
    walk_at "u"
    have hs := g.so
    rw [hS] at hs q
    rw [fR_cons, show fP P' ++ (e' ++ x' :: (e1 ++ fR R')) = (fP P' ++ e') ++ x' :: (e1 ++ fR R') by simp] at q
    obtain ⟨rfl, rfl, rfl⟩ := so_split q.symm hs (hk.trans hk'.symm)
    refine kq _ tq a P'.length N r upd_at (s1.trans (Step.setT s1.rep hq)) FrC.refl Z.top rfl hx' fun y => ⟨{ r with es := r.es.set P'.length y }, P', k', e', (y, k1, e1) :: R', rfl, Z'.setSep, ?_⟩
    rw [fR_cons]; simp
  | false =>
    obtain ⟨P', k', e', R', Z', q, rfl, hl, hr⟩ := Z.miss g.so sr
    obtain ⟨rk, hrk⟩ := Option.ne_none_iff_exists'.mp Z'.kk.some
    obtain ⟨k1, k2, k3, k4⟩ := kid_rec Z'.kk hrk
    have g' := g
    rw [← q] at g'
    have gk := (g'.tm m1).sub (mid_sub _ _ _)
    have gl := gk.len
    walk_at "u"
    refine nd_lf' n1 Z.lf ?_
    walk_at "u"
    refine nd_fn n1 rfl ?_
    walk_at "u"
    refine c_cow_child (ex := no) B (by lia) s1.rep g.t Z'.top Z'.lf Z'.kid hrk (by rw [k2]; lia) (by rw [k3]; simp) (fun _ => k3) (by rw [m1.I]; exact g.cr _ k4) (by rw [m1.I]; exact g.cr _ Z.c) fun H2 k2' N2 rk2 s2 C2 => ?_
    have Z2 := Z'.cow hrk C2
    have nk2 := s2.rep.nd k2' rk2 C2.kid
    obtain ⟨m1', m2', m3', m4'⟩ := kid_rec Z2.kk C2.kid
    have hxe : x ∈ e' := by
      have hm : x ∈ fP P' ++ (e' ++ fR R') := by rw [q, hS]; simp
      rcases List.mem_append.mp hm with h | h
      · have := hl x h; lia
      · rcases List.mem_append.mp h with h | h
        · exact h
        · have := hr x h; lia
    have el2 : ∀ x ∈ e', El H2 κ x := fun y hy => (gk.el y hy).step s1.rep s2 (fun h => h)
    walk_at "u"
    refine nd_fn nk2 rfl ?_
    walk_at "u"
    refine c_gn_leaf (κ := κ) (x := x) B (by lia) s2.rep C2.kid (by rw [m2']; lia) (by rw [m2']; exact el2) (by rw [m2']; exact gk.so) (by rw [m2']; exact hxe) hk fun H3 tq j hT3 m3 x' hx' hk' hsp => ?_
    have s3 := m3.step (ex := ex) s2.rep
    rw [m2'] at hsp hx'
    have hs := g.so
    rw [hS] at hs q
    rw [hsp, show fP P' ++ (e'.take j ++ x' :: e'.drop (j + 1) ++ fR R') = (fP P' ++ e'.take j) ++ x' :: (e'.drop (j + 1) ++ fR R') by simp] at q
    obtain ⟨rfl, rfl, rfl⟩ := so_split q.symm hs (hk.trans hk'.symm)
    have hj := (List.getElem?_eq_some_iff.mp hx').1
    refine kq _ tq k2' j N2 rk2 hT3 ((s1.trans s2.any).trans s3) (C2.fr Z.top) C2.kid C2.c (by rw [m2']; exact hx') fun y => ?_
    rw [m2']
    refine ⟨_, P', k2', e'.set j y, R', ?_, Z2.modK C2.kid (by rw [List.length_set]; exact Z2.kk.lo) (by rw [List.length_set]; exact Z2.kk.hi), ?_⟩
    · rfl
    · rw [List.set_eq_take_append_cons_drop, if_pos hj]; simp
end
noncomputable def dTail2 : PS :=
  (.cons (.ite (.cmp .isNot (.loc "original_key") .none)
    (.cons (.assignT "node" "i" (.meth (.loc "self") "_get_node" (.cons (.loc "original_key") .nil)))
    (.cons (.assert (.cmp .isNot (.loc "node") .none))
    (.cons (.assert (.cmp .isNot (.loc "elt") .none))
    (.cons (.assign "oelt" (.item (.attr (.loc "node") "elts") (.loc "i")))
    (.cons (.setItem (.attr (.loc "node") "elts") (.loc "i") (.loc "elt"))
    (.cons (.assign "elt" (.loc "oelt"))
    .nil))))))
    .nil)
    (.cons (.ret (.loc "elt"))
    .nil))
noncomputable def dTail1 : PS :=
  (.cons (.assign "elt" (.meth (.loc "child") "delete" (.cons (.loc "key") (.cons (.loc "self") (.cons (.loc "exact") .nil)))))
    dTail2)
noncomputable def dTail : PS :=
  (.cons (.assign "child" (.meth (.loc "self") "maybe_cow_child" (.cons (.loc "i") .nil)))
    (.cons (.ite (.meth (.loc "child") "is_minimal" .nil)
    (.cons (.expr (.meth (.loc "child") "balance" (.cons (.loc "self") (.cons (.loc "i") .nil))))
    (.cons (.assignT "i" "equal" (.meth (.loc "self") "search_in_node" (.cons (.loc "key") .nil)))
    (.cons (.assert (.not (.loc "equal")))
    (.cons (.assign "child" (.item (.attr (.loc "self") "children") (.loc "i")))
    (.cons (.assert (.not (.meth (.loc "child") "is_minimal" .nil)))
    .nil)))))
    .nil)
    dTail1))
theorem f_delete_eq : f__Node_delete = .cons (.assert (.or (.cons (.cmp .is (.loc "parent") .none) (.cons (.not (.meth (.loc "self") "is_minimal" .nil)) .nil))))
    (.cons (.assignT "i" "equal" (.meth (.loc "self") "search_in_node" (.cons (.loc "key") .nil)))
    (.cons (.assign "original_key" .none)
    (.cons (.ite (.loc "equal")
    (.cons (.ite (.and (.cons (.cmp .isNot (.loc "exact") .none) (.cons (.cmp .isNot (.item (.attr (.loc "self") "elts") (.loc "i")) (.loc "exact")) .nil)))
    (.cons .raiseV
    .nil)
    .nil)
    (.cons (.ite (.attr (.loc "self") "is_leaf")
    (.cons (.ret (.meth (.attr (.loc "self") "elts") "pop" (.cons (.loc "i") .nil)))
    .nil)
    .nil)
    (.cons (.assign "exact" .none)
    (.cons (.assign "original_key" (.loc "key"))
    (.cons (.assign "least_successor" (.meth (.item (.attr (.loc "self") "children") (.bin .add (.loc "i") (.int 1))) "minimum" .nil))
    (.cons (.assign "key" (.meth (.loc "least_successor") "key" .nil))
    (.cons (.assign "i" (.bin .add (.loc "i") (.int 1)))
    .nil)))))))
    .nil)
    (.cons (.ite (.attr (.loc "self") "is_leaf")
    (.cons (.ite (.cmp .isNot (.loc "exact") .none)
    (.cons .raiseV
    .nil)
    .nil)
    (.cons (.ret .none)
    .nil))
    .nil)
    dTail)))) := rfl
section
variable {cx : Cx} {tn : Bool} {H H' H'' : AH} {X : Value → AH → Prop} {t : Int} {N N' N'' : NM} {h : Nat} {κ : Addr → Int} {ex : Addr → Prop} {W : Addr → Prop}
structure DelT (κ : Addr → Int) (W : Addr → Prop) (t : Int) (H : AH) (N : NM) (a : Addr) (r : NR) (S : List Addr) (key : Int) (xo : Option Addr) (v : AV) (H' : AH) (N' : NM) (r' : NR) (P' : PL) (k' : Addr) (e' : List Addr) (R' : RL) : Prop where
  del : DelR κ S key xo v (fP P' ++ (e' ++ fR R'))
  Z : ZT N' W t a r' P' k' e' R'
  c : r'.c = r.c
  fr : FrC r.c N N'
  step : Step no t H N H' N'
  one : v = .none → P' = [] → R' = [] → t ≤ (e'.length : Int)
structure RefT (κ : Addr → Int) (W : Addr → Prop) (t : Int) (H : AH) (N : NM) (a : Addr) (r : NR) (S : List Addr) (key : Int) (y : Addr) (H' : AH) (N' : NM) (r' : NR) (P' : PL) (k' : Addr) (e' : List Addr) (R' : RL) : Prop where
  nt : Not1 κ S key y
  Z : ZT N' W t a r' P' k' e' R'
  s : S = fP P' ++ (e' ++ fR R')
  c : r'.c = r.c
  fr : FrC r.c N N'
  step : Step no t H N H' N'
  one : P' = [] → R' = [] → t ≤ (e'.length : Int)
theorem w_dtail1 (B : Bod cx) (hh : 8 ≤ h) {a : Addr} {r : NR} {S : List Addr} {key : Int} {xo : Option Addr} {σ : Loc} {Q : AF → Loc → AH → Prop}
    {H1 : AH} {N1 : NM} {r1 rk : NR} {P : PL} {k : Addr} {e : List Addr} {Rl : RL} (s1 : Step no t H N H1 N1) (Z : ZT N1 W t a r1 P k e Rl) (hS : fP P ++ (e ++ fR Rl) = S) (hc : r1.c = r.c) (fr : FrC r.c N N1) (hrk : N1 k = some rk) (hkc : rk.c = r.c) (hlen : t ≤ (e.length : Int))
    (g : Good H1 κ W t S) (hl : ∀ y ∈ fP P, κ y < key) (hr : ∀ y ∈ fR Rl, key < κ y) (hxo : ∀ y, xo = some y → H1.I y ≠ none)
    (e1 : σ "self" = some (.ref a)) (e2 : σ "key" = some (.int key)) (e3 : σ "child" = some (.ref k)) (e4 : σ "exact" = some (exA xo))
    (hX : ∀ y H' N' r' P' k' e' R', xo = some y → RefT κ W t H N a r S key y H' N' r' P' k' e' R' → X (.type "ValueError") H')
    (hQ : ∀ v H' N' r' P' k' e' R', DelT κ W t H N a r S key xo v H' N' r' P' k' e' R' → wpS cx h false dTail2 X (σ.set "elt" v) H' Q) : wpS cx h false dTail1 X σ H1 Q := by
  obtain ⟨q1, q2, q3, q4⟩ := kid_rec Z.kk hrk
  have nk := s1.rep.nd k rk hrk
  have g' := g
  rw [← hS] at g'
  have gk := g'.sub (mid_sub _ _ _)
  have gl := gk.len
  unfold dTail1
  walk_at "u"
  walk_at "u"
  refine nd_fn nk rfl ?_
  walk_at "u"
  try rw [hj]
  refine c_delete_leaf (ex := no) (κ := κ) B (by lia) s1.rep g.t hrk q1 (by rw [q2]; lia) (by rw [q2]; exact gk.el) (by rw [q2]; exact gk.so) hxo (.inr ⟨⟨a, rfl⟩, by rw [q2]; exact hlen⟩) ?_ fun v H2 es' d s2 => ?_
  · intro y H' hy hn m1
    refine hX y H' N1 r1 P k e Rl hy ⟨?_, Z, hS.symm, hc, fr, s1.trans (m1.step s1.rep), fun _ _ => hlen⟩
    rw [← hS]; rw [q2] at hn; exact hn.lift hl hr
  · rw [q2] at d
    have hle : (t - 1 ≤ (es'.length : Int)) ∧ (es'.length : Int) ≤ 2 * t - 1 ∧ (v = .none → t ≤ (es'.length : Int)) := by
      have := Z.kk.hi
      rcases d with ⟨A, x, B', rfl, h1, h2, rfl, h3⟩ | ⟨h1, h2, rfl, h3⟩
      · simp at hlen this ⊢; refine ⟨by lia, by lia, fun q => ?_⟩; rw [h2] at q; cases q
      · exact ⟨by lia, this, fun _ => hlen⟩
    refine hQ v H2 (upd N1 k { rk with es := es' }) r1 P k es' Rl ⟨?_, Z.modK hrk hle.1 hle.2.1, hc, fr.trans (FrC.upd hrk hkc), s1.trans s2, fun q _ _ => hle.2.2 q⟩
    rw [← hS]; exact d.lift hl hr
theorem w_dtail (B : Bod cx) (hh : 8 ≤ h) (R : Rep t H N) {a : Addr} {r : NR} {P : PL} {k : Addr} {e : List Addr} {Rl : RL} {S : List Addr} {key : Int} {xo : Option Addr} {σ : Loc} {Q : AF → Loc → AH → Prop} (Z : ZT N W t a r P k e Rl) (hS : fP P ++ (e ++ fR Rl) = S) (g : Good H κ W t S)
    (hl : ∀ y ∈ fP P, κ y < key) (hr : ∀ y ∈ fR Rl, key < κ y) (one : P = [] → Rl = [] → t ≤ (e.length : Int)) (hxo : ∀ y, xo = some y → H.I y ≠ none)
    (e1 : σ "self" = some (.ref a)) (e2 : σ "key" = some (.int key)) (e3 : σ "i" = some (.int P.length)) (e4 : σ "exact" = some (exA xo))
    (hX : ∀ y H' N' r' P' k' e' R', xo = some y → RefT κ W t H N a r S key y H' N' r' P' k' e' R' → X (.type "ValueError") H')
    (hQ : ∀ σ' v H' N' r' P' k' e' R', σ' "self" = some (.ref a) → σ' "original_key" = σ "original_key" → σ' "elt" = some v → DelT κ W t H N a r S key xo v H' N' r' P' k' e' R' → wpS cx h false dTail2 X σ' H' Q) : wpS cx h false dTail X σ H Q := by
  have n := R.nd a r Z.top
  obtain ⟨rk, hrk⟩ := Option.ne_none_iff_exists'.mp Z.kk.some
  obtain ⟨q1, q2, q3, q4⟩ := kid_rec Z.kk hrk
  have ht := g.t
  have g' := g
  rw [← hS] at g'
  have gl := (g'.sub (mid_sub _ _ _)).len
  unfold dTail
  walk_at "u"
  walk_at "u"
  refine nd_fn n rfl ?_
  walk_at "u"
  try rw [hj]
  refine c_cow_child (ex := no) B (by lia) R g.t Z.top Z.lf Z.kid hrk (by rw [q2]; lia) (by rw [q3]; simp) (fun _ => q3) (g.cr _ q4) (g.cr _ Z.c) fun H1 k1 N1 rk1 s1 C => ?_
  have Z1 := Z.cow hrk C
  have nk1 := s1.rep.nd k1 rk1 C.kid
  obtain ⟨m1, m2, m3, m4⟩ := kid_rec Z1.kk C.kid
  have g1 := g.step R s1
  walk_at "u"
  walk_at "u"
  refine nd_fn nk1 rfl ?_
  walk_at "u"
  refine c_is_minimal B (by lia) nk1 (by rw [m2]; exact Z1.kk.lo) ?_
  walk_at "u"
  rw [m2]
  by_cases hm : (e.length : Int) = t - 1
  · rw [decide_eq_true hm]
    walk_at "u"
    walk_at "u"
    refine nd_fn nk1 rfl ?_
    walk_at "u"
    refine c_balance (ex := no) B (by lia) s1.rep g.t Z1 C.kid C.c hm (by
      by_cases h1 : P = []
      · refine .inr fun h2 => ?_
        have := one h1 h2; lia
      · exact .inl h1) g1.cr fun v H2 N2 r2 P2 k2 e2' R2 rk2 u w Z2 S2 hu hw he hlen => ?_
    have hS2 : fP P2 ++ (e2' ++ fR R2) = S := by rw [← hS, hu, hw, he]; simp
    have g2 := g1.step s1.rep S2.step
    have g2' := g2
    rw [← hS2] at g2'
    have n2 := S2.step.rep.nd a r2 Z2.top
    have hl2 : ∀ y ∈ fP P2, κ y < key := fun y hy => hl y (by rw [hu]; simp [hy])
    have hr2 : ∀ y ∈ fR R2, key < κ y := fun y hy => hr y (by rw [hw]; simp [hy])
    walk_at "u"
    walk_at "u"
    refine nd_fn n2 rfl ?_
    walk_at "u"
    try rw [hj]
    refine c_search B (by lia) n2 (by have := Z2.sub.length_le; have := g2'.len; lia) (fun x hx => g2'.el x (Z2.sub.subset hx)) (Z2.sorted g2'.so) fun H3 tp i b hT m3' sr => ?_
    obtain ⟨rfl, rfl⟩ := Z2.stops hl2 hr2 sr
    have n3 := n2.tm m3'
    have nk3 := (S2.step.rep.nd k2 rk2 S2.kid).tm m3'
    obtain ⟨u1, u2, u3, u4⟩ := kid_rec Z2.kk S2.kid
    refine asT hT ?_
    walk_at "u"
    refine ⟨rfl, ?_⟩
    walk_at "u"
    refine nd_k n3 ?_
    walk_at "u"
    refine item_L n3.K (seqAt_of Z2.kid) ?_
    walk_at "u"
    refine nd_fn nk3 rfl ?_
    walk_at "u"
    refine c_is_minimal B (by lia) nk3 (by rw [u2]; exact Z2.kk.lo) ?_
    rw [decide_eq_false (by rw [u2]; lia)]
    walk_at "u"
    refine ⟨rfl, ?_⟩
    have sT : Step no t H N H3 N2 := (s1.trans S2.step).trans (m3'.step S2.step.rep)
    refine w_dtail1 (κ := κ) (W := W) (xo := xo) (r := r) B hh sT Z2 hS2 S2.c ((C.fr Z.top).trans S2.fr) S2.kid S2.kc hlen (g2.tm m3') hl2 hr2 (fun y hy => sT.inst y (hxo y hy)) ?_ ?_ ?_ ?_ hX ?_
    · simp [set_at, e1]
    · simp [set_at, e2]
    · simp [set_at]
    · simp [set_at, e4]
    · intro v H' N' r' P' k' e' R' d
      exact hQ _ v H' N' r' P' k' e' R' (by simp [set_at, e1]) (by simp [set_at]) (by simp [set_at]) d
  · rw [decide_eq_false hm]
    walk_at "u"
    have hlen : t ≤ (e.length : Int) := by have := Z.kk.lo; lia
    refine w_dtail1 (κ := κ) (W := W) (xo := xo) (r := r) B hh s1 Z1 hS rfl (C.fr Z.top) C.kid C.c hlen g1 hl hr (fun y hy => s1.inst y (hxo y hy)) ?_ ?_ ?_ ?_ hX ?_
    · simp [set_at, e1]
    · simp [set_at, e2]
    · simp [set_at]
    · simp [set_at, e4]
    · intro v H' N' r' P' k' e' R' d
      exact hQ _ v H' N' r' P' k' e' R' (by simp [set_at, e1]) (by simp [set_at]) (by simp [set_at]) d
end
section
variable {cx : Cx} {tn : Bool} {H H' H'' : AH} {X : Value → AH → Prop} {t : Int} {N N' N'' : NM} {h : Nat} {κ : Addr → Int} {ex : Addr → Prop} {W : Addr → Prop}
theorem so_mid {A B : List Addr} {x : Addr} (hs : ((A ++ x :: B).map κ).Pairwise (· < ·)) : (∀ y ∈ A, κ y < κ x) ∧ (∀ y ∈ B, κ x < κ y) := by
  rw [List.map_append, List.map_cons, List.pairwise_append, List.pairwise_cons] at hs
  exact ⟨fun y hy => hs.2.2 _ (List.mem_map_of_mem hy) _ (by simp), fun y hy => hs.2.1.1 _ (List.mem_map_of_mem hy)⟩
theorem w_succ (B : Bod cx) (hh : 8 ≤ h) {a : Addr} {r : NR} {P : PL} {k : Addr} {es : List Addr} {Rl : RL} {S A C : List Addr} {x s : Addr} {key : Int} {xo : Option Addr} {σ : Loc} {H1 : AH} (s1 : Step no t H N H1 N) (Z : ZT N W t a r P k (s :: es) Rl) (hS : fP P ++ ((s :: es) ++ fR Rl) = S) (g : Good H1 κ W t S)
    (hsp : S = A ++ x :: (s :: C)) (hk : κ x = key) (hxo : ∀ y, xo = some y → y = x)
    (e1 : σ "self" = some (.ref a)) (e2 : σ "key" = some (.int (κ s))) (e3 : σ "i" = some (.int P.length)) (e4 : σ "exact" = some .none) (e5 : σ "original_key" = some (.int key)) {Q : AF → Loc → AH → Prop}
    (hQ : ∀ σ' v H' N' r' P' k' e' R', DelT κ W t H N a r S key xo v H' N' r' P' k' e' R' → Q (.ret v) σ' H') : wpS cx h false dTail X σ H1 Q := by
  have hso := g.so
  have hb := hso
  rw [← hS, show fP P ++ ((s :: es) ++ fR Rl) = fP P ++ s :: (es ++ fR Rl) by simp] at hb
  obtain ⟨hb1, hb2⟩ := so_mid hb
  have hne : P ≠ [] := by
    intro q; subst q
    rw [hsp] at hS hso
    have hx : x ∈ s :: (es ++ fR Rl) := by rw [show s :: (es ++ fR Rl) = fP [] ++ ((s :: es) ++ fR Rl) by simp [fP], hS]; simp
    obtain ⟨-, h2⟩ := so_mid hso
    have h3 := h2 s (by simp)
    rcases List.mem_cons.mp hx with h | h
    · subst h; lia
    · have := hb2 x h; lia
  refine w_dtail (κ := κ) (W := W) (S := S) (key := κ s) (xo := none) (r := r) B hh s1.rep Z hS g hb1 (fun y hy => hb2 y (by simp [hy])) (fun q => absurd q hne) (fun y q => by cases q) e1 e2 e3 e4 (fun y _ _ _ _ _ _ _ q => by cases q) ?_
  intro σ' v H' N' r' P' k' e' R' f1 f2 f3 D
  rw [e5] at f2
  have hdel : v = .ref s ∧ fP P' ++ (e' ++ fR R') = A ++ x :: C := by
    rcases D.del with ⟨A', s', B', hS', hk', hv, hs', -⟩ | ⟨hno, -⟩
    · rw [hsp, show A ++ x :: (s :: C) = (A ++ [x]) ++ s :: C by simp] at hS' hso
      obtain ⟨rfl, rfl, rfl⟩ := so_split hS' hso hk'.symm
      exact ⟨hv, by rw [hs']; simp⟩
    · exact absurd rfl (hno s (by rw [hsp]; simp))
  obtain ⟨rfl, hseq⟩ := hdel
  have g' := (g.step s1.rep D.step).sub (S' := A ++ x :: C) (by rw [hsp]; exact (List.Sublist.refl A).append ((List.sublist_cons_self s C).cons_cons x))
  rw [← hseq] at g'
  have n' := D.step.rep.nd a r' D.Z.top
  unfold dTail2
  walk_at "u"
  try rw [hj]
  walk_at "u"
  try rw [hj]
  walk_at "u"
  try rw [hj]
  refine nd_fn n' rfl ?_
  walk_at "u"
  try rw [hj]
  refine c_gn_root (ex := no) (κ := κ) (x := x) (A := A) (C := C) B (by lia) D.step.rep D.Z g' hseq hk fun H2 tp mm j N2 rm hT s2 fr2 hrm hc hj hy => ?_
  have nm := s2.rep.nd mm rm hrm
  have hjl := (List.getElem?_eq_some_iff.mp hj).1
  refine asT hT ?_
  walk_at "u"
  try rw [hj]
  walk_at "u"
  try rw [hj]
  refine ⟨rfl, ?_⟩
  walk_at "u"
  try rw [hj]
  refine ⟨rfl, ?_⟩
  walk_at "u"
  try rw [hj]
  refine nd_e nm ?_
  walk_at "u"
  try rw [hj]
  refine item_L nm.E (seqAt_of hj) ?_
  walk_at "u"
  try rw [hj]
  walk_at "u"
  try rw [hj]
  refine nd_e nm ?_
  walk_at "u"
  try rw [hj]
  refine si_L nm.E (by lia) (by rw [refs_length]; lia) ?_
  rw [show ((j : Int)).toNat = j from by lia, refs_set]
  have s3 := s2.trans (Step.setE (ex := no) (xs := rm.es.set j s) s2.rep hrm)
  obtain ⟨r3, P3, k3, e3', R3, hc3, Z3, hseq3⟩ := hy s
  walk_at "u"
  try rw [hj]
  refine hQ _ _ _ _ r3 P3 k3 e3' R3 ⟨.inl A x (s :: C) hsp hk rfl hseq3 hxo, Z3, hc3.trans D.c, ?_, s1.trans (D.step.trans s3), fun q => by cases q⟩
  exact D.fr.trans ((D.c ▸ fr2).trans (FrC.upd hrm (hc.trans D.c)))
theorem one_same {N : NM} {a k k' : Addr} {r : NR} {P P' : PL} {e e' : List Addr} {R R' : RL} (Z : ZT N W t a r P k e R) (Z' : ZT N W t a r P' k' e' R') (hs : fP P' ++ (e' ++ fR R') = fP P ++ (e ++ fR R)) (one : P = [] → R = [] → t ≤ (e.length : Int)) : P' = [] → R' = [] → t ≤ (e'.length : Int) := fun h1 h2 => by
  have h3 : r.es.length = 0 := by rw [Z'.len, h1, h2]; rfl
  have h4 := Z.len
  have h5 : P = [] := List.length_eq_zero_iff.mp (by lia)
  have h6 : R = [] := List.length_eq_zero_iff.mp (by lia)
  have := one h5 h6
  rw [h1, h2, h5, h6] at hs
  simp [fP, fR] at hs
  rw [hs]; exact this
theorem c_delete_inner (B : Bod cx) (hh : 9 ≤ h) (R : Rep t H N) {a : Addr} {r : NR} {P : PL} {k : Addr} {e : List Addr} {Rl : RL} {S : List Addr} {key : Int} {xo : Option Addr} (Z : ZT N W t a r P k e Rl) (hS : fP P ++ (e ++ fR Rl) = S) (g : Good H κ W t S)
    (one : P = [] → Rl = [] → t ≤ (e.length : Int)) (hxo : ∀ y, xo = some y → H.I y ≠ none)
    (hX : ∀ y H' N' r' P' k' e' R', xo = some y → RefT κ W t H N a r S key y H' N' r' P' k' e' R' → X (.type "ValueError") H') {Q : AV → AH → Prop} (kq : ∀ v H' N' r' P' k' e' R', DelT κ W t H N a r S key xo v H' N' r' P' k' e' R' → Q v H') :
    CallOK cx h false (.ref 203) [.ref a, .int key, .none, exA xo] H Q X := by
  have n := R.nd a r Z.top
  have ht := g.t
  have g' := g
  rw [← hS] at g'
  refine call_of' B.T (by lia) B.f203 rfl (fun q => by cases q) fun m _ => ?_
  intro K0
  rw [f_delete_eq]
  walk_at "u"
  try rw [hj]
  refine ⟨rfl, ?_⟩
  walk_at "u"
  try rw [hj]
  refine nd_fn n rfl ?_
  walk_at "u"
  try rw [hj]
  refine c_search B (by lia) n (by have := Z.sub.length_le; have := g'.len; lia) (fun x hx => g'.el x (Z.sub.subset hx)) (Z.sorted g'.so) fun H1 tp i b hT m1 sr => ?_
  have n1 := n.tm m1
  have s1 := m1.step (ex := no) R
  have g1 := g.tm m1
  have hxo1 : ∀ y, xo = some y → H1.I y ≠ none := fun y hy => by rw [m1.I]; exact hxo y hy
  walk_at "u"
  try rw [hj]
  refine asT hT ?_
  walk_at "u"
  try rw [hj]
  cases b with
  | false =>
    obtain ⟨P', k', e', R', Z', q, rfl, hl, hr⟩ := Z.miss g'.so sr
    have one' := one_same Z Z' q one
    walk_at "u"
    try rw [hj]
    refine nd_lf' n1 Z.lf ?_
    walk_at "u"
    try rw [hj]
    refine w_dtail (κ := κ) (W := W) (S := S) (key := key) (xo := xo) B (by lia) s1.rep Z' (q.trans hS) g1 hl hr one' hxo1 (by simp [set_at, bind_cons]) (by simp [set_at, bind_cons]) (by simp [set_at, bind_cons]) (by simp [set_at, bind_cons]) ?_ ?_
    · intro y H' N' r' P'' k'' e'' R'' hy D
      exact hX y H' N' r' P'' k'' e'' R'' hy ⟨D.nt, D.Z, D.s, D.c, D.fr, s1.trans D.step, D.one⟩
    · intro σ' v H' N' r' P'' k'' e'' R'' f1 f2 f3 D
      have f2' : σ' "original_key" = some .none := by rw [f2]; simp [set_at, bind_cons]
      unfold dTail2
      walk_at "u"
      try rw [hj]
      walk_at "u"
      try rw [hj]
      walk_at "u"
      try rw [hj]
      exact kq _ _ N' r' P'' k'' e'' R'' ⟨D.del, D.Z, D.c, D.fr, s1.trans D.step, D.one⟩
  | true =>
    obtain ⟨P', k', e', x, k1, e1, R', Z', q, rfl, hk, hx⟩ := Z.hit sr
    have Zr := Z'.right
    have hPl : (P' ++ [(k', e', x)]).length = P'.length + 1 := by simp
    obtain ⟨r1, h1⟩ := Option.ne_none_iff_exists'.mp Zr.kk.some
    obtain ⟨l1, l2, l3, l4⟩ := kid_rec Zr.kk h1
    have hkid := Zr.kid
    rw [hPl] at hkid
    have hq : fP (P' ++ [(k', e', x)]) ++ (e1 ++ fR R') = S := by rw [fs_right, q, hS]
    have hne : e1 ≠ [] := by intro q; subst q; have := Zr.kk.lo; simp at this; lia
    obtain ⟨s, es1, rfl⟩ := List.exists_cons_of_ne_nil hne
    have hso := g.so
    have hsp : S = (fP P' ++ e') ++ x :: (s :: (es1 ++ fR R')) := by rw [← hq, fP_snoc]; simp
    have n1k := s1.rep.nd k1 r1 h1
    have hj : ((P'.length : Int) + 1) = ((P'.length + 1 : Nat) : Int) := by lia
    cases xo with
    | none =>
      unfold exA
      walk_at "u"
      try rw [hj]
      refine nd_lf' n1 Z.lf ?_
      walk_at "u"
      try rw [hj]
      refine nd_k n1 ?_
      walk_at "u"
      rw [hj]
      walk_at "u"
      try rw [hj]
      refine item_L n1.K (seqAt_of hkid) ?_
      walk_at "u"
      try rw [hj]
      refine nd_fn n1k rfl ?_
      walk_at "u"
      try rw [hj]
      refine c_minimum (x := s) B (by lia) n1k l1 (by rw [l2]; rfl) ?_
      walk_at "u"
      try rw [hj]
      refine w_key B (by lia) (g1.el s (by rw [hsp]; simp)) ?_
      walk_at "u"
      try rw [hj]
      refine nd_lf' n1 Z.lf ?_
      walk_at "u"
      try rw [hj]
      refine w_succ (κ := κ) (A := fP P' ++ e') (C := es1 ++ fR R') B (by lia) s1 Zr hq g1 hsp hk (by intro y h; cases h) (by simp [set_at, bind_cons]) (by simp [set_at, bind_cons]) (by simp [set_at, hPl]) (by simp [set_at, bind_cons]) (by simp [set_at, bind_cons]) fun _ v H' N' r' P' k' e' R' D => kq v H' N' r' P' k' e' R' D
    | some y =>
      unfold exA
      walk_at "u"
      try rw [hj]
      refine nd_e n1 ?_
      walk_at "u"
      try rw [hj]
      refine item_L n1.E (seqAt_of hx) ?_
      walk_at "u"
      try rw [hj]
      refine cmp_isNot_dec (by rcases g1.el x (by rw [hsp]; simp) with ⟨v, e⟩ | e <;> (rw [e]; simp)) (hxo1 y rfl) ?_
      walk_at "u"
      try rw [hj]
      by_cases e0 : x = y
      · rw [decide_eq_true e0]
        walk_at "u"
        try rw [hj]
        refine nd_lf' n1 Z.lf ?_
        walk_at "u"
        try rw [hj]
        refine nd_k n1 ?_
        walk_at "u"
        rw [hj]
        walk_at "u"
        try rw [hj]
        refine item_L n1.K (seqAt_of hkid) ?_
        walk_at "u"
        try rw [hj]
        refine nd_fn n1k rfl ?_
        walk_at "u"
        try rw [hj]
        refine c_minimum (x := s) B (by lia) n1k l1 (by rw [l2]; rfl) ?_
        walk_at "u"
        try rw [hj]
        refine w_key B (by lia) (g1.el s (by rw [hsp]; simp)) ?_
        walk_at "u"
        try rw [hj]
        refine nd_lf' n1 Z.lf ?_
        walk_at "u"
        try rw [hj]
        refine w_succ (κ := κ) (A := fP P' ++ e') (C := es1 ++ fR R') B (by lia) s1 Zr hq g1 hsp hk (by intro y h; cases h; exact e0.symm) (by simp [set_at, bind_cons]) (by simp [set_at, bind_cons]) (by simp [set_at, hPl]) (by simp [set_at, bind_cons]) (by simp [set_at, bind_cons]) fun _ v H' N' r' P' k' e' R' D => kq v H' N' r' P' k' e' R' D
      · rw [decide_eq_false e0]
        walk_at "u"
        try rw [hj]
        refine hX y _ N r P k e Rl rfl ⟨?_, Z, hS.symm, rfl, FrC.refl, s1, one⟩
        intro z hz hkz hzy
        obtain ⟨Az, Bz, hz'⟩ := List.append_of_mem hz
        rw [hsp] at hz' hso
        obtain ⟨-, q, -⟩ := so_split hz' hso (hk.trans hkz.symm)
        exact e0 (q.trans hzy)
end
section
variable {cx : Cx} {tn : Bool} {H H' H'' : AH} {X : Value → AH → Prop} {t : Int} {N N' N'' : NM} {h : Nat} {κ : Addr → Int} {ex : Addr → Prop} {W : Addr → Prop}
theorem fP_len {P : PL} : (∀ p ∈ P, t - 1 ≤ (p.2.1.length : Int)) → t * P.length ≤ ((fP P).length : Int) := by
  induction P with
  | nil => exact fun _ => by simp [fP]
  | cons p P ih =>
    intro h
    obtain ⟨k, e, x⟩ := p
    have h1 := ih fun p hp => h p (by simp [hp])
    have h2 := h (k, e, x) (by simp)
    have : fP ((k, e, x) :: P) = e ++ (x :: fP P) := by simp [fP]
    rw [this]
    simp only [List.length_append, List.length_cons] at h2 ⊢
    push_cast
    rw [Int.mul_add, Int.mul_one]
    lia
theorem fR_len {P : RL} : (∀ p ∈ P, t - 1 ≤ (p.2.2.length : Int)) → t * P.length ≤ ((fR P).length : Int) := by
  induction P with
  | nil => exact fun _ => by simp [fR]
  | cons p P ih =>
    intro h
    obtain ⟨x, k, e⟩ := p
    have h1 := ih fun p hp => h p (by simp [hp])
    have h2 := h (x, k, e) (by simp)
    rw [fR_cons]
    simp only [List.length_append, List.length_cons] at h2 ⊢
    push_cast
    rw [Int.mul_add, Int.mul_one]
    lia
theorem ZT.few {a k : Addr} {r : NR} {P : PL} {e : List Addr} {Rl : RL} (Z : ZT N W t a r P k e Rl) (ht : 3 ≤ t ∧ t ≤ 5) (hl : (fP P ++ (e ++ fR Rl)).length ≤ 16) : (r.es.length : Int) < 2 * t - 1 := by
  have h1 := fP_len fun p hp => (Z.kP p hp).lo
  have h2 := fR_len fun p hp => (Z.kR p hp).lo
  have h3 := Z.kk.lo
  have h4 := Z.len
  simp only [List.length_append] at hl
  have h5 : t = 3 ∨ t = 4 ∨ t = 5 := by lia
  rcases h5 with rfl | rfl | rfl <;> lia
structure SamT (W : Addr → Prop) (t : Int) (H : AH) (N : NM) (a : Addr) (r : NR) (S : List Addr) (H' : AH) (N' : NM) (r' : NR) (P' : PL) (k' : Addr) (e' : List Addr) (R' : RL) : Prop where
  Z : ZT N' W t a r' P' k' e' R'
  s : S = fP P' ++ (e' ++ fR R')
  c : r'.c = r.c
  fr : FrC r.c N N'
  step : Step no t H N H' N'
  one : P' = [] → R' = [] → t ≤ (e'.length : Int)
inductive OptI (W : Addr → Prop) (t : Int) (H : AH) (N : NM) (a : Addr) (r : NR) (S : List Addr) (P0 : PL) (kl' : Addr) (j : Nat) (σ : Loc) (H2 : AH) : Prop
  | mk (N2 : NM) (r2 rl2 : NR) (el2 : List Addr) (R2 : RL) (f1 : σ "self" = some (.ref a)) (f2 : σ "left" = some (.ref kl')) (f3 : σ "index" = some (.int ((P0.length : Int) + 1))) (Z : ZT N2 W t a r2 P0 kl' el2 R2) (hS : fP P0 ++ (el2 ++ fR R2) = S) (hk : N2 kl' = some rl2) (hc : rl2.c = r2.c) (hr : r2.c = r.c) (fr : FrC r.c N N2) (s : Step no t H N H2 N2) (hR : R2 ≠ []) (hj : j = (2 * t - 1 - (el2.length : Int)).toNat)
theorem c_optimize (B : Bod cx) (hh : 7 ≤ h) (R : Rep t H N) (ht : 3 ≤ t ∧ t ≤ 5) {a k : Addr} {r : NR} {P : PL} {e : List Addr} {Rl : RL} {S : List Addr} (Z : ZT N W t a r P k e Rl) (hS : fP P ++ (e ++ fR Rl) = S) (one : P = [] → Rl = [] → t ≤ (e.length : Int)) (cr : ∀ c, W c → H.I c ≠ none) {Q : AV → AH → Prop} (kq : ∀ v H' N' r' P' k' e' R', SamT W t H N a r S H' N' r' P' k' e' R' → Q v H') :
    CallOK cx h false (.ref 133) [.ref a, .int P.length] H Q X := by
  have n := R.nd a r Z.top
  refine call_of' B.T (by lia) B.f133 rfl (fun q => by cases q) fun m _ => ?_
  intro K0
  unfold f__Node_optimize_in_order_insertion
  walk_at "u"
  try rw [hj]
  by_cases hP : P = []
  · subst hP
    rw [decide_eq_true (by simp)]
    walk_at "u"
    try rw [hj]
    exact kq _ _ N r [] k e Rl ⟨Z, hS.symm, rfl, FrC.refl, Step.refl R, one⟩
  · obtain ⟨P0, ⟨kl, el, x⟩, rfl⟩ := snoc_of hP
    have hi : ((P0 ++ [(kl, el, x)]).length : Int) = (P0.length : Int) + 1 := by simp
    have hj : ((P0.length : Int) + 1 - 1) = (P0.length : Int) := by lia
    have Zl := Z.left
    obtain ⟨rl, hl⟩ := Option.ne_none_iff_exists'.mp Zl.kk.some
    obtain ⟨l1, l2, l3, l4⟩ := kid_rec Zl.kk hl
    have nl := R.nd kl rl hl
    rw [hi, decide_eq_false (by lia)]
    walk_at "u"
    try rw [hj]
    refine nd_k n ?_
    walk_at "u"
    try rw [hj]
    walk_at "u"
    try rw [hj]
    refine item_L n.K (seqAt_of Zl.kid) ?_
    walk_at "u"
    try rw [hj]
    refine nd_e nl ?_
    walk_at "u"
    try rw [hj]
    refine len_L nl.E ?_
    walk_at "u"
    try rw [hj]
    refine nd_t n ?_
    walk_at "u"
    try rw [hj]
    refine c_MAX B (by lia) ht ?_
    walk_at "u"
    try rw [hj]
    rw [refs_length]
    by_cases hm : (rl.es.length : Int) = 2 * t - 1
    · rw [decide_eq_true hm]
      walk_at "u"
      try rw [hj]
      exact kq _ _ N r _ k e Rl ⟨Z, hS.symm, rfl, FrC.refl, Step.refl R, one⟩
    · rw [decide_eq_false hm]
      walk_at "u"
      try rw [hj]
      walk_at "u"
      try rw [hj]
      refine nd_fn n rfl ?_
      walk_at "u"
      try rw [hj]
      refine c_cow_child (ex := no) B (by lia) R ht Z.top Z.lf Zl.kid hl (by have := Zl.kk.hi; rw [l2]; lia) (by rw [l3]; simp) (fun _ => l3) (cr _ l4) (cr _ Z.c) fun H1 kl' N1 rl' s1 C => ?_
      have Z1 := Zl.cow hl C
      have hS1 : fP P0 ++ (el ++ fR ((x, k, e) :: Rl)) = S := by rw [← hS, fs_right]
      walk_at "u"
      try rw [hj]
      refine ⟨OptI W t H N a r S P0 kl', (2 * t - 1 - (el.length : Int)).toNat, ?_, ?_⟩
      · exact ⟨N1, _, rl', el, _, by walk_at "r", by walk_at "r", by walk_at "r", Z1, hS1, C.kid, C.c, rfl, C.fr Z.top, s1, by simp, rfl⟩
      · rintro j σ H2 ⟨N2, r2, rl2, el2, R2, f1, f2, f3, Z2, hS2, hk2, hc2, hr2, fr2, s2, hR2, rfl⟩
        have fin : ∀ {H3 : AH} {N3 : NM} {r3 : NR} {el3 : List Addr} {R3 : RL}, ZT N3 W t a r3 P0 kl' el3 R3 → fP P0 ++ (el3 ++ fR R3) = S → r3.c = r.c → FrC r.c N N3 → Step no t H N H3 N3 → R3 ≠ [] → Q .none H3 :=
          fun Z3 hS3 hc3 fr3 s3 hR3 => kq _ _ _ _ _ _ _ _ ⟨Z3, hS3.symm, hc3, fr3, s3, fun _ q => absurd q hR3⟩
        have n2 := s2.rep.nd a r2 Z2.top
        have nl2 := s2.rep.nd kl' rl2 hk2
        obtain ⟨m1, m2, m3, m4⟩ := kid_rec Z2.kk hk2
        walk_at "u"
        try rw [hj]
        refine nd_e nl2 ?_
        walk_at "u"
        try rw [hj]
        refine len_L nl2.E ?_
        walk_at "u"
        try rw [hj]
        refine nd_t n2 ?_
        walk_at "u"
        try rw [hj]
        refine c_MAX B (by lia) ht ?_
        walk_at "u"
        try rw [hj]
        rw [refs_length, m2]
        by_cases hlt : (el2.length : Int) < 2 * t - 1
        · rw [decide_eq_true hlt]
          walk_at "u"
          try rw [hj]
          walk_at "u"
          try rw [hj]
          refine nd_fn nl2 rfl ?_
          walk_at "u"
          try rw [hj]
          refine c_right_steal (ex := no) B (by lia) s2.rep ht Z2 hk2 hc2 hlt (fun c hc => s2.inst c (cr c hc)) (fun H4 N4 r4 rk4 R4 e4 u Z4 S4 hl4 hu he hul => ?_) fun hrm => ?_
          · walk_at "u"
            refine ⟨_, ?_, N4, r4, rk4, e4, R4, by first | exact f1 | trivial, by first | exact f2 | trivial, by first | exact f3 | trivial, Z4, ?_, S4.kid, S4.kc.trans S4.c.symm, S4.c.trans hr2, fr2.trans (hr2 ▸ S4.fr), s2.trans S4.step, ?_, rfl⟩
            · rw [he]; simp; lia
            · rw [← hS2, hu, he]; simp
            · intro q; rw [q] at hl4; exact hR2 (List.length_eq_zero_iff.mp hl4.symm)
          · walk_at "u"
            exact fin Z2 hS2 hr2 fr2 s2 hR2
        · rw [decide_eq_false hlt]
          walk_at "u"
          try rw [hj]
          exact fin Z2 hS2 hr2 fr2 s2 hR2
structure InsT (κ : Addr → Int) (W : Addr → Prop) (t : Int) (H : AH) (N : NM) (a : Addr) (r : NR) (S : List Addr) (x : Addr) (v : AV) (H' : AH) (N' : NM) (r' : NR) (P' : PL) (k' : Addr) (e' : List Addr) (R' : RL) : Prop where
  ins : InsR κ S x v (fP P' ++ (e' ++ fR R'))
  Z : ZT N' W t a r' P' k' e' R'
  c : r'.c = r.c
  fr : FrC r.c N N'
  step : Step no t H N H' N'
  one : P' = [] → R' = [] → t ≤ (e'.length : Int)
inductive InsI (W : Addr → Prop) (t : Int) (H : AH) (N : NM) (a : Addr) (r : NR) (S : List Addr) (x : Addr) (io : Bool) (j : Nat) (σ : Loc) (H2 : AH) : Prop
  | mk (N2 : NM) (r2 : NR) (P2 : PL) (k2 : Addr) (e2 : List Addr) (R2 : RL) (f1 : σ "self" = some (.ref a)) (f2 : σ "element" = some (.ref x)) (f3 : σ "in_order" = some (.bool io)) (Z : ZT N2 W t a r2 P2 k2 e2 R2) (hS : fP P2 ++ (e2 ++ fR R2) = S) (hc : r2.c = r.c) (fr : FrC r.c N N2) (s : Step no t H N H2 N2) (one : P2 = [] → R2 = [] → t ≤ (e2.length : Int)) (hj : j = 20 - r2.es.length)
theorem c_insert_inner (B : Bod cx) (hh : 9 ≤ h) (R : Rep t H N) {a x : Addr} {r : NR} {P : PL} {k : Addr} {e : List Addr} {Rl : RL} {S : List Addr} {io : Bool} (Z : ZT N W t a r P k e Rl) (hS : fP P ++ (e ++ fR Rl) = S) (g : Good H κ W t S) (hl16 : S.length ≤ 16) (hx : El H κ x)
    (one : P = [] → Rl = [] → t ≤ (e.length : Int)) {Q : AV → AH → Prop} (kq : ∀ v H' N' r' P' k' e' R', InsT κ W t H N a r S x v H' N' r' P' k' e' R' → Q v H') :
    CallOK cx h false (.ref 140) [.ref a, .ref x, .bool io] H Q X := by
  have n := R.nd a r Z.top
  have ht := g.t
  refine call_of' B.T (by lia) B.f140 rfl (fun q => by cases q) fun m _ => ?_
  intro K0
  unfold f__Node_insert_nonfull
  walk_at "u"
  try rw [hj]
  have hfew := Z.few ht (by rw [hS]; exact hl16)
  walk_at "u"
  try rw [hj]
  refine nd_fn n rfl ?_
  walk_at "u"
  try rw [hj]
  refine c_is_maximal B (by lia) n ht (by lia) ?_
  rw [decide_eq_false (by lia)]
  walk_at "u"
  try rw [hj]
  refine ⟨by walk_at "r", ?_⟩
  walk_at "u"
  refine ⟨InsI W t H N a r S x io, _, ⟨N, r, P, k, e, Rl, rfl, rfl, rfl, Z, hS, rfl, FrC.refl, Step.refl R, one, rfl⟩, ?_⟩
  rintro j σ H2 ⟨N2, r2, P2, k2, e2, R2, f1, f2, f3, Z2, hS2, hc2, fr2, s2, one2, rfl⟩
  have g2 := g.step R s2
  have hx2 := hx.step R s2 (fun h => h)
  have g2' := g2
  rw [← hS2] at g2'
  have n2 := s2.rep.nd a r2 Z2.top
  have hfew2 := Z2.few ht (by rw [hS2]; exact hl16)
  walk_at "u"
  try rw [hj]
  refine w_key B (by lia) hx2 ?_
  walk_at "u"
  try rw [hj]
  refine nd_fn n2 rfl ?_
  walk_at "u"
  try rw [hj]
  refine c_search B (by lia) n2 (by lia) (fun x hx => g2'.el x (Z2.sub.subset hx)) (Z2.sorted g2'.so) fun H3 tp i b hT m3 sr => ?_
  have n3 := n2.tm m3
  have s3 := s2.trans (m3.step (ex := no) s2.rep)
  have g3 := g2.tm m3
  have hx3 := hx2.tm m3
  walk_at "u"
  try rw [hj]
  refine asT hT ?_
  walk_at "u"
  try rw [hj]
  cases b with
  | true =>
    obtain ⟨P', k', e', o, k1, e1, R', Z', q, rfl, hk, ho⟩ := Z2.hit sr
    have hi : P'.length < r2.es.length := (List.getElem?_eq_some_iff.mp ho).1
    walk_at "u"
    try rw [hj]
    refine nd_e n3 ?_
    walk_at "u"
    try rw [hj]
    refine item_L n3.E (seqAt_of ho) ?_
    walk_at "u"
    try rw [hj]
    walk_at "u"
    try rw [hj]
    refine nd_e n3 ?_
    walk_at "u"
    try rw [hj]
    refine si_L n3.E (by lia) (by rw [refs_length]; lia) ?_
    walk_at "u"
    try rw [hj]
    rw [show ((P'.length : Int)).toNat = P'.length from by lia, refs_set]
    have s4 := s3.trans (Step.setE (ex := no) (xs := r2.es.set P'.length x) s3.rep Z2.top)
    refine kq _ _ _ { r2 with es := r2.es.set P'.length x } P' k' e' ((x, k1, e1) :: R') ⟨.inl (fP P' ++ e') o (e1 ++ fR R') ?_ hk ?_ rfl, Z'.setSep, hc2, fr2.trans (FrC.upd Z2.top hc2), s4, fun _ q => by cases q⟩
    · rw [← hS2, ← q, fR_cons]; simp
    · rw [fR_cons]; simp
  | false =>
    obtain ⟨P', k', e', R', Z', q, rfl, hl, hr⟩ := Z2.miss g2'.so sr
    have hS' : fP P' ++ (e' ++ fR R') = S := q.trans hS2
    have one' := one_same Z2 Z' q one2
    obtain ⟨rk, hrk⟩ := Option.ne_none_iff_exists'.mp Z'.kk.some
    obtain ⟨q1, q2, q3, q4⟩ := kid_rec Z'.kk hrk
    walk_at "u"
    try rw [hj]
    refine nd_lf' n3 Z2.lf ?_
    walk_at "u"
    try rw [hj]
    refine nd_fn n3 rfl ?_
    walk_at "u"
    try rw [hj]
    refine c_cow_child (ex := no) B (by lia) s3.rep ht Z'.top Z'.lf Z'.kid hrk (by have := Z'.kk.hi; rw [q2]; lia) (by rw [q3]; simp) (fun _ => q3) (g3.cr _ q4) (g3.cr _ Z'.c) fun H4 k4 N4 rk4 s4 C => ?_
    have Z4 := Z'.cow hrk C
    have n4 := s4.rep.nd a _ Z4.top
    have nk4 := s4.rep.nd k4 rk4 C.kid
    obtain ⟨u1, u2, u3, u4⟩ := kid_rec Z4.kk C.kid
    have g4 := g3.step s3.rep s4
    have hx4 := hx3.step s3.rep s4 (fun h => h)
    have g4' := g4
    rw [← hS'] at g4'
    have gk := g4'.sub (mid_sub _ _ _)
    have fr4 : FrC r.c N N4 := fr2.trans (hc2 ▸ C.fr Z'.top)
    walk_at "u"
    try rw [hj]
    refine nd_fn nk4 rfl ?_
    walk_at "u"
    try rw [hj]
    refine c_is_maximal B (by lia) nk4 ht (by rw [u2]; exact Z4.kk.hi) ?_
    rw [u2]
    by_cases hm : (e'.length : Int) = 2 * t - 1
    · rw [decide_eq_true hm]
      walk_at "u"
      try rw [hj]
      refine ⟨_, _, _, _, rfl, n4.I, ndF_no _ (by decide) (by decide) (by decide) (by decide) (by decide), rfl, ?_⟩
      walk_at "u"
      try rw [hj]
      refine nd_fn nk4 rfl ?_
      walk_at "u"
      try rw [hj]
      refine c_split (ex := no) B (by lia) s4.rep ht C.kid u1 u3 (by rw [u2]; exact hm) fun H6 tq mid rt N6 ra rr hT6 s6 ha6 hr6 hn6 ca cb la lb xa xb hes na nb kp => ?_
      rw [u2] at hes
      have hka := Kid.ne Z4 Z4.kk
      have ht6 : N6 a = some { r2 with ch := r2.ch.set P'.length k4 } := kp a _ (Ne.symm hka) Z4.top
      have g6 := (g4.step s4.rep s6)
      have hsp : S = (fP P' ++ ra.es) ++ mid :: (rr.es ++ fR R') := by rw [← hS', hes]; simp
      have hso := g6.so
      rw [hsp] at hso
      obtain ⟨b1, b2⟩ := so_mid hso
      have g6' := g6
      rw [← hS'] at g6'
      refine ⟨tq, _, rfl, hT6, by simp, ?_⟩
      have hlen1 : (r2.ch.set P'.length k4).length < 1000 := by rw [List.length_set, Z2.clen, ← Z2.len]; lia
      refine c_adopt (ex := no) (κ := κ) (p := P'.length) B (by lia) s6.rep ht ht6 Z4.lf hfew2 (fun y hy => g6'.el y (Z4.sub.subset hy)) (Z4.sorted g6'.so) (g6.el mid (by rw [hsp]; simp)) (fun i b sr => Z4.stops (fun y hy => b1 y (by simp [hy])) (fun y hy => b2 y (by simp [hy])) sr) Z4.kid ha6 hlen1 fun v H7 s7 => ?_
      have Z7 := Z4.split (mid := mid) ha6 hr6 hn6 (by rw [ca, C.c]; exact Z4.c) (by rw [cb, C.c]; exact Z4.c) la lb xa xb na nb ht.1 kp
      walk_at "u"
      try rw [hj]
      refine ⟨_, ?_, _, _, P', k4, ra.es, (mid, rt, rr.es) :: R', by first | exact f1 | trivial, by first | exact f2 | trivial, by first | exact f3 | trivial, Z7, ?_, hc2, ?_, ((s3.trans s4).trans s6).trans s7, (fun _ q => by cases q), rfl⟩
      · simp; lia
      · rw [fR_cons, hsp]; simp
      · refine fr4.trans (FrC.trans (N' := N6) ?_ (FrC.upd ht6 hc2))
        intro b s hb hs
        refine kp b s (fun q => ?_) hb
        subst q
        rw [C.kid] at hb; cases hb
        exact hs (C.c.trans hc2)
    · rw [decide_eq_false hm]
      walk_at "u"
      try rw [hj]
      refine nd_fn nk4 rfl ?_
      walk_at "u"
      try rw [hj]
      refine c_insert_leaf (ex := no) (κ := κ) B (by lia) s4.rep ht C.kid u1 (by rw [u2]; have := Z4.kk.hi; lia) (by rw [u2]; exact gk.el) (by rw [u2]; exact gk.so) hx4 fun v H6 es' hi s6 => ?_
      rw [u2] at hi
      have hil := hi.len
      have Z6 := Z4.modK (e' := es') C.kid (by have := Z4.kk.lo; lia) (by have := Z4.kk.hi; lia)
      have hi2 := hi.lift (A := fP P') (B := fR R') hl hr
      rw [hS'] at hi2
      have fr6 : FrC r.c N (upd N4 k4 { rk4 with es := es' }) := fr4.trans (FrC.upd C.kid (C.c.trans hc2))
      have s06 := (s3.trans s4).trans s6
      have one6 : P' = [] → R' = [] → t ≤ (es'.length : Int) := fun h1 h2 => by have := one' h1 h2; lia
      have n6 := s06.rep.nd a _ Z6.top
      walk_at "u"
      try rw [hj]
      walk_at "u"
      try rw [hj]
      cases io with
      | false =>
        walk_at "u"
        try rw [hj]
        exact kq _ _ _ _ P' k4 es' R' ⟨hi2, Z6, hc2, fr6, s06, one6⟩
      | true =>
        walk_at "u"
        try rw [hj]
        walk_at "u"
        try rw [hj]
        refine nd_fn n6 rfl ?_
        walk_at "u"
        try rw [hj]
        refine c_optimize B (by lia) s06.rep ht Z6 rfl one6 (fun c hc => s06.inst c (g.cr c hc)) fun v2 H8 N8 r8 P8 k8 e8 R8 D => ?_
        walk_at "u"
        try rw [hj]
        exact kq _ _ N8 r8 P8 k8 e8 R8 ⟨D.s ▸ hi2, D.Z, D.c.trans hc2, fr6.trans (by have := D.fr; rw [show ({ r2 with ch := r2.ch.set P'.length k4 } : NR).c = r.c from hc2] at this; exact this), s06.trans D.step, D.one⟩
end
section
variable {cx : Cx} {tn : Bool} {H H' H'' : AH} {X : Value → AH → Prop} {t : Int} {N N' N'' : NM} {h : Nat} {κ : Addr → Int} {ex : Addr → Prop} {W : Addr → Prop}
theorem AH.eqL {H H' : AH} (h1 : H.L = H'.L) (h2 : H.I = H'.I) (h3 : H.T = H'.T) (h4 : H.D = H'.D) (h5 : H.B = H'.B) : H = H' := by
  obtain ⟨a, b, c, d, e⟩ := H
  obtain ⟨a', b', c', d', e'⟩ := H'
  cases (show a = a' from h1); cases (show b = b' from h2); cases (show c = c' from h3); cases (show d = d' from h4); cases (show e = e' from h5)
  rfl
theorem setL_setL {l : Addr} {xs ys : List AV} : (H.setL l xs).setL l ys = H.setL l ys := AH.eqL (by funext b; simp only [AH.setL, upd]; split <;> rfl) rfl rfl rfl rfl
theorem setL_self {l : Addr} {xs : List AV} (h : H.L l = some xs) : H.setL l xs = H := AH.eqL (by
  funext b; simp only [AH.setL, upd]; split
  · rename_i e; rw [e, h]
  · rfl) rfl rfl rfl rfl
theorem drop_back {l e : Addr} {xs ys : List AV} (hne : l ≠ e) (h : H.L e = some ys) : ((H.dropL e).setL l xs).setL e ys = H.setL l xs := AH.eqL (by
  funext b; simp only [AH.setL, AH.dropL, upd]
  by_cases h1 : b = e
  · subst h1; simp [Ne.symm hne, h]
  · simp [h1]) rfl rfl rfl rfl
theorem drop_set {l e : Addr} {xs : List AV} (hne : l ≠ e) (h : H.L l = some xs) : (H.dropL e).setL l xs = H.dropL e := AH.eqL (by
  funext b; simp only [AH.setL, AH.dropL, upd]
  by_cases h1 : b = l
  · subst h1; simp [hne, h]
  · simp [h1]) rfl rfl rfl rfl
theorem L_drop_at {l e : Addr} {xs : List AV} : ((H.dropL e).setL l xs).L l = some xs := upd_at
theorem L_drop_off {l e b : Addr} {xs : List AV} (h1 : b ≠ l) (h2 : b ≠ e) : ((H.dropL e).setL l xs).L b = H.L b := by
  simp [AH.setL, AH.dropL, upd, h1, h2]
theorem refs_take_succ {es : List Addr} {k : Nat} {x : AV} (h : (refs es)[k]? = some x) : ∃ y, x = .ref y ∧ es[k]? = some y ∧ refs (es.take (k + 1)) = refs (es.take k) ++ [.ref y] := by
  rw [refs_get] at h
  obtain ⟨y, hy, rfl⟩ := Option.map_eq_some_iff.mp h
  refine ⟨y, rfl, hy, ?_⟩
  rw [List.take_succ, hy, refs_append]; rfl
structure VisL (a q : Addr) (σ : Loc) (H' H1 : AH) : Prop where
  f1 : σ "self" = some (.ref a)
  f2 : σ "visit" = some (.ref q)
  h : H' = H1
inductive VisR (W : Addr → Prop) (t : Int) (H : AH) (N : NM) (a q l : Addr) (r : NR) (xs : List AV) (S : List Addr) (j : Nat) (σ : Loc) (H' : AH) : Prop
  | mk (P : PL) (k : Addr) (e : List Addr) (R : RL) (f1 : σ "self" = some (.ref a)) (f2 : σ "visit" = some (.ref q)) (Z : ZT N W t a r P k e R) (q : fP P ++ (e ++ fR R) = S) (hp : P.length = j) (h : H' = (H.dropL r.e).setL l (xs ++ refs (fP P)))
theorem c_visit_leaf (B : Bod cx) (hh : 1 ≤ h) {a q l : Addr} {r : NR} {xs : List AV} (n : Nd H t a r) (hlf : r.lf = true) (hq : H.B q = some l) (hl : H.L l = some xs) (hne : l ≠ r.e) (hlen : xs.length + r.es.length < 1000) {Q : AV → AH → Prop} (kq : ∀ v, Q v (H.setL l (xs ++ refs r.es))) :
    CallOK cx h false (.ref 210) [.ref a, .ref q] H Q X := by
  refine call_of' B.T (by lia) B.f210 rfl (fun q => by cases q) fun m _ => ?_
  intro K0
  unfold f__Node_visit_in_order
  walk_at "u"
  refine ⟨rfl, ?_⟩
  walk_at "u"
  refine nd_e n ?_
  walk_at "u"
  refine ⟨_, _, rfl, n.E, fun k σ H' => VisL a q σ H' ((H.dropL r.e).setL l (xs ++ refs (r.es.take k))), ?_, ?_, ?_⟩
  · refine ⟨rfl, rfl, ?_⟩
    rw [List.take_zero, refs_nil, List.append_nil, drop_set hne hl]
  · rintro k x σ _ hx ⟨f1, f2, rfl⟩
    obtain ⟨y, rfl, hy, ht⟩ := refs_take_succ hx
    have hk := (List.getElem?_eq_some_iff.mp hy).1
    walk_at "u"
    walk_at "u"
    refine attrP_I (n.I : ((H.dropL r.e).setL l (xs ++ refs (r.es.take k))).I a = _) (ndF_lf' hlf) ?_
    walk_at "u"
    refine r_callV (l := l) (by walk_at "l") ?_
    walk_at "u"
    refine ⟨hq, bm_callOK hq L_drop_at (by simp [refs_length]; lia) ?_⟩
    walk_at "u"
    refine ⟨by first | exact f1 | trivial, by first | exact f2 | trivial, ?_⟩
    rw [setL_setL, ht, List.append_assoc]
  · rintro σ _ ⟨f1, f2, rfl⟩
    rw [refs_length, List.take_length, drop_back hne n.E]
    walk_at "u"
    walk_at "u"
    refine attrP_I (n.I : (H.setL l (xs ++ refs r.es)).I a = _) (ndF_lf' hlf) ?_
    walk_at "u"
    exact kq _
theorem c_visit_root (B : Bod cx) (hh : 2 ≤ h) (R : Rep t H N) {a q l : Addr} {S : List Addr} {xs : List AV} (T : Tree N W t a S) (hq : H.B q = some l) (hl : H.L l = some xs) (hno : ¬ Own N l) (hlen : xs.length + S.length < 1000) {Q : AV → AH → Prop} (kq : ∀ v, Q v (H.setL l (xs ++ refs S))) :
    CallOK cx h false (.ref 210) [.ref a, .ref q] H Q X := by
  cases T with
  | leaf r ha hlf hes hch hc hi =>
    subst hes
    exact c_visit_leaf B (by lia) (R.nd a r ha) hlf hq hl (fun e => hno ⟨a, r, ha, .inl e⟩) hlen kq
  | node r P k e Rl Z hS one =>
    subst hS
    have n := R.nd a r Z.top
    have hle : l ≠ r.e := fun e => hno ⟨a, r, Z.top, .inl e⟩
    have hlk : l ≠ r.k := fun e => hno ⟨a, r, Z.top, .inr e⟩
    have hek := R.own a r Z.top
    have hs := Z.sub.length_le
    refine call_of' B.T (by lia) B.f210 rfl (fun q => by cases q) fun m _ => ?_
    intro K0
    unfold f__Node_visit_in_order
    walk_at "u"
    have kid : ∀ {k1 : Addr} {e1 : List Addr} {ys : List AV} {H1 : AH}, Kid N W t k1 e1 → k1 ≠ a → (H1 = (H.dropL r.e).setL l ys ∨ H1 = H.setL l ys) → ∃ rk, Nd H1 t k1 rk ∧ rk.lf = true ∧ rk.es = e1 ∧ l ≠ rk.e := by
      intro k1 e1 ys H1 K hka hH
      obtain ⟨rk, hrk, q1, q2, q3, q4⟩ := K.ex
      have nk := R.nd k1 rk hrk
      have sp := R.sep k1 rk a r hrk Z.top hka
      have h1 : l ≠ rk.e := fun e => hno ⟨k1, rk, hrk, .inl e⟩
      have h2 : l ≠ rk.k := fun e => hno ⟨k1, rk, hrk, .inr e⟩
      refine ⟨rk, ?_, q1, q2, h1⟩
      rcases hH with rfl | rfl
      · exact ⟨nk.I, (L_drop_off (Ne.symm h1) sp.1).trans nk.E, (L_drop_off (Ne.symm h2) sp.2.2.1).trans nk.K⟩
      · exact ⟨nk.I, (upd_off (Ne.symm h1)).trans nk.E, (upd_off (Ne.symm h2)).trans nk.K⟩
    refine ⟨rfl, ?_⟩
    walk_at "u"
    refine nd_e n ?_
    walk_at "u"
    refine ⟨_, _, rfl, n.E, VisR W t H N a q l r xs (fP P ++ (e ++ fR Rl)), ?_, ?_, ?_⟩
    · obtain ⟨P', k', e', R', Z', q', hp⟩ := Z.focus (i := 0) (by lia)
      refine ⟨P', k', e', R', rfl, rfl, Z', q', hp, ?_⟩
      rw [List.length_eq_zero_iff.mp hp, fP_nil, refs_nil, List.append_nil, drop_set hle hl]
    · rintro j x σ _ hx ⟨P', k', e', R', f1, f2, Z', q', rfl, rfl⟩
      obtain ⟨y, rfl, hy, ht⟩ := refs_take_succ hx
      obtain ⟨k1, e1, R0, rfl⟩ := Z'.sep_at hy
      have hl1 := congrArg List.length q'
      rw [fR_cons] at hl1
      simp only [List.length_append, List.length_cons] at hl1 hlen
      walk_at "u"
      walk_at "u"
      refine attrP_I (n.I : ((H.dropL r.e).setL l _).I a = _) (ndF_lf' Z.lf) ?_
      walk_at "u"
      walk_at "u"
      refine attrP_I (n.I : ((H.dropL r.e).setL l _).I a = _) (ndF_k r) ?_
      walk_at "u"
      refine item_L ((L_drop_off (Ne.symm hlk) (Ne.symm hek)).trans n.K) (seqAt_of Z'.kid) ?_
      walk_at "u"
      obtain ⟨rk, nk1, q1, q2, h1⟩ := kid Z'.kk (Kid.ne Z' Z'.kk) (.inl rfl)
      refine nd_fn nk1 rfl ?_
      walk_at "u"
      refine c_visit_leaf B (by lia) nk1 q1 hq upd_at h1 (by rw [q2]; simp [refs_length]; lia) fun v => ?_
      rw [q2]
      rw [setL_setL]
      walk_at "u"
      refine r_callV (l := l) (by walk_at "l") ?_
      walk_at "u"
      refine ⟨hq, bm_callOK hq L_drop_at (by simp [refs_length]; lia) ?_⟩
      walk_at "u"
      refine ⟨_, k1, e1, R0, by first | exact f1 | trivial, by first | exact f2 | trivial, Z'.right, by rw [fs_right]; exact q', by simp, ?_⟩
      rw [setL_setL, fP_snoc, refs_append, refs_append, refs_cons, refs_nil]; simp
    · rintro σ _ ⟨P', k', e', R', f1, f2, Z', q', hp, rfl⟩
      rw [drop_back hle n.E]
      have hR : R' = [] := by
        have := Z'.len
        rw [refs_length] at hp
        exact List.length_eq_zero_iff.mp (by lia)
      subst hR
      have hl1 := congrArg List.length q'
      simp only [List.length_append] at hl1 hlen
      walk_at "u"
      walk_at "u"
      refine attrP_I (n.I : (H.setL l _).I a = _) (ndF_lf' Z.lf) ?_
      walk_at "u"
      refine attrP_I (n.I : (H.setL l _).I a = _) (ndF_k r) ?_
      walk_at "u"
      refine item_last (v := .ref k') ((upd_off (Ne.symm hlk)).trans n.K) ?_ ?_
      · rw [refs_last, Z'.ch]; simp
      walk_at "u"
      obtain ⟨rk, nk1, q1, q2, h1⟩ := kid Z'.kk (Kid.ne Z' Z'.kk) (.inr rfl)
      refine nd_fn nk1 rfl ?_
      walk_at "u"
      refine c_visit_leaf B (by lia) nk1 q1 hq upd_at h1 (by rw [q2]; simp [refs_length]; lia) fun v => ?_
      rw [q2]
      walk_at "u"
      rw [← q', fR_nil, List.append_nil, refs_append, ← List.append_assoc] at kq
      rw [setL_setL]
      exact kq _
end
noncomputable def trF (c cu rt : Addr) (t n : Int) (im io : Bool) : List (String × AV) := [("creator", .ref c), ("_immutable", .bool im), ("cursors", .ref cu), ("t", .int t), ("root", .ref rt), ("size", .int n), ("in_order", .bool io)]
structure Ch (eL eI eD : Addr → Prop) (t : Int) (H : AH) (N : NM) (H' : AH) (N' : NM) : Prop where
  rep : Rep t H' N'
  L : ∀ b, ¬ H.free b → ¬ Own N b → ¬ eL b → H'.L b = H.L b
  I : ∀ b, ¬ H.free b → N b = none → ¬ eI b → H'.I b = H.I b
  T : ∀ b, ¬ H.free b → H'.T b = H.T b
  D : ∀ b, ¬ H.free b → ¬ eD b → H'.D b = H.D b
  B : ∀ b, ¬ H.free b → H'.B b = H.B b
  dom : ∀ b, N b ≠ none → N' b ≠ none
  new : ∀ b, N b = none → N' b ≠ none → H.free b
  own : ∀ b, Own N' b → Own N b ∨ H.free b
  nf : ∀ b, ¬ H.free b → ¬ H'.free b
  inst : ∀ b, H.I b ≠ none → H'.I b ≠ none
noncomputable def at1 (a : Addr) : Addr → Prop := fun b => b = a
section
variable {t : Int} {H H' H'' : AH} {N N' N'' : NM} {eL eI eD eL' eI' eD' : Addr → Prop}
theorem Ch.of (s : Step no t H N H' N') : Ch eL eI eD t H N H' N' := ⟨s.rep, fun b h1 h2 _ => s.L b h1 h2 (fun h => h), fun b h1 h2 _ => s.I b h1 h2 (fun h => h), fun b h1 => s.T b h1 (fun h => h), fun b h1 _ => s.D b h1 (fun h => h), fun b h1 => s.B b h1 (fun h => h), s.dom, s.new, s.own, s.nf, s.inst⟩
theorem Ch.refl (R : Rep t H N) : Ch eL eI eD t H N H N := Ch.of (Step.refl R)
theorem Ch.trans (a : Ch eL eI eD t H N H' N') (b : Ch eL eI eD t H' N' H'' N'') : Ch eL eI eD t H N H'' N'' := by
  refine ⟨b.rep, ?_, ?_, ?_, ?_, ?_, fun x h => b.dom x (a.dom x h), ?_, ?_, fun x h => b.nf x (a.nf x h), fun x h => b.inst x (a.inst x h)⟩
  · intro x h1 h2 h3
    rw [b.L x (a.nf x h1) (fun h => (a.own x h).elim h2 h1) h3, a.L x h1 h2 h3]
  · intro x h1 h2 h4
    have h3 : N' x = none := by
      cases e : N' x with
      | none => rfl
      | some r => exact absurd (a.new x h2 (by rw [e]; simp)) h1
    rw [b.I x (a.nf x h1) h3 h4, a.I x h1 h2 h4]
  · intro x h1; rw [b.T x (a.nf x h1), a.T x h1]
  · intro x h1 h2; rw [b.D x (a.nf x h1) h2, a.D x h1 h2]
  · intro x h1; rw [b.B x (a.nf x h1), a.B x h1]
  · intro x h1 h2
    by_cases h3 : N' x = none
    · have := b.new x h3 h2
      exact Classical.not_not.mp fun q => a.nf x q this
    · exact a.new x h1 h3
  · intro x h1
    rcases b.own x h1 with h | h
    · exact a.own x h
    · exact .inr (Classical.not_not.mp fun q => a.nf x q h)
theorem Ch.weak (a : Ch eL eI eD t H N H' N') (h1 : ∀ b, eL b → eL' b) (h2 : ∀ b, eI b → eI' b) (h3 : ∀ b, eD b → eD' b) : Ch eL' eI' eD' t H N H' N' :=
  ⟨a.rep, fun b x y z => a.L b x y (fun q => z (h1 b q)), fun b x y z => a.I b x y (fun q => z (h2 b q)), a.T, fun b x z => a.D b x (fun q => z (h3 b q)), a.B, a.dom, a.new, a.own, a.nf, a.inst⟩
theorem Ch.setI {a C : Addr} {fs} (R : Rep t H N) (hn : N a = none) (hf : H.free a ∨ eI a) : Ch eL eI eD t H N (H.setI a C fs) N := by
  refine ⟨⟨fun b r h => ⟨?_, (R.nd b r h).E, (R.nd b r h).K⟩, R.sep, R.own⟩, fun _ _ _ _ => rfl, fun b h h1 h' => ?_, fun _ _ => rfl, fun _ _ _ => rfl, fun _ _ => rfl, fun _ h => h, fun b h h' => absurd h h', fun b h => .inl h, fun b h => nf_setI h, fun b h => inst_setI h⟩
  · exact (upd_off fun e => by subst e; rw [hn] at h; cases h).trans (R.nd b r h).I
  · exact upd_off fun e => by subst e; exact hf.elim h h'
theorem Ch.setL {a : Addr} {xs : List AV} (R : Rep t H N) (hf : H.free a ∨ (eL a ∧ ¬ Own N a)) : Ch eL eI eD t H N (H.setL a xs) N := by
  have hno : ¬ Own N a := fun h => hf.elim (own_nf R h) fun q => q.2 h
  refine ⟨⟨fun b r h => ⟨(R.nd b r h).I, ?_, ?_⟩, R.sep, R.own⟩, fun b h h1 h' => ?_, fun _ _ _ _ => rfl, fun _ _ => rfl, fun _ _ _ => rfl, fun _ _ => rfl, fun _ h => h, fun b h h' => absurd h h', fun b h => .inl h, fun b h => nf_setL h, fun _ h => h⟩
  · exact (upd_off fun e => hno ⟨b, r, h, .inl e.symm⟩).trans (R.nd b r h).E
  · exact (upd_off fun e => hno ⟨b, r, h, .inr e.symm⟩).trans (R.nd b r h).K
  · exact upd_off fun e => by subst e; exact hf.elim h fun q => h' q.1
theorem Ch.setD {a : Addr} {xs} (R : Rep t H N) (hf : H.free a ∨ eD a) : Ch eL eI eD t H N (H.setD a xs) N := by
  refine ⟨⟨fun b r h => ⟨(R.nd b r h).I, (R.nd b r h).E, (R.nd b r h).K⟩, R.sep, R.own⟩, fun _ _ _ _ => rfl, fun _ _ _ _ => rfl, fun _ _ => rfl, fun b h h' => ?_, fun _ _ => rfl, fun _ h => h, fun b h h' => absurd h h', fun b h => .inl h, fun b h => nf_setD h, fun _ h => h⟩
  exact upd_off fun e => by subst e; exact hf.elim h h'
theorem Ch.setT {a : Addr} {xs} (R : Rep t H N) (hf : H.free a) : Ch eL eI eD t H N (H.setT a xs) N := Ch.of (Step.setT R hf)
theorem Ch.setB {a l : Addr} (R : Rep t H N) (hf : H.free a) : Ch eL eI eD t H N (H.setB a l) N := Ch.of (Step.setB R hf)
end
structure BT (H : AH) (N : NM) (κ : Addr → Int) (C a c cu : Addr) (t : Int) (W : Addr → Prop) (im io : Bool) (S : List Addr) : Prop where
  ex : ∃ rt, H.I a = some (C, trF c cu rt t S.length im io) ∧ Tree N W t rt S
  cl : C = 545 ∨ C = 614
  em : H.L cu = some []
  no : ¬ Own N cu
  g : Good H κ W t S
  wc : W c
section
variable {cx : Cx} {tn : Bool} {H H' H'' : AH} {X : Value → AH → Prop} {t : Int} {N N' N'' : NM} {h : Nat} {κ : Addr → Int} {eL eI eD : Addr → Prop} {W : Addr → Prop} {C a c cu : Addr} {im io : Bool} {S : List Addr}
theorem Kid.fr {d k : Addr} {e : List Addr} (K : Kid N W t k e) (f : FrC d N N') (hd : ¬ W d) : Kid N' W t k e := by
  obtain ⟨r, h1, h2, h3, h4, h5⟩ := K.ex
  exact K.keep fun s hs => f _ s hs fun q => by rw [hs] at h1; cases h1; exact hd (q ▸ h5)
theorem Tree.fr {d : Addr} (T : Tree N W t a S) (f : FrC d N N') (hd : ¬ W d) : Tree N' W t a S := by
  cases T with
  | leaf r ha hlf hes hch hc hi => exact .leaf r (f _ _ ha fun q => hd (q ▸ hc)) hlf hes hch hc hi
  | node r P k e Rl Z hS one =>
    exact .node r P k e Rl ⟨f _ _ Z.top fun q => hd (q ▸ Z.c), Z.lf, Z.c, Z.es, Z.ch, fun p hp => (Z.kP p hp).fr f hd, Z.kk.fr f hd, fun p hp => (Z.kR p hp).fr f hd, Z.nd⟩ hS one
theorem node_cls {x C : Addr} {fs} (R : Rep t H N) (hI : H.I x = some (C, fs)) (hC : C ≠ 234) : N x = none := by
  cases q : N x with
  | none => rfl
  | some r =>
    have := (R.nd x r q).I
    rw [hI] at this; injection this with this; injection this with this; exact absurd this hC
theorem BT.nn (R : Rep t H N) (b : BT H N κ C a c cu t W im io S) : N a = none := by
  obtain ⟨rt, h1, _⟩ := b.ex
  exact node_cls R h1 (by rcases b.cl with rfl | rfl <;> decide)
theorem El.ch {x : Addr} (R : Rep t H N) (s : Ch eL eI eD t H N H' N') (hx : ¬ eI x) (e : El H κ x) : El H' κ x := by
  have := s.I x e.nf (e.nn R) hx
  unfold El
  rw [this]; exact e
theorem Good.ch (R : Rep t H N) (s : Ch eL eI eD t H N H' N') (hx : ∀ x, El H κ x → ¬ eI x) (g : Good H κ W t S) : Good H' κ W t S :=
  ⟨g.t, fun x h => (g.el x h).ch R s (hx x (g.el x h)), g.so, g.len, fun c hc => s.inst c (g.cr c hc)⟩
theorem BT.frame {d : Addr} (R : Rep t H N) (b : BT H N κ C a c cu t W im io S) (s : Ch eL eI eD t H N H' N') (f : FrC d N N') (hd : ¬ W d) (hI : ¬ eI a) (hL : ¬ eL cu) (hx : ∀ x, El H κ x → ¬ eI x) : BT H' N' κ C a c cu t W im io S := by
  obtain ⟨rt, h1, h2⟩ := b.ex
  refine ⟨⟨rt, (s.I a (nf_I h1) (b.nn R) hI).trans h1, h2.fr f hd⟩, b.cl, (s.L cu (nf_L b.em) b.no hL).trans b.em, fun h => ?_, b.g.ch R s hx, b.wc⟩
  exact (s.own cu h).elim b.no (nf_L b.em)
theorem BT.same (R : Rep t H N) (b : BT H N κ C a c cu t W im io S) (s : Ch eL eI eD t H N H' N) (hI : ¬ eI a) (hL : ¬ eL cu) (hx : ∀ x, El H κ x → ¬ eI x) : BT H' N κ C a c cu t W im io S := by
  obtain ⟨rt, h1, h2⟩ := b.ex
  refine ⟨⟨rt, (s.I a (nf_I h1) (b.nn R) hI).trans h1, h2⟩, b.cl, (s.L cu (nf_L b.em) b.no hL).trans b.em, b.no, b.g.ch R s hx, b.wc⟩
theorem el_not_tree {x : Addr} (hC : C = 545 ∨ C = 614) {fs} (ha : H.I a = some (C, fs)) (e : El H κ x) : ¬ at1 a x := fun q => by
  have q' : x = a := q
  subst q'
  rcases e with ⟨v, e⟩ | e <;> (rw [ha] at e; injection e with e; injection e with e _; rcases hC with rfl | rfl <;> exact absurd e (by decide))
theorem trF_no {c cu rt : Addr} {t n : Int} {im io : Bool} {m : String} (h : m ∉ ["creator", "_immutable", "cursors", "t", "root", "size", "in_order"]) : (trF c cu rt t n im io).lookup m = none := by
  simp only [List.mem_cons, List.not_mem_nil, or_false, not_or] at h
  obtain ⟨h1, h2, h3, h4, h5, h6, h7⟩ := h
  have e1 : (m == "creator") = false := by simpa using h1
  have e2 : (m == "_immutable") = false := by simpa using h2
  have e3 : (m == "cursors") = false := by simpa using h3
  have e4 : (m == "t") = false := by simpa using h4
  have e5 : (m == "root") = false := by simpa using h5
  have e6 : (m == "size") = false := by simpa using h6
  have e7 : (m == "in_order") = false := by simpa using h7
  simp [trF, List.lookup, e1, e2, e3, e4, e5, e6, e7]
theorem trF_root {c cu rt rt' : Addr} {t n : Int} {im io : Bool} : putF "root" (.ref rt') (trF c cu rt t n im io) = trF c cu rt' t n im io := rfl
theorem trF_size {c cu rt : Addr} {t n n' : Int} {im io : Bool} : putF "size" (.int n') (trF c cu rt t n im io) = trF c cu rt t n' im io := rfl
theorem trF_imm {c cu rt : Addr} {t n : Int} {im im' io : Bool} : putF "_immutable" (.bool im') (trF c cu rt t n im io) = trF c cu rt t n im' io := rfl
theorem trF_len {c cu rt : Addr} {t n : Int} {im io : Bool} : (trF c cu rt t n im io).length < 100 := by show 7 < 100; lia
theorem fields_t {x : String} (hC : C = 545 ∨ C = 614) (hx : x ∈ fields 545) : x ∈ fields C := by rcases hC with rfl | rfl <;> exact hx
theorem drop_all {l : Addr} {xs : List AV} (h : H.L l = some xs) : (H.dropL l).setL l xs = H := AH.eqL (by
  funext b; simp only [AH.setL, AH.dropL, upd]
  by_cases h1 : b = l
  · subst h1; simp [h]
  · simp [h1]) rfl rfl rfl rfl
theorem c_park (B : Bod cx) (hh : 1 ≤ h) {rt : Addr} {n : Int} (ha : H.I a = some (C, trF c cu rt t n im io)) (hcu : H.L cu = some []) (hX : im = true → X (.ref 340) H) {Q : AV → AH → Prop} (kq : im = false → Q .none H) :
    CallOK cx h false (.ref 372) [.ref a] H Q X := by
  refine call_of' B.T (by lia) B.f372 rfl (fun q => by cases q) fun m _ => ?_
  intro K0
  unfold f_BTree__check_mutable_and_park
  walk_at "u"
  refine attrP_I ha rfl ?_
  walk_at "u"
  cases im with
  | true =>
    walk_at "u"
    exact hX rfl
  | false =>
    walk_at "u"
    refine ⟨rfl, ?_⟩
    walk_at "u"
    refine attrP_I ha rfl ?_
    walk_at "u"
    refine ⟨_, _, rfl, hcu, fun k σ H' => H' = H.dropL cu, rfl, fun k x σ H' hx => by simp at hx, ?_⟩
    rintro σ _ rfl
    rw [drop_all hcu]
    walk_at "u"
    exact kq (by walk_at "r")
theorem c_get_element (B : Bod cx) (hh : 5 ≤ h) (R : Rep t H N) {key : Int} (b : BT H N κ C a c cu t W im io S) {Q : AV → AH → Prop} (kq : ∀ v H', FindR κ S key v → TM H H' → Q v H') :
    CallOK cx h false (.ref 387) [.ref a, .int key] H Q X := by
  obtain ⟨rt, ha, T⟩ := b.ex
  have hrt : ∃ r, N rt = some r := by cases T with
    | leaf r h => exact ⟨r, h⟩
    | node r P k e Rl Z => exact ⟨r, Z.top⟩
  obtain ⟨r, hr⟩ := hrt
  refine call_of' B.T (by lia) B.f387 rfl (fun q => by cases q) fun m _ => ?_
  intro K0
  unfold f_BTree_get_element
  walk_at "u"
  refine attrP_I ha rfl ?_
  walk_at "u"
  refine nd_fn (R.nd rt r hr) rfl ?_
  walk_at "u"
  exact c_get_root B (by lia) R T b.g kq
theorem c_len (B : Bod cx) (hh : 1 ≤ h) (b : BT H N κ C a c cu t W im io S) {Q : AV → AH → Prop} (kq : Q (.int S.length) H) :
    CallOK cx h false (.ref 415) [.ref a] H Q X := by
  obtain ⟨rt, ha, T⟩ := b.ex
  refine call_of' B.T (by lia) B.f415 rfl (fun q => by cases q) fun m _ => ?_
  intro K0
  unfold f_BTree___len__
  walk_at "u"
  refine attrP_I ha rfl ?_
  walk_at "u"
  exact kq 
theorem c_visit (B : Bod cx) (hh : 3 ≤ h) (R : Rep t H N) {q l : Addr} {xs : List AV} (b : BT H N κ C a c cu t W im io S) (hq : H.B q = some l) (hl : H.L l = some xs) (hno : ¬ Own N l) (hlen : xs.length + S.length < 1000) {Q : AV → AH → Prop} (kq : ∀ v, Q v (H.setL l (xs ++ refs S))) :
    CallOK cx h false (.ref 422) [.ref a, .ref q] H Q X := by
  obtain ⟨rt, ha, T⟩ := b.ex
  have hrt : ∃ r, N rt = some r := by cases T with
    | leaf r h => exact ⟨r, h⟩
    | node r P k e Rl Z => exact ⟨r, Z.top⟩
  obtain ⟨r, hr⟩ := hrt
  refine call_of' B.T (by lia) B.f422 rfl (fun q => by cases q) fun m _ => ?_
  intro K0
  unfold f_BTree_visit_in_order
  walk_at "u"
  refine attrP_I ha rfl ?_
  walk_at "u"
  refine nd_fn (R.nd rt r hr) rfl ?_
  walk_at "u"
  refine c_visit_root B (by lia) R T hq hl hno hlen fun v => ?_
  walk_at "u"
  exact kq _
end
inductive PTree (N : NM) (W : Addr → Prop) (t : Int) (a : Addr) (S : List Addr) (v : AV) : Prop
  | leaf (r : NR) (h : N a = some r) (lf : r.lf = true) (es : r.es = S) (ch : r.ch = []) (c : W r.c) (hi : (S.length : Int) ≤ 2 * t - 1)
  | node (r : NR) (P : PL) (k : Addr) (e : List Addr) (R : RL) (Z : ZT N W t a r P k e R) (s : S = fP P ++ (e ++ fR R)) (one : v = .none → P = [] → R = [] → t ≤ e.length)
section
variable {cx : Cx} {tn : Bool} {H H' H'' : AH} {X : Value → AH → Prop} {t : Int} {N N' N'' : NM} {h : Nat} {κ : Addr → Int} {eL eI eD : Addr → Prop} {W : Addr → Prop} {C a c cu : Addr} {im io : Bool} {S : List Addr}
theorem mt_park (hC : C = 545 ∨ C = 614) : mtab C "_check_mutable_and_park" = some 372 := by rcases hC with rfl | rfl <;> rfl
theorem mt_del (hC : C = 545 ∨ C = 614) : mtab C "_delete" = some 394 := by rcases hC with rfl | rfl <;> rfl
theorem mt_delkey (hC : C = 545 ∨ C = 614) : mtab C "delete_key" = some 401 := by rcases hC with rfl | rfl <;> rfl
theorem mt_get (hC : C = 545 ∨ C = 614) : mtab C "get_element" = some 387 := by rcases hC with rfl | rfl <;> rfl
theorem mt_ins (hC : C = 545 ∨ C = 614) : mtab C "insert_element" = some 380 := by rcases hC with rfl | rfl <;> rfl
theorem mt_vis (hC : C = 545 ∨ C = 614) : mtab C "visit_in_order" = some 422 := by rcases hC with rfl | rfl <;> rfl
theorem Tree.root {a : Addr} (T : Tree N W t a S) (hS : S.length ≤ 17) (ht : 3 ≤ t ∧ t ≤ 5) : ∃ r, N a = some r ∧ r.es.length ≤ 17 ∧ r.ch.length ≤ 18 ∧ (r.lf = true → r.ch = []) ∧ W r.c := by
  cases T with
  | leaf r ha hlf hes hch hc hi => exact ⟨r, ha, by rw [hes]; exact hS, by rw [hch]; simp, fun _ => hch, hc⟩
  | node r P k e Rl Z hs one =>
    subst hs
    have h1 := Z.sub.length_le
    have h2 := Z.len
    have h3 := Z.clen
    exact ⟨r, Z.top, by lia, by lia, (fun q => by rw [Z.lf] at q; cases q), Z.c⟩
theorem ZT.clone {a a' k : Addr} {r r' : NR} {P : PL} {e : List Addr} {Rl : RL} (Z : ZT N W t a r P k e Rl) (hn : N a' = none) (hc : W r'.c) (hlf : r'.lf = r.lf) (hes : r'.es = r.es) (hch : r'.ch = r.ch) : ZT (upd N a' r') W t a' r' P k e Rl := by
  have kp : ∀ {k1 e1}, Kid N W t k1 e1 → Kid (upd N a' r') W t k1 e1 := fun K => K.keep fun s hs => (upd_off fun q => by rw [q, hn] at hs; cases hs).trans hs
  exact ⟨upd_at, hlf.trans Z.lf, hc, hes.trans Z.es, hch.trans Z.ch, fun p hp => kp (Z.kP p hp), kp Z.kk, fun p hp => kp (Z.kR p hp), by rw [hch]; exact Z.nd⟩
theorem Tree.clone {a a' : Addr} {r r' : NR} (T : Tree N W t a S) (hr : N a = some r) (hn : N a' = none) (hc : W r'.c) (hlf : r'.lf = r.lf) (hes : r'.es = r.es) (hch : r'.ch = r.ch) : Tree (upd N a' r') W t a' S := by
  cases T with
  | leaf r1 ha hl1 he1 hc1 hw hi =>
    rw [hr] at ha; cases ha
    exact .leaf r' upd_at (hlf.trans hl1) (hes.trans he1) (hch.trans hc1) hc hi
  | node r1 P k e Rl Z hs one =>
    have ht := Z.top
    rw [hr] at ht; cases ht
    exact .node r' P k e Rl (Z.clone hn hc hlf hes hch) hs one
theorem c_root_delete (B : Bod cx) (hh : 9 ≤ h) (R : Rep t H N) {r : NR} {key : Int} {xo : Option Addr} (T : Tree N W t a S) (hr : N a = some r) (hc : r.c = c) (g : Good H κ W t S) (hxo : ∀ y, xo = some y → H.I y ≠ none)
    (hX : ∀ y H' N', xo = some y → Not1 κ S key y → Tree N' W t a S → Step no t H N H' N' → FrC c N N' → X (.type "ValueError") H') {Q : AV → AH → Prop} (kq : ∀ v H' N' S', DelR κ S key xo v S' → PTree N' W t a S' v → Step no t H N H' N' → FrC c N N' → Q v H') :
    CallOK cx h false (.ref 203) [.ref a, .int key, .none, exA xo] H Q X := by
  cases T with
  | leaf r1 ha hlf hes hch hw hi =>
    rw [hr] at ha; cases ha
    subst hes
    have gl := g.len
    refine c_delete_leaf (ex := no) (κ := κ) B (by lia) R g.t hr hlf (by lia) g.el g.so hxo (.inl rfl) ?_ fun v H' es' d s => ?_
    · intro y H' hy hn m1
      exact hX y H' N hy hn (.leaf r hr hlf rfl hch hw hi) (m1.step R) FrC.refl
    · refine kq _ _ (upd N a { r with es := es' }) es' d (.leaf { r with es := es' } upd_at hlf rfl hch hw ?_) s (FrC.upd hr hc)
      rcases d with ⟨A, x, B', h1, h2, h3, rfl, h4⟩ | ⟨h1, h2, rfl, h4⟩
      · rw [h1] at hi; simp at hi ⊢; lia
      · exact hi
  | node r1 P k e Rl Z hs one =>
    have ht := Z.top
    rw [hr] at ht; cases ht
    refine c_delete_inner B (by lia) R Z hs.symm g one hxo ?_ fun v H' N' r' P' k' e' R' D => ?_
    · intro y H' N' r' P' k' e' R' hy D
      exact hX y H' N' hy D.nt (.node r' P' k' e' R' D.Z D.s D.one) D.step (hc ▸ D.fr)
    · exact kq _ _ N' _ D.del (.node r' P' k' e' R' D.Z rfl D.one) D.step (hc ▸ D.fr)
theorem DelR.so {S S' : List Addr} {key : Int} {xo : Option Addr} {v : AV} (d : DelR κ S key xo v S') : S'.Sublist S := by
  rcases d with ⟨A, x, B, rfl, h1, h2, rfl, h3⟩ | ⟨h1, h2, rfl, h3⟩
  · exact (List.Sublist.refl A).append (List.sublist_cons_self x B)
  · exact List.Sublist.refl _
theorem c__delete (B : Bod cx) (hh : 10 ≤ h) (R : Rep t H N) (b : BT H N κ C a c cu t W im io S) {key : Int} {xo : Option Addr} (hxo : ∀ y, xo = some y → H.I y ≠ none)
    (hXi : im = true → X (.ref 340) H) (hXv : ∀ y H' N', xo = some y → Not1 κ S key y → im = false → BT H' N' κ C a c cu t W im io S → Ch no (at1 a) no t H N H' N' → FrC c N N' → X (.type "ValueError") H') {Q : AV → AH → Prop} (kq : ∀ v H', im = false → ∀ N' S', DelR κ S key xo v S' → BT H' N' κ C a c cu t W im io S' → Ch no (at1 a) no t H N H' N' → FrC c N N' → Q v H') :
    CallOK cx h false (.ref 394) [.ref a, .int key, exA xo] H Q X := by
  obtain ⟨rt, ha, T⟩ := b.ex
  obtain ⟨r, hr, hre, hrc, hrl, hrw⟩ := T.root b.g.len b.g.t
  have hC := b.cl
  have ht := b.g.t
  have hna : N a = none := b.nn R
  refine call_of' B.T (by lia) B.f394 rfl (fun q => by cases q) fun m _ => ?_
  intro K0
  have main : ∀ (σ : Loc) (H1 : AH) (N1 : NM) (rt1 : Addr) (r1 : NR), σ "self" = some (.ref a) → σ "key" = some (.int key) → σ "exact" = some (exA xo) → im = false → Ch no (at1 a) no t H N H1 N1 → H1.I a = some (C, trF c cu rt1 t S.length im io) → Tree N1 W t rt1 S → N1 rt1 = some r1 → r1.c = c → FrC c N N1 →
      wpS cx m false f_BTree__delete.tl.tl.tl X σ H1 K0 := by
    intro σ H1 N1 rt1 r1 f1 f2 f3 him s1 ha1 T1 hr1 hc1 fr1
    have g1 := b.g.ch R s1 fun x hx => el_not_tree hC ha hx
    have hna1 : N1 a = none := node_cls s1.rep ha1 (by rcases hC with rfl | rfl <;> decide)
    have mk : ∀ {H' : AH} {N' : NM} {rt' : Addr} {S' : List Addr}, Ch no (at1 a) no t H N H' N' → H'.I a = some (C, trF c cu rt' t S'.length im io) → Tree N' W t rt' S' → S'.Sublist S → BT H' N' κ C a c cu t W im io S' := fun {H' N' rt' S'} s h1 h2 h3 =>
      ⟨⟨_, h1, h2⟩, hC, (s.L cu (nf_L b.em) b.no (fun q => q)).trans b.em, fun q => (s.own cu q).elim b.no (nf_L b.em), (b.g.ch R s fun x hx => el_not_tree hC ha hx).sub h3, b.wc⟩
    unfold f_BTree__delete
    simp only [tl_cons]
    walk_at "u"
    walk_at "u"
    walk_at "u"
    refine attrP_I ha1 rfl ?_
    walk_at "u"
    refine nd_fn (s1.rep.nd rt1 r1 hr1) rfl ?_
    walk_at "u"
    try rw [hj]
    refine c_root_delete (c := c) B (by lia) s1.rep T1 hr1 hc1 g1 (fun y hy => s1.inst y (hxo y hy)) ?_ fun v H2 N2 S2 d PT s2' fr2' => ?_
    · intro y H' N' hy hn T' s' fr'
      have s2 := s1.trans (Ch.of s')
      exact hXv y H' N' hy hn him (mk s2 ((s'.I a (nf_I ha1) hna1 (fun q => q)).trans ha1) T' (List.Sublist.refl _)) s2 (fr1.trans fr')
    · have s2 := s1.trans (Ch.of s2')
      have ha2 : H2.I a = some (C, trF c cu rt1 t S.length im io) := (s2'.I a (nf_I ha1) hna1 (fun q => q)).trans ha1
      have hna2 : N2 a = none := node_cls s2.rep ha2 (by rcases hC with rfl | rfl <;> decide)
      have fr2 := fr1.trans fr2'
      walk_at "u"
      walk_at "u"
      have hv : v = .none ∨ ∃ x, v = .ref x := by
        rcases d with ⟨A, x, B', h1, h2, h3, h4, h5⟩ | ⟨h1, h2, h3, h4⟩
        · exact .inr ⟨x, h3⟩
        · exact .inl h2
      rcases hv with rfl | ⟨x, rfl⟩
      · have hS2 : S2 = S := by
          rcases d with ⟨A, x, B', h1, h2, h3, h4, h5⟩ | ⟨h1, h2, h3, h4⟩
          · cases h3
          · exact h3
        subst hS2
        walk_at "u"
        refine kq _ _ him N2 S2 d (mk s2 ha2 ?_ (List.Sublist.refl _)) s2 fr2
        cases PT with
        | leaf r h1 h2 h3 h4 h5 h6 => exact .leaf r h1 h2 h3 h4 h5 h6
        | node r P k e R Z s one => exact .node r P k e R Z s (one rfl)
      · have hlen : (S.length : Int) - 1 = S2.length := by
          rcases d with ⟨A, x, B', h1, h2, h3, h4, h5⟩ | ⟨h1, h2, h3, h4⟩
          · rw [h1, h4]; simp; lia
          · cases h2
        have hsub := d.so
        walk_at "u"
        walk_at "u"
        refine ⟨a, C, _, _, rfl, ha2, rfl, 1, _, rfl, ha2, trF_len, fields_t hC (by decide), ?_⟩
        rw [trF_size, show augv .sub (S.length : Int) 1 = (S.length : Int) - 1 from rfl, hlen]
        have s3' : Ch no (at1 a) no t H2 N2 (H2.setI a C (trF c cu rt1 t S2.length im io)) N2 := Ch.setI s2.rep hna2 (.inr rfl)
        have s3 := s2.trans s3'
        have ha3 : (H2.setI a C (trF c cu rt1 t S2.length im io)).I a = some (C, trF c cu rt1 t S2.length im io) := upd_at
        generalize H2.setI a C (trF c cu rt1 t S2.length im io) = H3 at s3 s3' ha3 ⊢
        walk_at "u"
        refine attrP_I ha3 rfl ?_
        walk_at "u"
        cases PT with
        | leaf r h1 h2 h3 h4 h5 h6 =>
          have n3 := s3.rep.nd rt1 r h1
          walk_at "u"
          refine nd_e n3 ?_
          walk_at "u"
          refine len_L n3.E ?_
          walk_at "u"
          have fin : Q (.ref x) H3 := kq _ _ him N2 S2 d (mk s3 ha3 (.leaf r h1 h2 h3 h4 h5 h6) hsub) s3 fr2
          walk_at "u"
          by_cases q : ((refs r.es).length : Int) = 0
          · rw [decide_eq_true q]
            walk_at "u"
            refine attrP_I ha3 rfl ?_
            walk_at "u"
            refine nd_lf' n3 h2 ?_
            walk_at "u"
            exact fin
          · rw [decide_eq_false q]
            walk_at "u"
            exact fin
        | node r P k e R Z s one =>
          have n3 := s3.rep.nd rt1 r Z.top
          walk_at "u"
          refine nd_e n3 ?_
          walk_at "u"
          refine len_L n3.E ?_
          walk_at "u"
          by_cases q : ((refs r.es).length : Int) = 0
          · rw [decide_eq_true q]
            have hPR : P = [] ∧ R = [] := by
              have h3 := Z.len
              rw [refs_length] at q
              exact ⟨List.length_eq_zero_iff.mp (by lia), List.length_eq_zero_iff.mp (by lia)⟩
            obtain ⟨rfl, rfl⟩ := hPR
            have hch : r.ch = [k] := by rw [Z.ch]; rfl
            walk_at "u"
            refine attrP_I ha3 rfl ?_
            walk_at "u"
            refine nd_lf' n3 Z.lf ?_
            walk_at "u"
            refine attrP_I ha3 rfl ?_
            walk_at "u"
            refine nd_k n3 ?_
            walk_at "u"
            refine len_L n3.K ?_
            walk_at "u"
            rw [hch]
            walk_at "u"
            refine ⟨by simp [refs], ?_⟩
            walk_at "u"
            refine attrP_I ha3 rfl ?_
            walk_at "u"
            refine nd_k n3 ?_
            walk_at "u"
            refine item_L n3.K (seqAt_of (i := 0) (x := k) (by rw [hch]; rfl)) ?_
            walk_at "u"
            refine sa2 ha3 (trF_len) (fields_t hC (by decide)) ?_
            rw [trF_root]
            have s4' : Ch no (at1 a) no t H3 N2 (H3.setI a C (trF c cu k t S2.length im io)) N2 := Ch.setI s3.rep hna2 (.inr rfl)
            walk_at "u"
            obtain ⟨rk, k1, k2, k3, k4, k5⟩ := Z.kk.ex
            refine kq _ _ him N2 S2 d (mk (s3.trans s4') upd_at (.leaf rk k1 k2 ?_ k4 k5 ?_) hsub) (s3.trans s4') fr2
            · rw [k3, s]; simp [fP, fR]
            · rw [s]; simp [fP, fR]; exact Z.kk.hi
          · rw [decide_eq_false q]
            walk_at "u"
            refine kq _ _ him N2 S2 d (mk s3 ha3 (.node r P k e R Z s fun h1 h2 => ?_) hsub) s3 fr2
            exfalso
            apply q
            rw [refs_length, Z.len, h1, h2]; rfl
  rw [show f_BTree__delete = .cons (.expr (.meth (.loc "self") "_check_mutable_and_park" .nil))
    (.cons (.assign "cloned" (.meth (.attr (.loc "self") "root") "maybe_cow" (.cons (.attr (.loc "self") "creator") .nil)))
    (.cons (.ite (.loc "cloned") (.cons (.setAttr (.loc "self") "root" (.loc "cloned")) .nil) .nil) f_BTree__delete.tl.tl.tl)) from rfl]
  generalize f_BTree__delete.tl.tl.tl = bd at main ⊢
  walk_at "u"
  refine meth_fn ha (trF_no (by decide)) (mt_park hC) ?_
  walk_at "u"
  refine c_park B (by lia) ha b.em hXi fun him => ?_
  walk_at "u"
  refine attrP_I ha rfl ?_
  walk_at "u"
  refine nd_fn (R.nd rt r hr) rfl ?_
  walk_at "u"
  refine attrP_I ha rfl ?_
  walk_at "u"
  refine c_cow (ex := no) B (by lia) R ht hr (by lia) (by lia) hrl (b.g.cr _ hrw) (b.g.cr _ b.wc) (fun e => ?_) fun e H2 a' r' hf h1 h2 h3 h4 s1 => ?_
  · walk_at "u"
    exact main _ _ N rt r rfl rfl rfl him (Ch.refl R) ha T hr e FrC.refl
  · have ha1 : H2.I a = some (C, trF c cu rt t S.length im io) := (s1.I a (nf_I ha) hna (fun q => q)).trans ha
    have hna1 : (upd N a' r') a = none := node_cls s1.rep ha1 (by rcases hC with rfl | rfl <;> decide)
    have n1 := s1.rep.nd a' r' upd_at
    walk_at "u"
    refine t_node n1.I ?_
    walk_at "u"
    refine sa2 ha1 (trF_len) (fields_t hC (by decide)) ?_
    rw [trF_root]
    have s2 : Ch no (at1 a) no t H N (H2.setI a C (trF c cu a' t S.length im io)) (upd N a' r') := (Ch.of s1).trans (Ch.setI s1.rep hna1 (.inr rfl))
    have hn' : N a' = none := free_none R hf
    exact main _ _ _ a' r' rfl rfl rfl him s2 upd_at (T.clone hr hn' (h1 ▸ b.wc) h2 h3 h4) upd_at h1 (FrC.new hn')
end
section
variable {cx : Cx} {tn : Bool} {H H' H'' : AH} {X : Value → AH → Prop} {t : Int} {N N' N'' : NM} {h : Nat} {κ : Addr → Int} {eL eI eD : Addr → Prop} {W : Addr → Prop} {C a c cu : Addr} {im io : Bool} {S : List Addr}
noncomputable def isC (c : Addr) : Addr → Prop := fun d => d = c
theorem c_root_insert (B : Bod cx) (hh : 9 ≤ h) (R : Rep t H N) {x : Addr} {io : Bool} (T : Tree N (isC c) t a S) (g : Good H κ (isC c) t S) (hl16 : S.length ≤ 16) (hx : El H κ x) (hmx : ∀ r, N a = some r → r.lf = true → (r.es.length : Int) < 2 * t - 1) {Q : AV → AH → Prop} (kq : ∀ v H' N' S', InsR κ S x v S' → Tree N' (isC c) t a S' → Step no t H N H' N' → FrC c N N' → Q v H') :
    CallOK cx h false (.ref 140) [.ref a, .ref x, .bool io] H Q X := by
  cases T with
  | leaf r ha hlf hes hch hw hi =>
    subst hes
    have := hmx r ha hlf
    refine c_insert_leaf (ex := no) (κ := κ) B (by lia) R g.t ha hlf this g.el g.so hx fun v H' es' d s => ?_
    refine kq _ _ (upd N a { r with es := es' }) es' d (.leaf { r with es := es' } upd_at hlf rfl hch hw ?_) s (FrC.upd ha hw)
    have := d.len
    lia
  | node r P k e Rl Z hs one =>
    refine c_insert_inner B (by lia) R Z hs.symm g hl16 hx one fun v H' N' r' P' k' e' R' D => ?_
    have hc : r.c = c := Z.c
    exact kq _ _ N' _ D.ins (.node r' P' k' e' R' D.Z rfl D.one) D.step (hc ▸ D.fr)
theorem c_insert_element (B : Bod cx) (hh : 10 ≤ h) (R : Rep t H N) {x : Addr} {io' : Bool} (b : BT H N κ C a c cu t (isC c) false io S) (hl16 : S.length ≤ 16) (hx : El H κ x) {Q : AV → AH → Prop} (kq : ∀ v H' N' S', InsR κ S x v S' → BT H' N' κ C a c cu t (isC c) false io S' → Ch no (at1 a) no t H N H' N' → FrC c N N' → Q v H') :
    CallOK cx h false (.ref 380) [.ref a, .ref x, .bool io'] H Q X := by
  obtain ⟨rt, ha, T⟩ := b.ex
  obtain ⟨r, hr, hre, hrc, hrl, hrw⟩ := T.root b.g.len b.g.t
  have hcr : r.c = c := hrw
  have hC := b.cl
  have ht := b.g.t
  have hna : N a = none := b.nn R
  have hxa : ¬ at1 a x := el_not_tree hC ha hx
  refine call_of' B.T (by lia) B.f380 rfl (fun q => by cases q) fun m _ => ?_
  intro K0
  have main : ∀ (σ : Loc) (H1 : AH) (N1 : NM) (rt1 : Addr), σ "self" = some (.ref a) → σ "elt" = some (.ref x) → σ "in_order" = some (.bool io') → Ch no (at1 a) no t H N H1 N1 → H1.I a = some (C, trF c cu rt1 t S.length false io) → Tree N1 (isC c) t rt1 S → FrC c N N1 → (∀ r, N1 rt1 = some r → r.lf = true → (r.es.length : Int) < 2 * t - 1) →
      wpS cx m false f_BTree_insert_element.tl.tl.tl.tl X σ H1 K0 := by
    intro σ H1 N1 rt1 f1 f2 f3 s1 ha1 T1 fr1 hmx
    have g1 := b.g.ch R s1 fun x hx => el_not_tree hC ha hx
    have hx1 := hx.ch R s1 hxa
    have hna1 : N1 a = none := node_cls s1.rep ha1 (by rcases hC with rfl | rfl <;> decide)
    obtain ⟨r1, hr1, _⟩ := T1.root b.g.len b.g.t
    unfold f_BTree_insert_element
    simp only [tl_cons]
    walk_at "u"
    walk_at "u"
    walk_at "u"
    refine attrP_I ha1 rfl ?_
    walk_at "u"
    refine nd_fn (s1.rep.nd rt1 r1 hr1) rfl ?_
    walk_at "u"
    try rw [hj]
    refine c_root_insert (c := c) B (by lia) s1.rep T1 g1 hl16 hx1 hmx fun v H2 N2 S2 d T2 s2' fr2' => ?_
    have s2 := s1.trans (Ch.of s2')
    have ha2 : H2.I a = some (C, trF c cu rt1 t S.length false io) := (s2'.I a (nf_I ha1) hna1 (fun q => q)).trans ha1
    have hna2 : N2 a = none := node_cls s2.rep ha2 (by rcases hC with rfl | rfl <;> decide)
    have fr2 := fr1.trans fr2'
    have hl2 := d.len
    have mk : ∀ {H' : AH}, Ch no (at1 a) no t H N H' N2 → H'.I a = some (C, trF c cu rt1 t S2.length false io) → BT H' N2 κ C a c cu t (isC c) false io S2 := fun {H'} s h1 =>
      ⟨⟨_, h1, T2⟩, hC, (s.L cu (nf_L b.em) b.no (fun q => q)).trans b.em, fun q => (s.own cu q).elim b.no (nf_L b.em), ⟨ht, fun y hy => by
        rcases d.mem y hy with rfl | hy
        · exact hx.ch R s hxa
        · exact (b.g.el y hy).ch R s (el_not_tree hC ha (b.g.el y hy)), d.so b.g.so, by lia, fun c hc => s.inst c (b.g.cr c hc)⟩, b.wc⟩
    walk_at "u"
    walk_at "u"
    have d' := d
    rcases d with ⟨A, old, B', h1, h2, h3, rfl⟩ | ⟨A, B', h1, h2, rfl, h3, h4⟩
    · walk_at "u"
      have hlen : S2.length = S.length := by rw [h1, h3]; simp
      exact kq _ _ N2 S2 d' (mk s2 (by rw [hlen]; exact ha2)) s2 fr2
    · have hlen : (S.length : Int) + 1 = S2.length := by rw [h1, h2]; simp; lia
      walk_at "u"
      walk_at "u"
      refine ⟨a, C, _, _, rfl, ha2, rfl, 1, _, rfl, ha2, trF_len, fields_t hC (by decide), ?_⟩
      rw [trF_size, show augv .add (S.length : Int) 1 = (S.length : Int) + 1 from rfl, hlen]
      have s3' : Ch no (at1 a) no t H2 N2 (H2.setI a C (trF c cu rt1 t S2.length false io)) N2 := Ch.setI s2.rep hna2 (.inr rfl)
      walk_at "u"
      exact kq _ _ N2 S2 d' (mk (s2.trans s3') upd_at) (s2.trans s3') fr2
  rw [show f_BTree_insert_element = .cons (.expr (.meth (.loc "self") "_check_mutable_and_park" .nil))
    (.cons (.assign "cloned" (.meth (.attr (.loc "self") "root") "maybe_cow" (.cons (.attr (.loc "self") "creator") .nil)))
    (.cons (.ite (.loc "cloned") (.cons (.setAttr (.loc "self") "root" (.loc "cloned")) .nil) .nil)
    (.cons (.ite (.meth (.attr (.loc "self") "root") "is_maximal" .nil)
    (.cons (.assign "old_root" (.attr (.loc "self") "root"))
    (.cons (.setAttr (.loc "self") "root" (.call "_Node" (.cons (.attr (.loc "self") "t") (.cons (.attr (.loc "self") "creator") (.cons (.bool false) .nil)))))
    (.cons (.expr (.methStar (.attr (.loc "self") "root") "adopt" (.meth (.loc "old_root") "split" .nil)))
    .nil)))
    .nil) f_BTree_insert_element.tl.tl.tl.tl))) from rfl]
  generalize f_BTree_insert_element.tl.tl.tl.tl = bd at main ⊢
  have hmaxle : (r.es.length : Int) ≤ 2 * t - 1 ∧ (r.lf = false → (r.es.length : Int) < 2 * t - 1) := by
    cases T with
    | leaf r1 h1 h2 h3 h4 h5 h6 => rw [hr] at h1; cases h1; rw [h3]; exact ⟨h6, fun q => by rw [h2] at q; cases q⟩
    | node r1 P k e Rl Z hs one =>
      have h1 := Z.top
      rw [hr] at h1; cases h1
      have := Z.few ht (by rw [← hs]; exact hl16)
      walk_at "u"
      exact ⟨by lia, fun _ => this⟩
  have n := R.nd rt r hr
  walk_at "u"
  refine meth_fn ha (trF_no (by decide)) (mt_park hC) ?_
  walk_at "u"
  refine c_park B (by lia) ha b.em (fun q => by cases q) fun him => ?_
  walk_at "u"
  refine attrP_I ha rfl ?_
  walk_at "u"
  refine nd_fn n rfl ?_
  walk_at "u"
  refine attrP_I ha rfl ?_
  walk_at "u"
  refine c_cow (ex := no) B (by lia) R ht hr (by lia) (by lia) hrl (b.g.cr _ hrw) (b.g.cr _ b.wc) (fun e => ?_) fun e => absurd hcr e
  · walk_at "u"
    refine attrP_I ha rfl ?_
    walk_at "u"
    refine nd_fn n rfl ?_
    walk_at "u"
    refine c_is_maximal B (by lia) n ht hmaxle.1 ?_
    by_cases hm : (r.es.length : Int) = 2 * t - 1
    · rw [decide_eq_true hm]
      have hlf : r.lf = true := by
        cases q : r.lf with
        | true => rfl
        | false => have := hmaxle.2 q; lia
      cases T with
      | node r1 P k e Rl Z hs one =>
        have h1 := Z.top
        rw [hr] at h1; cases h1
        rw [Z.lf] at hlf; cases hlf
      | leaf r1 h1 h2 h3 h4 h5 h6 =>
        rw [hr] at h1; cases h1
        subst h3
        walk_at "u"
        refine attrP_I ha rfl ?_
        walk_at "u"
        refine attrP_I ha rfl ?_
        walk_at "u"
        refine attrP_I ha rfl ?_
        walk_at "u"
        refine c_new (ex := no) B (by lia) R ht fun H4 nr r0 hf q1 q2 q3 q4 s4 => ?_
        have ha4 : H4.I a = some (C, trF c cu rt t r.es.length false io) := (s4.I a (nf_I ha) hna (fun q => q)).trans ha
        have hna4 : (upd N nr r0) a = none := node_cls s4.rep ha4 (by rcases hC with rfl | rfl <;> decide)
        walk_at "u"
        refine sa2 ha4 (trF_len) (fields_t hC (by decide)) ?_
        rw [trF_root]
        have s5 := (Ch.of (eL := no) (eI := at1 a) (eD := no) s4).trans (Ch.setI (C := C) (fs := trF c cu nr t r.es.length false io) s4.rep hna4 (.inr rfl))
        have ha5 : (H4.setI a C (trF c cu nr t r.es.length false io)).I a = some (C, trF c cu nr t r.es.length false io) := upd_at
        generalize H4.setI a C (trF c cu nr t r.es.length false io) = H5 at s5 ha5 ⊢
        have hne : rt ≠ nr := fun e => nf_I n.I (e ▸ hf)
        have hn5 : (upd N nr r0) rt = some r := (upd_off hne).trans hr
        have n5 := s5.rep.nd nr r0 upd_at
        have o5 := s5.rep.nd rt r hn5
        walk_at "u"
        refine attrP_I ha5 rfl ?_
        walk_at "u"
        refine ⟨_, _, _, _, rfl, n5.I, ndF_no _ (by decide) (by decide) (by decide) (by decide) (by decide), rfl, ?_⟩
        walk_at "u"
        refine nd_fn o5 rfl ?_
        walk_at "u"
        refine c_split (ex := no) B (by lia) s5.rep ht hn5 hlf h4 hm fun H6 tq mid rg N6 ra rr hT6 s6 ha6 hr6 hn6 ca cb la lb xa xb hes nla nlb kp => ?_
        have hnr6 : N6 nr = some r0 := kp nr r0 (Ne.symm hne) upd_at
        have s06 := s5.trans (Ch.of s6)
        have elm := (b.g.el mid (by rw [hes]; simp)).ch R s06 (el_not_tree hC ha (b.g.el mid (by rw [hes]; simp)))
        refine ⟨tq, _, rfl, hT6, by simp, ?_⟩
        refine c_adopt_new (ex := no) (κ := κ) B (by lia) s6.rep ht hnr6 q2 q3 q4 elm fun v H7 k7 s7 => ?_
        have s07 := s06.trans (Ch.of s7)
        have ha7 : H7.I a = some (C, trF c cu nr t r.es.length false io) := (((s6.trans s7).I a (nf_I ha5) hna4 (fun q => q))).trans ha5
        have hrg : rg ≠ nr := fun q => by subst q; rw [upd_at] at hn6; cases hn6
        have hrg2 : rg ≠ rt := fun q => by subst q; rw [hn5] at hn6; cases hn6
        walk_at "u"
        refine main _ H7 _ nr rfl rfl rfl s07 ha7 (.node _ [] rt ra.es [(mid, rg, rr.es)] ⟨upd_at, q2, q1, rfl, rfl, fun p hp => by simp at hp, ⟨⟨ra, (upd_off hne).trans ha6, la, rfl, xa, ca.trans hcr⟩, by lia, by lia⟩, fun p hp => ?_, ?_⟩ ?_ fun _ q => by cases q) ?_ ?_
        · rw [List.mem_singleton] at hp; subst hp
          exact ⟨⟨rr, (upd_off hrg).trans hr6, lb, rfl, xb, cb.trans hcr⟩, by simp only; lia, by simp only; lia⟩
        · simp [Ne.symm hrg2]
        · rw [fR_cons, hes]; simp [fP, fR]
        · refine (FrC.new (free_none R hf)).trans (FrC.trans (N' := N6) (fun b s hb hs => kp b s (fun q => ?_) hb) (FrC.upd hnr6 q1))
          subst q
          rw [hn5] at hb; cases hb
          exact hs hcr
        · intro r2 hr2 hl2
          rw [upd_at] at hr2; cases hr2
          rw [show ({ r0 with k := k7, es := [mid], ch := [rt, rg] } : NR).lf = r0.lf from rfl, q2] at hl2
          cases hl2
    · rw [decide_eq_false hm]
      walk_at "u"
      refine main _ H N rt rfl rfl rfl (Ch.refl R) ha T FrC.refl ?_
      intro r2 hr2 hl2
      rw [hr] at hr2; cases hr2
      lia
end
noncomputable def optV : Option Int → AV | none => .none | some i => .int i
structure ShB (κ : Addr → Int) (t : Int) (lo hi : Option Int) (top : Bool) (es : List Addr) : Prop where
  lb : ∀ l, lo = some l → (∀ x ∈ es, l < κ x) ∧ ∀ h, hi = some h → l < h
  ub : ∀ h, hi = some h → ∀ x ∈ es, κ x < h
  so : (es.map κ).Pairwise (· < ·)
  hi : (es.length : Int) ≤ 2 * t - 1
  lo : top = true ∨ t - 1 ≤ (es.length : Int)
structure ShL (a : Addr) (t : Int) (lo hi : Option Int) (room : Int) (n : Int) (σ : Loc) : Prop where
  e1 : σ "node" = some (.ref a)
  e2 : σ "t" = some (.int t)
  e3 : σ "low" = some (optV lo)
  e4 : σ "high" = some (optV hi)
  e5 : σ "room" = some (.int room)
  e6 : σ "count" = some (.int n)
inductive ShI (κ : Addr → Int) (es : List Addr) (hi : Option Int) (k : Nat) (σ : Loc) : Prop
  | no (h : σ "last" = some .none)
  | some (z : Int) (h : σ "last" = some (.int z)) (h1 : ∀ j x, k ≤ j → es[j]? = some x → z < κ x) (h2 : ∀ h, hi = some h → z < h)
section
variable {cx : Cx} {tn : Bool} {H H' H'' : AH} {X : Value → AH → Prop} {t : Int} {N N' N'' : NM} {h : Nat} {κ : Addr → Int} {eL eI eD : Addr → Prop} {W : Addr → Prop} {C a c cu : Addr} {im io : Bool} {S : List Addr} {lo hi : Option Int} {room : Int}
theorem w_shape (B : Bod cx) (hh : 1 ≤ h) {r : NR} {top : Bool} {K : AF → Loc → AH → Prop} (n : Nd H t a r) (ht : 3 ≤ t ∧ t ≤ 5) (hel : ∀ x ∈ r.es, El H κ x) (b : ShB κ t lo hi top r.es) (hr : room ≠ 0)
    (k : ∀ σ, ShL a t lo hi room r.es.length σ → wpS cx h false f__law_shape.tl.tl.tl.tl.tl.tl X σ H K) :
    wpS cx h false f__law_shape X (bindσ ["node", "t", "low", "high", "top", "room"] [.ref a, .int t, optV lo, optV hi, .bool top, .int room]) H K := by
  rw [show f__law_shape = (.cons (.assign "count" (.bcall .len (.cons (.attr (.loc "node") "elts") .nil)))
    (.cons (.ite (.or (.cons (.cmp .eq (.loc "room") (.int 0)) (.cons (.cmp .gt (.loc "count") (.bin .sub (.bin .mul (.int 2) (.loc "t")) (.int 1))) .nil)))
    (.cons (.ret (.tup (.cons (.neg (.int 1)) (.cons (.int 0) .nil))))
    .nil)
    .nil)
    (.cons (.ite (.and (.cons (.not (.loc "top")) (.cons (.cmp .lt (.loc "count") (.bin .sub (.loc "t") (.int 1))) .nil)))
    (.cons (.ret (.tup (.cons (.neg (.int 1)) (.cons (.int 0) .nil))))
    .nil)
    .nil)
    (.cons (.assign "last" (.loc "low"))
    (.cons (.forL "elt" (.attr (.loc "node") "elts")
    (.cons (.assign "key" (.meth (.loc "elt") "key" .nil))
    (.cons (.ite (.and (.cons (.cmp .isNot (.loc "last") .none) (.cons (.not (.cmp .lt (.loc "last") (.loc "key"))) .nil)))
    (.cons (.ret (.tup (.cons (.neg (.int 1)) (.cons (.int 0) .nil))))
    .nil)
    .nil)
    (.cons (.assign "last" (.loc "key"))
    .nil))))
    (.cons (.ite (.and (.cons (.cmp .isNot (.loc "last") .none) (.cons (.cmp .isNot (.loc "high") .none) (.cons (.not (.cmp .lt (.loc "last") (.loc "high"))) .nil))))
    (.cons (.ret (.tup (.cons (.neg (.int 1)) (.cons (.int 0) .nil))))
    .nil)
    .nil) f__law_shape.tl.tl.tl.tl.tl.tl)))))) from rfl]
  generalize f__law_shape.tl.tl.tl.tl.tl.tl = bd at k ⊢
  have hlo := b.lo
  have hhi := b.hi
  have rest : ∀ σ, ShL a t lo hi room r.es.length σ → wpS cx h false (.cons (.assign "last" (.loc "low"))
    (.cons (.forL "elt" (.attr (.loc "node") "elts")
    (.cons (.assign "key" (.meth (.loc "elt") "key" .nil))
    (.cons (.ite (.and (.cons (.cmp .isNot (.loc "last") .none) (.cons (.not (.cmp .lt (.loc "last") (.loc "key"))) .nil)))
    (.cons (.ret (.tup (.cons (.neg (.int 1)) (.cons (.int 0) .nil))))
    .nil)
    .nil)
    (.cons (.assign "last" (.loc "key"))
    .nil))))
    (.cons (.ite (.and (.cons (.cmp .isNot (.loc "last") .none) (.cons (.cmp .isNot (.loc "high") .none) (.cons (.not (.cmp .lt (.loc "last") (.loc "high"))) .nil))))
    (.cons (.ret (.tup (.cons (.neg (.int 1)) (.cons (.int 0) .nil))))
    .nil)
    .nil) bd))) X σ H K := by
    rintro σ ⟨e1, e2, e3, e4, e5, e6⟩
    walk_at "u"
    refine ⟨rfl, ?_⟩
    walk_at "u"
    refine nd_e n ?_
    refine ⟨_, _, rfl, n.E, fun k σ H' => H' = H.dropL r.e ∧ ShL a t lo hi room r.es.length σ ∧ ShI κ r.es hi k σ, ?_, ?_, ?_⟩
    · refine ⟨rfl, ⟨by walk_at "r", by walk_at "r", by walk_at "r", by walk_at "r", by walk_at "r", by walk_at "r"⟩, ?_⟩
      cases lo with
      | none => exact .no (by walk_at "r")
      | some l => exact .some l (by walk_at "r") (fun j x _ hx => (b.lb l rfl).1 x (List.mem_of_getElem? hx)) (b.lb l rfl).2
    · rintro i x σ _ hx ⟨rfl, ⟨e1, e2, e3, e4, e5, e6⟩, I⟩
      rw [refs_get] at hx
      obtain ⟨y, hy, rfl⟩ := Option.map_eq_some_iff.mp hx
      have ey : El (H.dropL r.e) κ y := hel y (List.mem_of_getElem? hy)
      walk_at "u"
      refine w_key B hh ey ?_
      walk_at "u"
      have nxt : ∀ σ', σ' "node" = some (.ref a) → σ' "t" = some (.int t) → σ' "low" = some (optV lo) → σ' "high" = some (optV hi) → σ' "room" = some (.int room) → σ' "count" = some (.int r.es.length) → σ' "last" = some (.int (κ y)) → ShL a t lo hi room r.es.length σ' ∧ ShI κ r.es hi (i + 1) σ' := fun σ' g1 g2 g3 g4 g5 g6 g7 =>
        ⟨⟨g1, g2, g3, g4, g5, g6⟩, .some (κ y) g7 (fun j x hj hx => sorted_get b.so (show i < j by lia) (by rw [List.getElem?_map, hy]; rfl) (by rw [List.getElem?_map, hx]; rfl)) (fun h hh => b.ub h hh y (List.mem_of_getElem? hy))⟩
      rcases I with hl | ⟨z, hl, h1, h2⟩
      · walk_at "u"
        refine ⟨rfl, nxt _ ?_ ?_ ?_ ?_ ?_ ?_ ?_⟩ <;> walk_at "r"
      · walk_at "u"
        rw [decide_eq_true (h1 i y (Nat.le_refl _) hy)]
        walk_at "u"
        refine ⟨rfl, nxt _ ?_ ?_ ?_ ?_ ?_ ?_ ?_⟩ <;> walk_at "r"
    · rintro σ _ ⟨rfl, L, I⟩
      rw [drop_all n.E]
      obtain ⟨e1, e2, e3, e4, e5, e6⟩ := L
      walk_at "u"
      rcases I with hl | ⟨z, hl, h1, h2⟩
      · walk_at "u"
        exact k σ ⟨e1, e2, e3, e4, e5, e6⟩
      · walk_at "u"
        cases hi with
        | none =>
          replace e4 : σ "high" = some .none := e4
          show cmpP cx h false X H _ .isNot .none .none
          walk_at "u"
          exact k σ ⟨e1, e2, e3, by assumption, e5, e6⟩
        | some hv =>
          replace e4 : σ "high" = some (.int hv) := e4
          show cmpP cx h false X H _ .isNot (.int hv) .none
          walk_at "u"
          rw [decide_eq_true (h2 hv rfl)]
          walk_at "u"
          exact k σ ⟨e1, e2, e3, by assumption, e5, e6⟩
  generalize ((.cons (.assign "last" (.loc "low"))
    (.cons (.forL "elt" (.attr (.loc "node") "elts")
    (.cons (.assign "key" (.meth (.loc "elt") "key" .nil))
    (.cons (.ite (.and (.cons (.cmp .isNot (.loc "last") .none) (.cons (.not (.cmp .lt (.loc "last") (.loc "key"))) .nil)))
    (.cons (.ret (.tup (.cons (.neg (.int 1)) (.cons (.int 0) .nil))))
    .nil)
    .nil)
    (.cons (.assign "last" (.loc "key"))
    .nil))))
    (.cons (.ite (.and (.cons (.cmp .isNot (.loc "last") .none) (.cons (.cmp .isNot (.loc "high") .none) (.cons (.not (.cmp .lt (.loc "last") (.loc "high"))) .nil))))
    (.cons (.ret (.tup (.cons (.neg (.int 1)) (.cons (.int 0) .nil))))
    .nil)
    .nil) bd))) : PS) = bd2 at rest ⊢
  walk_at "u"
  refine nd_e n ?_
  walk_at "u"
  refine len_L n.E ?_
  rw [refs_length]
  walk_at "u"
  rw [decide_eq_false hr]
  walk_at "u"
  refine .mul (by decide) (by lia) ?_
  walk_at "u"
  rw [decide_eq_false (by lia)]
  walk_at "u"
  rcases hlo with rfl | hlo
  · walk_at "u"
    refine rest _ ⟨?_, ?_, ?_, ?_, ?_, ?_⟩ <;> walk_at "r"
  · cases top with
    | true =>
      walk_at "u"
      refine rest _ ⟨?_, ?_, ?_, ?_, ?_, ?_⟩ <;> walk_at "r"
    | false =>
      walk_at "u"
      rw [decide_eq_false (by lia)]
      walk_at "u"
      refine rest _ ⟨?_, ?_, ?_, ?_, ?_, ?_⟩ <;> walk_at "r"
end
inductive ShR (H : AH) (d n : Int) (v : AV) (H' : AH) : Prop
  | mk (tp : Addr) (hv : v = .ref tp) (hT : H'.T tp = some [.int d, .int n]) (m : TM H H')
noncomputable def sepL (κ : Addr → Int) (P : PL) : Option Int := P.getLast?.map fun p => κ p.2.2
noncomputable def sepR (κ : Addr → Int) (R : RL) : Option Int := R.head?.map fun p => κ p.1
inductive ShT (κ : Addr → Int) (N : NM) (W : Addr → Prop) (t : Int) (H : AH) (a : Addr) (r : NR) (S : List Addr) (room : Int) (k : Nat) (σ : Loc) (H' : AH) : Prop
  | mk (P : PL) (c : Addr) (e : List Addr) (R : RL) (Z : ZT N W t a r P c e R) (s : fP P ++ (e ++ fR R) = S) (hk : P.length = k) (m : TM H H')
    (e1 : σ "node" = some (.ref a)) (e2 : σ "t" = some (.int t)) (e3 : σ "low" = some .none) (e4 : σ "high" = some .none) (e5 : σ "room" = some (.int room)) (e6 : σ "count" = some (.int r.es.length))
    (e7 : σ "total" = some (.int ((r.es.length : Int) + ((fP P).length - P.length)))) (e8 : σ "depth" = some (.int (if k = 0 then -1 else 0)))
  | done (m : TM H H') (e7 : σ "total" = some (.int S.length)) (e8 : σ "depth" = some (.int 0)) (hk : k = r.es.length + 1)
section
variable {cx : Cx} {tn : Bool} {H H' H'' : AH} {X : Value → AH → Prop} {t : Int} {N N' N'' : NM} {h : Nat} {κ : Addr → Int} {W : Addr → Prop} {C a c cu : Addr} {S : List Addr} {lo hi : Option Int} {room : Int}
theorem c_shape_leaf (B : Bod cx) (hh : 2 ≤ h) {r : NR} {top : Bool} (n : Nd H t a r) (hlf : r.lf = true) (hch : r.ch = []) (ht : 3 ≤ t ∧ t ≤ 5) (hel : ∀ x ∈ r.es, El H κ x) (b : ShB κ t lo hi top r.es) (hr : room ≠ 0) {Q : AV → AH → Prop} (kq : ∀ v H', ShR H 0 r.es.length v H' → Q v H') :
    CallOK cx h false (.ref 631) [.ref a, .int t, optV lo, optV hi, .bool top, .int room] H Q X := by
  refine call_of' B.T (by lia) B.f631 rfl (fun q => by cases q) fun m _ => ?_
  intro K0
  refine w_shape B (by lia) n ht hel b hr ?_
  rintro σ ⟨e1, e2, e3, e4, e5, e6⟩
  unfold f__law_shape
  simp only [tl_cons]
  walk_at "u"
  refine nd_lf' n hlf ?_
  walk_at "u"
  refine nd_k n ?_
  walk_at "u"
  refine len_L n.K ?_
  walk_at "u"
  rw [hch, decide_eq_false (by simp [refs])]
  walk_at "u"
  exact ⟨by simp, fun tp hf => kq _ _ ⟨tp, rfl, upd_at, TM.setT hf⟩⟩
theorem sep_bounds {P : PL} {e : List Addr} {R : RL} (hs : ((fP P ++ (e ++ fR R)).map κ).Pairwise (· < ·)) : (∀ l, sepL κ P = some l → (∀ x ∈ e, l < κ x) ∧ ∀ h, sepR κ R = some h → l < h) ∧ ∀ h, sepR κ R = some h → ∀ x ∈ e, κ x < h := by
  have hR : ∀ h, sepR κ R = some h → ∃ y ∈ fR R, κ y = h := by
    intro h e
    match R with
    | [] => cases e
    | (x, k, e1) :: R => exact ⟨x, by rw [fR_cons]; simp, by injection e⟩
  have hP : ∀ l, sepL κ P = some l → ∃ y ∈ fP P, κ y = l := by
    intro l e
    by_cases q : P = []
    · subst q; cases e
    · obtain ⟨P0, ⟨k, e1, x⟩, rfl⟩ := snoc_of q
      refine ⟨x, by rw [fP_snoc]; simp, ?_⟩
      have : sepL κ (P0 ++ [(k, e1, x)]) = some (κ x) := by simp [sepL]
      rw [this] at e; injection e
  rw [List.map_append, List.map_append, List.pairwise_append, List.pairwise_append] at hs
  obtain ⟨h1, ⟨h2, h3, h4⟩, h5⟩ := hs
  refine ⟨fun l hl => ⟨fun x hx => ?_, fun h hh => ?_⟩, fun h hh x hx => ?_⟩
  · obtain ⟨y, hy, rfl⟩ := hP l hl
    exact h5 _ (List.mem_map_of_mem hy) _ (by simp; exact .inl ⟨x, hx, rfl⟩)
  · obtain ⟨y, hy, rfl⟩ := hP l hl
    obtain ⟨z, hz, rfl⟩ := hR h hh
    exact h5 _ (List.mem_map_of_mem hy) _ (by simp; exact .inr ⟨z, hz, rfl⟩)
  · obtain ⟨z, hz, rfl⟩ := hR h hh
    exact h4 _ (List.mem_map_of_mem hx) _ (List.mem_map_of_mem hz)
theorem c_shape_root (B : Bod cx) (hh : 3 ≤ h) (R : Rep t H N) (T : Tree N W t a S) (g : Good H κ W t S) (hr : 2 ≤ room) {Q : AV → AH → Prop} (kq : ∀ v H' (d : Int), 0 ≤ d → ShR H d S.length v H' → Q v H') :
    CallOK cx h false (.ref 631) [.ref a, .int t, .none, .none, .bool true, .int room] H Q X := by
  have ht := g.t
  cases T with
  | leaf r ha hlf hes hch hc hi =>
    subst hes
    exact c_shape_leaf (lo := none) (hi := none) (top := true) B (by lia) (R.nd a r ha) hlf hch g.t g.el ⟨fun l q => (by cases q), fun l q => (by cases q), g.so, hi, .inl rfl⟩ (by lia) fun v H' q => kq _ _ 0 (by lia) q
  | node r P k e Rl Z hS one =>
    subst hS
    have n := R.nd a r Z.top
    have hlen : (r.es.length : Int) ≤ 2 * t - 1 := by
      have h1 := fP_len fun p hp => (Z.kP p hp).lo
      have h2 := fR_len fun p hp => (Z.kR p hp).lo
      have h3 := Z.kk.lo
      have h4 := Z.len
      have hl := g.len
      simp only [List.length_append] at hl
      have h5 : t = 3 ∨ t = 4 ∨ t = 5 := by lia
      rcases h5 with rfl | rfl | rfl <;> lia
    refine call_of' B.T (by lia) B.f631 rfl (fun q => by cases q) fun m _ => ?_
    intro K0
    refine w_shape (lo := none) (hi := none) (κ := κ) B (by lia) n ht (fun x hx => g.el x (Z.sub.subset hx)) ⟨fun l q => (by cases q), fun l q => (by cases q), Z.sorted g.so, hlen, .inl rfl⟩ (by lia) ?_
    rintro σ ⟨e1, e2, e3, e4, e5, e6⟩
    have e3' : σ "low" = some .none := e3
    have e4' : σ "high" = some .none := e4
    clear e3 e4
    unfold f__law_shape
    simp only [tl_cons]
    walk_at "u"
    refine nd_lf' n Z.lf ?_
    walk_at "u"
    refine nd_k n ?_
    walk_at "u"
    refine len_L n.K ?_
    walk_at "u"
    rw [decide_eq_false (by rw [refs_length, Z.clen, Z.len]; simp)]
    walk_at "u"
    obtain ⟨k0, e0, R0, Z0, q0⟩ := ZT.first _ rfl Z
    refine ⟨0, r.es.length + 1, fun j σ H' => ShT κ N W t H a r (fP P ++ (e ++ fR Rl)) room j σ H', .inl _ rfl rfl (by lia) (by lia) (by lia), ?_, ?_, ?_⟩
    · exact .mk [] k0 e0 R0 Z0 q0 rfl .refl (by walk_at "r") (by walk_at "r") (by walk_at "r") (by walk_at "r") (by walk_at "r") (by walk_at "r") (by walk_at "r") (by walk_at "r")
    · rintro j σ H' hj (⟨P', c', e', R', Z', s', rfl, m', e1, e2, e3, e4, e5, e6, e7, e8⟩ | ⟨_, _, _, rfl⟩)
      · have kx := Z'.kk
        obtain ⟨rc, hrc, q1, q2, q3, q4⟩ := kx.ex
        have nc := (R.nd c' rc hrc).tm m'
        have n' := n.tm m'
        have hs' := g.so
        rw [← s'] at hs'
        obtain ⟨bl, bu⟩ := sep_bounds hs'
        have gk := (g.tm m').sub (S' := e') (by rw [← s']; exact mid_sub _ _ _)
        have hZ := Z'.len
        have go : ∀ (K : AF → Loc → AH → Prop), (∀ σ3 H3, ShT κ N W t H a r (fP P ++ (e ++ fR Rl)) room (P'.length + 1) σ3 H3 → K .next σ3 H3) → ∀ σ2, σ2 "node" = some (.ref a) → σ2 "t" = some (.int t) → σ2 "low" = some .none → σ2 "high" = some .none → σ2 "room" = some (.int room) → σ2 "count" = some (.int r.es.length) → σ2 "total" = some (.int ((r.es.length : Int) + ((fP P').length - P'.length))) → σ2 "depth" = some (.int (if P'.length = 0 then -1 else 0)) → σ2 "place" = some (.int (0 + (P'.length : Int))) → σ2 "below" = some (optV (sepL κ P')) → σ2 "above" = some (optV (sepR κ R')) →
            wpS cx m false (.cons (.assignT "deep" "much" (.call "_law_shape" (.cons (.item (.attr (.loc "node") "children") (.loc "place")) (.cons (.loc "t") (.cons (.loc "below") (.cons (.loc "above") (.cons (.bool false) (.cons (.bin .sub (.loc "room") (.int 1)) .nil))))))))
    (.cons (.ite (.cmp .lt (.loc "deep") (.int 0))
    (.cons (.ret (.tup (.cons (.neg (.int 1)) (.cons (.int 0) .nil))))
    .nil)
    .nil)
    (.cons (.ite (.and (.cons (.cmp .gt (.loc "place") (.int 0)) (.cons (.cmp .ne (.loc "deep") (.loc "depth")) .nil)))
    (.cons (.ret (.tup (.cons (.neg (.int 1)) (.cons (.int 0) .nil))))
    .nil)
    .nil)
    (.cons (.assign "depth" (.loc "deep"))
    (.cons (.augName "total" .add (.loc "much"))
    .nil))))) noX σ2 H' K := by
          intro K hK σ2 f1 f2 f3 f4 f5 f6 f7 f8 f9 f10 f11
          walk_at "u"
          refine nd_k n' ?_
          walk_at "u"
          refine item_L n'.K (seqAt_refs (by lia) (by rw [show ((0 : Int) + P'.length).toNat = P'.length by lia]; exact Z'.kid)) ?_
          walk_at "u"
          refine c_shape_leaf (top := false) B (by lia) nc q1 q3 ht (by rw [q2]; exact gk.el) (by rw [q2]; exact ⟨bl, bu, gk.so, kx.hi, .inr kx.lo⟩) (by lia) fun v H2 z => ?_
          obtain ⟨tp, rfl, hT, m2⟩ := z
          refine asT hT ?_
          walk_at "u"
          rw [decide_eq_false (by lia)]
          walk_at "u"
          have fin : ∀ σ3, σ3 "node" = some (.ref a) → σ3 "t" = some (.int t) → σ3 "low" = some .none → σ3 "high" = some .none → σ3 "room" = some (.int room) → σ3 "count" = some (.int r.es.length) → σ3 "depth" = some (.int 0) → σ3 "total" = some (.int (augv .add ((r.es.length : Int) + ((fP P').length - P'.length)) rc.es.length)) → ShT κ N W t H a r (fP P ++ (e ++ fR Rl)) room (P'.length + 1) σ3 H2 := by
            intro σ3 g1 g2 g3 g4 g5 g6 g7 g8
            rw [q2] at g8
            rcases R' with _ | ⟨⟨x, c1, e1'⟩, R0⟩
            · have hl := congrArg List.length s'
              simp only [List.length_append, fR_nil, List.length_nil] at hl hZ
              refine .done (m'.trans m2) ?_ g7 (by lia)
              rw [g8]
              simp only [augv, List.length_append]
              rw [← hl]
              congr 2
              push_cast
              lia
            · refine .mk _ c1 e1' R0 Z'.right (by rw [fs_right]; exact s') (by simp) (m'.trans m2) g1 g2 g3 g4 g5 g6 ?_ (by rw [g7]; simp)
              rw [g8, fP_snoc]
              simp only [augv, List.length_append, List.length_cons, List.length_nil]
              congr 2
              push_cast
              lia
          by_cases hp : P'.length = 0
          · rw [decide_eq_false (by lia)]
            walk_at "u"
            refine hK _ _ (fin _ ?_ ?_ ?_ ?_ ?_ ?_ ?_ ?_) <;> walk_at "r"
          · rw [decide_eq_true (by lia)]
            rw [if_neg hp] at f8
            walk_at "u"
            rw [decide_eq_false (by simp)]
            walk_at "u"
            refine hK _ _ (fin _ ?_ ?_ ?_ ?_ ?_ ?_ ?_ ?_) <;> walk_at "r"
        generalize ((.cons (.assignT "deep" "much" (.call "_law_shape" (.cons (.item (.attr (.loc "node") "children") (.loc "place")) (.cons (.loc "t") (.cons (.loc "below") (.cons (.loc "above") (.cons (.bool false) (.cons (.bin .sub (.loc "room") (.int 1)) .nil))))))))
    (.cons (.ite (.cmp .lt (.loc "deep") (.int 0))
    (.cons (.ret (.tup (.cons (.neg (.int 1)) (.cons (.int 0) .nil))))
    .nil)
    .nil)
    (.cons (.ite (.and (.cons (.cmp .gt (.loc "place") (.int 0)) (.cons (.cmp .ne (.loc "deep") (.loc "depth")) .nil)))
    (.cons (.ret (.tup (.cons (.neg (.int 1)) (.cons (.int 0) .nil))))
    .nil)
    .nil)
    (.cons (.assign "depth" (.loc "deep"))
    (.cons (.augName "total" .add (.loc "much"))
    .nil))))) : PS) = bd3 at go ⊢
        have fin : ∀ (K : AF → Loc → AH → Prop), (∀ σ3 H3, ShT κ N W t H a r (fP P ++ (e ++ fR Rl)) room (P'.length + 1) σ3 H3 → K .next σ3 H3) → wpS cx m false (.cons (.assign "below" (.loc "low"))
    (.cons (.assign "above" (.loc "high"))
    (.cons (.ite (.cmp .gt (.loc "place") (.int 0))
    (.cons (.assign "below" (.meth (.item (.attr (.loc "node") "elts") (.bin .sub (.loc "place") (.int 1))) "key" .nil))
    .nil)
    .nil)
    (.cons (.ite (.cmp .lt (.loc "place") (.loc "count"))
    (.cons (.assign "above" (.meth (.item (.attr (.loc "node") "elts") (.loc "place")) "key" .nil))
    .nil)
    .nil) bd3)))) noX (σ.set "place" (.int (0 + (P'.length : Int)))) H' K := by
          intro K hK
          have tl : ∀ (σ2 : Loc), σ2 "node" = some (.ref a) → σ2 "t" = some (.int t) → σ2 "low" = some .none → σ2 "high" = some .none → σ2 "room" = some (.int room) → σ2 "count" = some (.int r.es.length) → σ2 "total" = some (.int ((r.es.length : Int) + ((fP P').length - P'.length))) → σ2 "depth" = some (.int (if P'.length = 0 then -1 else 0)) → σ2 "place" = some (.int (0 + (P'.length : Int))) → σ2 "below" = some (optV (sepL κ P')) → σ2 "above" = some .none →
              wpS cx m false (.cons (.ite (.cmp .lt (.loc "place") (.loc "count"))
    (.cons (.assign "above" (.meth (.item (.attr (.loc "node") "elts") (.loc "place")) "key" .nil))
    .nil)
    .nil) bd3) noX σ2 H' K := by
            intro σ2 f1 f2 f3 f4 f5 f6 f7 f8 f9 f10 f11
            walk_at "u"
            rcases R' with _ | ⟨⟨x, c1, e1'⟩, R0⟩
            · rw [decide_eq_false (by simp at hZ; lia)]
              walk_at "u"
              exact go K hK σ2 f1 f2 f3 f4 f5 f6 f7 f8 f9 f10 f11
            · rw [decide_eq_true (by simp at hZ; lia)]
              have hx : r.es[P'.length]? = some x := by rw [Z'.es]; simp
              walk_at "u"
              refine nd_e n' ?_
              walk_at "u"
              refine item_L n'.E (seqAt_refs (by lia) (by rw [show ((0 : Int) + P'.length).toNat = P'.length by lia]; exact hx)) ?_
              walk_at "u"
              refine w_key B (by lia) ((g.tm m').el x (by rw [← s', fR_cons]; simp)) ?_
              walk_at "u"
              refine go K hK _ ?_ ?_ ?_ ?_ ?_ ?_ ?_ ?_ ?_ ?_ ?_ <;> walk_at "r"
          generalize (.cons (.ite (.cmp .lt (.loc "place") (.loc "count"))
    (.cons (.assign "above" (.meth (.item (.attr (.loc "node") "elts") (.loc "place")) "key" .nil))
    .nil)
    .nil) bd3 : PS) = bd4 at tl ⊢
          walk_at "u"
          by_cases hp : P' = []
          · subst hp
            rw [decide_eq_false (by simp)]
            walk_at "u"
            refine tl _ ?_ ?_ ?_ ?_ ?_ ?_ ?_ ?_ ?_ ?_ ?_ <;> walk_at "r"
          · obtain ⟨P0, ⟨kl, el, x⟩, rfl⟩ := snoc_of hp
            rw [decide_eq_true (by simp <;> lia)]
            have hx : r.es[P0.length]? = some x := by rw [Z'.es]; simp
            have hsl : optV (sepL κ (P0 ++ [(kl, el, x)])) = .int (κ x) := by simp [sepL, optV]
            walk_at "u"
            refine nd_e n' ?_
            walk_at "u"
            refine item_L n'.E (seqAt_refs (by simp <;> lia) (by rw [show ((0 : Int) + (P0 ++ [(kl, el, x)]).length - 1).toNat = P0.length by simp <;> lia]; exact hx)) ?_
            walk_at "u"
            refine w_key B (by lia) ((g.tm m').el x (by rw [← s', fP_snoc]; simp)) ?_
            walk_at "u"
            refine tl _ ?_ ?_ ?_ ?_ ?_ ?_ ?_ ?_ ?_ (by rw [hsl]; walk_at "r") ?_ <;> walk_at "r"
        refine fin _ fun σ3 H3 hi => hi
      · lia
    · rintro σ H' (⟨P', c', e', R', Z', s', hk, m', e1, e2, e3, e4, e5, e6, e7, e8⟩ | ⟨m', e7, e8, _⟩)
      · have := Z'.len; lia
      · walk_at "u"
        exact ⟨by simp, fun tp hf => kq _ _ 1 (by lia) ⟨tp, rfl, upd_at, m'.trans (TM.setT hf)⟩⟩
end
noncomputable def dE (m : List (Int × Addr)) : List (Int × AV) := m.map fun p => (p.1, .ref p.2)
structure Sam (κ : Addr → Int) (S : List Addr) (m : List (Int × Addr)) : Prop where
  key : ∀ p ∈ m, κ p.2 = p.1
  nd : (m.map (·.1)).Nodup
  pm : S.Perm (m.map (·.2))
section
variable {cx : Cx} {tn : Bool} {H H' H'' : AH} {X : Value → AH → Prop} {t : Int} {N N' N'' : NM} {h : Nat} {κ : Addr → Int} {eL eI eD : Addr → Prop} {W : Addr → Prop} {C a c cu : Addr} {im io : Bool} {S : List Addr} {m : List (Int × Addr)}
theorem len_BT {Q : AV → AH → Prop} (B : Bod cx) (hh : 1 ≤ h) (b : BT H N κ C a c cu t W im io S) (k : Q (.int S.length) H) : bcP cx h false X .len [.ref a] H Q := by
  obtain ⟨rt, ha, T⟩ := b.ex
  have hl := b.g.len
  exact .lenO a C _ 415 rfl rfl ha (by rcases b.cl with rfl | rfl <;> rfl) (c_len B hh b ⟨_, rfl, by lia, by lia, k⟩)
theorem len_D {l : Addr} {es : List (Int × AV)} {Q : AV → AH → Prop} (h1 : H.D l = some es) (h2 : Q (.int es.length) H) : bcP cx h tn X .len [.ref l] H Q := .lenD l es rfl rfl h1 h2
theorem BT.tm (b : BT H N κ C a c cu t W im io S) (m : TM H H') : BT H' N κ C a c cu t W im io S := by
  obtain ⟨rt, ha, T⟩ := b.ex
  exact ⟨⟨rt, by rw [m.I]; exact ha, T⟩, b.cl, by rw [m.L]; exact b.em, b.no, b.g.tm m, b.wc⟩
theorem c_sound (B : Bod cx) (hh : 4 ≤ h) (R : Rep t H N) (b : BT H N κ C a c cu t W im io S) {Q : AV → AH → Prop} (kq : ∀ H', TM H H' → Q (.bool true) H') :
    CallOK cx h false (.ref 638) [.ref a, .int t] H Q X := by
  obtain ⟨rt, ha, T⟩ := b.ex
  refine call_of' B.T (by lia) B.f638 rfl (fun q => by cases q) fun m _ => ?_
  intro K0
  unfold f__law_sound
  walk_at "u"
  refine attrP_I ha rfl ?_
  walk_at "u"
  refine c_shape_root B (by lia) R T b.g (by lia) fun v H1 d hd z => ?_
  obtain ⟨tp, rfl, hT, m1⟩ := z
  refine asT hT ?_
  walk_at "u"
  rw [decide_eq_true hd]
  walk_at "u"
  refine len_BT B (by lia) (b.tm m1) ?_
  walk_at "u"
  rw [decide_eq_true rfl]
  exact kq _ m1
theorem atK_dE (k : Int) {m : List (Int × Addr)} : (m.map (·.1)).Nodup → (∀ x, (k, x) ∈ m → atK (dE m) k = some (.ref x)) ∧ ((∀ x, (k, x) ∉ m) → atK (dE m) k = none) := by
  induction m with
  | nil => exact fun _ => ⟨fun x h => (by cases h), fun _ => rfl⟩
  | cons p m ih =>
    intro nd
    obtain ⟨k', y⟩ := p
    rw [List.map_cons, List.nodup_cons] at nd
    have ih1 := (ih nd.2).1
    have ih2 := (ih nd.2).2
    by_cases e : k' = k
    · subst e
      refine ⟨fun x hx => ?_, fun h => absurd (List.mem_cons_self) (h y)⟩
      rcases List.mem_cons.mp hx with q | q
      · cases q; simp [atK, dE]
      · exact absurd (List.mem_map_of_mem (f := (·.1)) q) nd.1
    · have he : atK (dE ((k', y) :: m)) k = atK (dE m) k := by simp [atK, dE, e]
      rw [he]
      refine ⟨fun x hx => ?_, fun h => ih2 fun x hx => h x (List.mem_cons_of_mem _ hx)⟩
      rcases List.mem_cons.mp hx with q | q
      · cases q; exact absurd rfl e
      · exact ih1 x q
theorem Sam.mem (s : Sam κ S m) {x : Addr} (hx : x ∈ S) : (κ x, x) ∈ m := by
  have := s.pm.mem_iff.mp hx
  obtain ⟨p, hp, rfl⟩ := List.mem_map.mp this
  rw [s.key p hp]; exact hp
theorem Sam.find (s : Sam κ S m) {key : Int} {v : AV} (f : FindR κ S key v) : v = (atK (dE m) key).getD .none := by
  rcases f with ⟨A, x, B, hS, rfl, rfl⟩ | ⟨hno, rfl⟩
  · rw [(atK_dE (κ x) s.nd).1 x (s.mem (by rw [hS]; simp))]; rfl
  · rw [(atK_dE key s.nd).2 fun x hx => ?_]
    · rfl
    · refine hno x (s.pm.mem_iff.mpr (List.mem_map_of_mem (f := (·.2)) hx)) (s.key _ hx)
theorem Sam.len (s : Sam κ S m) : S.length = m.length := by rw [s.pm.length_eq, List.length_map]
theorem Sam.order (s : Sam κ S m) (hs : (S.map κ).Pairwise (· < ·)) {ms : List Int} (hp : ms.Perm (m.map (·.1))) (ho : ms.Pairwise (· ≤ ·)) : S.map κ = ms := by
  have h1 : (S.map κ).Perm (m.map (·.1)) := by
    refine (s.pm.map κ).trans ?_
    rw [List.map_map]
    refine List.Perm.of_eq (List.map_congr_left fun p hp => ?_)
    exact s.key p hp
  exact (h1.trans hp.symm).eq_of_pairwise (fun a b _ _ h1 h2 => Int.le_antisymm h1 h2) (hs.imp fun h => Int.le_of_lt h) ho
end
section
variable {cx : Cx} {tn : Bool} {H H' H'' : AH} {X : Value → AH → Prop} {t : Int} {N N' N'' : NM} {h : Nat} {κ : Addr → Int} {eL eI eD : Addr → Prop} {W : Addr → Prop} {C a c cu : Addr} {im io : Bool} {S : List Addr} {m : List (Int × Addr)}
theorem Ch.unfree (s : Ch (fun b => H.free b ∨ eL b) eI (fun b => H.free b ∨ eD b) t H N H' N') : Ch eL eI eD t H N H' N' :=
  ⟨s.rep, fun b h1 h2 h3 => s.L b h1 h2 fun q => q.elim h1 h3, s.I, s.T, fun b h1 h3 => s.D b h1 fun q => q.elim h1 h3, s.B, s.dom, s.new, s.own, s.nf, s.inst⟩
abbrev ChF (t : Int) (H : AH) (N : NM) (H' : AH) (N' : NM) : Prop := Ch (fun b => H.free b ∨ no b) no (fun b => H.free b ∨ no b) t H N H' N'
theorem drop2_back {l l' : Addr} {xs ys : List AV} (h1 : H.L l = some xs) (h2 : H.L l' = some ys) : (((H.dropL l').dropL l).setL l xs).setL l' ys = H := AH.eqL (by
  funext b; simp only [AH.setL, AH.dropL, upd]
  by_cases q : b = l'
  · subst q; simp [h2]
  · by_cases q' : b = l
    · subst q'; simp [q, h1]
    · simp [q, q']) rfl rfl rfl rfl
theorem meth_BT {m f : _} {ps : PEs} {σ : Loc} {Q : AV → AH → Prop} {rt : Addr} {n : Int} (ha : H.I a = some (C, trF c cu rt t n im io)) (h2 : m ∉ ["creator", "_immutable", "cursors", "t", "root", "size", "in_order"]) (h3 : mtab C m = some f) (k : wpEs cx h tn X ps σ H (kMeth2 cx h tn X m (.fn f a) Q)) : kMeth1 cx h tn X m ps Q σ (.ref a) H := meth_fn ha (trF_no h2) h3 k
theorem cmp_isNot_same {v : AV} {Q : AV → AH → Prop} (hv : v = .none ∨ ∃ x, v = .ref x) (k : Q (.bool false) H) : cmpP cx h tn X H Q .isNot v v := by
  rcases hv with rfl | ⟨x, rfl⟩
  · exact cmp_isNot_nn k
  · exact cmp_isNot_rr k
theorem no_el : ∀ x, El H κ x → ¬ no x := fun _ _ q => q
structure StI (a held : Addr) (t probe : Int) (H1 : AH) (σ : Loc) (H' : AH) : Prop where
  h : H' = H1
  e1 : σ "tree" = some (.ref a)
  e2 : σ "held" = some (.ref held)
  e3 : σ "t" = some (.int t)
  e4 : σ "probe" = some (.int probe)
theorem c_stands (B : Bod cx) (hh : 6 ≤ h) (R : Rep t H N) (b : BT H N κ C a c cu t W im io S) (s : Sam κ S m) {held : Addr} {probe : Int} (hd : H.D held = some (dE m)) (hp : ∀ x ∈ S, κ x ≠ probe + 1) {Q : AV → AH → Prop} (kq : ∀ H', Ch no no no t H N H' N → Q (.bool true) H') :
    CallOK cx h false (.ref 645) [.ref a, .ref held, .int t, .int probe] H Q X := by
  have hlen := b.g.len
  have hml : (dE m).length = S.length := by rw [s.len]; simp [dE]
  refine call_of' B.T (by lia) B.f645 rfl (fun q => by cases q) fun n _ => ?_
  intro K0
  unfold f__law_stands
  walk_at "u"
  refine len_BT B (by lia) b ?_
  walk_at "u"
  refine len_D hd ?_
  walk_at "u"
  rw [decide_eq_false (by rw [hml]; simp)]
  walk_at "u"
  refine lst_ (by simp) fun l hl => ?_
  have s1 : ChF t H N (H.setL l []) N := Ch.setL R (.inl hl)
  have b1 := b.same R s1 (fun q => q) (fun q => q.elim (nf_L b.em) fun q => q) no_el
  have hl1 : (H.setL l []).L l = some [] := upd_at
  generalize H.setL l [] = H1 at s1 b1 hl1 ⊢
  walk_at "u"
  obtain ⟨rt1, ha1, T1⟩ := b1.ex
  refine meth_BT ha1 (by decide) (mt_vis b.cl) ?_
  walk_at "u"
  refine .app rfl l [] rfl hl1 fun q hq => ?_
  have s2 : ChF t H N (H1.setB q l) N := s1.trans (Ch.of (Step.setB s1.rep hq))
  have b2 := b.same R s2 (fun q => q) (fun q => q.elim (nf_L b.em) fun q => q) no_el
  have hq2 : (H1.setB q l).B q = some l := upd_at
  have hl2 : (H1.setB q l).L l = some [] := hl1
  generalize H1.setB q l = H2 at s2 b2 hq2 hl2 ⊢
  have hno : ¬ Own N l := fun q => own_nf R q hl
  walk_at "u"
  refine c_visit B (by lia) s2.rep b2 hq2 hl2 hno (by simp; lia) fun v => ?_
  have s3 : ChF t H N (H2.setL l ([] ++ refs S)) N := s2.trans (Ch.setL s2.rep (.inr ⟨.inl hl, hno⟩))
  have b3 := b.same R s3 (fun q => q) (fun q => q.elim (nf_L b.em) fun q => q) no_el
  have hl3 : (H2.setL l ([] ++ refs S)).L l = some (refs S) := upd_at
  generalize H2.setL l ([] ++ refs S) = H3 at s3 b3 hl3 ⊢
  have hd3 : H3.D held = some (dE m) := (s3.D held (nf_D hd) fun q => q.elim (nf_D hd) fun q => q).trans hd
  walk_at "u"
  refine len_L hl3 ?_
  walk_at "u"
  refine len_D hd3 ?_
  walk_at "u"
  rw [decide_eq_false (by rw [hml, refs_length]; simp)]
  walk_at "u"
  refine ⟨rfl, ?_⟩
  walk_at "u"
  refine .sortD _ _ rfl rfl hd3 (by rw [hml]; lia) fun l' ms hl' hpm hso => ?_
  have hord := s.order b.g.so (hpm.trans (by rw [dE, List.map_map]; exact .refl _)) hso
  have hll : l ≠ l' := fun q => nf_L hl3 (q ▸ hl')
  have s4 : ChF t H N (H3.setL l' (ms.map .int)) N := s3.trans (Ch.setL s3.rep (.inl hl'))
  have hl4 : (H3.setL l' (ms.map .int)).L l = some (refs S) := (upd_off hll).trans hl3
  have hl4' : (H3.setL l' (ms.map .int)).L l' = some (ms.map .int) := upd_at
  have b4 := b.same R s4 (fun q => q) (fun q => q.elim (nf_L b.em) fun q => q) no_el
  generalize H3.setL l' (ms.map .int) = H4 at s4 b4 hl4 hl4' ⊢
  have hd4 : H4.D held = some (dE m) := (s4.D held (nf_D hd) fun q => q.elim (nf_D hd) fun q => q).trans hd
  refine ⟨l, l', _, _, rfl, rfl, hll, hl4, hl4', by rw [refs_length, ← hord]; simp, fun _ σ H' => StI a held t probe ((H4.dropL l').dropL l) σ H', ?_, ?_, ?_⟩
  · refine ⟨rfl, ?_, ?_, ?_, ?_⟩ <;> walk_at "r"
  · rintro k x y σ _ hx hy ⟨rfl, e1, e2, e3, e4⟩
    obtain ⟨z, rfl, hz, _⟩ := refs_take_succ hx
    rw [List.getElem?_map] at hy
    obtain ⟨w, hw, rfl⟩ := Option.map_eq_some_iff.mp hy
    have hzw : κ z = w := by
      rw [← hord, List.getElem?_map, hz] at hw
      injection hw
    walk_at "u"
    refine item_D (v := .ref z) hd4 (by rw [← hzw]; exact (atK_dE (κ z) s.nd).1 z (s.mem (List.mem_of_getElem? hz))) ?_
    refine cmp_isNot_rr ?_
    walk_at "u"
    refine ⟨rfl, ?_, ?_, ?_, ?_⟩ <;> walk_at "r"
  · rintro σ _ ⟨rfl, e1, e2, e3, e4⟩
    rw [drop2_back hl4 hl4']
    obtain ⟨rt4, ha4, T4⟩ := b4.ex
    walk_at "u"
    refine meth_BT ha4 (by decide) (mt_get b.cl) ?_
    walk_at "u"
    refine c_get_element B (by lia) s4.rep b4 fun v H5 f m5 => ?_
    have hv := s.find f
    have hd5 : H5.D held = some (dE m) := by rw [m5.D]; exact hd4
    have s5 := s4.trans (Ch.of (m5.step s4.rep))
    have b5 := b4.tm m5
    walk_at "u"
    refine meth_D hd5 (by simp) ?_
    walk_at "u"
    refine dm_get hd5 ?_
    rw [← hv]
    refine cmp_isNot_same (v := v) f.val ?_
    walk_at "u"
    obtain ⟨rt5, ha5, T5⟩ := b5.ex
    walk_at "u"
    refine meth_BT ha5 (by decide) (mt_get b.cl) ?_
    walk_at "u"
    refine c_get_element B (by lia) s5.rep b5 fun v6 H6 f6 m6 => ?_
    have hv6 : v6 = .none := by
      rcases f6 with ⟨A, x, B', hS, hk, rfl⟩ | ⟨_, rfl⟩
      · exact absurd hk (hp x (by rw [hS]; simp))
      · rfl
    subst hv6
    have s6 := s5.trans (Ch.of (m6.step s5.rep))
    walk_at "u"
    refine c_sound B (by lia) s6.rep (b5.tm m6) fun H7 m7 => ?_
    walk_at "u"
    exact kq _ ((s6.trans (Ch.of (m7.step s6.rep))).unfree)
end
theorem setI_setI {H : AH} {x C D : Addr} {f g : List (String × AV)} : (H.setI x C f).setI x D g = H.setI x D g := AH.eqL rfl (by funext b; simp only [AH.setI, upd]; split <;> rfl) rfl rfl rfl
noncomputable def updK (κ : Addr → Int) (x : Addr) (k : Int) : Addr → Int := fun y => if y = x then k else κ y
theorem updK_at {κ : Addr → Int} {x : Addr} {k : Int} : updK κ x k x = k := if_pos rfl
theorem updK_off {κ : Addr → Int} {x y : Addr} {k : Int} (h : y ≠ x) : updK κ x k y = κ y := if_neg h
noncomputable def kvF (k v : Int) : List (String × AV) := [("_key", .int k), ("_value", .int v)]
noncomputable def mbF (k : Int) : List (String × AV) := [("_key", .int k)]
section
variable {cx : Cx} {tn : Bool} {H H' H'' : AH} {X : Value → AH → Prop} {t : Int} {N N' N'' : NM} {h : Nat} {κ κ' : Addr → Int} {eL eI eD : Addr → Prop} {W : Addr → Prop} {C a c cu : Addr} {im io : Bool} {S : List Addr} {m : List (Int × Addr)}
inductive DelB (κ : Addr → Int) (W : Addr → Prop) (C a c cu : Addr) (t : Int) (io : Bool) (S : List Addr) (H : AH) (N : NM) (key : Int) (xo : Option Addr) (v : AV) (H' : AH) : Prop
  | mk (N' : NM) (S' : List Addr) (d : DelR κ S key xo v S') (b : BT H' N' κ C a c cu t W false io S') (s : Ch no (at1 a) no t H N H' N') (f : FrC c N N')
inductive InsB (κ : Addr → Int) (C a c cu : Addr) (t : Int) (io : Bool) (S : List Addr) (H : AH) (N : NM) (x : Addr) (v : AV) (H' : AH) : Prop
  | mk (N' : NM) (S' : List Addr) (d : InsR κ S x v S') (b : BT H' N' κ C a c cu t (isC c) false io S') (s : Ch no (at1 a) no t H N H' N') (f : FrC c N N')
inductive RefB (κ : Addr → Int) (W : Addr → Prop) (C a c cu : Addr) (t : Int) (io : Bool) (S : List Addr) (H : AH) (N : NM) (y : Addr) (H' : AH) : Prop
  | mk (N' : NM) (n : Not1 κ S (κ y) y) (b : BT H' N' κ C a c cu t W false io S) (s : Ch no (at1 a) no t H N H' N') (f : FrC c N N')
theorem BT.kap (b : BT H N κ C a c cu t W im io S) (hk : ∀ y ∈ S, κ' y = κ y) : BT H N κ' C a c cu t W im io S :=
  ⟨b.ex, b.cl, b.em, b.no, ⟨b.g.t, fun x hx => by have := b.g.el x hx; unfold El at this ⊢; rw [hk x hx]; exact this, by rw [List.map_congr_left hk]; exact b.g.so, b.g.len, b.g.cr⟩, b.wc⟩
theorem c_freeze (B : Bod cx) (hh : 1 ≤ h) (R : Rep t H N) (b : BT H N κ C a c cu t W false io S) {Q : AV → AH → Prop} (kq : ∀ H', BT H' N κ C a c cu t W true io S → Ch no (at1 a) no t H N H' N → Q .none H') :
    CallOK cx h false (.ref 365) [.ref a] H Q X := by
  obtain ⟨rt, ha, T⟩ := b.ex
  refine call_of' B.T hh B.f365 rfl (fun q => by cases q) fun n _ => ?_
  intro K0
  unfold f_BTree_make_immutable
  walk_at "u"
  refine attrP_I ha rfl ?_
  walk_at "u"
  refine sa2 ha (trF_len) (fields_t b.cl (by decide)) ?_
  rw [trF_imm]
  have s : Ch no (at1 a) no t H N (H.setI a C (trF c cu rt t S.length true io)) N := Ch.setI R (b.nn R) (.inr rfl)
  have ha' : (H.setI a C (trF c cu rt t S.length true io)).I a = some (C, trF c cu rt t S.length true io) := upd_at
  generalize H.setI a C (trF c cu rt t S.length true io) = H1 at s ha' ⊢
  walk_at "u"
  exact kq _ ⟨⟨rt, ha', T⟩, b.cl, (s.L cu (nf_L b.em) b.no (fun q => q)).trans b.em, b.no, b.g.ch R s (fun x hx => el_not_tree b.cl ha hx), b.wc⟩ s
theorem c_delete_key (B : Bod cx) (hh : 11 ≤ h) (R : Rep t H N) (b : BT H N κ C a c cu t W im io S) {key : Int} (hXi : im = true → X (.ref 340) H) {Q : AV → AH → Prop} (kq : ∀ v H', im = false → DelB κ W C a c cu t io S H N key none v H' → Q v H') :
    CallOK cx h false (.ref 401) [.ref a, .int key] H Q X := by
  obtain ⟨rt, ha, T⟩ := b.ex
  refine call_of' B.T (by lia) B.f401 rfl (fun q => by cases q) fun n _ => ?_
  intro K0
  unfold f_BTree_delete_key
  walk_at "u"
  refine meth_fn ha (trF_no (by decide)) (mt_del b.cl) ?_
  walk_at "u"
  refine c__delete (xo := none) B (by lia) R b (fun y q => by cases q) hXi (fun y _ _ q => by cases q) fun v H1 z1 N' S' d b' s f => ?_
  subst z1
  walk_at "u"
  exact kq _ _ rfl (.mk N' S' d b' s f)
theorem c_delete_exact (B : Bod cx) (hh : 11 ≤ h) (R : Rep t H N) (b : BT H N κ C a c cu t W im io S) {y : Addr} (hy : El H κ y) (hXi : im = true → X (.ref 340) H)
    (hXv : ∀ H', im = false → RefB κ W C a c cu t io S H N y H' → X (.type "ValueError") H') {Q : AV → AH → Prop} (kq : ∀ H', im = false → DelB κ W C a c cu t io S H N (κ y) (some y) (.ref y) H' → Q (.ref y) H') :
    CallOK cx h false (.ref 408) [.ref a, .ref y] H Q X := by
  obtain ⟨rt, ha, T⟩ := b.ex
  have hyI : H.I y ≠ none := by rcases hy with ⟨v, e⟩ | e <;> simp [e]
  refine call_of' B.T (by lia) B.f408 rfl (fun q => by cases q) fun n _ => ?_
  intro K0
  unfold f_BTree_delete_exact
  walk_at "u"
  refine meth_fn ha (trF_no (by decide)) (mt_del b.cl) ?_
  walk_at "u"
  refine w_key B (by lia) hy ?_
  walk_at "u"
  refine c__delete (xo := some y) B (by lia) R b (fun z q => by cases q; exact hyI) hXi (fun z H1 N1 q n1 him b1 s1 f1 => by cases q; subst him; exact hXv H1 rfl (.mk N1 n1 b1 s1 f1)) fun v H1 z1 N' S' d b' s f => ?_
  subst z1
  obtain rfl : v = .ref y := by
    rcases d with ⟨A, x, B', _, _, e, _, q⟩ | ⟨_, _, _, q⟩
    · rw [e, q y rfl]
    · cases q
  walk_at "u"
  refine cmp_is_rr ?_
  walk_at "u"
  refine ⟨rfl, ?_⟩
  walk_at "u"
  exact kq _ rfl (.mk N' S' d b' s f)
theorem c_value (B : Bod cx) (hh : 1 ≤ h) {x : Addr} {k v : Int} (hI : H.I x = some (502, kvF k v)) {Q : AV → AH → Prop} (kq : Q (.int v) H) : CallOK cx h false (.ref 485) [.ref x] H Q X := by
  refine call_of' B.T hh B.f485 rfl (fun q => by cases q) fun n _ => ?_
  intro K0
  unfold f_KV_value
  walk_at "u"
  refine attrP_I hI rfl ?_
  walk_at "u"
  exact kq 
theorem c_kv (B : Bod cx) (hh : 2 ≤ h) {k v : Int} {Q : AV → AH → Prop} (kq : ∀ x, H.free x → Q (.ref x) (H.setI x 502 (kvF k v))) : CallOK cx h false (.ref 502) [.int k, .int v] H Q X := by
  obtain ⟨m, rfl⟩ : ∃ m, h = m + 1 := ⟨h - 1, by lia⟩
  refine CallOK.of_class (B.T.makes 502 (by decide)) (B.T.sp 502 "__init__" 471 rfl) fun x hf => ?_
  refine call_of' B.T (by lia) B.f471 rfl (fun q => by cases q) fun m _ => ?_
  intro K0
  unfold f_KV___init__
  walk_at "u"
  refine sa2 I_setI (by simp) (by decide) ?_
  walk_at "u"
  refine sa2 I_setI (by simp [putF]) (by decide) ?_
  walk_at "u"
  have := kq x hf
  rw [← setI_setI, ← setI_setI] at this
  exact ⟨rfl, this⟩
theorem c_member (B : Bod cx) (hh : 2 ≤ h) {k : Int} {Q : AV → AH → Prop} (kq : ∀ x, H.free x → Q (.ref x) (H.setI x 571 (mbF k))) : CallOK cx h false (.ref 571) [.int k] H Q X := by
  obtain ⟨m, rfl⟩ : ∃ m, h = m + 1 := ⟨h - 1, by lia⟩
  refine CallOK.of_class (B.T.makes 571 (by decide)) (B.T.sp 571 "__init__" 561 rfl) fun x hf => ?_
  refine call_of' B.T (by lia) B.f561 rfl (fun q => by cases q) fun m _ => ?_
  intro K0
  unfold f_Member___init__
  walk_at "u"
  refine sa2 I_setI (by simp) (by decide) ?_
  walk_at "u"
  have := kq x hf
  rw [← setI_setI] at this
  exact ⟨rfl, this⟩
theorem El.new {x : Addr} {k v : Int} : El (H.setI x 502 (kvF k v)) (updK κ x k) x := .inl ⟨v, by rw [updK_at]; exact upd_at⟩
theorem El.newM {x : Addr} {k : Int} : El (H.setI x 571 (mbF k)) (updK κ x k) x := .inr (by rw [updK_at]; exact upd_at)
theorem El.ne_free {x y : Addr} (e : El H κ y) (hf : H.free x) : y ≠ x := fun q => e.nf (q ▸ hf)
theorem new_BT (R : Rep t H N) (b : BT H N κ C a c cu t W im io S) {x D : Addr} {k : Int} {fs : List (String × AV)} (hf : H.free x) : BT (H.setI x D fs) N (updK κ x k) C a c cu t W im io S ∧ Ch no no no t H N (H.setI x D fs) N := by
  have s : Ch no no no t H N (H.setI x D fs) N := Ch.setI R (free_none R hf) (.inl hf)
  exact ⟨(b.same R s (fun q => q) (fun q => q) no_el).kap fun y hy => updK_off ((b.g.el y hy).ne_free hf), s⟩
theorem c_contains (B : Bod cx) (hh : 6 ≤ h) (R : Rep t H N) (b : BT H N κ C a c cu t W im io S) {key : Int} {Q : AV → AH → Prop} (kq : ∀ H' (q : Bool), (q = true ↔ key ∈ S.map κ) → TM H H' → Q (.bool q) H') :
    CallOK cx h false (.ref 597) [.ref a, .int key] H Q X := by
  obtain ⟨rt, ha, T⟩ := b.ex
  refine call_of' B.T (by lia) B.f597 rfl (fun q => by cases q) fun n _ => ?_
  intro K0
  unfold f_BTreeSet___contains__
  walk_at "u"
  refine meth_fn ha (trF_no (by decide)) (mt_get b.cl) ?_
  walk_at "u"
  refine c_get_element B (by lia) R b fun v H1 f m1 => ?_
  rcases f with ⟨A, x, B', hS, hk, rfl⟩ | ⟨hno, rfl⟩
  · walk_at "u"
    exact kq _ true ⟨fun _ => hk ▸ List.mem_map_of_mem (by rw [hS]; simp), fun _ => rfl⟩ m1
  · walk_at "u"
    refine kq _ false ⟨(fun q => by cases q), fun q => ?_⟩ m1
    obtain ⟨x, hx, e⟩ := List.mem_map.mp q
    exact absurd e (hno x hx)
theorem c_discard (B : Bod cx) (hh : 12 ≤ h) (R : Rep t H N) (b : BT H N κ 614 a c cu t W false io S) {key : Int} {Q : AV → AH → Prop} (kq : ∀ w H' v, DelB κ W 614 a c cu t io S H N key none v H' → Q w H') :
    CallOK cx h false (.ref 611) [.ref a, .int key] H Q X := by
  obtain ⟨rt, ha, T⟩ := b.ex
  refine call_of' B.T (by lia) B.f611 rfl (fun q => by cases q) fun n _ => ?_
  intro K0
  unfold f_BTreeSet_discard
  walk_at "u"
  refine meth_fn ha (trF_no (by decide)) (mt_delkey b.cl) ?_
  walk_at "u"
  refine c_delete_key B (by lia) R b (fun q => by cases q) fun v H1 _ d => ?_
  walk_at "u"
  exact kq _ _ v d
theorem c_add (B : Bod cx) (hh : 11 ≤ h) (R : Rep t H N) (b : BT H N κ 614 a c cu t (isC c) false io S) (hl : S.length ≤ 16) {key : Int} {Q : AV → AH → Prop} (kq : ∀ w H' x H1 v, H.free x → H1 = H.setI x 571 (mbF key) → InsB (updK κ x key) 614 a c cu t io S H1 N x v H' → Q w H') :
    CallOK cx h false (.ref 604) [.ref a, .int key] H Q X := by
  refine call_of' B.T (by lia) B.f604 rfl (fun q => by cases q) fun n _ => ?_
  intro K0
  unfold f_BTreeSet_add
  walk_at "u"
  refine c_member B (by lia) fun x hf => ?_
  obtain ⟨b1, s1⟩ := new_BT R b (D := 571) (fs := mbF key) (k := key) hf
  have e1 : El (H.setI x 571 (mbF key)) (updK κ x key) x := El.newM
  generalize hH1 : H.setI x 571 (mbF key) = H1 at b1 s1 e1 ⊢
  obtain ⟨rt1, ha1, T1⟩ := b1.ex
  walk_at "u"
  refine meth_fn ha1 (trF_no (by decide)) (mt_ins b.cl) ?_
  walk_at "u"
  refine attrP_I ha1 rfl ?_
  walk_at "u"
  refine c_insert_element B (by lia) s1.rep b1 hl e1 fun v H2 N' S' d b2 s2 f2 => ?_
  walk_at "u"
  exact kq _ _ x H1 v hf hH1.symm (.mk N' S' d b2 s2 f2)
end
noncomputable def mput (m : List (Int × Addr)) (k : Int) (x : Addr) : List (Int × Addr) := if m.any (fun p => p.1 = k) then m.map (fun p => if p.1 = k then (p.1, x) else p) else m ++ [(k, x)]
noncomputable def mdel (m : List (Int × Addr)) (k : Int) : List (Int × Addr) := m.filter fun p => decide (p.1 ≠ k)
theorem putK_dE {m : List (Int × Addr)} {k : Int} {x : Addr} : putK (dE m) k (.ref x) = dE (mput m k x) := by
  have e : (dE m).any (fun kv => kv.1 = k) = m.any (fun p => p.1 = k) := by rw [dE, List.any_map]; rfl
  unfold putK mput
  rw [e]
  split
  · rw [dE, dE, List.map_map, List.map_map]
    refine List.map_congr_left fun p _ => ?_
    simp only [Function.comp]
    split <;> rfl
  · rw [dE, dE, List.map_append]; rfl
theorem delK_dE {m : List (Int × Addr)} {k : Int} : delK (dE m) k = dE (mdel m k) := by
  rw [delK, dE, List.filter_map]; rfl
section
variable {κ : Addr → Int} {S S' : List Addr} {m : List (Int × Addr)} {x : Addr} {v : AV} {key : Int} {xo : Option Addr}
theorem so_ne {A B : List Addr} {o : Addr} (hs : ((A ++ o :: B).map κ).Pairwise (· < ·)) : (∀ y ∈ A, κ y ≠ κ o) ∧ (∀ y ∈ B, κ y ≠ κ o) := by
  rw [List.map_append, List.map_cons, List.pairwise_append, List.pairwise_cons] at hs
  refine ⟨fun y hy e => ?_, fun y hy e => ?_⟩
  · exact absurd e (Int.ne_of_lt (hs.2.2 _ (List.mem_map_of_mem hy) _ (List.mem_cons_self)))
  · exact absurd e.symm (Int.ne_of_lt (hs.2.1.1 _ (List.mem_map_of_mem hy)))
theorem InsR.find (f : InsR κ S x v S') : FindR κ S (κ x) v := by
  rcases f with ⟨A, o, B, h1, h2, _, h3⟩ | ⟨A, B, rfl, _, h3, h4, h5⟩
  · exact .inl A o B h1 h2 h3
  · refine .inr (fun y hy => ?_) h3
    rcases List.mem_append.mp hy with q | q
    · exact Int.ne_of_lt (h4 y q)
    · exact (Int.ne_of_lt (h5 y q)).symm
theorem DelR.find (f : DelR κ S key xo v S') : FindR κ S key v := by
  rcases f with ⟨A, o, B, h1, h2, h3, _⟩ | ⟨h1, h2, _⟩
  · exact .inl A o B h1 h2 h3
  · exact .inr h1 h2
theorem Sam.put (s : Sam κ S m) (hs : (S.map κ).Pairwise (· < ·)) (f : InsR κ S x v S') : Sam κ S' (mput m (κ x) x) := by
  rcases f with ⟨A, o, B, rfl, h2, rfl, h3⟩ | ⟨A, B, rfl, rfl, h3, h4, h5⟩
  · have hm : m.any (fun p => p.1 = κ x) = true := List.any_eq_true.mpr ⟨(κ o, o), s.mem (by simp), by simp [h2]⟩
    have e : mput m (κ x) x = m.map (fun p => if p.1 = κ x then (p.1, x) else p) := by unfold mput; rw [if_pos hm]
    rw [e]
    refine ⟨fun p hp => ?_, ?_, ?_⟩
    · obtain ⟨q, hq, rfl⟩ := List.mem_map.mp hp
      by_cases c : q.1 = κ x
      · simp only [if_pos c]; exact c.symm
      · simp only [if_neg c]; exact s.key q hq
    · rw [List.map_map]
      rw [show m.map ((·.1) ∘ fun p => if p.1 = κ x then (p.1, x) else p) = m.map (·.1) from List.map_congr_left fun p _ => by simp only [Function.comp]; split <;> rfl]
      exact s.nd
    · have hg : (A ++ o :: B).map (fun y => if κ y = κ x then x else y) = A ++ x :: B := by
        obtain ⟨hA, hB⟩ := so_ne hs
        rw [List.map_append, List.map_cons, if_pos h2]
        have eA : A.map (fun y => if κ y = κ x then x else y) = A := (List.map_congr_left (g := id) fun y hy => if_neg (by rw [← h2]; exact hA y hy)).trans (List.map_id A)
        have eB : B.map (fun y => if κ y = κ x then x else y) = B := (List.map_congr_left (g := id) fun y hy => if_neg (by rw [← h2]; exact hB y hy)).trans (List.map_id B)
        rw [eA, eB]
      rw [← hg, List.map_map]
      refine (s.pm.map _).trans (List.Perm.of_eq ?_)
      rw [List.map_map]
      refine List.map_congr_left fun p hp => ?_
      simp only [Function.comp]
      rw [s.key p hp]
      split <;> rfl
  · have hn : ∀ p ∈ m, p.1 ≠ κ x := fun p hp e => by
      have hx : p.2 ∈ A ++ B := s.pm.mem_iff.mpr (List.mem_map_of_mem (f := (·.2)) hp)
      have hk := s.key p hp
      rcases List.mem_append.mp hx with q | q
      · have := h4 _ q; lia
      · have := h5 _ q; lia
    have hm : ¬ m.any (fun p => p.1 = κ x) = true := fun h => by
      obtain ⟨p, hp, e⟩ := List.any_eq_true.mp h
      exact hn p hp (of_decide_eq_true e)
    have e : mput m (κ x) x = m ++ [(κ x, x)] := by unfold mput; rw [if_neg hm]
    rw [e]
    refine ⟨fun p hp => ?_, ?_, ?_⟩
    · rcases List.mem_append.mp hp with q | q
      · exact s.key p q
      · rw [List.mem_singleton.mp q]
    · rw [List.map_append, List.nodup_append]
      refine ⟨s.nd, by simp, fun a ha b hb => ?_⟩
      obtain ⟨p, hp, rfl⟩ := List.mem_map.mp ha
      simp only [List.map_cons, List.map_nil, List.mem_singleton] at hb
      subst hb
      exact hn p hp
    · rw [List.map_append]
      exact (List.perm_middle.trans ((s.pm.cons x).trans (List.perm_append_singleton x _).symm))
theorem Sam.del (s : Sam κ S m) (hs : (S.map κ).Pairwise (· < ·)) (f : DelR κ S key xo v S') : Sam κ S' (mdel m key) := by
  have hS : S' = S.filter fun y => decide (κ y ≠ key) := by
    rcases f with ⟨A, o, B, rfl, rfl, _, rfl, _⟩ | ⟨h1, _, rfl, _⟩
    · obtain ⟨hA, hB⟩ := so_ne hs
      rw [List.filter_append, List.filter_cons, if_neg (by simp), List.filter_eq_self.mpr fun y hy => decide_eq_true (hA y hy), List.filter_eq_self.mpr fun y hy => decide_eq_true (hB y hy)]
    · exact (List.filter_eq_self.mpr fun y hy => decide_eq_true (h1 y hy)).symm
  refine ⟨fun p hp => s.key p (List.mem_filter.mp hp).1, s.nd.sublist (List.filter_sublist.map _), ?_⟩
  rw [hS]
  refine (s.pm.filter _).trans (List.Perm.of_eq ?_)
  rw [List.filter_map, mdel]
  congr 1
  refine List.filter_congr fun p hp => ?_
  simp only [Function.comp]
  rw [s.key p hp]
noncomputable def KeyF (k : Int) : Prop := ∃ i : Nat, i < 16 ∧ k = 3 * i - 20
theorem nodup_le : ∀ {a b : List Int}, a.Nodup → (∀ x ∈ a, x ∈ b) → a.length ≤ b.length
  | [], _, _, _ => Nat.zero_le _
  | x :: a, b, nd, h => by
    have hx := h x (List.mem_cons_self)
    rw [List.nodup_cons] at nd
    have := nodup_le (b := b.erase x) nd.2 fun y hy => (List.mem_erase_of_ne (fun e : y = x => nd.1 (e ▸ hy))).mpr (h y (List.mem_cons_of_mem _ hy))
    rw [List.length_erase_of_mem hx] at this
    have := List.length_pos_of_mem hx
    simp only [List.length_cons]; lia
theorem nodup16 {ks : List Int} {g : Nat → Int} (nd : ks.Nodup) (hk : ∀ k ∈ ks, ∃ i : Nat, i < 16 ∧ k = g i) : ks.length ≤ 16 := by
  have := nodup_le (b := (List.range 16).map g) nd fun k h => by
    obtain ⟨i, hi, rfl⟩ := hk k h
    exact List.mem_map_of_mem (List.mem_range.mpr hi)
  simpa using this
theorem Sam.le16 (s : Sam κ S m) (hk : ∀ p ∈ m, KeyF p.1) : S.length ≤ 16 := by
  rw [s.len, ← List.length_map (f := (·.1))]
  refine nodup16 (g := fun i => 3 * i - 20) s.nd fun k h => ?_
  obtain ⟨p, hp, rfl⟩ := List.mem_map.mp h
  exact hk p hp
end
inductive Scr (cx : Cx) (sc : Addr) (n : Nat) : Prop
  | mk (ws ps : List Value) (h1 : cx.ro sc = some ws) (h2 : ws.length = n) (h3 : n ≤ 63) (h4 : cx.base.IsList sc ws.toArray) (h5 : ∀ w ∈ ws, ∃ n t, w = .int n t)
    (p1 : cx.ro 617 = some ps) (p2 : ps.length = 30) (p3 : ∀ w ∈ ps, ∃ n t, w = .int n t ∧ 0 ≤ n ∧ n < 16000)
noncomputable def KVel (H : AH) (κ : Addr → Int) (x : Addr) : Prop := ∃ v, H.I x = some (502, kvF (κ x) v)
theorem mod_L {a b : Int} {Q : AV → Prop} (hb : 0 < b) (k : Q (.int (a % b))) : BinP Q .mod (.int a) (.int b) := .mod hb k
section
variable {cx : Cx} {tn : Bool} {H H' H'' : AH} {X : Value → AH → Prop} {t : Int} {N N' N'' : NM} {h : Nat} {κ κ' : Addr → Int} {eL eI eD : Addr → Prop} {W : Addr → Prop} {C a c cu : Addr} {im io : Bool} {S : List Addr} {m : List (Int × Addr)}
theorem c_draw (B : Bod cx) (hh : 1 ≤ h) {sc : Addr} {n : Nat} (s : Scr cx sc n) {p : Int} (h0 : 0 ≤ p) (hp : p < 1000) {Q : AV → AH → Prop} (kq : ∀ (d : Int), 0 ≤ d → d < 16000 → Q (.int d) H) : CallOK cx h false (.ref 624) [.ref sc, .int p] H Q X := by
  obtain ⟨ws, ps, h1, h2, h3, h4, h5, p1, p2, p3⟩ := s
  refine call_of' B.T hh B.f624 rfl (fun q => by cases q) fun m _ => ?_
  intro K0
  unfold f__law_draw
  walk_at "u"
  refine .lenR _ ws rfl rfl h1 (by lia) h4 ?_
  walk_at "u"
  rw [h2]
  by_cases q : p < n
  · rw [decide_eq_true q]
    walk_at "u"
    have hlt : p.toNat < ws.length := by lia
    obtain ⟨x, tk, e⟩ := h5 _ (List.getElem_mem hlt)
    refine .r _ _ ws x tk rfl rfl h1 h0 hp (by rw [List.getElem?_eq_getElem hlt, e]) ?_
    walk_at "u"
    refine mod_L (by lia) ?_
    walk_at "u"
    exact kq _ (Int.emod_nonneg _ (by lia)) (Int.emod_lt_of_pos _ (by lia))
  · rw [decide_eq_false q]
    walk_at "u"
    refine mod_L (by lia) ?_
    have a1 := Int.emod_nonneg p (b := 30) (by lia)
    have a2 := Int.emod_lt_of_pos p (b := 30) (by lia)
    have hlt : (p % 30).toNat < ps.length := by lia
    obtain ⟨x, tk, e, l1, l2⟩ := p3 _ (List.getElem_mem hlt)
    refine .r _ _ ps x tk rfl rfl p1 a1 (by lia) (by rw [List.getElem?_eq_getElem hlt, e]) ?_
    walk_at "u"
    exact kq _ l1 l2
theorem c_refuses (B : Bod cx) (hh : 12 ≤ h) (R : Rep t H N) (b : BT H N κ 545 a c cu t W false io S) {y : Addr} (hy : El H κ y) (hn : Not1 κ S (κ y) y) {Q : AV → AH → Prop} (kq : ∀ H', RefB κ W 545 a c cu t io S H N y H' → Q (.bool true) H') :
    CallOK cx h true (.ref 652) [.ref a, .ref y] H Q noX := by
  obtain ⟨rt, ha, T⟩ := b.ex
  refine call_of' B.T (by lia) B.f652 rfl (fun _ _ _ q => q) fun m _ => ?_
  intro K0
  unfold f__law_refuses
  walk_at "u"
  refine ⟨rfl, ?_⟩
  walk_at "u"
  refine meth_fn ha (trF_no (by decide)) rfl ?_
  walk_at "u"
  refine c_delete_exact B (by lia) R b hy (fun q => by cases q) (fun H1 _ r => ⟨rfl, ?_⟩) fun H1 _ z => ?_
  · obtain ⟨N', S', d, _⟩ := z
    rcases d with ⟨A, x, B', hS, hk, hv, _, _⟩ | ⟨_, e, _⟩
    · cases hv
      exact absurd rfl (hn y (by rw [hS]; simp) rfl)
    · cases e
  · walk_at "u"
    exact kq _ r
theorem KVel.ch (R : Rep t H N) (e : KVel H κ a) (s : Ch eL eI eD t H N H' N') (h : ¬ eI a) : KVel H' κ a := by
  have nn := El.nn R (.inl e : El H κ a)
  obtain ⟨v, e⟩ := e
  exact ⟨v, (s.I a (nf_I e) nn h).trans e⟩
structure TW (t : Int) (H : AH) (N : NM) (κ : Addr → Int) (tr c cu : Addr) (io : Bool) (held gone : Addr) (S : List Addr) (m : List (Int × Addr)) (G : List (Addr × Addr)) : Prop where
  rep : Rep t H N
  bt : BT H N κ 545 tr c cu t (isC c) false io S
  sam : Sam κ S m
  hd : H.D held = some (dE m)
  kv : ∀ p ∈ m, KVel H κ p.2
  ks : ∀ p ∈ m, KeyF p.1
  gn : H.L gone = some (refs (G.map (·.1)))
  gt : ∀ g ∈ G, H.T g.1 = some [.int (κ g.2), .ref g.2] ∧ KVel H κ g.2 ∧ KeyF (κ g.2)
  gd : (G.map (·.2)).Nodup
  gs : ∀ g ∈ G, g.2 ∉ S
  no : ¬ Own N gone
  ne : cu ≠ gone
variable {tr held gone : Addr} {G : List (Addr × Addr)}
inductive DeedR (t : Int) (H : AH) (N : NM) (κ : Addr → Int) (tr c cu : Addr) (io : Bool) (held gone : Addr) (G : List (Addr × Addr)) (H' : AH) : Prop
  | mk (κ' : Addr → Int) (N' : NM) (S' : List Addr) (m' : List (Int × Addr)) (G' : List (Addr × Addr)) (w : TW t H' N' κ' tr c cu io held gone S' m' G')
    (s : Ch (at1 gone) (at1 tr) (at1 held) t H N H' N') (f : FrC c N N') (k : ∀ x, ¬ H.free x → κ' x = κ x) (gl : G'.length ≤ G.length + 1)
theorem TW.go (w : TW t H N κ tr c cu io held gone S m G) {S' m' G'} (s : Ch (at1 gone) (at1 tr) (at1 held) t H N H' N') (b : BT H' N' κ 545 tr c cu t (isC c) false io S') (sm : Sam κ S' m') (hd : H'.D held = some (dE m'))
    (mm : ∀ p ∈ m', p ∈ m ∨ (KVel H' κ p.2 ∧ KeyF p.1)) (gn : H'.L gone = some (refs (G'.map (·.1))))
    (gt : ∀ g ∈ G', g ∈ G ∨ (H'.T g.1 = some [.int (κ g.2), .ref g.2] ∧ KVel H' κ g.2 ∧ KeyF (κ g.2))) (gd : (G'.map (·.2)).Nodup) (gs : ∀ g ∈ G', g.2 ∉ S') : TW t H' N' κ tr c cu io held gone S' m' G' := by
  obtain ⟨rt, ha, T⟩ := w.bt.ex
  have kk : ∀ x, KVel H κ x → KVel H' κ x := fun x e => e.ch w.rep s (el_not_tree w.bt.cl ha (.inl e))
  refine ⟨s.rep, b, sm, hd, fun p hp => ?_, fun p hp => ?_, gn, fun g hg => ?_, gd, gs, fun q => ?_, w.ne⟩
  · exact (mm p hp).elim (fun q => kk _ (w.kv p q)) fun q => q.1
  · exact (mm p hp).elim (fun q => w.ks p q) fun q => q.2
  · rcases gt g hg with q | q
    · obtain ⟨h1, h2, h3⟩ := w.gt g q
      exact ⟨(s.T _ (nf_T h1)).trans h1, kk _ h2, h3⟩
    · exact q
  · exact (s.own _ q).elim w.no (nf_L w.gn)
theorem new_TW (w : TW t H N κ tr c cu io held gone S m G) {x : Addr} {k v : Int} (hf : H.free x) : TW t (H.setI x 502 (kvF k v)) N (updK κ x k) tr c cu io held gone S m G ∧ KVel (H.setI x 502 (kvF k v)) (updK κ x k) x ∧ x ∉ S ∧ (∀ g ∈ G, g.2 ≠ x) ∧ (∀ p ∈ m, p.2 ≠ x) ∧ Ch no no no t H N (H.setI x 502 (kvF k v)) N := by
  obtain ⟨b1, s1⟩ := new_BT w.rep w.bt (x := x) (D := 502) (k := k) (fs := kvF k v) hf
  have kk : ∀ y, KVel H κ y → y ≠ x ∧ KVel (H.setI x 502 (kvF k v)) (updK κ x k) y := fun y e => by
    have hne : y ≠ x := (show El H κ y from .inl e).ne_free hf
    refine ⟨hne, ?_⟩
    obtain ⟨u, e⟩ := e
    exact ⟨u, by rw [updK_off hne]; exact (upd_off hne).trans e⟩
  refine ⟨⟨s1.rep, b1, ⟨fun p hp => ?_, w.sam.nd, w.sam.pm⟩, w.hd, fun p hp => (kk _ (w.kv p hp)).2, w.ks, w.gn, fun g hg => ?_, w.gd, w.gs, w.no, w.ne⟩, ⟨v, by rw [updK_at]; exact upd_at⟩, fun q => (w.bt.g.el x q).nf hf, fun g hg => (kk _ (w.gt g hg).2.1).1, fun p hp => (kk _ (w.kv p hp)).1, s1⟩
  · rw [updK_off (kk _ (w.kv p hp)).1]; exact w.sam.key p hp
  · obtain ⟨h1, h2, h3⟩ := w.gt g hg
    obtain ⟨h4, h5⟩ := kk _ h2
    rw [updK_off h4]
    exact ⟨h1, h5, h3⟩
end
section
variable {cx : Cx} {tn : Bool} {H H' H'' : AH} {X : Value → AH → Prop} {t : Int} {N N' N'' : NM} {h : Nat} {κ κ' : Addr → Int} {eL eI eD : Addr → Prop} {W : Addr → Prop} {C a c cu : Addr} {im io : Bool} {S : List Addr} {m : List (Int × Addr)} {tr held gone : Addr} {G : List (Addr × Addr)}
theorem mput_mem {k : Int} {x : Addr} : ∀ p ∈ mput m k x, p ∈ m ∨ p = (k, x) := by
  intro p hp
  unfold mput at hp
  split at hp
  · obtain ⟨q, hq, rfl⟩ := List.mem_map.mp hp
    by_cases c : q.1 = k
    · rw [if_pos c, c]; exact .inr rfl
    · rw [if_neg c]; exact .inl hq
  · exact (List.mem_append.mp hp).elim .inl fun q => .inr (List.mem_singleton.mp q)
theorem TW.m16 (w : TW t H N κ tr c cu io held gone S m G) : m.length ≤ 16 := by rw [← w.sam.len]; exact w.sam.le16 w.ks
theorem dE_len : (dE m).length = m.length := by simp [dE]
theorem c_put (B : Bod cx) (hh : 12 ≤ h) (w : TW t H N κ tr c cu io held gone S m G) {x : Addr} {io' : Bool} (hx : KVel H κ x) (hk : KeyF (κ x)) (hS : x ∉ S) (hG : ∀ g ∈ G, g.2 ≠ x) (hg : G.length < 900) {Q : AV → AH → Prop} (kq : ∀ H', DeedR t H N κ tr c cu io held gone G H' → Q (.bool true) H') :
    CallOK cx h true (.ref 659) [.ref tr, .ref held, .ref gone, .int (κ x), .ref x, .bool io'] H Q noX := by
  obtain ⟨rt, ha, T⟩ := w.bt.ex
  refine call_of' B.T (by lia) B.f659 rfl (fun _ _ _ q => q) fun n _ => ?_
  intro K0
  unfold f__law_put
  walk_at "u"
  refine meth_D w.hd (by simp) ?_
  walk_at "u"
  refine dm_get w.hd ?_
  obtain ⟨v0, hv0⟩ : ∃ v0, v0 = (atK (dE m) (κ x)).getD .none := ⟨_, rfl⟩
  rw [← hv0]
  walk_at "u"
  refine meth_fn ha (trF_no (by decide)) (mt_ins w.bt.cl) ?_
  walk_at "u"
  refine CallOK.turn (c_insert_element B (by lia) w.rep w.bt (w.sam.le16 w.ks) (.inl hx) fun v H1 N' S' d b1 s1 f1 => ?_) true
  have sam' := w.sam.put w.bt.g.so d
  obtain rfl : v = v0 := (w.sam.find d.find).trans hv0.symm
  have s1' : Ch (at1 gone) (at1 tr) (at1 held) t H N H1 N' := s1.weak (fun _ q => q.elim) (fun _ q => q) (fun _ q => q.elim)
  have hd1 : H1.D held = some (dE m) := (s1.D held (nf_D w.hd) (fun q => q)).trans w.hd
  have gn1 : H1.L gone = some (refs (G.map (·.1))) := (s1.L gone (nf_L w.gn) w.no (fun q => q)).trans w.gn
  have hno1 : ¬ Own N' gone := fun q => (s1.own _ q).elim w.no (nf_L w.gn)
  have hm16 := w.m16
  have hx1 : KVel H1 κ x := hx.ch w.rep s1 (el_not_tree w.bt.cl ha (.inl hx))
  walk_at "u"
  refine cmp_isNot_same d.find.val ?_
  walk_at "u"
  rcases d with ⟨A, old, B', e1, e2, rfl, rfl⟩ | ⟨A, B', e1, rfl, rfl, e3, e4⟩
  · have ho : κ old = κ x := e2
    have hoS : old ∈ S := by rw [e1]; simp
    have hom := w.sam.mem hoS
    walk_at "u"
    refine meth_L gn1 (by simp) ?_
    walk_at "u"
    refine tup_ (by simp) fun tp htp => ?_
    have s2 := s1'.trans (Ch.setT (xs := [.int (κ x), .ref old]) s1'.rep htp)
    have hT2 : (H1.setT tp [.int (κ x), .ref old]).T tp = some [.int (κ x), .ref old] := upd_at
    have b2 := b1.same s1.rep (Ch.setT (eL := no) (eI := no) (eD := no) (xs := [.int (κ x), .ref old]) s1.rep htp) (fun q => q) (fun q => q) no_el
    have hx2 : KVel (H1.setT tp [.int (κ x), .ref old]) κ x := hx1
    have hd2 : (H1.setT tp [.int (κ x), .ref old]).D held = some (dE m) := hd1
    have gn2 : (H1.setT tp [.int (κ x), .ref old]).L gone = some (refs (G.map (·.1))) := gn1
    generalize H1.setT tp [.int (κ x), .ref old] = H2 at s2 hT2 b2 hx2 hd2 gn2 ⊢
    walk_at "u"
    refine w_append gn2 (by rw [refs_length, List.length_map]; lia) ?_
    have hcg := w.ne
    have s3 := s2.trans (Ch.setL (a := gone) (xs := refs (G.map (·.1)) ++ [.ref tp]) s2.rep (.inr ⟨rfl, hno1⟩))
    have gn3 : (H2.setL gone (refs (G.map (·.1)) ++ [.ref tp])).L gone = some (refs ((G ++ [(tp, old)]).map (·.1))) := by
      rw [List.map_append, refs_append]; exact upd_at
    have b3 := b2.same s2.rep (Ch.setL (eL := at1 gone) (eI := no) (eD := no) (xs := refs (G.map (·.1)) ++ [.ref tp]) s2.rep (.inr ⟨rfl, hno1⟩)) (fun q => q) hcg no_el
    have hT3 : (H2.setL gone (refs (G.map (·.1)) ++ [.ref tp])).T tp = some [.int (κ x), .ref old] := hT2
    have hx3 : KVel (H2.setL gone (refs (G.map (·.1)) ++ [.ref tp])) κ x := hx2
    have hd3 : (H2.setL gone (refs (G.map (·.1)) ++ [.ref tp])).D held = some (dE m) := hd2
    generalize H2.setL gone (refs (G.map (·.1)) ++ [.ref tp]) = H3 at s3 gn3 b3 hT3 hx3 hd3 ⊢
    walk_at "u"
    refine si_D hd3 (by rw [dE_len]; lia) ?_
    rw [putK_dE]
    have s4 := s3.trans (Ch.setD (a := held) (xs := dE (mput m (κ x) x)) s3.rep (.inr rfl))
    have b4 := b3.same s3.rep (Ch.setD (eL := no) (eI := no) (eD := at1 held) (a := held) (xs := dE (mput m (κ x) x)) s3.rep (.inr rfl)) (fun q => q) (fun q => q) no_el
    have hd4 : (H3.setD held (dE (mput m (κ x) x))).D held = some (dE (mput m (κ x) x)) := upd_at
    have gn4 : (H3.setD held (dE (mput m (κ x) x))).L gone = some (refs ((G ++ [(tp, old)]).map (·.1))) := gn3
    have hT4 : (H3.setD held (dE (mput m (κ x) x))).T tp = some [.int (κ x), .ref old] := hT3
    have hx4 : KVel (H3.setD held (dE (mput m (κ x) x))) κ x := hx3
    generalize H3.setD held (dE (mput m (κ x) x)) = H4 at s4 b4 hd4 gn4 hT4 hx4 ⊢
    walk_at "u"
    have hko : KVel H4 κ old := (w.kv _ hom).ch w.rep s4 (el_not_tree w.bt.cl ha (.inl (w.kv _ hom)))
    obtain ⟨hA, hB⟩ := so_ne (e1 ▸ w.bt.g.so)
    refine kq _ (.mk κ _ _ _ _ (w.go s4 b4 sam' hd4 (fun p hp => ?_) gn4 (fun g hg' => ?_) ?_ ?_) s4 f1 (fun _ _ => rfl) (by simp))
    · rcases mput_mem p hp with q | rfl
      · exact .inl q
      · exact .inr ⟨hx4, hk⟩
    · rcases List.mem_append.mp hg' with q | q
      · exact .inl q
      · rw [List.mem_singleton.mp q]
        exact .inr ⟨by rw [ho]; exact hT4, hko, ho ▸ hk⟩
    · rw [List.map_append, List.nodup_append]
      refine ⟨w.gd, by simp, fun y hy z hz => ?_⟩
      obtain ⟨g, hg', rfl⟩ := List.mem_map.mp hy
      simp only [List.map_cons, List.map_nil, List.mem_singleton] at hz
      subst hz
      exact fun q => w.gs g hg' (q ▸ hoS)
    · intro g hg' q
      rcases List.mem_append.mp hg' with p | p
      · rcases List.mem_append.mp q with z | z
        · exact w.gs g p (by rw [e1]; exact List.mem_append_left _ z)
        · rcases List.mem_cons.mp z with z | z
          · exact hG g p z
          · exact w.gs g p (by rw [e1]; exact List.mem_append_right _ (List.mem_cons_of_mem _ z))
      · rw [List.mem_singleton.mp p] at q
        rcases List.mem_append.mp q with z | z
        · exact hA _ z rfl
        · rcases List.mem_cons.mp z with z | z
          · exact hS (z ▸ hoS)
          · exact hB _ z rfl
  · walk_at "u"
    refine si_D hd1 (by rw [dE_len]; lia) ?_
    rw [putK_dE]
    have s4 := s1'.trans (Ch.setD (a := held) (xs := dE (mput m (κ x) x)) s1'.rep (.inr rfl))
    have b4 := b1.same s1.rep (Ch.setD (eL := no) (eI := no) (eD := at1 held) (a := held) (xs := dE (mput m (κ x) x)) s1.rep (.inr rfl)) (fun q => q) (fun q => q) no_el
    have hd4 : (H1.setD held (dE (mput m (κ x) x))).D held = some (dE (mput m (κ x) x)) := upd_at
    have gn4 : (H1.setD held (dE (mput m (κ x) x))).L gone = some (refs (G.map (·.1))) := gn1
    have hx4 : KVel (H1.setD held (dE (mput m (κ x) x))) κ x := hx1
    generalize H1.setD held (dE (mput m (κ x) x)) = H4 at s4 b4 hd4 gn4 hx4 ⊢
    walk_at "u"
    refine kq _ (.mk κ _ _ _ _ (w.go s4 b4 sam' hd4 (fun p hp => ?_) gn4 (fun g hg' => .inl hg') w.gd ?_) s4 f1 (fun _ _ => rfl) (by lia))
    · rcases mput_mem p hp with q | rfl
      · exact .inl q
      · exact .inr ⟨hx4, hk⟩
    · intro g p q
      rcases List.mem_append.mp q with z | z
      · exact w.gs g p (by rw [e1]; exact List.mem_append_left _ z)
      · rcases List.mem_cons.mp z with z | z
        · exact hG g p z
        · exact w.gs g p (by rw [e1]; exact List.mem_append_right _ z)
end
noncomputable def PS.hd (p : PS) : PS := by
  cases p with
  | cons a _ => exact a
  | _ => exact .nil
theorem hd_cons (a b : PS) : (PS.cons a b).hd = a := rfl
section
variable {cx : Cx} {tn : Bool} {H H' H'' : AH} {X : Value → AH → Prop} {t : Int} {N N' N'' : NM} {h : Nat} {κ κ' : Addr → Int} {eL eI eD : Addr → Prop} {W : Addr → Prop} {C a c cu : Addr} {im io : Bool} {S : List Addr} {m : List (Int × Addr)} {tr held gone : Addr} {G : List (Addr × Addr)}
theorem w_keyT (B : Bod cx) (hh : 1 ≤ h) {x : Addr} {P : AV → AH → Prop} {σ : Loc} (e : KVel H κ x) (k : P (.int (κ x)) H) : kMeth1 cx h true X "key" .nil P σ (.ref x) H := by
  obtain ⟨v, e⟩ := e
  exact meth_fn e rfl rfl ((c_key (κ := κ) B hh 478 (.inl ⟨rfl, v, e⟩) k).turn true)
theorem c_new_ (B : Bod cx) (hh : 13 ≤ h) (w : TW t H N κ tr c cu io held gone S m G) {k v : Int} {io' : Bool} (hk : KeyF k) (hg : G.length < 900) {Q : AV → AH → Prop} (kq : ∀ H', DeedR t H N κ tr c cu io held gone G H' → Q (.bool true) H') :
    CallOK cx h true (.ref 666) [.ref tr, .ref held, .ref gone, .int k, .int v, .bool io'] H Q noX := by
  refine call_of' B.T (by lia) B.f666 rfl (fun _ _ _ q => q) fun n _ => ?_
  intro K0
  unfold f__law_new
  walk_at "u"
  refine CallOK.turn (c_kv B (by lia) fun x hf => ?_) true
  obtain ⟨w1, k1, n1, n2, n3, s1⟩ := new_TW w (k := k) (v := v) hf
  have hI : (H.setI x 502 (kvF k v)).I x = some (502, kvF k v) := upd_at
  generalize H.setI x 502 (kvF k v) = H1 at w1 k1 s1 hI ⊢
  walk_at "u"
  refine w_keyT B (by lia) k1 ?_
  rw [updK_at]
  walk_at "u"
  rw [decide_eq_false (fun q => q rfl)]
  walk_at "u"
  refine meth_fn hI rfl rfl ?_
  walk_at "u"
  refine CallOK.turn (c_value B (by lia) hI ?_) true
  walk_at "u"
  rw [decide_eq_false (fun q => q rfl)]
  walk_at "u"
  have hc := fun {Q} kq => c_put (h := n) (io' := io') (Q := Q) B (by lia) w1 k1 (by rw [updK_at]; exact hk) n1 n2 hg kq
  rw [updK_at] at hc
  refine hc fun H2 z => ?_
  obtain ⟨κ', N', S', m', G', w2, s2, f2, q2, l2⟩ := z
  walk_at "u"
  refine kq _ (.mk κ' N' S' m' G' w2 ((s1.weak (fun _ q => q.elim) (fun _ q => q.elim) (fun _ q => q.elim)).trans s2) f2 (fun y hy => ?_) l2)
  rw [q2 y (s1.nf y hy), updK_off (fun q : y = x => hy (q ▸ hf))]
theorem delR_none_eq {v : AV} {S' : List Addr} {key : Int} {y : Addr} (d : DelR κ S key (some y) v S') : DelR κ S key none v S' := by
  rcases d with ⟨A, x, B, h1, h2, h3, h4, _⟩ | ⟨_, _, _, h⟩
  · exact .inl A x B h1 h2 h3 h4 (fun _ q => by cases q)
  · cases h
theorem c_take (B : Bod cx) (hh : 13 ≤ h) (w : TW t H N κ tr c cu io held gone S m G) {k : Int} {ex : Bool} (hk : KeyF k) (hg : G.length < 900) (he : ex = true → k ∈ S.map κ) {Q : AV → AH → Prop} (kq : ∀ H', DeedR t H N κ tr c cu io held gone G H' → Q (.bool true) H') :
    CallOK cx h true (.ref 673) [.ref tr, .ref held, .ref gone, .int k, .bool ex] H Q noX := by
  obtain ⟨rt, ha, T⟩ := w.bt.ex
  refine call_of' B.T (by lia) B.f673 rfl (fun _ _ _ q => q) fun n _ => ?_
  intro K0
  have main : ∀ (v0 : AV) (H1 : AH), v0 = (atK (dE m) k).getD .none → DelB κ (isC c) 545 tr c cu t io S H N k none v0 H1 → wpS cx n true f__law_take.tl.tl noX ((bindσ ["tree", "held", "gone", "key", "exactly"] [.ref tr, .ref held, .ref gone, .int k, .bool ex]).set "old" v0) H1 K0 := by
    rintro v0 H1 hv0 ⟨N', S', d, b1, s1, f1⟩
    have sam' := w.sam.del w.bt.g.so d
    have s1' : Ch (at1 gone) (at1 tr) (at1 held) t H N H1 N' := s1.weak (fun _ q => q.elim) (fun _ q => q) (fun _ q => q.elim)
    have hd1 : H1.D held = some (dE m) := (s1.D held (nf_D w.hd) (fun q => q)).trans w.hd
    have gn1 : H1.L gone = some (refs (G.map (·.1))) := (s1.L gone (nf_L w.gn) w.no (fun q => q)).trans w.gn
    have hno1 : ¬ Own N' gone := fun q => (s1.own _ q).elim w.no (nf_L w.gn)
    unfold f__law_take
    simp only [tl_cons]
    rcases d with ⟨A, old, B', e1, e2, rfl, rfl, _⟩ | ⟨e1, rfl, rfl, _⟩
    · have ho : κ old = k := e2
      have hoS : old ∈ S := by rw [e1]; simp
      have hom := w.sam.mem hoS
      have hat : atK (dE m) k = some (.ref old) := by rw [← ho]; exact (atK_dE (κ old) w.sam.nd).1 old hom
      walk_at "u"
      refine meth_L gn1 (by simp) ?_
      walk_at "u"
      refine meth_D hd1 (by simp) ?_
      walk_at "u"
      refine dm_pop hd1 hat ?_
      rw [delK_dE]
      have s2 := s1'.trans (Ch.setD (a := held) (xs := dE (mdel m k)) s1'.rep (.inr rfl))
      have b2 := b1.same s1.rep (Ch.setD (eL := no) (eI := no) (eD := at1 held) (a := held) (xs := dE (mdel m k)) s1.rep (.inr rfl)) (fun q => q) (fun q => q) no_el
      have hd2 : (H1.setD held (dE (mdel m k))).D held = some (dE (mdel m k)) := upd_at
      have gn2 : (H1.setD held (dE (mdel m k))).L gone = some (refs (G.map (·.1))) := gn1
      generalize H1.setD held (dE (mdel m k)) = H2 at s2 b2 hd2 gn2 ⊢
      walk_at "u"
      refine tup_ (by simp) fun tp htp => ?_
      have s3 := s2.trans (Ch.setT (xs := [.int k, .ref old]) s2.rep htp)
      have hT3 : (H2.setT tp [.int k, .ref old]).T tp = some [.int k, .ref old] := upd_at
      have b3 := b2.same s2.rep (Ch.setT (eL := no) (eI := no) (eD := no) (xs := [.int k, .ref old]) s2.rep htp) (fun q => q) (fun q => q) no_el
      have hd3 : (H2.setT tp [.int k, .ref old]).D held = some (dE (mdel m k)) := hd2
      have gn3 : (H2.setT tp [.int k, .ref old]).L gone = some (refs (G.map (·.1))) := gn2
      generalize H2.setT tp [.int k, .ref old] = H3 at s3 hT3 b3 hd3 gn3 ⊢
      walk_at "u"
      refine w_append gn3 (by rw [refs_length, List.length_map]; lia) ?_
      have s4 := s3.trans (Ch.setL (a := gone) (xs := refs (G.map (·.1)) ++ [.ref tp]) s3.rep (.inr ⟨rfl, hno1⟩))
      have gn4 : (H3.setL gone (refs (G.map (·.1)) ++ [.ref tp])).L gone = some (refs ((G ++ [(tp, old)]).map (·.1))) := by
        rw [List.map_append, refs_append]; exact upd_at
      have b4 := b3.same s3.rep (Ch.setL (eL := at1 gone) (eI := no) (eD := no) (xs := refs (G.map (·.1)) ++ [.ref tp]) s3.rep (.inr ⟨rfl, hno1⟩)) (fun q => q) w.ne no_el
      have hT4 : (H3.setL gone (refs (G.map (·.1)) ++ [.ref tp])).T tp = some [.int k, .ref old] := hT3
      have hd4 : (H3.setL gone (refs (G.map (·.1)) ++ [.ref tp])).D held = some (dE (mdel m k)) := hd3
      generalize H3.setL gone (refs (G.map (·.1)) ++ [.ref tp]) = H4 at s4 gn4 b4 hT4 hd4 ⊢
      walk_at "u"
      have hko : KVel H4 κ old := (w.kv _ hom).ch w.rep s4 (el_not_tree w.bt.cl ha (.inl (w.kv _ hom)))
      obtain ⟨hA, hB⟩ := so_ne (e1 ▸ w.bt.g.so)
      refine kq _ (.mk κ _ _ _ _ (w.go s4 b4 sam' hd4 (fun p hp => .inl (List.mem_filter.mp hp).1) gn4 (fun g hg' => ?_) ?_ ?_) s4 f1 (fun _ _ => rfl) (by simp))
      · rcases List.mem_append.mp hg' with q | q
        · exact .inl q
        · rw [List.mem_singleton.mp q]
          exact .inr ⟨by rw [ho]; exact hT4, hko, ho ▸ hk⟩
      · rw [List.map_append, List.nodup_append]
        refine ⟨w.gd, by simp, fun y hy z hz => ?_⟩
        obtain ⟨g, hg', rfl⟩ := List.mem_map.mp hy
        simp only [List.map_cons, List.map_nil, List.mem_singleton] at hz
        subst hz
        exact fun q => w.gs g hg' (q ▸ hoS)
      · intro g hg' q
        rcases List.mem_append.mp hg' with p | p
        · rcases List.mem_append.mp q with z | z
          · exact w.gs g p (by rw [e1]; exact List.mem_append_left _ z)
          · exact w.gs g p (by rw [e1]; exact List.mem_append_right _ (List.mem_cons_of_mem _ z))
        · rw [List.mem_singleton.mp p] at q
          rcases List.mem_append.mp q with z | z
          · exact hA _ z rfl
          · exact hB _ z rfl
    · walk_at "u"
      have em : mdel m k = m := List.filter_eq_self.mpr fun p hp => decide_eq_true fun q => e1 p.2 (w.sam.pm.mem_iff.mpr (List.mem_map_of_mem (f := (·.2)) hp)) ((w.sam.key p hp).trans q)
      exact kq _ (.mk κ _ _ _ _ (w.go s1' b1 (em ▸ sam') hd1 (fun p hp => .inl hp) gn1 (fun g hg' => .inl hg') w.gd w.gs) s1' f1 (fun _ _ => rfl) (by lia))
  obtain ⟨v0, hv0⟩ : ∃ v0, v0 = (atK (dE m) k).getD .none := ⟨_, rfl⟩
  have hm := main v0
  rw [show f__law_take = .cons f__law_take.hd (.cons f__law_take.tl.hd f__law_take.tl.tl) from rfl]
  generalize f__law_take.tl.tl = bd at hm ⊢
  unfold f__law_take
  simp only [tl_cons, hd_cons]
  walk_at "u"
  refine meth_D w.hd (by simp) ?_
  walk_at "u"
  refine dm_get w.hd ?_
  rw [← hv0]
  walk_at "u"
  cases ex with
  | true =>
    obtain ⟨x, hx, hkx⟩ := List.mem_map.mp (he rfl)
    have hom := w.sam.mem hx
    have hat : v0 = .ref x := by rw [hv0, ← hkx, (atK_dE (κ x) w.sam.nd).1 x hom]; rfl
    subst hat
    walk_at "u"
    refine meth_fn ha (trF_no (by decide)) rfl ?_
    walk_at "u"
    refine CallOK.turn (c_delete_exact B (by lia) w.rep w.bt (.inl (w.kv _ hom)) (fun q => by cases q) (fun H1 _ r => ?_) fun H1 _ z => ?_) true
    · obtain ⟨_, n1, _⟩ := r
      exact absurd rfl (n1 x hx rfl)
    · obtain ⟨N', S', d, b1, s1, f1⟩ := z
      walk_at "u"
      refine cmp_isNot_rr ?_
      walk_at "u"
      exact hm H1 hv0 (.mk N' S' (hkx ▸ delR_none_eq d) b1 s1 f1)
  | false =>
    walk_at "u"
    refine meth_fn ha (trF_no (by decide)) rfl ?_
    walk_at "u"
    refine CallOK.turn (c_delete_key B (by lia) w.rep w.bt (fun q => by cases q) fun v H1 _ dd => ?_) true
    obtain ⟨N', S', d, b1, s1, f1⟩ := dd
    obtain rfl : v = v0 := (w.sam.find d.find).trans hv0.symm
    walk_at "u"
    refine cmp_isNot_same d.find.val ?_
    walk_at "u"
    exact hm H1 hv0 (.mk N' S' d b1 s1 f1)
end
noncomputable def lde14 : PS := .cons (.ret (.call "_law_refuses" (.cons (.loc "tree") (.cons (.call "KV" (.cons (.loc "key") (.cons (.loc "value") .nil))) .nil)))) .nil
noncomputable def lde13 : PS := .cons (.ite (.cmp .inn (.loc "key") (.loc "held")) (.cons (.ret (.call "_law_take" (.cons (.loc "tree") (.cons (.loc "held") (.cons (.loc "gone") (.cons (.loc "key") (.cons (.bool false) .nil))))))) .nil) .nil) lde14
noncomputable def lde12 : PS := .cons (.ite (.and (.cons (.cmp .eq (.loc "kind") (.int 9)) (.cons (.cmp .gt (.bcall .len (.cons (.loc "held") .nil)) (.int 0)) .nil))) (.cons (.ret (.call "_law_take" (.cons (.loc "tree") (.cons (.loc "held") (.cons (.loc "gone") (.cons (.item (.bcall .sorted (.cons (.loc "held") .nil)) (.bin .mod (.loc "rest") (.bcall .len (.cons (.loc "held") .nil)))) (.cons (.bool true) .nil))))))) .nil) .nil) lde13
noncomputable def lde11 : PS := .cons (.ite (.cmp .eq (.loc "kind") (.int 8)) (.cons (.forR "step" (.cons (.bin .add (.int 1) (.bin .mod (.loc "rest") (.int 4))) .nil) (.cons (.ite (.not (.call "_law_refuses" (.cons (.loc "tree") (.cons (.call "KV" (.cons (.bin .sub (.loc "key") (.int 1)) (.cons (.loc "value") .nil))) .nil)))) (.cons (.ret (.bool false)) .nil) .nil) .nil)) (.cons (.ret (.bool true)) .nil)) .nil) lde12
noncomputable def lde10 : PS := .cons (.ite (.cmp .eq (.loc "kind") (.int 7)) (.cons (.forR "step" (.cons (.bin .add (.int 1) (.bin .mod (.loc "rest") (.int 4))) .nil) (.cons (.ite (.cmp .isNot (.meth (.loc "tree") "delete_key" (.cons (.bin .add (.loc "key") (.int 1)) .nil)) .none) (.cons (.ret (.bool false)) .nil) .nil) .nil)) (.cons (.ret (.bool true)) .nil)) .nil) lde11
noncomputable def lde9 : PS := .cons (.ite (.and (.cons (.cmp .eq (.loc "kind") (.int 6)) (.cons (.cmp .gt (.bcall .len (.cons (.loc "gone") .nil)) (.int 0)) .nil))) (.cons (.assignT "name" "elt" (.meth (.loc "gone") "pop" (.cons (.bin .mod (.loc "rest") (.bcall .len (.cons (.loc "gone") .nil))) .nil))) (.cons (.ret (.call "_law_put" (.cons (.loc "tree") (.cons (.loc "held") (.cons (.loc "gone") (.cons (.loc "name") (.cons (.loc "elt") (.cons (.loc "in_order") .nil)))))))) .nil)) .nil) lde10
noncomputable def lde8 : PS := .cons (.ite (.and (.cons (.cmp .eq (.loc "kind") (.int 5)) (.cons (.cmp .gt (.bcall .len (.cons (.loc "gone") .nil)) (.int 0)) .nil))) (.cons (.ret (.call "_law_refuses" (.cons (.loc "tree") (.cons (.item (.item (.loc "gone") (.bin .mod (.loc "rest") (.bcall .len (.cons (.loc "gone") .nil)))) (.int 1)) .nil)))) .nil) .nil) lde9
noncomputable def lde7 : PS := .cons (.ite (.and (.cons (.cmp .eq (.loc "kind") (.int 4)) (.cons (.cmp .inn (.loc "key") (.loc "held")) .nil))) (.cons (.ret (.call "_law_refuses" (.cons (.loc "tree") (.cons (.call "KV" (.cons (.loc "key") (.cons (.meth (.item (.loc "held") (.loc "key")) "value" .nil) .nil))) .nil)))) .nil) .nil) lde8
noncomputable def lde6 : PS := .cons (.ite (.and (.cons (.cmp .eq (.loc "kind") (.int 3)) (.cons (.cmp .inn (.loc "key") (.loc "held")) .nil))) (.cons (.ret (.call "_law_take" (.cons (.loc "tree") (.cons (.loc "held") (.cons (.loc "gone") (.cons (.loc "key") (.cons (.bool true) .nil))))))) .nil) .nil) lde7
noncomputable def lde5 : PS := .cons (.ite (.cmp .eq (.loc "kind") (.int 2)) (.cons (.ret (.call "_law_take" (.cons (.loc "tree") (.cons (.loc "held") (.cons (.loc "gone") (.cons (.loc "key") (.cons (.bool false) .nil))))))) .nil) .nil) lde6
noncomputable def lde4 : PS := .cons (.ite (.cmp .lt (.loc "kind") (.int 2)) (.cons (.ret (.call "_law_new" (.cons (.loc "tree") (.cons (.loc "held") (.cons (.loc "gone") (.cons (.loc "key") (.cons (.loc "value") (.cons (.loc "in_order") .nil)))))))) .nil) .nil) lde5
noncomputable def lde3 : PS := .cons (.assign "key" (.bin .sub (.bin .mul (.int 3) (.bin .mod (.bin .fdiv (.loc "number") (.int 10)) (.int 16))) (.int 20))) lde4
noncomputable def lde2 : PS := .cons (.assign "rest" (.bin .fdiv (.loc "number") (.int 160))) lde3
noncomputable def lde1 : PS := .cons (.assign "kind" (.bin .mod (.loc "number") (.int 10))) lde2
theorem lde_eq : f__law_deed = lde1 := rfl
theorem fdiv_L {a b : Int} {Q : AV → Prop} (ha : -1000000 ≤ a ∧ a ≤ 1000000) (hb : 0 < b ∧ b ≤ 1000000) (k : Q (.int (a / b))) : BinP Q .fdiv (.int a) (.int b) := .fdiv ha hb k
theorem mul_L {a b : Int} {Q : AV → Prop} (ha : -1000000 ≤ a ∧ a ≤ 1000000) (hb : -1000000 ≤ b ∧ b ≤ 1000000) (k : Q (.int (a * b))) : BinP Q .mul (.int a) (.int b) := .mul ha hb k
section
variable {cx : Cx} {tn : Bool} {H H' H'' H1 : AH} {X : Value → AH → Prop} {t : Int} {N N' N'' : NM} {h n : Nat} {κ κ' κ1 : Addr → Int} {eL eI eD : Addr → Prop} {W : Addr → Prop} {C a c cu : Addr} {im io io' : Bool} {S : List Addr} {m : List (Int × Addr)} {tr held gone : Addr} {G : List (Addr × Addr)} {σ : Loc} {kind rest key v : Int}
inductive SamH (κ : Addr → Int) (S : List Addr) (m : List (Int × Addr)) (k : Int) : Prop
  | inl (h : (atK (dE m) k).isSome = true) (x : Addr) (h1 : x ∈ S) (h2 : κ x = k) (h3 : (k, x) ∈ m) (h4 : atK (dE m) k = some (.ref x))
  | inr (h : (atK (dE m) k).isSome = false) (h1 : ∀ x ∈ S, κ x ≠ k)
theorem Sam.has (s : Sam κ S m) {k : Int} : SamH κ S m k := by
  by_cases q : ∃ x ∈ S, κ x = k
  · obtain ⟨x, hx, rfl⟩ := q
    have hm := s.mem hx
    have e := (atK_dE (κ x) s.nd).1 x hm
    exact .inl (by rw [e]; rfl) x hx rfl hm e
  · have hn : ∀ x ∈ S, κ x ≠ k := fun x hx e => q ⟨x, hx, e⟩
    refine .inr ?_ hn
    rw [(atK_dE k s.nd).2 fun x hx => hn x (s.pm.mem_iff.mpr (List.mem_map_of_mem (f := (·.2)) hx)) (s.key _ hx)]
    rfl
theorem quietTW (w : TW t H N κ tr c cu io held gone S m G) (s : Ch no (at1 tr) no t H N H' N') (b : BT H' N' κ 545 tr c cu t (isC c) false io S) : TW t H' N' κ tr c cu io held gone S m G :=
  w.go (s.weak (fun _ q => q.elim) (fun _ q => q) (fun _ q => q.elim)) b w.sam ((s.D held (nf_D w.hd) (fun q => q)).trans w.hd) (fun p hp => .inl hp) ((s.L gone (nf_L w.gn) w.no (fun q => q)).trans w.gn) (fun g hg => .inl hg) w.gd w.gs
inductive Qt (t : Int) (H : AH) (N : NM) (κ : Addr → Int) (tr c cu : Addr) (io : Bool) (held gone : Addr) (S : List Addr) (m : List (Int × Addr)) (G : List (Addr × Addr)) (H' : AH) : Prop
  | mk (κ' : Addr → Int) (N' : NM) (w : TW t H' N' κ' tr c cu io held gone S m G) (s : Ch no (at1 tr) no t H N H' N') (f : FrC c N N') (k : ∀ x, ¬ H.free x → κ' x = κ x)
theorem Qt.deed (q : Qt t H N κ tr c cu io held gone S m G H') : DeedR t H N κ tr c cu io held gone G H' := by
  obtain ⟨κ', N', w, s, f, k⟩ := q
  exact .mk κ' N' S m G w (s.weak (fun _ q => q.elim) (fun _ q => q) (fun _ q => q.elim)) f k (by lia)
theorem Qt.refl (w : TW t H N κ tr c cu io held gone S m G) : Qt t H N κ tr c cu io held gone S m G H := .mk κ N w (Ch.refl w.rep) FrC.refl fun _ _ => rfl
theorem TW.refB (w : TW t H N κ tr c cu io held gone S m G) {y : Addr} (r : RefB κ (isC c) 545 tr c cu t io S H N y H') : Qt t H N κ tr c cu io held gone S m G H' := by
  obtain ⟨N', _, b, s, f⟩ := r
  exact .mk κ N' (quietTW w s b) s f fun _ _ => rfl
theorem Qt.pre (s : Ch no no no t H N H1 N) (k : ∀ x, ¬ H.free x → κ1 x = κ x) (q : Qt t H1 N κ1 tr c cu io held gone S m G H') : Qt t H N κ tr c cu io held gone S m G H' := by
  obtain ⟨κ', N', w, s', f, k'⟩ := q
  exact .mk κ' N' w ((s.weak (fun _ q => q.elim) (fun _ q => q.elim) (fun _ q => q.elim)).trans s') f fun x hx => (k' x (s.nf x hx)).trans (k x hx)
theorem Qt.trans (q1 : Qt t H N κ tr c cu io held gone S m G H1) (hq : ∀ κ1 N1, TW t H1 N1 κ1 tr c cu io held gone S m G → Qt t H1 N1 κ1 tr c cu io held gone S m G H') : Qt t H N κ tr c cu io held gone S m G H' := by
  obtain ⟨κ1, N1, w1, s1, f1, k1⟩ := q1
  obtain ⟨κ', N', w, s', f, k'⟩ := hq κ1 N1 w1
  exact .mk κ' N' w (s1.trans s') (f1.trans f) fun x hx => (k' x (s1.nf x hx)).trans (k1 x hx)
theorem c_refNew (B : Bod cx) (hh : 12 ≤ h) (w : TW t H N κ tr c cu io held gone S m G) {k u : Int} {x : Addr} (hf : H.free x) {Q : AV → AH → Prop} (kq : ∀ H', Qt t H N κ tr c cu io held gone S m G H' → Q (.bool true) H') :
    CallOK cx h true (.ref 652) [.ref tr, .ref x] (H.setI x 502 (kvF k u)) Q noX := by
  obtain ⟨w1, k1, n1, n2, n3, s1⟩ := new_TW w (k := k) (v := u) hf
  refine c_refuses B hh w1.rep w1.bt (.inl k1) (fun y hy _ e => n1 (e ▸ hy)) fun H2 r => ?_
  exact kq _ ((w1.refB r).pre s1 fun y hy => updK_off fun q : y = x => hy (q ▸ hf))
structure DS (σ : Loc) (tr held gone : Addr) (kind rest key v : Int) (io : Bool) : Prop where
  e1 : σ "tree" = some (.ref tr)
  e2 : σ "held" = some (.ref held)
  e3 : σ "gone" = some (.ref gone)
  e4 : σ "kind" = some (.int kind)
  e5 : σ "rest" = some (.int rest)
  e6 : σ "key" = some (.int key)
  e7 : σ "value" = some (.int v)
  e8 : σ "in_order" = some (.bool io)
theorem d_14 (B : Bod cx) (hh : 13 ≤ n) (w : TW t H N κ tr c cu io held gone S m G) (ds : DS σ tr held gone kind rest key v io') {Q : AV → AH → Prop} (kq : ∀ H', DeedR t H N κ tr c cu io held gone G H' → Q (.bool true) H') : let K := retP Q; wpS cx n true lde14 noX σ H K := by
  intro K0
  obtain ⟨e1, e2, e3, e4, e5, e6, e7, e8⟩ := ds
  unfold lde14
  walk_at "u"
  refine CallOK.turn (c_kv B (by lia) fun x hf => ?_) true
  walk_at "u"
  refine c_refNew B (by lia) w hf fun H2 q => ?_
  walk_at "u"
  exact kq _ q.deed
theorem in_D {H : AH} {d : Addr} {es : List (Int × AV)} {i : Int} {Q : AV → AH → Prop} (h1 : H.D d = some es) (k : Q (.bool (atK es i).isSome) H) : cmpP cx h tn X H Q .inn (.int i) (.ref d) := .inD h1 k
theorem d_13 (B : Bod cx) (hh : 13 ≤ n) (w : TW t H N κ tr c cu io held gone S m G) (ds : DS σ tr held gone kind rest key v io') (hk : KeyF key) (hg : G.length < 900) {Q : AV → AH → Prop} (kq : ∀ H', DeedR t H N κ tr c cu io held gone G H' → Q (.bool true) H') : let K := retP Q; wpS cx n true lde13 noX σ H K := by
  intro K0
  have nx := d_14 B hh w ds kq
  obtain ⟨e1, e2, e3, e4, e5, e6, e7, e8⟩ := ds
  unfold lde13
  walk_at "u"
  refine in_D w.hd ?_
  rcases w.sam.has (k := key) with ⟨q, _⟩ | ⟨q, _⟩
  · rw [q]
    walk_at "u"
    refine c_take B (by lia) w hk hg (fun q => by cases q) fun H2 q => ?_
    walk_at "u"
    exact kq _ q
  · rw [q]
    walk_at "u"
    exact nx
theorem d_5 (B : Bod cx) (hh : 13 ≤ n) (w : TW t H N κ tr c cu io held gone S m G) (ds : DS σ tr held gone kind rest key v io') (hk : KeyF key) (hg : G.length < 900) {Q : AV → AH → Prop} (kq : ∀ H', DeedR t H N κ tr c cu io held gone G H' → Q (.bool true) H') : let K := retP Q; wpS cx n true lde6 noX σ H K → wpS cx n true lde5 noX σ H K := by
  intro K0 nx
  obtain ⟨e1, e2, e3, e4, e5, e6, e7, e8⟩ := ds
  unfold lde5
  walk_at "u"
  by_cases q : kind = 2
  · rw [decide_eq_true q]
    walk_at "u"
    refine c_take B (by lia) w hk hg (fun q => by cases q) fun H2 q => ?_
    walk_at "u"
    exact kq _ q
  · rw [decide_eq_false q]
    walk_at "u"
    exact nx
theorem d_4 (B : Bod cx) (hh : 13 ≤ n) (w : TW t H N κ tr c cu io held gone S m G) (ds : DS σ tr held gone kind rest key v io') (hk : KeyF key) (hg : G.length < 900) {Q : AV → AH → Prop} (kq : ∀ H', DeedR t H N κ tr c cu io held gone G H' → Q (.bool true) H') : let K := retP Q; wpS cx n true lde5 noX σ H K → wpS cx n true lde4 noX σ H K := by
  intro K0 nx
  obtain ⟨e1, e2, e3, e4, e5, e6, e7, e8⟩ := ds
  unfold lde4
  walk_at "u"
  by_cases q : kind < 2
  · rw [decide_eq_true q]
    walk_at "u"
    refine c_new_ B (by lia) w hk hg fun H2 q => ?_
    walk_at "u"
    exact kq _ q
  · rw [decide_eq_false q]
    walk_at "u"
    exact nx
theorem d_6 (B : Bod cx) (hh : 13 ≤ n) (w : TW t H N κ tr c cu io held gone S m G) (ds : DS σ tr held gone kind rest key v io') (hk : KeyF key) (hg : G.length < 900) {Q : AV → AH → Prop} (kq : ∀ H', DeedR t H N κ tr c cu io held gone G H' → Q (.bool true) H') : let K := retP Q; wpS cx n true lde7 noX σ H K → wpS cx n true lde6 noX σ H K := by
  intro K0 nx
  obtain ⟨e1, e2, e3, e4, e5, e6, e7, e8⟩ := ds
  unfold lde6
  walk_at "u"
  by_cases q : kind = 3
  · rw [decide_eq_true q]
    walk_at "u"
    refine in_D w.hd ?_
    rcases w.sam.has (k := key) with ⟨q, x, hx, hkx, _⟩ | ⟨q, _⟩
    · rw [q]
      walk_at "u"
      refine c_take B (by lia) w hk hg (fun _ => hkx ▸ List.mem_map_of_mem hx) fun H2 q => ?_
      walk_at "u"
      exact kq _ q
    · rw [q]
      walk_at "u"
      exact nx
  · rw [decide_eq_false q]
    walk_at "u"
    exact nx
theorem d_7 (B : Bod cx) (hh : 13 ≤ n) (w : TW t H N κ tr c cu io held gone S m G) (ds : DS σ tr held gone kind rest key v io') {Q : AV → AH → Prop} (kq : ∀ H', DeedR t H N κ tr c cu io held gone G H' → Q (.bool true) H') : let K := retP Q; wpS cx n true lde8 noX σ H K → wpS cx n true lde7 noX σ H K := by
  intro K0 nx
  obtain ⟨e1, e2, e3, e4, e5, e6, e7, e8⟩ := ds
  unfold lde7
  walk_at "u"
  by_cases q : kind = 4
  · rw [decide_eq_true q]
    walk_at "u"
    refine in_D w.hd ?_
    rcases w.sam.has (k := key) with ⟨q, x, hx, hkx, hm, hat⟩ | ⟨q, _⟩
    · rw [q]
      walk_at "u"
      refine item_D w.hd hat ?_
      obtain ⟨u, hI⟩ := w.kv _ hm
      refine meth_fn hI rfl rfl ?_
      walk_at "u"
      refine CallOK.turn (c_value B (by lia) hI ?_) true
      walk_at "u"
      refine CallOK.turn (c_kv B (by lia) fun x hf => ?_) true
      walk_at "u"
      refine c_refNew B (by lia) w hf fun H2 q => ?_
      walk_at "u"
      exact kq _ q.deed
    · rw [q]
      walk_at "u"
      exact nx
  · rw [decide_eq_false q]
    walk_at "u"
    exact nx
end
section
variable {cx : Cx} {tn : Bool} {H H' H'' H1 : AH} {X : Value → AH → Prop} {t : Int} {N N' N'' : NM} {h n : Nat} {κ κ' κ1 : Addr → Int} {eL eI eD : Addr → Prop} {W : Addr → Prop} {C a c cu : Addr} {im io io' : Bool} {S : List Addr} {m : List (Int × Addr)} {tr held gone : Addr} {G : List (Addr × Addr)} {σ : Loc} {kind rest key v : Int}
theorem at_split {α : Type} {l : List α} {i : Nat} {x : α} (h : l[i]? = some x) : l = l.take i ++ x :: l.drop (i + 1) := by
  obtain ⟨h1, h2⟩ := List.getElem?_eq_some_iff.mp h
  rw [← h2, ← List.drop_eq_getElem_cons h1, List.take_append_drop]
theorem at_mod {α : Type} (l : List α) (r : Int) (h : 0 < l.length) : ∃ (i : Nat) (x : α), r % (l.length : Int) = (i : Int) ∧ l[i]? = some x := by
  have h1 := Int.emod_nonneg r (b := (l.length : Int)) (by lia)
  have h2 := Int.emod_lt_of_pos r (b := (l.length : Int)) (by lia)
  have hl : (r % (l.length : Int)).toNat < l.length := by lia
  exact ⟨(r % (l.length : Int)).toNat, _, by lia, List.getElem?_eq_getElem hl⟩
theorem glen : ((refs (G.map (·.1))).length : Int) = G.length := by rw [refs_length, List.length_map]
theorem d_8 (B : Bod cx) (hh : 13 ≤ n) (w : TW t H N κ tr c cu io held gone S m G) (ds : DS σ tr held gone kind rest key v io') {Q : AV → AH → Prop} (kq : ∀ H', DeedR t H N κ tr c cu io held gone G H' → Q (.bool true) H') : let K := retP Q; wpS cx n true lde9 noX σ H K → wpS cx n true lde8 noX σ H K := by
  intro K0 nx
  obtain ⟨e1, e2, e3, e4, e5, e6, e7, e8⟩ := ds
  unfold lde8
  walk_at "u"
  by_cases q : kind = 5
  · rw [decide_eq_true q]
    walk_at "u"
    refine len_L w.gn ?_
    rw [glen]
    walk_at "u"
    by_cases q : 0 < (G.length : Int)
    · rw [decide_eq_true q]
      walk_at "u"
      refine len_L w.gn ?_
      rw [glen]
      walk_at "u"
      refine mod_L q ?_
      obtain ⟨i, g, hi, hg⟩ := at_mod G rest (by lia)
      rw [hi]
      obtain ⟨g1, g2, g3⟩ := w.gt g (List.mem_of_getElem? hg)
      refine item_L w.gn (seqAt_of (x := g.1) (by rw [List.getElem?_map, hg]; rfl)) ?_
      walk_at "u"
      refine item_T g1 rfl (by lia) ?_
      walk_at "u"
      refine c_refuses B (by lia) w.rep w.bt (.inl g2) (fun y hy _ e => w.gs g (List.mem_of_getElem? hg) (e ▸ hy)) fun H2 r => ?_
      walk_at "u"
      exact kq _ (w.refB r).deed
    · rw [decide_eq_false q]
      walk_at "u"
      exact nx
  · rw [decide_eq_false q]
    walk_at "u"
    exact nx
theorem d_9 (B : Bod cx) (hh : 13 ≤ n) (w : TW t H N κ tr c cu io held gone S m G) (ds : DS σ tr held gone kind rest key v io') (hg9 : G.length < 900) {Q : AV → AH → Prop} (kq : ∀ H', DeedR t H N κ tr c cu io held gone G H' → Q (.bool true) H') : let K := retP Q; wpS cx n true lde10 noX σ H K → wpS cx n true lde9 noX σ H K := by
  intro K0 nx
  obtain ⟨e1, e2, e3, e4, e5, e6, e7, e8⟩ := ds
  unfold lde9
  walk_at "u"
  by_cases q : kind = 6
  · rw [decide_eq_true q]
    walk_at "u"
    refine len_L w.gn ?_
    rw [glen]
    walk_at "u"
    by_cases q : 0 < (G.length : Int)
    · rw [decide_eq_true q]
      walk_at "u"
      refine meth_L w.gn (by simp) ?_
      walk_at "u"
      refine len_L w.gn ?_
      rw [glen]
      walk_at "u"
      refine mod_L q ?_
      obtain ⟨i, g, hi, hg⟩ := at_mod G rest (by lia)
      rw [hi]
      walk_at "u"
      obtain ⟨g1, g2, g3⟩ := w.gt g (List.mem_of_getElem? hg)
      refine w_popAt w.gn (seqAt_of (x := g.1) (by rw [List.getElem?_map, hg]; rfl)) ?_
      have hsp := at_split hg
      rw [show ((i : Int)).toNat = i from by lia, refs_take, refs_drop, ← refs_append, ← List.map_take, ← List.map_drop, ← List.map_append]
      have hmem : ∀ z ∈ G.take i ++ G.drop (i + 1), z ∈ G := fun z hz => (List.mem_append.mp hz).elim List.mem_of_mem_take List.mem_of_mem_drop
      have hsub : (G.take i ++ G.drop (i + 1)).Sublist G := by
        have e : (G.take i ++ G.drop (i + 1)).Sublist (G.take i ++ g :: G.drop (i + 1)) := List.Sublist.append_left (List.sublist_cons_self _ _) _
        rw [← hsp] at e; exact e
      have hne : ∀ z ∈ G.take i ++ G.drop (i + 1), z.2 ≠ g.2 := fun z hz => by
        have nd := w.gd
        rw [hsp, List.map_append, List.map_cons, List.nodup_append, List.nodup_cons] at nd
        rcases List.mem_append.mp hz with p | p
        · exact nd.2.2 _ (List.mem_map_of_mem p) _ (List.mem_cons_self)
        · exact fun e => nd.2.1.1 (e ▸ List.mem_map_of_mem (f := (·.2)) p)
      have hlen := hsub.length_le
      generalize G.take i ++ G.drop (i + 1) = G' at hmem hsub hne hlen ⊢
      have s1 : Ch (at1 gone) (at1 tr) (at1 held) t H N (H.setL gone (refs (G'.map (·.1)))) N := Ch.setL w.rep (.inr ⟨rfl, w.no⟩)
      have b1 := w.bt.same w.rep (Ch.setL (eL := at1 gone) (eI := no) (eD := no) (xs := refs (G'.map (·.1))) w.rep (.inr ⟨rfl, w.no⟩)) (fun q => q) w.ne no_el
      have w1 := w.go s1 b1 w.sam w.hd (fun p hp => .inl hp) upd_at (fun z hz => .inl (hmem z hz)) (w.gd.sublist (hsub.map _)) fun z hz => w.gs z (hmem z hz)
      have hT1 : (H.setL gone (refs (G'.map (·.1)))).T g.1 = some [.int (κ g.2), .ref g.2] := g1
      have hx1 : KVel (H.setL gone (refs (G'.map (·.1)))) κ g.2 := g2
      generalize H.setL gone (refs (G'.map (·.1))) = H1 at s1 w1 hT1 hx1 ⊢
      walk_at "u"
      refine asT hT1 ?_
      walk_at "u"
      refine c_put B (by lia) w1 hx1 g3 (w.gs g (List.mem_of_getElem? hg)) hne (by lia) fun H2 z => ?_
      obtain ⟨κ', N', S', m', G2, w2, s2, f2, q2, l2⟩ := z
      walk_at "u"
      exact kq _ (.mk κ' N' S' m' G2 w2 (s1.trans s2) f2 (fun x hx => q2 x (s1.nf x hx)) (by lia))
    · rw [decide_eq_false q]
      walk_at "u"
      exact nx
  · rw [decide_eq_false q]
    walk_at "u"
    exact nx
structure QtI (t : Int) (H : AH) (N : NM) (κ : Addr → Int) (tr c cu : Addr) (io : Bool) (held gone : Addr) (S : List Addr) (m : List (Int × Addr)) (G : List (Addr × Addr)) (tr' : Addr) (key : Int) (σ : Loc) (H' : AH) : Prop where
  e1 : σ "tree" = some (.ref tr')
  e2 : σ "key" = some (.int key)
  q : Qt t H N κ tr c cu io held gone S m G H'
structure QtV (t : Int) (H : AH) (N : NM) (κ : Addr → Int) (tr c cu : Addr) (io : Bool) (held gone : Addr) (S : List Addr) (m : List (Int × Addr)) (G : List (Addr × Addr)) (tr' : Addr) (key v : Int) (σ : Loc) (H' : AH) : Prop where
  e1 : σ "tree" = some (.ref tr')
  e2 : σ "key" = some (.int key)
  e3 : σ "value" = some (.int v)
  q : Qt t H N κ tr c cu io held gone S m G H'
theorem d_10 (B : Bod cx) (hh : 13 ≤ n) (w : TW t H N κ tr c cu io held gone S m G) (ds : DS σ tr held gone kind rest key v io') (hk : KeyF key) {Q : AV → AH → Prop} (kq : ∀ H', DeedR t H N κ tr c cu io held gone G H' → Q (.bool true) H') : let K := retP Q; wpS cx n true lde11 noX σ H K → wpS cx n true lde10 noX σ H K := by
  intro K0 nx
  obtain ⟨e1, e2, e3, e4, e5, e6, e7, e8⟩ := ds
  unfold lde10
  walk_at "u"
  by_cases q : kind = 7
  · rw [decide_eq_true q]
    walk_at "u"
    refine mod_L (by lia) ?_
    have a1 := Int.emod_nonneg rest (b := 4) (by lia)
    have a2 := Int.emod_lt_of_pos rest (b := 4) (by lia)
    walk_at "u"
    refine ⟨_, _, fun _ σ' H' => QtI t H N κ tr c cu io held gone S m G tr key σ' H', .inl _ rfl rfl rfl (by lia) (by lia), ⟨e1, e6, Qt.refl w⟩, ?_, ?_⟩
    · rintro k σ' H1 _ ⟨e1, e6, κ1, N1, w1, s1, f1, k1⟩
      obtain ⟨rt, ha, T⟩ := w1.bt.ex
      walk_at "u"
      refine meth_fn ha (trF_no (by decide)) rfl ?_
      walk_at "u"
      refine CallOK.turn (c_delete_key B (by lia) w1.rep w1.bt (fun q => by cases q) fun v H2 _ dd => ?_) true
      obtain ⟨N2, S2, d, b2, s2, f2⟩ := dd
      rcases d with ⟨A, x, B', h1, h2, _⟩ | ⟨_, rfl, rfl, _⟩
      · exfalso
        obtain ⟨i, hi, e⟩ := w1.ks _ (w1.sam.mem (x := x) (by rw [h1]; simp))
        obtain ⟨j, hj, e'⟩ := hk
        lia
      · walk_at "u"
        exact ⟨by walk_at "r", by walk_at "r", .mk κ1 N2 (quietTW w1 s2 b2) (s1.trans s2) (f1.trans f2) k1⟩
    · rintro σ' H1 ⟨_, _, q⟩
      walk_at "u"
      exact kq _ q.deed
  · rw [decide_eq_false q]
    walk_at "u"
    exact nx
theorem d_11 (B : Bod cx) (hh : 13 ≤ n) (w : TW t H N κ tr c cu io held gone S m G) (ds : DS σ tr held gone kind rest key v io') {Q : AV → AH → Prop} (kq : ∀ H', DeedR t H N κ tr c cu io held gone G H' → Q (.bool true) H') : let K := retP Q; wpS cx n true lde12 noX σ H K → wpS cx n true lde11 noX σ H K := by
  intro K0 nx
  obtain ⟨e1, e2, e3, e4, e5, e6, e7, e8⟩ := ds
  unfold lde11
  walk_at "u"
  by_cases q : kind = 8
  · rw [decide_eq_true q]
    walk_at "u"
    refine mod_L (by lia) ?_
    have a1 := Int.emod_nonneg rest (b := 4) (by lia)
    have a2 := Int.emod_lt_of_pos rest (b := 4) (by lia)
    walk_at "u"
    refine ⟨_, _, fun _ σ' H' => QtV t H N κ tr c cu io held gone S m G tr key v σ' H', .inl _ rfl rfl rfl (by lia) (by lia), ⟨e1, e6, e7, Qt.refl w⟩, ?_, ?_⟩
    · rintro k σ' H1 _ ⟨e1, e6, e7, q1⟩
      obtain ⟨κ1, N1, w1, s1, f1, k1⟩ := q1
      walk_at "u"
      refine CallOK.turn (c_kv B (by lia) fun x hf => ?_) true
      walk_at "u"
      refine c_refNew B (by lia) w1 hf fun H2 q2 => ?_
      walk_at "u"
      obtain ⟨κ2, N2, w2, s2, f2, k2⟩ := q2
      exact ⟨by walk_at "r", by walk_at "r", by walk_at "r", .mk κ2 N2 w2 (s1.trans s2) (f1.trans f2) fun x hx => (k2 x (s1.nf x hx)).trans (k1 x hx)⟩
    · rintro σ' H1 ⟨_, _, _, q⟩
      walk_at "u"
      exact kq _ q.deed
  · rw [decide_eq_false q]
    walk_at "u"
    exact nx
theorem d_12 (B : Bod cx) (hh : 13 ≤ n) (w : TW t H N κ tr c cu io held gone S m G) (ds : DS σ tr held gone kind rest key v io') (hg : G.length < 900) {Q : AV → AH → Prop} (kq : ∀ H', DeedR t H N κ tr c cu io held gone G H' → Q (.bool true) H') : let K := retP Q; wpS cx n true lde13 noX σ H K → wpS cx n true lde12 noX σ H K := by
  intro K0 nx
  obtain ⟨e1, e2, e3, e4, e5, e6, e7, e8⟩ := ds
  have hm16 := w.m16
  unfold lde12
  walk_at "u"
  by_cases q : kind = 9
  · rw [decide_eq_true q]
    walk_at "u"
    refine len_D w.hd ?_
    rw [dE_len]
    walk_at "u"
    by_cases q : 0 < (m.length : Int)
    · rw [decide_eq_true q]
      walk_at "u"
      refine .sortD _ _ rfl rfl w.hd (by rw [dE_len]; lia) fun l ms hl hp hso => ?_
      have s1 : Ch no no no t H N (H.setL l (ms.map .int)) N := Ch.setL w.rep (.inl hl)
      have w1 := quietTW w (s1.weak (fun _ q => q) (fun _ q => q.elim) (fun _ q => q)) (w.bt.same w.rep s1 (fun q => q) (fun q => q) no_el)
      have hl1 : (H.setL l (ms.map .int)).L l = some (ms.map .int) := upd_at
      generalize H.setL l (ms.map .int) = H1 at s1 w1 hl1 ⊢
      walk_at "u"
      refine len_D w1.hd ?_
      rw [dE_len]
      walk_at "u"
      refine mod_L q ?_
      have hp' : ms.Perm (m.map (·.1)) := hp.trans (by rw [dE, List.map_map]; exact .refl _)
      have hml : ms.length = m.length := by rw [hp'.length_eq, List.length_map]
      obtain ⟨i, k, hi, hk⟩ := at_mod ms rest (by lia)
      rw [hml] at hi
      rw [hi]
      refine item_L hl1 (v := .int k) (by unfold seqAt; rw [if_pos (by lia), show ((i : Int)).toNat = i from by lia, List.getElem?_map, hk]; rfl) ?_
      walk_at "u"
      obtain ⟨p, hpm, rfl⟩ := List.mem_map.mp (hp'.mem_iff.mp (List.mem_of_getElem? hk))
      refine c_take B (by lia) w1 (w1.ks p hpm) hg (fun _ => ?_) fun H2 z => ?_
      · rw [← w1.sam.key p hpm]
        exact List.mem_map_of_mem (w1.sam.pm.mem_iff.mpr (List.mem_map_of_mem (f := (·.2)) hpm))
      · obtain ⟨κ', N', S', m', G2, w2, s2, f2, q2, l2⟩ := z
        walk_at "u"
        exact kq _ (.mk κ' N' S' m' G2 w2 ((s1.weak (fun _ q => q.elim) (fun _ q => q.elim) (fun _ q => q.elim)).trans s2) f2 (fun x hx => q2 x (s1.nf x hx)) l2)
    · rw [decide_eq_false q]
      walk_at "u"
      exact nx
  · rw [decide_eq_false q]
    walk_at "u"
    exact nx
theorem keyF_of (x : Int) : KeyF (3 * (x % 16) - 20) := by
  have a1 := Int.emod_nonneg x (b := 16) (by lia)
  have a2 := Int.emod_lt_of_pos x (b := 16) (by lia)
  exact ⟨(x % 16).toNat, by lia, by lia⟩
theorem c_deed (B : Bod cx) (hh : 14 ≤ h) (w : TW t H N κ tr c cu io held gone S m G) {num : Int} (h0 : 0 ≤ num) (h1 : num < 16000) (hg : G.length < 900) {Q : AV → AH → Prop} (kq : ∀ H', DeedR t H N κ tr c cu io held gone G H' → Q (.bool true) H') :
    CallOK cx h true (.ref 680) [.ref tr, .ref held, .ref gone, .int num, .int v, .bool io'] H Q noX := by
  refine call_of' B.T (by lia) B.f680 rfl (fun _ _ _ q => q) fun n hn => ?_
  intro K0
  rw [lde_eq]
  unfold lde1 lde2 lde3
  have a1 := Int.emod_nonneg (num / 10) (b := 16) (by lia)
  have a2 := Int.emod_lt_of_pos (num / 10) (b := 16) (by lia)
  walk_at "u"
  refine mod_L (by lia) ?_
  walk_at "u"
  refine fdiv_L (by lia) (by lia) ?_
  walk_at "u"
  refine fdiv_L (by lia) (by lia) ?_
  walk_at "u"
  refine mod_L (by lia) ?_
  refine mul_L (by lia) (by lia) ?_
  walk_at "u"
  have hk := keyF_of (num / 10)
  generalize 3 * (num / 10 % 16) - 20 = key at hk ⊢
  have hs : 13 ≤ n := by lia
  have ds : DS (((((bindσ ["tree", "held", "gone", "number", "value", "in_order"] [.ref tr, .ref held, .ref gone, .int num, .int v, .bool io']).set "kind" (.int (num % 10))).set "rest" (.int (num / 160))).set "key" (.int key))) tr held gone (num % 10) (num / 160) key v io' := by
    refine ⟨?_, ?_, ?_, ?_, ?_, ?_, ?_, ?_⟩ <;> walk_at "l"
  exact d_4 B hs w ds hk hg kq (d_5 B hs w ds hk hg kq (d_6 B hs w ds hk hg kq (d_7 B hs w ds kq (d_8 B hs w ds kq (d_9 B hs w ds hg kq (d_10 B hs w ds hk kq (d_11 B hs w ds kq (d_12 B hs w ds hg kq (d_13 B hs w ds hk hg kq)))))))))
end
noncomputable def len6 : PS := .cons (.ret (.and (.cons (.cmp .eq (.bcall .len (.cons (.loc "young") .nil)) (.int 0)) (.cons (.call "_law_stands" (.cons (.loc "tree") (.cons (.loc "held") (.cons (.loc "t") (.cons (.neg (.int 20)) .nil))))) .nil)))) .nil
noncomputable def len5 : PS := .cons (.forR "step" (.cons (.bcall .len (.cons (.loc "keys") .nil)) .nil) (.cons (.assign "key" (.item (.loc "keys") (.bin .mod (.bin .add (.loc "turn") (.bin .mul (.int 17) (.loc "step"))) (.bcall .len (.cons (.loc "keys") .nil))))) (.cons (.assign "elt" (.meth (.loc "left") "pop" (.cons (.loc "key") .nil))) (.cons (.ite (.or (.cons (.cmp .isNot (.meth (.loc "young") "delete_exact" (.cons (.loc "elt") .nil)) (.loc "elt")) (.cons (.not (.call "_law_refuses" (.cons (.loc "young") (.cons (.loc "elt") .nil)))) .nil))) (.cons (.ret (.bool false)) .nil) .nil) (.cons (.ite (.not (.call "_law_stands" (.cons (.loc "young") (.cons (.loc "left") (.cons (.loc "t") (.cons (.loc "key") .nil)))))) (.cons (.ret (.bool false)) .nil) .nil) (.cons (.assign "refused" (.bool false)) (.cons (.tryI "refused" (.meth (.loc "tree") "delete_exact" (.cons (.loc "elt") .nil))) (.cons (.ite (.not (.loc "refused")) (.cons (.ret (.bool false)) .nil) .nil) .nil)))))))) len6
noncomputable def len4 : PS := .cons (.assign "keys" (.bcall .sorted (.cons (.loc "held") .nil))) len5
noncomputable def len3 : PS := .cons (.assign "left" (.bcall .dict (.cons (.loc "held") .nil))) len4
noncomputable def len2 : PS := .cons (.assign "young" (.callK "BTreeDict" ["original"] (.cons (.loc "tree") .nil))) len3
noncomputable def len1 : PS := .cons (.expr (.meth (.loc "tree") "make_immutable" .nil)) len2
theorem len_eq : f__law_end = len1 := rfl
noncomputable def MkCopy (cx : Cx) : Prop := ∀ {h : Nat} {tn : Bool} {H : AH} {X : Value → AH → Prop} {t : Int} {N : NM} {κ : Addr → Int} {W : Addr → Prop} {tr c cu : Addr} {io : Bool} {S : List Addr} {Q : AV → AH → Prop}, 6 ≤ h → Rep t H N → BT H N κ 545 tr c cu t W true io S →
  (∀ H' a c' cu' io', H.free a → H.free c' → BT H' N κ 545 a c' cu' t (fun d => W d ∨ d = c') false io' S → Ch no no no t H N H' N → Q (.ref a) H') → CallKOK cx h tn (.ref 545) [] ["original"] [.ref tr] H Q X
noncomputable def ix (turn : Int) (n j : Nat) : Int := (turn + 17 * (j : Int)) % (n : Int)
theorem cop17 : ∀ n < 17, 0 < n → Nat.gcd n 17 = 1 := by decide
theorem cop16 : ∀ r < 8, Nat.gcd 16 (1 + 2 * r) = 1 := by decide
theorem modm {m : Int} {n a b k : Nat} (hk : Nat.gcd n k = 1) (hab : a ≤ b) (hb : b < n) (e : (m + (k : Int) * a) % n = (m + (k : Int) * b) % n) : a = b := by
  have h1 := Int.dvd_of_emod_eq_zero (Int.emod_eq_emod_iff_emod_sub_eq_zero.mp e.symm)
  have h2 : m + (k : Int) * b - (m + (k : Int) * a) = ((k * (b - a) : Nat) : Int) := by
    rw [Int.natCast_mul, Int.natCast_sub hab, Int.mul_sub]; lia
  rw [h2] at h1
  have h3 := Nat.eq_zero_of_dvd_of_lt (Nat.Coprime.dvd_of_dvd_mul_left hk (Int.natCast_dvd_natCast.mp h1)) (Nat.lt_of_le_of_lt (Nat.sub_le ..) hb)
  exact Nat.le_antisymm hab (Nat.le_of_sub_eq_zero h3)
theorem modm2 {m : Int} {n a b k : Nat} (hk : Nat.gcd n k = 1) (ha : a < n) (hb : b < n) (e : (m + (k : Int) * a) % n = (m + (k : Int) * b) % n) : a = b :=
  (Nat.le_total a b).elim (fun h => modm hk h hb e) fun h => (modm hk h ha e.symm).symm
theorem ix_inj {turn : Int} {n a b : Nat} (hn : n ≤ 16) (ha : a < n) (hb : b < n) (e : ix turn n a = ix turn n b) : a = b :=
  modm2 (k := 17) (cop17 n (Nat.lt_succ_of_le hn) (Nat.lt_of_le_of_lt (Nat.zero_le a) ha)) ha hb e
theorem ix_lt {turn : Int} {n j : Nat} (hn : 0 < n) : 0 ≤ ix turn n j ∧ ix turn n j < n := ⟨Int.emod_nonneg _ (by lia), Int.emod_lt_of_pos _ (by lia)⟩
section
variable {cx : Cx} {tn : Bool} {H H' H'' H1 : AH} {X : Value → AH → Prop} {t : Int} {N N' N'' : NM} {h n : Nat} {κ κ' κ1 : Addr → Int} {eL eI eD : Addr → Prop} {W : Addr → Prop} {C a c cu : Addr} {im io io' : Bool} {S S' : List Addr} {m m' : List (Int × Addr)} {tr held gone : Addr} {G : List (Addr × Addr)} {σ : Loc} {kind rest key v : Int}
theorem len_BTT {Q : AV → AH → Prop} (B : Bod cx) (hh : 1 ≤ h) (b : BT H N κ C a c cu t W im io S) (k : Q (.int S.length) H) : bcP cx h true X .len [.ref a] H Q := by
  obtain ⟨rt, ha, T⟩ := b.ex
  have hl := b.g.len
  exact .lenO a C _ 415 rfl rfl ha (by rcases b.cl with rfl | rfl <;> rfl) ((c_len B hh b ⟨_, rfl, by lia, by lia, k⟩).turn true)
inductive EndI (κ : Addr → Int) (t : Int) (tr c cu : Addr) (io : Bool) (S : List Addr) (m : List (Int × Addr)) (held y cy cuy : Addr) (ioy : Bool) (lf l : Addr) (ms : List Int) (turn : Int) (k : Nat) (H' : AH) : Prop
  | mk (N' : NM) (S' : List Addr) (m' : List (Int × Addr)) (rep : Rep t H' N') (mo : BT H' N' κ 545 tr c cu t (isC c) true io S) (yo : BT H' N' κ 545 y cy cuy t (fun d => isC c d ∨ d = cy) false ioy S')
    (sm : Sam κ S' m') (dl : H'.D lf = some (dE m')) (dh : H'.D held = some (dE m)) (lk : H'.L l = some (ms.map .int)) (no : ¬ Own N' l) (len : m'.length + k = ms.length)
    (rem : ∀ j, k ≤ j → j < ms.length → ∀ q, ms[(ix turn ms.length j).toNat]? = some q → ∃ x, (q, x) ∈ m') (ks : ∀ p ∈ m', KeyF p.1)
structure EndJ (tr held : Addr) (t turn : Int) (y lf l : Addr) (σ : Loc) (P : Prop) : Prop where
  e1 : σ "tree" = some (.ref tr)
  e2 : σ "held" = some (.ref held)
  e3 : σ "t" = some (.int t)
  e4 : σ "turn" = some (.int turn)
  e5 : σ "young" = some (.ref y)
  e6 : σ "left" = some (.ref lf)
  e7 : σ "keys" = some (.ref l)
  p : P
theorem KeyF.ne {a b : Int} (h1 : KeyF a) (h2 : KeyF b) : a ≠ b + 1 := by
  obtain ⟨i, _, e⟩ := h1
  obtain ⟨j, _, e'⟩ := h2
  lia
theorem c_end (B : Bod cx) (M : MkCopy cx) (hh : 14 ≤ h) (w : TW t H N κ tr c cu io held gone S m G) {turn : Int} (h0 : 0 ≤ turn) (h1 : turn < 16000) {Q : AV → AH → Prop} (kq : ∀ H', Q (.bool true) H') :
    CallOK cx h true (.ref 692) [.ref tr, .ref held, .int t, .int turn] H Q noX := by
  have hm16 := w.m16
  have ht := w.bt.g.t
  obtain ⟨rt, ha, T⟩ := w.bt.ex
  refine call_of' B.T (by lia) B.f692 rfl (fun _ _ _ q => q) fun n hn => ?_
  intro K0
  rw [len_eq]
  unfold len1 len2 len3 len4 len5
  walk_at "u"
  refine meth_fn ha (trF_no (by decide)) rfl ?_
  walk_at "u"
  refine CallOK.turn (c_freeze B (by lia) w.rep w.bt fun H1 b1 s1 => ?_) true
  have hd1 : H1.D held = some (dE m) := (s1.D held (nf_D w.hd) (fun q => q)).trans w.hd
  walk_at "u"
  refine M (by lia) s1.rep b1 fun H2 y cy cuy ioy hfy hfc b2 s2 => ?_
  have m2 := b1.same s1.rep s2 (fun q => q) (fun q => q) no_el
  have hd2 : H2.D held = some (dE m) := (s2.D held (nf_D hd1) (fun q => q)).trans hd1
  have hcy : cy ≠ c := fun q => by
    have := b1.g.cr c b1.wc
    exact this (q ▸ hfc.2.1)
  have hyt : tr ≠ y := fun q => by
    obtain ⟨rt1, ha1, _⟩ := b1.ex
    exact nf_I ha1 (q ▸ hfy)
  walk_at "u"
  refine .dict _ _ rfl rfl hd2 fun lf hlf => ?_
  have s3 : Ch no no no t H2 N (H2.setD lf (dE m)) N := Ch.setD s2.rep (.inl hlf)
  have hd3 : (H2.setD lf (dE m)).D lf = some (dE m) := upd_at
  have hh3 : (H2.setD lf (dE m)).D held = some (dE m) := (s3.D held (nf_D hd2) (fun q => q)).trans hd2
  have hlh : lf ≠ held := fun q => nf_D hd2 (q ▸ hlf)
  have m3 := m2.same s2.rep s3 (fun q => q) (fun q => q) no_el
  have b3 := b2.same s2.rep s3 (fun q => q) (fun q => q) no_el
  generalize H2.setD lf (dE m) = H3 at s3 hd3 hh3 m3 b3 ⊢
  walk_at "u"
  refine .sortD _ _ rfl rfl hh3 (by rw [dE_len]; lia) fun l ms hl hp hso => ?_
  have s4 : Ch no no no t H3 N (H3.setL l (ms.map .int)) N := Ch.setL s3.rep (.inl hl)
  have hl4 : (H3.setL l (ms.map .int)).L l = some (ms.map .int) := upd_at
  have hd4 : (H3.setL l (ms.map .int)).D lf = some (dE m) := hd3
  have hh4 : (H3.setL l (ms.map .int)).D held = some (dE m) := hh3
  have m4 := m3.same s3.rep s4 (fun q => q) (fun q => q) no_el
  have b4 := b3.same s3.rep s4 (fun q => q) (fun q => q) no_el
  have hno4 : ¬ Own N l := fun q => own_nf s3.rep q hl
  generalize H3.setL l (ms.map .int) = H4 at s4 hl4 hd4 hh4 m4 b4 ⊢
  have hp' : ms.Perm (m.map (·.1)) := hp.trans (by rw [dE, List.map_map]; exact .refl _)
  have hml : ms.length = m.length := by rw [hp'.length_eq, List.length_map]
  walk_at "u"
  refine len_L hl4 ?_
  walk_at "u"
  have hlen : ((ms.map AV.int).length : Int) = ms.length := by rw [List.length_map]
  refine ⟨_, _, fun k σ' H' => EndJ tr held t turn y lf l σ' (EndI κ t tr c cu io S m held y cy cuy ioy lf l ms turn k H'),
    .inl _ rfl rfl rfl (by lia) (by lia), ⟨by walk_at "r", by walk_at "r", by walk_at "r", by walk_at "r", by walk_at "r", by walk_at "r", by walk_at "r", .mk N S m s4.rep m4 b4 w.sam hd4 hh4 hl4 hno4 (by lia) (fun j _ _ q hq => ?_) w.ks⟩, ?_, ?_⟩
  · obtain ⟨p, hpm, e⟩ := List.mem_map.mp (hp'.mem_iff.mp (List.mem_of_getElem? hq))
    exact ⟨p.2, e ▸ hpm⟩
  · rintro k σ' H5 hk ⟨e1, e2, e3, e4, e5, e6, e7, N5, S5, m5, r5, mo5, yo5, sm5, dl5, dh5, lk5, no5, len5, rem5, ks5⟩
    have hkn : k < ms.length := by lia
    walk_at "u"
    refine mul_L (by lia) (by lia) ?_
    walk_at "u"
    refine len_L lk5 ?_
    rw [hlen]
    walk_at "u"
    refine mod_L (by lia) ?_
    rw [show (turn + 17 * (0 + (k : Int))) % (ms.length : Int) = ix turn ms.length k from by unfold ix; rw [Int.zero_add]]
    obtain ⟨i0, i1⟩ := ix_lt (turn := turn) (j := k) (n := ms.length) (by lia)
    have hil : (ix turn ms.length k).toNat < ms.length := by lia
    obtain ⟨key, hkey⟩ : ∃ key, ms[(ix turn ms.length k).toNat]? = some key := ⟨_, List.getElem?_eq_getElem hil⟩
    refine item_L lk5 (v := .int key) (by unfold seqAt; rw [if_pos i0, List.getElem?_map, hkey]; rfl) ?_
    walk_at "u"
    obtain ⟨x, hx⟩ := rem5 k (Nat.le_refl _) hkn key hkey
    have hkx := sm5.key _ hx
    simp only at hkx
    have hxS : x ∈ S5 := sm5.pm.mem_iff.mpr (List.mem_map_of_mem (f := (·.2)) hx)
    have hkF : KeyF key := ks5 _ hx
    refine meth_D dl5 (by simp) ?_
    walk_at "u"
    refine dm_pop dl5 ((atK_dE key sm5.nd).1 x hx) ?_
    rw [delK_dE]
    have s6 : Ch no no (at1 lf) t H5 N5 (H5.setD lf (dE (mdel m5 key))) N5 := Ch.setD r5 (.inr rfl)
    have dl6 : (H5.setD lf (dE (mdel m5 key))).D lf = some (dE (mdel m5 key)) := upd_at
    have dh6 : (H5.setD lf (dE (mdel m5 key))).D held = some (dE m) := (upd_off (Ne.symm hlh)).trans dh5
    have lk6 : (H5.setD lf (dE (mdel m5 key))).L l = some (ms.map .int) := lk5
    have mo6 := mo5.same r5 s6 (fun q => q) (fun q => q) no_el
    have yo6 := yo5.same r5 s6 (fun q => q) (fun q => q) no_el
    generalize H5.setD lf (dE (mdel m5 key)) = H6 at s6 dl6 dh6 lk6 mo6 yo6 ⊢
    obtain ⟨rt6, ha6, T6⟩ := yo6.ex
    walk_at "u"
    refine meth_fn ha6 (trF_no (by decide)) rfl ?_
    walk_at "u"
    refine CallOK.turn (c_delete_exact B (by lia) s6.rep yo6 (yo6.g.el x hxS) (fun q => by cases q) (fun _ _ r => ?_) fun H7 _ z => ?_) true
    · obtain ⟨_, n1, _⟩ := r
      exact absurd rfl (n1 x hxS rfl)
    · obtain ⟨N7, S7, d7, yo7, s7, f7⟩ := z
      have elx : El H7 κ x := (yo6.g.el x hxS).ch s6.rep s7 (el_not_tree yo6.cl ha6 (yo6.g.el x hxS))
      have sm7 := sm5.del yo5.g.so (hkx ▸ d7)
      have hx7 : x ∉ S7 := by
        rcases d7 with ⟨A, z, B', h1, h2, h3, rfl, _⟩ | ⟨h, _⟩
        · cases h3
          obtain ⟨hA, hB⟩ := so_ne (h1 ▸ yo5.g.so)
          exact fun q => (List.mem_append.mp q).elim (fun q => hA _ q rfl) fun q => hB _ q rfl
        · exact absurd rfl (h x hxS)
      have hl7 : S7.length + 1 = S5.length := by
        rcases d7 with ⟨A, z, B', h1, h2, h3, rfl, _⟩ | ⟨h, _⟩
        · rw [h1]; simp; lia
        · exact absurd rfl (h x hxS)
      have mo7 := mo6.frame s6.rep s7 f7 hcy hyt (fun q => q) (fun z hz => el_not_tree yo6.cl ha6 hz)
      have dl7 := (s7.D lf (nf_D dl6) (fun q => q)).trans dl6
      have dh7 := (s7.D held (nf_D dh6) (fun q => q)).trans dh6
      have lk7 := (s7.L l (nf_L lk6) no5 (fun q => q)).trans lk6
      have no7 : ¬ Own N7 l := fun q => (s7.own _ q).elim no5 (nf_L lk6)
      walk_at "u"
      refine cmp_isNot_rr ?_
      walk_at "u"
      refine c_refuses B (by lia) s7.rep yo7 elx (fun z hz _ e => hx7 (e ▸ hz)) fun H8 z => ?_
      obtain ⟨N8, _, yo8, s8, f8⟩ := z
      obtain ⟨rt7, ha7, T7⟩ := yo7.ex
      have mo8 := mo7.frame s7.rep s8 f8 hcy hyt (fun q => q) (fun z hz => el_not_tree yo7.cl ha7 hz)
      have elx8 : El H8 κ x := elx.ch s7.rep s8 (el_not_tree yo7.cl ha7 elx)
      have dl8 := (s8.D lf (nf_D dl7) (fun q => q)).trans dl7
      have dh8 := (s8.D held (nf_D dh7) (fun q => q)).trans dh7
      have lk8 := (s8.L l (nf_L lk7) no7 (fun q => q)).trans lk7
      have no8 : ¬ Own N8 l := fun q => (s8.own _ q).elim no7 (nf_L lk7)
      walk_at "u"
      refine CallOK.turn (c_stands B (by lia) s8.rep yo8 sm7 dl8 (fun z hz => ?_) fun H9 s9 => ?_) true
      · have hz' := sm7.mem hz
        exact (ks5 _ (List.mem_filter.mp hz').1).ne hkF
      · have mo9 := mo8.same s8.rep s9 (fun q => q) (fun q => q) no_el
        have yo9 := yo8.same s8.rep s9 (fun q => q) (fun q => q) no_el
        have elx9 : El H9 κ x := elx8.ch s8.rep s9 (no_el _ elx8)
        have dl9 := (s9.D lf (nf_D dl8) (fun q => q)).trans dl8
        have dh9 := (s9.D held (nf_D dh8) (fun q => q)).trans dh8
        have lk9 := (s9.L l (nf_L lk8) no8 (fun q => q)).trans lk8
        obtain ⟨rt9, ha9, T9⟩ := mo9.ex
        walk_at "u"
        refine ⟨rfl, ?_⟩
        walk_at "u"
        refine meth_fn ha9 (trF_no (by decide)) rfl ?_
        walk_at "u"
        refine c_delete_exact B (by lia) s9.rep mo9 elx9 (fun _ => ⟨rfl, ?_⟩) (fun _ q => by cases q) fun _ q _ => by cases q
        · walk_at "u"
          have hld : (mdel m5 key).length = S7.length := sm7.len.symm
          have hl5 := sm5.len
          refine ⟨by walk_at "r", by walk_at "r", by walk_at "r", by walk_at "r", by walk_at "r", by walk_at "r", by walk_at "r", .mk N8 S7 (mdel m5 key) s9.rep mo9 yo9 sm7 dl9 dh9 lk9 no8 (by lia) (fun j hj hjn q hq => ?_) fun p hp => ks5 p (List.mem_filter.mp hp).1⟩
          obtain ⟨z, hz⟩ := rem5 j (by lia) hjn q hq
          refine ⟨z, List.mem_filter.mpr ⟨hz, decide_eq_true fun e => ?_⟩⟩
          simp only at e
          subst e
          have nd : ms.Nodup := hp'.nodup_iff.mpr w.sam.nd
          have j0 := ix_lt (turn := turn) (j := j) (n := ms.length) (by lia)
          have e1 := (List.getElem?_inj (by lia) nd).mp (hkey.trans hq.symm)
          have e2 : ix turn ms.length k = ix turn ms.length j := by lia
          have := ix_inj (by lia) hkn hjn e2
          lia
  · rintro σ' H5 ⟨e1, e2, e3, e4, e5, e6, e7, N5, S5, m5, r5, mo5, yo5, sm5, dl5, dh5, lk5, no5, len5, rem5, ks5⟩
    have hz : S5.length = 0 := by rw [sm5.len]; lia
    walk_at "u"
    unfold len6
    walk_at "u"
    refine len_BTT B (by lia) yo5 ?_
    walk_at "u"
    rw [decide_eq_true (by lia)]
    walk_at "u"
    refine CallOK.turn (c_stands B (by lia) r5 mo5 w.sam dh5 (fun x hx => (w.ks _ (w.sam.mem hx)).ne ⟨0, by lia, rfl⟩) fun H9 s9 => ?_) true
    walk_at "u"
    exact kq _
end
noncomputable def lme8 : PS := .cons (.ret (.call "_law_sound" (.cons (.loc "many") (.cons (.loc "t") .nil)))) .nil
noncomputable def lme7 : PS := .cons (.ite (.or (.cons (.cmp .inn (.bin .add (.loc "name") (.int 1)) (.loc "many")) (.cons (.cmp .ne (.bcall .len (.cons (.loc "many") .nil)) (.bcall .len (.cons (.loc "names") .nil))) .nil))) (.cons (.ret (.bool false)) .nil) .nil) lme8
noncomputable def lme6 : PS := .cons (.ite (.cmp .ne (.cmp .inn (.loc "name") (.loc "many")) (.cmp .ne (.bin .mod (.loc "number") (.int 3)) (.int 0))) (.cons (.ret (.bool false)) .nil) .nil) lme7
noncomputable def lme5 : PS := .cons (.ite (.cmp .ne (.keys "seen") (.bcall .sorted (.cons (.loc "names") .nil))) (.cons (.ret (.bool false)) .nil) .nil) lme6
noncomputable def lme4 : PS := .cons (.expr (.meth (.loc "many") "visit_in_order" (.cons (.attr (.loc "seen") "append") .nil))) lme5
noncomputable def lme3 : PS := .cons (.assign "seen" (.lst .nil)) lme4
noncomputable def lme2 : PS := .cons (.ite (.cmp .eq (.bin .mod (.loc "number") (.int 3)) (.int 0)) (.cons (.expr (.meth (.loc "many") "discard" (.cons (.loc "name") .nil))) (.cons (.ite (.cmp .inn (.loc "name") (.loc "names")) (.cons (.expr (.meth (.loc "names") "remove" (.cons (.loc "name") .nil))) .nil) .nil) .nil)) (.cons (.expr (.meth (.loc "many") "add" (.cons (.loc "name") .nil))) (.cons (.ite (.cmp .notIn (.loc "name") (.loc "names")) (.cons (.expr (.meth (.loc "names") "append" (.cons (.loc "name") .nil))) .nil) .nil) .nil))) lme3
noncomputable def lme1 : PS := .cons (.assign "name" (.bin .mul (.neg (.int 5)) (.bin .mod (.bin .fdiv (.loc "number") (.int 3)) (.int 16)))) lme2
theorem lme_eq : f__law_member = lme1 := rfl
theorem nodup16' {nm : List Int} (nd : nm.Nodup) (kf : ∀ k ∈ nm, ∃ i : Nat, i < 16 ∧ k = -5 * (i : Int)) : nm.length ≤ 16 := nodup16 (g := fun i => -5 * (i : Int)) nd kf
noncomputable def nadd (nm : List Int) (k : Int) : List Int := if k ∈ nm then nm else nm ++ [k]
section
variable {cx : Cx} {tn : Bool} {H H' H'' H1 : AH} {X : Value → AH → Prop} {t : Int} {N N' N'' : NM} {h n : Nat} {κ κ' κ1 : Addr → Int} {eL eI eD : Addr → Prop} {W : Addr → Prop} {C a c cu : Addr} {im io io' : Bool} {S S' : List Addr} {mn names : Addr} {nm nm' : List Int} {σ : Loc} {v : AV} {key : Int}
structure SW (t : Int) (H : AH) (N : NM) (κ : Addr → Int) (mn c cu : Addr) (io : Bool) (names : Addr) (S : List Addr) (nm : List Int) : Prop where
  rep : Rep t H N
  bt : BT H N κ 614 mn c cu t (isC c) false io S
  mem : ∀ x ∈ S, H.I x = some (571, mbF (κ x))
  ln : H.L names = some (nm.map .int)
  no : ¬ Own N names
  nd : nm.Nodup
  kf : ∀ k ∈ nm, ∃ i : Nat, i < 16 ∧ k = -5 * (i : Int)
  pm : (S.map κ).Perm nm
  ne : cu ≠ names
inductive MidS (t : Int) (H : AH) (N : NM) (κ : Addr → Int) (mn c cu : Addr) (io : Bool) (nm' : List Int) (H' : AH) : Prop
  | mk (κ' : Addr → Int) (N' : NM) (S' : List Addr) (bt : BT H' N' κ' 614 mn c cu t (isC c) false io S') (mem : ∀ x ∈ S', H'.I x = some (571, mbF (κ' x))) (s : Ch no (at1 mn) no t H N H' N') (f : FrC c N N') (k : ∀ x, ¬ H.free x → κ' x = κ x) (pm : (S'.map κ').Perm nm')
inductive MemR (t : Int) (H : AH) (N : NM) (κ : Addr → Int) (mn c cu : Addr) (io : Bool) (names : Addr) (nm' : List Int) (H' : AH) : Prop
  | mk (κ' : Addr → Int) (N' : NM) (S' : List Addr) (w : SW t H' N' κ' mn c cu io names S' nm') (s : Ch (at1 names) (at1 mn) no t H N H' N') (f : FrC c N N') (k : ∀ x, ¬ H.free x → κ' x = κ x)
theorem SW.le16 (w : SW t H N κ mn c cu io names S nm) : S.length ≤ 16 := by
  rw [← List.length_map (f := κ), w.pm.length_eq]; exact nodup16' w.nd w.kf
theorem setSW (w : SW t H N κ mn c cu io names S nm) (M : MidS t H N κ mn c cu io nm' H') (nd : nm'.Nodup) (kf : ∀ k ∈ nm', ∃ i : Nat, i < 16 ∧ k = -5 * (i : Int)) : MemR t H N κ mn c cu io names nm' (H'.setL names (nm'.map .int)) := by
  obtain ⟨κ', N', S', bt, mem, s, f, k, pm⟩ := M
  have hno : ¬ Own N' names := fun q => (s.own _ q).elim w.no (nf_L w.ln)
  have s2 : Ch (at1 names) (at1 mn) no t H' N' (H'.setL names (nm'.map .int)) N' := Ch.setL s.rep (.inr ⟨rfl, hno⟩)
  have b2 := bt.same s.rep (Ch.setL (eL := at1 names) (eI := fun _ => False) (eD := fun _ => False) (xs := nm'.map .int) s.rep (.inr ⟨rfl, hno⟩)) (fun q => q) w.ne (fun _ _ q => q)
  exact .mk κ' N' S' ⟨s2.rep, b2, mem, upd_at, hno, nd, kf, pm, w.ne⟩ ((s.weak (fun _ q => q.elim) (fun _ q => q) (fun _ q => q)).trans s2) f k
theorem sameSW (w : SW t H N κ mn c cu io names S nm) (M : MidS t H N κ mn c cu io nm H') : MemR t H N κ mn c cu io names nm H' := by
  obtain ⟨κ', N', S', bt, mem, s, f, k, pm⟩ := M
  have hno : ¬ Own N' names := fun q => (s.own _ q).elim w.no (nf_L w.ln)
  exact .mk κ' N' S' ⟨s.rep, bt, mem, (s.L names (nf_L w.ln) w.no (fun q => q)).trans w.ln, hno, w.nd, w.kf, pm, w.ne⟩ (s.weak (fun _ q => q.elim) (fun _ q => q) (fun _ q => q)) f k
theorem memI (R : Rep t H N) {x : Addr} {k : Int} (e : H.I x = some (571, mbF k)) : N x = none := El.nn (κ := fun _ => k) R (.inr e)
theorem insSW (w : SW t H N κ mn c cu io names S nm) {x : Addr} (hf : H.free x) (i : InsB (updK κ x key) 614 mn c cu t io S (H.setI x 571 (mbF key)) N x v H') : MidS t H N κ mn c cu io (nadd nm key) H' := by
  obtain ⟨b1, s1⟩ := new_BT w.rep w.bt (x := x) (D := 571) (k := key) (fs := mbF key) hf
  obtain ⟨N', S', d, b2, s2, f2⟩ := i
  obtain ⟨rt, ha, T⟩ := b1.ex
  have hne : ∀ y ∈ S, y ≠ x := fun y hy => (w.bt.g.el y hy).ne_free hf
  have hS : S.map (updK κ x key) = S.map κ := List.map_congr_left fun y hy => updK_off (hne y hy)
  have s : Ch (fun _ => False) (at1 mn) (fun _ => False) t H N H' N' := (s1.weak (fun _ q => q.elim) (fun _ q => q.elim) (fun _ q => q.elim)).trans s2
  have hm1 : ∀ y, (y = x ∨ y ∈ S) → (H.setI x 571 (mbF key)).I y = some (571, mbF (updK κ x key y)) := fun y hy => by
    rcases hy with rfl | hy
    · rw [updK_at]; exact upd_at
    · rw [updK_off (hne y hy)]; exact (upd_off (hne y hy)).trans (w.mem y hy)
  refine .mk _ N' S' b2 (fun y hy => ?_) s f2 (fun y hy => updK_off fun q : y = x => hy (q ▸ hf)) ?_
  · have e := hm1 y (d.mem y hy)
    have hy1 : ¬ at1 mn y := el_not_tree b1.cl ha (show El _ (updK κ x key) y from .inr e)
    exact (s2.I y (nf_I e) (memI s1.rep e) hy1).trans e
  · unfold nadd
    rcases d with ⟨A, o, B, rfl, h2, rfl, _⟩ | ⟨A, B, rfl, rfl, _, h4, h5⟩
    · have hk : key ∈ nm := by
        refine w.pm.mem_iff.mp ?_
        rw [← hS]
        rw [updK_at] at h2
        have hm := List.mem_map_of_mem (f := updK κ x key) (show o ∈ A ++ o :: B by simp)
        rw [h2] at hm
        exact hm
      rw [if_pos hk]
      refine List.Perm.trans (List.Perm.of_eq ?_) w.pm
      rw [← hS, List.map_append, List.map_append, List.map_cons, List.map_cons, h2]
    · have hk : key ∉ nm := fun q => by
        have q := w.pm.mem_iff.mpr q
        rw [← hS] at q
        obtain ⟨y, hy, e⟩ := List.mem_map.mp q
        rw [updK_at] at h4 h5
        rcases List.mem_append.mp hy with p | p
        · have := h4 y p; lia
        · have := h5 y p; lia
      rw [if_neg hk]
      have p1 : (A ++ x :: B).Perm (x :: (A ++ B)) := List.perm_middle
      refine (p1.map _).trans ?_
      rw [List.map_cons, updK_at, hS]
      exact (w.pm.cons key).trans (List.perm_append_singleton key nm).symm
theorem delSW (w : SW t H N κ mn c cu io names S nm) (i : DelB κ (isC c) 614 mn c cu t io S H N key none v H') : MidS t H N κ mn c cu io (nm.erase key) H' := by
  obtain ⟨N', S', d, b2, s, f⟩ := i
  obtain ⟨rt, ha, T⟩ := w.bt.ex
  have hsub : ∀ y ∈ S', y ∈ S := by
    rcases d with ⟨A, o, B, rfl, _, _, rfl, _⟩ | ⟨_, _, rfl, _⟩
    · intro y hy
      rcases List.mem_append.mp hy with p | p
      · exact List.mem_append_left _ p
      · exact List.mem_append_right _ (List.mem_cons_of_mem _ p)
    · exact fun y hy => hy
  refine .mk κ N' S' b2 (fun y hy => ?_) s f (fun _ _ => rfl) ?_
  · have e := w.mem y (hsub y hy)
    have hy1 : ¬ at1 mn y := el_not_tree w.bt.cl ha (show El _ κ y from .inr e)
    exact (s.I y (nf_I e) (memI w.rep e) hy1).trans e
  · rcases d with ⟨A, o, B, rfl, rfl, _, rfl, _⟩ | ⟨h1, _, rfl, _⟩
    · have p1 : (A ++ o :: B).Perm (o :: (A ++ B)) := List.perm_middle
      have p2 := ((p1.map κ).symm.trans w.pm).erase (κ o)
      rw [List.map_cons, List.erase_cons_head] at p2
      exact p2
    · rw [List.erase_of_not_mem fun q => ?_]
      · exact w.pm
      · obtain ⟨y, hy, e⟩ := List.mem_map.mp (w.pm.mem_iff.mpr q)
        exact h1 y hy e
theorem keysL_of : ∀ {S : List Addr}, (∀ x ∈ S, H.I x = some (571, mbF (κ x))) → KeysL H (refs S) (S.map κ)
  | [], _ => .nil
  | x :: S, h => .cons (h x (List.mem_cons_self)) (keysL_of fun y hy => h y (List.mem_cons_of_mem _ hy))
theorem r_keys {x : String} {l : Addr} {xs : List AV} {ns : List Int} {Q : AV → AH → Prop} (h1 : σ x = some (.ref l)) (h2 : H.L l = some xs) (h3 : KeysL H xs ns) (h4 : ∀ (H₂ : AH) e k, H₂.I e = some (571, [("_key", .int k)]) → CallOK cx h false (.ref 568) [.ref e] H₂ (fun v H' => v = .int k ∧ H' = H₂) fun _ _ => False)
    (k : ∀ n, H.free n → Q (.ref n) (H.setL n (ns.map .int))) : wpE cx h tn X (.keys x) σ H Q := ⟨l, xs, ns, h1, h2, h3, h4, k⟩
end
section
variable {cx : Cx} {tn : Bool} {H H' H'' H1 : AH} {X : Value → AH → Prop} {t : Int} {N N' N'' : NM} {h n : Nat} {κ κ' κ1 : Addr → Int} {eL eI eD : Addr → Prop} {W : Addr → Prop} {C a c cu : Addr} {im io io' : Bool} {S S' : List Addr} {mn names : Addr} {nm nm' : List Int} {σ : Loc} {v : AV} {key : Int}
theorem keepSW (w : SW t H N κ mn c cu io names S nm) (s : Ch no no no t H N H' N) : SW t H' N κ mn c cu io names S nm :=
  ⟨s.rep, w.bt.same w.rep s (fun q => q) (fun q => q) no_el, fun x hx => (s.I x (nf_I (w.mem x hx)) (memI w.rep (w.mem x hx)) (fun q => q)).trans (w.mem x hx), (s.L names (nf_L w.ln) w.no (fun q => q)).trans w.ln, w.no, w.nd, w.kf, w.pm, w.ne⟩
theorem cmp_ne_L {l l' : Addr} {ns ns' : List Int} {Q : AV → AH → Prop} (h1 : H.L l = some (ns.map .int)) (h2 : H.L l' = some (ns'.map .int)) (k : Q (.bool (!decide (ns = ns'))) H) : cmpP cx h tn X H Q .ne (.ref l) (.ref l') :=
  .neL h1 h2 (intsOf_map ns) (intsOf_map ns') k
theorem cmp_ne_b {a b : Bool} {Q : AV → AH → Prop} (k : Q (.bool (a != b)) H) : cmpP cx h tn X H Q .ne (.bool a) (.bool b) := .neB k
theorem in_L {l : Addr} {ns : List Int} {i : Int} {Q : AV → AH → Prop} (h1 : H.L l = some (ns.map .int)) (k : Q (.bool (ns.contains i)) H) : cmpP cx h tn X H Q .inn (.int i) (.ref l) := .inL h1 (intsOf_map ns) k
theorem notin_L {l : Addr} {ns : List Int} {i : Int} {Q : AV → AH → Prop} (h1 : H.L l = some (ns.map .int)) (k : Q (.bool (!ns.contains i)) H) : cmpP cx h tn X H Q .notIn (.int i) (.ref l) := .notIn h1 (intsOf_map ns) k
theorem in_set (B : Bod cx) (hh : 6 ≤ h) (R : Rep t H N) (b : BT H N κ 614 a c cu t W im io S) {Q : AV → AH → Prop} (k : ∀ (q : Bool) H', (q = true ↔ key ∈ S.map κ) → TM H H' → Q (.bool q) H') : cmpP cx h false X H Q .inn (.int key) (.ref a) := by
  obtain ⟨rt, ha, T⟩ := b.ex
  exact .inO ha rfl (c_contains B hh R b fun H' q hq m => ⟨q, rfl, k q H' hq m⟩)
theorem lme_tail (B : Bod cx) (hh : 7 ≤ n) (w : SW t H N κ mn c cu io names S nm) {num name : Int} (e1 : σ "many" = some (.ref mn)) (e2 : σ "names" = some (.ref names)) (e3 : σ "name" = some (.int name)) (e4 : σ "number" = some (.int num)) (e5 : σ "t" = some (.int t))
    (hname : ∃ i : Nat, i < 16 ∧ name = -5 * (i : Int)) (hqn : name ∈ S.map κ ↔ num % 3 ≠ 0) {Qf : AV → AH → Prop} (hQ : ∀ H', Ch no no no t H N H' N → Qf (.bool true) H') : let K := retP Qf; wpS cx n false lme3 X σ H K := by
  intro K0
  have hl16 := w.le16
  have R := w.rep
  have b := w.bt
  have hnl : nm.length = S.length := by rw [← w.pm.length_eq, List.length_map]
  unfold lme3 lme4 lme5 lme6 lme7 lme8
  walk_at "u"
  refine lst_ (by simp) fun l hl => ?_
  have s1 : ChF t H N (H.setL l []) N := Ch.setL R (.inl hl)
  have w1 := keepSW w s1.unfree
  have hl1 : (H.setL l []).L l = some [] := upd_at
  generalize H.setL l [] = H1 at s1 w1 hl1 ⊢
  walk_at "u"
  obtain ⟨rt1, ha1, T1⟩ := w1.bt.ex
  refine meth_BT ha1 (by decide) rfl ?_
  walk_at "u"
  refine .app rfl l [] rfl hl1 fun q hq => ?_
  have s2 : ChF t H N (H1.setB q l) N := s1.trans (Ch.of (Step.setB s1.rep hq))
  have w2 := keepSW w s2.unfree
  have hq2 : (H1.setB q l).B q = some l := upd_at
  have hl2 : (H1.setB q l).L l = some [] := hl1
  generalize H1.setB q l = H2 at s2 w2 hq2 hl2 ⊢
  have hno : ¬ Own N l := fun q => own_nf R q hl
  walk_at "u"
  refine c_visit B (by lia) s2.rep w2.bt hq2 hl2 hno (by simp; lia) fun v => ?_
  have s3 : ChF t H N (H2.setL l ([] ++ refs S)) N := s2.trans (Ch.setL s2.rep (.inr ⟨.inl hl, hno⟩))
  have w3 := keepSW w s3.unfree
  have hl3 : (H2.setL l ([] ++ refs S)).L l = some (refs S) := upd_at
  generalize H2.setL l ([] ++ refs S) = H3 at s3 w3 hl3 ⊢
  walk_at "u"
  refine r_keys (by walk_at "l") hl3 (keysL_of w3.mem) (fun H₂ e k he => c_key (κ := fun _ => k) B (by lia) 568 (.inr ⟨rfl, he⟩) ⟨rfl, rfl⟩) fun p hp => ?_
  have s4 : ChF t H N (H3.setL p ((S.map κ).map .int)) N := s3.trans (Ch.setL s3.rep (.inl hp))
  have w4 := keepSW w s4.unfree
  have hp4 : (H3.setL p ((S.map κ).map .int)).L p = some ((S.map κ).map .int) := upd_at
  generalize H3.setL p ((S.map κ).map .int) = H4 at s4 w4 hp4 ⊢
  walk_at "u"
  refine .sortL _ _ nm rfl rfl w4.ln (intsOf_map nm) (by lia) fun q ms hq hpm hso => ?_
  have hms : S.map κ = ms := (w.pm.trans hpm.symm).eq_of_pairwise (fun a b _ _ h1 h2 => Int.le_antisymm h1 h2) (b.g.so.imp fun h => Int.le_of_lt h) hso
  have s5 : ChF t H N (H4.setL q (ms.map .int)) N := s4.trans (Ch.setL s4.rep (.inl hq))
  have w5 := keepSW w s5.unfree
  have hpq : p ≠ q := fun e => nf_L hp4 (e ▸ hq)
  have hp5 : (H4.setL q (ms.map .int)).L p = some ((S.map κ).map .int) := (upd_off hpq).trans hp4
  have hq5 : (H4.setL q (ms.map .int)).L q = some (ms.map .int) := upd_at
  generalize H4.setL q (ms.map .int) = H5 at s5 w5 hp5 hq5 ⊢
  refine cmp_ne_L hp5 hq5 ?_
  rw [decide_eq_true hms]
  walk_at "u"
  refine in_set B (by lia) s5.rep w5.bt fun q1 H6 hq1 m6 => ?_
  have s6 := s5.trans (Ch.of (m6.step s5.rep))
  have w6 := keepSW w s6.unfree
  walk_at "u"
  refine mod_L (by lia) ?_
  walk_at "u"
  refine cmp_ne_b ?_
  have hb : (q1 != decide (num % 3 ≠ 0)) = false := by
    have : q1 = decide (num % 3 ≠ 0) := by
      by_cases z : num % 3 ≠ 0
      · rw [decide_eq_true z]; exact hq1.mpr (hqn.mpr z)
      · rw [decide_eq_false z]
        cases q1 with
        | false => rfl
        | true => exact absurd (hqn.mp (hq1.mp rfl)) z
    rw [this]; simp
  rw [hb]
  walk_at "u"
  refine in_set B (by lia) s6.rep w6.bt fun q2 H7 hq2 m7 => ?_
  have s7 := s6.trans (Ch.of (m7.step s6.rep))
  have w7 := keepSW w s7.unfree
  obtain rfl : q2 = false := by
    cases q2 with
    | false => rfl
    | true =>
      exfalso
      obtain ⟨i, _, e⟩ := hname
      obtain ⟨j, _, e'⟩ := w.kf _ (w.pm.mem_iff.mp (hq2.mp rfl))
      lia
  walk_at "u"
  refine len_BT B (by lia) w7.bt ?_
  walk_at "u"
  refine len_L w7.ln ?_
  walk_at "u"
  rw [decide_eq_false (by rw [List.length_map, hnl]; simp)]
  walk_at "u"
  refine c_sound B (by lia) s7.rep w7.bt fun H8 m8 => ?_
  walk_at "u"
  exact hQ _ (s7.trans (Ch.of (m8.step s7.rep))).unfree
inductive MemD (t : Int) (H : AH) (N : NM) (κ : Addr → Int) (mn c cu : Addr) (io : Bool) (names : Addr) (H' : AH) : Prop
  | mk (κ' : Addr → Int) (N' : NM) (S' : List Addr) (nm' : List Int) (w : SW t H' N' κ' mn c cu io names S' nm') (s : Ch (at1 names) (at1 mn) no t H N H' N') (f : FrC c N N') (k : ∀ x, ¬ H.free x → κ' x = κ x)
theorem nadd_mem {k : Int} : k ∈ nadd nm k := by
  unfold nadd; split
  · assumption
  · simp
theorem nadd_sub {k y : Int} (h : y ∈ nadd nm k) : y ∈ nm ∨ y = k := by
  unfold nadd at h; split at h
  · exact .inl h
  · exact (List.mem_append.mp h).elim .inl fun q => .inr (List.mem_singleton.mp q)
theorem nadd_nd {k : Int} (nd : nm.Nodup) : (nadd nm k).Nodup := by
  unfold nadd; split
  · exact nd
  · rw [List.nodup_append]
    refine ⟨nd, by simp, fun a ha b hb e => ?_⟩
    rw [List.mem_singleton.mp hb] at e
    subst e
    contradiction
theorem nameF_of (x : Int) : ∃ i : Nat, i < 16 ∧ -5 * (x % 16) = -5 * (i : Int) := by
  have a1 := Int.emod_nonneg x (b := 16) (by lia)
  have a2 := Int.emod_lt_of_pos x (b := 16) (by lia)
  exact ⟨(x % 16).toNat, by lia, by lia⟩
theorem c_lmember (B : Bod cx) (F : FnB cx.K 685 ["many", "names", "number", "t"] f__law_member) (hh : 14 ≤ h) (w : SW t H N κ mn c cu io names S nm) {num : Int} (h0 : 0 ≤ num) (h1 : num < 20000) {Q : AV → AH → Prop} (kq : ∀ H', MemD t H N κ mn c cu io names H' → Q (.bool true) H') :
    CallOK cx h false (.ref 685) [.ref mn, .ref names, .int num, .int t] H Q X := by
  refine call_of' B.T (by lia) F rfl (fun q => by cases q) fun n hn => ?_
  intro K0
  have hl16 := w.le16
  have nl16 := nodup16' w.nd w.kf
  rw [lme_eq]
  unfold lme1 lme2
  have a1 := Int.emod_nonneg (num / 3) (b := 16) (by lia)
  have a2 := Int.emod_lt_of_pos (num / 3) (b := 16) (by lia)
  walk_at "u"
  refine fdiv_L (by lia) (by lia) ?_
  walk_at "u"
  refine mod_L (by lia) ?_
  refine mul_L (by lia) (by lia) ?_
  have hname := nameF_of (num / 3)
  generalize -5 * (num / 3 % 16) = name at hname ⊢
  have fin : ∀ nm' H1, (name ∈ nm' ↔ num % 3 ≠ 0) → MemR t H N κ mn c cu io names nm' H1 → wpS cx n false lme3 X ((bindσ ["many", "names", "number", "t"] [.ref mn, .ref names, .int num, .int t]).set "name" (.int name)) H1 K0 := by
    rintro nm' H1 hq ⟨κ1, N1, S1, w1, s1, f1, k1⟩
    refine lme_tail (num := num) (name := name) B (by lia) w1 (by walk_at "l") (by walk_at "l") (by walk_at "l") (by walk_at "l") (by walk_at "l") hname (w1.pm.mem_iff.trans hq) fun H2 s2 => ?_
    exact kq _ (.mk κ1 N1 S1 nm' (keepSW w1 s2) (s1.trans (s2.weak (fun _ q => q.elim) (fun _ q => q.elim) (fun _ q => q))) f1 k1)
  obtain ⟨rt, ha, T⟩ := w.bt.ex
  walk_at "u"
  refine mod_L (by lia) ?_
  walk_at "u"
  by_cases q : num % 3 = 0
  · rw [decide_eq_true q]
    walk_at "u"
    refine meth_fn ha (trF_no (by decide)) rfl ?_
    walk_at "u"
    refine c_discard B (by lia) w.rep w.bt fun _ H1 v d => ?_
    have M := delSW w d
    obtain ⟨N1, S1, _, _, s1, _⟩ := d
    have ln1 : H1.L names = some (nm.map .int) := (s1.L names (nf_L w.ln) w.no (fun q => q)).trans w.ln
    walk_at "u"
    refine in_L ln1 ?_
    have hmem : name ∉ nm.erase name := fun z => ((w.nd.mem_erase_iff).mp z).1 rfl
    by_cases z : name ∈ nm
    · rw [show nm.contains name = true from List.contains_iff_mem.mpr z]
      walk_at "u"
      refine meth_L ln1 (by simp) ?_
      walk_at "u"
      refine .remove _ _ nm rfl rfl ln1 (intsOf_map nm) z ?_
      walk_at "u"
      exact fin _ _ ⟨fun y => absurd y hmem, fun y => absurd q y⟩ (setSW w M (w.nd.erase _) fun k hk => w.kf k (List.mem_of_mem_erase hk))
    · rw [show nm.contains name = false from Bool.eq_false_iff.mpr fun y => z (List.contains_iff_mem.mp y)]
      rw [List.erase_of_not_mem z] at M
      walk_at "u"
      exact fin _ _ ⟨fun y => absurd y z, fun y => absurd q y⟩ (sameSW w M)
  · rw [decide_eq_false q]
    walk_at "u"
    refine meth_fn ha (trF_no (by decide)) rfl ?_
    walk_at "u"
    refine c_add B (by lia) w.rep w.bt hl16 fun _ H1 x _ v hf z1 i => ?_
    subst z1
    have M := insSW w hf i
    have ln1 : H1.L names = some (nm.map .int) := by
      obtain ⟨κ', N', S', bt, mem, s, f, k, pm⟩ := M
      exact (s.L names (nf_L w.ln) w.no (fun q => q)).trans w.ln
    have hm : name ∈ nadd nm name ↔ num % 3 ≠ 0 := ⟨fun _ => q, fun _ => nadd_mem⟩
    walk_at "u"
    refine notin_L ln1 ?_
    by_cases z : name ∈ nm
    · rw [show nm.contains name = true from List.contains_iff_mem.mpr z]
      rw [show nadd nm name = nm from if_pos z] at M hm
      walk_at "u"
      exact fin _ _ hm (sameSW w M)
    · rw [show nm.contains name = false from Bool.eq_false_iff.mpr fun y => z (List.contains_iff_mem.mp y)]
      have r := setSW w M (nadd_nd w.nd) fun k hk => (nadd_sub hk).elim (w.kf k) fun e => e ▸ hname
      rw [show nadd nm name = nm ++ [name] from if_neg z] at r hm
      rw [List.map_append] at r
      walk_at "u"
      refine meth_L ln1 (by simp) ?_
      walk_at "u"
      refine w_append ln1 (by rw [List.length_map]; lia) ?_
      walk_at "u"
      exact fin _ _ hm r
end
noncomputable def lw14 : PS := .cons (.ret (.call "_law_end" (.cons (.loc "tree") (.cons (.loc "held") (.cons (.loc "t") (.cons (.loc "first") .nil)))))) .nil
noncomputable def lw13 : PS := .cons (.forR "place" (.cons (.int 3) (.cons (.bcall .min (.cons (.bcall .max (.cons (.bcall .len (.cons (.loc "script") .nil)) (.cons (.int 13) .nil))) (.cons (.bin .sub (.int 14) (.bin .fdiv (.loc "fill") (.int 2))) .nil))) .nil)) (.cons (.assign "number" (.call "_law_draw" (.cons (.loc "script") (.cons (.loc "place") .nil)))) (.cons (.ite (.not (.call "_law_deed" (.cons (.loc "tree") (.cons (.loc "held") (.cons (.loc "gone") (.cons (.loc "number") (.cons (.bin .add (.int 100) (.loc "place")) (.cons (.loc "in_order") .nil)))))))) (.cons (.ret (.bool false)) .nil) .nil) (.cons (.ite (.not (.call "_law_stands" (.cons (.loc "tree") (.cons (.loc "held") (.cons (.loc "t") (.cons (.bin .sub (.bin .mul (.int 3) (.bin .mod (.bin .fdiv (.loc "number") (.int 10)) (.int 16))) (.int 20)) .nil)))))) (.cons (.ret (.bool false)) .nil) .nil) (.cons (.ite (.not (.call "_law_member" (.cons (.loc "many") (.cons (.loc "names") (.cons (.bin .add (.loc "number") (.loc "place")) (.cons (.loc "t") .nil)))))) (.cons (.ret (.bool false)) .nil) .nil) .nil))))) lw14
noncomputable def lw12 : PS := .cons (.ite (.not (.call "_law_stands" (.cons (.loc "tree") (.cons (.loc "held") (.cons (.loc "t") (.cons (.neg (.int 20)) .nil)))))) (.cons (.ret (.bool false)) .nil) .nil) lw13
noncomputable def lw11 : PS := .cons (.forR "step" (.cons (.loc "fill") .nil) (.cons (.ite (.not (.call "_law_new" (.cons (.loc "tree") (.cons (.loc "held") (.cons (.loc "gone") (.cons (.bin .sub (.bin .mul (.int 3) (.bin .mod (.bin .mul (.loc "step") (.loc "stride")) (.int 16))) (.int 20)) (.cons (.loc "step") (.cons (.loc "in_order") .nil)))))))) (.cons (.ret (.bool false)) .nil) .nil) (.cons (.expr (.meth (.loc "many") "add" (.cons (.bin .mul (.neg (.int 5)) (.bin .mod (.bin .mul (.loc "step") (.loc "stride")) (.int 16))) .nil))) (.cons (.expr (.meth (.loc "names") "append" (.cons (.bin .mul (.neg (.int 5)) (.bin .mod (.bin .mul (.loc "step") (.loc "stride")) (.int 16))) .nil))) .nil)))) lw12
noncomputable def lw10 : PS := .cons (.assign "names" (.lst .nil)) lw11
noncomputable def lw9 : PS := .cons (.assign "gone" (.lst .nil)) lw10
noncomputable def lw8 : PS := .cons (.assign "held" .dic) lw9
noncomputable def lw7 : PS := .cons (.assign "fill" (.bin .sub (.int 16) (.bin .mod (.call "_law_draw" (.cons (.loc "script") (.cons (.int 2) .nil))) (.int 17)))) lw8
noncomputable def lw6 : PS := .cons (.assign "stride" (.bin .add (.int 1) (.bin .mul (.int 2) (.bin .mod (.call "_law_draw" (.cons (.loc "script") (.cons (.int 1) .nil))) (.int 8))))) lw7
noncomputable def lw5 : PS := .cons (.assign "many" (.callK "BTreeSet" ["t", "in_order"] (.cons (.loc "t") (.cons (.loc "in_order") .nil)))) lw6
noncomputable def lw4 : PS := .cons (.assign "tree" (.callK "BTreeDict" ["t", "in_order"] (.cons (.loc "t") (.cons (.loc "in_order") .nil)))) lw5
noncomputable def lw3 : PS := .cons (.assign "in_order" (.cmp .eq (.bin .mod (.loc "first") (.int 2)) (.int 1))) lw4
noncomputable def lw2 : PS := .cons (.assign "t" (.bin .add (.int 3) (.bin .fdiv (.bin .mod (.loc "first") (.int 8)) (.int 3)))) lw3
noncomputable def lw1 : PS := .cons (.assign "first" (.call "_law_draw" (.cons (.loc "script") (.cons (.int 0) .nil)))) lw2
theorem lw_eq : f_law = lw1 := rfl
inductive NewT (κ : Addr → Int) (C : Addr) (t : Int) (H : AH) (N : NM) (io : Bool) (v : AV) (H' : AH) : Prop
  | mk (a c cu : Addr) (N' : NM) (e : v = .ref a) (fa : H.free a) (fc : H.free c) (fu : H.free cu) (b : BT H' N' κ C a c cu t (isC c) false io []) (s : Ch no no no t H N H' N') (f : FrC c N N')
noncomputable def MkNew (cx : Cx) (C : Addr) : Prop := ∀ {h : Nat} {tn : Bool} {H : AH} {X : Value → AH → Prop} {t : Int} {N : NM} {κ : Addr → Int} {io : Bool} {Q : AV → AH → Prop}, 6 ≤ h → (3 ≤ t ∧ t ≤ 5) → Rep t H N → (∀ v H', NewT κ C t H N io v H' → Q v H') → CallKOK cx h tn (.ref C) [] ["t", "in_order"] [.int t, .bool io] H Q X
structure Cr (tr c1 cu1 mn c2 cu2 gone names : Addr) : Prop where
  c : c1 ≠ c2
  t : tr ≠ mn
  g : cu2 ≠ gone
  n : cu1 ≠ names
  gn : gone ≠ names
section
variable {cx : Cx} {tn : Bool} {H H' H'' H1 : AH} {X : Value → AH → Prop} {t : Int} {N N' N'' : NM} {h n : Nat} {κ κ' κ1 : Addr → Int} {eL eI eD : Addr → Prop} {W : Addr → Prop} {io io' io1 io2 : Bool} {S S1 S2 : List Addr} {m : List (Int × Addr)} {G : List (Addr × Addr)} {sc tr c1 cu1 mn c2 cu2 held gone names : Addr} {nm nm' : List Int} {σ : Loc} {v : AV} {key : Int}
theorem max_L {a b : Int} {Q : AV → AH → Prop} (k : Q (.int (max a b)) H) : bcP cx h tn X .max [.int a, .int b] H Q := .max a b rfl rfl k
theorem min_L {a b : Int} {Q : AV → AH → Prop} (k : Q (.int (min a b)) H) : bcP cx h tn X .min [.int a, .int b] H Q := .min a b rfl rfl k
theorem frSW (w : SW t H N κ mn c2 cu2 io2 names S2 nm) (tw : TW t H N κ tr c1 cu1 io1 held gone S m G) (x : Cr tr c1 cu1 mn c2 cu2 gone names) (s : Ch (at1 gone) (at1 tr) (at1 held) t H N H' N') (f : FrC c1 N N') (k : ∀ x, ¬ H.free x → κ' x = κ x) : SW t H' N' κ' mn c2 cu2 io2 names S2 nm := by
  obtain ⟨rt, ha, T⟩ := tw.bt.ex
  have hx : ∀ x, El H κ x → ¬ at1 tr x := fun x e => el_not_tree (.inl rfl) ha e
  have hk : ∀ y ∈ S2, κ' y = κ y := fun y hy => k y (w.bt.g.el y hy).nf
  refine ⟨s.rep, (w.bt.frame w.rep s f (fun q => x.c q) (fun q => x.t q.symm) x.g hx).kap hk, fun y hy => ?_, (s.L names (nf_L w.ln) w.no (fun q => x.gn q.symm)).trans w.ln, fun q => (s.own _ q).elim w.no (nf_L w.ln), w.nd, w.kf, ?_, w.ne⟩
  · rw [hk y hy]
    exact (s.I y (nf_I (w.mem y hy)) (memI w.rep (w.mem y hy)) (hx y (w.bt.g.el y hy))).trans (w.mem y hy)
  · rw [List.map_congr_left hk]; exact w.pm
theorem frTW (w : TW t H N κ tr c1 cu1 io1 held gone S m G) (sw : SW t H N κ mn c2 cu2 io2 names S2 nm) (x : Cr tr c1 cu1 mn c2 cu2 gone names) (s : Ch (at1 names) (at1 mn) no t H N H' N') (f : FrC c2 N N') (k : ∀ x, ¬ H.free x → κ' x = κ x) : TW t H' N' κ' tr c1 cu1 io1 held gone S m G := by
  obtain ⟨rt, ha, T⟩ := sw.bt.ex
  have hx : ∀ x, El H κ x → ¬ at1 mn x := fun x e => el_not_tree (.inr rfl) ha e
  have hk : ∀ y, KVel H κ y → κ' y = κ y := fun y e => k y (show El H κ y from .inl e).nf
  have kk : ∀ y, KVel H κ y → KVel H' κ' y := fun y e => by
    have := e.ch w.rep s (hx y (.inl e))
    unfold KVel at this ⊢; rw [hk y e]; exact this
  refine ⟨s.rep, (w.bt.frame w.rep s f (fun q => x.c q.symm) x.t x.n hx).kap (fun y hy => k y (w.bt.g.el y hy).nf), ⟨fun p hp => (hk _ (w.kv p hp)).trans (w.sam.key p hp), w.sam.nd, w.sam.pm⟩, (s.D held (nf_D w.hd) (fun q => q)).trans w.hd, fun p hp => kk _ (w.kv p hp), w.ks, (s.L gone (nf_L w.gn) w.no x.gn).trans w.gn, fun g hg => ?_, w.gd, w.gs, fun q => (s.own _ q).elim w.no (nf_L w.gn), w.ne⟩
  obtain ⟨h1, h2, h3⟩ := w.gt g hg
  rw [hk _ h2]
  exact ⟨(s.T _ (nf_T h1)).trans h1, kk _ h2, h3⟩
inductive LW (t : Int) (tr c1 cu1 : Addr) (io1 : Bool) (mn c2 cu2 : Addr) (io2 : Bool) (held gone names : Addr) (g : Nat) (P : List Int → Prop) (H : AH) : Prop
  | mk (N : NM) (κ : Addr → Int) (S : List Addr) (m : List (Int × Addr)) (G : List (Addr × Addr)) (S2 : List Addr) (nm : List Int) (tw : TW t H N κ tr c1 cu1 io1 held gone S m G) (sw : SW t H N κ mn c2 cu2 io2 names S2 nm) (gl : G.length ≤ g) (p : P nm)
structure LS (σ : Loc) (sc tr mn held gone names : Addr) (t first stride fill : Int) (io : Bool) : Prop where
  e1 : σ "script" = some (.ref sc)
  e2 : σ "tree" = some (.ref tr)
  e3 : σ "many" = some (.ref mn)
  e4 : σ "held" = some (.ref held)
  e5 : σ "gone" = some (.ref gone)
  e6 : σ "names" = some (.ref names)
  e7 : σ "t" = some (.int t)
  e8 : σ "first" = some (.int first)
  e9 : σ "stride" = some (.int stride)
  e10 : σ "fill" = some (.int fill)
  e11 : σ "in_order" = some (.bool io)
theorem LW.keep {g : Nat} {P : List Int → Prop} (w : LW t tr c1 cu1 io1 mn c2 cu2 io2 held gone names g P H) (hs : ∀ N, Rep t H N → Ch no no no t H N H' N) : LW t tr c1 cu1 io1 mn c2 cu2 io2 held gone names g P H' := by
  obtain ⟨N, κ, S, m, G, S2, nm, tw, sw, gl, p⟩ := w
  have s := hs N tw.rep
  exact .mk N κ S m G S2 nm (quietTW tw (s.weak (fun _ q => q) (fun _ q => q.elim) (fun _ q => q)) (tw.bt.same tw.rep s (fun q => q) (fun q => q) no_el)) (keepSW sw s) gl p
variable {first stride fill : Int} {io : Bool}
theorem lw_13 (B : Bod cx) (F : FnB cx.K 685 ["many", "names", "number", "t"] f__law_member) (M : MkCopy cx) (hh : 14 ≤ n) {ns : Nat} (scr : Scr cx sc ns) (x : Cr tr c1 cu1 mn c2 cu2 gone names) (ls : LS σ sc tr mn held gone names t first stride fill io) (h0 : 0 ≤ first) (h1 : first < 16000) (f0 : 0 ≤ fill) (f1 : fill ≤ 16) (w : LW t tr c1 cu1 io1 mn c2 cu2 io2 held gone names 16 (fun _ => True) H) :
    let K := retP (fun r _ => r = .bool true); wpS cx n true lw13 noX σ H K := by
  intro K0
  obtain ⟨e1, e2, e3, e4, e5, e6, e7, e8, e9, e10, e11⟩ := ls
  obtain ⟨ws, ps, g1, g2, g3, g4, g5⟩ := id scr
  unfold lw13
  walk_at "u"
  refine .lenR _ ws rfl rfl g1 (by lia) g4 ?_
  walk_at "u"
  refine max_L ?_
  walk_at "u"
  refine fdiv_L (by lia) (by lia) ?_
  walk_at "u"
  refine min_L ?_
  have hv1 : -1000000 < min (max (ws.length : Int) 13) (14 - fill / 2) := Int.lt_of_lt_of_le (show (-1000000 : Int) < 0 by decide) (Int.le_min.mpr ⟨Int.le_trans (by decide) (Int.le_max_right _ _), by lia⟩)
  have hv2 : min (max (ws.length : Int) 13) (14 - fill / 2) ≤ 14 := Int.le_trans (Int.min_le_right _ _) (by lia)
  generalize min (max (ws.length : Int) 13) (14 - fill / 2) = v at *
  walk_at "u"
  refine ⟨3, _, fun k σ' H' => LS σ' sc tr mn held gone names t first stride fill io ∧ LW t tr c1 cu1 io1 mn c2 cu2 io2 held gone names (16 + k) (fun _ => True) H', .inr _ _ rfl rfl rfl (by lia) (by lia) (by lia) (by lia), ⟨⟨e1, e2, e3, e4, e5, e6, e7, e8, e9, e10, e11⟩, w⟩, ?_, ?_⟩
  · rintro k σ' H1 hk ⟨⟨e1, e2, e3, e4, e5, e6, e7, e8, e9, e10, e11⟩, w1⟩
    have hk : k < 11 := by lia
    clear hv1 hv2
    walk_at "u"
    refine CallOK.turn (c_draw B (by lia) scr (by lia) (by lia) fun num n0 n1 => ?_) true
    obtain ⟨N1, κ1, S1, m1, G1, S2, nm, tw1, sw1, gl1, _⟩ := w1
    walk_at "u"
    refine c_deed B (by lia) tw1 n0 n1 (by lia) fun H2 z => ?_
    obtain ⟨κ2, N2, S2', m2, G2, tw2, s2, f2, k2, l2⟩ := z
    have sw2 := frSW sw1 tw1 x s2 f2 k2
    walk_at "u"
    refine fdiv_L (by lia) (by lia) ?_
    walk_at "u"
    refine mod_L (by lia) ?_
    have a1 := Int.emod_nonneg (num / 10) (b := 16) (by lia)
    have a2 := Int.emod_lt_of_pos (num / 10) (b := 16) (by lia)
    refine mul_L (by lia) (by lia) ?_
    walk_at "u"
    refine CallOK.turn (c_stands B (by lia) tw2.rep tw2.bt tw2.sam tw2.hd (fun z hz => (tw2.ks _ (tw2.sam.mem hz)).ne (keyF_of _)) fun H3 s3 => ?_) true
    have sw3 := keepSW sw2 s3
    have tw3 := quietTW tw2 (s3.weak (fun _ q => q) (fun _ q => q.elim) (fun _ q => q)) (tw2.bt.same tw2.rep s3 (fun q => q) (fun q => q) no_el)
    walk_at "u"
    refine CallOK.turn (c_lmember B F (by lia) sw3 (by lia) (by lia) fun H4 z => ?_) true
    obtain ⟨κ4, N4, S4, nm4, sw4, s4, f4, k4⟩ := z
    have tw4 := frTW tw3 sw3 x s4 f4 k4
    walk_at "u"
    refine ⟨⟨?_, ?_, ?_, ?_, ?_, ?_, ?_, ?_, ?_, ?_, ?_⟩, .mk N4 κ4 _ _ G2 S4 nm4 tw4 sw4 (by lia) trivial⟩ <;> walk_at "r"
  · rintro σ' H1 ⟨⟨e1, e2, e3, e4, e5, e6, e7, e8, e9, e10, e11⟩, w1⟩
    obtain ⟨N1, κ1, S1, m1, G1, S2, nm, tw1, sw1, gl1, _⟩ := w1
    walk_at "u"
    unfold lw14
    walk_at "u"
    refine c_end B M (by lia) tw1 h0 h1 fun H2 => ?_
    walk_at "u"
    rfl
theorem odd_inj {r : Int} (h0 : 0 ≤ r) (h1 : r < 8) {a b : Int} (ha : 0 ≤ a ∧ a < 16) (hb : 0 ≤ b ∧ b < 16) (e : a * (1 + 2 * r) % 16 = b * (1 + 2 * r) % 16) : a = b := by
  obtain ⟨r, rfl⟩ := Int.eq_ofNat_of_zero_le h0
  obtain ⟨a, rfl⟩ := Int.eq_ofNat_of_zero_le ha.1
  obtain ⟨b, rfl⟩ := Int.eq_ofNat_of_zero_le hb.1
  refine congrArg Int.ofNat (modm2 (m := 0) (n := 16) (k := 1 + 2 * r) (cop16 r (by lia)) (by lia) (by lia) ?_)
  rw [Int.zero_add, Int.zero_add, Int.mul_comm _ (a : Int), Int.mul_comm _ (b : Int)]
  exact e
end
section
variable {cx : Cx} {tn : Bool} {H H' H'' H1 : AH} {X : Value → AH → Prop} {t : Int} {N N' N'' : NM} {h n : Nat} {κ κ' κ1 : Addr → Int} {eL eI eD : Addr → Prop} {W : Addr → Prop} {io io' io1 io2 : Bool} {S S1 S2 : List Addr} {m : List (Int × Addr)} {G : List (Addr × Addr)} {sc tr c1 cu1 mn c2 cu2 held gone names : Addr} {nm nm' : List Int} {σ : Loc} {v : AV} {key : Int}
variable {first stride fill : Int} {io : Bool}
theorem lw_12 (B : Bod cx) (F : FnB cx.K 685 ["many", "names", "number", "t"] f__law_member) (M : MkCopy cx) (hh : 14 ≤ n) {ns : Nat} (scr : Scr cx sc ns) (x : Cr tr c1 cu1 mn c2 cu2 gone names) (ls : LS σ sc tr mn held gone names t first stride fill io) (h0 : 0 ≤ first) (h1 : first < 16000) (f0 : 0 ≤ fill) (f1 : fill ≤ 16) {P : List Int → Prop} (w : LW t tr c1 cu1 io1 mn c2 cu2 io2 held gone names 16 P H) :
    let K := retP (fun r _ => r = .bool true); wpS cx n true lw12 noX σ H K := by
  intro K0
  obtain ⟨N1, κ1, S1, m1, G1, S2, nm, tw1, sw1, gl1, _⟩ := w
  have nx : ∀ H', Ch no no no t H N1 H' N1 → wpS cx n true lw13 noX σ H' K0 := fun H' s => by
    refine lw_13 (io1 := io1) (io2 := io2) B F M hh scr x ls h0 h1 f0 f1 (.mk N1 κ1 S1 m1 G1 S2 nm (quietTW tw1 (s.weak (fun _ q => q) (fun _ q => q.elim) (fun _ q => q)) (tw1.bt.same tw1.rep s (fun q => q) (fun q => q) no_el)) (keepSW sw1 s) gl1 trivial)
  obtain ⟨e1, e2, e3, e4, e5, e6, e7, e8, e9, e10, e11⟩ := ls
  unfold lw12
  walk_at "u"
  refine CallOK.turn (c_stands B (by lia) tw1.rep tw1.bt tw1.sam tw1.hd (fun z hz => (tw1.ks _ (tw1.sam.mem hz)).ne ⟨0, by lia, rfl⟩) fun H3 s3 => ?_) true
  walk_at "u"
  exact nx H3 s3
theorem lw_11 (B : Bod cx) (F : FnB cx.K 685 ["many", "names", "number", "t"] f__law_member) (M : MkCopy cx) (hh : 14 ≤ n) {ns : Nat} (scr : Scr cx sc ns) (x : Cr tr c1 cu1 mn c2 cu2 gone names) {r : Int} (hs : stride = 1 + 2 * r) (r0 : 0 ≤ r) (r1 : r < 8) (ls : LS σ sc tr mn held gone names t first stride fill io) (h0 : 0 ≤ first) (h1 : first < 16000) (f0 : 0 ≤ fill) (f1 : fill ≤ 16) (w : LW t tr c1 cu1 io1 mn c2 cu2 io2 held gone names 0 (fun nm => nm = []) H) :
    let K := retP (fun r _ => r = .bool true); wpS cx n true lw11 noX σ H K := by
  intro K0
  obtain ⟨e1, e2, e3, e4, e5, e6, e7, e8, e9, e10, e11⟩ := ls
  unfold lw11
  walk_at "u"
  have w0 : LW t tr c1 cu1 io1 mn c2 cu2 io2 held gone names (0 + 0) (fun nm => ∀ y ∈ nm, ∃ j : Nat, j < 0 ∧ y = -5 * ((j : Int) * stride % 16)) H := by
    obtain ⟨N1, κ1, S1, m1, G1, S2, nm, tw1, sw1, gl1, rfl⟩ := w
    exact .mk N1 κ1 S1 m1 G1 S2 [] tw1 sw1 gl1 fun y hy => by cases hy
  refine ⟨0, _, fun k σ' H' => LS σ' sc tr mn held gone names t first stride fill io ∧ LW t tr c1 cu1 io1 mn c2 cu2 io2 held gone names (0 + k) (fun nm => ∀ y ∈ nm, ∃ j : Nat, j < k ∧ y = -5 * ((j : Int) * stride % 16)) H', .inl _ rfl rfl rfl (by lia) (by lia), ⟨⟨e1, e2, e3, e4, e5, e6, e7, e8, e9, e10, e11⟩, w0⟩, ?_, ?_⟩
  · rintro k σ' H1 hk ⟨⟨e1, e2, e3, e4, e5, e6, e7, e8, e9, e10, e11⟩, w1⟩
    obtain ⟨N1, κ1, S1, m1, G1, S2, nm, tw1, sw1, gl1, hp⟩ := w1
    have a1 := Int.emod_nonneg ((0 + (k : Int)) * stride) (b := 16) (by lia)
    have a2 := Int.emod_lt_of_pos ((0 + (k : Int)) * stride) (b := 16) (by lia)
    walk_at "u"
    refine mul_L (by lia) (by lia) ?_
    walk_at "u"
    refine mod_L (by lia) ?_
    refine mul_L (by lia) (by lia) ?_
    walk_at "u"
    refine c_new_ B (by lia) tw1 (keyF_of _) (by lia) fun H2 z => ?_
    obtain ⟨κ2, N2, S2', m2, G2, tw2, s2, f2, k2, l2⟩ := z
    have sw2 := frSW sw1 tw1 x s2 f2 k2
    obtain ⟨rt2, ha2, T2⟩ := sw2.bt.ex
    walk_at "u"
    refine meth_fn ha2 (trF_no (by decide)) rfl ?_
    walk_at "u"
    refine mul_L (by lia) (by lia) ?_
    walk_at "u"
    refine mod_L (by lia) ?_
    refine mul_L (by lia) (by lia) ?_
    walk_at "u"
    refine CallOK.turn (c_add B (by lia) sw2.rep sw2.bt sw2.le16 fun _ H3 z _ v hf z1 i => ?_) true
    subst z1
    have M3 := insSW sw2 hf i
    have ln3 : H3.L names = some (nm.map .int) := by
      obtain ⟨κ', N', S', bt, mem, s, f, k, pm⟩ := M3
      exact (s.L names (nf_L sw2.ln) sw2.no (fun q => q)).trans sw2.ln
    have hnew : -5 * ((0 + (k : Int)) * stride % 16) ∉ nm := fun q => by
      obtain ⟨j, hj, e⟩ := hp _ q
      have e' : (0 + (k : Int)) * (1 + 2 * r) % 16 = (j : Int) * (1 + 2 * r) % 16 := by rw [← hs]; lia
      have := odd_inj r0 r1 (by lia) (by lia) e'
      lia
    have hname := nameF_of ((0 + (k : Int)) * stride)
    have rr := setSW sw2 M3 (nadd_nd sw2.nd) fun k hk => (nadd_sub hk).elim (sw2.kf k) fun e => e ▸ hname
    rw [show nadd nm (-5 * ((0 + (k : Int)) * stride % 16)) = nm ++ [-5 * ((0 + (k : Int)) * stride % 16)] from if_neg hnew] at rr
    have nl16 := nodup16' sw2.nd sw2.kf
    walk_at "u"
    refine meth_L ln3 (by simp) ?_
    walk_at "u"
    refine mul_L (by lia) (by lia) ?_
    walk_at "u"
    refine mod_L (by lia) ?_
    refine mul_L (by lia) (by lia) ?_
    walk_at "u"
    refine w_append ln3 (by rw [List.length_map]; lia) ?_
    rw [List.map_append] at rr
    obtain ⟨κ4, N4, S4, sw4, s4, f4, k4⟩ := rr
    have tw4 := frTW tw2 sw2 x s4 f4 k4
    walk_at "u"
    refine ⟨⟨?_, ?_, ?_, ?_, ?_, ?_, ?_, ?_, ?_, ?_, ?_⟩, .mk N4 κ4 _ _ G2 S4 _ tw4 sw4 (by lia) fun y hy => ?_⟩
    iterate 11 walk_at "r"
    rcases List.mem_append.mp hy with q | q
    · obtain ⟨j, hj, e⟩ := hp y q
      exact ⟨j, by lia, e⟩
    · exact ⟨k, by lia, by rw [List.mem_singleton.mp q, Int.zero_add]⟩
  · rintro σ' H1 ⟨ls, w1⟩
    have w2 : LW t tr c1 cu1 io1 mn c2 cu2 io2 held gone names 16 (fun _ => True) H1 := by
      obtain ⟨N1, κ1, S1, m1, G1, S2, nm, tw1, sw1, gl1, _⟩ := w1
      exact .mk N1 κ1 S1 m1 G1 S2 nm tw1 sw1 (by lia) trivial
    walk_at "u"
    exact lw_12 B F M hh scr x ls h0 h1 f0 f1 w2
theorem rep_none : Rep t H (fun _ => none) := ⟨fun _ _ h => (nomatch h), fun _ _ _ _ h => (nomatch h), fun _ _ h => (nomatch h)⟩
theorem own_none {b : Addr} : ¬ Own (fun _ => none) b := fun ⟨_, _, h, _⟩ => (nomatch h)
theorem w_law (B : Bod cx) (F : FnB cx.K 685 ["many", "names", "number", "t"] f__law_member) (M : MkCopy cx) (M1 : MkNew cx 545) (M2 : MkNew cx 614) (hh : 14 ≤ n) {ns : Nat} (scr : Scr cx sc ns) :
    let K := retP (fun v _ => v = .bool true); wpS cx n true f_law noX (bindσ ["script"] [.ref sc]) H K := by
  intro K0
  rw [lw_eq]
  unfold lw1 lw2 lw3 lw4 lw5 lw6 lw7 lw8 lw9 lw10
  walk_at "u"
  refine CallOK.turn (c_draw B (by lia) scr (by lia) (by lia) fun first n0 n1 => ?_) true
  walk_at "u"
  refine mod_L (by lia) ?_
  walk_at "u"
  have a1 := Int.emod_nonneg first (b := 8) (by lia)
  have a2 := Int.emod_lt_of_pos first (b := 8) (by lia)
  refine fdiv_L (by lia) (by lia) ?_
  walk_at "u"
  obtain ⟨t, ht⟩ : ∃ t, t = 3 + first % 8 / 3 := ⟨_, rfl⟩
  have ht5 : 3 ≤ t ∧ t ≤ 5 := by lia
  rw [← ht]
  refine mod_L (by lia) ?_
  walk_at "u"
  generalize decide (first % 2 = 1) = io
  refine M1 (κ := fun _ => 0) (by lia) ht5 rep_none fun _ H1 z => ?_
  obtain ⟨tr, c1, cu1, N1, rfl, fa1, fc1, fu1, b1, s1, f1⟩ := z
  walk_at "u"
  refine M2 (κ := fun _ => 0) (by lia) ht5 s1.rep fun _ H2 z => ?_
  obtain ⟨mn, c2, cu2, N2, rfl, fa2, fc2, fu2, b2, s2, f2⟩ := z
  have hc : c1 ≠ c2 := fun q => b1.g.cr c1 b1.wc (q ▸ fc2.2.1)
  have htm : tr ≠ mn := fun q => by
    obtain ⟨rt, ha, _⟩ := b1.ex
    exact nf_I ha (q ▸ fa2)
  have t2 := b1.frame s1.rep s2 f2 (fun q => hc q.symm) (fun q => q) (fun q => q) no_el
  walk_at "u"
  refine CallOK.turn (c_draw B (by lia) scr (by lia) (by lia) fun d1 n2 n3 => ?_) true
  walk_at "u"
  refine mod_L (by lia) ?_
  have a3 := Int.emod_nonneg d1 (b := 8) (by lia)
  have a4 := Int.emod_lt_of_pos d1 (b := 8) (by lia)
  refine mul_L (by lia) (by lia) ?_
  walk_at "u"
  obtain ⟨stride, hs⟩ : ∃ s, s = 1 + 2 * (d1 % 8) := ⟨_, rfl⟩
  rw [← hs]
  refine CallOK.turn (c_draw B (by lia) scr (by lia) (by lia) fun d2 n4 n5 => ?_) true
  walk_at "u"
  refine mod_L (by lia) ?_
  have a5 := Int.emod_nonneg d2 (b := 17) (by lia)
  have a6 := Int.emod_lt_of_pos d2 (b := 17) (by lia)
  walk_at "u"
  obtain ⟨fill, hf⟩ : ∃ s, s = 16 - d2 % 17 := ⟨_, rfl⟩
  rw [← hf]
  intro held hh
  have s3 : Ch no no no t H2 N2 (H2.setD held []) N2 := Ch.setD s2.rep (.inl hh)
  have hd3 : (H2.setD held []).D held = some (dE []) := upd_at
  have t3 := t2.same s2.rep s3 (fun q => q) (fun q => q) no_el
  have b3 := b2.same s2.rep s3 (fun q => q) (fun q => q) no_el
  generalize H2.setD held [] = H3 at s3 hd3 t3 b3 ⊢
  walk_at "u"
  refine lst_ (by simp) fun gone hg => ?_
  have s4 : Ch no no no t H3 N2 (H3.setL gone []) N2 := Ch.setL s3.rep (.inl hg)
  have hd4 : (H3.setL gone []).D held = some (dE []) := hd3
  have gn4 : (H3.setL gone []).L gone = some [] := upd_at
  have t4 := t3.same s3.rep s4 (fun q => q) (fun q => q) no_el
  have b4 := b3.same s3.rep s4 (fun q => q) (fun q => q) no_el
  have c1g : cu1 ≠ gone := fun q => nf_L t3.em (q ▸ hg)
  have c2g : cu2 ≠ gone := fun q => nf_L b3.em (q ▸ hg)
  have ng : ¬ Own N2 gone := fun q => own_nf s3.rep q hg
  generalize H3.setL gone [] = H4 at s4 hd4 gn4 t4 b4 ⊢
  walk_at "u"
  refine lst_ (by simp) fun names hn => ?_
  have s5 : Ch no no no t H4 N2 (H4.setL names []) N2 := Ch.setL s4.rep (.inl hn)
  have gnn : gone ≠ names := fun q => nf_L gn4 (q ▸ hn)
  have hd5 : (H4.setL names []).D held = some (dE []) := hd4
  have gn5 : (H4.setL names []).L gone = some [] := (upd_off gnn).trans gn4
  have nn5 : (H4.setL names []).L names = some [] := upd_at
  have t5 := t4.same s4.rep s5 (fun q => q) (fun q => q) no_el
  have b5 := b4.same s4.rep s5 (fun q => q) (fun q => q) no_el
  have c1n : cu1 ≠ names := fun q => nf_L t4.em (q ▸ hn)
  have c2n : cu2 ≠ names := fun q => nf_L b4.em (q ▸ hn)
  have nno : ¬ Own N2 names := fun q => own_nf s4.rep q hn
  generalize H4.setL names [] = H5 at s5 hd5 gn5 nn5 t5 b5 ⊢
  have tw : TW t H5 N2 (fun _ => 0) tr c1 cu1 io held gone [] [] [] :=
    ⟨s5.rep, t5, ⟨fun p hp => (nomatch hp), List.nodup_nil, .nil⟩, hd5, fun p hp => (nomatch hp), fun p hp => (nomatch hp), gn5, fun p hp => (nomatch hp), List.nodup_nil, fun p hp => (nomatch hp), ng, c1g⟩
  have sw : SW t H5 N2 (fun _ => 0) mn c2 cu2 io names [] [] :=
    ⟨s5.rep, b5, fun p hp => (nomatch hp), nn5, nno, List.nodup_nil, fun p hp => (nomatch hp), .nil, c2n⟩
  walk_at "u"
  refine lw_11 (io1 := io) (io2 := io) B F M (by lia) scr ⟨hc, htm, c2g, c1n, gnn⟩ hs a3 a4 (first := first) (fill := fill) (io := io) ?_ n0 n1 (by lia) (by lia) (.mk N2 _ [] [] [] [] [] tw sw (by simp) rfl)
  refine ⟨?_, ?_, ?_, ?_, ?_, ?_, ?_, ?_, ?_, ?_, ?_⟩ <;> walk_at "r"
end
noncomputable def trF6 (c cu rt : Addr) (t n : Int) (im : Bool) : List (String × AV) := [("creator", .ref c), ("_immutable", .bool im), ("cursors", .ref cu), ("t", .int t), ("root", .ref rt), ("size", .int n)]
section
variable {cx : Cx} {tn : Bool} {H H' H'' H1 : AH} {X : Value → AH → Prop} {t : Int} {N N' N'' : NM} {h n : Nat} {κ κ' κ1 : Addr → Int} {W : Addr → Prop} {C a c cu : Addr} {im io io' : Bool} {S S' : List Addr} {σ : Loc}
theorem c_creator (B : Bod cx) (hh : 1 ≤ h) {Q : AV → AH → Prop} (kq : ∀ x, H.free x → Q (.ref x) (H.setI x 66 [])) : CallOK cx h false (.ref 66) [] H Q X := by
  obtain ⟨m, rfl⟩ : ∃ m, h = m + 1 := ⟨h - 1, by lia⟩
  exact CallOK.of_class0 (B.T.makes 66 (by decide)) B.T.creator fun x hf => kq x hf
inductive Init6 (C a : Addr) (t : Int) (H : AH) (N : NM) (H' : AH) : Prop
  | mk (c cu rt : Addr) (N' : NM) (fc : H.free c) (fu : H.free cu) (hI : H'.I a = some (C, trF6 c cu rt t 0 false)) (T : Tree N' (isC c) t rt []) (em : H'.L cu = some []) (no : ¬ Own N' cu) (cI : H'.I c ≠ none) (s : Ch (fun _ => False) (at1 a) (fun _ => False) t H N H' N') (f : FrC c N N')
theorem w_init_new (B : Bod cx) (hh : 3 ≤ n) (R : Rep t H N) (ht : 3 ≤ t ∧ t ≤ 5) (hC : C = 545 ∨ C = 614) (ha : H.I a = some (C, [])) (hna : N a = none) {Qv : AV → AH → Prop} (kk : ∀ H', Init6 C a t H N H' → Qv .none H') :
    let K := retP Qv; wpS cx n false f_BTree___init__ X (bindσ ["self", "t", "original"] [.ref a, .int t, .none]) H K := by
  intro K0
  have hf : ∀ x, x ∈ fields 545 → x ∈ fields C := fun x hx => fields_t hC hx
  unfold f_BTree___init__
  walk_at "u"
  refine c_creator B (by lia) fun c fc => ?_
  have hac : a ≠ c := fun q => nf_I ha (q ▸ fc)
  have ha1 : (H.setI c 66 []).I a = some (C, []) := (upd_off hac).trans ha
  have s1 : Ch no (at1 a) no t H N (H.setI c 66 []) N := Ch.setI R (free_none R fc) (.inl fc)
  have c1 : (H.setI c 66 []).I c ≠ none := by rw [show (H.setI c 66 []).I c = some (66, []) from upd_at]; simp
  generalize H.setI c 66 [] = H1 at ha1 s1 c1 ⊢
  walk_at "u"
  refine sa2 ha1 (by simp) (hf _ (by decide)) ?_
  have s2 := s1.trans (Ch.setI (C := C) (fs := putF "creator" (.ref c) []) s1.rep hna (.inr rfl))
  have ha2 : (H1.setI a C (putF "creator" (.ref c) [])).I a = some (C, [("creator", .ref c)]) := upd_at
  have c2 : (H1.setI a C (putF "creator" (.ref c) [])).I c ≠ none := inst_setI c1
  generalize H1.setI a C (putF "creator" (.ref c) []) = H2 at c2 s2 ha2 ⊢
  walk_at "u"
  refine sa2 ha2 (by simp) (hf _ (by decide)) ?_
  have s3 := s2.trans (Ch.setI (C := C) (fs := putF "_immutable" (.bool false) [("creator", .ref c)]) s2.rep hna (.inr rfl))
  have ha3 : (H2.setI a C (putF "_immutable" (.bool false) [("creator", .ref c)])).I a = some (C, [("creator", .ref c), ("_immutable", .bool false)]) := upd_at
  have c3 : (H2.setI a C (putF "_immutable" (.bool false) [("creator", .ref c)])).I c ≠ none := inst_setI c2
  generalize H2.setI a C (putF "_immutable" (.bool false) [("creator", .ref c)]) = H3 at c3 s3 ha3 ⊢
  walk_at "u"
  refine lst_ (by simp) fun cu hcu => ?_
  have fu : H.free cu := Classical.not_not.mp fun q => s3.nf _ q hcu
  have s4 := s3.trans (Ch.setL (xs := []) s3.rep (.inl hcu))
  have ha4 : (H3.setL cu []).I a = some (C, [("creator", .ref c), ("_immutable", .bool false)]) := ha3
  have em4 : (H3.setL cu []).L cu = some [] := upd_at
  have nou : ¬ Own N cu := fun q => own_nf R q fu
  have c4 : (H3.setL cu []).I c ≠ none := c3
  generalize H3.setL cu [] = H4 at c4 s4 ha4 em4 ⊢
  walk_at "u"
  refine sa2 ha4 (by simp) (hf _ (by decide)) ?_
  have s5 := s4.trans (Ch.setI (C := C) (fs := putF "cursors" (.ref cu) [("creator", .ref c), ("_immutable", .bool false)]) s4.rep hna (.inr rfl))
  have ha5 : (H4.setI a C (putF "cursors" (.ref cu) [("creator", .ref c), ("_immutable", .bool false)])).I a = some (C, [("creator", .ref c), ("_immutable", .bool false), ("cursors", .ref cu)]) := upd_at
  have em5 : (H4.setI a C (putF "cursors" (.ref cu) [("creator", .ref c), ("_immutable", .bool false)])).L cu = some [] := em4
  have c5 : (H4.setI a C (putF "cursors" (.ref cu) [("creator", .ref c), ("_immutable", .bool false)])).I c ≠ none := inst_setI c4
  generalize H4.setI a C (putF "cursors" (.ref cu) [("creator", .ref c), ("_immutable", .bool false)]) = H5 at c5 s5 ha5 em5 ⊢
  walk_at "u"
  rw [decide_eq_false (by lia)]
  walk_at "u"
  refine sa2 ha5 (by simp) (hf _ (by decide)) ?_
  have s6 := s5.trans (Ch.setI (C := C) (fs := putF "t" (.int t) [("creator", .ref c), ("_immutable", .bool false), ("cursors", .ref cu)]) s5.rep hna (.inr rfl))
  have ha6 : (H5.setI a C (putF "t" (.int t) [("creator", .ref c), ("_immutable", .bool false), ("cursors", .ref cu)])).I a = some (C, [("creator", .ref c), ("_immutable", .bool false), ("cursors", .ref cu), ("t", .int t)]) := upd_at
  have em6 : (H5.setI a C (putF "t" (.int t) [("creator", .ref c), ("_immutable", .bool false), ("cursors", .ref cu)])).L cu = some [] := em5
  have c6 : (H5.setI a C (putF "t" (.int t) [("creator", .ref c), ("_immutable", .bool false), ("cursors", .ref cu)])).I c ≠ none := inst_setI c5
  generalize H5.setI a C (putF "t" (.int t) [("creator", .ref c), ("_immutable", .bool false), ("cursors", .ref cu)]) = H6 at c6 s6 ha6 em6 ⊢
  walk_at "u"
  refine attrP_I ha6 rfl ?_
  walk_at "u"
  refine attrP_I ha6 rfl ?_
  walk_at "u"
  refine c_new (ex := no) B (by lia) s6.rep ht fun H7 rt r fr q1 q2 q3 q4 s7 => ?_
  have s7' := s6.trans (Ch.of s7)
  have frH : H.free rt := Classical.not_not.mp fun q => s6.nf _ q fr
  have ha7 : H7.I a = some (C, [("creator", .ref c), ("_immutable", .bool false), ("cursors", .ref cu), ("t", .int t)]) := (s7.I a (nf_I ha6) hna (fun q => q)).trans ha6
  have c7 := s7.inst c c6
  have em7 : H7.L cu = some [] := (s7.L cu (nf_L em6) nou (fun q => q)).trans em6
  have hna7 : (upd N rt r) a = none := (upd_off fun q : a = rt => nf_I ha (q ▸ frH)).trans hna
  have no7 : ¬ Own (upd N rt r) cu := fun q => (s7.own _ q).elim nou (nf_L em6)
  walk_at "u"
  refine sa2 ha7 (by simp) (hf _ (by decide)) ?_
  have s8 := s7'.trans (Ch.setI (C := C) (fs := putF "root" (.ref rt) [("creator", .ref c), ("_immutable", .bool false), ("cursors", .ref cu), ("t", .int t)]) s7'.rep hna7 (.inr rfl))
  have ha8 : (H7.setI a C (putF "root" (.ref rt) [("creator", .ref c), ("_immutable", .bool false), ("cursors", .ref cu), ("t", .int t)])).I a = some (C, [("creator", .ref c), ("_immutable", .bool false), ("cursors", .ref cu), ("t", .int t), ("root", .ref rt)]) := upd_at
  have em8 : (H7.setI a C (putF "root" (.ref rt) [("creator", .ref c), ("_immutable", .bool false), ("cursors", .ref cu), ("t", .int t)])).L cu = some [] := em7
  have c8 : (H7.setI a C (putF "root" (.ref rt) [("creator", .ref c), ("_immutable", .bool false), ("cursors", .ref cu), ("t", .int t)])).I c ≠ none := inst_setI c7
  generalize H7.setI a C (putF "root" (.ref rt) [("creator", .ref c), ("_immutable", .bool false), ("cursors", .ref cu), ("t", .int t)]) = H8 at c8 s8 ha8 em8 ⊢
  walk_at "u"
  refine sa2 ha8 (by simp) (hf _ (by decide)) ?_
  have s9 := s8.trans (Ch.setI (C := C) (fs := putF "size" (.int 0) [("creator", .ref c), ("_immutable", .bool false), ("cursors", .ref cu), ("t", .int t), ("root", .ref rt)]) s8.rep hna7 (.inr rfl))
  have ha9 : (H8.setI a C (putF "size" (.int 0) [("creator", .ref c), ("_immutable", .bool false), ("cursors", .ref cu), ("t", .int t), ("root", .ref rt)])).I a = some (C, trF6 c cu rt t 0 false) := upd_at
  have em9 : (H8.setI a C (putF "size" (.int 0) [("creator", .ref c), ("_immutable", .bool false), ("cursors", .ref cu), ("t", .int t), ("root", .ref rt)])).L cu = some [] := em8
  have c9 : (H8.setI a C (putF "size" (.int 0) [("creator", .ref c), ("_immutable", .bool false), ("cursors", .ref cu), ("t", .int t), ("root", .ref rt)])).I c ≠ none := inst_setI c8
  generalize H8.setI a C (putF "size" (.int 0) [("creator", .ref c), ("_immutable", .bool false), ("cursors", .ref cu), ("t", .int t), ("root", .ref rt)]) = H9 at c9 s9 ha9 em9 ⊢
  walk_at "u"
  exact kk _ (.mk c cu rt _ fc fu ha9 (.leaf r upd_at q2 q3 q4 q1 (by simp; lia)) em9 no7 c9 s9 (FrC.new (free_none R frH)))
end
section
variable {cx : Cx} {tn : Bool} {H H' H'' H1 : AH} {X : Value → AH → Prop} {t : Int} {N N' N'' : NM} {h n : Nat} {κ κ' κ1 : Addr → Int} {W : Addr → Prop} {C a c cu : Addr} {im io io' : Bool} {S S' : List Addr} {σ : Loc}
inductive Copy6 (C a : Addr) (t : Int) (rt : Addr) (sz : Int) (H : AH) (N : NM) (H' : AH) : Prop
  | mk (c cu : Addr) (fc : H.free c) (fu : H.free cu) (hI : H'.I a = some (C, trF6 c cu rt t sz false)) (em : H'.L cu = some []) (no : ¬ Own N cu) (cI : H'.I c ≠ none) (s : Ch (fun _ => False) (at1 a) (fun _ => False) t H N H' N)
theorem w_init_copy (B : Bod cx) (hh : 3 ≤ n) (R : Rep t H N) {o c0 cu0 rt D : Addr} {sz t0 : Int} (ho : H.I o = some (D, trF c0 cu0 rt t sz true io)) (hno : N o = none) (hao : o ≠ a) (hC : C = 545 ∨ C = 614) (ha : H.I a = some (C, [])) (hna : N a = none) {Qv : AV → AH → Prop} (kk : ∀ H', Copy6 C a t rt sz H N H' → Qv .none H') :
    let K := retP Qv; wpS cx n false f_BTree___init__ X (bindσ ["self", "t", "original"] [.ref a, .int t0, .ref o]) H K := by
  intro K0
  have hf : ∀ x, x ∈ fields 545 → x ∈ fields C := fun x hx => fields_t hC hx
  unfold f_BTree___init__
  walk_at "u"
  refine c_creator B (by lia) fun c fc => ?_
  have hac : a ≠ c := fun q => nf_I ha (q ▸ fc)
  have ha1 : (H.setI c 66 []).I a = some (C, []) := (upd_off hac).trans ha
  have s1 : Ch no (at1 a) no t H N (H.setI c 66 []) N := Ch.setI R (free_none R fc) (.inl fc)
  have c1 : (H.setI c 66 []).I c ≠ none := by rw [show (H.setI c 66 []).I c = some (66, []) from upd_at]; simp
  generalize H.setI c 66 [] = H1 at ha1 s1 c1 ⊢
  walk_at "u"
  refine sa2 ha1 (by simp) (hf _ (by decide)) ?_
  have s2 := s1.trans (Ch.setI (C := C) (fs := putF "creator" (.ref c) []) s1.rep hna (.inr rfl))
  have ha2 : (H1.setI a C (putF "creator" (.ref c) [])).I a = some (C, [("creator", .ref c)]) := upd_at
  have c2 : (H1.setI a C (putF "creator" (.ref c) [])).I c ≠ none := inst_setI c1
  generalize H1.setI a C (putF "creator" (.ref c) []) = H2 at c2 s2 ha2 ⊢
  walk_at "u"
  refine sa2 ha2 (by simp) (hf _ (by decide)) ?_
  have s3 := s2.trans (Ch.setI (C := C) (fs := putF "_immutable" (.bool false) [("creator", .ref c)]) s2.rep hna (.inr rfl))
  have ha3 : (H2.setI a C (putF "_immutable" (.bool false) [("creator", .ref c)])).I a = some (C, [("creator", .ref c), ("_immutable", .bool false)]) := upd_at
  have c3 : (H2.setI a C (putF "_immutable" (.bool false) [("creator", .ref c)])).I c ≠ none := inst_setI c2
  generalize H2.setI a C (putF "_immutable" (.bool false) [("creator", .ref c)]) = H3 at c3 s3 ha3 ⊢
  walk_at "u"
  refine lst_ (by simp) fun cu hcu => ?_
  have fu : H.free cu := Classical.not_not.mp fun q => s3.nf _ q hcu
  have s4 := s3.trans (Ch.setL (xs := []) s3.rep (.inl hcu))
  have ha4 : (H3.setL cu []).I a = some (C, [("creator", .ref c), ("_immutable", .bool false)]) := ha3
  have em4 : (H3.setL cu []).L cu = some [] := upd_at
  have nou : ¬ Own N cu := fun q => own_nf R q fu
  have c4 : (H3.setL cu []).I c ≠ none := c3
  generalize H3.setL cu [] = H4 at c4 s4 ha4 em4 ⊢
  walk_at "u"
  refine sa2 ha4 (by simp) (hf _ (by decide)) ?_
  have s5 := s4.trans (Ch.setI (C := C) (fs := putF "cursors" (.ref cu) [("creator", .ref c), ("_immutable", .bool false)]) s4.rep hna (.inr rfl))
  have ha5 : (H4.setI a C (putF "cursors" (.ref cu) [("creator", .ref c), ("_immutable", .bool false)])).I a = some (C, [("creator", .ref c), ("_immutable", .bool false), ("cursors", .ref cu)]) := upd_at
  have em5 : (H4.setI a C (putF "cursors" (.ref cu) [("creator", .ref c), ("_immutable", .bool false)])).L cu = some [] := em4
  have c5 : (H4.setI a C (putF "cursors" (.ref cu) [("creator", .ref c), ("_immutable", .bool false)])).I c ≠ none := inst_setI c4
  generalize H4.setI a C (putF "cursors" (.ref cu) [("creator", .ref c), ("_immutable", .bool false)]) = H5 at c5 s5 ha5 em5 ⊢
  have ho5 : H5.I o = some (D, trF c0 cu0 rt t sz true io) := (s5.I o (nf_I ho) hno hao).trans ho
  walk_at "u"
  refine attrP_I ho5 rfl ?_
  walk_at "u"
  refine attrP_I ho5 rfl ?_
  walk_at "u"
  refine sa2 ha5 (by simp) (hf _ (by decide)) ?_
  have s6 := s5.trans (Ch.setI (C := C) (fs := putF "t" (.int t) [("creator", .ref c), ("_immutable", .bool false), ("cursors", .ref cu)]) s5.rep hna (.inr rfl))
  have ha6 : (H5.setI a C (putF "t" (.int t) [("creator", .ref c), ("_immutable", .bool false), ("cursors", .ref cu)])).I a = some (C, [("creator", .ref c), ("_immutable", .bool false), ("cursors", .ref cu), ("t", .int t)]) := upd_at
  have em6 : (H5.setI a C (putF "t" (.int t) [("creator", .ref c), ("_immutable", .bool false), ("cursors", .ref cu)])).L cu = some [] := em5
  have c6 : (H5.setI a C (putF "t" (.int t) [("creator", .ref c), ("_immutable", .bool false), ("cursors", .ref cu)])).I c ≠ none := inst_setI c5
  have ho6 : (H5.setI a C (putF "t" (.int t) [("creator", .ref c), ("_immutable", .bool false), ("cursors", .ref cu)])).I o = some (D, trF c0 cu0 rt t sz true io) := (upd_off hao).trans ho5
  generalize H5.setI a C (putF "t" (.int t) [("creator", .ref c), ("_immutable", .bool false), ("cursors", .ref cu)]) = H6 at s6 ha6 em6 c6 ho6 ⊢
  walk_at "u"
  refine attrP_I ho6 rfl ?_
  walk_at "u"
  refine sa2 ha6 (by simp) (hf _ (by decide)) ?_
  have s7 := s6.trans (Ch.setI (C := C) (fs := putF "root" (.ref rt) [("creator", .ref c), ("_immutable", .bool false), ("cursors", .ref cu), ("t", .int t)]) s6.rep hna (.inr rfl))
  have ha7 : (H6.setI a C (putF "root" (.ref rt) [("creator", .ref c), ("_immutable", .bool false), ("cursors", .ref cu), ("t", .int t)])).I a = some (C, [("creator", .ref c), ("_immutable", .bool false), ("cursors", .ref cu), ("t", .int t), ("root", .ref rt)]) := upd_at
  have em7 : (H6.setI a C (putF "root" (.ref rt) [("creator", .ref c), ("_immutable", .bool false), ("cursors", .ref cu), ("t", .int t)])).L cu = some [] := em6
  have c7 : (H6.setI a C (putF "root" (.ref rt) [("creator", .ref c), ("_immutable", .bool false), ("cursors", .ref cu), ("t", .int t)])).I c ≠ none := inst_setI c6
  have ho7 : (H6.setI a C (putF "root" (.ref rt) [("creator", .ref c), ("_immutable", .bool false), ("cursors", .ref cu), ("t", .int t)])).I o = some (D, trF c0 cu0 rt t sz true io) := (upd_off hao).trans ho6
  generalize H6.setI a C (putF "root" (.ref rt) [("creator", .ref c), ("_immutable", .bool false), ("cursors", .ref cu), ("t", .int t)]) = H7 at s7 ha7 em7 c7 ho7 ⊢
  walk_at "u"
  refine attrP_I ho7 rfl ?_
  walk_at "u"
  refine sa2 ha7 (by simp) (hf _ (by decide)) ?_
  have s8 := s7.trans (Ch.setI (C := C) (fs := putF "size" (.int sz) [("creator", .ref c), ("_immutable", .bool false), ("cursors", .ref cu), ("t", .int t), ("root", .ref rt)]) s7.rep hna (.inr rfl))
  have ha8 : (H7.setI a C (putF "size" (.int sz) [("creator", .ref c), ("_immutable", .bool false), ("cursors", .ref cu), ("t", .int t), ("root", .ref rt)])).I a = some (C, [("creator", .ref c), ("_immutable", .bool false), ("cursors", .ref cu), ("t", .int t), ("root", .ref rt), ("size", .int sz)]) := upd_at
  have em8 : (H7.setI a C (putF "size" (.int sz) [("creator", .ref c), ("_immutable", .bool false), ("cursors", .ref cu), ("t", .int t), ("root", .ref rt)])).L cu = some [] := em7
  have c8 : (H7.setI a C (putF "size" (.int sz) [("creator", .ref c), ("_immutable", .bool false), ("cursors", .ref cu), ("t", .int t), ("root", .ref rt)])).I c ≠ none := inst_setI c7
  have ho8 : (H7.setI a C (putF "size" (.int sz) [("creator", .ref c), ("_immutable", .bool false), ("cursors", .ref cu), ("t", .int t), ("root", .ref rt)])).I o = some (D, trF c0 cu0 rt t sz true io) := (upd_off hao).trans ho7
  generalize H7.setI a C (putF "size" (.int sz) [("creator", .ref c), ("_immutable", .bool false), ("cursors", .ref cu), ("t", .int t), ("root", .ref rt)]) = H8 at s8 ha8 em8 c8 ho8 ⊢
  walk_at "u"
  exact kk _ (.mk c cu fc fu ha8 em8 nou c8 s8)
end
inductive FnKw (K : Frag) (f : Addr) (ns ks : List String) (b : PS) : Prop
  | mk (qual : Str) (scope : Scope) (cdv : Value) (l : List Stmt) (oc : Value) (od : Option Addr) (name : Str) (params : Arguments) (dV kV doc pm : Value) (an : Option Addr) (ct : Value) (osl : Array (Option Value))
    (hK : K.lookup f = some ⟨oc, od, .func (fnOf name qual params (toB b l) scope dV kV doc pm an cdv ct), osl⟩)
    (hbind : ∀ (s : Shared) (vs kvs : List Value), vs.length = ns.length → kvs.length = ks.length → K.In s.heap → BindsTo s (fnOf name qual params (toB b l) scope dV kV doc pm an cdv ct) ⟨vs, (ks.map Str.ofString).zip kvs⟩ (((ns ++ ks).map Str.ofString).zip (vs ++ kvs)))
    (hcode : codeIn K cdv qual = true) (hnd : (ns ++ ks).Nodup) (hloc : ∀ n ∈ ns ++ ks, scope.names.lookup (Str.ofString n) = some .local) (hco : scope.isCoroutine = false) (hgen : scope.isGenerator = false) (hkind : scope.kind = .function) (hcell : ∀ x ∈ scope.names, x.2 ≠ .cell) (hb : okB scope b l = true)
theorem call_kw {cx : Cx} (T : Tabs cx) {h : Nat} {f : Addr} {ns ks : List String} {b : PS} {args kargs : List AV} {H : AH} {Q : AV → AH → Prop} (I : FnKw cx.K f ns ks b)
    (hl : args.length = ns.length) (hkl : kargs.length = ks.length) (hw : wpS cx h false b (fun _ _ => False) (bindσ (ns ++ ks) (args ++ kargs)) H (fun af _ H' => Q af.val H'))
    {A₀ A : Around} {env : Env} {outer : List Env} {g : Heap} {L : Addr} {s : Shared} {m : Str → Option Value} {news : List (Addr × Obj)} {δ : Addr → Addr} {Xl : List (Addr × Obj)} {vs kvs : List Value} {R : Result → Shared → Prop}
    (B : Below A₀ cx.base outer g) (F : Fr g L s.heap m) (N : News g L s.heap news) (X : cx.K.In g) (Tg : Top cx.p cx.loose cx.mean cx.mg cx.mb g) (D : KtsDicts (outer.filterMap (·.frame)) g) (hA : A.frames = some (env :: outer)) (hf : env.frame = some L) (hke : env.scope.kind = .function)
    (hh : A.handled = none) (hd : A.depth + 1 + 3 * h ≤ 900) (hu : A.units + 3 + 30 * h ≤ 9000) (hv : SimL vs args) (hkv : SimL kvs kargs) (M : Match cx news H Xl δ) (gens : s.gens = #[]) (os : s.os = cx.os ∧ s.drawn = cx.dr)
    (hR : ∀ s' news' δ' v av H', Fr g L s'.heap m → News g L s'.heap news' → Match cx news' H' Xl δ' → Sim v av → Q av H' → s'.gens = #[] → (s'.os = cx.os ∧ s'.drawn = cx.dr) → R (.ok (.ret v)) s') :
    codeAny (model cx.prog cx.w) A (.call (.ref f) ⟨vs, (ks.map Str.ofString).zip kvs⟩) R s := by
  obtain ⟨qual, scope, cdv, l, oc, od, name, params, dV, kV, doc, pm, an, ct, osl, hK, hbind, hcode, hnd, hloc, hco, hgen, hkind, hcell, hb⟩ := I
  have X' := X.keeps F.keep
  refine callX_plain (cl := []) B F N Tg.nolimit hA hf hke (X' _ _ hK) rfl (codeRec_of X' hcode) (by unfold recursionLimit; lia) (hbind s vs kvs (hv.length.trans hl) (hkv.length.trans hkl) X') ?_ (fun g' L' h₁ FG F' N' B' stay lt => ?_) hcell hco hgen hkind
  · intro y hy
    have := (List.of_mem_zip (a := y.1) (b := y.2) hy).1
    obtain ⟨n, hn, e⟩ := List.mem_map.mp this
    rw [← e]; exact hloc n hn
  · let fr' : Frm := ⟨A, env :: outer, L', qual, scope, f, cdv⟩
    have ok' : fr'.Ok h := by
      refine ⟨hkind, hh, ?_, ?_, hA⟩
      · show A.depth + 1 + 3 * h ≤ 900
        lia
      · show A.units + 3 + 30 * h ≤ 9000
        lia
    have gg' : StG cx fr' g' := ⟨B', X.keeps stay, Tg.keeps stay, fun b hb => by
      have hb' : b = L ∨ b ∈ outer.filterMap (·.frame) := by
        have : b ∈ (env :: outer).filterMap (·.frame) := hb
        rw [List.filterMap_cons, hf] at this
        exact List.mem_cons.mp this
      rcases hb' with rfl | hb'
      · obtain ⟨o, es, ep, e, hd, _⟩ := FG.ns
        exact ⟨o, es, ep, e, hd⟩
      · obtain ⟨o, es, ep, e, hd⟩ := D b hb'
        exact ⟨o, es, ep, stay b o e, hd⟩⟩
    have st' : St cx fr' g' Xl (bindσ (ns ++ ks) (args ++ kargs)) H { s with heap := h₁, toks := s.toks + (((ns ++ ks).map Str.ofString).zip (vs ++ kvs)).length } :=
      ⟨gg', ⟨_, news, δ, F', N', locM_binds hnd (hv.append hkv), M⟩, gens, os⟩
    have S := sB T ok' b l false (fun _ _ => False) (bindσ (ns ++ ks) (args ++ kargs)) H _ hb hw g' Xl _ st'
    refine wpAny_mono S (fun fl s' p => ?_) fun e s' p => ?_
    · obtain ⟨g'', σ', H', ⟨tr1, tr2⟩, st'', af, hf, hq⟩ := p
      obtain rfl : g'' = g' := tr1 rfl
      obtain ⟨m'', news'', δ'', F'', N'', lm'', M''⟩ := st''.ex
      exact leaveK_ F'' N'' fun F₀ N₀ => hR s' news'' δ'' _ af.val H' F₀ N₀ M'' (SimF.val fl af hf) hq st''.gens st''.os
    · exact p.none.elim
theorem raw_setAttr {cx : Cx} {A : Around} {g : Heap} {L : Addr} {s : Shared} {mm : Str → Option Value} {news Xl : List (Addr × Obj)} {δ : Addr → Addr} {H : AH} {a C : Addr} {fs : List (String × AV)} {x : String} {v : Value} {av : AV} {Q : Unit → Shared → Prop} {E : Value → Shared → Prop}
    (F : Fr g L s.heap mm) (X : cx.K.In g) (N : News g L s.heap news) (M : Match cx news H Xl δ) (hi : H.I a = some (C, fs)) (hv : Sim v av) (hn : fs.length < 100) (hx : fieldOk cx.K C x = true)
    (k : ∀ h' news', Fr g L h' mm → News g L h' news' → Match cx news' (H.setI a C (putF x av fs)) Xl δ → ∀ tk, Q () { s with heap := h', toks := tk }) :
    wpAny (model cx.prog cx.w) A (setAttr (.ref a) (Str.ofString x) v) Q E s := by
  obtain ⟨h1, ⟨es, n, h2, h3⟩, h4, h5⟩ := M.I a C fs hi
  obtain ⟨pre, post, rfl, hp1, hp2⟩ := mem_split M.nd h2
  have hx' := hx
  unfold fieldOk setOk at hx
  simp only [Bool.and_eq_true, beq_iff_eq] at hx
  obtain ⟨_, ⟨⟨q1, q2⟩, q3⟩, q4⟩ := hx
  have hg : (getL (Str.ofString x) es).isSome = true := by
    cases e : fs.lookup x with
    | none => rw [h3.miss e]; rfl
    | some w => obtain ⟨v', h6, _⟩ := h3.get e; rw [h6]; rfl
  have hl := putF_length x av fs
  have h3' := FSim.put (x := x) (hs := PyData.keyHash cx.w.params (Str.ofString x)) (t := s.toks + 1) hv h3
  refine set_dict F X N (InstAt.of_news N h1 h2) rfl q1 q2 q3 q4 hg rfl (upd_of_split hp1 hp2) ?_ fun h' F' N' => ?_
  · rw [h3'.length]; lia
  · exact k h' _ F' N' (M.updI N hi h3' (by lia) (putF_names (P := fun y => fieldOk cx.K C y = true) x av hx' fs h5)) _
theorem wpAt_MethodKw {M : Model} {A : Around} {E : Value → Shared → Prop} {s : Shared} {env : Env} {c : Code} {o : Expr} {name : Str} {apos pos : Pos} {kws : List Keyword} {pl : Sem Bool} {Q : Value → Shared → Prop}
    (h : PySem.wpAt M A c (attributeBase o name env (eval o env)) (fun ov s₁ => wpAny M A (getMethod ov name pl) (fun fx s₂ => wpAny M A (callWith pos fx.1 fx.2 (backTo pos (starEach [] env)) (backToKw pos (keywordEach kws env))) Q E s₂) E s₁) E s)
    (he : eval (.Call (.Attribute o name apos) [] kws pos) env = (do
      let ov ← attributeBase o name env (eval o env)
      standAt apos.atName
      let (f, first) ← holding [ov] (getMethod ov name pl)
      callWith pos f first (backTo pos (starEach [] env)) (backToKw pos (keywordEach kws env)))) :
    PySem.wpAt M A c (eval (.Call (.Attribute o name apos) [] kws pos) env) Q E s := by
  rw [he]
  refine _root_.PySem.wpAt_bind (_root_.PySem.wpAt_mono h (fun ov s₁ h₁ => _root_.PySem.wpAt_of_wpAny (wpAny_bind (wpAny_standAt (wpAny_bind (wpAny_holding (wpAny_mono h₁ (fun fx s₂ h₂ => ?_) fun _ _ x => x)))))) fun _ _ x => x)
  exact h₂
theorem evalKw_eq {env : Env} {o : Expr} {name : Str} {apos pos : Pos} {kws : List Keyword} (hl : kws.length < 20) (hk : (backToKw pos (keywordEach kws env)).all (·.1.isSome) = true) (hp : apos.endLine = pos.line) :
    eval (.Call (.Attribute o name apos) [] kws pos) env = (do
      let ov ← attributeBase o name env (eval o env)
      standAt apos.atName
      let (f, first) ← holding [ov] (getMethod ov name (do return (← importBound o env).getD true))
      callWith pos f first (backTo pos (starEach [] env)) (backToKw pos (keywordEach kws env))) := by
  show (do
      let ov ← attributeBase o name env (eval o env)
      standAt apos.atName
      methodCall o name apos pos env ov (0 + kws.length) (backTo pos (starEach [] env)) (backToKw pos (keywordEach kws env))) = _
  unfold methodCall calleeOf methodCallPos
  have hform : methodCallForm (0 + kws.length) (backTo pos (starEach [] env)) (backToKw pos (keywordEach kws env)) = true := by
    show (true && (backToKw pos (keywordEach kws env)).all (·.1.isSome) && decide _) = true
    rw [hk, decide_eq_true (by split <;> lia)]; rfl
  rw [hform]
  simp [hp]
noncomputable def supBody (p0 p1 p2 p3 p4 p5 p6 p7 p8 p9 p10 p11 p12 : Pos) : List Stmt :=
  [.Expr (.Call (.Attribute (.Call (.Name (Str.ofString "super") p0) [] [] p1) (Str.ofString "__init__") p2) [] [⟨some (Str.ofString "t"), .Name (Str.ofString "t") p3, p4⟩, ⟨some (Str.ofString "original"), .Name (Str.ofString "original") p5, p6⟩] p7) p8,
   .Assign [.Attribute (.Name (Str.ofString "self") p9) (Str.ofString "in_order") p10] (.Name (Str.ofString "in_order") p11) p12]
inductive AfterI (C a : Addr) (avi : AV) (Q : AV → AH → Prop) (H' : AH) : Prop
  | mk (fs : List (String × AV)) (h : H'.I a = some (C, fs)) (hn : fs.length < 100) (hi : "in_order" ∈ fields C) (q : Q .none (H'.setI a C (putF "in_order" avi fs)))
inductive BArgs : List String → List Value → Value → Value → Value → Prop
  | new (vt vi : Value) : BArgs ["t", "in_order"] [vt, vi] vt .none vi
  | copy (vo : Value) : BArgs ["original"] [vo] (.int 127 196) vo (.bool false)
noncomputable def BindK (K : Frag) (fd : FuncData) (sc : Scope) : Prop := ∀ (s : Shared) (ks : List String) (kvs : List Value) (x vt vo vi : Value), K.In s.heap → BArgs ks kvs vt vo vi →
  ∃ binds, BindsTo s fd ⟨[x], (ks.map Str.ofString).zip kvs⟩ binds ∧ (∀ y ∈ binds, sc.names.lookup y.1 = some .local) ∧
    binds.reverse.lookup (Str.ofString "self") = some x ∧ binds.reverse.lookup (Str.ofString "t") = some vt ∧ binds.reverse.lookup (Str.ofString "original") = some vo ∧ binds.reverse.lookup (Str.ofString "in_order") = some vi
inductive SupIn (K : Frag) (prog : Program) (f C : Addr) : Prop
  | mk (D cc cda : Addr) (name qual : Str) (params : Arguments) (scope : Scope) (dV kV doc pm ct oc ccl clv : Value) (an od cdd cld : Option Addr) (osl ccs csl : Array (Option Value)) (vsc : Array Value) (file : Str) (tf : Tok) (cdD : ClassData) (p0 p1 p2 p3 p4 p5 p6 p7 p8 p9 p10 p11 p12 : Pos) (ar : Arg)
    (hK : K.lookup f = some ⟨oc, od, .func (ksFn name qual params (supBody p0 p1 p2 p3 p4 p5 p6 p7 p8 p9 p10 p11 p12) scope dV kV doc pm an (.ref cda) ct cc), osl⟩)
    (code : codeIn K (.ref cda) qual = true) (hp : (params.posonlyargs ++ params.args).head? = some ar) (ha : ar.arg = Str.ofString "self") (hcode : K.lookup cda = some ⟨ccl, cdd, .fields vsc, ccs⟩)
    (hvs : vsc[2]? = some (.str file tf)) (hfile : ((prog.main.file : Str) == file) = true) (hcell : K.lookup cc = some ⟨clv, cld, .cell (some (.ref D)), csl⟩) (hD : clsIn K D = some cdD) (hsub : mroIn K C (.ref D) = some true)
    (hsuper : nsIn K mainGlobals "super" = some none) (htop : (prog.main.scope.names.lookup ("super" : Str)).isSome = false) (any : nsIn K cStatics "thirdparty.any" = some none) (hm : ks_superIn K C D "__init__" = some (some (.ref 358))) (ht : typeIn K (.ref 358) = some (.type "function"))
    (n1 : scope.names.lookup ("super" : Str) = some .globalImplicit) (n2 : scope.names.lookup ("__class__" : Str) = some .free) (n3 : scope.names.lookup (Str.ofString "self") = some .local) (n4 : scope.names.lookup (Str.ofString "t") = some .local) (n5 : scope.names.lookup (Str.ofString "original") = some .local) (n6 : scope.names.lookup (Str.ofString "in_order") = some .local)
    (k : scope.kind = .function) (co : scope.isCoroutine = false) (gen : scope.isGenerator = false) (cell : ∀ x ∈ scope.names, x.2 ≠ .cell) (line : p2.endLine = p7.line)
    (bd : BindK K (fdAt K f) (fdAt K f).scope)
section
variable {cx : Cx} {f C : Addr}
set_option maxHeartbeats 1000000 in
theorem super_go (T : Tabs cx) (S : SupIn cx.K cx.prog f C) (I : FnKw cx.K 358 ["self"] ["t", "original"] f_BTree___init__) {h : Nat} {tn : Bool} {H : AH} {Q : AV → AH → Prop} {X : Value → AH → Prop} {a : Addr} {avt avo avi : AV} (ha : H.I a = some (C, []))
    (hw : wpS cx h false f_BTree___init__ (fun _ _ => False) (bindσ ["self", "t", "original"] [.ref a, avt, avo]) H (retP fun _ H' => AfterI C a avi Q H'))
    {fr : Frm} {A : Around} {g : Heap} {Xl : List (Addr × Obj)} {σ : Loc} {s : Shared} {ks : List String} {kvs : List Value} {vt vo vi : Value} (hA : ACall fr (h + 2) A) (st : St cx fr g Xl σ H s)
    (hk : BArgs ks kvs vt vo vi) (ht : Sim vt avt) (ho : Sim vo avo) (hi : Sim vi avi) :
    codeAny (model cx.prog cx.w) A (.call (.ref f) ⟨[.ref a], (ks.map Str.ofString).zip kvs⟩) (CallPost cx fr tn g Xl σ Q X) s := by
  obtain ⟨D, cc, cda, name, qual, params, scope, dV, kV, doc, pm, ct, oc, ccl, clv, an, od, cdd, cld, osl, ccs, csl, vsc, file, tf, cdD, p0, p1, p2, p3, p4, p5, p6, p7, p8, p9, p10, p11, p12, ar, q1, q2, q3, q4, q5, q6, q7, q8, q9, q10, q11, q12, q13, q14, q15, q16, q17, q18, q19, q20, q21, q22, q23, q24, q25, q26, q27⟩ := S
  obtain ⟨m, news, δ, F, N, lm, M⟩ := st.ex
  have e0 : fdAt cx.K f = ksFn name qual params (supBody p0 p1 p2 p3 p4 p5 p6 p7 p8 p9 p10 p11 p12) scope dV kV doc pm an (.ref cda) ct cc := by unfold fdAt; rw [q1]
  rw [e0] at q27
  obtain ⟨binds, hb, hloc, b1, b2, b3, b4⟩ := q27 s _ _ (.ref a) _ _ _ (st.gg.kin.keeps F.keep) hk
  refine ks_code_super st.gg.bel F st.gg.kin N st.gg.top hA.frames rfl hA.kind q1 q2 (by have := hA.depth; unfold recursionLimit; lia) hb hloc (fun g1 L1 h₁ FG F1 N1 B1 X1 T1 lt => ?_) q25 q23 q24 q22
  unfold supBody
  have hint : interactive (ksEnv qual scope L1 f (.ref cda) cc) = false := by unfold interactive; simp [q22]
  refine ks_wpAt_execs_cons (ks_wpAt_Expr_any ?_ hint)
  refine wpAt_MethodKw ?_ (evalKw_eq (by simp) rfl q26)
  obtain ⟨hI, ⟨es, n, hE, hF⟩, hl, hn⟩ := M.I a C [] ha
  refine ks_node F1 X1 N1 T1 q1 q3 (by rw [q4]; exact b1) (InstAt.of_news N1 hI hE) q5 q6 q7 q8 q9 q10 q11 rfl q16 q17 (by rw [q4]; exact q18) q22 q12 (by kernel_rfl) (fun so h2 F2 N2 l2 => ?_)
  have M2 := M.more (o := ks_superObj D a C) (fresh_of_lt l2)
  obtain ⟨hI2, ⟨es2, n2, hE2, hF2⟩, _, _⟩ := M2.I a C [] ha
  refine ks_method F2 X1 N2 (List.mem_cons_self ..) (InstAt.of_news N2 hI2 hE2) q13 q14 q15 (by decide) (fun q h3 F3 N3 l3 => ?_)
  have M3 := M2.more (o := methodObj (.ref 358) (.ref a)) (fresh_of_lt l3)
  have hfn : fnIn cx.K 358 = true := by
    obtain ⟨_, _, _, _, _, _, _, _, _, _, _, _, _, _, _, hk, _⟩ := I
    unfold fnIn; rw [hk]
  refine callWith_of (P := MethP cx.K q 358 (.ref a)) rfl (keeps_M hfn) (evalArgs_kw2_nil rfl ?_)
  refine kwAll_cons (wpAny_Name (wpAny_loadName_local q22 q19 F3.ns b2 ?_) (by decide))
  refine kwAll_cons (wpAny_Name (wpAny_loadName_local q22 q20 F3.ns b3 ?_) (by decide))
  refine kwAll_nil ⟨methP N3 (List.mem_cons_self ..) (X1.keeps F3.keep), ?_⟩
  refine call_meth N3 (List.mem_cons_self ..) ?_
  change codeAny _ _ (.call (.ref 358) ⟨[.ref a], (["t", "original"].map Str.ofString).zip [vt, vo]⟩) _ _
  have D1 : KtsDicts ((fr.env :: fr.outer).filterMap (·.frame)) g1 := fun b hb => by
    have hb' : b = fr.L ∨ b ∈ fr.fs := by
      rw [List.filterMap_cons] at hb
      exact List.mem_cons.mp hb
    rcases hb' with rfl | hb'
    · obtain ⟨o, es, ep, e, hd, _⟩ := FG.ns
      exact ⟨o, es, ep, e, hd⟩
    · obtain ⟨o, es, ep, e, hd⟩ := st.gg.dicts b hb'
      exact ⟨o, es, ep, FG.keep b o e, hd⟩
  have dp : (A.deeper (ksEnv qual scope L1 f (.ref cda) cc)).depth = A.depth + 1 := rfl
  have up : (A.deeper (ksEnv qual scope L1 f (.ref cda) cc)).units = A.units + 3 := rfl
  refine call_kw T I (args := [.ref a]) (kargs := [avt, avo]) (H := H) (Q := fun _ H' => AfterI C a avi Q H') (vs := [.ref a]) (kvs := [vt, vo]) (by rfl) (by rfl) hw B1 F3 N3 X1 T1 D1 (Around.frames_deeper hA.frames) rfl q22 hA.handled (by rw [dp]; have := hA.depth; lia) (by rw [up]; have := hA.units; lia) ⟨.ref a, trivial⟩ ⟨ht, ho, trivial⟩ M3 st.gens st.os ?_
  rintro s4 news4 δ4 v av H4 F4 N4 M4 - ⟨fs, ha4, hfs, hin, hq⟩ g4 o4
  refine ks_wpAt_execs_cons (ks_wpAt_Assign_Attr (wpAt_of_wpAny (wpAny_Name (wpAny_loadName_local q22 q21 F4.ns b4 ?_) (by decide))))
  refine wpAny_Name (wpAny_loadName_local q22 q18 F4.ns b1 ?_) (by decide)
  refine raw_setAttr F4 X1 N4 M4 ha4 hi hfs (T.ft _ _ hin) fun h5 news5 F5 N5 M5 tk => ?_
  refine wpAt_of_wpAny (wpAny_execs_nil ?_)
  exact leaveK_ F5 N5 fun F₀ N₀ => .ret _ _ ⟨g, σ, _, .refl, ⟨st.gg, ⟨m, news5, δ4, F₀, N₀, lm, M5⟩, g4, o4⟩, rfl, .none, .none, hq⟩
end
section
variable {cx : Cx} {H H' : AH} {t : Int} {N N' : NM} {W W' : Addr → Prop} {a b : Addr} {S : List Addr} {eL eI eD : Addr → Prop} {κ : Addr → Int} {io : Bool}
theorem Ch.unfreeI (s : Ch eL (fun b => H.free b ∨ eI b) eD t H N H' N') : Ch eL eI eD t H N H' N' :=
  ⟨s.rep, s.L, fun b h1 h2 h3 => s.I b h1 h2 fun q => q.elim h1 h3, s.T, s.D, s.B, s.dom, s.new, s.own, s.nf, s.inst⟩
theorem free_setI {C x c : Addr} {fs} (h : (H.setI x C fs).free c) : H.free c := by
  by_cases q : c = x
  · subst q
    exact absurd h (nf_I (upd_at : (H.setI c C fs).I c = some (C, fs)))
  · exact ⟨h.1, (upd_off q).symm.trans h.2.1, h.2.2⟩
theorem Kid.weak {k : Addr} {e : List Addr} (K : Kid N W t k e) (h : ∀ d, W d → W' d) : Kid N W' t k e :=
  ⟨let ⟨r, a, b, c, d, w⟩ := K.ex; ⟨r, a, b, c, d, h _ w⟩, K.lo, K.hi⟩
theorem ZT.weak {r : NR} {P : PL} {k : Addr} {e : List Addr} {R : RL} (Z : ZT N W t a r P k e R) (h : ∀ d, W d → W' d) : ZT N W' t a r P k e R :=
  ⟨Z.top, Z.lf, h _ Z.c, Z.es, Z.ch, fun p hp => (Z.kP p hp).weak h, Z.kk.weak h, fun p hp => (Z.kR p hp).weak h, Z.nd⟩
theorem Tree.weak (T : Tree N W t a S) (h : ∀ d, W d → W' d) : Tree N W' t a S := by
  cases T with
  | leaf r h1 h2 h3 h4 h5 h6 => exact .leaf r h1 h2 h3 h4 (h _ h5) h6
  | node r P k e R Z s one => exact .node r P k e R (Z.weak h) s one
theorem in_fields {C : Addr} (hC : C = 545 ∨ C = 614) : "in_order" ∈ fields C := fields_t hC (by decide)
end
theorem mk_new {cx : Cx} {f C : Addr} (B : Bod cx) (S : SupIn cx.K cx.prog f C) (I : FnKw cx.K 358 ["self"] ["t", "original"] f_BTree___init__) (hi : spIn cx.K C "__init__" = some f) (hC : C = 545 ∨ C = 614) : MkNew cx C := by
  intro h tn H X t N κ io Q hh ht R kq
  obtain ⟨n, rfl, hn⟩ : ∃ n, h = n + 2 + 1 ∧ 3 ≤ n := ⟨h - 3, by lia, by lia⟩
  refine CallKOK.of_class (B.T.makes C (by rcases hC with rfl | rfl <;> decide)) hi fun x fx => ?_
  intro fr A g Xl σ s vs kvs hA hv hkv st
  obtain ⟨xv, rfl, hx⟩ := hv.one
  obtain ⟨vt, vi, rfl, hvt, hvi⟩ := hkv.two
  obtain rfl := hx.toR
  have s0 : Ch no (fun b => H.free b ∨ no b) no t H N (H.setI x C []) N := Ch.setI R (free_none R fx) (.inl fx)
  refine super_go B.T S I (H := H.setI x C []) (avt := .int t) (avo := .none) (avi := .bool io) upd_at ?_ hA st (.new vt vi) hvt .none hvi
  refine w_init_new (Qv := fun _ H' => AfterI C x (.bool io) (fun v H' => v = .none ∧ Q (.ref x) H') H') B hn s0.rep ht hC upd_at (free_none R fx) ?_
  rintro H' ⟨c, cu, rt, N', fc, fu, hI, T, em, no', cI, s1, fr'⟩
  refine ⟨_, hI, by simp [trF6], in_fields hC, rfl, kq _ _ ⟨x, c, cu, N', rfl, fx, free_setI fc, free_setI fu, ⟨⟨rt, upd_at, T⟩, hC, em, no', ⟨ht, fun _ h => (by cases h), .nil, by simp, ?_⟩, rfl⟩, ?_, fr'⟩⟩
  · rintro _ rfl
    exact inst_setI cI
  · have hxn : N' x = none := by
      cases q : N' x with
      | none => rfl
      | some r => exact absurd (s1.new x (free_none R fx) (by rw [q]; simp)) (nf_I upd_at)
    exact ((s0.trans (s1.weak (fun _ h => h) (fun b (h : b = x) => .inl (h ▸ fx)) (fun _ h => h))).trans (Ch.setI s1.rep hxn (.inr (.inl fx)))).unfreeI
theorem mk_copy {cx : Cx} {f : Addr} (B : Bod cx) (S : SupIn cx.K cx.prog f 545) (I : FnKw cx.K 358 ["self"] ["t", "original"] f_BTree___init__) (hi : spIn cx.K 545 "__init__" = some f) : MkCopy cx := by
  intro h tn H X t N κ W tr c0 cu0 io S' Q hh R b kq
  obtain ⟨n, rfl, hn⟩ : ∃ n, h = n + 2 + 1 ∧ 3 ≤ n := ⟨h - 3, by lia, by lia⟩
  refine CallKOK.of_class (B.T.makes 545 (by decide)) hi fun x fx => ?_
  intro fr A g Xl σ s vs kvs hA hv hkv st
  obtain ⟨xv, rfl, hx⟩ := hv.one
  obtain ⟨vo, rfl, hvo⟩ := hkv.one
  obtain rfl := hx.toR
  have s0 : Ch no (fun b => H.free b ∨ no b) no t H N (H.setI x 545 []) N := Ch.setI R (free_none R fx) (.inl fx)
  obtain ⟨rt, ho, T⟩ := b.ex
  have hne : tr ≠ x := fun q => nf_I ho (q ▸ fx)
  refine super_go B.T S I (H := H.setI x 545 []) (avt := .int 127) (avo := .ref tr) (avi := .bool false) upd_at ?_ hA st (.copy vo) (.int _ _) hvo (.bool _)
  refine w_init_copy (Qv := fun _ H' => AfterI 545 x (.bool false) (fun v H' => v = .none ∧ _) H') B hn s0.rep ((upd_off hne).trans ho) (b.nn R) hne (.inl rfl) upd_at (free_none R fx) ?_
  rintro H' ⟨c, cu, fc, fu, hI, em, no', cI, s1⟩
  have s2 := s0.trans (s1.weak (fun _ h => h) (fun b (h : b = x) => .inl (h ▸ fx)) (fun _ h => h))
  have s3 := (s2.trans (Ch.setI (C := 545) (fs := putF "in_order" (.bool false) (trF6 c cu rt t S'.length false)) s1.rep (free_none R fx) (.inr (.inl fx)))).unfreeI
  have g1 := b.g.ch R s3 (fun _ _ h => h)
  refine ⟨_, hI, by simp [trF6], in_fields (.inl rfl), rfl, kq _ x c cu false fx (free_setI fc) ⟨⟨rt, upd_at, T.weak fun _ h => .inl h⟩, .inl rfl, em, no', ⟨g1.t, g1.el, g1.so, g1.len, ?_⟩, .inr rfl⟩ s3⟩
  rintro d (h | rfl)
  · exact g1.cr d h
  · exact inst_setI cI
noncomputable def lawNo : Value → Bool
  | .int n _ => decide (0 ≤ n ∧ n < 16000)
  | _ => false
noncomputable def isPlan (K : Frag) : Bool := match K.lookup 617 with
  | some o => o.cls == .type "tuple" && (match o.data with | .seq vs _ => vs.toList.length == 30 && vs.toList.all lawNo | _ => false)
  | _ => false
theorem lawNo_spec {w : Value} (h : lawNo w = true) : ∃ n t, w = .int n t ∧ 0 ≤ n ∧ n < 16000 := by
  cases w <;> first | exact ⟨_, _, rfl, of_decide_eq_true h⟩ | cases h
theorem plan_in {K : Frag} (h : isPlan K = true) : ∃ ps : List Value, ps.length = 30 ∧ (∀ w ∈ ps, ∃ n t, w = .int n t ∧ 0 ≤ n ∧ n < 16000) ∧ ∀ g : Heap, K.In g → IsTup g 617 ps.toArray := by
  unfold isPlan at h
  cases e : K.lookup 617 with
  | none => rw [e] at h; cases h
  | some o =>
    rw [e] at h
    obtain ⟨c, d, da, sl⟩ := o
    simp only [Bool.and_eq_true, beq_iff_eq] at h
    obtain ⟨rfl, h⟩ := h
    cases da <;> first | cases h | skip
    rename_i vs n
    simp only [Bool.and_eq_true, beq_iff_eq, List.all_eq_true] at h
    exact ⟨vs.toList, h.1, fun w hw => lawNo_spec (h.2 w hw), fun g X => ⟨_, X _ _ e, rfl, n, by simp⟩⟩
theorem cx_ok {cx : Cx} {sc : Addr} {ws ps : List Value} (kin : cx.K.In cx.base) (top : Top cx.p cx.loose cx.mean cx.mg cx.mb cx.base) (e : cx.ro = fun b => if b = sc then some ws else if b = 617 then some ps else none) (hl : cx.base.IsList sc ws.toArray) (hp : IsTup cx.base 617 ps.toArray) : cx.Ok := by
  refine ⟨kin, top, fun b vs h => ?_, ?_⟩
  · have h : (if b = sc then some ws else if b = 617 then some ps else none) = some vs := by rw [e] at h; exact h
    by_cases q : b = sc
    · rw [if_pos q] at h; cases h; exact .inl (q ▸ hl)
    · rw [if_neg q] at h
      by_cases q' : b = 617
      · rw [if_pos q'] at h; cases h; exact .inr (q' ▸ hp)
      · rw [if_neg q'] at h; cases h
  · obtain ⟨o, ho, _⟩ := hp
    exact ⟨617, o, by decide, ho⟩
theorem ints_mem {ws : List Value} {ns : List Int} (h : IntsAre ws ns) : ∀ w ∈ ws, ∃ n t, w = .int n t := by
  induction h with
  | nil => exact fun _ h => nomatch h
  | cons n u _ ih => exact List.forall_mem_cons.mpr ⟨⟨_, _, rfl⟩, ih⟩
theorem scr_in {cx : Cx} {sc : Addr} {ws ps : List Value} {ns : List Int} (e : cx.ro = fun b => if b = sc then some ws else if b = 617 then some ps else none) (hl : cx.base.IsList sc ws.toArray) (hp : IsTup cx.base 617 ps.toArray) (hI : IntsAre ws ns) (h63 : ws.length ≤ 63) (p2 : ps.length = 30) (p3 : ∀ w ∈ ps, ∃ n t, w = .int n t ∧ 0 ≤ n ∧ n < 16000) : Scr cx sc ws.length := by
  have hne : (617 : Addr) ≠ sc := by
    rintro rfl
    obtain ⟨o, h1, h2, _⟩ := hl
    obtain ⟨o', h1', h2', _⟩ := hp
    rw [h1] at h1'
    injection h1' with h1'
    rw [← h1', h2] at h2'
    exact absurd h2' (by decide)
  exact ⟨ws, ps, by rw [e]; exact if_pos rfl, rfl, h63, hl, fun w hw => by
    exact ints_mem hI w hw, by rw [e]; exact (if_neg hne).trans (if_pos rfl), p2, p3⟩
theorem join_law {cx : Cx} (B : Bod cx) (F6 : FnB cx.K 685 ["many", "names", "number", "t"] f__law_member) (M : MkCopy cx) (M1 : MkNew cx 545) (M2 : MkNew cx 614) {fr : Frm} (ok : fr.Ok 14) {body : List Stmt} (hb : okB fr.scope f_law body = true) (hb' : toB f_law body = body)
    {s : Shared} {sc : Addr} {ns : Nat} (scr : Scr cx sc ns) {g : Heap} {m : Str → Option Value} (gg : StG cx fr g) (F : Fr g fr.L s.heap m) (N : News g fr.L s.heap []) (hm : m (Str.ofString "script") = some (.ref sc)) (gens : s.gens = #[]) (os : s.os = cx.os) (dr : s.drawn = cx.dr)
    {Z : Flow → Shared → Prop} {E : Value → Shared → Prop} (k : ∀ m' g' s', Fr g' fr.L s'.heap m' → cx.base.StaysIn g' → s'.gens = #[] → s'.os = cx.os → Z (.ret (.bool true)) s') :
    wpAny (model cx.prog cx.w) fr.A (execs body fr.env) Z E s := by
  rw [← hb']
  let H : AH := ⟨fun _ => none, fun _ => none, fun _ => none, fun _ => none, fun _ => none⟩
  have M0 : Match cx [] H [] (fun a => a) := ⟨List.nodup_nil, fun _ _ h => (by cases h), fun _ _ h => (by cases h), fun _ _ _ h => (by cases h), fun _ _ h => absurd rfl h, fun _ _ h => (by cases h), fun _ _ h => (by cases h), fun _ h => (by cases h)⟩
  have lm : LocM m (bindσ ["script"] [.ref sc]) := by
    intro x av h
    by_cases q : x = "script"
    · subst q
      cases h
      exact ⟨_, hm, .ref _⟩
    · have : (bindσ ["script"] [AV.ref sc]) x = none := by
        rw [bind_cons, if_neg q]; rfl
      rw [this] at h
      cases h
  have st : St cx fr g [] (bindσ ["script"] [.ref sc]) H s := ⟨gg, ⟨m, [], _, F, N, lm, M0⟩, gens, os, dr⟩
  refine wpAny_mono (sB B.T ok f_law body true noX _ H _ hb (w_law B F6 M M1 M2 (Nat.le_refl _) scr) g [] s st) (fun fl s' p => ?_) fun e s' p => p.none.elim
  obtain ⟨g', σ', H', tr, st', af, hf, hq⟩ := p
  obtain ⟨m', news', δ', F', N', lm', M'⟩ := st'.ex
  have e : fl = .ret (.bool true) := by
    cases af with
    | ret a =>
      obtain rfl : a = .bool true := hq
      cases fl with
      | ret v => cases (show Sim v _ from hf); rfl
      | _ => cases hf
    | _ => cases hq
  rw [e]
  exact k m' g' s' F' st'.gg.bel.stays st'.gens st'.os.1
set_option maxHeartbeats 1000000
noncomputable def fieldsAt (K : Frag) (f : Addr) : Array Value := match K.lookup f with
  | some ⟨_, _, .fields vs, _⟩ => vs
  | _ => #[]
noncomputable def clsAt (K : Frag) (f : Addr) : ClassData := (clsIn K f).getD default
noncomputable def fdOk (K : Frag) (f : Addr) (ns : List String) : Bool := (ns.all fun n => (fdAt K f).scope.names.lookup (Str.ofString n) == some .local) && ((fdAt K f).scope.names.all fun x => x.2 != .cell)
theorem fdOk_loc {K : Frag} {f : Addr} {ns : List String} (h : fdOk K f ns = true) : (∀ n ∈ ns, (fdAt K f).scope.names.lookup (Str.ofString n) = some .local) ∧ ∀ x ∈ (fdAt K f).scope.names, x.2 ≠ .cell := by
  unfold fdOk at h
  simp only [Bool.and_eq_true, List.all_eq_true, beq_iff_eq, bne_iff_ne] at h
  exact h
section
variable {K : Frag} {fd : FuncData}
theorem bkw_of (e : ∀ S a b c, peek K S (bindArgs fd ⟨[a], (["t", "original"].map Str.ofString).zip [b, c]⟩) = some ((["self", "t", "original"].map Str.ofString).zip [a, b, c])) (s : Shared) (vs kvs : List Value) (hl : vs.length = ["self"].length) (hk : kvs.length = ["t", "original"].length) (X : K.In s.heap) :
    BindsTo s fd ⟨vs, (["t", "original"].map Str.ofString).zip kvs⟩ (((["self"] ++ ["t", "original"]).map Str.ofString).zip (vs ++ kvs)) := by
  obtain ⟨a, _, rfl, h1⟩ := len_cons hl
  obtain rfl := List.length_eq_zero_iff.mp h1
  obtain ⟨b, _, rfl, h2⟩ := len_cons hk
  obtain ⟨c, _, rfl, h3⟩ := len_cons h2
  obtain rfl := List.length_eq_zero_iff.mp h3
  exact kp_binds X fun S => e S a b c
theorem bk_of (q : ∀ n ∈ ["self", "t", "original", "in_order"], fd.scope.names.lookup (Str.ofString n) = some .local)
    (e1 : ∀ S a b c, peek K S (bindArgs fd ⟨[a], (["t", "in_order"].map Str.ofString).zip [b, c]⟩) = some ((["self", "t", "original", "in_order"].map Str.ofString).zip [a, b, .none, c]))
    (e2 : ∀ S a b, peek K S (bindArgs fd ⟨[a], (["original"].map Str.ofString).zip [b]⟩) = some ((["self", "t", "original", "in_order"].map Str.ofString).zip [a, .int 127 196, b, .bool false])) : BindK K fd fd.scope := by
  intro s ks kvs x vt vo vi X h
  have loc : ∀ a b c d : Value, ∀ y ∈ (["self", "t", "original", "in_order"].map Str.ofString).zip [a, b, c, d], fd.scope.names.lookup y.1 = some .local := fun a b c d y hy => by
    obtain ⟨n, hn, e⟩ := List.mem_map.mp (List.of_mem_zip (a := y.1) (b := y.2) hy).1
    rw [← e]; exact q n hn
  cases h with
  | new _ _ => exact ⟨_, kp_binds X fun S => e1 S _ _ _, loc _ _ _ _, rfl, rfl, rfl, rfl⟩
  | copy _ => exact ⟨_, kp_binds X fun S => e2 S _ _, loc _ _ _ _, rfl, rfl, rfl, rfl⟩
end
theorem tabs_of {cx : Cx} (ok : cx.Ok) (mt : (mtabL.all fun p => methIn cx.K p.1 (Str.ofString p.2.1) == some p.2.2) = true)
    (ct : (ctabL.all fun p => nsIn cx.K mainGlobals (Str.ofString p.2.1) == some (some (.ref p.2.2)) && keepIn cx.K (.ref p.2.2)) = true)
    (gt : (gtabL.all fun p => nsIn cx.K mainGlobals (Str.ofString p.2.1) == some (some (.ref p.2.2))) = true)
    (sp : (sptabL.all fun p => spIn cx.K p.1 (Str.ofString p.2.1) == some p.2.2) = true)
    (ft : (fieldsL.all fun p => p.2.all fun x => fieldOk cx.K p.1 x) = true) (tr : truthIn cx.K 234 = true) (eqn : EqIn cx.K 234)
    (fresh : (freeNames.all fun x => nsIn cx.K mainGlobals (Str.ofString x) == some none) = true) (makes : ([234, 66, 502, 571, 545, 614].all fun C => makesIn cx.K C) = true)
    (creator : findIn cx.K (.ref 66) "__init__" = some (some (.builtin "object.__init__"))) (imm : ktsIn cx.K 340 "BaseException" = true)
    (exc : excIn cx.K 340 [.type "Exception", .type "BaseException", .type "object"] "Exception.__new__" = true)
    (bnd : (bndtabL.all fun p => bndOk cx.K p.1 (Str.ofString p.2.1) p.2.2) = true) : Tabs cx := by
  refine ⟨ok, ?_, ?_, ?_, ?_, ?_, ?_, eqn, ?_, ?_, creator, imm, exc, ?_⟩
  · exact fun C m f h => eq_of_beq (tab_all (P := fun C m f => methIn cx.K C (Str.ofString m) == some f) mt h)
  · exact fun x a h => have q := and_ (tab_all (P := fun _ m f => nsIn cx.K mainGlobals (Str.ofString m) == some (some (.ref f)) && keepIn cx.K (.ref f)) ct h); ⟨eq_of_beq q.1, q.2⟩
  · exact fun x a h => eq_of_beq (tab_all (P := fun _ m f => nsIn cx.K mainGlobals (Str.ofString m) == some (some (.ref f))) gt h)
  · exact fun C m f h => eq_of_beq (tab_all (P := fun C m f => spIn cx.K C (Str.ofString m) == some f) sp h)
  · intro C x h
    obtain ⟨p, hp, rfl, hx⟩ := fields_mem h
    exact List.all_eq_true.mp (List.all_eq_true.mp ft p hp) x hx
  · intro C h
    rw [eq_of_beq h]; exact tr
  · exact fun x h => eq_of_beq (List.all_eq_true.mp fresh x h)
  · exact fun C h => List.all_eq_true.mp makes C h
  · exact fun C m f h => tab_all (P := fun C m f => bndOk cx.K C (Str.ofString m) f) bnd h
noncomputable def obAt (K : Frag) (C : Addr) : Obj := (K.lookup C).getD default
noncomputable def slAt (K : Frag) (C : Addr) (i : Nat) : Option Value := (obAt K C).slots.toList.getD i none
noncomputable def esAt (K : Frag) (C : Addr) : Array DictEntry := match (obAt K C).data with
  | .dict es _ => es
  | _ => #[]
noncomputable def epAt (K : Frag) (C : Addr) : Nat := match (obAt K C).data with
  | .dict _ ep => ep
  | _ => 0
noncomputable def newAt (K : Frag) (C : Addr) : String := match slAt K C 4 with
  | some (.builtin n) => n
  | _ => ""
theorem eqIn_of {K : Frag} {C : Addr}
    (hK : K.lookup C = some (excClassObj (clsAt K C).name (clsAt K C).qualname C (clsAt K C).ns (clsAt K C).bases [.type "object"] (clsAt K C).hasDict (clsAt K C).slotNames (clsAt K C).subclasses (clsAt K C).abstract (clsAt K C).collection (obAt K C).dict (slAt K C 0) (slAt K C 1) (slAt K C 2) (slAt K C 3) (slAt K C 5) (newAt K C)))
    (hN : K.lookup (clsAt K C).ns = some ⟨(obAt K (clsAt K C).ns).cls, (obAt K (clsAt K C).ns).dict, .dict (esAt K (clsAt K C).ns) (epAt K (clsAt K C).ns), (obAt K (clsAt K C).ns).slots⟩)
    (hs : (esAt K (clsAt K C).ns).toList.all (fun e => isStrV e.key) = true) (he : (nsFind (esAt K (clsAt K C).ns) "__eq__").isNone = true) (hn : (nsFind (esAt K (clsAt K C).ns) "__ne__").isNone = true) : EqIn K C :=
  .mk _ _ _ _ _ _ _ _ _ _ _ _ _ _ _ (newAt K C) _ _ _ _ _ hK hN hs (Option.isNone_iff_eq_none.mp he) (Option.isNone_iff_eq_none.mp hn)
theorem fnkw_of {K : Frag} {f : Addr} {ns ks : List String} {b : PS} (nd : (ns ++ ks).Nodup) (h : fnC K f (ns ++ ks) b = true) (e : toB b (bodyAt K f) = bodyAt K f) (hK : K.lookup f = some (fnOb K f))
    (hb : ∀ (s : Shared) (vs kvs : List Value), vs.length = ns.length → kvs.length = ks.length → K.In s.heap → BindsTo s (fdAt K f) ⟨vs, (ks.map Str.ofString).zip kvs⟩ (((ns ++ ks).map Str.ofString).zip (vs ++ kvs))) : FnKw K f ns ks b := by
  have e2 : fdAt K f = fnAt K f := by conv => lhs; unfold fdAt
                                      rw [hK]; rfl
  have h := and_ h
  have h1 := and_ h.1
  have h2 := and_ h.2
  have h3 := and_ h1.1
  have h4 := and_ h1.2
  have h5 := and_ h2.1
  refine .mk (fdAt K f).qualname (fdAt K f).scope (fdAt K f).code (bodyAt K f) (.type "function") none (fdAt K f).name (fdAt K f).params (fdAt K f).defaults (fdAt K f).kwdefaults (fdAt K f).doc (fdAt K f).pyModule (fdAt K f).annotations (fdAt K f).closureTuple #[] ?_ ?_ h3.1 nd (fun n hn => eq_of_beq (List.all_eq_true.mp h3.2 n hn)) (not_ h4.1) (not_ h4.2) (eq_of_beq h5.1) (all_ne h5.2) h2.2
  · rw [e]; exact hK
  · rw [e]; exact fun s vs kvs hl hk X => (congrArg (fun fd => BindsTo s fd ⟨vs, (ks.map Str.ofString).zip kvs⟩ (((ns ++ ks).map Str.ofString).zip (vs ++ kvs))) e2).mp (hb s vs kvs hl hk X)
def main.tw480701840831765632 : Unit := ()
def main.tw11092141859048813250 : Unit := ()
def main.tw17146568849442343683 : Unit := ()
def main.tw6907636171062424033 : Unit := ()
def main.tw12205347405646519318 : Unit := ()
def main.tw18165044119631177899 : Unit := ()
def main.tw6516198228755648517 : Unit := ()
def main.tw9406782406253462049 : Unit := ()
def main.tw10450603732522932521 : Unit := ()
def main.tw6511744376749373798 : Unit := ()
def main.tw2406621943657119228 : Unit := ()
def main.tw372505627349444580 : Unit := ()
def main.tw13972245371655741198 : Unit := ()
def main.tw5372645768047454471 : Unit := ()
def main.tw16102231251864390963 : Unit := ()
def main.tw10418042200766032776 : Unit := ()
def main.tw8060562821785662972 : Unit := ()
def main.tw14027531716089632829 : Unit := ()
def main.tw12748397558918655664 : Unit := ()
def main.tw2895952525429962455 : Unit := ()
def main.tw2340446529572005112 : Unit := ()
def main.tw10896356407431480244 : Unit := ()
def main.tw11785714552879321826 : Unit := ()
def main.tw15387884906608193903 : Unit := ()
def main.tw223528310411579522 : Unit := ()
def main.tw5781596087445459943 : Unit := ()
def main.tw8102450764968551371 : Unit := ()
def main.tw15303317825217679618 : Unit := ()
def main.tw15955573374722617477 : Unit := ()
def main.tw11692516046256081784 : Unit := ()
def main.tw5518243967957118194 : Unit := ()
def main.tw2402762420636078793 : Unit := ()
def main.tw11156056980113079860 : Unit := ()
def main.tw2821470743931037460 : Unit := ()
def main.tw16778611742570070204 : Unit := ()
def main.tw11101190512080308003 : Unit := ()
def main.tw4637267157515435788 : Unit := ()
def main.tw11273777480241942364 : Unit := ()
def main.tw6788530277367551627 : Unit := ()
def main.tw8984930932524396370 : Unit := ()
def main.tw1216228984421328439 : Unit := ()
def main.tw1142173933681417890 : Unit := ()
def main.tw16022572192331126682 : Unit := ()
def main.tw1632041292262086317 : Unit := ()
def main.tw11218778669853930896 : Unit := ()
def main.tw3079636774098643208 : Unit := ()
def main.tw6855474311058116810 : Unit := ()
def main.tw13219505800766818778 : Unit := ()
def main.tw10834757883626330787 : Unit := ()
def main.tw10092017014551392330 : Unit := ()
def main.tw6801380410627298636 : Unit := ()
def main.tw451873465583785326 : Unit := ()
def main.tw14539993770535171780 : Unit := ()
def main.tw13110970153573199417 : Unit := ()
def main.tw16046730324260685337 : Unit := ()
def main.tw17297283025540448806 : Unit := ()
def main.tw11409991511011244131 : Unit := ()
def main.tw7093617532817203218 : Unit := ()
def main.tw2019394398466159022 : Unit := ()
def main.tw17644181745481072423 : Unit := ()
def main.tw3394367416137920725 : Unit := ()
def main.tw6655696309031964122 : Unit := ()
def main.tw1150287232629052791 : Unit := ()
def main.tw3370842686811476594 : Unit := ()
def main.tw1504049600530537962 : Unit := ()
def main.tw17052023290607921161 : Unit := ()
def main.tw5571399437266216444 : Unit := ()
def main.tw4365514962571936147 : Unit := ()
def main.tw4330594992337426955 : Unit := ()
def main.tw4261964983698606537 : Unit := ()
def main.tw17096532924672817327 : Unit := ()
def main.tw12304082900475741265 : Unit := ()
def main.tw14457758005677747962 : Unit := ()
def main.tw17561526911342447988 : Unit := ()
def main.tw16452447596832230105 : Unit := ()
def main.tw8883465813499100731 : Unit := ()
def main.tw2704602940660078815 : Unit := ()
def main.tw15984706205718930553 : Unit := ()
def main.tw13989496423458381343 : Unit := ()
def main.tw2852251193174398662 : Unit := ()
def main.tw15510692781650021527 : Unit := ()
def main.tw12653679108036650311 : Unit := ()
def main.tw4156125974679941130 : Unit := ()
def main.tw9512817274939609580 : Unit := ()
def main.tw4638281056170512193 : Unit := ()
def main.tw11239335112260394413 : Unit := ()
def main.tw15438212644395081984 : Unit := ()
def main.tw11485005889615345042 : Unit := ()
def main.tw4766233809647381661 : Unit := ()
def main.tw16806246253224384389 : Unit := ()
def main.tw7438503065498788428 : Unit := ()
def main.tw10924716458440934090 : Unit := ()
def main.tw10283388844273144081 : Unit := ()
def main.tw14640416626631428029 : Unit := ()
def main.tw17403364634526059139 : Unit := ()
def main.tw4139100593308808776 : Unit := ()
def main.tw2287757881348798766 : Unit := ()
def main.tw2724176850512262202 : Unit := ()
def main.tw14562738103837258888 : Unit := ()
def main.tw14864641218109852296 : Unit := ()
def main.tw7698036289167662538 : Unit := ()
def main.tw13457388059856592233 : Unit := ()
def main.tw7237411587787531456 : Unit := ()
def main.tw17128291446047057950 : Unit := ()
def main.tw4452170602077327944 : Unit := ()
def main.tw5240779543111244032 : Unit := ()
def main.tw12885385263037960081 : Unit := ()
def main.tw1084220662915027778 : Unit := ()
def main.tw16817993663026736274 : Unit := ()
def main.tw11712081513822626495 : Unit := ()
def main.tw6663778134991626487 : Unit := ()
def main.tw8496349624203035976 : Unit := ()
def main.tw16123001533466179255 : Unit := ()
def main.tw10876375607700338302 : Unit := ()
def main.tw11221353774195762014 : Unit := ()
def main.tw9376575566392132001 : Unit := ()
def main.tw8627561154394265716 : Unit := ()
def main.tw18238007617527299592 : Unit := ()
def main.tw2714283472998740243 : Unit := ()
def main.tw15109750227778091905 : Unit := ()
def main.tw9925469786538053656 : Unit := ()
def main.tw18332899500509843999 : Unit := ()
def main.tw6140287776057189764 : Unit := ()
def main.tw9303439499767911484 : Unit := ()
def main.tw16008252555379753968 : Unit := ()
def main.tw10149618387772673413 : Unit := ()
def main.tw2341703837736514645 : Unit := ()
def main.tw16519101796099990279 : Unit := ()
def main.tw4900431672193113347 : Unit := ()
def main.tw9994787619460420439 : Unit := ()
def main.tw13110577991587790113 : Unit := ()
def main.tw10821422270917381399 : Unit := ()
def main.tw12431561837914552411 : Unit := ()
def main.tw6161133996638707016 : Unit := ()
def main.tw7113585516715319716 : Unit := ()
def main.tw10707853282979444102 : Unit := ()
def main.tw4775608329324902142 : Unit := ()
def main.tw4193505271845495863 : Unit := ()
def main.tw3958507339218470045 : Unit := ()
def main.tw15136431859952498927 : Unit := ()
def main.tw16218864148678617972 : Unit := ()
def main.tw1429040668314091153 : Unit := ()
def main.tw11716418206903941319 : Unit := ()
def main.tw5638201095994319732 : Unit := ()
def main.tw16826212616301561204 : Unit := ()
def main.tw17974016328880235120 : Unit := ()
def main.tw13980345723018547825 : Unit := ()
def main.tw13348322127785295214 : Unit := ()
def main.tw8567518541235275850 : Unit := ()
def main.tw17336282652733537790 : Unit := ()
def main.tw2965820268544440810 : Unit := ()
def main.tw12747388180105724736 : Unit := ()
def main.tw14027650596787315314 : Unit := ()
def main.tw17272174723667511238 : Unit := ()
def main.tw4500915450034043215 : Unit := ()
def main.tw14907226015203709474 : Unit := ()
def main.tw3027586509356016917 : Unit := ()
def main.tw14064073609400967072 : Unit := ()
def main.tw12885573270999553970 : Unit := ()
def main.tw17737603089517620647 : Unit := ()
def main.tw892681787802806017 : Unit := ()
def main.tw7943094425149488825 : Unit := ()
def main.tw15062679425460387418 : Unit := ()
def main.tw10204856939554784155 : Unit := ()
def main.tw7514964652732493775 : Unit := ()
def main.tw14364048958407549093 : Unit := ()
def main.tw8809968196449919288 : Unit := ()
def main.tw6886502059237256666 : Unit := ()
def main.tw5436791530062809996 : Unit := ()
def main.tw1453356044741674121 : Unit := ()
def main.tw16923884221124529275 : Unit := ()
def main.tw6565609875121592624 : Unit := ()
def main.tw979501456738626862 : Unit := ()
def main.tw6785657489111691699 : Unit := ()
def main.tw7591743695986301205 : Unit := ()
def main.tw9417822746687237092 : Unit := ()
def main.tw15467891735981029475 : Unit := ()
def main.tw10455743928339290457 : Unit := ()
def main.tw2496676261509829067 : Unit := ()
def main.tw6519269512792494810 : Unit := ()
def main.tw5396188567872606041 : Unit := ()
def main.tw4324958949535026087 : Unit := ()
def main.tw5613160597433933154 : Unit := ()
def main.tw8440099810896429113 : Unit := ()
def main.tw14771111431291430275 : Unit := ()
def main.tw16641786646906312760 : Unit := ()
def main.tw17898397415228311642 : Unit := ()
def main.tw3583811862363856187 : Unit := ()
def main.tw4749052000479324790 : Unit := ()
def main.tw9369988214560726041 : Unit := ()
def main.tw4630824681090250767 : Unit := ()
def main.tw1454224541498743561 : Unit := ()
def main.tw12922898485456448571 : Unit := ()
def main.tw18287795668848337631 : Unit := ()
def main.tw12594366453804578888 : Unit := ()
def main.tw6237627108579964202 : Unit := ()
def main.tw2900998541784483753 : Unit := ()
def main.tw6162249291895867263 : Unit := ()
def main.tw1677766988990989824 : Unit := ()
def main.tw7904437144335635152 : Unit := ()
def main.tw8079908401900000222 : Unit := ()
def main.tw12800608258095302798 : Unit := ()
def main.tw6455149578367423246 : Unit := ()
def main.tw9897820754763898449 : Unit := ()
def main.tw12590340796369385619 : Unit := ()
def main.tw15350898050860989542 : Unit := ()
def main.tw17958375852430007124 : Unit := ()
def main.tw4310270188432123100 : Unit := ()
def main.tw8663697691656813868 : Unit := ()
def main.tw15554039934745177238 : Unit := ()
def main.tw11735423636902730196 : Unit := ()
def main.tw10864377008497418100 : Unit := ()
def main.tw7298748307773712898 : Unit := ()
def main.tw12455012482086183272 : Unit := ()
def main.tw11403851563620829512 : Unit := ()
def main.tw12361340156312767134 : Unit := ()
def main.tw10234815189450012239 : Unit := ()
def main.tw18134284020713443437 : Unit := ()
def main.tw3464709057266567092 : Unit := ()
def main.tw2906824675625879941 : Unit := ()
def main.tw4605139254293405059 : Unit := ()
def main.tw17091655785135471103 : Unit := ()
def main.tw13724616953566380437 : Unit := ()
def main.tw8478376212529829071 : Unit := ()
def main.tw17353955331779342651 : Unit := ()
def main.tw11086099901593105684 : Unit := ()
def main.tw5102693214775723256 : Unit := ()
def main.tw16451033083921036709 : Unit := ()
def main.tw9508770018378322450 : Unit := ()
def main.tw16572128252103988241 : Unit := ()
def main.tw7824468945163221012 : Unit := ()
def main.tw9840939614602229412 : Unit := ()
def main.tw5797031442667253490 : Unit := ()
def main.tw12519306246395310219 : Unit := ()
def main.tw16135426469972691074 : Unit := ()
def main.tw3829396358689915599 : Unit := ()
def main.tw18190005008629794160 : Unit := ()
def main.tw3314904115985164895 : Unit := ()
def main.tw15882437868442304510 : Unit := ()
def main.tw9155575984036265788 : Unit := ()
def main.tw7590696779544312186 : Unit := ()
def main.tw5396361742852586263 : Unit := ()
def main.tw15270170921892066516 : Unit := ()
def main.tw17057053908230417247 : Unit := ()
def main.tw11311155076762098589 : Unit := ()
def main.tw65644731488775911 : Unit := ()
def main.tw4102735441861778344 : Unit := ()
def main.tw5995161000843957690 : Unit := ()
def main.tw10642606787283503386 : Unit := ()
def main.tw14368271195830560734 : Unit := ()
def main.tw10652863235454686790 : Unit := ()
def main.tw6690441779611380620 : Unit := ()
def main.tw9498315638749924794 : Unit := ()
def main.tw17268439761433841065 : Unit := ()
def main.tw7974275031393228247 : Unit := ()
def main.tw10453263994017694363 : Unit := ()
def main.tw12646911602827044314 : Unit := ()
def main.tw18063282731904131703 : Unit := ()
def main.tw1277820614484962519 : Unit := ()
def main.tw16320729459185622934 : Unit := ()
def main.tw15225127925928830808 : Unit := ()
def main.tw10656741131859049111 : Unit := ()
def main.tw7308723440029596264 : Unit := ()
def main.tw13224007501803129859 : Unit := ()
def main.tw14759895335926876869 : Unit := ()
def main.tw3706830351922483016 : Unit := ()
def main.tw14080665800827857628 : Unit := ()
def main.tw11362947217530512461 : Unit := ()
def main.tw17871620999419790863 : Unit := ()
def main.tw14554314840745968623 : Unit := ()
def main.tw3203809635103463919 : Unit := ()
def main.tw6696893160125735727 : Unit := ()
def main.tw4026956272090484662 : Unit := ()
def main.tw11544348965984651327 : Unit := ()
def main.tw17695171507069755227 : Unit := ()
def main.tw14161005256144132680 : Unit := ()
def main.tw3602677115447269215 : Unit := ()
def main.tw365850788961202214 : Unit := ()
def main.tw15565075772751903193 : Unit := ()
def main.tw16136984950599521427 : Unit := ()
def main.tw4485313769496414409 : Unit := ()
def main.tw1587290215689348708 : Unit := ()
def main.tw11020365191643786025 : Unit := ()
def main.tw8228058824784995430 : Unit := ()
def main.tw5790326737455844299 : Unit := ()
def main.tw1469836325065767749 : Unit := ()
def main.tw1319676515408343850 : Unit := ()
def main.tw6697339332421208802 : Unit := ()
def main.tw14798791472264738832 : Unit := ()
def main.tw4216741518440994707 : Unit := ()
def main.tw17563168436475441343 : Unit := ()
def main.tw16765925921980633802 : Unit := ()
def main.tw6214117541549086881 : Unit := ()
def main.tw12222963475772708484 : Unit := ()
def main.tw5418533224930618480 : Unit := ()
def main.tw16008457594558532635 : Unit := ()
def main.tw73751810991705359 : Unit := ()
def main.tw10625486282989778954 : Unit := ()
def main.tw15017983477296125989 : Unit := ()
def main.tw1409966394225722968 : Unit := ()
def main.tw6183352029847204284 : Unit := ()
def main.tw2729793432009153956 : Unit := ()
def main.tw9964214247947446159 : Unit := ()
def main.tw13465503431842376007 : Unit := ()
def main.tw12941917028564957548 : Unit := ()
def main.tw7235775444256392728 : Unit := ()
def main.tw13693970394777133609 : Unit := ()
def main.tw6741292078354696603 : Unit := ()
def main.tw12959741745000181155 : Unit := ()
def main.tw1809099210463178151 : Unit := ()
def main.tw31828345220925962 : Unit := ()
def main.tw6559806142732475569 : Unit := ()
def main.tw6674386428176565332 : Unit := ()
def main.tw33456957511925785 : Unit := ()
def main.tw17292155258170135553 : Unit := ()
def main.tw5623159541915647742 : Unit := ()
def main.tw15356762974548107741 : Unit := ()
def main.tw1198661942849946583 : Unit := ()
def main.tw18344032359734412310 : Unit := ()
def main.tw3627144658338631552 : Unit := ()
def main.tw15803610866087392283 : Unit := ()
def main.tw18120430973489738927 : Unit := ()
def main.tw17906638245316424091 : Unit := ()
def main.tw961187720498965250 : Unit := ()
def main.tw854977524454699277 : Unit := ()
def main.tw11135027115929721415 : Unit := ()
def main.tw4458048076830672230 : Unit := ()
def main.tw11967333016625521393 : Unit := ()
def main.tw4544244032028310869 : Unit := ()
def main.tw18218335207050127959 : Unit := ()
def main.tw9394770849952503311 : Unit := ()
def main.tw14955407792418564488 : Unit := ()
def main.tw10669944970481658594 : Unit := ()
def main.tw11403970630465759474 : Unit := ()
def main.tw4297412468100583042 : Unit := ()
def main.tw6981815665589151136 : Unit := ()
def main.tw12702744160499308131 : Unit := ()
def main.tw8249873531624179374 : Unit := ()
def main.tw1306636233014830658 : Unit := ()
def main.tw5287059835090251167 : Unit := ()
def main.tw3466206800631347469 : Unit := ()
def main.tw6334894449686545209 : Unit := ()
def main.tw9573086628692744296 : Unit := ()
def main.tw5203219222101121401 : Unit := ()
def main.tw358491910552652209 : Unit := ()
def main.tw7699798408344515789 : Unit := ()
def main.tw5677329702179833609 : Unit := ()
def main.tw12909650291622432550 : Unit := ()
def main.tw2058021452347087232 : Unit := ()
def main.tw10652611922669240339 : Unit := ()
def main.tw11554813239044494598 : Unit := ()
def main.tw4258463428174104133 : Unit := ()
def main.tw10231336680788121439 : Unit := ()
def main.tw16508919721030705984 : Unit := ()
def main.tw221909299271738847 : Unit := ()
def main.tw5160751907100791332 : Unit := ()
def main.tw16035907590883218939 : Unit := ()
def main.tw15624239662980076321 : Unit := ()
def main.tw453184122279072053 : Unit := ()
def main.tw11987853993630220354 : Unit := ()
def main.tw12027323910402764344 : Unit := ()
def main.tw11461230924637031220 : Unit := ()
def main.tw2583023086579268501 : Unit := ()
def main.tw5450094653865882931 : Unit := ()
def main.tw10877679251791092727 : Unit := ()
def main.tw6674893403203295414 : Unit := ()
def main.tw10114013102757674387 : Unit := ()
def main.tw962032349192862916 : Unit := ()
def main.tw12992176717851604617 : Unit := ()
def main.tw17450470499104002142 : Unit := ()
def main.tw7332330508316399935 : Unit := ()
def main.tw18178676814319149831 : Unit := ()
def main.tw12885673836220544336 : Unit := ()
def main.tw917386388269078853 : Unit := ()
def main.tw3370190323706015969 : Unit := ()
def main.tw7297187181890747607 : Unit := ()
def main.tw1519992759497675636 : Unit := ()
def main.tw470481871638761223 : Unit := ()
def main.tw15131278010643852716 : Unit := ()
def main.tw17453503289922162039 : Unit := ()
def main.tw17708487481403421675 : Unit := ()
def main.tw12872379398031375081 : Unit := ()
def main.tw5243159528196176124 : Unit := ()
def main.tw796168687070700412 : Unit := ()
def main.tw3613476055612923068 : Unit := ()
def main.tw1826329307503635854 : Unit := ()
def main.tw12518504611687188807 : Unit := ()
def main.tw18315214858253571532 : Unit := ()
def main.tw8127475511531132179 : Unit := ()
def main.tw7358942708152152329 : Unit := ()
def main.tw13227692790652741651 : Unit := ()
def main.tw7751025194823839400 : Unit := ()
def main.tw6044114016751833949 : Unit := ()
def main.tw8466321980469482115 : Unit := ()
def main.tw2759098988195820126 : Unit := ()
def main.tw8436210846270712021 : Unit := ()
def main.tw9483120023164983764 : Unit := ()
def main.tw10665469846841522134 : Unit := ()
def main.tw10140136200207757160 : Unit := ()
def main.tw18385570937342765463 : Unit := ()
def main.tw10298723112805639129 : Unit := ()
def main.tw11501822485730972192 : Unit := ()
def main.tw14666387041718499266 : Unit := ()
def main.tw12431731261707249289 : Unit := ()
def main.tw13503263706703578961 : Unit := ()
def main.tw16965079339398995527 : Unit := ()
def main.tw6545385358150927430 : Unit := ()
def main.tw4990475226369331113 : Unit := ()
def main.tw4650958065196391918 : Unit := ()
def main.tw16832360635688203351 : Unit := ()
def main.tw7624293977416268664 : Unit := ()
def main.tw10750994468655217958 : Unit := ()
def main.tw11125538497796368324 : Unit := ()
def main.tw7647378279178456250 : Unit := ()
def main.tw16411370214107742406 : Unit := ()
def main.tw13187166440333854079 : Unit := ()
def main.tw13838900630717943254 : Unit := ()
def main.tw9899280244813981974 : Unit := ()
def main.tw663525757362878733 : Unit := ()
def main.tw17431719831054627609 : Unit := ()
def main.tw14635473669698735251 : Unit := ()
def main.tw4651154628705390771 : Unit := ()
def main.tw9381277316556691805 : Unit := ()
def main.tw7411558596216406370 : Unit := ()
def main.tw10363585996791799541 : Unit := ()
def main.tw7293298908176781663 : Unit := ()
def main.tw12570134572688502250 : Unit := ()
def main.tw11181722664286889309 : Unit := ()
def main.tw11646826074482590764 : Unit := ()
def main.tw833945537157984683 : Unit := ()
def main.tw12014785543569010823 : Unit := ()
def main.tw1289389943133740499 : Unit := ()
def main.tw3298483428156984901 : Unit := ()
def main.tw8707812797481193996 : Unit := ()
def main.tw6389877041954997217 : Unit := ()
def main.tw17510229520200029679 : Unit := ()
def main.tw11752208632293872130 : Unit := ()
def main.tw17679725944135375923 : Unit := ()
def main.tw2173562974560187446 : Unit := ()
def main.tw6596593509180878263 : Unit := ()
def main.tw13597483153833180358 : Unit := ()
def main.tw12130321265151566525 : Unit := ()
def main.tw18284262389922463811 : Unit := ()
def main.tw2238316416991798583 : Unit := ()
def main.tw4812270449578504274 : Unit := ()
def main.tw18308862371332691253 : Unit := ()
def main.tw11962923498438245051 : Unit := ()
def main.tw7972779244933481256 : Unit := ()
def main.tw3305931106042330821 : Unit := ()
def main.tw8265370782698574782 : Unit := ()
def main.tw2750411421705246143 : Unit := ()
def main.tw11399646045708457374 : Unit := ()
def main.tw2629084897520917108 : Unit := ()
def main.tw2544328076492683441 : Unit := ()
def main.tw13306352142949925410 : Unit := ()
def main.tw6053611964639427726 : Unit := ()
def main.tw8729708805864041840 : Unit := ()
def main.tw1092785777240315536 : Unit := ()
def main.tw17413556829735388813 : Unit := ()
def main.tw3911810758690780188 : Unit := ()
def main.tw5473700226181020891 : Unit := ()
def main.tw14961972930301433522 : Unit := ()
def main.tw4924694640843408985 : Unit := ()
def main.tw16356685582667847594 : Unit := ()
def main.tw7623509227018997848 : Unit := ()
def main.tw8484041278411425421 : Unit := ()
def main.tw6508729118710982530 : Unit := ()
def main.tw3779293765908593550 : Unit := ()
def main.tw14235155234550121937 : Unit := ()
def main.tw15277975159832343749 : Unit := ()
def main.tw8844999433837080629 : Unit := ()
def main.tw716429049611869786 : Unit := ()
def main.tw6542085627976250192 : Unit := ()
def main.tw12463224122652932544 : Unit := ()
def main.tw14492832472218066102 : Unit := ()
def main.tw8118072479153026202 : Unit := ()
def main.tw17236958762192778904 : Unit := ()
def main.tw9957550378297406723 : Unit := ()
def main.tw3491332818749588091 : Unit := ()
def main.tw16026485685270457870 : Unit := ()
def main.tw16689149305811164139 : Unit := ()
def main.tw302440914744352476 : Unit := ()
def main.tw2647654807098235363 : Unit := ()
def main.tw11001617756164336837 : Unit := ()
def main.tw7214478077546791972 : Unit := ()
def main.tw6632538468102435922 : Unit := ()
def main.tw5127751686995613262 : Unit := ()
def main.tw14406990849044604362 : Unit := ()
def main.tw11003572833241299968 : Unit := ()
def main.tw1519927702969063271 : Unit := ()
def main.tw13132915859168520264 : Unit := ()
def main.tw14061640607465278742 : Unit := ()
def main.tw474381771622712015 : Unit := ()
def main.tw4475767826048309731 : Unit := ()
def main.tw10665089971535097683 : Unit := ()
def main.tw16950194794029067938 : Unit := ()
def main.tw1372806426800153423 : Unit := ()
def main.tw8879939841973710529 : Unit := ()
def main.tw11982392923317675503 : Unit := ()
def main.tw13962693860625380366 : Unit := ()
def main.tw15060185592220127646 : Unit := ()
def main.tw5502569546826302122 : Unit := ()
def main.tw17223442867436993403 : Unit := ()
def main.tw9190990891756207365 : Unit := ()
def main.tw18418235949754561950 : Unit := ()
def main.tw387501639795913443 : Unit := ()
def main.tw13293747886898857621 : Unit := ()
def main.tw7623511443260959870 : Unit := ()
def main.tw10391951854915411234 : Unit := ()
def main.tw1850612553970854742 : Unit := ()
def main.tw12987577155417789579 : Unit := ()
def main.tw13667920496262714385 : Unit := ()
def main.tw14216407083858561409 : Unit := ()
def main.tw9808303207383738048 : Unit := ()
def main.tw5456330333991267789 : Unit := ()
def main.tw11710404883906591787 : Unit := ()
def main.tw14639212616227390028 : Unit := ()
def main.tw2428412748925179849 : Unit := ()
def main.tw3137596982192898869 : Unit := ()
def main.tw18325589031809861271 : Unit := ()
def main.tw4917070330192852093 : Unit := ()
def main.tw16357356043003861740 : Unit := ()
def main.tw16187894506366716058 : Unit := ()
def main.tw6862492499505807319 : Unit := ()
def main.tw5400957986263281647 : Unit := ()
def main.tw15957597259013190341 : Unit := ()
def main.tw7761410557224570781 : Unit := ()
def main.tw17864028415675338326 : Unit := ()
def main.tw4088224383575840552 : Unit := ()
def main.tw10177057350305019805 : Unit := ()
def main.tw15514936471743626214 : Unit := ()
def main.tw3994622017586750766 : Unit := ()
def main.tw1777545030009416734 : Unit := ()
def main.tw10159738436595150677 : Unit := ()
def main.tw918671981122897330 : Unit := ()
def main.tw16153842264607907944 : Unit := ()
def main.tw6087835443962453003 : Unit := ()
def main.tw12675357926760492328 : Unit := ()
def main.tw4948327476702027199 : Unit := ()
def main.tw2538046985915079169 : Unit := ()
def main.tw765107192605250810 : Unit := ()
def main.tw1255815211270559930 : Unit := ()
def main.tw17767330081159143506 : Unit := ()
def main.tw7165207203227711834 : Unit := ()
def main.tw7697417962357392202 : Unit := ()
def main.tw471287901995484742 : Unit := ()
def main.tw5616070069386785504 : Unit := ()
def main.tw1615045767204293396 : Unit := ()
def main.tw5671064798259553346 : Unit := ()
def main.tw8834365191522931223 : Unit := ()
def main.tw17699438841360665129 : Unit := ()
def main.tw16676564476587882173 : Unit := ()
def main.tw18442785490491869365 : Unit := ()
def main.tw16798622893749714585 : Unit := ()
def main.tw2007339730380871907 : Unit := ()
def main.tw13591255225166038476 : Unit := ()
def main.tw834873547066669988 : Unit := ()
def main.tw16819838333489098493 : Unit := ()
def main.tw52199770228462824 : Unit := ()
def main.tw17715262827843222689 : Unit := ()
def main.tw13590572293223372214 : Unit := ()
def main.tw3867218068155391060 : Unit := ()
def main.tw6385024630547198690 : Unit := ()
def main.tw8652556701797213591 : Unit := ()
def main.tw4681395471914393968 : Unit := ()
def main.tw12751799325998411230 : Unit := ()
def main.tw6557543464795787104 : Unit := ()
def main.tw9942282790977331292 : Unit := ()
def main.tw9360745474812902239 : Unit := ()
def main.tw7742616358663508648 : Unit := ()
def main.tw14849204138880929251 : Unit := ()
def main.tw7010351842590255796 : Unit := ()
def main.tw1886080085820668685 : Unit := ()
def main.tw1099256609624015869 : Unit := ()
def main.tw5871769198996169552 : Unit := ()
def main.tw1253437644075932092 : Unit := ()
def main.tw3796207824708393856 : Unit := ()
def main.tw13803360072150633466 : Unit := ()
def main.tw5061512775090418087 : Unit := ()
def main.tw17438294365789470252 : Unit := ()
def main.tw8090509862211737132 : Unit := ()
def main.tw9253799994812790149 : Unit := ()
def main.tw832900586485598795 : Unit := ()
def main.tw6912675738884088206 : Unit := ()
def main.tw6584820252761975732 : Unit := ()
def main.tw2524017781993486291 : Unit := ()
def main.tw11463369355524808266 : Unit := ()
def main.tw15465920861327815835 : Unit := ()
def main.tw13642826006792871662 : Unit := ()
def main.tw16790050636404226231 : Unit := ()
def main.tw13355165232487703845 : Unit := ()
def main.tw15491723280356408159 : Unit := ()
def main.tw5665406974723832613 : Unit := ()
def main.tw4573282807186111410 : Unit := ()
def main.tw962193829226610041 : Unit := ()
def main.tw12483276189755474720 : Unit := ()
def main.tw16049902774474827687 : Unit := ()
def main.tw11120327062377616369 : Unit := ()
def main.tw7472368607099979303 : Unit := ()
def main.tw10609540516017602915 : Unit := ()
def main.tw8952462522180670554 : Unit := ()
def main.tw13154001654789283132 : Unit := ()
def main.tw4585930131862741453 : Unit := ()
def main.tw66260789543402106 : Unit := ()
def main.tw15643365686152983790 : Unit := ()
def main.tw7074144079889050967 : Unit := ()
def main.tw18031918436515192882 : Unit := ()
def main.tw11815829001073249272 : Unit := ()
def main.tw13313126695403321540 : Unit := ()
def main.tw8207831470162742035 : Unit := ()
def main.tw14009396871252706886 : Unit := ()
def main.tw16721930046160240684 : Unit := ()
def main.tw5842977544298395883 : Unit := ()
def main.tw12298629886278197574 : Unit := ()
def main.tw9175052073728820173 : Unit := ()
def main.tw11614107205274993552 : Unit := ()
def main.tw9848185148710128376 : Unit := ()
def main.tw656089360051881306 : Unit := ()
def main.tw10463206416058312583 : Unit := ()
def main.tw5517759331935216279 : Unit := ()
def main.tw10210597933619972095 : Unit := ()
def main.tw7929128423345735474 : Unit := ()
def main.tw12900284412222446716 : Unit := ()
def main.tw645136716886899192 : Unit := ()
def main.tw18425317256667529438 : Unit := ()
def main.tw18421580907717582127 : Unit := ()
def main.tw2566753976717531306 : Unit := ()
def main.tw9656510801202774680 : Unit := ()
def main.tw1545906260438175962 : Unit := ()
def main.tw3343439749351644125 : Unit := ()
def main.tw8281396171620568247 : Unit := ()
def main.tw15023316991559800185 : Unit := ()
def main.tw48596604365144762 : Unit := ()
def main.tw6449824600675878752 : Unit := ()
def main.tw6711089518637159872 : Unit := ()
def main.tw6112859857366181021 : Unit := ()
def main.tw14313897822631088780 : Unit := ()
def main.tw49674306023711395 : Unit := ()
def main.tw1242282695825638017 : Unit := ()
def main.tw16193401482309157537 : Unit := ()
def main.tw15589955886551607785 : Unit := ()
def main.tw12564604832814323664 : Unit := ()
def main.tw18392154025008590481 : Unit := ()
def main.tw8748973510418095054 : Unit := ()
def main.tw13402765919934010277 : Unit := ()
def main.tw2190695567426971638 : Unit := ()
def main.tw16959884160788844718 : Unit := ()
def main.tw16757190730947197508 : Unit := ()
def main.tw11261727412033496967 : Unit := ()
def main.tw18403998269306519403 : Unit := ()
def main.tw2921958311620399285 : Unit := ()
def main.tw14909365282108701170 : Unit := ()
def main.tw5649967823195072380 : Unit := ()
def main.tw13797323745857372409 : Unit := ()
def main.tw3549514262204291990 : Unit := ()
def main.tw2337230598321646361 : Unit := ()
def main.tw161903638078081290 : Unit := ()
def main.tw1157997071576566072 : Unit := ()
def main.tw10044588960856096794 : Unit := ()
def main.tw3234112476842188716 : Unit := ()
def main.tw2702614204127132176 : Unit := ()
def main.tw12093647306153771053 : Unit := ()
def main.tw16480584520131690045 : Unit := ()
def main.tw6788695710022549768 : Unit := ()
def main.tw3934531018447913466 : Unit := ()
def main.tw12915833801598196605 : Unit := ()
def main.tw9756827057097773860 : Unit := ()
def main.tw13148611719377898607 : Unit := ()
def main.tw9681375758050803366 : Unit := ()
def main.tw12057704586751987240 : Unit := ()
def main.tw15079240505294077160 : Unit := ()
def main.tw1027651156746619712 : Unit := ()
def main.tw13350764725976880583 : Unit := ()
def main.tw7083192437325867461 : Unit := ()
def main.tw9274054859765456524 : Unit := ()
def main.tw14390754486103292620 : Unit := ()
def main.tw3626430660855392483 : Unit := ()
def main.tw4719957520787936630 : Unit := ()
def main.tw2744014450722944760 : Unit := ()
def main.tw8475525182357872103 : Unit := ()
def main.tw11531331273489700057 : Unit := ()
def main.tw3848698983108048278 : Unit := ()
def main.tw17290568124846718506 : Unit := ()
def main.tw11487549891475536569 : Unit := ()
def main.tw12670839924663504800 : Unit := ()
def main.tw15410482203810522393 : Unit := ()
def main.tw9561784451562097942 : Unit := ()
def main.tw11349898740250378076 : Unit := ()
def main.tw11251407683458634364 : Unit := ()
def main.tw8905464785575363620 : Unit := ()
def main.tw5831584030425509755 : Unit := ()
def main.tw12170992721606120685 : Unit := ()
def main.tw17477492558424962760 : Unit := ()
def main.tw8947760058931562597 : Unit := ()
def main.tw6880717277089553138 : Unit := ()
def main.tw12252054271945606052 : Unit := ()
def main.tw6868236387235032019 : Unit := ()
def main.tw6635558491612396129 : Unit := ()
def main.tw10199874654664476236 : Unit := ()
def main.tw4189750870438640210 : Unit := ()
def main.tw16922381011570985944 : Unit := ()
def main.tw13113777628852026922 : Unit := ()
def main.tw13260870731297125680 : Unit := ()
def main.tw9272984997812220495 : Unit := ()
def main.tw13995172100960836882 : Unit := ()
def main.tw17725498274588495791 : Unit := ()
def main.tw10564528347858357063 : Unit := ()
def main.tw7108953243070827183 : Unit := ()
def main.tw5665735395497279834 : Unit := ()
def main.tw1178595665728414349 : Unit := ()
def main.tw2110754180369666209 : Unit := ()
def main.tw3160845607165458772 : Unit := ()
def main.tw3864431920445960829 : Unit := ()
def main.tw54841869916938688 : Unit := ()
def main.tw4839478117068044826 : Unit := ()
def main.tw15970538086172389420 : Unit := ()
def main.tw11595355409239048105 : Unit := ()
def main.tw244467455267321384 : Unit := ()
def main.tw17201416709059790184 : Unit := ()
def main.tw14106445559736802775 : Unit := ()
def main.tw14097447854668400296 : Unit := ()
def main.tw16551855485269240956 : Unit := ()
def main.tw9880953963774564861 : Unit := ()
def main.tw14793117695081215449 : Unit := ()
def main.tw3557749057250611081 : Unit := ()
def main.tw330327031418712150 : Unit := ()
def main.tw13676971244355772609 : Unit := ()
def main.tw12927740378394474205 : Unit := ()
def main.tw11644309731892284435 : Unit := ()
def main.tw9557352009045844224 : Unit := ()
def main.tw5181119749688162637 : Unit := ()
def main.tw9069182735580402390 : Unit := ()
def main.tw1130211791997205004 : Unit := ()
def main.tw1980160206288974728 : Unit := ()
def main.tw7142256002058171272 : Unit := ()
def main.tw10992214633131536827 : Unit := ()
def main.tw11374851513655246148 : Unit := ()
def main.tw13713940216889387898 : Unit := ()
def main.tw16656740534632174751 : Unit := ()
def main.tw5104194264097766351 : Unit := ()
def main.tw14722489848711283861 : Unit := ()
def main.tw10876229203375891673 : Unit := ()
def main.tw6910295442248876197 : Unit := ()
def main.tw12974819211118642341 : Unit := ()
def main.tw15928290008803537013 : Unit := ()
def main.tw11416931114567727565 : Unit := ()
def main.tw4491334807805099456 : Unit := ()
def main.tw7173623326730630234 : Unit := ()
def main.tw15616401959046598769 : Unit := ()
def main.tw14646587721710459877 : Unit := ()
def main.tw799486724532869496 : Unit := ()
def main.tw13974046611088194958 : Unit := ()
def main.tw7691172733374981047 : Unit := ()
def main.tw6222487380544312443 : Unit := ()
def main.tw14788915703135433725 : Unit := ()
def main.tw17016820405989369747 : Unit := ()
def main.tw7639352225515584698 : Unit := ()
def main.tw12338497608069007261 : Unit := ()
def main.tw14168887731352723522 : Unit := ()
def main.tw5240536507193477226 : Unit := ()
def main.tw14672674291997333471 : Unit := ()
def main.tw15734200111481486640 : Unit := ()
def main.tw5309058905264134205 : Unit := ()
def main.tw9470667924834194258 : Unit := ()
def main.tw8652706556629794400 : Unit := ()
def main.tw5289026146741335887 : Unit := ()
def main.tw15097543051748444868 : Unit := ()
def main.tw13180746182150919023 : Unit := ()
def main.tw785246043732427063 : Unit := ()
def main.tw6418098437765475518 : Unit := ()
def main.tw9670510015898674028 : Unit := ()
def main.tw9189880136782149556 : Unit := ()
def main.tw7875838824674609581 : Unit := ()
def main.tw17456035664235451855 : Unit := ()
def main.tw4072190877284726289 : Unit := ()
def main.tw3905226178654972811 : Unit := ()
def main.tw6657087868060814 : Unit := ()
def main.tw16952715711813285254 : Unit := ()
def main.tw5234446048077146213 : Unit := ()
def main.tw5401703158475992631 : Unit := ()
def main.tw3299218664060906527 : Unit := ()
def main.tw11774690029378154688 : Unit := ()
def main.tw1645717771770832407 : Unit := ()
def main.tw1390771862084280389 : Unit := ()
def main.tw13157206579259725088 : Unit := ()
set_option maxRecDepth 100000
set_option maxHeartbeats 8000000
set_option Elab.async true in
theorem main : PySem.Challenge.rw_kx0008_01.Holds := by (w_on; o_law; k_head; (case hw => w_witness2); w_strict (
  k_go0
  rename_i w s0 s1 mg mb G Y fa o pm doc kV ho hg KX X V GL T TB TE TW w9 w8 M w7 w6 hcd ws hs hlay hL1 hr1 hl2 w4 w3 a w1 w0 hL ra wl r0 hI hr hc1 hc2 K0 hD h1 F N0
  let K : Frag := Mine.main.heap_1_39 w.params
  obtain ⟨ps, p2, p3, ptup⟩ := plan_in (K := K) (by kernel_rfl)
  let cx : Cx := ⟨PySem.Challenge.rw_kx0008_01.row.prog, w, K, Mine.main.view_1_40, looseW Mine.main.view_1_40 [Str.ofString "BTree", Str.ofString "BTreeDict", Str.ofString "BTreeSet"], ExcName.means s0.heap, mg, mb, s1.heap, s1.os, s1.drawn, fun b => if b = a then some w1 else if b = 617 then some ps else none⟩
  have cok : cx.Ok := cx_ok KX T rfl hL (ptup _ KX)
  have tb : Tabs cx := tabs_of cok (by kernel_rfl) (by kernel_rfl) (by kernel_rfl) (by kernel_rfl) (by kernel_rfl) (by kernel_rfl) (eqIn_of (K := K) (by kernel_rfl) (by kernel_rfl) (by kernel_rfl) (by kernel_rfl) (by kernel_rfl)) (by kernel_rfl) (by kernel_rfl) (by kernel_rfl) (by kernel_rfl) (by kernel_rfl) (by kernel_rfl)
  have B : Bod cx := ⟨tb, fn_of (by decide) (by kernel_rfl) (by kernel_rfl) (by kernel_rfl) (b_of fun S v => by kernel_rfl), fn_of (by decide) (by kernel_rfl) (by kernel_rfl) (by kernel_rfl) (b_of fun S v => by kernel_rfl), fn_of (by decide) (by kernel_rfl) (by kernel_rfl) (by kernel_rfl) (b_of fun S v => by kernel_rfl), fn_of (by decide) (by kernel_rfl) (by kernel_rfl) (by kernel_rfl) (b_of fun S v => by kernel_rfl), fn_of (by decide) (by kernel_rfl) (by kernel_rfl) (by kernel_rfl) (b_of fun S v => by kernel_rfl), fn_of (by decide) (by kernel_rfl) (by kernel_rfl) (by kernel_rfl) (b_of fun S v => by kernel_rfl), fn_of (by decide) (by kernel_rfl) (by kernel_rfl) (by kernel_rfl) (b_of fun S v => by kernel_rfl), fn_of (by decide) (by kernel_rfl) (by kernel_rfl) (by kernel_rfl) (b_of fun S v => by kernel_rfl), fn_of (by decide) (by kernel_rfl) (by kernel_rfl) (by kernel_rfl) (b_of fun S v => by kernel_rfl), fn_of (by decide) (by kernel_rfl) (by kernel_rfl) (by kernel_rfl) (b_of fun S v => by kernel_rfl), fn_of (by decide) (by kernel_rfl) (by kernel_rfl) (by kernel_rfl) (b_of fun S v => by kernel_rfl), fn_of (by decide) (by kernel_rfl) (by kernel_rfl) (by kernel_rfl) (b_of fun S v => by kernel_rfl), fn_of (by decide) (by kernel_rfl) (by kernel_rfl) (by kernel_rfl) (b_of fun S v => by kernel_rfl), fn_of (by decide) (by kernel_rfl) (by kernel_rfl) (by kernel_rfl) (b_of fun S v => by kernel_rfl), fn_of (by decide) (by kernel_rfl) (by kernel_rfl) (by kernel_rfl) (b_of fun S v => by kernel_rfl), fn_of (by decide) (by kernel_rfl) (by kernel_rfl) (by kernel_rfl) (b_of fun S v => by kernel_rfl), fn_of (by decide) (by kernel_rfl) (by kernel_rfl) (by kernel_rfl) (b_of fun S v => by kernel_rfl), fn_of (by decide) (by kernel_rfl) (by kernel_rfl) (by kernel_rfl) (b_of fun S v => by kernel_rfl), fn_of (by decide) (by kernel_rfl) (by kernel_rfl) (by kernel_rfl) (b_of fun S v => by kernel_rfl), fn_of (by decide) (by kernel_rfl) (by kernel_rfl) (by kernel_rfl) (b_of fun S v => by kernel_rfl), fn_of (by decide) (by kernel_rfl) (by kernel_rfl) (by kernel_rfl) (b_of fun S v => by kernel_rfl), fn_of (by decide) (by kernel_rfl) (by kernel_rfl) (by kernel_rfl) (b_of fun S v => by kernel_rfl), fn_of (by decide) (by kernel_rfl) (by kernel_rfl) (by kernel_rfl) (b_of fun S v => by kernel_rfl), fn_of (by decide) (by kernel_rfl) (by kernel_rfl) (by kernel_rfl) (b_of fun S v => by kernel_rfl), fn_of (by decide) (by kernel_rfl) (by kernel_rfl) (by kernel_rfl) (b_of fun S v => by kernel_rfl), fn_of (by decide) (by kernel_rfl) (by kernel_rfl) (by kernel_rfl) (b_of fun S v => by kernel_rfl), fn_of (by decide) (by kernel_rfl) (by kernel_rfl) (by kernel_rfl) (b_of fun S v => by kernel_rfl), fn_of (by decide) (by kernel_rfl) (by kernel_rfl) (by kernel_rfl) (b_of fun S v => by kernel_rfl), fn_of (by decide) (by kernel_rfl) (by kernel_rfl) (by kernel_rfl) (b_of fun S v => by kernel_rfl), fn_of (by decide) (by kernel_rfl) (by kernel_rfl) (by kernel_rfl) (b_of fun S v => by kernel_rfl), fn_of (by decide) (by kernel_rfl) (by kernel_rfl) (by kernel_rfl) (b_of fun S v => by kernel_rfl), fn_of (by decide) (by kernel_rfl) (by kernel_rfl) (by kernel_rfl) (b_of fun S v => by kernel_rfl), fn_of (by decide) (by kernel_rfl) (by kernel_rfl) (by kernel_rfl) (b_of fun S v => by kernel_rfl), fn_of (by decide) (by kernel_rfl) (by kernel_rfl) (by kernel_rfl) (b_of fun S v => by kernel_rfl), fn_of (by decide) (by kernel_rfl) (by kernel_rfl) (by kernel_rfl) (b_of fun S v => by kernel_rfl), fn_of (by decide) (by kernel_rfl) (by kernel_rfl) (by kernel_rfl) (b_of fun S v => by kernel_rfl), fn_of (by decide) (by kernel_rfl) (by kernel_rfl) (by kernel_rfl) (b_of fun S v => by kernel_rfl), fn_of (by decide) (by kernel_rfl) (by kernel_rfl) (by kernel_rfl) (b_of fun S v => by kernel_rfl), fn_of (by decide) (by kernel_rfl) (by kernel_rfl) (by kernel_rfl) (b_of fun S v => by kernel_rfl), fn_of (by decide) (by kernel_rfl) (by kernel_rfl) (by kernel_rfl) (b_of fun S v => by kernel_rfl), fn_of (by decide) (by kernel_rfl) (by kernel_rfl) (by kernel_rfl) (b_of fun S v => by kernel_rfl), fn_of (by decide) (by kernel_rfl) (by kernel_rfl) (by kernel_rfl) (b_of fun S v => by kernel_rfl), fn_of (by decide) (by kernel_rfl) (by kernel_rfl) (by kernel_rfl) (b_of fun S v => by kernel_rfl), fn_of (by decide) (by kernel_rfl) (by kernel_rfl) (by kernel_rfl) (b_of fun S v => by kernel_rfl), fn_of (by decide) (by kernel_rfl) (by kernel_rfl) (by kernel_rfl) (b_of fun S v => by kernel_rfl), fn_of (by decide) (by kernel_rfl) (by kernel_rfl) (by kernel_rfl) (b_of fun S v => by kernel_rfl), fn_of (by decide) (by kernel_rfl) (by kernel_rfl) (by kernel_rfl) (b_of fun S v => by kernel_rfl), fn_of (by decide) (by kernel_rfl) (by kernel_rfl) (by kernel_rfl) (b_of fun S v => by kernel_rfl), fn_of (by decide) (by kernel_rfl) (by kernel_rfl) (by kernel_rfl) (b_of fun S v => by kernel_rfl)⟩
  have F685 : FnB cx.K 685 ["many", "names", "number", "t"] f__law_member := fn_of (by decide) (by kernel_rfl) (by kernel_rfl) (by kernel_rfl) (b_of fun S v => by kernel_rfl)
  have I358 : FnKw cx.K 358 ["self"] ["t", "original"] f_BTree___init__ := fnkw_of (by decide) (by kernel_rfl) (by kernel_rfl) (by kernel_rfl) (bkw_of fun S a b c => by kernel_rfl)
  have S521 : SupIn cx.K PySem.Challenge.rw_kx0008_01.row.prog 521 545 := by
    have q := fdOk_loc (K := K) (f := 521) (ns := ["self", "t", "original", "in_order"]) (by kernel_rfl)
    refine SupIn.mk 545 508 520 (fdAt K 521).name (fdAt K 521).qualname (fdAt K 521).params (fdAt K 521).scope (fdAt K 521).defaults (fdAt K 521).kwdefaults (fdAt K 521).doc (fdAt K 521).pyModule (fdAt K 521).closureTuple
      (.type "function") (.type "code") (.type "cell") (fdAt K 521).annotations none none none #[] #[] #[] (fieldsAt K 520) (Str.ofString "/claim/cut.py") 864 (clsAt K 545)
      ⟨487, 8, 487, 13⟩ ⟨487, 8, 487, 15⟩ ⟨487, 8, 487, 24⟩ ⟨487, 27, 487, 28⟩ ⟨487, 25, 487, 28⟩ ⟨487, 39, 487, 47⟩ ⟨487, 30, 487, 47⟩ ⟨487, 8, 487, 48⟩ ⟨487, 8, 487, 48⟩ ⟨488, 8, 488, 12⟩ ⟨488, 8, 488, 21⟩ ⟨488, 24, 488, 32⟩ ⟨488, 8, 488, 32⟩ ⟨Str.ofString "self", none, ⟨486, 17, 486, 21⟩⟩
      (by kernel_rfl) (by kernel_rfl) (by kernel_rfl) rfl (by kernel_rfl) (by kernel_rfl) (by kernel_rfl) (by kernel_rfl) (by kernel_rfl) (by kernel_rfl) (by kernel_rfl) (by kernel_rfl) (by kernel_rfl) (by kernel_rfl) (by kernel_rfl) (by kernel_rfl) (by kernel_rfl) (by kernel_rfl) (by kernel_rfl) (by kernel_rfl) (by kernel_rfl) (by kernel_rfl) (by kernel_rfl) (by kernel_rfl) q.2 rfl (bk_of (K := K) q.1 (fun S a b c => by kernel_rfl) (fun S a b => by kernel_rfl))
  have S590 : SupIn cx.K PySem.Challenge.rw_kx0008_01.row.prog 590 614 := by
    have q := fdOk_loc (K := K) (f := 590) (ns := ["self", "t", "original", "in_order"]) (by kernel_rfl)
    refine SupIn.mk 614 577 589 (fdAt K 590).name (fdAt K 590).qualname (fdAt K 590).params (fdAt K 590).scope (fdAt K 590).defaults (fdAt K 590).kwdefaults (fdAt K 590).doc (fdAt K 590).pyModule (fdAt K 590).closureTuple
      (.type "function") (.type "code") (.type "cell") (fdAt K 590).annotations none none none #[] #[] #[] (fieldsAt K 589) (Str.ofString "/claim/cut.py") 955 (clsAt K 614)
      ⟨514, 8, 514, 13⟩ ⟨514, 8, 514, 15⟩ ⟨514, 8, 514, 24⟩ ⟨514, 27, 514, 28⟩ ⟨514, 25, 514, 28⟩ ⟨514, 39, 514, 47⟩ ⟨514, 30, 514, 47⟩ ⟨514, 8, 514, 48⟩ ⟨514, 8, 514, 48⟩ ⟨515, 8, 515, 12⟩ ⟨515, 8, 515, 21⟩ ⟨515, 24, 515, 32⟩ ⟨515, 8, 515, 32⟩ ⟨Str.ofString "self", none, ⟨513, 17, 513, 21⟩⟩
      (by kernel_rfl) (by kernel_rfl) (by kernel_rfl) rfl (by kernel_rfl) (by kernel_rfl) (by kernel_rfl) (by kernel_rfl) (by kernel_rfl) (by kernel_rfl) (by kernel_rfl) (by kernel_rfl) (by kernel_rfl) (by kernel_rfl) (by kernel_rfl) (by kernel_rfl) (by kernel_rfl) (by kernel_rfl) (by kernel_rfl) (by kernel_rfl) (by kernel_rfl) (by kernel_rfl) (by kernel_rfl) (by kernel_rfl) q.2 rfl (bk_of (K := K) q.1 (fun S a b c => by kernel_rfl) (fun S a b => by kernel_rfl))
  have scr : Scr cx a w1.length := scr_in rfl hL (ptup _ KX) hI (by have := hI.length; lia) p2 p3
  refine join_law (cx := cx) (g := s1.heap) (s := { heap := h1, gens := s1.gens, drawn := s1.drawn, toks := _, os := s1.os }) B F685 (mk_copy B S521 I358 (B.T.sp _ _ _ rfl)) (mk_new B S521 I358 (B.T.sp _ _ _ rfl) (.inl rfl)) (mk_new B S590 I358 (B.T.sp _ _ _ rfl) (.inr rfl))
    (fr := ⟨callerA, [], s1.heap.objs.size, _, _, fa, _⟩) ⟨?_, rfl, ?_, ?_, rfl⟩ ?_ ?_ scr ⟨K0, KX, T, fun b hb => by cases hb⟩ F N0 ?_ hg rfl rfl fun m' g' s' F' st g1 o1 => ?_
  · kernel_rfl
  · show callerA.depth + 1 + 3 * 14 ≤ 900
    decide
  · show callerA.units + 3 + 30 * 14 ≤ 9000
    decide
  · kernel_rfl
  · kernel_rfl
  · kernel_rfl
  · exact ⟨.inl ⟨.bool true, .bool true, [], rfl, raisesW_false (by wrow_none_raised), .bool _, by wrow_post, unshared_nil⟩, fun b o e => F'.keep b o (st b o e), o1, g1⟩))
end Mine
theorem PySem.Challenge.cw_kx0008_01_holds : PySem.Challenge.rw_kx0008_01.Holds :=
  Mine.main

import PyProof.Rows.All
import Wide.All
import OpenK.AllK
import Wide.FinOn
import Lean
import PySem.Challenge.RW_to0024_01

set_option Elab.async false

/-! part B0 -/
section
open PySem PySem.W PyProof.Rows PySem.Calls PySem.Spec
set_option Elab.async false
set_option linter.unusedVariables false
namespace Mine

/-- pure data -/
inductive D where
  | none
  | bool (b : Bool)
  | int (i : Int)
  | str (x : List Nat)
  | tup (ds : List D)
  | lst (ds : List D)
  | rng (a b : Int)
  | ws (C : Addr) (count : List Int) (trail nt : Int)
  | strT
  | adr (a : Addr)
  | fnv (a : Addr) (o : Obj) (b : Addr) (p : Obj)
  | lstA (ds : List D)
  deriving Inhabited

abbrev Gh := Addr → Obj → Prop
abbrev S (l : List Nat) : Str := ⟨l.toArray⟩

mutual
inductive Rep (G : Gh) : Value → D → Prop
  | none : Rep G Value.none D.none
  | bool (b : Bool) : Rep G (Value.bool b) (D.bool b)
  | int (i : Int) (t : Tok) : Rep G (Value.int i t) (D.int i)
  | str (x : List Nat) (t : Tok) : Rep G (Value.str (S x) t) (D.str x)
  | tup {a : Addr} {vs : List Value} {n : Nat} {ds : List D} : G a { cls := .type "tuple", dict := Option.none, data := .seq vs.toArray n, slots := #[] } → RepAll G vs ds → Rep G (Value.ref a) (D.tup ds)
  | lst {a : Addr} {vs : List Value} {n : Nat} {ds : List D} : G a { cls := .type "list", dict := Option.none, data := .seq vs.toArray n, slots := #[] } → RepAll G vs ds → Rep G (Value.ref a) (D.lst ds)
  | rng {a : Addr} {x y : Int} {t u v : Tok} : G a { cls := .type "range", dict := Option.none, data := .fields #[.int x t, .int y u, .int 1 v], slots := #[] } → Rep G (Value.ref a) (D.rng x y)
  | ws {C a dx tp tc : Addr} {es : List DictEntry} {n : Nat} {count : List Int} {trail nt : Int} {vc : List Value} {t1 t2 : Tok} {sl : Array (Option Value)} {n1 n2 : Nat} :
      G a ⟨.ref C, some dx, .plain, sl⟩ → G dx (dictOf es n) →
      getL (Str.ofString "norm") es = some (some (.ref tp)) → getL (Str.ofString "nt") es = some (some (.int nt t1)) → getL (Str.ofString "indent_level") es = some none →
      G tp { cls := .type "tuple", data := .seq #[.ref tc, .int trail t2] n1 } → G tc { cls := .type "tuple", data := .seq vc.toArray n2 } → IntsAre vc count →
      Rep G (Value.ref a) (D.ws C count trail nt)
  | strT : Rep G (Value.type "str") D.strT
  | adr (a : Addr) : Rep G (Value.ref a) (D.adr a)
  | fnv {a b : Addr} {o p : Obj} : G a o → G b p → Rep G (Value.ref a) (D.fnv a o b p)
  | lstA {a : Addr} {o : Obj} {vs : List Value} {n : Nat} {ds : List D} : G a o → o.cls = .type "list" → o.data = .seq vs.toArray n → RepAll G vs ds → Rep G (Value.ref a) (D.lstA ds)
inductive RepAll (G : Gh) : List Value → List D → Prop
  | nil : RepAll G [] []
  | cons {v : Value} {vs : List Value} {d : D} {ds : List D} : Rep G v d → RepAll G vs ds → RepAll G (v :: vs) (d :: ds)
end

theorem Rep.mono {G G' : Gh} (hs : ∀ a o, G a o → G' a o) {v : Value} {d : D} (h : Rep G v d) : Rep G' v d :=
  Rep.rec (motive_1 := fun v d _ => Rep G' v d) (motive_2 := fun vs ds _ => RepAll G' vs ds) .none (fun b => .bool b) (fun i t => .int i t) (fun x t => .str x t) (fun g _ ih => .tup (hs _ _ g) ih) (fun g _ ih => .lst (hs _ _ g) ih) (fun g => .rng (hs _ _ g))
    (fun h1 h2 e1 e2 e3 h3 h4 i => .ws (hs _ _ h1) (hs _ _ h2) e1 e2 e3 (hs _ _ h3) (hs _ _ h4) i) .strT (fun a => .adr a) (fun h k => .fnv (hs _ _ h) (hs _ _ k)) (fun h k l _ ih => .lstA (hs _ _ h) k l ih) .nil (fun _ _ ih1 ih2 => .cons ih1 ih2) h
theorem RepAll.mono {G G' : Gh} (hs : ∀ a o, G a o → G' a o) {vs : List Value} {ds : List D} (h : RepAll G vs ds) : RepAll G' vs ds := by
  induction vs generalizing ds with
  | nil => cases h; exact .nil
  | cons v vs ih => cases h with | cons a b => exact .cons (a.mono hs) (ih b)
def Rep.Inv (G : Gh) (v : Value) : D → Prop
  | .none => v = Value.none
  | .bool b => v = Value.bool b
  | .int i => ∃ t, v = Value.int i t
  | .str x => ∃ t, v = Value.str (S x) t
  | .tup ds => ∃ a vs n, v = Value.ref a ∧ G a { cls := .type "tuple", dict := Option.none, data := .seq vs.toArray n, slots := #[] } ∧ RepAll G vs ds
  | .lst ds => ∃ a vs n, v = Value.ref a ∧ G a { cls := .type "list", dict := Option.none, data := .seq vs.toArray n, slots := #[] } ∧ RepAll G vs ds
  | .rng x y => ∃ a t u w, v = Value.ref a ∧ G a { cls := .type "range", dict := Option.none, data := .fields #[.int x t, .int y u, .int 1 w], slots := #[] }
  | .strT => v = Value.type "str"
  | .adr a => v = Value.ref a
  | .fnv a o b p => v = Value.ref a ∧ G a o ∧ G b p
  | .lstA ds => ∃ a o vs n, v = Value.ref a ∧ G a o ∧ o.cls = .type "list" ∧ o.data = .seq (List.toArray vs) n ∧ RepAll G vs ds
  | .ws .. => True
theorem Rep.inv {G : Gh} {v : Value} {d : D} (h : Rep G v d) : Rep.Inv G v d := by
  cases h with
  | none => exact rfl
  | bool b => exact rfl
  | int i t => exact ⟨t, rfl⟩
  | str x t => exact ⟨t, rfl⟩
  | tup g r => exact ⟨_, _, _, rfl, g, r⟩
  | lst g r => exact ⟨_, _, _, rfl, g, r⟩
  | rng g => exact ⟨_, _, _, _, rfl, g⟩
  | strT => exact rfl
  | adr a => exact rfl
  | fnv g k => exact ⟨rfl, g, k⟩
  | lstA g k l r => exact ⟨_, _, _, _, rfl, g, k, l, r⟩
  | ws => exact trivial
theorem RepAll.inv {G : Gh} {vs : List Value} {d : D} {ds : List D} (h : RepAll G vs (d :: ds)) : ∃ v r, vs = v :: r ∧ Rep G v d ∧ RepAll G r ds := by
  cases h with
  | cons a b => exact ⟨_, _, rfl, a, b⟩
theorem RepAll.inv0 {G : Gh} {vs : List Value} (h : RepAll G vs []) : vs = [] := by
  cases h; rfl
theorem lenS {vs : List Value} {n : Nat} (h : vs.length = n + 1) : ∃ a r, vs = a :: r ∧ r.length = n := by
  cases vs with
  | nil => cases h
  | cons a r => exact ⟨a, r, rfl, Nat.succ.inj h⟩
theorem len1 {vs : List Value} (h : vs.length = 1) : ∃ a, vs = [a] := List.length_eq_one_iff.mp h
theorem len2 {vs : List Value} (h : vs.length = 2) : ∃ a b, vs = [a, b] := by
  obtain ⟨a, r, rfl, h'⟩ := lenS h
  obtain ⟨b, rfl⟩ := len1 h'
  exact ⟨a, b, rfl⟩
theorem len3 {vs : List Value} (h : vs.length = 3) : ∃ a b c, vs = [a, b, c] := by
  obtain ⟨a, r, rfl, h'⟩ := lenS h
  obtain ⟨b, c, rfl⟩ := len2 h'
  exact ⟨a, b, c, rfl⟩
theorem len4 {vs : List Value} (h : vs.length = 4) : ∃ a b c d, vs = [a, b, c, d] := by
  cases vs with
  | nil => cases h
  | cons a r =>
    obtain ⟨b, c, d, rfl⟩ := len3 (Nat.succ.inj h)
    exact ⟨a, b, c, d, rfl⟩
section
variable {G : Gh} {v : Value} {d : D} {vs ws : List Value} {ds es : List D}
theorem RepAll.length (h : RepAll G vs ds) : vs.length = ds.length := by
  induction vs generalizing ds with
  | nil => cases h; rfl
  | cons v vs ih =>
    cases h with
    | cons _ r => rw [List.length_cons, List.length_cons, ih r]
theorem RepAll.append (h : RepAll G vs ds) (k : RepAll G ws es) : RepAll G (vs ++ ws) (ds ++ es) := by
  induction vs generalizing ds with
  | nil => cases h; exact k
  | cons v vs ih =>
    cases h with
    | cons h r => exact .cons h (ih r)
theorem RepAll.get (h : RepAll G vs ds) {k : Nat} {d : D} (hk : ds[k]? = some d) : ∃ v, vs[k]? = some v ∧ Rep G v d := by
  induction vs generalizing ds k with
  | nil => cases h; simp at hk
  | cons v vs ih =>
    cases h with
    | cons h r =>
      cases k with
      | zero => simp at hk; subst hk; exact ⟨v, rfl, h⟩
      | succ k => exact ih r (by simpa using hk)
theorem RepAll.get' (h : RepAll G vs ds) {k : Nat} {v : Value} (hk : vs[k]? = some v) : ∃ d, ds[k]? = some d ∧ Rep G v d := by
  induction vs generalizing ds k with
  | nil => simp at hk
  | cons v vs ih =>
    cases h with
    | cons h r =>
      cases k with
      | zero => simp at hk; subst hk; exact ⟨_, rfl, h⟩
      | succ k => exact ih r (by simpa using hk)
theorem RepAll.drop (h : RepAll G vs ds) (k : Nat) : RepAll G (vs.drop k) (ds.drop k) := by
  induction k generalizing vs ds with
  | zero => simpa using h
  | succ k ih =>
    cases h with
    | nil => simpa using RepAll.nil
    | cons _ r => simpa using ih r
theorem RepAll.take (h : RepAll G vs ds) (k : Nat) : RepAll G (vs.take k) (ds.take k) := by
  induction k generalizing vs ds with
  | zero => simpa using RepAll.nil
  | succ k ih =>
    cases h with
    | nil => simpa using RepAll.nil
    | cons h r => simpa using .cons h (ih r)
theorem RepAll.replicate (h : Rep G v d) (k : Nat) : RepAll G (List.replicate k v) (List.replicate k d) := by
  induction k with
  | zero => exact .nil
  | succ k ih => exact .cons h ih
theorem RepAll.one (h : Rep G v d) : RepAll G [v] [d] := .cons h .nil
end

/-- a dict may be marked (a frame that an exception has passed) -/
def isD (o : Obj) : Bool := match o.data with
  | .dict _ _ => true
  | _ => false
/-- a code table may grow -/
def isT (o : Obj) : Bool := match o.cls, o.data with
  | .none, .fields _ => true
  | _, _ => false
def soft (o : Obj) : Bool := isD o || isT o
def Alike (o o' : Obj) : Prop := o' = o ∨ (isD o = true ∧ ∃ sl, o' = { o with slots := sl }) ∨ (isT o = true ∧ ∃ vs, o' = { o with data := .fields vs })
theorem Alike.refl (o : Obj) : Alike o o := .inl rfl
theorem isT_fields {o : Obj} (h : isT o = true) : ∃ vs, o.data = .fields vs ∧ o.cls = .none := by
  unfold isT at h
  split at h
  · rename_i vs h1 h2
    exact ⟨vs, h2, h1⟩
  · cases h
theorem isT_of {o : Obj} {vs : Array Value} (h : isT o = true) : isT { o with data := .fields vs } = true := by
  obtain ⟨_, _, hc⟩ := isT_fields h
  unfold isT
  rw [hc]
theorem Alike.data {o o' : Obj} (h : Alike o o') (hn : isT o = false) : o'.data = o.data := by
  rcases h with rfl | ⟨_, sl, rfl⟩ | ⟨q, _⟩
  · rfl
  · rfl
  · rw [hn] at q; cases q
theorem isT_data {o : Obj} (h : ∀ vs, o.data ≠ .fields vs) : isT o = false := by
  cases q : isT o with
  | false => rfl
  | true =>
    obtain ⟨vs, e, _⟩ := isT_fields q
    exact absurd e (h vs)
theorem isD_slots (o : Obj) (sl : Array (Option Value)) : isD { o with slots := sl } = isD o := rfl
theorem isT_slots (o : Obj) (sl : Array (Option Value)) : isT { o with slots := sl } = isT o := rfl
theorem isD_notT {o : Obj} (h : isT o = true) : isD o = false := by
  obtain ⟨vs, e, _⟩ := isT_fields h
  unfold isD; rw [e]
theorem isT_notD {o : Obj} (h : isD o = true) : isT o = false := by
  cases q : isT o with
  | false => rfl
  | true => rw [isD_notT q] at h; cases h
theorem Alike.soft {o o' : Obj} (h : Alike o o') : Mine.soft o' = Mine.soft o := by
  rcases h with rfl | ⟨_, sl, rfl⟩ | ⟨q, vs, rfl⟩
  · rfl
  · rfl
  · unfold Mine.soft
    rw [isT_of q, q]
    simp
theorem Alike.trans {o o' o'' : Obj} (h : Alike o o') (k : Alike o' o'') : Alike o o'' := by
  rcases h with rfl | ⟨x, sl, rfl⟩ | ⟨x, vs, rfl⟩
  · exact k
  · rcases k with rfl | ⟨y, sl', rfl⟩ | ⟨y, _⟩
    · exact .inr (.inl ⟨x, sl, rfl⟩)
    · exact .inr (.inl ⟨x, sl', rfl⟩)
    · rw [isT_slots, isT_notD x] at y; cases y
  · rcases k with rfl | ⟨y, _⟩ | ⟨y, vs', rfl⟩
    · exact .inr (.inr ⟨x, vs, rfl⟩)
    · rw [isD_notT (isT_of x)] at y; cases y
    · exact .inr (.inr ⟨x, vs', rfl⟩)
theorem soft_D {o : Obj} (h : Mine.soft o = false) : isD o = false := (Bool.or_eq_false_iff.mp h).1
theorem soft_T {o : Obj} (h : Mine.soft o = false) : isT o = false := (Bool.or_eq_false_iff.mp h).2
theorem Alike.eq {o o' : Obj} (h : Alike o o') (q : Mine.soft o = false) : o' = o := by
  rcases h with rfl | ⟨x, _⟩ | ⟨x, _⟩
  · rfl
  · rw [soft_D q] at x; cases x
  · rw [soft_T q] at x; cases x
def Has (h : Heap) (a : Addr) (o : Obj) : Prop := ∃ o', h.get? a = some o' ∧ Alike o o'
theorem Has.eq {h : Heap} {a : Addr} {o : Obj} (x : Has h a o) (q : soft o = false) : h.get? a = some o := by
  obtain ⟨o', e, k⟩ := x
  rw [e, k.eq q]
/-- the same, but for a dict's marks -/
def Alike2 (o o' : Obj) : Prop := o' = o ∨ (isD o = true ∧ ∃ sl, o' = { o with slots := sl })
theorem Alike2.refl (o : Obj) : Alike2 o o := .inl rfl
theorem Alike2.to {o o' : Obj} (h : Alike2 o o') : Alike o o' := h.elim .inl fun q => .inr (.inl q)
theorem Alike2.eq {o o' : Obj} (h : Alike2 o o') (q : isD o = false) : o' = o := by
  rcases h with rfl | ⟨x, _⟩
  · rfl
  · rw [q] at x; cases x
theorem Alike.to2 {o o' : Obj} (h : Alike o o') (q : isT o = false) : Alike2 o o' := by
  rcases h with h | h | ⟨x, _⟩
  · exact .inl h
  · exact .inr h
  · rw [q] at x; cases x
def Has2 (h : Heap) (a : Addr) (o : Obj) : Prop := ∃ o', h.get? a = some o' ∧ Alike2 o o'
theorem Has2.to {h : Heap} {a : Addr} {o : Obj} (x : Has2 h a o) : Has h a o := let ⟨o', e, k⟩ := x; ⟨o', e, k.to⟩
theorem Has2.of {h : Heap} {a : Addr} {o : Obj} (e : h.get? a = some o) : Has2 h a o := ⟨o, e, .refl o⟩
theorem Has2.eq {h : Heap} {a : Addr} {o : Obj} (x : Has2 h a o) (q : isD o = false) : h.get? a = some o := by
  obtain ⟨o', e, k⟩ := x
  rw [e, k.eq q]
theorem Has2.off {h h₁ : Heap} {a : Addr} {o : Obj} (x : Has2 h a o) (hk : ∀ o, h.get? a = some o → h₁.get? a = some o) : Has2 h₁ a o := by
  obtain ⟨o', e, q⟩ := x
  exact ⟨o', hk _ e, q⟩
theorem Has.to2 {h : Heap} {a : Addr} {o : Obj} (x : Has h a o) (q : isT o = false) : Has2 h a o := let ⟨o', e, k⟩ := x; ⟨o', e, k.to2 q⟩
/-- the heap's old objects stand -/
def Kh (h h' : Heap) : Prop := ∀ b o, h.get? b = some o → Has h' b o
theorem Kh.of {h h' : Heap} (k : ∀ b o, h.get? b = some o → h'.get? b = some o) : Kh h h' := fun b o e => ⟨o, k b o e, .refl o⟩
theorem Kh.refl (h : Heap) : Kh h h := .of fun _ _ e => e
theorem Kh.has {h h' : Heap} (k : Kh h h') {a : Addr} {o : Obj} (x : Has h a o) : Has h' a o := by
  obtain ⟨o', e, q⟩ := x
  obtain ⟨o'', e', q'⟩ := k _ _ e
  exact ⟨o'', e', q.trans q'⟩
theorem Kh.trans {h h' h'' : Heap} (x : Kh h h') (y : Kh h' h'') : Kh h h'' := fun b o e => y.has (x b o e)
theorem Kh.get {h h' : Heap} (k : Kh h h') {a : Addr} {o : Obj} (e : h.get? a = some o) (q : soft o = false) : h'.get? a = some o := (k a o e).eq q
theorem Kh.some {h h' : Heap} (k : Kh h h') {a : Addr} {o : Obj} (e : h.get? a = some o) : h'.get? a ≠ none := by
  obtain ⟨o', e', _⟩ := k a o e
  rw [e']; exact fun q => nomatch q
theorem Kh.none {h h' : Heap} (k : Kh h h') {a : Addr} (e : h'.get? a = none) : h.get? a = none := by
  cases q : h.get? a with
  | none => rfl
  | some o => exact absurd e (k.some q)
theorem Kh.isList {h h' : Heap} (k : Kh h h') {a : Addr} {vs : Array Value} (x : h.IsList a vs) : h'.IsList a vs := by
  obtain ⟨o, e, hc, n, hd⟩ := x
  have q : soft o = false := by
    unfold soft isD isT
    rw [hd, hc]; rfl
  exact ⟨o, k.get e q, hc, n, hd⟩
theorem Kh.ns {h h' : Heap} (k : Kh h h') {a : Addr} {m : Str → Option Value} (x : h.Ns a m) : h'.Ns a m := by
  obtain ⟨o, es, ep, ho, hd, r⟩ := x
  obtain ⟨o', e', q⟩ := k _ _ ho
  exact ⟨o', es, ep, e', (q.data (by unfold isT; rw [hd]; split <;> first | rfl | contradiction)).trans hd, r⟩
theorem Kh.cell {h h' : Heap} (k : Kh h h') {a : Addr} {v : Option Value} (x : h.IsCell a v) : h'.IsCell a v := by
  obtain ⟨o, ho, hd⟩ := x
  obtain ⟨o', e', q⟩ := k _ _ ho
  exact ⟨o', e', (q.data (by unfold isT; rw [hd]; split <;> first | rfl | contradiction)).trans hd⟩
def IsDict (h : Heap) (L : Addr) : Prop := ∃ o es n, h.get? L = some o ∧ o.data = .dict es n
theorem Kh.dict {h h' : Heap} (k : Kh h h') {a : Addr} (x : IsDict h a) : IsDict h' a := by
  obtain ⟨o, es, n, ho, hd⟩ := x
  obtain ⟨o', e', q⟩ := k _ _ ho
  exact ⟨o', es, n, e', (q.data (by unfold isT; rw [hd]; split <;> first | rfl | contradiction)).trans hd⟩
theorem isDict_ns {h : Heap} {a : Addr} {m : Str → Option Value} (x : h.Ns a m) : IsDict h a := by
  obtain ⟨o, es, ep, ho, hd, r⟩ := x
  exact ⟨o, es, ep, ho, hd⟩

/-- the code table of a def that holds a def: its code, its table, the inner def's place and name -/
structure TabRec where
  code : Addr
  tab : Addr
  pos : Pos
  qual : Str
/-- the table is empty or tells the inner def's code -/
def TabOk (G : Gh) (h : Heap) (q : TabRec) : Prop := CodeHd h q.code q.tab ∧ ∃ ps, h.get? q.tab = some (tabObj ps) ∧ TriplesOk ps.toList ∧
  (codeAmong q.pos ps.toList = none ∨ ∃ c' o vs t, codeAmong q.pos ps.toList = some (.ref c') ∧ G c' o ∧ h.get? c' = some o ∧ o.data = .fields vs ∧ vs[1]? = some (.str q.qual t))
theorem TabOk.step {G G' : Gh} {h h' : Heap} {q : TabRec} (x : TabOk G h q) (hc : ∀ o, h.get? q.code = some o → h'.get? q.code = some o) (ht : ∀ o, h.get? q.tab = some o → h'.get? q.tab = some o) (hG : ∀ a o, G a o → G' a o) (hk : ∀ a o vs, G a o → o.data = .fields vs → h.get? a = some o → h'.get? a = some o) : TabOk G' h' q := by
  obtain ⟨⟨o, vs, file, tf, flags, tg, inF, text, tt, e, r⟩, ps, hP, hT, hh⟩ := x
  refine ⟨⟨o, vs, file, tf, flags, tg, inF, text, tt, hc _ e, r⟩, ps, ht _ hP, hT, ?_⟩
  rcases hh with hh | ⟨c', o, vs, t, h1, h2, h3, h4, h5⟩
  · exact .inl hh
  · exact .inr ⟨c', o, vs, t, h1, hG _ _ h2, hk _ _ _ h2 h4 h3, h4, h5⟩
/-- what stands at the top of the module -/
structure Cx where
  prog : Program
  w : World
  K : Frag
  p : Program
  loose : List Str
  mean : ExcName → Option Value
  mg : Str → Option Value
  mb : Str → Option Value
  base : Heap
  tabs : List TabRec
/-- the data stand, the code tables are right -/
structure OnG (c : Cx) (G : Gh) (s : Shared) : Prop where
  has : ∀ a o, G a o → Has2 s.heap a o
  tab : ∀ q ∈ c.tabs, TabOk G s.heap q
  nt : ∀ q ∈ c.tabs, ∀ o, ¬ G q.tab o
theorem OnG.at {c : Cx} {G : Gh} {s : Shared} (h : OnG c G s) {a : Addr} {o : Obj} (x : G a o) (q : soft o = false) : s.heap.get? a = some o := (h.has a o x).eq (soft_D q)
theorem has_ne {h : Heap} {a : Addr} {o : Obj} (x : Has h a o) : h.get? a ≠ none := by
  obtain ⟨o', e, _⟩ := x
  rw [e]; exact fun q => nomatch q
theorem OnG.ne {c : Cx} {G : Gh} {s : Shared} (h : OnG c G s) {a : Addr} {o : Obj} (x : G a o) : s.heap.get? a ≠ none := has_ne (h.has a o x).to
theorem Has.off {h h₁ : Heap} {a : Addr} {o : Obj} (x : Has h a o) (hk : ∀ o, h.get? a = some o → h₁.get? a = some o) : Has h₁ a o := by
  obtain ⟨o', e, q⟩ := x
  exact ⟨o', hk _ e, q⟩
theorem OnG.off {c : Cx} {G : Gh} {s s₁ : Shared} (h : OnG c G s) (hk : ∀ a o, G a o → ∀ o', s.heap.get? a = some o' → s₁.heap.get? a = some o') (ht : ∀ q ∈ c.tabs, ∀ a, (a = q.code ∨ a = q.tab) → ∀ o, s.heap.get? a = some o → s₁.heap.get? a = some o) : OnG c G s₁ :=
  ⟨fun a o e => (h.has a o e).off (hk a o e), fun q hq => (h.tab q hq).step (ht q hq _ (.inl rfl)) (ht q hq _ (.inr rfl)) (fun _ _ x => x) fun a o _ x _ e => hk a o x o e, h.nt⟩
theorem OnG.tabSome {c : Cx} {G : Gh} {s : Shared} (h : OnG c G s) {q : TabRec} (hq : q ∈ c.tabs) {a : Addr} (ha : a = q.code ∨ a = q.tab) : s.heap.get? a ≠ none := by
  obtain ⟨⟨o, vs, file, tf, flags, tg, inF, text, tt, e, r⟩, ps, hP, _⟩ := h.tab q hq
  rcases ha with rfl | rfl
  · rw [e]; exact fun q => nomatch q
  · rw [hP]; exact fun q => nomatch q
theorem OnG.tabNe {c : Cx} {G : Gh} {s : Shared} (h : OnG c G s) {t : Addr} (h0 : s.heap.get? t = none) {q : TabRec} (hq : q ∈ c.tabs) {a : Addr} (ha : a = q.code ∨ a = q.tab) : a ≠ t := fun e => h.tabSome hq ha (e ▸ h0)
theorem OnG.tabNot {c : Cx} {G : Gh} {s : Shared} (h : OnG c G s) {q : TabRec} (hq : q ∈ c.tabs) {a : Addr} {o : Obj} (x : Has2 s.heap a o) (ho : isT o = false) : a ≠ q.tab := fun e => by
  subst e
  obtain ⟨_, ps, hP, _⟩ := h.tab q hq
  obtain ⟨o', e', al⟩ := x
  rw [hP] at e'; cases e'
  rcases al with al | ⟨hd, sl, al⟩
  · rw [← al] at ho; cases ho
  · have : isD (tabObj ps) = true := by rw [al]; exact hd
    cases this
/-- all stands as it was, new data are told -/
theorem OnG.keeps {c : Cx} {G G' : Gh} {s s' : Shared} (h : OnG c G s) (k : Keeps s s') (hG : ∀ a o, G a o → G' a o) (hn : ∀ a o, G' a o → G a o ∨ (Has2 s'.heap a o ∧ (s.heap.get? a = none ∨ isT o = false))) : OnG c G' s' := by
  obtain ⟨h', t, rfl, hk⟩ := k
  have h₁ : OnG c G { s with heap := h', toks := t } := ⟨fun a o e => (h.has a o e).off (hk _), fun q hq => (h.tab q hq).step (fun o e => hk _ _ e) (fun o e => hk _ _ e) (fun _ _ x => x) fun a o _ _ _ e => hk _ _ e, h.nt⟩
  refine ⟨fun a o e => ?_, fun q hq => (h₁.tab q hq).step (fun o e => e) (fun o e => e) hG fun a o _ _ _ e => e, fun q hq o e => ?_⟩
  · rcases hn a o e with e | e
    · exact h₁.has a o e
    · exact e.1
  · rcases hn _ o e with e | ⟨e, e2 | e2⟩
    · exact h.nt q hq o e
    · exact h.tabSome hq (.inr rfl) e2
    · exact h₁.tabNot hq e e2 rfl
theorem OnG.more {c : Cx} {G G' : Gh} {s : Shared} (h : OnG c G s) (hG : ∀ a o, G a o → G' a o) (hn : ∀ a o, G' a o → G a o ∨ (Has2 s.heap a o ∧ isT o = false)) : OnG c G' s := h.keeps ⟨s.heap, s.toks, rfl, fun _ _ e => e⟩ hG fun a o e => (hn a o e).imp id fun q => ⟨q.1, .inr q.2⟩
/-- the frames above -/
def FrOk (c : Cx) (A : Around) (h : Heap) : Prop := ∃ outer, A.frames = some outer ∧ ∀ e ∈ outer, e.scope.kind ≠ .module ∧ ∃ L, e.frame = some L ∧ c.base.get? L = none ∧ IsDict h L
theorem FrOk.step {c : Cx} {A : Around} {h h' : Heap} (x : FrOk c A h) (k : ∀ L, c.base.get? L = none → IsDict h L → IsDict h' L) : FrOk c A h' := by
  obtain ⟨outer, e, r⟩ := x
  exact ⟨outer, e, fun v hv => ⟨(r v hv).1, let ⟨L, a, b, d⟩ := (r v hv).2; ⟨L, a, b, k L b d⟩⟩⟩
theorem FrOk.step2 {c : Cx} {A : Around} {h₀ h h' : Heap} (y : FrOk c A h₀) (x : FrOk c A h) (k : ∀ L, IsDict h₀ L → IsDict h L → IsDict h' L) : FrOk c A h' := by
  obtain ⟨outer, e, r⟩ := x
  obtain ⟨outer', e', r'⟩ := y
  rw [e] at e'; cases e'
  refine ⟨outer, e, fun v hv => ⟨(r v hv).1, ?_⟩⟩
  obtain ⟨L, a, b, d⟩ := (r v hv).2
  obtain ⟨L', a', b', d'⟩ := (r' v hv).2
  rw [a] at a'; cases a'
  exact ⟨L, a, b, k L d' d⟩
structure Cx.Gl (c : Cx) (A : Around) (h : Heap) : Prop where
  kin : c.K.In c.base
  ktop : Top c.p c.loose c.mean c.mg c.mb c.base
  stays : ∀ b o, c.base.get? b = some o → h.get? b = some o
  fr : FrOk c A h
theorem Cx.Gl.inn {c : Cx} {A : Around} {h : Heap} (x : c.Gl A h) : c.K.In h := x.kin.keeps x.stays
theorem Cx.Gl.top {c : Cx} {A : Around} {h : Heap} (x : c.Gl A h) : Top c.p c.loose c.mean c.mg c.mb h := x.ktop.keeps x.stays
theorem Cx.Gl.keeps {c : Cx} {A : Around} {h h' : Heap} (x : c.Gl A h) (k : ∀ b o, h.get? b = some o → h'.get? b = some o) : c.Gl A h' := ⟨x.kin, x.ktop, fun b o e => k b o (x.stays b o e), x.fr.step fun L _ d => (Kh.of k).dict d⟩

structure Kp (c : Cx) (s s' : Shared) : Prop where
  same : ∃ h t, s' = { s with heap := h, toks := t }
  kh : Kh s.heap s'.heap
  base : (∀ b o, c.base.get? b = some o → s.heap.get? b = some o) → ∀ b o, c.base.get? b = some o → s'.heap.get? b = some o
theorem Kp.of {c : Cx} {s s' : Shared} (x : Keeps s s') : Kp c s s' := by
  obtain ⟨h, t, rfl, k⟩ := x
  exact ⟨⟨h, t, rfl⟩, .of k, fun z b o e => k b o (z b o e)⟩
theorem Kp.refl {c : Cx} (s : Shared) : Kp c s s := ⟨⟨s.heap, s.toks, rfl⟩, .refl _, fun z => z⟩
theorem Kp.trans {c : Cx} {s s' s'' : Shared} (x : Kp c s s') (y : Kp c s' s'') : Kp c s s'' := by
  refine ⟨?_, x.kh.trans y.kh, fun z => y.base (x.base z)⟩
  obtain ⟨h, t, rfl⟩ := x.same
  obtain ⟨h', t', rfl⟩ := y.same
  exact ⟨h', t', rfl⟩
theorem Kp.off {c : Cx} {s : Shared} {h h₁ : Heap} {tk tk₁ : Nat} (gl : ∀ b o, c.base.get? b = some o → s.heap.get? b = some o) (k : Kp c s { s with heap := h, toks := tk }) (hk : ∀ b o, s.heap.get? b ≠ none → h.get? b = some o → h₁.get? b = some o) : Kp c s { s with heap := h₁, toks := tk₁ } := by
  have ne : ∀ {b : Addr} {o : Obj}, s.heap.get? b = some o → s.heap.get? b ≠ none := fun e q => by rw [q] at e; cases e
  refine ⟨⟨h₁, tk₁, rfl⟩, fun b o e => ?_, fun z b o e => hk b o (ne (z b o e)) (k.base z b o e)⟩
  obtain ⟨o', e', q⟩ := k.kh b o e
  exact ⟨o', hk b o' (ne e) e', q⟩
theorem Has.of {h : Heap} {a : Addr} {o : Obj} (e : h.get? a = some o) : Has h a o := ⟨o, e, .refl o⟩
theorem Kp.toks {c : Cx} {s : Shared} {h : Heap} {tk tk₁ : Nat} (k : Kp c s { s with heap := h, toks := tk }) : Kp c s { s with heap := h, toks := tk₁ } := ⟨⟨h, tk₁, rfl⟩, k.kh, k.base⟩
theorem Cx.Gl.grow {c : Cx} {A : Around} {s s' : Shared} (x : c.Gl A s.heap) (k : Kp c s s') : c.Gl A s'.heap := ⟨x.kin, x.ktop, k.base x.stays, x.fr.step fun L _ d => k.kh.dict d⟩

/-- the heap has grown: old objects stand, the datum's objects too -/
structure Grow (c : Cx) (G : Gh) (s : Shared) (G' : Gh) (s' : Shared) : Prop where
  keep : Kp c s s'
  sub : ∀ a o, G a o → G' a o
  on : OnG c G' s'
  new : ∀ a o, G' a o → G a o ∨ s.heap.get? a = none

theorem Grow.refl {c : Cx} {G : Gh} {s : Shared} (h : OnG c G s) : Grow c G s G s := ⟨.refl s, fun _ _ x => x, h, fun _ _ x => .inl x⟩
theorem Grow.trans {c : Cx} {G G' G'' : Gh} {s s' s'' : Shared} (x : Grow c G s G' s') (y : Grow c G' s' G'' s'') : Grow c G s G'' s'' :=
  ⟨x.keep.trans y.keep, fun _ _ e => y.sub _ _ (x.sub _ _ e), y.on, fun a o e => by
    rcases y.new a o e with h | h
    · exact x.new a o h
    · exact .inr (x.keep.kh.none h)⟩
theorem Grow.toks {c : Cx} {G : Gh} {s : Shared} (h : OnG c G s) (t : Nat) : Grow c G s G { s with toks := t } :=
  ⟨.of ⟨s.heap, t, rfl, fun _ _ e => e⟩, fun _ _ x => x, h.keeps ⟨s.heap, t, rfl, fun _ _ e => e⟩ (fun _ _ x => x) fun _ _ x => .inl x, fun _ _ x => .inl x⟩
/-- any growth of the heap, no new datum -/
theorem Grow.still {c : Cx} {G : Gh} {s s' : Shared} (h : OnG c G s) (k : Keeps s s') : Grow c G s G s' :=
  have k' : Kp c s s' := .of k
  ⟨k', fun _ _ x => x, h.keeps k (fun _ _ x => x) fun _ _ x => .inl x, fun _ _ x => .inl x⟩
/-- one new object -/
def Gh.add (G : Gh) (a : Addr) (o : Obj) : Gh := fun b p => G b p ∨ (b = a ∧ p = o)
theorem Grow.alloc {c : Cx} {G : Gh} {s s' : Shared} {a : Addr} {o : Obj} (h : OnG c G s) (k : Keeps s s') (hn : s.heap.get? a = none) (ho : s'.heap.get? a = some o) :
    Grow c G s (G.add a o) s' :=
  have k' : Kp c s s' := .of k
  ⟨k', fun _ _ x => .inl x, h.keeps k (fun _ _ x => .inl x) (fun b p e => by
    rcases e with e | ⟨rfl, rfl⟩
    · exact .inl e
    · exact .inr ⟨⟨_, ho, .refl _⟩, .inl hn⟩), fun b p e => by
    rcases e with e | ⟨rfl, rfl⟩
    · exact .inl e
    · exact .inr hn⟩
theorem Gh.add_self {G : Gh} {a : Addr} {o : Obj} : G.add a o a o := .inr ⟨rfl, rfl⟩
theorem heap_size_none (h : Heap) : h.get? h.objs.size = none := by
  cases q : h.get? h.objs.size with
  | none => rfl
  | some o => exact absurd (Heap.lt_size q) (Nat.lt_irrefl _)
theorem Grow.push {c : Cx} {G : Gh} {s : Shared} {o : Obj} {t : Nat} (h : OnG c G s) (hf : o.isFreed = false := by rfl) :
    Grow c G s (G.add s.heap.objs.size o) { s with heap := s.heap.push o, toks := t } :=
  Grow.alloc h ⟨_, _, rfl, fun _ _ e => Heap.get?_push_of_some _ e⟩ (heap_size_none _) (Heap.get?_push_size _ hf)

structure AOk (A : Around) (n : Nat) : Prop where
  hh : A.handled = none
  dep : A.depth + n < recursionLimit
  un : A.units + 8 * n + 40 < cLine
theorem AOk.le {A : Around} {n m : Nat} (h : AOk A n) (hm : m ≤ n) : AOk A m := ⟨h.hh, by have := h.dep; (first | assumption | exact Int.natCast_nonneg _ | exact Nat.zero_le _ | exact Nat.le_refl _ | decide | exact Nat.le_trans (by assumption) (by decide) | lia), by have := h.un; (first | assumption | exact Int.natCast_nonneg _ | exact Nat.zero_le _ | exact Nat.le_refl _ | decide | exact Nat.le_trans (by assumption) (by decide) | lia)⟩
theorem AOk.deeper {A : Around} {n : Nat} (h : AOk A (n + 1)) (env : Env) : AOk (A.deeper env) n :=
  ⟨h.hh, by have := h.dep; show A.depth + 1 + n < _; (first | assumption | exact Int.natCast_nonneg _ | exact Nat.zero_le _ | exact Nat.le_refl _ | decide | exact Nat.le_trans (by assumption) (by decide) | lia), by have := h.un; show A.units + 3 + 8 * n + 40 < _; (first | assumption | exact Int.natCast_nonneg _ | exact Nat.zero_le _ | exact Nat.le_refl _ | decide | exact Nat.le_trans (by assumption) (by decide) | lia)⟩

/-- a name's datum: a value, or a list that is the frame's own (it may grow) -/
inductive Sl where
  | val (d : D)
  | own (ds : List D)
def SlotIs (G : Gh) (h : Heap) (v : Value) : Sl → Prop
  | .val d => Rep G v d
  | .own ds => ∃ a vs, v = .ref a ∧ h.IsList a vs.toArray ∧ RepAll G vs ds
abbrev Sig := List (Str × Sl)

/-- the name reads v -/
inductive ReadsAs (env : Env) (h : Heap) (x : Str) (v : Value) : Prop
  | loc {m : Str → Option Value} : env.kindOf x = some .local → h.Ns env.locals m → m x = some v → ReadsAs env h x v
  | cell {c : Addr} : env.kindOf x = some .cell → env.cells.lookup x = some c → h.IsCell c (some v) → ReadsAs env h x v
  | free {c : Addr} : env.kindOf x = some .free → env.cells.lookup x = some c → h.IsCell c (some v) → (x == ("__classdict__" : Str)) = false → ReadsAs env h x v
def Rd (env : Env) (G : Gh) (h : Heap) (x : Str) (sl : Sl) : Prop := ∃ v, ReadsAs env h x v ∧ SlotIs G h v sl
def Sc (env : Env) (G : Gh) (h : Heap) (σ : Sig) : Prop := ∀ x sl, σ.lookup x = some sl → Rd env G h x sl

theorem ReadsAs.keeps {env : Env} {h h' : Heap} {x : Str} {v : Value} (r : ReadsAs env h x v) (k : Kh h h') : ReadsAs env h' x v := by
  cases r with
  | loc a b c => exact .loc a (k.ns b) c
  | cell a b c => exact .cell a b (k.cell c)
  | free a b c d => exact .free a b (k.cell c) d
theorem isList_keeps {h h' : Heap} {a : Addr} {vs : Array Value} (x : h.IsList a vs) (k : ∀ b o, h.get? b = some o → h'.get? b = some o) : h'.IsList a vs := let ⟨o, e, r⟩ := x; ⟨o, k _ _ e, r⟩
theorem SlotIs.keeps {G G' : Gh} {h h' : Heap} {v : Value} {sl : Sl} (x : SlotIs G h v sl) (k : Kh h h') (g : ∀ a o, G a o → G' a o) : SlotIs G' h' v sl := by
  cases sl with
  | val d => exact Rep.mono g x
  | own ds =>
    obtain ⟨a, vs, e, l, r⟩ := x
    exact ⟨a, vs, e, k.isList l, RepAll.mono g r⟩
theorem Sc.grow {c : Cx} {env : Env} {G G' : Gh} {s s' : Shared} {σ : Sig} (x : Sc env G s.heap σ) (g : Grow c G s G' s') : Sc env G' s'.heap σ := fun y sl e => by
  obtain ⟨v, r, q⟩ := x y sl e
  exact ⟨v, r.keeps g.keep.kh, q.keeps g.keep.kh g.sub⟩

/-- an env of a def of the module -/
structure EnvOk (env : Env) : Prop where
  kind : env.scope.kind = .function
  glob : env.globals = mainGlobals
  built : env.builtins = builtinsNs

structure Ok (c : Cx) (A : Around) (env : Env) (σ : Sig) (G : Gh) (s : Shared) : Prop where
  sub : OnG c G s
  gl : c.Gl A s.heap
  sc : Sc env G s.heap σ
theorem Ok.grow {c : Cx} {A : Around} {env : Env} {σ : Sig} {G G' : Gh} {s s' : Shared} (x : Ok c A env σ G s) (g : Grow c G s G' s') : Ok c A env σ G' s' :=
  ⟨g.on, x.gl.grow g.keep, x.sc.grow g⟩

/-- a step that ends in a value of datum d -/
def Res (c : Cx) (A : Around) (G : Gh) (s : Shared) (m : Sem Value) (d : D) : Prop :=
  wpAny (model c.prog c.w) A m (fun v s' => ∃ G', Grow c G s G' s' ∧ Rep G' v d) (fun _ _ => False) s
def Ev (c : Cx) (A : Around) (env : Env) (σ : Sig) (e : Expr) (d : D) : Prop := ∀ G s, Ok c A env σ G s → Res c A G s (eval e env) d
def Tr (c : Cx) (A : Around) (env : Env) (σ : Sig) (e : Expr) (b : Bool) : Prop := ∀ G s, Ok c A env σ G s →
  wpAny (model c.prog c.w) A (isTrue e env (eval e env)) (fun b' s' => b' = b ∧ ∃ G', Grow c G s G' s') (fun _ _ => False) s

section
variable {c : Cx} {A : Around} {env : Env} {σ : Sig} {G : Gh} {s : Shared}
theorem Res.use {m : Sem Value} {d : D} {Q E : Value → Shared → Prop} (h : Res c A G s m d) (k : ∀ v G' s', Grow c G s G' s' → Rep G' v d → Q v s') : wpAny (model c.prog c.w) A m Q E s :=
  wpAny_mono h (fun v s' ⟨G', g, r⟩ => k v G' s' g r) fun _ _ x => x.elim
theorem Res.seq {m : Sem Value} {d d' : D} {E : Value → Shared → Prop} {f : Value → Sem Value} (h : Res c A G s m d) (k : ∀ v G' s', Grow c G s G' s' → Rep G' v d → Res c A G' s' (f v) d') :
    wpAny (model c.prog c.w) A m (fun v s₁ => wpAny (model c.prog c.w) A (f v) (fun v s' => ∃ G', Grow c G s G' s' ∧ Rep G' v d') E s₁) E s :=
  h.use fun v G' s' g r => (k v G' s' g r).use fun v2 G2 s2 g2 r2 => ⟨G2, g.trans g2, r2⟩
theorem Ev.cast {e : Expr} {d d' : D} (h : Ev c A env σ e d) (q : d = d') : Ev c A env σ e d' := q ▸ h
theorem Tr.cast {e : Expr} {b b' : Bool} (h : Tr c A env σ e b) (q : b = b') : Tr c A env σ e b' := q ▸ h

theorem loadName_of {x : Str} {v : Value} {Q E : Value → Shared → Prop} {M : Model} (hE : EnvOk env) (r : ReadsAs env s.heap x v) (h : Q v s) : wpAny M A (loadName env x) Q E s := by
  cases r with
  | loc a b c => exact wpAny_loadName_local hE.kind a b c h
  | cell a b c => exact wpAny_loadName_cell hE.kind a b c h
  | free a b c d => exact wpAny_loadName_free hE.kind a b c h d

theorem ev_name {x : Str} {pos : Pos} {d : D} (hE : EnvOk env) (hx : σ.lookup x = some (.val d)) (hd : (x == ("__debug__" : Str)) = false := by decide) : Ev c A env σ (.Name x pos) d := fun G s ok => by
  obtain ⟨v, r, q⟩ := ok.sc x _ hx
  exact wpAny_Name (loadName_of hE r ⟨G, Grow.refl ok.sub, q⟩) hd

theorem ev_int {i : Int} {k pos} : Ev c A env σ (.Constant (.int i) k pos) (.int i) := fun G s ok =>
  wpAny_Constant_int ⟨G, Grow.toks ok.sub _, .int _ _⟩
theorem ev_bool {b : Bool} {k pos} : Ev c A env σ (.Constant (.bool b) k pos) (.bool b) := fun G s ok =>
  wpAny_Constant_bool ⟨G, Grow.refl ok.sub, .bool _⟩
theorem ev_str {x : Str} {k pos} {l : List Nat} (hx : x = S l := by rfl) : Ev c A env σ (.Constant (.str x) k pos) (.str l) := fun G s ok => by
  subst hx
  exact wpAny_Constant_str ⟨G, Grow.toks ok.sub _, .str _ _⟩

theorem ev_bin {a b : Expr} {op : Operator} {pos : Pos} {x y z : D} (ha : Ev c A env σ a x) (hb : Ev c A env σ b y)
    (h : ∀ G s u v, Ok c A env σ G s → Rep G u x → Rep G v y → Res c A G s (binaryOp op u v) z) : Ev c A env σ (.BinOp a op b pos) z := fun G s ok =>
  wpAny_BinOp ((ha G s ok).use fun v G1 s1 g1 r1 => (hb G1 s1 (ok.grow g1)).use fun v2 G2 s2 g2 r2 =>
    (h G2 s2 v v2 ((ok.grow g1).grow g2) (r1.mono g2.sub) r2).use fun v3 G3 s3 g3 r3 => ⟨G3, (g1.trans g2).trans g3, r3⟩)

theorem ev_add {a b : Expr} {pos : Pos} {x y : Int} (ha : Ev c A env σ a (.int x)) (hb : Ev c A env σ b (.int y)) : Ev c A env σ (.BinOp a .Add b pos) (.int (x + y)) :=
  ev_bin ha hb fun G s u v ok hu hv => by
    cases hu; cases hv
    exact PyProof.Rows.add_int ⟨G, Grow.toks ok.sub _, .int _ _⟩
theorem ev_sub {a b : Expr} {pos : Pos} {x y : Int} (ha : Ev c A env σ a (.int x)) (hb : Ev c A env σ b (.int y)) : Ev c A env σ (.BinOp a .Sub b pos) (.int (x - y)) :=
  ev_bin ha hb fun G s u v ok hu hv => by
    cases hu; cases hv
    exact PyProof.Rows.sub_int ⟨G, Grow.toks ok.sub _, .int _ _⟩
theorem ev_mul {a b : Expr} {pos : Pos} {x y : Int} (ha : Ev c A env σ a (.int x)) (hb : Ev c A env σ b (.int y)) (hm : IntMulOk x y) : Ev c A env σ (.BinOp a .Mult b pos) (.int (x * y)) :=
  ev_bin ha hb fun G s u v ok hu hv => by
    cases hu; cases hv
    exact PyProof.Rows.mul_int ⟨G, Grow.toks ok.sub _, .int _ _⟩ hm
theorem ev_addS {a b : Expr} {pos : Pos} {x y : List Nat} (ha : Ev c A env σ a (.str x)) (hb : Ev c A env σ b (.str y)) (hsz : x.length + y.length ≤ sizeLine) : Ev c A env σ (.BinOp a .Add b pos) (.str (x ++ y)) :=
  ev_bin ha hb fun G s u v ok hu hv => by
    cases hu; cases hv
    refine PyProof.Rows.add_str (fun t' tk => ⟨G, Grow.toks ok.sub _, ?_⟩) (by simpa [Str.length] using hsz)
    have e : S x ++ S y = S (x ++ y) := by
      show Str.append _ _ = _
      simp [Str.append]
    rw [e]; exact .str _ _
end
end Mine
end


/-! part B1 -/
section
open PySem PySem.W PyProof.Rows PySem.Calls PySem.Spec
set_option Elab.async false
set_option linter.unusedVariables false
set_option maxRecDepth 100000
namespace Mine
section
variable {c : Cx} {A : Around} {env : Env} {σ : Sig} {G : Gh} {s : Shared}

/-! ints -/
theorem ev_mod {a b : Expr} {pos : Pos} {x y : Int} (ha : Ev c A env σ a (.int x)) (hb : Ev c A env σ b (.int y)) (h0 : y ≠ 0) : Ev c A env σ (.BinOp a .Mod b pos) (.int (x.fmod y)) :=
  ev_bin ha hb fun G s u v ok hu hv => by
    (first | obtain rfl := hu.inv0 | obtain ⟨_, rfl⟩ := hu.inv | obtain rfl := hu.inv | cases hu); (first | obtain rfl := hv.inv0 | obtain ⟨_, rfl⟩ := hv.inv | obtain rfl := hv.inv | cases hv)
    exact mod_int' h0 ⟨G, Grow.toks ok.sub _, .int _ _⟩
theorem noPylong {x y : Int} (hy : y.natAbs < 2 ^ 64) : Builtin.divisionGoesByPylong x y = false := by
  unfold Builtin.divisionGoesByPylong
  have h : (if y == 0 then 0 else y.natAbs.log2 / 30 + 1) ≤ 300 := by
    by_cases h0 : y = 0
    · simp [h0]
    · have hb : (y == 0) = false := by simpa using h0
      rw [hb]
      have h1 : y.natAbs.log2 < 64 := (Nat.log2_lt (by (first | assumption | exact Int.natCast_nonneg _ | exact Nat.zero_le _ | exact Nat.le_refl _ | decide | exact Nat.le_trans (by assumption) (by decide) | lia))).mpr hy
      simp only [Bool.false_eq_true, if_false]
      (first | assumption | exact Int.natCast_nonneg _ | exact Nat.zero_le _ | exact Nat.le_refl _ | decide | exact Nat.le_trans (by assumption) (by decide) | lia)
  have h2 : decide ((if y == 0 then 0 else y.natAbs.log2 / 30 + 1) > 300) = false := decide_eq_false (by (first | assumption | exact Int.natCast_nonneg _ | exact Nat.zero_le _ | exact Nat.le_refl _ | decide | exact Nat.le_trans (by assumption) (by decide) | lia))
  simp only [h2, Bool.false_and]
theorem ev_fdiv {a b : Expr} {pos : Pos} {x y : Int} (ha : Ev c A env σ a (.int x)) (hb : Ev c A env σ b (.int y)) (h0 : y ≠ 0) (hy : y.natAbs < 2 ^ 64) : Ev c A env σ (.BinOp a .FloorDiv b pos) (.int (x.fdiv y)) :=
  ev_bin ha hb fun G s u v ok hu hv => by
    (first | obtain rfl := hu.inv0 | obtain ⟨_, rfl⟩ := hu.inv | obtain rfl := hu.inv | cases hu); (first | obtain rfl := hv.inv0 | obtain ⟨_, rfl⟩ := hv.inv | obtain rfl := hv.inv | cases hv)
    exact floordiv_int h0 ⟨G, Grow.toks ok.sub _, .int _ _⟩ (.inl (noPylong hy))
theorem ev_pow {a b : Expr} {pos : Pos} {x y : Int} (ha : Ev c A env σ a (.int x)) (hb : Ev c A env σ b (.int y)) (h0 : 0 ≤ y) (h1 : y ≤ 1000000) (hx : x.natAbs < 2 ^ 64) : Ev c A env σ (.BinOp a .Pow b pos) (.int (x ^ y.toNat)) :=
  ev_bin ha hb fun G s u v ok hu hv => by
    (first | obtain rfl := hu.inv0 | obtain ⟨_, rfl⟩ := hu.inv | obtain rfl := hu.inv | cases hu); (first | obtain rfl := hv.inv0 | obtain ⟨_, rfl⟩ := hv.inv | obtain rfl := hv.inv | cases hv)
    exact pow_int_small h0 h1 hx ⟨G, Grow.toks ok.sub _, .int _ _⟩
theorem ev_shr {a b : Expr} {pos : Pos} {x y : Int} (ha : Ev c A env σ a (.int x)) (hb : Ev c A env σ b (.int y)) (h0 : 0 ≤ y) : Ev c A env σ (.BinOp a .RShift b pos) (.int (x.fdiv (2 ^ y.toNat))) :=
  ev_bin ha hb fun G s u v ok hu hv => by
    (first | obtain rfl := hu.inv0 | obtain ⟨_, rfl⟩ := hu.inv | obtain rfl := hu.inv | cases hu); (first | obtain rfl := hv.inv0 | obtain ⟨_, rfl⟩ := hv.inv | obtain rfl := hv.inv | cases hv)
    exact rshift_int h0 ⟨G, Grow.toks ok.sub _, .int _ _⟩
theorem ev_shl {a b : Expr} {pos : Pos} {x y : Int} (ha : Ev c A env σ a (.int x)) (hb : Ev c A env σ b (.int y)) (h0 : 0 ≤ y) (h1 : y ≤ 1000000) (hx : x.natAbs < 2 ^ 64) : Ev c A env σ (.BinOp a .LShift b pos) (.int (x * 2 ^ y.toNat)) :=
  ev_bin ha hb fun G s u v ok hu hv => by
    (first | obtain rfl := hu.inv0 | obtain ⟨_, rfl⟩ := hu.inv | obtain rfl := hu.inv | cases hu); (first | obtain rfl := hv.inv0 | obtain ⟨_, rfl⟩ := hv.inv | obtain rfl := hv.inv | cases hv)
    exact lshift_int_small h0 h1 hx ⟨G, Grow.toks ok.sub _, .int _ _⟩
theorem ev_xor {a b : Expr} {pos : Pos} {x y : Int} (ha : Ev c A env σ a (.int x)) (hb : Ev c A env σ b (.int y)) : Ev c A env σ (.BinOp a .BitXor b pos) (.int (Builtin.bitXor x y)) :=
  ev_bin ha hb fun G s u v ok hu hv => by
    (first | obtain rfl := hu.inv0 | obtain ⟨_, rfl⟩ := hu.inv | obtain rfl := hu.inv | cases hu); (first | obtain rfl := hv.inv0 | obtain ⟨_, rfl⟩ := hv.inv | obtain rfl := hv.inv | cases hv)
    exact xor_int ⟨G, Grow.toks ok.sub _, .int _ _⟩

/-! comparisons of two ints, two strs -/
theorem ev_cmp {a b : Expr} {op : CmpOp} {pos : Pos} {x y z : D} (ha : Ev c A env σ a x) (hb : Ev c A env σ b y)
    (h : ∀ G s u v, Ok c A env σ G s → Rep G u x → Rep G v y → Res c A G s (compareOp op u v) z) (hm : behindInMarks op b = false := by with_unfolding_all rfl) : Ev c A env σ (.Compare a [op] [b] pos) z := fun G s ok =>
  wpAny_Compare1 ((ha G s ok).use fun v G1 s1 g1 r1 => (hb G1 s1 (ok.grow g1)).use fun v2 G2 s2 g2 r2 =>
    (h G2 s2 v v2 ((ok.grow g1).grow g2) (r1.mono g2.sub) r2).use fun v3 G3 s3 g3 r3 => ⟨G3, (g1.trans g2).trans g3, r3⟩) hm

/-- one comparison of two data gives a bool -/
def Cmp (c : Cx) (A : Around) (op : CmpOp) (x y : D) (b : Bool) : Prop := ∀ G s u v, OnG c G s → c.Gl A s.heap → Rep G u x → Rep G v y → Res c A G s (compareOp op u v) (.bool b)
theorem cmp_eqI {x y : Int} : Cmp c A .Eq (.int x) (.int y) (x == y) := fun G s u v on _ hu hv => by
  (first | obtain rfl := hu.inv0 | obtain ⟨_, rfl⟩ := hu.inv | obtain rfl := hu.inv | cases hu); (first | obtain rfl := hv.inv0 | obtain ⟨_, rfl⟩ := hv.inv | obtain rfl := hv.inv | cases hv)
  exact PyProof.Rows.eq_int ⟨G, Grow.refl on, .bool _⟩
theorem cmp_neI {x y : Int} : Cmp c A .NotEq (.int x) (.int y) (x != y) := fun G s u v on _ hu hv => by
  (first | obtain rfl := hu.inv0 | obtain ⟨_, rfl⟩ := hu.inv | obtain rfl := hu.inv | cases hu); (first | obtain rfl := hv.inv0 | obtain ⟨_, rfl⟩ := hv.inv | obtain rfl := hv.inv | cases hv)
  exact PyProof.Rows.ne_int ⟨G, Grow.refl on, .bool _⟩
theorem cmp_ltI {x y : Int} : Cmp c A .Lt (.int x) (.int y) (decide (x < y)) := fun G s u v on _ hu hv => by
  (first | obtain rfl := hu.inv0 | obtain ⟨_, rfl⟩ := hu.inv | obtain rfl := hu.inv | cases hu); (first | obtain rfl := hv.inv0 | obtain ⟨_, rfl⟩ := hv.inv | obtain rfl := hv.inv | cases hv)
  exact PyProof.Rows.lt_int ⟨G, Grow.refl on, .bool _⟩
theorem cmp_leI {x y : Int} : Cmp c A .LtE (.int x) (.int y) (decide (x ≤ y)) := fun G s u v on _ hu hv => by
  (first | obtain rfl := hu.inv0 | obtain ⟨_, rfl⟩ := hu.inv | obtain rfl := hu.inv | cases hu); (first | obtain rfl := hv.inv0 | obtain ⟨_, rfl⟩ := hv.inv | obtain rfl := hv.inv | cases hv)
  exact PyProof.Rows.le_int ⟨G, Grow.refl on, .bool _⟩
theorem cmp_gtI {x y : Int} : Cmp c A .Gt (.int x) (.int y) (decide (y < x)) := fun G s u v on _ hu hv => by
  (first | obtain rfl := hu.inv0 | obtain ⟨_, rfl⟩ := hu.inv | obtain rfl := hu.inv | cases hu); (first | obtain rfl := hv.inv0 | obtain ⟨_, rfl⟩ := hv.inv | obtain rfl := hv.inv | cases hv)
  exact PyProof.Rows.gt_int ⟨G, Grow.refl on, .bool _⟩
theorem cmp_geI {x y : Int} : Cmp c A .GtE (.int x) (.int y) (decide (y ≤ x)) := fun G s u v on _ hu hv => by
  (first | obtain rfl := hu.inv0 | obtain ⟨_, rfl⟩ := hu.inv | obtain rfl := hu.inv | cases hu); (first | obtain rfl := hv.inv0 | obtain ⟨_, rfl⟩ := hv.inv | obtain rfl := hv.inv | cases hv)
  exact PyProof.Rows.ge_int ⟨G, Grow.refl on, .bool _⟩
theorem S_beq (x y : List Nat) : (S x == S y) = (x == y) := by
  rw [← toList_beq]
theorem cmp_eqS {x y : List Nat} : Cmp c A .Eq (.str x) (.str y) (x == y) := fun G s u v on _ hu hv => by
  (first | obtain rfl := hu.inv0 | obtain ⟨_, rfl⟩ := hu.inv | obtain rfl := hu.inv | cases hu); (first | obtain rfl := hv.inv0 | obtain ⟨_, rfl⟩ := hv.inv | obtain rfl := hv.inv | cases hv)
  refine PyProof.Rows.eq_str ⟨G, Grow.refl on, ?_⟩
  rw [S_beq]; exact .bool _
theorem cmp_neS {x y : List Nat} : Cmp c A .NotEq (.str x) (.str y) (x != y) := fun G s u v on _ hu hv => by
  (first | obtain rfl := hu.inv0 | obtain ⟨_, rfl⟩ := hu.inv | obtain rfl := hu.inv | cases hu); (first | obtain rfl := hv.inv0 | obtain ⟨_, rfl⟩ := hv.inv | obtain rfl := hv.inv | cases hv)
  refine PyProof.Rows.ne_str ⟨G, Grow.refl on, ?_⟩
  show Rep G (.bool (!(S x == S y))) _
  rw [S_beq]; exact .bool _
theorem ev_cmp1 {a b : Expr} {op : CmpOp} {pos : Pos} {x y : D} {r : Bool} (ha : Ev c A env σ a x) (hb : Ev c A env σ b y) (h : Cmp c A op x y r)
    (hm : behindInMarks op b = false := by with_unfolding_all rfl) : Ev c A env σ (.Compare a [op] [b] pos) (.bool r) :=
  ev_cmp ha hb (fun G s u v ok hu hv => h G s u v ok.sub ok.gl hu hv) hm

/-! truth -/
theorem tr_cmp1 {a b : Expr} {op : CmpOp} {pos : Pos} {x y : D} {r : Bool} (ha : Ev c A env σ a x) (hb : Ev c A env σ b y) (h : Cmp c A op x y r)
    (hm : behindInMarks op b = false := by with_unfolding_all rfl) : Tr c A env σ (.Compare a [op] [b] pos) r := fun G s ok =>
  wpAny_isTrue_Compare1 ((ha G s ok).use fun v G1 s1 g1 r1 => (hb G1 s1 (ok.grow g1)).use fun v2 G2 s2 g2 r2 =>
    (h G2 s2 v v2 (ok.grow (g1.trans g2)).sub (ok.grow (g1.trans g2)).gl (r1.mono g2.sub) r2).use fun v3 G3 s3 g3 r3 => by
      (first | obtain rfl := r3.inv0 | obtain ⟨_, rfl⟩ := r3.inv | obtain rfl := r3.inv | cases r3)
      exact wpAny_truthy_bool ⟨rfl, G3, (g1.trans g2).trans g3⟩) hm
theorem Tr.use {e : Expr} {b : Bool} {Q : Bool → Shared → Prop} {E : Value → Shared → Prop} (h : Tr c A env σ e b) (ok : Ok c A env σ G s) (k : ∀ G' s', Grow c G s G' s' → Q b s') :
    wpAny (model c.prog c.w) A (isTrue e env (eval e env)) Q E s :=
  wpAny_mono (h G s ok) (fun b' s' ⟨e, G', g⟩ => by subst e; exact k G' s' g) fun _ _ x => x.elim
/-- a chain of two comparisons: l op1 m op2 r -/
theorem tr_chain {a b d : Expr} {op op' : CmpOp} {pos : Pos} {x y z : D} {r r' : Bool} (ha : Ev c A env σ a x) (hb : Ev c A env σ b y) (hd : Ev c A env σ d z) (h : Cmp c A op x y r) (h' : Cmp c A op' y z r')
    (hm : lastMarks [op, op'] [b, d] = false := by with_unfolding_all rfl) : Tr c A env σ (.Compare a [op, op'] [b, d] pos) (r && r') := fun G s ok => by
  refine isTrue_chain ?_ hm
  refine (ha G s ok).use fun v G1 s1 g1 r1 => ?_
  show wpAny (model c.prog c.w) A (do
    let rv ← holding [v] (eval b env)
    standAt pos
    let c ← holding [v, rv] (compareOp op v rv)
    release [v, rv] [c]
    if ← holding [c, rv] (truthy c) then testChain pos rv [op'] [eval d env] else pure false) _ _ s1
  refine wpAny_bind (wpAny_holding ((hb G1 s1 (ok.grow g1)).use fun v2 G2 s2 g2 r2 => wpAny_bind (wpAny_standAt (wpAny_bind (wpAny_holding
    ((h G2 s2 v v2 (ok.grow (g1.trans g2)).sub (ok.grow (g1.trans g2)).gl (r1.mono g2.sub) r2).use fun v3 G3 s3 g3 r3 => ?_))))))
  (first | obtain rfl := r3.inv0 | obtain ⟨_, rfl⟩ := r3.inv | obtain rfl := r3.inv | cases r3)
  refine wpAny_bind (wpAny_release (wpAny_bind (wpAny_holding (wpAny_truthy_bool ?_))))
  have g13 := (g1.trans g2).trans g3
  cases r with
  | false => exact wpAny_pure ⟨rfl, G3, g13⟩
  | true =>
    show wpAny (model c.prog c.w) A (do
      let rv ← holding [v2] (eval d env)
      standAt pos
      let c ← operate [v2, rv] (compareOp op' v2 rv)
      holding [c] (truthy c)) _ _ s3
    refine wpAny_bind (wpAny_holding ((hd G3 s3 (ok.grow g13)).use fun v4 G4 s4 g4 r4 => wpAny_bind (wpAny_standAt (wpAny_bind (wpAny_operating
      ((h' G4 s4 v2 v4 (ok.grow (g13.trans g4)).sub (ok.grow (g13.trans g4)).gl (r2.mono fun _ _ e => g4.sub _ _ (g3.sub _ _ e)) r4).use fun v5 G5 s5 g5 r5 => ?_))))))
    (first | obtain rfl := r5.inv0 | obtain ⟨_, rfl⟩ := r5.inv | obtain rfl := r5.inv | cases r5)
    exact wpAny_holding (wpAny_truthy_bool ⟨rfl, G5, (g13.trans g4).trans g5⟩)
theorem tr_or {a b : Expr} {pos : Pos} {x y : Bool} (ha : Tr c A env σ a x) (hb : x = false → Tr c A env σ b y) : Tr c A env σ (.BoolOp .Or [a, b] pos) (x || y) := fun G s ok => by
  refine wpAny_isTrue_BoolOp (wpAny_allTrue_Or_cons (ha.use ok fun G1 s1 g1 => ?_))
  cases x with
  | true => exact ⟨rfl, G1, g1⟩
  | false =>
    refine wpAny_allTrue_Or_cons ((hb rfl).use (ok.grow g1) fun G2 s2 g2 => ?_)
    cases y with
    | true => exact ⟨rfl, G2, g1.trans g2⟩
    | false => exact wpAny_allTrue_Or_nil ⟨rfl, G2, g1.trans g2⟩
theorem tr_and {a b : Expr} {pos : Pos} {x y : Bool} (ha : Tr c A env σ a x) (hb : x = true → Tr c A env σ b y) : Tr c A env σ (.BoolOp .And [a, b] pos) (x && y) := fun G s ok => by
  refine wpAny_isTrue_BoolOp (wpAny_allTrue_And_cons (ha.use ok fun G1 s1 g1 => ?_))
  cases x with
  | false => exact ⟨rfl, G1, g1⟩
  | true =>
    refine wpAny_allTrue_And_cons ((hb rfl).use (ok.grow g1) fun G2 s2 g2 => ?_)
    cases y with
    | false => exact ⟨rfl, G2, g1.trans g2⟩
    | true => exact wpAny_allTrue_And_nil ⟨rfl, G2, g1.trans g2⟩
theorem tr_not {a : Expr} {pos : Pos} {x : Bool} (ha : Tr c A env σ a x) : Tr c A env σ (.UnaryOp .Not a pos) (!x) := fun G s ok =>
  wpAny_isTrue_Not (ha.use ok fun G1 s1 g1 => ⟨rfl, G1, g1⟩)
/-- a bool that an expression gives -/
theorem tr_val {e : Expr} {b : Bool} (h : Ev c A env σ e (.bool b)) (he : isTrue e env (eval e env) = (do let v ← eval e env; standAt e.pos; holding [v] (truthy v)) := by rfl) : Tr c A env σ e b := fun G s ok =>
  wpAny_isTrue_value ((h G s ok).use fun v G1 s1 g1 r1 => by
    (first | obtain rfl := r1.inv0 | obtain ⟨_, rfl⟩ := r1.inv | obtain rfl := r1.inv | cases r1)
    exact wpAny_truthy_bool ⟨rfl, G1, g1⟩) he
theorem ev_if {t a b : Expr} {pos : Pos} {x : Bool} {d : D} (ht : Tr c A env σ t x) (ha : x = true → Ev c A env σ a d) (hb : x = false → Ev c A env σ b d) : Ev c A env σ (.IfExp t a b pos) d := fun G s ok =>
  wpAny_IfExp (ht.use ok fun G1 s1 g1 => by
    cases x with
    | true => exact (ha rfl G1 s1 (ok.grow g1)).use fun v G2 s2 g2 r2 => ⟨G2, g1.trans g2, r2⟩
    | false => exact (hb rfl G1 s1 (ok.grow g1)).use fun v G2 s2 g2 r2 => ⟨G2, g1.trans g2, r2⟩)
end
end Mine
end


/-! part B2 -/
section
open PySem PySem.W PyProof.Rows PySem.Calls PySem.Spec
set_option Elab.async false
set_option linter.unusedVariables false
set_option maxRecDepth 100000
namespace Mine
abbrev lstObj (vs : List Value) (n : Nat) : Obj := { cls := .type "list", dict := Option.none, data := .seq vs.toArray n, slots := #[] }
abbrev tupObj (vs : List Value) (n : Nat) : Obj := { cls := .type "tuple", dict := Option.none, data := .seq vs.toArray n, slots := #[] }
def LstAt (G : Gh) (h : Heap) (v : Value) (ds : List D) : Prop := ∃ a vs, v = .ref a ∧ h.IsList a vs.toArray ∧ RepAll G vs ds
theorem LstAt.grow {c : Cx} {G G' : Gh} {s s' : Shared} {v : Value} {ds : List D} (h : LstAt G s.heap v ds) (g : Grow c G s G' s') : LstAt G' s'.heap v ds :=
  let ⟨a, vs, e, l, r⟩ := h; ⟨a, vs, e, g.keep.kh.isList l, RepAll.mono g.sub r⟩
theorem lstAt_of {G : Gh} {s : Shared} {v : Value} {ds : List D} (on : OnG c G s) (r : Rep G v (.lst ds)) : LstAt G s.heap v ds := by
  obtain ⟨_, _, _, rfl, g, r⟩ := r.inv
  exact ⟨_, _, rfl, ⟨_, on.at g rfl, rfl, _, rfl⟩, r⟩
/-- an expression that hands on a list as it stands in the heap -/
def EvL (c : Cx) (A : Around) (env : Env) (σ : Sig) (e : Expr) (ds : List D) : Prop := ∀ G s, Ok c A env σ G s →
  wpAny (model c.prog c.w) A (eval e env) (fun v s' => ∃ G', Grow c G s G' s' ∧ LstAt G' s'.heap v ds) (fun _ _ => False) s
/-- an expression that makes a new list -/
def Fresh (c : Cx) (G : Gh) (s : Shared) (G' : Gh) (s' : Shared) (v : Value) (ds : List D) : Prop :=
  ∃ a vs n, Grow c G s G' s' ∧ v = .ref a ∧ s.heap.get? a = none ∧ (∀ o, ¬ G' a o) ∧ s'.heap.get? a = some (lstObj vs n) ∧ RepAll G' vs ds
def EvF (c : Cx) (A : Around) (env : Env) (σ : Sig) (e : Expr) (ds : List D) : Prop := ∀ G s, Ok c A env σ G s →
  wpAny (model c.prog c.w) A (eval e env) (fun v s' => ∃ G', Fresh c G s G' s' v ds) (fun _ _ => False) s
theorem Fresh.freeze {c : Cx} {G G' : Gh} {s s' : Shared} {v : Value} {ds : List D} (h : Fresh c G s G' s' v ds) : ∃ G'', Grow c G s G'' s' ∧ Rep G'' v (.lst ds) := by
  obtain ⟨a, vs, n, g, rfl, hn, _, ho, r⟩ := h
  exact ⟨G'.add a (lstObj vs n), ⟨g.keep, fun _ _ e => .inl (g.sub _ _ e), g.on.more (fun _ _ e => .inl e) (fun b o e => by
    rcases e with e | ⟨rfl, rfl⟩
    · exact .inl e
    · exact .inr ⟨⟨_, ho, .refl _⟩, rfl⟩), fun b o e => by
    rcases e with e | ⟨rfl, rfl⟩
    · exact g.new _ _ e
    · exact .inr hn⟩, .lst Gh.add_self (RepAll.mono (fun _ _ e => .inl e) r)⟩
section
variable {c : Cx} {A : Around} {env : Env} {σ : Sig} {G : Gh} {s : Shared}
theorem ev_of_fresh {e : Expr} {ds : List D} (h : EvF c A env σ e ds) : Ev c A env σ e (.lst ds) := fun G s ok =>
  wpAny_mono (h G s ok) (fun v s' ⟨G', f⟩ => f.freeze) fun _ _ x => x
theorem evl_of {e : Expr} {ds : List D} (h : Ev c A env σ e (.lst ds)) : EvL c A env σ e ds := fun G s ok =>
  (h G s ok).use fun v G' s' g r => ⟨G', g, lstAt_of g.on r⟩
theorem evl_own {x : Str} {pos : Pos} {ds : List D} (hE : EnvOk env) (hx : σ.lookup x = some (.own ds)) (hd : (x == ("__debug__" : Str)) = false := by decide) : EvL c A env σ (.Name x pos) ds := fun G s ok => by
  obtain ⟨v, r, q⟩ := ok.sc x _ hx
  exact wpAny_Name (loadName_of hE r ⟨G, Grow.refl ok.sub, q⟩) hd
theorem EvL.use {e : Expr} {ds : List D} {Q E : Value → Shared → Prop} (h : EvL c A env σ e ds) (ok : Ok c A env σ G s) (k : ∀ v G' s', Grow c G s G' s' → LstAt G' s'.heap v ds → Q v s') :
    wpAny (model c.prog c.w) A (eval e env) Q E s := wpAny_mono (h G s ok) (fun v s' ⟨G', g, r⟩ => k v G' s' g r) fun _ _ x => x.elim
theorem EvF.cast {e : Expr} {d d' : List D} (h : EvF c A env σ e d) (q : d = d') : EvF c A env σ e d' := q ▸ h
theorem EvL.cast {e : Expr} {d d' : List D} (h : EvL c A env σ e d) (q : d = d') : EvL c A env σ e d' := q ▸ h

/-! displays -/
def EvAll (c : Cx) (A : Around) (env : Env) (σ : Sig) (es : List Expr) (ds : List D) : Prop := ∀ pos G s, Ok c A env σ G s →
  wpAny (model c.prog c.w) A (spliced (backTo pos (starEach es env))) (fun vs s' => ∃ G', Grow c G s G' s' ∧ RepAll G' vs ds) (fun _ _ => False) s
theorem EvAll.use {es : List Expr} {ds : List D} {pos : Pos} {Q : List Value → Shared → Prop} {E : Value → Shared → Prop} (h : EvAll c A env σ es ds) (ok : Ok c A env σ G s) (k : ∀ vs G' s', Grow c G s G' s' → RepAll G' vs ds → Q vs s') :
    wpAny (model c.prog c.w) A (spliced (backTo pos (starEach es env))) Q E s := wpAny_mono (h pos G s ok) (fun v s' ⟨G', g, r⟩ => k v G' s' g r) fun _ _ x => x.elim
theorem evall_nil : EvAll c A env σ [] [] := fun pos G s ok => wpAny_items_nil ⟨G, Grow.refl ok.sub, .nil⟩
theorem evall_cons {e : Expr} {es : List Expr} {d : D} {ds : List D} (h : Ev c A env σ e d) (hs : EvAll c A env σ es ds) (he : starEach (e :: es) env = (false, eval e env) :: starEach es env := by rfl) : EvAll c A env σ (e :: es) (d :: ds) := fun pos G s ok =>
  wpAny_items_cons ((h G s ok).use fun v G1 s1 g1 r1 => (hs.use (ok.grow g1) fun vs G2 s2 g2 r2 => ⟨G2, g1.trans g2, .cons (r1.mono g2.sub) r2⟩)) he
theorem fresh_push {G : Gh} {s s₁ : Shared} {G₁ : Gh} {vs : List Value} {ds : List D} {n : Nat} (g : Grow c G s G₁ s₁) (r : RepAll G₁ vs ds) {t : Nat} :
    Fresh c G s G₁ { s₁ with heap := s₁.heap.push (lstObj vs n), toks := t } (.ref s₁.heap.objs.size) ds := by
  have hn : s₁.heap.get? s₁.heap.objs.size = none := heap_size_none _
  refine ⟨s₁.heap.objs.size, vs, n, g.trans (Grow.still g.on ⟨_, _, rfl, fun _ _ e => Heap.get?_push_of_some _ e⟩), rfl, ?_, fun o e => ?_, Heap.get?_push_size _ rfl, r⟩
  · exact g.keep.kh.none hn
  · exact g.on.ne e hn
theorem evf_list {es : List Expr} {pos : Pos} {ds : List D} (h : EvAll c A env σ es ds) (hz : ds.length ≤ sizeLine) : EvF c A env σ (.List es pos) ds := fun G s ok =>
  wpAny_List_spliced (h.use ok fun vs G1 s1 g1 r1 => ⟨by rw [r1.length]; exact hz, G1, fresh_push g1 r1⟩)
theorem ev_list {es : List Expr} {pos : Pos} {ds : List D} (h : EvAll c A env σ es ds) (hz : ds.length ≤ sizeLine) : Ev c A env σ (.List es pos) (.lst ds) := ev_of_fresh (evf_list h hz)
theorem ev_tuple {es : List Expr} {k : Nat} {pos : Pos} {ds : List D} (h : EvAll c A env σ es ds) (hz : ds.length ≤ sizeLine) : Ev c A env σ (.Tuple es k pos) (.tup ds) := fun G s ok =>
  wpAny_Tuple_spliced (h.use ok fun vs G1 s1 g1 r1 => ⟨by rw [r1.length]; exact hz, G1.add s1.heap.objs.size (tupObj vs 0),
    g1.trans (Grow.push (t := s1.toks) g1.on), .tup Gh.add_self (RepAll.mono (fun _ _ e => .inl e) r1)⟩)

/-! lists: + and * -/
theorem evf_cat {a b : Expr} {pos : Pos} {x y : List D} (ha : EvL c A env σ a x) (hb : EvL c A env σ b y) (hz : x.length + y.length ≤ sizeLine) : EvF c A env σ (.BinOp a .Add b pos) (x ++ y) := fun G s ok => by
  refine wpAny_BinOp (ha.use ok fun v G1 s1 g1 r1 => hb.use (ok.grow g1) fun v2 G2 s2 g2 r2 => ?_)
  obtain ⟨l, vs, rfl, hl, r⟩ := r1.grow g2
  obtain ⟨m, ws, rfl, hm, q⟩ := r2
  obtain ⟨⟨cls, dd, data, sl⟩, ho, hc, n, hd⟩ := id hl
  obtain ⟨⟨cls2, dd2, data2, sl2⟩, ho2, hc2, n2, hd2⟩ := id hm
  simp only at hc hd hc2 hd2
  subst hc hd hc2 hd2
  have e : vs.toArray ++ ws.toArray = (vs ++ ws).toArray := by simp
  refine concat_meets ⟨_, ho, rfl⟩ ⟨_, ho2, rfl⟩ noFill_list_add seq_list_add PySem.F.slot_list_add PySem.F.entry_list_add (PySem.F.args_list_add_2 _ _) (list_addW l m vs.toArray ws.toArray n n2 dd dd2 sl sl2 (by simp [r.length, q.length]; exact hz)) ⟨ho, ho2, ?_⟩
  rw [e]
  exact ⟨G2, fresh_push (g1.trans g2) (r.append q)⟩
theorem foldl_app_nil {α : Type} (l : List (Array α)) (a : Array α) : List.foldl (fun x y => x ++ y) a l = a ++ (l.map Array.toList).flatten.toArray := by
  induction l generalizing a with
  | nil => simp
  | cons b r ih =>
    rw [List.foldl_cons, ih]
    apply Array.toList_inj.mp
    simp
theorem evf_mul1 {a b : Expr} {pos : Pos} {d : D} {n : Int} (ha : Ev c A env σ a (.lst [d])) (hb : Ev c A env σ b (.int n)) (hlo : -1000000 ≤ n) (hhi : n ≤ 1000000) : EvF c A env σ (.BinOp a .Mult b pos) (List.replicate n.toNat d) := fun G s ok => by
  refine wpAny_BinOp ((ha G s ok).use fun v G1 s1 g1 r1 => (hb G1 s1 (ok.grow g1)).use fun v2 G2 s2 g2 r2 => ?_)
  have r1' := r1.mono g2.sub
  (first | obtain rfl := r2.inv0 | obtain ⟨_, rfl⟩ := r2.inv | obtain rfl := r2.inv | cases r2)
  obtain ⟨l, vs, k, rfl, hg, r⟩ := r1'.inv
  · have hl := g2.on.at hg rfl
    cases r with
    | @cons v vs' d' ds' rv rn =>
      cases rn
      refine wpAny_binaryOp_repeat_ref (T := "list") (U := "int") (by decide) ⟨_, hl, rfl⟩ (fun s' => typeIs_int s' n _) noFill_list_mul PySem.F.fills_int_mul PySem.F.slot_int_rmul repeat_list PySem.F.slot_int_index.lookup
        (call_meets PySem.F.slot_int_rmul (typeIs_int s2 n _) PySem.F.entry_int_rmul (PySem.F.args_int_rmul_2 _ _) (int___rmul___int_list n _ l [v].toArray k)
          ⟨hl, rfl, ⟨_, hl, rfl⟩, call_meets PySem.F.slot_list_mul ⟨_, hl, rfl⟩ PySem.F.entry_list_mul (PySem.F.args_list_mul_2 _ _)
            (AutoListH.list___mul___list_int_3 l [v].toArray k n _ (by simp [Builtin.List.listFitsIndex]; (first | assumption | exact Int.natCast_nonneg _ | exact Nat.zero_le _ | exact Nat.le_refl _ | decide | exact Nat.le_trans (by assumption) (by decide) | lia)) (by simp; (first | assumption | exact Int.natCast_nonneg _ | exact Nat.zero_le _ | exact Nat.le_refl _ | decide | exact Nat.le_trans (by assumption) (by decide) | lia)) (by simp [Builtin.List.listTooLong, sizeLine]; (first | assumption | exact Int.natCast_nonneg _ | exact Nat.zero_le _ | exact Nat.le_refl _ | decide | exact Nat.le_trans (by assumption) (by decide) | lia))) ⟨hl, ?_⟩⟩)
      have e : List.foldl (fun x1 x2 => x1 ++ x2) #[] (List.replicate (if [v].toArray.isEmpty = true then 0 else n.toNat) [v].toArray) = (List.replicate n.toNat v).toArray := by
        rw [foldl_app_nil]
        simp
      rw [e]
      exact ⟨G2, fresh_push (g1.trans g2) (RepAll.replicate rv _)⟩
theorem ev_mulS {a b : Expr} {pos : Pos} {x : List Nat} {n : Int} (ha : Ev c A env σ a (.str x)) (hb : Ev c A env σ b (.int n)) (hlo : -1000000 ≤ n) (hhi : n ≤ 10000) (hx : x.length ≤ 1000) : Ev c A env σ (.BinOp a .Mult b pos) (.str (List.replicate n.toNat x).flatten) :=
  ev_bin ha hb fun G s u v ok hu hv => by
    (first | obtain rfl := hu.inv0 | obtain ⟨_, rfl⟩ := hu.inv | obtain rfl := hu.inv | cases hu); (first | obtain rfl := hv.inv0 | obtain ⟨_, rfl⟩ := hv.inv | obtain rfl := hv.inv | cases hv)
    refine SB.mul ⟨?_, fun h1 h2 => ?_, fun h1 h2 => ?_⟩ fun t' k => ⟨G, Grow.toks ok.sub _, ?_⟩
    · rw [decide_eq_false (by (first | assumption | exact Int.natCast_nonneg _ | exact Nat.zero_le _ | exact Nat.le_refl _ | decide | exact Nat.le_trans (by assumption) (by decide) | lia)), decide_eq_false (by (first | assumption | exact Int.natCast_nonneg _ | exact Nat.zero_le _ | exact Nat.le_refl _ | decide | exact Nat.le_trans (by assumption) (by decide) | lia))]; rfl
    · have h3 : ((S x).length : Int) = x.length := by simp [Str.length]
      rw [h3]
      have h4 : (1000 : Int) ≤ (2 ^ 63 - 1) / n := by
        rw [Int.le_ediv_iff_mul_le (by (first | assumption | exact Int.natCast_nonneg _ | exact Nat.zero_le _ | exact Nat.le_refl _ | decide | exact Nat.le_trans (by assumption) (by decide) | lia))]
        (first | assumption | exact Int.natCast_nonneg _ | exact Nat.zero_le _ | exact Nat.le_refl _ | decide | exact Nat.le_trans (by assumption) (by decide) | lia)
      (first | assumption | exact Int.natCast_nonneg _ | exact Nat.zero_le _ | exact Nat.le_refl _ | decide | exact Nat.le_trans (by assumption) (by decide) | lia)
    · show decide (_ > _) = false
      simp only [Str.length, List.size_toArray]
      have : x.length * n.toNat ≤ 1000 * 10000 := Nat.mul_le_mul hx (by (first | assumption | exact Int.natCast_nonneg _ | exact Nat.zero_le _ | exact Nat.le_refl _ | decide | exact Nat.le_trans (by assumption) (by decide) | lia))
      apply decide_eq_false
      have := sizeLine_eq
      (first | assumption | exact Int.natCast_nonneg _ | exact Nat.zero_le _ | exact Nat.le_refl _ | decide | exact Nat.le_trans (by assumption) (by decide) | lia)
    · have e : Txt.mul (S x) n = S (List.replicate n.toNat x).flatten := by
        unfold Txt.mul
        by_cases h1 : n < 1
        · rw [if_pos h1]
          have : n.toNat = 0 := by (first | assumption | exact Int.natCast_nonneg _ | exact Nat.zero_le _ | exact Nat.le_refl _ | decide | exact Nat.le_trans (by assumption) (by decide) | lia)
          rw [this]; rfl
        · rw [if_neg h1]
          by_cases h2 : (n == 1 || (S x).length == 0) = true
          · rw [if_pos h2]
            simp only [Str.length, List.size_toArray, Bool.or_eq_true, beq_iff_eq] at h2
            rcases h2 with h2 | h2
            · subst h2; simp
            · have : x = [] := List.eq_nil_of_length_eq_zero h2
              subst this; simp
          · rw [if_neg h2, foldl_app_nil]
            simp
      rw [e]; exact .str _ _
end
end Mine
end


/-! part B3 -/
section
open PySem PySem.W PyProof.Rows PySem.Calls PySem.Spec
set_option Elab.async false
set_option linter.unusedVariables false
set_option maxRecDepth 100000
namespace Mine
/-- an expression that is one value, nothing done -/
def EvV (c : Cx) (A : Around) (env : Env) (σ : Sig) (e : Expr) (v : Value) : Prop := ∀ G s Q E, Ok c A env σ G s → Q v s → wpAny (model c.prog c.w) A (eval e env) Q E s
section
variable {c : Cx} {A : Around} {env : Env} {σ : Sig} {G : Gh} {s : Shared}
theorem evv_glob {x : Str} {pos : Pos} {v : Value} (hE : EnvOk env) (hx : env.kindOf x = some .globalImplicit) (hg : nsIn c.K mainGlobals x = some (some v)) (hd : (x == ("__debug__" : Str)) = false := by decide) : EvV c A env σ (.Name x pos) v :=
  fun G s Q E ok h => Name_function_global hE.kind hx (loadGlobal_global (env := env) (by rw [hE.glob]; exact ok.gl.top.g) (mg_of ok.gl.inn ok.gl.top.g hg) h) hd
theorem evv_built {x : Str} {pos : Pos} {v : Value} (hE : EnvOk env) (hx : env.kindOf x = some .globalImplicit) (hg : nsIn c.K mainGlobals x = some none) (hv : bootBuiltins x = some v) (hn : x ≠ "__name__" := by decide) (hd : (x == ("__debug__" : Str)) = false := by decide) : EvV c A env σ (.Name x pos) v :=
  fun G s Q E ok h => Name_function_global hE.kind hx (loadGlobal_builtin (env := env) (by rw [hE.glob]; exact ok.gl.top.g) (mg_none_of ok.gl.inn ok.gl.top.g hg) (by rw [hE.built]; exact ok.gl.top.b) ((ok.gl.top.builtins x hn).trans hv) h) hd

/-- what a call of f with these data gives -/
def Fn (c : Cx) (A : Around) (f : Value) (ds : List D) (d : D) : Prop := ∀ G s vs, OnG c G s → c.Gl A s.heap → RepAll G vs ds → Res c A G s (call f vs) d

theorem ev_callB {f e : Expr} {es : List Expr} {pos : Pos} {id : String} {ds : List D} {d : D} (hf : EvV c A env σ f (.builtin id)) (ha : EvAll c A env σ (e :: es) ds) (h : Fn c A (.builtin id) ds d)
    (hc : eval (.Call f (e :: es) [] pos) env = (do callWith pos (← eval f env) [] (backTo pos (starEach (e :: es) env)) (backToKw pos (keywordEach [] env))) := by rfl)
    (he : starEach (e :: es) env = (false, eval e env) :: starEach es env := by rfl) (hp : (backTo pos (starEach es env)).any (·.1) = false := by rfl) : Ev c A env σ (.Call f (e :: es) [] pos) d := fun G s ok =>
  Call_ (hf G s _ _ ok (callWith_method1 (first := []) (ha.use ok fun vs G1 s1 g1 r1 => (h G1 s1 vs g1.on (ok.grow g1).gl r1).use fun v G2 s2 g2 r2 => ⟨G2, g1.trans g2, r2⟩) he hp)) hc
theorem ev_callT {f e : Expr} {es : List Expr} {pos : Pos} {T : String} {ds : List D} {d : D} (hf : EvV c A env σ f (.type T)) (ha : EvAll c A env σ (e :: es) ds) (h : Fn c A (.type T) ds d)
    (hc : eval (.Call f (e :: es) [] pos) env = (do callWith pos (← eval f env) [] (backTo pos (starEach (e :: es) env)) (backToKw pos (keywordEach [] env))) := by rfl)
    (he : starEach (e :: es) env = (false, eval e env) :: starEach es env := by rfl) (hp : (backTo pos (starEach es env)).any (·.1) = false := by rfl) : Ev c A env σ (.Call f (e :: es) [] pos) d := fun G s ok =>
  Call_ (hf G s _ _ ok (PyProof.Rows.callWith_type1 (ha.use ok fun vs G1 s1 g1 r1 => (h G1 s1 vs g1.on (ok.grow g1).gl r1).use fun v G2 s2 g2 r2 => ⟨G2, g1.trans g2, r2⟩) he hp)) hc
theorem ev_callF {f e : Expr} {es : List Expr} {pos : Pos} {a : Addr} {o : Obj} {fd : FuncData} {ds : List D} {d : D} (hf : EvV c A env σ f (.ref a)) (hk : c.K.lookup a = some o) (hd : o.data = .func fd) (ha : EvAll c A env σ (e :: es) ds) (h : Fn c A (.ref a) ds d)
    (hc : eval (.Call f (e :: es) [] pos) env = (do callWith pos (← eval f env) [] (backTo pos (starEach (e :: es) env)) (backToKw pos (keywordEach [] env))) := by rfl)
    (he : starEach (e :: es) env = (false, eval e env) :: starEach es env := by rfl) (hp : (backTo pos (starEach es env)).any (·.1) = false := by rfl) : Ev c A env σ (.Call f (e :: es) [] pos) d := fun G s ok => by
  refine Call_ (hf G s _ _ ok ?_) hc
  have ha' : wpAny (model c.prog c.w) A (spliced (backTo pos (starEach (e :: es) env))) (fun vs s1 => (s1.heap.get? a = some o ∧ o.data = .func fd) ∧ wpAny (model c.prog c.w) A (call (.ref a) vs) (fun v s' => ∃ G', Grow c G s G' s' ∧ Rep G' v d) (fun _ _ => False) s1) (fun _ _ => False) s :=
    ha.use ok fun vs G1 s1 g1 r1 => ⟨⟨(ok.grow g1).gl.inn _ _ hk, hd⟩, (h G1 s1 vs g1.on (ok.grow g1).gl r1).use fun v G2 s2 g2 r2 => ⟨G2, g1.trans g2, r2⟩⟩
  rw [he] at ha' ⊢
  exact callWith_function (first := []) (evalArgs_plain ha')

/-! builtins -/
theorem fn_lenS {x : List Nat} (hx : x.length ≤ 2 ^ 40) : Fn c A (.builtin "len") [.str x] (.int x.length) := fun G s vs on gl r => by
  obtain ⟨_, _, rfl, r1, r2⟩ := r.inv
  · (first | obtain rfl := r2.inv0 | obtain ⟨_, rfl⟩ := r2.inv | obtain rfl := r2.inv | cases r2); (first | obtain rfl := r1.inv0 | obtain ⟨_, rfl⟩ := r1.inv | obtain rfl := r1.inv | cases r1)
    have e : (S x).length = x.length := by simp [Str.length]
    refine PyProof.Rows.len_str (by rw [e]; (first | assumption | exact Int.natCast_nonneg _ | exact Nat.zero_le _ | exact Nat.le_refl _ | decide | exact Nat.le_trans (by assumption) (by decide) | lia)) ⟨G, Grow.toks on _, ?_⟩
    rw [e]; exact .int _ _
theorem fn_lenL {ds : List D} (hx : ds.length ≤ 2 ^ 40) : Fn c A (.builtin "len") [.lst ds] (.int ds.length) := fun G s vs on gl r => by
  obtain ⟨_, _, rfl, r1, r2⟩ := r.inv
  · (first | obtain rfl := r2.inv0 | obtain ⟨_, rfl⟩ := r2.inv | obtain rfl := r2.inv | cases r2)
    obtain ⟨a, vs, rfl, hl, r⟩ := lstAt_of on r1
    have e : vs.toArray.size = ds.length := by simp [r.length]
    refine PyProof.Rows.len_list hl (by rw [e]; lia) ⟨G, Grow.toks on _, ?_⟩
    rw [e]; exact .int _ _
/-- len of a list as it stands in the heap -/
theorem ev_lenL {f e : Expr} {pos : Pos} {ds : List D} (hf : EvV c A env σ f (.builtin "len")) (ha : EvL c A env σ e ds) (hx : ds.length ≤ 2 ^ 40)
    (hc : eval (.Call f [e] [] pos) env = (do callWith pos (← eval f env) [] (backTo pos (starEach [e] env)) (backToKw pos (keywordEach [] env))) := by rfl)
    (he : starEach [e] env = (false, eval e env) :: starEach [] env := by rfl) : Ev c A env σ (.Call f [e] [] pos) (.int ds.length) := fun G s ok =>
  Call_ (hf G s _ _ ok (callWith_method1 (first := []) (wpAny_items_cons (ha.use ok fun v G1 s1 g1 r1 => wpAny_items_nil (by
    obtain ⟨a, vs, rfl, hl, r⟩ := r1
    have e : vs.toArray.size = ds.length := by simp [r.length]
    refine PyProof.Rows.len_list hl (by rw [e]; lia) ⟨G1, g1.trans (Grow.toks g1.on _), ?_⟩
    rw [e]; exact .int _ _)) he) he rfl)) hc
theorem fn_chr {i : Int} (h0 : 0 ≤ i) (h1 : i ≤ 1114111) : Fn c A (.builtin "chr") [.int i] (.str [i.toNat]) := fun G s vs on gl r => by
  obtain ⟨_, _, rfl, r1, r2⟩ := r.inv
  · (first | obtain rfl := r2.inv0 | obtain ⟨_, rfl⟩ := r2.inv | obtain rfl := r2.inv | cases r2); (first | obtain rfl := r1.inv0 | obtain ⟨_, rfl⟩ := r1.inv | obtain rfl := r1.inv | cases r1)
    exact chr_of_range h0 h1 ⟨G, Grow.toks on _, .str [i.toNat] _⟩
theorem fn_strI {i : Int} {l : List Nat} (h : i.natAbs.log2 < 1920) (hl : Str.ofString (toString i) = S l) : Fn c A (.type "str") [.int i] (.str l) := fun G s vs on gl r => by
  obtain ⟨_, _, rfl, r1, r2⟩ := r.inv
  · (first | obtain rfl := r2.inv0 | obtain ⟨_, rfl⟩ := r2.inv | obtain rfl := r2.inv | cases r2); (first | obtain rfl := r1.inv0 | obtain ⟨_, rfl⟩ := r1.inv | obtain rfl := r1.inv | cases r1)
    refine P.str_of_int h ⟨G, Grow.toks on _, ?_⟩
    show Rep G (.str (Str.ofString (toString i)) _) _
    rw [hl]; exact .str _ _
theorem fn_range1 {n : Int} : Fn c A (.type "range") [.int n] (.rng 0 n) := fun G s vs on gl r => by
  obtain ⟨_, _, rfl, r1, r2⟩ := r.inv
  · (first | obtain rfl := r2.inv0 | obtain ⟨_, rfl⟩ := r2.inv | obtain rfl := r2.inv | cases r2); (first | obtain rfl := r1.inv0 | obtain ⟨_, rfl⟩ := r1.inv | obtain rfl := r1.inv | cases r1)
    exact call_range_1 ⟨G.add _ _, Grow.push on, .rng Gh.add_self⟩
theorem fn_range2 {a b : Int} : Fn c A (.type "range") [.int a, .int b] (.rng a b) := fun G s vs on gl r => by
  obtain ⟨_, _, rfl, r1, r2⟩ := r.inv
  · cases r2 with
    | cons r2 r3 =>
      (first | obtain rfl := r3.inv0 | obtain ⟨_, rfl⟩ := r3.inv | obtain rfl := r3.inv | cases r3); (first | obtain rfl := r1.inv0 | obtain ⟨_, rfl⟩ := r1.inv | obtain rfl := r1.inv | cases r1); (first | obtain rfl := r2.inv0 | obtain ⟨_, rfl⟩ := r2.inv | obtain rfl := r2.inv | cases r2)
      exact call_range_2 ⟨G.add _ _, Grow.push on, .rng Gh.add_self⟩
theorem ints_of {G : Gh} {vs : List Value} {ns : List Int} (r : RepAll G vs (ns.map .int)) : IntsAre vs ns := by
  induction vs generalizing ns with
  | nil =>
    cases ns with
    | nil => exact .nil
    | cons n ns => (first | obtain rfl := r.inv0 | obtain ⟨_, rfl⟩ := r.inv | obtain rfl := r.inv | cases r)
  | cons v vs ih =>
    cases ns with
    | nil => (first | obtain rfl := r.inv0 | obtain ⟨_, rfl⟩ := r.inv | obtain rfl := r.inv | cases r)
    | cons n ns =>
      cases r with
      | cons r1 r2 => (first | obtain rfl := r1.inv0 | obtain ⟨_, rfl⟩ := r1.inv | obtain rfl := r1.inv | cases r1); exact .cons _ _ (ih r2)
theorem of_ints {G : Gh} {vs : List Value} {ns : List Int} (r : IntsAre vs ns) : RepAll G vs (ns.map .int) := by
  induction r with
  | nil => exact .nil
  | cons n t _ ih => exact .cons (.int _ _) ih
theorem call_sum {l : Addr} {vs : List Value} {ns : List Int} {Q : Value → Shared → Prop} {E : Value → Shared → Prop} (hh : A.handled = none) (hl : s.heap.IsList l vs.toArray) (hi : IntsAre vs ns)
    (h : ∀ h' tk t', (∀ b o, s.heap.get? b = some o → h'.get? b = some o) → Q (.int ns.sum t') { s with heap := h', toks := tk }) : wpAny (model c.prog c.w) A (call (.builtin "sum") [.ref l]) Q E s := by
  have hall := hi.allInts
  have hn := hi.numsOf
  obtain ⟨xs, e⟩ := hall.items
  have e2 : vs = (intItems xs).toList := by rw [← e]
  rw [e] at hl
  refine sum_intListG hh hl fun h' tk t' hk => ?_
  have h3 := h h' tk t' hk
  rw [← hn, e2, nums_intItems] at h3
  rw [preSum_eq, List.take_of_length_le (by simp)]; exact h3
theorem fn_sum {ns : List Int} (hA : A.handled = none) : Fn c A (.builtin "sum") [.lst (ns.map .int)] (.int ns.sum) := fun G s vs on gl r => by
  obtain ⟨_, _, rfl, r1, r2⟩ := r.inv
  · (first | obtain rfl := r2.inv0 | obtain ⟨_, rfl⟩ := r2.inv | obtain rfl := r2.inv | cases r2)
    obtain ⟨a, vs, rfl, hl, r⟩ := lstAt_of on r1
    exact call_sum hA hl (ints_of r) fun h' tk t' hk => ⟨G, Grow.still on ⟨h', tk, rfl, hk⟩, .int _ _⟩
theorem fn_min {ns : List Int} {M : Int} (hA : A.handled = none) (h0 : ns ≠ []) (h1 : M ∈ ns) (h2 : ∀ a ∈ ns, M ≤ a) : Fn c A (.builtin "min") [.lst (ns.map .int)] (.int M) := fun G s vs on gl r => by
  obtain ⟨_, _, rfl, r1, r2⟩ := r.inv
  · (first | obtain rfl := r2.inv0 | obtain ⟨_, rfl⟩ := r2.inv | obtain rfl := r2.inv | cases r2)
    obtain ⟨a, vs, rfl, hl, r⟩ := lstAt_of on r1
    have hi := ints_of r
    have hall := hi.allInts
    have hn := hi.numsOf
    obtain ⟨xs, e⟩ := hall.items
    have e2 : vs = (intItems xs).toList := by rw [← e]
    rw [e] at hl
    have hsz : 0 < xs.size := by
      have q : vs.length = ns.length := hi.length
      have q2 : vs.length = xs.size := by rw [e2]; simp [intItems]
      have q3 : ns.length ≠ 0 := fun q => h0 (List.eq_nil_of_length_eq_zero q)
      (first | assumption | exact Int.natCast_nonneg _ | exact Nat.zero_le _ | exact Nat.le_refl _ | decide | exact Nat.le_trans (by assumption) (by decide) | lia)
    refine min_intList hA hl hsz fun v h' tk hv hk => ?_
    obtain ⟨t, rfl⟩ := intItems_at hv
    obtain ⟨q1, q2⟩ := argBest_lt (numAt xs) (xs.size - 1)
    rw [e2, nums_intItems] at hn
    have m1 : numAt xs (argBest (fun i j => decide (numAt xs i < numAt xs j)) (xs.size - 1)) ∈ ns := by
      rw [← hn, numAt_eq]; exact getD_mem (by rw [List.length_map, Array.length_toList]; (first | assumption | exact Int.natCast_nonneg _ | exact Nat.zero_le _ | exact Nat.le_refl _ | decide | exact Nat.le_trans (by assumption) (by decide) | lia))
    have m2 : numAt xs (argBest (fun i j => decide (numAt xs i < numAt xs j)) (xs.size - 1)) ≤ M := by
      rw [← hn] at h1
      obtain ⟨j, hj, rfl⟩ := mem_getD h1
      rw [List.length_map, Array.length_toList] at hj
      rw [← numAt_eq]; exact q2 j (by (first | assumption | exact Int.natCast_nonneg _ | exact Nat.zero_le _ | exact Nat.le_refl _ | decide | exact Nat.le_trans (by assumption) (by decide) | lia))
    have m3 := h2 _ m1
    have m4 := Int.le_antisymm m3 m2
    rw [m4]
    exact ⟨G, Grow.still on ⟨h', tk, rfl, hk⟩, .int _ _⟩
theorem fn_tuple {ds : List D} (hz : ds.length ≤ sizeLine) : Fn c A (.type "tuple") [.lst ds] (.tup ds) := fun G s vs on gl r => by
  obtain ⟨_, _, rfl, r1, r2⟩ := r.inv
  · (first | obtain rfl := r2.inv0 | obtain ⟨_, rfl⟩ := r2.inv | obtain rfl := r2.inv | cases r2)
    obtain ⟨a, vs, rfl, hl, r⟩ := lstAt_of on r1
    refine call_tuple_list hl (fun h' hk => ?_) (by simp [r.length]; exact hz)
    have g1 : Grow c G s G { s with heap := h' } := Grow.still on ⟨h', s.toks, rfl, hk⟩
    exact ⟨G.add h'.objs.size (tupObj vs 0), g1.trans (Grow.push (s := { s with heap := h' }) (t := s.toks) g1.on), .tup Gh.add_self (RepAll.mono (fun _ _ e => .inl e) r)⟩
end
end Mine
end


/-! part B4 -/
section
open PySem PySem.W PyProof.Rows PySem.Calls PySem.Spec
set_option Elab.async false
set_option linter.unusedVariables false
set_option maxRecDepth 100000
namespace Mine
section
variable {c : Cx} {A : Around} {env : Env} {σ : Sig} {G : Gh} {s : Shared}
theorem ev_item {v i : Expr} {pos : Pos} {ds : List D} {k : Int} {d : D} (hv : EvL c A env σ v ds) (hi : Ev c A env σ i (.int k)) (h0 : 0 ≤ k) (h1 : k < 2 ^ 63) (hd : ds[k.toNat]? = some d)
    (hs : ∀ l k u, subscripted i false (.ref l) (.int k u) = operate [.ref l, .int k u] (getItem (.ref l) (.int k u)) := by intro _ _ _; rfl) : Ev c A env σ (.Subscript v i pos) d := fun G s ok => by
  refine Subscript_ (hv.use ok fun o G1 s1 g1 r1 => (hi G1 s1 (ok.grow g1)).use fun w G2 s2 g2 r2 => ?_)
  obtain ⟨l, vs, rfl, hl, r⟩ := r1.grow g2
  (first | obtain rfl := r2.inv0 | obtain ⟨_, rfl⟩ := r2.inv | obtain rfl := r2.inv | cases r2)
  obtain ⟨x, hx, rx⟩ := r.get hd
  exact tail_any hl.typeIs slot_list_getitem.lookup (wpAny_getItem_list hl h0 h1 (by simpa using hx) ⟨G2, g1.trans g2, rx⟩) (hs _ _ _)
theorem ev_itemS {v i : Expr} {pos : Pos} {x : List Nat} {k : Int} {n : Nat} (hv : Ev c A env σ v (.str x)) (hi : Ev c A env σ i (.int k)) (h0 : 0 ≤ k) (h1 : k < 2 ^ 63) (hd : x[k.toNat]? = some n)
    (hs : ∀ y t k u, subscripted i false (.str y t) (.int k u) = operate [.str y t, .int k u] (getItem (.str y t) (.int k u)) := by intro _ _ _ _; rfl) : Ev c A env σ (.Subscript v i pos) (.str [n]) := fun G s ok => by
  refine Subscript_ ((hv G s ok).use fun o G1 s1 g1 r1 => (hi G1 s1 (ok.grow g1)).use fun w G2 s2 g2 r2 => ?_)
  (first | obtain rfl := r1.inv0 | obtain ⟨_, rfl⟩ := r1.inv | obtain rfl := r1.inv | cases r1); (first | obtain rfl := r2.inv0 | obtain ⟨_, rfl⟩ := r2.inv | obtain rfl := r2.inv | cases r2)
  have hlt : k.toNat < x.length := (List.getElem?_eq_some_iff.mp hd).1
  refine tail_any (T := "str") (typeIs_str _ _ _) slot_str_getitem.lookup (PyProof.Rows.getItem_str (c := n) ?_ ?_ ⟨G2, (g1.trans g2).trans (Grow.toks g2.on _), .str [n] _⟩) (hs _ _ _ _)
  · rw [decide_eq_false (by (first | assumption | exact Int.natCast_nonneg _ | exact Nat.zero_le _ | exact Nat.le_refl _ | decide | exact Nat.le_trans (by assumption) (by decide) | lia)), decide_eq_false (by (first | assumption | exact Int.natCast_nonneg _ | exact Nat.zero_le _ | exact Nat.le_refl _ | decide | exact Nat.le_trans (by assumption) (by decide) | lia))]; rfl
  · have e : seqIndex? k (S x).length = some k.toNat := by
      unfold seqIndex?
      have e2 : (S x).length = x.length := by simp [Str.length]
      rw [e2]
      have e3 : ¬ (k < 0) := by (first | assumption | exact Int.natCast_nonneg _ | exact Nat.zero_le _ | exact Nat.le_refl _ | decide | exact Nat.le_trans (by assumption) (by decide) | lia)
      simp only [e3, if_false]
      rw [if_pos (by simp; (first | assumption | exact Int.natCast_nonneg _ | exact Nat.zero_le _ | exact Nat.le_refl _ | decide | exact Nat.le_trans (by assumption) (by decide) | lia))]
    rw [e]
    simpa using hd

/-- a part of a slice -/
def EvO (c : Cx) (A : Around) (env : Env) (σ : Sig) (e : Option Expr) (k : Option Int) : Prop := ∀ G s, Ok c A env σ G s →
  wpAny (model c.prog c.w) A (evalPart e env) (fun v s' => ∃ G', Grow c G s G' s' ∧ IsPart v k) (fun _ _ => False) s
theorem evo_none : EvO c A env σ none none := fun G s ok => by
  rw [evalPart_none]
  exact wpAny_pure ⟨G, Grow.refl ok.sub, .none⟩
theorem evo_some {e : Expr} {k : Int} (h : Ev c A env σ e (.int k)) : EvO c A env σ (some e) (some k) := fun G s ok => by
  rw [evalPart_some]
  exact (h G s ok).use fun v G1 s1 g1 r1 => ⟨G1, g1, by (first | obtain rfl := r1.inv0 | obtain ⟨_, rfl⟩ := r1.inv | obtain rfl := r1.inv | cases r1); exact .int _ _⟩
theorem wp_slice {lo hi st : Option Expr} {p : Pos} {a b d : Option Int} {Q : Value → Shared → Prop} {E : Value → Shared → Prop} (ok : Ok c A env σ G s) (ha : EvO c A env σ lo a) (hb : EvO c A env σ hi b) (hd : EvO c A env σ st d)
    (h : ∀ va vb vd l G' s', Grow c G s G' s' → s'.heap.get? l = some { cls := .type "slice", data := .fields #[va, vb, vd] } → IsPart va a → IsPart vb b → IsPart vd d → Q (.ref l) s') :
    wpAny (model c.prog c.w) A (eval (.Slice lo hi st p) env) Q E s := by
  refine wpAny_Slice (wpAny_mono (ha G s ok) (fun va s1 ⟨G1, g1, p1⟩ => wpAny_mono (hb G1 s1 (ok.grow g1)) (fun vb s2 ⟨G2, g2, p2⟩ => wpAny_mono (hd G2 s2 (ok.grow (g1.trans g2))) (fun vd s3 ⟨G3, g3, p3⟩ => ?_) fun _ _ x => x.elim) fun _ _ x => x.elim) fun _ _ x => x.elim)
  have g13 := (g1.trans g2).trans g3
  exact h va vb vd _ G3 _ (g13.trans (Grow.still g13.on ⟨_, _, rfl, fun _ _ e => Heap.get?_push_of_some _ e⟩)) (Heap.get?_push_size _ rfl) p1 p2 p3
theorem ev_slL {v : Expr} {lo hi st : Option Expr} {p pos : Pos} {ds es : List D} {a b d : Option Int} (hv : EvL c A env σ v ds) (ha : EvO c A env σ lo a) (hb : EvO c A env σ hi b) (hd : EvO c A env σ st d) (h0 : d ≠ some 0)
    (hz : ds.length ≤ sizeLine) (he : ∀ G vs, RepAll G vs ds → RepAll G (slicePick vs.toArray a b d).toList es)
    (hs : ∀ l i, ∃ ops, subscripted (.Slice lo hi st p) false (.ref l) i = operate ops (getItem (.ref l) i) := by intro _ _; exact ⟨_, rfl⟩) : Ev c A env σ (.Subscript v (.Slice lo hi st p) pos) (.lst es) := fun G s ok => by
  refine Subscript_ (hv.use ok fun o G1 s1 g1 r1 => wp_slice (ok.grow g1) ha hb hd fun va vb vd sl G2 s2 g2 hsl p1 p2 p3 => ?_)
  obtain ⟨l, vs, rfl, hl, r⟩ := r1.grow g2
  obtain ⟨ops, hs⟩ := hs l (.ref sl)
  refine tail_any hl.typeIs slot_list_getitem.lookup (wpAny_getItem_list_slice hl ⟨_, hsl, rfl, rfl⟩ p1 p2 p3 h0 ?_ (by simp [r.length]; exact hz)) hs
  have f := fresh_push (n := 0) (t := s2.toks) (g1.trans g2) (he G2 vs r)
  obtain ⟨G3, g3, r3⟩ := f.freeze
  exact ⟨G3, g3, r3⟩
theorem pick_from {G : Gh} {ds : List D} {k : Int} (h0 : 0 ≤ k) (vs : List Value) (r : RepAll G vs ds) : RepAll G (slicePick vs.toArray (some k) none none).toList (ds.drop k.toNat) := by
  have e : k = (k.toNat : Int) := by (first | assumption | exact Int.natCast_nonneg _ | exact Nat.zero_le _ | exact Nat.le_refl _ | decide | exact Nat.le_trans (by assumption) (by decide) | lia)
  rw [e, slicePick_from' vs.toArray k.toNat]
  simpa [← e] using r.drop k.toNat
theorem pick_upto {G : Gh} {ds : List D} {k : Int} (h0 : 0 ≤ k) (vs : List Value) (r : RepAll G vs ds) : RepAll G (slicePick vs.toArray none (some k) none).toList (ds.take k.toNat) := by
  have e : k = (k.toNat : Int) := by (first | assumption | exact Int.natCast_nonneg _ | exact Nat.zero_le _ | exact Nat.le_refl _ | decide | exact Nat.le_trans (by assumption) (by decide) | lia)
  rw [e, slicePick_upto' vs.toArray k.toNat]
  simpa [← e] using r.take k.toNat
theorem ev_from {v e : Expr} {p pos : Pos} {ds : List D} {k : Int} (hv : EvL c A env σ v ds) (he : Ev c A env σ e (.int k)) (h0 : 0 ≤ k) (hz : ds.length ≤ sizeLine) : Ev c A env σ (.Subscript v (.Slice (some e) none none p) pos) (.lst (ds.drop k.toNat)) :=
  ev_slL hv (evo_some he) evo_none evo_none (by decide) hz fun G vs r => pick_from h0 vs r
theorem ev_upto {v e : Expr} {p pos : Pos} {ds : List D} {k : Int} (hv : EvL c A env σ v ds) (he : Ev c A env σ e (.int k)) (h0 : 0 ≤ k) (hz : ds.length ≤ sizeLine) : Ev c A env σ (.Subscript v (.Slice none (some e) none p) pos) (.lst (ds.take k.toNat)) :=
  ev_slL hv evo_none (evo_some he) evo_none (by decide) hz fun G vs r => pick_upto h0 vs r

/-- Python's x[a:b], by plain lists -/
def cutS (x : List Nat) (a b : Option Int) : List Nat := (Builtin.Str.strSliceIndices a b 1 x.length).filterMap (x[·]?)
theorem ev_slS {v : Expr} {lo hi : Option Expr} {p pos : Pos} {x y : List Nat} {a b : Option Int} (hv : Ev c A env σ v (.str x)) (ha : EvO c A env σ lo a) (hb : EvO c A env σ hi b) (hz : x.length ≤ sizeLine) (hy : cutS x a b = y) (hyx : y.length = x.length → y = x) (hlen : y.length ≤ x.length)
    (hlen2 : (Builtin.Str.strSliceIndices a b 1 x.length).length = y.length) : Ev c A env σ (.Subscript v (.Slice lo hi none p) pos) (.str y) := fun G s ok => by
  refine Subscript_ ((hv G s ok).use fun o G1 s1 g1 r1 => wp_slice (ok.grow g1) ha hb evo_none fun va vb vd sl G2 s2 g2 hsl p1 p2 p3 => ?_)
  have g := g1.trans g2
  (first | obtain rfl := r1.inv0 | obtain ⟨_, rfl⟩ := r1.inv | obtain rfl := r1.inv | cases r1)
  rename_i t
  have hp : ∃ l u : Option (Int × Tok), va = partValue l ∧ vb = partValue u ∧ l.map (·.1) = a ∧ u.map (·.1) = b := by
    cases p1 <;> cases p2
    · exact ⟨none, none, rfl, rfl, rfl, rfl⟩
    · exact ⟨none, some (_, _), rfl, rfl, rfl, rfl⟩
    · exact ⟨some (_, _), none, rfl, rfl, rfl, rfl⟩
    · exact ⟨some (_, _), some (_, _), rfl, rfl, rfl, rfl⟩
  obtain ⟨l, u, rfl, rfl, el, eu⟩ := hp
  cases p3
  refine tail_any (T := "str") (typeIs_str _ _ _) slot_str_getitem.lookup (wpAny_getItem_str_slice (l := l) (u := u) (st := none) ⟨_, hsl, rfl, rfl⟩ rfl ?_) rfl
  have hlx : (S x).length = x.length := by simp [Str.length]
  have e1 : slicePicked (S x) l u none = Builtin.Str.strSliceIndices a b 1 x.length := by
    unfold slicePicked
    rw [el, eu, hlx]
    rfl
  have e2 : ((Builtin.Str.strSliceIndices a b 1 x.length).filterMap ((S x).cps[·]?)) = y := by
    rw [← hy]
    unfold cutS
    simp
  unfold sliceMade
  rw [e1]
  split
  · rename_i hc
    simp only [hlx, Bool.and_eq_true, beq_iff_eq] at hc
    rw [hyx (by (first | assumption | exact Int.natCast_nonneg _ | exact Nat.zero_le _ | exact Nat.le_refl _ | decide | exact Nat.le_trans (by assumption) (by decide) | lia))]
    exact ⟨G2, g, .str x t⟩
  · rw [e2]
    exact ⟨by show (S y).length ≤ sizeLine; simp [Str.length]; (first | assumption | exact Int.natCast_nonneg _ | exact Nat.zero_le _ | exact Nat.le_refl _ | decide | exact Nat.le_trans (by assumption) (by decide) | lia), G2, g.trans (Grow.toks g.on _), .str y _⟩
theorem cut_gen (x : List Nat) (a b : Nat) (ha : a ≤ x.length) (hb : b ≤ x.length) : (sliceRange a b 1).filterMap (x[·]?) = (x.drop a).take (b - a) := by
  rw [sliceRange_one]
  have h := pick_run x.toArray a (b - a)
  simpa using h
theorem clampI (k n : Nat) : max 0 (min (if (k : Int) < 0 then (k : Int) + n else k) (n : Int)) = ((min k n : Nat) : Int) := by
  rw [if_neg (Int.not_lt.mpr (Int.natCast_nonneg k)), Int.max_eq_right (by (first | assumption | exact Int.natCast_nonneg _ | exact Nat.zero_le _ | exact Nat.le_refl _ | decide | exact Nat.le_trans (by assumption) (by decide) | lia))]
  (first | assumption | exact Int.natCast_nonneg _ | exact Nat.zero_le _ | exact Nat.le_refl _ | decide | exact Nat.le_trans (by assumption) (by decide) | lia)
theorem mins (j k n : Nat) : min k n - min j n = min (k - j) (n - j) := by
  rcases Nat.le_total j n with h | h
  · rw [Nat.min_eq_left h, Nat.sub_min_sub_right]
  · rw [Nat.min_eq_right h, Nat.sub_eq_zero_of_le (Nat.min_le_right _ _), Nat.sub_eq_zero_of_le h, Nat.min_zero]
theorem idx_upto {n k : Nat} : Builtin.Str.strSliceIndices none (some (k : Int)) 1 n = sliceRange ((0 : Nat) : Int) ((min k n : Nat) : Int) 1 := by
  unfold Builtin.Str.strSliceIndices
  simp only [show (1 : Int) > 0 by decide, if_true]
  rw [clampI]; rfl
theorem idx_both {n j k : Nat} : Builtin.Str.strSliceIndices (some (j : Int)) (some (k : Int)) 1 n = sliceRange ((min j n : Nat) : Int) ((min k n : Nat) : Int) 1 := by
  unfold Builtin.Str.strSliceIndices
  simp only [show (1 : Int) > 0 by decide, if_true]
  rw [clampI, clampI]
theorem drop_min {α : Type} (x : List α) (j : Nat) : x.drop (min j x.length) = x.drop j := by
  rcases Nat.le_total j x.length with h | h
  · rw [Nat.min_eq_left h]
  · rw [Nat.min_eq_right h, List.drop_of_length_le (Nat.le_refl _), List.drop_of_length_le h]
theorem cut_both (x : List Nat) (j k : Nat) : (x.drop (min j x.length)).take (min k x.length - min j x.length) = (x.drop j).take (k - j) := by
  rw [drop_min, mins, List.take_eq_take_iff, List.length_drop, Nat.min_assoc, Nat.min_self]
theorem ev_uptoS {v e : Expr} {p pos : Pos} {x : List Nat} {k : Nat} (hv : Ev c A env σ v (.str x)) (he : Ev c A env σ e (.int k)) (hz : x.length ≤ sizeLine) : Ev c A env σ (.Subscript v (.Slice none (some e) none p) pos) (.str (x.take k)) := by
  refine ev_slS hv evo_none (evo_some he) hz ?_ (fun h => (List.take_sublist _ _).eq_of_length h) (List.take_sublist _ _).length_le ?_
  · unfold cutS; rw [idx_upto, cut_gen x 0 _ (Nat.zero_le _) (Nat.min_le_right _ _), Nat.sub_zero, List.drop_zero, List.take_eq_take_iff, Nat.min_assoc, Nat.min_self]
  · rw [idx_upto, sliceRange_one, List.length_take]; simp
theorem ev_bothS {v e f : Expr} {p pos : Pos} {x : List Nat} {j k : Nat} (hv : Ev c A env σ v (.str x)) (he : Ev c A env σ e (.int j)) (hf : Ev c A env σ f (.int k)) (hz : x.length ≤ sizeLine) : Ev c A env σ (.Subscript v (.Slice (some e) (some f) none p) pos) (.str ((x.drop j).take (k - j))) := by
  refine ev_slS hv (evo_some he) (evo_some hf) hz ?_ (fun h => ((List.take_sublist _ _).trans (List.drop_sublist _ _)).eq_of_length h) ((List.take_sublist _ _).trans (List.drop_sublist _ _)).length_le ?_
  · unfold cutS; rw [idx_both, cut_gen x _ _ (Nat.min_le_right _ _) (Nat.min_le_right _ _), cut_both]
  · rw [idx_both, sliceRange_one, List.length_take, List.length_drop, ← mins]; simp
end
end Mine
end


/-! part B5 -/
section
open PySem PySem.W PyProof.Rows PySem.Calls PySem.Spec
set_option Elab.async false
set_option linter.unusedVariables false
set_option maxRecDepth 100000
namespace Mine
mutual
noncomputable def toPy : D → PyData
  | .none => .none
  | .bool b => .bool b
  | .int i => .int i
  | .str x => .str (S x)
  | .tup ds => .tuple (toPyAll ds)
  | .lst ds => .list (toPyAll ds)
  | .rng _ _ => .none
  | .ws _ _ _ _ => .none
  | .strT => .none
  | .adr _ => .none
  | .fnv _ _ _ _ => .none
  | .lstA _ => .none
noncomputable def toPyAll : List D → List PyData
  | [] => []
  | d :: ds => toPy d :: toPyAll ds
end
mutual
/-- plain data, their texts laid -/
noncomputable def plainD : D → Bool
  | .none => true
  | .bool _ => true
  | .int _ => true
  | .str x => PyData.strOk (S x)
  | .tup ds => plainAll ds
  | .lst ds => plainAll ds
  | .rng _ _ => false
  | .ws _ _ _ _ => false
  | .strT => false
  | .adr _ => false
  | .fnv _ _ _ _ => false
  | .lstA _ => false
noncomputable def plainAll : List D → Bool
  | [] => true
  | d :: ds => plainD d && plainAll ds
end
mutual
theorem canLay_of_plain : ∀ {d : D}, plainD d = true → (toPy d).canLay0 = true
  | .none, _ => rfl
  | .bool _, _ => rfl
  | .int _, _ => rfl
  | .str x, h => h
  | .tup ds, h => canLay_of_plainAll (ds := ds) h
  | .lst ds, h => canLay_of_plainAll (ds := ds) h
  | .rng _ _, h => absurd h Bool.false_ne_true
  | .ws _ _ _ _, h => absurd h Bool.false_ne_true
  | .strT, h => absurd h Bool.false_ne_true
  | .adr _, h => absurd h Bool.false_ne_true
  | .fnv _ _ _ _, h => absurd h Bool.false_ne_true
  | .lstA _, h => absurd h Bool.false_ne_true
theorem canLay_of_plainAll : ∀ {ds : List D}, plainAll ds = true → PyData.canLayAll0 (toPyAll ds) = true
  | [], _ => rfl
  | d :: ds, h => by
    have h' : (plainD d && plainAll ds) = true := h
    rw [Bool.and_eq_true] at h'
    show ((toPy d).canLay0 && PyData.canLayAll0 (toPyAll ds)) = true
    rw [canLay_of_plain h'.1, canLay_of_plainAll h'.2]; rfl
end
theorem reads_of {G : Gh} {s : Shared} (on : OnG c G s) {v : Value} {d : D} (h : Rep G v d) : plainD d = true → ∃ as, Reads s.heap v (toPy d) as :=
  Rep.rec (motive_1 := fun v d _ => plainD d = true → ∃ as, Reads s.heap v (toPy d) as) (motive_2 := fun vs ds _ => plainAll ds = true → ∃ as, ReadsAll s.heap vs (toPyAll ds) as) (fun _ => ⟨_, .none⟩) (fun b _ => ⟨_, .bool b⟩) (fun i t _ => ⟨_, .int i t⟩) (fun x t _ => ⟨_, .str _ t⟩)
    (fun g _ ih p => (ih p).elim fun _ q => ⟨_, .tuple (on.at g rfl) rfl rfl q⟩) (fun g _ ih p => (ih p).elim fun _ q => ⟨_, .list (on.at g rfl) rfl rfl q⟩)
    (fun _ p => absurd p Bool.false_ne_true) (fun _ _ _ _ _ _ _ _ p => absurd p Bool.false_ne_true) (fun p => absurd p Bool.false_ne_true) (fun _ p => absurd p Bool.false_ne_true) (fun _ _ p => absurd p Bool.false_ne_true) (fun _ _ _ _ _ p => absurd p Bool.false_ne_true)
    (fun _ => ⟨_, .nil⟩) (fun _ _ ih1 ih2 p => by
      have p' := Bool.and_eq_true_iff.mp p
      obtain ⟨as, q1⟩ := ih1 p'.1
      obtain ⟨bs, q2⟩ := ih2 p'.2
      exact ⟨_, .cons q1 q2⟩) h
theorem readsAll_of {G : Gh} {s : Shared} (on : OnG c G s) {vs : List Value} {ds : List D} (h : RepAll G vs ds) (p : plainAll ds = true) : ∃ as, ReadsAll s.heap vs (toPyAll ds) as := by
  induction vs generalizing ds with
  | nil => cases h; exact ⟨_, .nil⟩
  | cons v vs ih =>
    cases h with
    | cons a b =>
      have p' := Bool.and_eq_true_iff.mp p
      obtain ⟨as, q1⟩ := reads_of on a p'.1
      obtain ⟨bs, q2⟩ := ih b p'.2
      exact ⟨_, .cons q1 q2⟩
mutual
theorem eqv_same : ∀ {d : D}, plainD d = true → PyData.eqv (toPy d) (toPy d) = true
  | .none, _ => rfl
  | .bool b, _ => by show (b == b) = true; simp
  | .int i, _ => by show (i == i) = true; simp
  | .str x, _ => by show (S x == S x) = true; simp
  | .tup ds, h => eqvAll_same (ds := ds) h
  | .lst ds, h => eqvAll_same (ds := ds) h
  | .rng _ _, h => absurd h Bool.false_ne_true
  | .ws _ _ _ _, h => absurd h Bool.false_ne_true
  | .strT, h => absurd h Bool.false_ne_true
  | .adr _, h => absurd h Bool.false_ne_true
  | .fnv _ _ _ _, h => absurd h Bool.false_ne_true
  | .lstA _, h => absurd h Bool.false_ne_true
theorem eqvAll_same : ∀ {ds : List D}, plainAll ds = true → PyData.eqvAll (toPyAll ds) (toPyAll ds) = true
  | [], _ => rfl
  | d :: ds, h => by
    have h' : plainD d = true ∧ plainAll ds = true := by
      have q : (plainD d && plainAll ds) = true := h
      rwa [Bool.and_eq_true] at q
    show (PyData.eqv (toPy d) (toPy d) && PyData.eqvAll (toPyAll ds) (toPyAll ds)) = true
    rw [eqv_same h'.1, eqvAll_same h'.2]; rfl
end
section
variable {c : Cx} {A : Around} {env : Env} {σ : Sig} {G : Gh} {s : Shared}
theorem cmp_eqP {x y : D} {n : Nat} (hA : AOk A n) (hx : plainD x = true) (hy : plainD y = true) (hd : (toPy x).depth ≤ 30) : Cmp c A .Eq x y (PyData.eqv (toPy x) (toPy y)) := fun G s u v on _ hu hv => by
  obtain ⟨as, r1⟩ := reads_of on hu hx
  obtain ⟨bs, r2⟩ := reads_of on hv hy
  exact SeqAt.compareEq_reads r1 r2 (canLay_of_plain hx) (canLay_of_plain hy) (by have := hA.un; (first | assumption | exact Int.natCast_nonneg _ | exact Nat.zero_le _ | exact Nat.le_refl _ | decide | exact Nat.le_trans (by assumption) (by decide) | lia)) ⟨G, Grow.refl on, .bool _⟩
theorem cmp_neP {x y : D} {n : Nat} (hA : AOk A n) (hx : plainD x = true) (hy : plainD y = true) (hd : (toPy x).depth ≤ 30) : Cmp c A .NotEq x y (!PyData.eqv (toPy x) (toPy y)) := fun G s u v on _ hu hv => by
  obtain ⟨as, r1⟩ := reads_of on hu hx
  obtain ⟨bs, r2⟩ := reads_of on hv hy
  exact SeqAt.compareNe_reads r1 r2 (canLay_of_plain hx) (canLay_of_plain hy) (by have := hA.un; (first | assumption | exact Int.natCast_nonneg _ | exact Nat.zero_le _ | exact Nat.le_refl _ | decide | exact Nat.le_trans (by assumption) (by decide) | lia)) ⟨G, Grow.refl on, .bool _⟩
theorem cmp_ne_same {x y : D} {n : Nat} (hA : AOk A n) (hx : plainD x = true) (hd : (toPy x).depth ≤ 30) (e : x = y) : Cmp c A .NotEq x y false := by
  subst e
  have h := cmp_neP (c := c) hA hx hx hd
  rw [eqv_same hx] at h
  exact h
theorem toPyAll_eq (ds : List D) : toPyAll ds = ds.map toPy := by
  induction ds with
  | nil => rfl
  | cons d ds ih => show toPy d :: toPyAll ds = _; rw [ih]; rfl
theorem cmp_in {x : D} {ds : List D} {n : Nat} (hA : AOk A n) (hx : plainD x = true) (hy : plainAll ds = true) (hd : (toPy x).depth ≤ 30) : Cmp c A .In x (.lst ds) (ds.any fun y => PyData.eqv (toPy y) (toPy x)) := fun G s u v on _ hu hv => by
  obtain ⟨as, r1⟩ := reads_of on hu hx
  obtain ⟨bs, r2⟩ := reads_of on hv (d := .lst ds) hy
  refine SeqAt.in_list_reads (xs := toPyAll ds) r2 r1 (canLay_of_plainAll hy) (canLay_of_plain hx) (by have := hA.un; (first | assumption | exact Int.natCast_nonneg _ | exact Nat.zero_le _ | exact Nat.le_refl _ | decide | exact Nat.le_trans (by assumption) (by decide) | lia)) ⟨G, Grow.refl on, ?_⟩
  rw [toPyAll_eq, List.any_map]; exact .bool _
theorem cmp_notIn {x : D} {ds : List D} {n : Nat} (hA : AOk A n) (hx : plainD x = true) (hy : plainAll ds = true) (hd : (toPy x).depth ≤ 30) : Cmp c A .NotIn x (.lst ds) (!ds.any fun y => PyData.eqv (toPy y) (toPy x)) := fun G s u v on _ hu hv => by
  obtain ⟨as, r1⟩ := reads_of on hu hx
  obtain ⟨bs, r2⟩ := reads_of on hv (d := .lst ds) hy
  refine SeqAt.notIn_list_reads (xs := toPyAll ds) r2 r1 (canLay_of_plainAll hy) (canLay_of_plain hx) (by have := hA.un; (first | assumption | exact Int.natCast_nonneg _ | exact Nat.zero_le _ | exact Nat.le_refl _ | decide | exact Nat.le_trans (by assumption) (by decide) | lia)) ⟨G, Grow.refl on, ?_⟩
  rw [toPyAll_eq, List.any_map]; exact .bool _
end
end Mine
end


/-! part B6 -/
section
open PySem PySem.W PyProof.Rows PySem.Calls PySem.Spec
set_option Elab.async false
set_option linter.unusedVariables false
set_option maxRecDepth 100000
namespace Mine
section
variable {c : Cx} {A : Around} {env : Env} {σ : Sig} {G : Gh} {s : Shared}
/-- the value's method is a built-in -/
def HasM (d : D) (name : Str) (id : String) : Prop := ∀ (c : Cx) (M : Model) (A : Around) (G : Gh) (s : Shared) (v : Value) (pl : Sem Bool) (Q : Value × List Value → Shared → Prop) (E : Value → Shared → Prop),
  OnG c G s → Rep G v d → Q (.builtin id, [v]) s → wpAny M A (getMethod v name pl) Q E s
theorem hasM_str {x : List Nat} {name : Str} {id : String} (slot : Slot "str" name id) (ty : typeOf (.builtin id) = pure (.type "method_descriptor")) : HasM (.str x) name id := fun c M A G s v pl Q E on r h => by
  (first | obtain rfl := r.inv0 | obtain ⟨_, rfl⟩ := r.inv | obtain rfl := r.inv | cases r)
  exact getMethod_builtin (typeIs_str _ _ _) F.plainAttrs_str slot ty (fun a e => nomatch e) h
theorem hasM_int {x : Int} {name : Str} {id : String} (slot : Slot "int" name id) (ty : typeOf (.builtin id) = pure (.type "method_descriptor")) : HasM (.int x) name id := fun c M A G s v pl Q E on r h => by
  (first | obtain rfl := r.inv0 | obtain ⟨_, rfl⟩ := r.inv | obtain rfl := r.inv | cases r)
  exact getMethod_builtin (typeIs_int _ _ _) F.plainAttrs_int slot ty (fun a e => nomatch e) h
theorem hasM_lst {ds : List D} {name : Str} {id : String} (slot : Slot "list" name id) (ty : typeOf (.builtin id) = pure (.type "method_descriptor")) : HasM (.lst ds) name id := fun c M A G s v pl Q E on r h => by
  obtain ⟨_, _, _, rfl, g, r⟩ := r.inv
  exact getMethod_builtin (T := "list") ⟨_, on.at g rfl, rfl⟩ F.plainAttrs_list slot ty (fun a e => by cases e; exact ⟨_, on.at g rfl, rfl⟩) h
theorem ev_meth1 {o e : Expr} {name : Str} {apos pos : Pos} {id : String} {d d2 r : D} {pl : Sem Bool} (ho : Ev c A env σ o d) (he : Ev c A env σ e d2) (hm : HasM d name id) (h : Fn c A (.builtin id) [d, d2] r)
    (hc : eval (.Call (.Attribute o name apos) [e] [] pos) env = (do
      let ov ← eval o env
      standAt apos.atName
      let (f, first) ← holding [ov] (getMethod ov name pl)
      callWith pos f first (backTo pos (starEach [e] env)) []) := by rfl)
    (hs : starEach [e] env = (false, eval e env) :: starEach [] env := by rfl) : Ev c A env σ (.Call (.Attribute o name apos) [e] [] pos) r := fun G s ok => by
  refine MethodCall_ (pl := pl) ((ho G s ok).use fun v G1 s1 g1 r1 => hm c _ _ G1 s1 v _ _ _ g1.on r1 ?_) hc
  refine callWith_method1 (wpAny_items_cons ((he G1 s1 (ok.grow g1)).use fun v2 G2 s2 g2 r2 => wpAny_items_nil ?_) hs) hs rfl
  exact (h G2 s2 [v, v2] g2.on (ok.grow (g1.trans g2)).gl (.cons (r1.mono g2.sub) (.cons r2 .nil))).use fun v3 G3 s3 g3 r3 => ⟨G3, (g1.trans g2).trans g3, r3⟩
theorem ev_meth0 {o : Expr} {name : Str} {apos pos : Pos} {id : String} {d r : D} {pl : Sem Bool} (ho : Ev c A env σ o d) (hm : HasM d name id) (h : Fn c A (.builtin id) [d] r)
    (hc : eval (.Call (.Attribute o name apos) [] [] pos) env = (do
      let ov ← eval o env
      standAt apos.atName
      let (f, first) ← holding [ov] (getMethod ov name pl)
      callWith pos f first (backTo pos (starEach [] env)) []) := by rfl) : Ev c A env σ (.Call (.Attribute o name apos) [] [] pos) r := fun G s ok => by
  refine MethodCall_ (pl := pl) ((ho G s ok).use fun v G1 s1 g1 r1 => hm c _ _ G1 s1 v _ _ _ g1.on r1 ?_) hc
  refine callWith_method0 ?_
  exact (h G1 s1 [v] g1.on (ok.grow g1).gl (.cons r1 .nil)).use fun v3 G3 s3 g3 r3 => ⟨G3, g1.trans g3, r3⟩

/-! str.count of one sign -/
theorem count_go (x : List Nat) (n : Nat) : ∀ (k a free : Nat) (fd : Array Nat), a + k = x.length + 1 → free ≤ a → fd.size + k ≤ x.length + 1 →
    (forIn (List.range' a k) (fd, free) (StrLaws.occBody (S x) (S [n]) x.length (x.length + 1))).run.fst.size = fd.size + (x.drop a).count n := by
  intro k
  induction k with
  | zero =>
    intro a free fd h1 h2 h3
    have : x.drop a = [] := List.drop_of_length_le (by (first | assumption | exact Int.natCast_nonneg _ | exact Nat.zero_le _ | exact Nat.le_refl _ | decide | exact Nat.le_trans (by assumption) (by decide) | lia))
    rw [this]
    simp
  | succ k ih =>
    intro a free fd h1 h2 h3
    rw [List.range'_succ, List.forIn_cons]
    have one := StrLaws.subAt_one (S x) n a
    have hl : (S x).length = x.length := by simp [Str.length]
    have hl1 : (S [n]).length = 1 := rfl
    rw [hl] at one
    have key : ((((fd.size < x.length + 1 ∧ free ≤ a) ∧ a + (S [n]).length ≤ x.length) ∧ Builtin.Str.subAt (S x) (S [n]) a = true)) ↔ x[a]? = some n := by
      have e : (S x).cps.toList[a]? = x[a]? := by simp
      rw [e] at one
      constructor
      · rintro ⟨⟨_, q1⟩, q2⟩
        exact one.mp ⟨q1, q2⟩
      · intro q
        have := one.mpr q
        exact ⟨⟨⟨by (first | assumption | exact Int.natCast_nonneg _ | exact Nat.zero_le _ | exact Nat.le_refl _ | decide | exact Nat.le_trans (by assumption) (by decide) | lia), h2⟩, this.1⟩, this.2⟩
    by_cases hx : x[a]? = some n
    · have hb : StrLaws.occBody (S x) (S [n]) x.length (x.length + 1) a (fd, free) = pure (ForInStep.yield (fd.push a, a + 1)) := by
        unfold StrLaws.occBody
        rw [if_pos (key.mpr hx), hl1]
      rw [hb]
      have hlt : a < x.length := (List.getElem?_eq_some_iff.mp hx).1
      have hd : x.drop a = n :: x.drop (a + 1) := by
        rw [List.drop_eq_getElem_cons hlt]
        congr 1
        exact (List.getElem?_eq_some_iff.mp hx).2
      have := ih (a + 1) (a + 1) (fd.push a) (by (first | assumption | exact Int.natCast_nonneg _ | exact Nat.zero_le _ | exact Nat.le_refl _ | decide | exact Nat.le_trans (by assumption) (by decide) | lia)) (Nat.le_refl _) (by simp; (first | assumption | exact Int.natCast_nonneg _ | exact Nat.zero_le _ | exact Nat.le_refl _ | decide | exact Nat.le_trans (by assumption) (by decide) | lia))
      rw [hd, List.count_cons_self]
      simp only [Array.size_push] at this
      refine Eq.trans this ?_
      (first | assumption | exact Int.natCast_nonneg _ | exact Nat.zero_le _ | exact Nat.le_refl _ | decide | exact Nat.le_trans (by assumption) (by decide) | lia)
    · have hb : StrLaws.occBody (S x) (S [n]) x.length (x.length + 1) a (fd, free) = pure (ForInStep.yield (fd, free)) := by
        unfold StrLaws.occBody
        rw [if_neg (fun q => hx (key.mp q))]
      rw [hb]
      have := ih (a + 1) free fd (by (first | assumption | exact Int.natCast_nonneg _ | exact Nat.zero_le _ | exact Nat.le_refl _ | decide | exact Nat.le_trans (by assumption) (by decide) | lia)) (by (first | assumption | exact Int.natCast_nonneg _ | exact Nat.zero_le _ | exact Nat.le_refl _ | decide | exact Nat.le_trans (by assumption) (by decide) | lia)) (by (first | assumption | exact Int.natCast_nonneg _ | exact Nat.zero_le _ | exact Nat.le_refl _ | decide | exact Nat.le_trans (by assumption) (by decide) | lia))
      refine Eq.trans this ?_
      congr 1
      by_cases hlt : a < x.length
      · rw [List.drop_eq_getElem_cons hlt, List.count_cons_of_ne]
        intro q
        exact hx (by rw [List.getElem?_eq_getElem hlt, q])
      · rw [List.drop_of_length_le (by (first | assumption | exact Int.natCast_nonneg _ | exact Nat.zero_le _ | exact Nat.le_refl _ | decide | exact Nat.le_trans (by assumption) (by decide) | lia)), List.drop_of_length_le (by (first | assumption | exact Int.natCast_nonneg _ | exact Nat.zero_le _ | exact Nat.le_refl _ | decide | exact Nat.le_trans (by assumption) (by decide) | lia))]
theorem count_one (x : List Nat) (n : Nat) : Txt.count (S x) (S [n]) = (x.count n : Nat) := by
  show ((Builtin.Str.occurrences (S x) (S [n]) 0 (S x).length ((S x).length + 1)).length : Int) = _
  have hl : (S x).length = x.length := by simp [Str.length]
  rw [hl, StrLaws.occ_eq, Array.length_toList, count_go x n (x.length + 1 - 0) 0 0 #[] (by (first | assumption | exact Int.natCast_nonneg _ | exact Nat.zero_le _ | exact Nat.le_refl _ | decide | exact Nat.le_trans (by assumption) (by decide) | lia)) (Nat.le_refl _) (by simp)]
  simp
theorem fn_count {x : List Nat} {n : Nat} : Fn c A (.builtin "str.count") [.str x, .str [n]] (.int (x.count n)) := fun G s vs on gl r => by
  obtain ⟨_, _, rfl, r1, r2⟩ := r.inv
  · cases r2 with
    | cons r2 r3 =>
      (first | obtain rfl := r3.inv0 | obtain ⟨_, rfl⟩ := r3.inv | obtain rfl := r3.inv | cases r3); (first | obtain rfl := r1.inv0 | obtain ⟨_, rfl⟩ := r1.inv | obtain rfl := r1.inv | cases r1); (first | obtain rfl := r2.inv0 | obtain ⟨_, rfl⟩ := r2.inv | obtain rfl := r2.inv | cases r2)
      refine call_gives F.slot_str_count (typeIs_str _ _ _) F.entry_str_count (F.args_str_count_2 _ _) (gives_str_count (S x) (S [n]) _ _) ?_
      have e := count_one x n
      refine ⟨G, Grow.toks on _, ?_⟩
      show Rep G (.int (Txt.count (S x) (S [n])) _) _
      rw [e]; exact .int _ _
theorem ev_count {o e : Expr} {apos pos : Pos} {x : List Nat} {n : Nat} {pl : Sem Bool} (ho : Ev c A env σ o (.str x)) (he : Ev c A env σ e (.str [n]))
    (hc : eval (.Call (.Attribute o (Str.ofString "count") apos) [e] [] pos) env = (do
      let ov ← eval o env
      standAt apos.atName
      let (f, first) ← holding [ov] (getMethod ov (Str.ofString "count") pl)
      callWith pos f first (backTo pos (starEach [e] env)) []) := by rfl)
    (hs : starEach [e] env = (false, eval e env) :: starEach [] env := by rfl) : Ev c A env σ (.Call (.Attribute o (Str.ofString "count") apos) [e] [] pos) (.int (x.count n)) :=
  ev_meth1 (pl := pl) ho he (hasM_str F.slot_str_count F.type_str_count) fn_count hc hs

/-! list.index -/
theorem fn_indexI {ns : List Int} {k : Int} (hk : k ∈ ns) (hz : ns.length < 2 ^ 60) : Fn c A (.builtin "list.index") [.lst (ns.map .int), .int k] (.int (ns.idxOf k : Nat)) := fun G s vs on gl r => by
  obtain ⟨_, _, rfl, r1, r2⟩ := r.inv
  · cases r2 with
    | cons r2 r3 =>
      (first | obtain rfl := r3.inv0 | obtain ⟨_, rfl⟩ := r3.inv | obtain rfl := r3.inv | cases r3); (first | obtain rfl := r2.inv0 | obtain ⟨_, rfl⟩ := r2.inv | obtain rfl := r2.inv | cases r2)
      rename_i t
      obtain ⟨l, vs, n, rfl, g, r⟩ := r1.inv
      · have hi := ints_of r
        have hlen : vs.length = ns.length := hi.length
        have hj : ns.idxOf k < ns.length := List.idxOf_lt_length_iff.mpr hk
        refine call_meets F.slot_list_index ⟨_, on.at g rfl, rfl⟩ F.entry_list_index (F.args_list_index_2 _ _)
          (MeetsSeq.list_index l vs.toArray n (.int k t) (fun y => match y with | .int i _ => i == k | _ => false) (fun y hy => ?_) (ns.idxOf k) (by simp; lia) (by lia) ?_ fun m hm hlt => ?_) ⟨on.at g rfl, G, Grow.toks on _, .int _ _⟩
        · obtain ⟨i, hi2, e⟩ := List.mem_iff_getElem.mp (Array.mem_toList_iff.mpr hy)
          obtain ⟨d, hd, rd⟩ := r.get' (k := i) (v := y) (by rw [← e]; exact List.getElem?_eq_getElem hi2)
          rw [List.getElem?_map] at hd
          obtain ⟨j, _, hj2⟩ := Option.map_eq_some_iff.mp hd
          subst hj2
          cases rd
          exact MeetsSeq.EqGives.int _ _ _ _
        · obtain ⟨tt, ht⟩ := hi.get (ns.idxOf k) k (by rw [List.getElem?_eq_getElem hj]; simp)
          have : vs.toArray[ns.idxOf k]'(by simp; (first | assumption | exact Int.natCast_nonneg _ | exact Nat.zero_le _ | exact Nat.le_refl _ | decide | exact Nat.le_trans (by assumption) (by decide) | lia)) = .int k tt := by
            have h2 := ht
            rw [List.getElem?_eq_getElem (by (first | assumption | exact Int.natCast_nonneg _ | exact Nat.zero_le _ | exact Nat.le_refl _ | decide | exact Nat.le_trans (by assumption) (by decide) | lia))] at h2
            simpa using h2
          rw [this]; simp
        · have hm' : m < ns.length := by simp at hm; (first | assumption | exact Int.natCast_nonneg _ | exact Nat.zero_le _ | exact Nat.le_refl _ | decide | exact Nat.le_trans (by assumption) (by decide) | lia)
          obtain ⟨tt, ht⟩ := hi.get m (ns[m]'hm') (List.getElem?_eq_getElem hm')
          have : vs.toArray[m]'hm = .int (ns[m]'hm') tt := by
            have h2 := ht
            rw [List.getElem?_eq_getElem (by (first | assumption | exact Int.natCast_nonneg _ | exact Nat.zero_le _ | exact Nat.le_refl _ | decide | exact Nat.le_trans (by assumption) (by decide) | lia))] at h2
            simpa using h2
          rw [this]
          have hne : ns[m]'hm' ≠ k := fun q => by have q2 := List.not_of_lt_findIdx (p := fun z => z == k) hlt; simp [q] at q2
          simpa using hne
theorem fn_indexS {xs : List (List Nat)} {k : List Nat} (hk : k ∈ xs) (hz : xs.length < 2 ^ 60) : Fn c A (.builtin "list.index") [.lst (xs.map .str), .str k] (.int (xs.idxOf k : Nat)) := fun G s vs on gl r => by
  obtain ⟨_, _, rfl, r1, r2⟩ := r.inv
  · cases r2 with
    | cons r2 r3 =>
      (first | obtain rfl := r3.inv0 | obtain ⟨_, rfl⟩ := r3.inv | obtain rfl := r3.inv | cases r3); (first | obtain rfl := r2.inv0 | obtain ⟨_, rfl⟩ := r2.inv | obtain rfl := r2.inv | cases r2)
      rename_i t
      obtain ⟨l, vs, n, rfl, g, r⟩ := r1.inv
      · have hlen : vs.length = xs.length := by simpa using r.length
        have hj : xs.idxOf k < xs.length := List.idxOf_lt_length_iff.mpr hk
        have at' : ∀ m (hm : m < xs.length), ∃ tt, vs.toArray[m]'(by simp; (first | assumption | exact Int.natCast_nonneg _ | exact Nat.zero_le _ | exact Nat.le_refl _ | decide | exact Nat.le_trans (by assumption) (by decide) | lia)) = .str (S (xs[m]'hm)) tt := fun m hm => by
          obtain ⟨d, hd, rd⟩ := r.get' (k := m) (v := vs[m]'(by (first | assumption | exact Int.natCast_nonneg _ | exact Nat.zero_le _ | exact Nat.le_refl _ | decide | exact Nat.le_trans (by assumption) (by decide) | lia))) (List.getElem?_eq_getElem (by (first | assumption | exact Int.natCast_nonneg _ | exact Nat.zero_le _ | exact Nat.le_refl _ | decide | exact Nat.le_trans (by assumption) (by decide) | lia)))
          rw [List.getElem?_map, List.getElem?_eq_getElem hm] at hd
          cases hd
          generalize hw : vs[m]'(by (first | assumption | exact Int.natCast_nonneg _ | exact Nat.zero_le _ | exact Nat.le_refl _ | decide | exact Nat.le_trans (by assumption) (by decide) | lia)) = w at rd
          cases rd
          exact ⟨_, by simpa using hw⟩
        refine call_meets F.slot_list_index ⟨_, on.at g rfl, rfl⟩ F.entry_list_index (F.args_list_index_2 _ _)
          (MeetsSeq.list_index l vs.toArray n (.str (S k) t) (fun y => match y with | .str i _ => i.cps.toList == k | _ => false) (fun y hy => ?_) (xs.idxOf k) (by simp; lia) (by lia) ?_ fun m hm hlt => ?_) ⟨on.at g rfl, G, Grow.toks on _, .int _ _⟩
        · obtain ⟨i, hi2, e⟩ := List.mem_iff_getElem.mp (Array.mem_toList_iff.mpr hy)
          obtain ⟨d, hd, rd⟩ := r.get' (k := i) (v := y) (by rw [← e]; exact List.getElem?_eq_getElem hi2)
          rw [List.getElem?_map] at hd
          obtain ⟨j, _, hj2⟩ := Option.map_eq_some_iff.mp hd
          subst hj2
          cases rd
          exact SeqRoads2.EqGives.str _ _ _ _
        · obtain ⟨tt, ht⟩ := at' _ hj
          rw [ht]; simp
        · have hm' : m < xs.length := by simp at hm; (first | assumption | exact Int.natCast_nonneg _ | exact Nat.zero_le _ | exact Nat.le_refl _ | decide | exact Nat.le_trans (by assumption) (by decide) | lia)
          obtain ⟨tt, ht⟩ := at' m hm'
          rw [ht]
          have hne : xs[m]'hm' ≠ k := fun q => by have q2 := List.not_of_lt_findIdx (p := fun z => z == k) hlt; simp [q] at q2
          simpa using hne

/-! str.join with no glue, int.bit_length -/
theorem glued_nil (xs : List (List Nat)) : Txt.join (S []) (xs.map S) = S xs.flatten := by
  show Builtin.Str.glued (S []) (xs.map S) = _
  cases xs with
  | nil => rfl
  | cons x xs =>
    unfold Builtin.Str.glued
    simp only [List.map_cons, List.drop_succ_cons, List.drop_zero, List.headD_cons, List.flatten_cons]
    have h : ∀ (l : List (List Nat)) (acc : Array Nat), (l.map S).foldl (fun acc p => acc ++ (S []).cps ++ p.cps) acc = acc ++ l.flatten.toArray := by
      intro l
      induction l with
      | nil => intro acc; simp
      | cons y l ih =>
        intro acc
        rw [List.map_cons, List.foldl_cons, ih]
        apply Array.toList_inj.mp
        simp
    rw [h]
    congr 1
    simp
theorem fn_join {xs : List (List Nat)} (hz : (xs.map List.length).sum ≤ 100000) : Fn c A (.builtin "str.join") [.str [], .lst (xs.map .str)] (.str xs.flatten) := fun G s vs on gl r => by
  cases r with
  | cons r1 r2 =>
    cases r2 with
    | cons r2 r3 =>
      cases r3; cases r1
      rename_i t
      obtain ⟨a, vs, rfl, hl, r⟩ := lstAt_of on r2
      have hv : ∃ l : List (Str × Tok), vs = strValues l ∧ l.map (·.1) = xs.map S := by
        clear hl r2 hz
        induction xs generalizing vs with
        | nil => cases r; exact ⟨[], rfl, rfl⟩
        | cons x xs ih =>
          cases r with
          | cons r1 r2 =>
            cases r1
            rename_i t'
            obtain ⟨l, e1, e2⟩ := ih _ r2
            exact ⟨(S x, t') :: l, by rw [e1]; rfl, by simp [e2]⟩
      obtain ⟨l, rfl, hl2⟩ := hv
      have hfold : ∀ (ts : List (List Nat)) (a : Nat), (ts.map S).foldl (fun a b => a + b.length + (S []).length) a = a + (ts.map List.length).sum := by
        intro ts
        induction ts with
        | nil => intro a; simp
        | cons y ts ih => intro a; rw [List.map_cons, List.foldl_cons, ih]; simp [Str.length]; (first | assumption | exact Int.natCast_nonneg _ | exact Nat.zero_le _ | exact Nat.le_refl _ | decide | exact Nat.le_trans (by assumption) (by decide) | lia)
      have hok : Builtin.Str.tooLong (((l.map (·.1)).toArray.foldl (· + ·.length + (S []).length) 0)) = false := by
        rw [hl2]
        have e : (xs.map S).toArray.foldl (fun x1 x2 => x1 + x2.length + (S []).length) 0 = (xs.map List.length).sum := by
          have := hfold xs 0
          simpa using this
        rw [e]
        have := sizeLine_eq
        exact decide_eq_false (by (first | assumption | exact Int.natCast_nonneg _ | exact Nat.zero_le _ | exact Nat.le_refl _ | decide | exact Nat.le_trans (by assumption) (by decide) | lia))
      refine call_meets F.slot_str_join (typeIs_str _ _ _) F.entry_str_join (F.args_str_join_2 _ _) (meets_str_join_list (S []) t a l hok) ⟨hl, post_join l ⟨joinFit_length hok, fun t' k => ⟨G, Grow.toks on _, ?_⟩⟩⟩
      rw [hl2, glued_nil]; exact .str _ _
theorem fn_bits {i : Int} : Fn c A (.builtin "int.bit_length") [.int i] (.int (Builtin.Int.intBits i)) := fun G s vs on gl r => by
  obtain ⟨_, _, rfl, r1, r2⟩ := r.inv
  · (first | obtain rfl := r2.inv0 | obtain ⟨_, rfl⟩ := r2.inv | obtain rfl := r2.inv | cases r2); (first | obtain rfl := r1.inv0 | obtain ⟨_, rfl⟩ := r1.inv | obtain rfl := r1.inv | cases r1)
    exact call_int_bit_length ⟨G, Grow.toks on _, .int _ _⟩
end
end Mine
end


/-! part B7 -/
section
open PySem PySem.W PyProof.Rows PySem.Calls PySem.Spec
set_option Elab.async false
set_option linter.unusedVariables false
set_option maxRecDepth 100000
namespace Mine
def Quiet (o : Obj) : Prop := ∃ n, o.cls = .type n ∧ ["enumerate", "zip", "dict_itemiterator", "dict_reverseitemiterator", "odict_iterator", "itertools.zip_longest", "itertools.pairwise"].contains n = false
/-- an iterator I stands, it will hand on the data ds -/
structure SrcAt (c : Cx) (A : Around) (G : Gh) (s : Shared) (I : Addr) (ds : List D) (s₂ : Shared) (fp : List Addr) (P : Nat → Value → Prop) (St : Nat → Heap → Prop) : Prop where
  keep : Keeps s s₂
  fresh : s.heap.get? I = none
  W : Walks c.prog c.w A I fp [I] ds.length P St
  st : St 0 s₂.heap
  alive : ∀ i h, St i h → ∃ o, h.get? I = some o ∧ Quiet o
  fpG : ∀ b ∈ fp, b ≠ I → ∃ o, G b o
  nd : ∀ i h, St i h → ∀ b ∈ fp, ∀ o, h.get? b = some o → soft o = false
  val : ∀ i v, P i v → ∀ G' : Gh, (∀ a o, G a o → G' a o) → ∃ d, ds[i]? = some d ∧ Rep G' v d
def Iter (c : Cx) (A : Around) (G : Gh) (s : Shared) (xv : Value) (ds : List D) : Prop :=
  ∀ (Q E : Value → Shared → Prop), (∀ I s₂ fp P St, SrcAt c A G s I ds s₂ fp P St → Q (.ref I) s₂) → wpAny (model c.prog c.w) A (pyIter xv) Q E s
section
variable {c : Cx} {A : Around} {G : Gh} {s : Shared}
theorem wp_letOwned {target : Expr} {I : Addr} {v : Value} {Q : Unit → Shared → Prop} {E : Value → Shared → Prop} {M : Model} (h : ∃ o, s.heap.get? I = some o ∧ Quiet o) (hQ : Q () s) : wpAny M A (letOwnedTupleGo target (.ref I) v) Q E s := by
  obtain ⟨o, ho, n, hc, hn⟩ := h
  unfold letOwnedTupleGo
  split
  · cases v <;> first
      | exact wpAny_pure hQ
      | (refine wpAny_bind (wpAny_load ho ?_)
         rw [hc]
         cases hd : o.data <;> first
           | exact wpAny_pure hQ
           | (dsimp only; rw [hn]; exact wpAny_pure hQ))
  · cases v <;> first
      | exact wpAny_pure hQ
      | (refine wpAny_bind (wpAny_load ho ?_)
         rw [hc]
         cases hd : o.data <;> first
           | exact wpAny_pure hQ
           | (dsimp only; rw [hn]; exact wpAny_pure hQ))
  · exact wpAny_pure hQ
theorem iter_lst {v : Value} {ds : List D} (hh : A.handled = none) (on : OnG c G s) (r : Rep G v (.lst ds)) : Iter c A G s v ds := fun Q E h => by
  obtain ⟨a, vs, n, rfl, g, r⟩ := r.inv
  · have ho := on.at g rfl
    have hl : s.heap.IsList a vs.toArray := ⟨_, ho, rfl, _, rfl⟩
    have hne : a ≠ s.heap.objs.size := Nat.ne_of_lt (Heap.lt_size ho)
    refine wpAny_pyIter_list hl ?_
    have W := Walks.list (prog := c.prog) (w := c.w) hh s.heap.objs.size a hne vs.toArray
    rw [show vs.toArray.size = ds.length by simp [r.length]] at W
    refine h s.heap.objs.size _ [s.heap.objs.size, a] (fun i v => vs.toArray[i]? = some v) (fun i h => h.IsListIter s.heap.objs.size a i ∧ h.IsList a vs.toArray)
      { keep := ⟨_, _, rfl, fun _ _ e => Heap.get?_push_of_some _ e⟩, fresh := heap_size_none _, W := W, st := ⟨⟨_, Heap.get?_push_size _ rfl, rfl, rfl⟩, hl.push _⟩, alive := fun i h st => ?_, fpG := fun b hb hI => ?_, nd := fun i h st b hb o e => ?_, val := fun i v hv G' hG => ?_ }
    · obtain ⟨o, e, hc, hd⟩ := st.1
      exact ⟨o, e, _, hc, by decide⟩
    · rcases List.mem_cons.mp hb with e | hb
      · exact absurd e hI
      · rw [List.mem_singleton.mp hb]; exact ⟨_, g⟩
    · rcases List.mem_cons.mp hb with q | hb
      · obtain ⟨o', e', hc, hd⟩ := st.1
        rw [q, e'] at e; cases e
        unfold soft isD isT; rw [hd, hc]; rfl
      · rw [List.mem_singleton.mp hb] at e
        obtain ⟨o', e', hc, n', hd⟩ := st.2
        rw [e'] at e; cases e
        unfold soft isD isT; rw [hd, hc]; rfl
    · obtain ⟨d, hd, rd⟩ := r.get' (k := i) (v := v) (by simpa using hv)
      exact ⟨d, hd, rd.mono hG⟩
def rngD (a b : Int) : List D := (List.range (b - a).toNat).map fun (k : Nat) => D.int (a + k)
theorem iter_rng {v : Value} {a b : Int} (hh : A.handled = none) (on : OnG c G s) (r : Rep G v (.rng a b)) (ha : a.natAbs ≤ 2 ^ 40) (hb : b.natAbs ≤ 2 ^ 40) : Iter c A G s v (rngD a b) := fun Q E h => by
  cases r with
  | @rng r _ _ t u w' g =>
    have hr : IsRange s.heap r a b 1 t u w' := on.at g rfl
    have hsz : Builtin.Range.rangeSize a b 1 = ((b - a).toNat : Int) := by
      rw [rangeSize_one]; split <;> (first | assumption | exact Int.natCast_nonneg _ | exact Nat.zero_le _ | exact Nat.le_refl _ | decide | exact Nat.le_trans (by assumption) (by decide) | lia)
    have hsm : Builtin.Range.small a b 1 = true := by
      unfold Builtin.Range.small
      rw [hsz]
      unfold Builtin.Range.rangeFitsLong
      simp only [Bool.and_eq_true, Bool.or_eq_true, decide_eq_true_eq, show (1 : Int) > 0 by decide, if_true]
      (first | assumption | exact Int.natCast_nonneg _ | exact Nat.zero_le _ | exact Nat.le_refl _ | decide | exact Nat.le_trans (by assumption) (by decide) | lia)
    refine wpAny_pyIter_range hr hsm ?_
    rw [hsz]
    have W := (Walks.range (prog := c.prog) (w := c.w) hh s.heap.objs.size a 1 (b - a).toNat).bound
    have hL : (b - a).toNat = (rngD a b).length := by simp [rngD]
    refine h s.heap.objs.size _ [s.heap.objs.size] (fun i v => i < (b - a).toNat ∧ ∃ t, v = .int (a + i * 1) t) (fun i h => IsRangeIter h s.heap.objs.size (a + (i : Nat) * 1) (((b - a).toNat : Int) - (i : Nat)) 1)
      { keep := ⟨_, _, rfl, fun _ _ e => Heap.get?_push_of_some _ e⟩, fresh := heap_size_none _, W := hL ▸ W, st := ?_, alive := fun i h st => ⟨_, st, _, rfl, by decide⟩, fpG := fun b hb hI => absurd (List.mem_singleton.mp hb) hI, nd := fun i h st b hb o e => (by rw [List.mem_singleton.mp hb] at e; rw [show h.get? _ = some _ from st] at e; cases e; rfl), val := fun i v hv G' hG => ?_ }
    · show IsRangeIter _ _ _ _ _
      simpa using Heap.get?_push_size _ rfl
    · obtain ⟨hi, t, rfl⟩ := hv
      refine ⟨.int (a + i), ?_, ?_⟩
      · simp [rngD, hi]
      · rw [show a + (i : Int) * 1 = a + i by (first | assumption | exact Int.natCast_nonneg _ | exact Nat.zero_le _ | exact Nat.le_refl _ | decide | exact Nat.le_trans (by assumption) (by decide) | lia)]; exact .int _ _
theorem iter_str {v : Value} {x : List Nat} (hh : A.handled = none) (on : OnG c G s) (r : Rep G v (.str x)) : Iter c A G s v (x.map fun n => D.str [n]) := fun Q E h => by
  (first | obtain rfl := r.inv0 | obtain ⟨_, rfl⟩ := r.inv | obtain rfl := r.inv | cases r)
  rename_i t
  have hsz : (S x).cps.size = (x.map fun n => D.str [n]).length := by simp
  have go : ∀ (T : String) (St : Nat → Heap → Prop), (∀ A' : Around, A'.handled = none → Walks c.prog c.w A' s.heap.objs.size [s.heap.objs.size] [s.heap.objs.size] (S x).cps.size (SignAt (S x)) St) →
      (∀ i h, St i h → h.IsStrIter s.heap.objs.size T (S x) t i) → (∀ h : Heap, h.IsStrIter s.heap.objs.size T (S x) t 0 → St 0 h) → ["enumerate", "zip", "dict_itemiterator", "dict_reverseitemiterator", "odict_iterator", "itertools.zip_longest", "itertools.pairwise"].contains T = false →
      Q (.ref s.heap.objs.size) { s with heap := s.heap.push { cls := .type T, data := .fields #[.str (S x) t, .int 0 0] } } := by
    intro T St W alive st0 hT
    refine h s.heap.objs.size _ [s.heap.objs.size] (SignAt (S x)) St
      { keep := ⟨_, _, rfl, fun _ _ e => Heap.get?_push_of_some _ e⟩, fresh := heap_size_none _, W := hsz ▸ W A hh, st := st0 _ ⟨_, Heap.get?_push_size _ rfl, rfl, rfl⟩, alive := fun i h st => ?_, fpG := fun b hb hI => absurd (List.mem_singleton.mp hb) hI, nd := fun i h st b hb o e => (by
          obtain ⟨o', ho, hc, hd⟩ := alive i h st
          rw [List.mem_singleton.mp hb, ho] at e; cases e
          unfold soft isD isT; rw [hd, hc]; rfl), val := fun i v hv G' hG => ?_ }
    · obtain ⟨o, ho, hc, _⟩ := alive i h st
      exact ⟨o, ho, _, hc, hT⟩
    · obtain ⟨k, u, hk, rfl⟩ := hv
      have hk' : x[i]? = some k := by simpa using hk
      exact ⟨.str [k], by simp [hk'], .str [k] u⟩
  cases ha : (S x).cps.all (· < 128)
  · exact wpAny_pyIter_wide ha (go "str_iterator" _ (fun A' hA => Walks.strWide hA _ (S x) t) (fun i h st => st) (fun h st => st) (by decide))
  · exact wpAny_pyIter_ascii ha (go "str_ascii_iterator" _ (fun A' hA => Walks.strAscii hA _ (S x) t) (fun i h st => st) (fun h st => st) (by decide))
end
end Mine
end


/-! part B8 -/
section
open PySem PySem.W PyProof.Rows PySem.Calls PySem.Spec
set_option Elab.async false
set_option linter.unusedVariables false
set_option maxRecDepth 100000
namespace Mine
/-- a target binds a datum's names in the frame own -/
structure Bnd (c : Cx) (A : Around) (cenv : Env) (target : Expr) (own : List Addr) (J : Heap → Prop) (okd : D → Prop) (bs : D → Sig) : Prop where
  stay : ∀ h h', J h → (∀ b ∈ own, ∀ o, h.get? b = some o → Has h' b o) → J h'
  alive : ∀ h, J h → ∀ b ∈ own, ∃ o, h.get? b = some o
  bind : ∀ (s : Shared) (v : Value) (d : D) (G : Gh) (Q : Unit → Shared → Prop) (E : Value → Shared → Prop), J s.heap → OnG c G s → (∀ b ∈ own, ∀ o, ¬ G b o) → Rep G v d → okd d →
    (∀ h' tk, (∀ b o, b ∉ own → s.heap.get? b = some o → h'.get? b = some o) → J h' → Sc cenv G h' (bs d) → Q () { s with heap := h', toks := tk }) → wpAny (model c.prog c.w) A (assign target cenv v) Q E s

theorem sc_append {env : Env} {G : Gh} {h : Heap} {σ τ : Sig} (x : Sc env G h σ) (y : Sc env G h τ) : Sc env G h (σ ++ τ) := fun n sl e => by
  rw [List.lookup_append] at e
  cases q : List.lookup n σ with
  | none => rw [q] at e; exact y n sl (by simpa using e)
  | some r => rw [q] at e; simp at e; subst e; exact x n r q
theorem Sc.keeps {env : Env} {G G' : Gh} {h h' : Heap} {σ : Sig} (x : Sc env G h σ) (k : Kh h h') (g : ∀ a o, G a o → G' a o) : Sc env G' h' σ := fun y sl e => by
  obtain ⟨v, r, q⟩ := x y sl e
  exact ⟨v, r.keeps k, q.keeps k g⟩

section
variable {c : Cx} {A : Around} {G : Gh} {s : Shared}
/-- comprehension loop, own version: the target may be a tuple -/
theorem compLoop_tests {R : Result → Shared → Prop} {prog : Program} {w : World} {elt target iter : Expr} {ifs : List Expr} {scope : Scope} {pos : Pos} {I : Addr} {acc : Value} {env : Env} (Inv : Nat → Shared → Prop)
    (turn : ∀ n s, Inv n s → wpAny (model prog w) A (pyNext (.ref I)) (fun r s₁ => match r with
      | none => R (.ok .next) s₁
      | some v => (∃ o, s₁.heap.get? I = some o ∧ Quiet o) ∧ wpAny (model prog w) A (assign target env v) (fun _ s₂ =>
          wpAny (model prog w) A (forIn ifs true fun c r => if r = true then do let ok ← isTrue c env (eval c env); pure (ForInStep.yield ok) else pure (ForInStep.yield r)) (fun ok s₃ =>
            if ok = true then wpAny (model prog w) A (eval elt env) (fun x s₄ =>
              wpAny (model prog w) A (call (.builtin "list.append") [acc, x]) (fun _ s₅ => ∃ m, m < n ∧ Inv m s₅) (fun _ _ => False) s₄) (fun _ _ => False) s₃
            else ∃ m, m < n ∧ Inv m s₃) (fun _ _ => False) s₂) (fun _ _ => False) s₁) (fun _ _ => False) s)
    (n : Nat) (s : Shared) (h : Inv n s) :
    codeAny (model prog w) A (.compLoop (.ListComp elt [⟨target, iter, ifs, 0⟩] scope pos) 0 (.ref I) acc env) R s := by
  refine codeAny_loop rfl Inv (fun n s hI => ?_) n h
  show wpAny _ A ((compTurn (.ListComp elt [⟨target, iter, ifs, 0⟩] scope pos) 0 (.ref I) acc env).onRaise (fun x => do noteFrame x env; theTreesLotGoes x)) _ _ s
  refine wpAny_noted ?_
  rw [compTurn_list]
  refine wpAny_bind (wpAny_standAt (wpAny_bind (wpAny_mono (turn n s hI) (fun r s₁ h₁ => ?_) fun _ _ h' => h'.elim)))
  cases r with
  | none => exact wpAny_pure h₁
  | some v =>
    refine wpAny_bind (wp_letOwned h₁.1 ?_)
    refine wpAny_bind (wpAny_mono h₁.2 (fun _ s₂ h₂ => wpAny_bind (wpAny_mono h₂ (fun ok s₃ h₃ => ?_) fun _ _ h' => h'.elim)) fun _ _ h' => h'.elim)
    cases ok with
    | false => exact wpAny_pure ⟨rfl, h₃⟩
    | true =>
      exact wpAny_bind (wpAny_bind (wpAny_mono h₃ (fun x s₄ h₄ => wpAny_bind (wpAny_mono h₄ (fun _ s₅ h₅ => wpAny_pure (wpAny_pure ⟨rfl, h₅⟩)) fun _ _ h' => h'.elim)) fun _ _ h' => h'.elim))

/-- the tests of a comprehension's clause -/
def Tests (c : Cx) (A : Around) (env : Env) (σ : Sig) (ifs : List Expr) (b : Bool) : Prop := ∀ G s, Ok c A env σ G s →
  wpAny (model c.prog c.w) A (forIn ifs true fun c r => if r = true then do let ok ← isTrue c env (eval c env); pure (ForInStep.yield ok) else pure (ForInStep.yield r)) (fun ok s' => ok = b ∧ ∃ G', Grow c G s G' s') (fun _ _ => False) s
theorem tests_nil {env : Env} {σ : Sig} : Tests c A env σ [] true := fun G s ok => wpAny_tests_nil ⟨rfl, G, Grow.refl ok.sub⟩
theorem tests_one {env : Env} {σ : Sig} {e : Expr} {b : Bool} (h : Tr c A env σ e b) : Tests c A env σ [e] b := fun G s ok => wpAny_tests_one (h.use ok fun G' s' g => ⟨rfl, G', g⟩)

theorem take_succ_out {ds : List D} {p : D → Bool} {f : D → D} {i : Nat} {d : D} (h : ds[i]? = some d) : (((ds.take (i + 1)).filter p).map f) = ((ds.take i).filter p).map f ++ (if p d then [f d] else []) := by
  rw [take_succ_filter p ds i d h, List.map_append]
  cases p d <;> simp

/-- a change at addresses that are nobody's -/
theorem chg {Gi : Gh} {h h' : Heap} {tk tk' : Nat} {T : Addr → Prop} (on0 : OnG c G s) (gl : c.Gl A s.heap) (on : OnG c Gi { s with heap := h, toks := tk }) (kp : Kp c s { s with heap := h, toks := tk }) (hk : ∀ b o, ¬ T b → h.get? b = some o → h'.get? b = some o) (hT : ∀ b, T b → s.heap.get? b = none ∧ ∀ o, ¬ Gi b o) :
    OnG c Gi { s with heap := h', toks := tk' } ∧ Kp c s { s with heap := h', toks := tk' } :=
  ⟨on.off (fun a o e o' => hk a o' fun q => (hT a q).2 o e) fun q hq a ha o' => hk a o' fun z => on0.tabSome hq ha (hT a z).1, kp.off gl.stays fun b o hb e => hk b o (fun q => hb (hT b q).1) e⟩
/-- what stands in the loop -/
structure LI (c : Cx) (G : Gh) (s : Shared) (I Dd : Addr) (own : List Addr) (J : Heap → Prop) (St : Nat → Heap → Prop) (i : Nat) (h : Heap) (tk : Nat) (ys : List Value) (n : Nat) (Gi : Gh) : Prop where
  st : St i h
  j : J h
  d : h.get? Dd = some (lstObj ys n)
  g1 : ∀ a o, G a o → Gi a o
  on : OnG c Gi { s with heap := h, toks := tk }
  g3 : ∀ a o, Gi a o → G a o ∨ s.heap.get? a = none
  gD : ∀ o, ¬ Gi Dd o
  gI : ∀ o, ¬ Gi I o
  gO : ∀ b ∈ own, ∀ o, ¬ Gi b o
  kp : Kp c s { s with heap := h, toks := tk }
section
variable {cenv : Env} {target : Expr} {own : List Addr} {J : Heap → Prop} {okd : D → Prop} {bs : D → Sig} {I Dd : Addr} {ds : List D} {s₂ : Shared} {fp : List Addr} {P : Nat → Value → Prop} {St : Nat → Heap → Prop} {i n : Nat} {h h' : Heap} {tk tk' : Nat} {ys : List Value} {Gi G' : Gh}
theorem not_add {s s' : Shared} {b : Addr} {o' : Obj} (g : Grow c Gi s G' s') (hb : s.heap.get? b = some o') (hn : ∀ o, ¬ Gi b o) : ∀ o, ¬ G' b o := fun o e => (g.new b o e).elim (hn o) fun q => by rw [q] at hb; cases hb
theorem LI.grow (B : Bnd c A cenv target own J okd bs) (Sr : SrcAt c A G s I ds s₂ fp P St) (x : LI c G s I Dd own J St i h tk ys n Gi) (g : Grow c Gi { s with heap := h, toks := tk } G' { s with heap := h', toks := tk' }) : LI c G s I Dd own J St i h' tk' ys n G' where
  st := Sr.W.frame _ _ _ x.st fun b hb o e => g.keep.kh.get e (Sr.nd _ _ x.st b hb o e)
  j := B.stay _ _ x.j fun b _ o e => g.keep.kh b o e
  d := g.keep.kh.get x.d rfl
  g1 := fun a o e => g.sub _ _ (x.g1 a o e)
  on := g.on
  g3 := fun a o e => (g.new a o e).elim (x.g3 a o) fun q => .inr (x.kp.kh.none q)
  gD := not_add g x.d x.gD
  gI := (Sr.alive _ _ x.st).elim fun _ q => not_add g q.1 x.gI
  gO := fun b hb => (B.alive _ x.j b hb).elim fun _ q => not_add g q (x.gO b hb)
  kp := x.kp.trans g.keep
end
theorem take_snoc {ds : List D} {p : D → Bool} {f : D → D} {i : Nat} {d : D} {G' : Gh} {ys : List Value} {y : Value} (h : ds[i]? = some d) (hp : p d = true) (r : RepAll G' ys (((ds.take i).filter p).map f)) (ry : Rep G' y (f d)) : RepAll G' (ys ++ [y]) (((ds.take (i + 1)).filter p).map f) := by
  rw [take_succ_out h, if_pos hp]; exact r.append (.one ry)
theorem take_skip {ds : List D} {p : D → Bool} {f : D → D} {i : Nat} {d : D} {G' : Gh} {ys : List Value} (h : ds[i]? = some d) (hp : p d = false) (r : RepAll G' ys (((ds.take i).filter p).map f)) : RepAll G' ys (((ds.take (i + 1)).filter p).map f) := by
  rw [take_succ_out h, hp, if_neg Bool.false_ne_true, List.append_nil]; exact r
set_option maxHeartbeats 1000000 in
theorem comp_loop {R : Result → Shared → Prop} {cenv : Env} {target elt iter : Expr} {ifs : List Expr} {scope : Scope} {pos : Pos} {own : List Addr} {J : Heap → Prop} {okd : D → Prop} {bs : D → Sig} {σc : Sig} {I Dd : Addr} {ds : List D} {s₂ : Shared} {fp : List Addr} {P : Nat → Value → Prop} {St : Nat → Heap → Prop} {H : Heap} {tk : Nat} (p : D → Bool) (f : D → D)
    (B : Bnd c A cenv target own J okd bs) (Sr : SrcAt c A G s I ds s₂ fp P St) (on : OnG c G s) (gl : c.Gl A s.heap) (hsc : Sc cenv G s.heap σc)
    (hk0 : ∀ b o, s₂.heap.get? b = some o → H.get? b = some o) (hD0 : s₂.heap.get? Dd = none) (hown : ∀ b ∈ own, s₂.heap.get? b = none) (hDo : Dd ∉ own) (hJ : J H) (hD : H.get? Dd = some (lstObj [] 0))
    (hsz : ds.length ≤ sizeLine) (hokd : ∀ d ∈ ds, okd d)
    (htests : ∀ d ∈ ds, Tests c A cenv (bs d ++ σc) ifs (p d)) (helt : ∀ d ∈ ds, p d = true → Ev c A cenv (bs d ++ σc) elt (f d))
    (hR : ∀ h tk G' ys n, Kp c s { s with heap := h, toks := tk } → J h → h.get? Dd = some (lstObj ys n) → RepAll G' ys ((ds.filter p).map f) → (∀ a o, G a o → G' a o) → OnG c G' { s with heap := h, toks := tk } → (∀ a o, G' a o → G a o ∨ s.heap.get? a = none) → (∀ o, ¬ G' Dd o) → (∀ b ∈ own, ∀ o, ¬ G' b o) →
      R (.ok .next) { s with heap := h, toks := tk }) :
    codeAny (model c.prog c.w) A (.compLoop (.ListComp elt [⟨target, iter, ifs, 0⟩] scope pos) 0 (.ref I) (.ref Dd) cenv) R { s with heap := H, toks := tk } := by
  obtain ⟨hS, tS, rfl, ks⟩ := id Sr.keep
  obtain ⟨oI, hoI, _⟩ := Sr.alive _ _ Sr.st
  have hIn : ∀ o, ¬ G I o := fun o e => on.ne e Sr.fresh
  have hIown : I ∉ own := fun q => by rw [hown _ q] at hoI; cases hoI
  have hID : I ≠ Dd := fun q => by rw [q, hD0] at hoI; cases hoI
  have hsn : ∀ b, hS.get? b = none → s.heap.get? b = none := fun b q => (Kh.of ks).none q
  have hfpown : ∀ b ∈ fp, b ∉ own := fun b hb q => by
    by_cases e : b = I
    · exact hIown (e ▸ q)
    · exact (Sr.fpG b hb e).elim fun o g => on.ne g (hsn b (hown b q))
  have hfpD : Dd ∉ fp := fun q => (Sr.fpG _ q (Ne.symm hID)).elim fun o g => on.ne g (hsn _ hD0)
  refine compLoop_tests
    (fun k s' => ∃ h' tk i ys n Gi, s' = { s with heap := h', toks := tk } ∧ i ≤ ds.length ∧ k = ds.length + 1 - i ∧ ys.length ≤ i ∧ RepAll Gi ys (((ds.take i).filter p).map f) ∧ LI c G s I Dd own J St i h' tk ys n Gi) ?_ (ds.length + 1) _
    ⟨H, tk, 0, [], 0, G, rfl, Nat.zero_le _, rfl, Nat.le_refl _, .nil, ⟨Sr.W.frame _ _ _ Sr.st fun b _ o e => hk0 b o e, hJ, hD, fun _ _ e => e, on.keeps ⟨H, tk, rfl, fun b o e => hk0 _ _ (ks _ _ e)⟩ (fun _ _ e => e) fun _ _ e => .inl e, fun _ _ e => .inl e,
      fun o e => on.ne e (hsn _ hD0), hIn, fun b hb o e => on.ne e (hsn _ (hown b hb)), .of ⟨H, tk, rfl, fun b o e => hk0 _ _ (ks _ _ e)⟩⟩⟩
  rintro k s' ⟨h', tk', i, ys, n, Gi, rfl, hi, rfl, hyl, hR', x⟩
  by_cases hlt : i < ds.length
  · refine Sr.W.item i _ _ _ hlt x.st fun v h₁ tk₁ hPv hst₁ hk₁ => ?_
    have hk₁' : ∀ b o, ¬ b = I → h'.get? b = some o → h₁.get? b = some o := fun b o hb e => hk₁ b o (fun q => hb (List.mem_singleton.mp q)) e
    obtain ⟨d, hd, rd⟩ := Sr.val i v hPv Gi x.g1
    have hdm : d ∈ ds := List.mem_of_getElem? hd
    have c₁ := chg (tk' := tk₁) on gl x.on x.kp hk₁' fun b q => ⟨q ▸ Sr.fresh, q ▸ x.gI⟩
    have hJ₁ : J h₁ := B.stay _ _ x.j fun b hb o e => .of (hk₁' b o (fun q => hIown (q ▸ hb)) e)
    refine ⟨Sr.alive _ _ hst₁, B.bind _ v d Gi _ _ hJ₁ c₁.1 x.gO rd (hokd d hdm) fun h₂ tk₂ hk₂ hJ₂ hsc₂ => ?_⟩
    have c₂ := chg (tk' := tk₂) on gl c₁.1 c₁.2 hk₂ fun b q => ⟨hsn _ (hown _ q), x.gO b q⟩
    have x₂ : LI c G s I Dd own J St (i + 1) h₂ tk₂ ys n Gi := ⟨Sr.W.frame _ _ _ hst₁ fun b hb o e => hk₂ b o (hfpown b hb) e, hJ₂, hk₂ _ _ hDo (hk₁' _ _ (Ne.symm hID) x.d), x.g1, c₂.1, x.g3, x.gD, x.gI, x.gO, c₂.2⟩
    have ok₂ : Ok c A cenv (bs d ++ σc) Gi { s with heap := h₂, toks := tk₂ } := ⟨c₂.1, gl.grow c₂.2, sc_append hsc₂ (hsc.keeps c₂.2.kh x.g1)⟩
    clear hk₁' hk₁ hk₂ c₁ c₂ hJ₁ hJ₂ hst₁ hPv
    refine wpAny_mono (htests d hdm Gi _ ok₂) (fun ok s₃ h₃ => ?_) fun _ _ x => x.elim
    obtain ⟨rfl, G₃, g₃⟩ := h₃
    obtain ⟨h₃, tk₃, rfl⟩ := id g₃.keep.same
    have x₃ := x₂.grow B Sr g₃
    cases hp : p d with
    | false =>
      simp only [Bool.false_eq_true, if_false]
      exact ⟨ds.length + 1 - (i + 1), by (first | assumption | exact Int.natCast_nonneg _ | exact Nat.zero_le _ | exact Nat.le_refl _ | decide | exact Nat.le_trans (by assumption) (by decide) | lia), h₃, tk₃, i + 1, ys, n, G₃, rfl, hlt, rfl, Nat.le_succ_of_le hyl, take_skip hd hp (hR'.mono g₃.sub), x₃⟩
    | true =>
      simp only [if_true]
      refine (helt d hdm hp G₃ _ (ok₂.grow g₃)).use fun y G₄ s₄ g₄ r₄ => ?_
      obtain ⟨h₄, tk₄, rfl⟩ := id g₄.keep.same
      have x₄ := x₃.grow B Sr g₄
      refine append_at (its := ys.toArray) (n := n) x₄.d (fun h₅ hs₅ hD₅ => ?_) (by simp; (first | assumption | exact Int.natCast_nonneg _ | exact Nat.zero_le _ | exact Nat.le_refl _ | decide | exact Nat.le_trans (by assumption) (by decide) | lia))
      have hk₅ : ∀ b o, ¬ b = Dd → h₄.get? b = some o → h₅.get? b = some o := fun b o hb e => hs₅.extBut b o hb e
      have c₅ := chg (tk' := tk₄) on gl x₄.on x₄.kp hk₅ fun b q => ⟨q ▸ hsn _ hD0, q ▸ x₄.gD⟩
      refine ⟨ds.length + 1 - (i + 1), by (first | assumption | exact Int.natCast_nonneg _ | exact Nat.zero_le _ | exact Nat.le_refl _ | decide | exact Nat.le_trans (by assumption) (by decide) | lia), h₅, tk₄, i + 1, ys ++ [y], n + 1, G₄, rfl, hlt, rfl, by simp; (first | assumption | exact Int.natCast_nonneg _ | exact Nat.zero_le _ | exact Nat.le_refl _ | decide | exact Nat.le_trans (by assumption) (by decide) | lia), take_snoc hd hp (hR'.mono fun a o e => g₄.sub _ _ (g₃.sub _ _ e)) r₄, ⟨?_, ?_, ?_, x₄.g1, c₅.1, x₄.g3, x₄.gD, x₄.gI, x₄.gO, c₅.2⟩⟩
      · exact Sr.W.frame _ _ _ x₄.st fun b hb o e => hk₅ b o (fun q => hfpD (q ▸ hb)) e
      · exact B.stay _ _ x₄.j fun b hb o e => .of (hk₅ b o (fun q => hDo (q ▸ hb)) e)
      · rw [hD₅]; simp
  · obtain rfl : i = ds.length := Nat.le_antisymm hi (Nat.not_lt.mp hlt)
    refine Sr.W.done _ _ _ x.st fun h₁ tk₁ hk₁ => ?_
    have hk₁' : ∀ b o, ¬ b = I → h'.get? b = some o → h₁.get? b = some o := fun b o hb e => hk₁ b o (fun q => hb (List.mem_singleton.mp q)) e
    have c₁ := chg (tk' := tk₁) on gl x.on x.kp hk₁' fun b q => ⟨q ▸ Sr.fresh, q ▸ x.gI⟩
    rw [List.take_length] at hR'
    exact hR h₁ tk₁ Gi ys n c₁.2 (B.stay _ _ x.j fun b hb o e => .of (hk₁' b o (fun q => hIown (q ▸ hb)) e)) (hk₁' _ _ (Ne.symm hID) x.d) hR' x.g1 c₁.1 x.g3 x.gD x.gO
end
end Mine
end


/-! part B9 -/
section
open PySem PySem.W PyProof.Rows PySem.Calls PySem.Spec
set_option Elab.async false
set_option linter.unusedVariables false
set_option maxRecDepth 100000
namespace Mine
/-- a comprehension's frame -/
def cE (scope : Scope) (cl : List (Str × Addr)) (C : Addr) (env : Env) : Env :=
  { scope := relabel scope env, locals := C, globals := env.globals, cells := cellsFrom (C + 1) scope.names cl, qual := env.qual, func := none, code := env.code, frame := env.frame, builtins := env.builtins }
theorem cE_ok {scope : Scope} {cl : List (Str × Addr)} {C : Addr} {env : Env} (h : EnvOk env) (hk : scope.kind = .function) : EnvOk (cE scope cl C env) := ⟨hk, h.glob, h.built⟩
section
variable {c : Cx} {A : Around} {G : Gh} {s : Shared} {env : Env} {σ : Sig}
theorem wp_compEnv {M : Model} {E : Value → Shared → Prop} {scope : Scope} {g : Addr} {cl : List (Str × Addr)} {qual : Str} {Q : Env → Shared → Prop}
    (h : Q { scope := scope, locals := s.heap.objs.size, globals := g, cells := cellsFrom (s.heap.objs.size + 1) scope.names cl, qual := qual, func := none, code := env.code, frame := env.frame, builtins := env.builtins }
      { s with heap := pushCells (s.heap.push { cls := .type "dict", data := .dict #[] }) scope.names }) :
    wpAny M A (newFunctionEnv scope g cl [] qual none .none (some env)) Q E s := by
  simp only [newFunctionEnv, Option.isSome_some, if_true]
  refine wpAny_bind (wpAny_alloc ?_)
  refine wpAny_bind (wpAny_layCells _ (fun name kind cells => by cases hkc : kind == NameKind.cell <;> simp [hkc]) _ _ _ _ ?_)
  rw [show ({ s with heap := s.heap.push { cls := .type "dict", data := .dict #[] } } : Shared).heap.objs.size = s.heap.objs.size + 1 from Heap.size_push ..]
  refine wpAny_bind ?_
  rw [List.forIn_nil]
  exact wpAny_pure (wpAny_pure h)

/-- data that an iterator of d hands on -/
def ItD (c : Cx) (A : Around) (d : D) (ds : List D) : Prop := ∀ G s v, OnG c G s → Rep G v d → Iter c A G s v ds
theorem itd_lst {ds : List D} (hh : A.handled = none) : ItD c A (.lst ds) ds := fun G s v on r => iter_lst hh on r
theorem itd_rng {a b : Int} (hh : A.handled = none) (ha : a.natAbs ≤ 2 ^ 40) (hb : b.natAbs ≤ 2 ^ 40) : ItD c A (.rng a b) (rngD a b) := fun G s v on r => iter_rng hh on r ha hb
theorem itd_str {x : List Nat} (hh : A.handled = none) : ItD c A (.str x) (x.map fun n => D.str [n]) := fun G s v on r => iter_str hh on r

theorem sc_nil {G : Gh} {h : Heap} : Sc env G h [] := fun x sl e => nomatch e
theorem sc_cons {G : Gh} {h : Heap} {n : Str} {sl : Sl} {τ : Sig} (x : Rd env G h n sl) (y : Sc env G h τ) : Sc env G h ((n, sl) :: τ) := fun m sl' e => by
  rw [List.lookup_cons] at e
  cases q : m == n with
  | true => rw [q] at e; cases e; rw [beq_iff_eq.mp q]; exact x
  | false => rw [q] at e; exact y m sl' e
/-- a captured name reads as it does around -/
theorem cap_rd {scope : Scope} {cl : List (Str × Addr)} {C : Addr} {G : Gh} {h : Heap} {n : Str} {sl : Sl} (r : Rd env G h n sl) (hk : env.kindOf n = some .cell ∨ env.kindOf n = some .free) (hk' : (cE scope cl C env).kindOf n = env.kindOf n)
    (hc : (cellsFrom (C + 1) scope.names cl).lookup n = env.cells.lookup n) : Rd (cE scope cl C env) G h n sl := by
  obtain ⟨v, r, q⟩ := r
  refine ⟨v, ?_, q⟩
  cases r with
  | loc a b d => rcases hk with hk | hk <;> rw [hk] at a <;> cases a
  | cell a b d => exact .cell (hk'.trans a) (hc.trans b) d
  | free a b d e => exact .free (hk'.trans a) (hc.trans b) d e

/-- the frames that a comprehension's target binds in -/
def BndC (c : Cx) (A : Around) (env : Env) (scope : Scope) (cl : List (Str × Addr)) (target : Expr) (okd : D → Prop) (bs : D → Sig) : Prop :=
  ∀ (h : Heap), ∃ own J, Bnd c A (cE scope cl h.objs.size env) target own J okd bs ∧ J (pushCells (h.push { cls := .type "dict", data := .dict #[] }) scope.names) ∧ (∀ b ∈ own, h.objs.size ≤ b) ∧ h.objs.size ∈ own ∧ ∀ h', J h' → ∃ m, h'.Ns h.objs.size m

theorem ns_keeps' {h h' : Heap} {a : Addr} {m : Str → Option Value} (x : h.Ns a m) (k : ∀ o, h.get? a = some o → Has h' a o) : h'.Ns a m := by
  obtain ⟨o, es, ep, ho, hd, r⟩ := x
  obtain ⟨o', e', q⟩ := k _ ho
  exact ⟨o', es, ep, e', (q.data (isT_data fun vs z => by rw [hd] at z; cases z)).trans hd, r⟩
theorem bnd_name {scope : Scope} {cl : List (Str × Addr)} {x : Str} {px : Pos} (hE : EnvOk env) (hk : scope.kind = .function) (hx : (relabel scope env).names.lookup x = some .local) : BndC c A env scope cl (.Name x px) (fun _ => True) (fun d => [(x, .val d)]) := fun h => by
  refine ⟨[h.objs.size], fun h' => ∃ m, h'.Ns h.objs.size m, ⟨fun a b ⟨m, hm⟩ k => ⟨m, ns_keeps' hm (k _ (List.mem_singleton.mpr rfl))⟩, fun a ⟨m, hm⟩ b hb => ?_, fun s v d G Q E ⟨m, hm⟩ on hG r _ hQ => ?_⟩, ?_, fun b hb => by rw [List.mem_singleton.mp hb]; exact Nat.le_refl _, List.mem_singleton.mpr rfl, fun h' x => x⟩
  · rw [List.mem_singleton.mp hb]
    obtain ⟨o, _, _, ho, _⟩ := hm
    exact ⟨o, ho⟩
  · refine wpAny_assign_Name (wpAny_storeName_local hx hm (fun h₂ hn₂ hs₂ => ?_) (by simp [cE, relabel, hk]))
    refine hQ h₂ _ (fun b o hb e => hs₂.extBut b o (fun q => hb (List.mem_singleton.mpr q)) e) ⟨_, hn₂⟩ (sc_cons ⟨v, .loc hx hn₂ (by simp), r⟩ sc_nil)
  · exact ⟨_, (Heap.Ns.new h (.type "dict")).keeps (pushCells_keeps _ _)⟩
theorem bnd_cell {scope : Scope} {cl : List (Str × Addr)} {x : Str} {px : Pos} (hE : EnvOk env) (hk : scope.kind = .function) (hx : (relabel scope env).names.lookup x = some .cell) (hone : ∀ h, pushCells h scope.names = h.push { cls := .type "cell", data := .cell none }) (hc : ∀ n, (cellsFrom n scope.names cl).lookup x = some n) :
    BndC c A env scope cl (.Name x px) (fun _ => True) (fun d => [(x, .val d)]) := fun h => by
  refine ⟨[h.objs.size, h.objs.size + 1], fun h' => (∃ m, h'.Ns h.objs.size m) ∧ ∃ v, h'.IsCell (h.objs.size + 1) v, ⟨fun a b ⟨⟨m, hm⟩, v, hv⟩ k => ⟨⟨m, ns_keeps' hm (k _ (by simp))⟩, v, ?_⟩, fun a ⟨⟨m, hm⟩, v, hv⟩ b hb => ?_, fun s v d G Q E ⟨⟨m, hm⟩, v0, hv⟩ on hG r _ hQ => ?_⟩, ?_, fun b hb => ?_, by simp, fun h' x => x.1⟩
  · obtain ⟨o, ho, hd⟩ := hv
    obtain ⟨o', e', q⟩ := k _ (by simp) _ ho
    exact ⟨o', e', (q.data (isT_data fun vs z => by rw [hd] at z; cases z)).trans hd⟩
  · simp only [List.mem_cons, List.not_mem_nil, or_false] at hb
    rcases hb with rfl | rfl
    · obtain ⟨o, _, _, ho, _⟩ := hm
      exact ⟨o, ho⟩
    · obtain ⟨o, ho, _⟩ := hv
      exact ⟨o, ho⟩
  · refine wpAny_assign_Name (wpAny_storeName_cell (env := cE scope cl h.objs.size env) (c := h.objs.size + 1) hk hx (hc _) hv fun h₂ hc₂ hs₂ => ?_)
    refine hQ h₂ _ (fun b o hb e => hs₂.extBut b o (by simp at hb; exact hb.2) e) ⟨⟨m, hm.sameBut hs₂ (Nat.ne_of_lt (Nat.lt_succ_self _))⟩, _, hc₂⟩ (sc_cons ⟨v, .cell hx (hc _) hc₂, r⟩ sc_nil)
  · rw [hone]
    have hp := Heap.get?_push_size (h.push { cls := .type "dict", data := .dict #[] }) (o := { cls := .type "cell", data := .cell none }) rfl
    rw [Heap.size_push] at hp
    exact ⟨⟨_, (Heap.Ns.new h (.type "dict")).push _⟩, none, _, hp, rfl⟩
  · simp only [List.mem_cons, List.not_mem_nil, or_false] at hb
    rcases hb with rfl | rfl <;> (first | assumption | exact Int.natCast_nonneg _ | exact Nat.zero_le _ | exact Nat.le_refl _ | decide | exact Nat.le_trans (by assumption) (by decide) | lia)

set_option maxHeartbeats 1000000 in
theorem comp_core {E : Value → Shared → Prop} {target elt iter : Expr} {ifs : List Expr} {scope : Scope} {pos fp : Pos} {cl : List (Str × Addr)} {xd : D} {ds : List D} {okd : D → Prop} {bs : D → Sig} {σc : Sig} {use : Option (Value → Sem Unit)} {Q : Value → Shared → Prop} (p : D → Bool) (f : D → D)
    (ok : Ok c A env σ G s) (hs : ∀ x, foldedSetIterable iter env x = pure x) (hclos : closureFor scope env = pure cl) (hkind : scope.kind = .function) (hnames : ∀ x ∈ scope.names, x.2 = .local → scope.names.lookup x.1 = some .local)
    (hit : Ev c A env σ iter xd) (hid : ItD c A xd ds) (hcap : ∀ G h C, Sc env G h σ → Sc (cE scope cl C env) G h σc) (B : BndC c A env scope cl target okd bs)
    (hsz : ds.length ≤ sizeLine) (hokd : ∀ d ∈ ds, okd d)
    (htests : ∀ C, ∀ d ∈ ds, Tests c A (cE scope cl C env) (bs d ++ σc) ifs (p d)) (helt : ∀ C, ∀ d ∈ ds, p d = true → Ev c A (cE scope cl C env) (bs d ++ σc) elt (f d))
    (hpost : ∀ D C s' G', Fresh c G s G' s' (.ref D) ((ds.filter p).map f) → s.heap.get? C = none → (∃ m, s'.heap.Ns C m) → (∀ o, ¬ G' C o) → D ≠ C → compPost (model c.prog c.w) A E use Q (.ref D) C (.ok .next) s') :
    wpAny (model c.prog c.w) A (comprehension (.ListComp elt [⟨target, iter, ifs, 0⟩] scope pos) scope env fp (newList []) false (eval iter env) use) Q E s := by
  refine wpAny_comprehension_free (cl := cl) rfl hs hclos hkind hnames ((hit G s ok).use fun xv G1 s1 g1 r1 => ?_)
  refine hid G1 s1 xv g1.on r1 _ _ fun I s2 fpl P St Sr => ?_
  refine wpAny_newList ?_
  refine wp_compEnv ?_
  have hsz2 : ({ s2 with heap := s2.heap.push { cls := .type "list", data := .seq ([] : List Value).toArray } } : Shared).heap.objs.size = s2.heap.objs.size + 1 := Heap.size_push ..
  obtain ⟨own, J, B, hJ, hown, hCown, hJC⟩ := B (s2.heap.push { cls := .type "list", data := .seq ([] : List Value).toArray })
  generalize hH : s2.heap.push { cls := .type "list", data := .seq ([] : List Value).toArray } = H2 at *
  have hC : H2.objs.size = s2.heap.objs.size + 1 := hsz2
  have k12 : ∀ b o, s2.heap.get? b = some o → H2.get? b = some o := fun b o e => hH ▸ Heap.get?_push_of_some _ e
  have k23 : ∀ b o, H2.get? b = some o → (pushCells (H2.push { cls := .type "dict", data := .dict #[] }) scope.names).get? b = some o := fun b o e => pushCells_keeps _ _ b o (Heap.get?_push_of_some _ e)
  have hD : (pushCells (H2.push { cls := .type "dict", data := .dict #[] }) scope.names).get? s2.heap.objs.size = some (lstObj [] 0) := k23 _ _ (hH ▸ Heap.get?_push_size _ rfl)
  have hsn : ∀ b, s2.heap.objs.size ≤ b → s2.heap.get? b = none := fun b hb => by
    cases q : s2.heap.get? b with
    | none => rfl
    | some o => exact absurd (Heap.lt_size q) (Nat.not_lt.mpr hb)
  have hn : ∀ b, s2.heap.get? b = none → s.heap.get? b = none := fun b q => g1.keep.kh.none ((Kp.of (c := c) Sr.keep).kh.none q)
  obtain ⟨hx, tx, rfl, kx⟩ := id Sr.keep
  have main := fun (R : Result → Shared → Prop) hR => comp_loop (c := c) (A := A) (G := G1) (s := s1) (R := R) (cenv := cE scope cl H2.objs.size env) (elt := elt) (iter := iter) (ifs := ifs) (scope := scope) (pos := pos) (own := own) (J := J) (σc := σc) (I := I) (Dd := hx.objs.size) (tk := tx)
    (H := pushCells (H2.push { cls := .type "dict", data := .dict #[] }) scope.names) p f B Sr g1.on (ok.grow g1).gl (hcap _ _ _ (ok.grow g1).sc) (fun b o e => k23 _ _ (k12 _ _ e)) (hsn _ (Nat.le_refl _)) (fun b hb => hsn b (by have h1 := hown b hb; have h2 : H2.objs.size = hx.objs.size + 1 := hC; show hx.objs.size ≤ b; (first | assumption | exact Int.natCast_nonneg _ | exact Nat.zero_le _ | exact Nat.le_refl _ | decide | exact Nat.le_trans (by assumption) (by decide) | lia)))
    (fun q => by have h1 := hown _ q; have h2 : H2.objs.size = hx.objs.size + 1 := hC; (first | assumption | exact Int.natCast_nonneg _ | exact Nat.zero_le _ | exact Nat.le_refl _ | decide | exact Nat.le_trans (by assumption) (by decide) | lia)) hJ hD hsz hokd (htests _) (helt _) hR
  refine codeAny_compStart_list (main _ ?_) (Sr.W.self 0 _ _ _ (Sr.W.frame _ _ _ Sr.st fun b _ o e => k23 _ _ (k12 _ _ e)) (main _ ?_)) <;>
  · intro h tk G' ys n hk hJ' hD' r' hG1 hG2 hG3 gD gO
    have hk1 : Kp c s { s1 with heap := h, toks := tk } := g1.keep.trans hk
    refine hpost hx.objs.size H2.objs.size _ G' ⟨_, ys, n, ⟨hk1, fun a o e => hG1 _ _ (g1.sub _ _ e), hG2, fun a o e => ?_⟩, rfl, hn _ (hsn _ (Nat.le_refl _)), gD, hD', r'⟩ (hn _ (hsn _ (by show hx.objs.size ≤ _; have h2 : H2.objs.size = hx.objs.size + 1 := hC; (first | assumption | exact Int.natCast_nonneg _ | exact Nat.zero_le _ | exact Nat.le_refl _ | decide | exact Nat.le_trans (by assumption) (by decide) | lia)))) (hJC _ hJ') (gO _ hCown) (by have h2 : H2.objs.size = hx.objs.size + 1 := hC; show hx.objs.size ≠ _; (first | assumption | exact Int.natCast_nonneg _ | exact Nat.zero_le _ | exact Nat.le_refl _ | decide | exact Nat.le_trans (by assumption) (by decide) | lia))
    rcases hG3 a o e with q | q
    · exact g1.new _ _ q
    · exact .inr (g1.keep.kh.none q)

/-- a list comprehension of one clause -/
theorem ev_comp {target elt iter : Expr} {ifs : List Expr} {scope : Scope} {pos : Pos} {cl : List (Str × Addr)} {xd : D} {ds : List D} {okd : D → Prop} {bs : D → Sig} {σc : Sig} (p : D → Bool) (f : D → D)
    (hit : Ev c A env σ iter xd) (hid : ItD c A xd ds) (hclos : closureFor scope env = pure cl) (hcap : ∀ G h C, Sc env G h σ → Sc (cE scope cl C env) G h σc) (B : BndC c A env scope cl target okd bs)
    (hsz : ds.length ≤ sizeLine) (hokd : ∀ d ∈ ds, okd d)
    (htests : ∀ C, ∀ d ∈ ds, Tests c A (cE scope cl C env) (bs d ++ σc) ifs (p d)) (helt : ∀ C, ∀ d ∈ ds, p d = true → Ev c A (cE scope cl C env) (bs d ++ σc) elt (f d))
    (hkind : scope.kind = .function := by rfl) (hnames : ∀ x ∈ scope.names, x.2 = .local → scope.names.lookup x.1 = some .local := by decide)
    (hs : ∀ x, foldedSetIterable iter env x = pure x := by intro _; rfl) : EvF c A env σ (.ListComp elt [⟨target, iter, ifs, 0⟩] scope pos) ((ds.filter p).map f) := fun G s ok => by
  rw [eval_ListComp]
  refine comp_core p f ok hs hclos hkind hnames hit hid hcap B hsz hokd htests helt fun D C s' G' fr hC hm hGC hDC => ?_
  obtain ⟨m, hm⟩ := hm
  refine ⟨m, hm, fun h' hs' => ⟨G', ?_⟩⟩
  obtain ⟨a, vs, n, g, e, hn, gD, hD, r⟩ := fr
  cases e
  obtain ⟨h1, t1, rfl⟩ := id g.keep.same
  have kk : ∀ b o, b ≠ C → h1.get? b = some o → h'.get? b = some o := fun b o hb e => hs'.extBut b o hb e
  exact ⟨_, vs, n, ⟨g.keep.off ok.gl.stays fun b o hb e => kk b o (fun q => hb (q ▸ hC)) e, g.sub, g.on.off (fun b o e o' => kk b o' (fun q => hGC o (q ▸ e))) (fun q hq a ha o' => kk a o' (ok.sub.tabNe hC hq ha)), g.new⟩, rfl, hn, gD, kk _ _ hDC hD, r⟩
end
end Mine
end


/-! part B10 -/
section
open PySem PySem.W PyProof.Rows PySem.Calls PySem.Spec
set_option Elab.async false
set_option linter.unusedVariables false
set_option maxRecDepth 100000
namespace Mine
/-- the frame's own addresses: its names' table, its cells -/
def FrameAt (env : Env) (a : Addr) : Prop := a = env.locals ∨ ∃ n, (n, a) ∈ env.cells ∧ env.kindOf n = some .cell
/-- the frame as a call keeps it -/
structure InCW (s₀ : Shared) (L : Addr) (m : Str → Option Value) (cs : List (Str × Addr)) (cm : Str → Option Value) (s : Shared) : Prop where
  same : ∃ h tk, s = { s₀ with heap := h, toks := tk }
  ns : s.heap.Ns L m
  kh : Kh s₀.heap s.heap
  fresh : s₀.heap.objs.size ≤ L
  cell : ∀ n c, cs.lookup n = some c → s.heap.IsCell c (cm n)
  apart : cs.Pairwise fun x y => x.2 ≠ y.2
  ne : ∀ n c, (n, c) ∈ cs → c ≠ L
theorem InCW.of {s₀ s : Shared} {L : Addr} {m cm : Str → Option Value} {cs : List (Str × Addr)} (x : InCallC s₀ L m cs cm s) : InCW s₀ L m cs cm s := ⟨x.toInCall.same, x.toInCall.ns, .of x.toInCall.keep, x.toInCall.fresh, x.cell, x.apart, fun n c hc => Nat.ne_of_gt (x.above n c hc)⟩
theorem InCW.grow {s₀ s s' : Shared} {L : Addr} {m cm : Str → Option Value} {cs : List (Str × Addr)} (x : InCW s₀ L m cs cm s) (hs : ∃ h t, s' = { s with heap := h, toks := t }) (k : Kh s.heap s'.heap) : InCW s₀ L m cs cm s' := by
  refine ⟨?_, k.ns x.ns, x.kh.trans k, x.fresh, fun n c hc => k.cell (x.cell n c hc), x.apart, x.ne⟩
  obtain ⟨h, t, rfl⟩ := hs
  obtain ⟨h₁, t₁, e⟩ := x.same
  exact ⟨h, t, by rw [e]⟩
inductive Stands (env : Env) (m cm : Str → Option Value) (x : Str) (v : Value) : Prop
  | loc : env.kindOf x = some .local → m x = some v → Stands env m cm x v
  | cell {c : Addr} : env.kindOf x = some .cell → env.cells.lookup x = some c → cm x = some v → Stands env m cm x v
  | free {c : Addr} : env.kindOf x = some .free → env.cells.lookup x = some c → (x == ("__classdict__" : Str)) = false → cm x = some v → Stands env m cm x v
theorem Stands.one {env : Env} {m cm : Str → Option Value} {x : Str} {v w : Value} (a : Stands env m cm x v) (b : Stands env m cm x w) : v = w := by
  cases a with
  | loc k e => cases b with
    | loc k' e' => rw [e] at e'; exact Option.some.inj e'
    | cell k' => rw [k] at k'; cases k'
    | free k' => rw [k] at k'; cases k'
  | cell k l e => cases b with
    | loc k' => rw [k] at k'; cases k'
    | cell k' l' e' => rw [e] at e'; exact Option.some.inj e'
    | free k' => rw [k] at k'; cases k'
  | free k l _ e => cases b with
    | loc k' => rw [k] at k'; cases k'
    | cell k' => rw [k] at k'; cases k'
    | free k' l' _ e' => rw [e] at e'; exact Option.some.inj e'
/-- what a name's value is -/
def Bears (s₀ : Shared) (X : Gh) (env : Env) (G : Gh) (h : Heap) (v : Value) : Sl → Prop
  | .val d => Rep G v d
  | .own ds => ∃ a vs n, v = .ref a ∧ h.get? a = some (lstObj vs n) ∧ RepAll G vs ds ∧ (∀ o, ¬ G a o) ∧ (∀ o, ¬ X a o) ∧ s₀.heap.get? a = none ∧ ¬ FrameAt env a
structure StM (c : Cx) (A : Around) (s₀ : Shared) (G₀ X : Gh) (env : Env) (σ : Sig) (G : Gh) (m cm : Str → Option Value) (s : Shared) : Prop where
  fr : InCW s₀ env.locals m env.cells cm s
  gl : c.Gl A s.heap
  gl0 : ∀ b o, c.base.get? b = some o → s₀.heap.get? b = some o
  above : ∀ n a, (n, a) ∈ env.cells → env.kindOf n = some .cell → env.locals < a
  old : ∀ n a, (n, a) ∈ env.cells → env.kindOf n ≠ some .cell → ∃ o, s₀.heap.get? a = some o
  tb : ∀ q ∈ c.tabs, ∀ a, (a = q.code ∨ a = q.tab) → s₀.heap.get? a ≠ none
  on : OnG c G s
  g0 : ∀ a o, G₀ a o → G a o
  new : ∀ a o, G a o → G₀ a o ∨ s₀.heap.get? a = none
  gF : ∀ a, FrameAt env a → ∀ o, ¬ G a o
  xon : ∀ a o, X a o → Has s.heap a o
  xF : ∀ a, FrameAt env a → ∀ o, ¬ X a o
  gX : ∀ a o, G a o → ∀ o', ¬ X a o'
  nm : ∀ x sl, σ.lookup x = some sl → ∃ v, Stands env m cm x v ∧ Bears s₀ X env G s.heap v sl
  dis : ∀ x y ds es v, σ.lookup x = some (.own ds) → σ.lookup y = some (.own es) → Stands env m cm x v → Stands env m cm y v → x = y
def St (c : Cx) (A : Around) (s₀ : Shared) (G₀ X : Gh) (env : Env) (σ : Sig) (G : Gh) (s : Shared) : Prop := ∃ m cm, StM c A s₀ G₀ X env σ G m cm s
section
variable {c : Cx} {A : Around} {s₀ s : Shared} {G₀ X G : Gh} {env : Env} {σ : Sig} {m cm : Str → Option Value}
theorem frame_alive (x : InCW s₀ env.locals m env.cells cm s) {a : Addr} (h : ∃ n, env.cells.lookup n = some a ∨ a = env.locals) : ∃ o, s.heap.get? a = some o := by
  obtain ⟨n, h | h⟩ := h
  · obtain ⟨o, ho, _⟩ := x.cell n a h
    exact ⟨o, ho⟩
  · obtain ⟨o, _, _, ho, _⟩ := x.ns
    exact ⟨o, h ▸ ho⟩
theorem lookup_some_of_mem {n : Str} {a : Addr} {cs : List (Str × Addr)} (h : (n, a) ∈ cs) : ∃ b, cs.lookup n = some b := by
  induction cs with
  | nil => cases h
  | cons p r ih =>
    obtain ⟨k, b⟩ := p
    rw [List.lookup_cons]
    cases q : n == k with
    | true => exact ⟨b, rfl⟩
    | false =>
      rcases List.mem_cons.mp h with e | h
      · cases e; simp at q
      · exact ih h
theorem Stands.reads (fr : InCW s₀ env.locals m env.cells cm s) {x : Str} {v : Value} (h : Stands env m cm x v) : ReadsAs env s.heap x v := by
  cases h with
  | loc k e => exact .loc k fr.ns e
  | cell k l e => exact .cell k l (e ▸ fr.cell _ _ l)
  | free k l q e => exact .free k l (e ▸ fr.cell _ _ l) q
theorem StM.ok (h : StM c A s₀ G₀ X env σ G m cm s) : Ok c A env σ G s := ⟨h.on, h.gl, fun x sl e => by
  obtain ⟨v, hv, b⟩ := h.nm x sl e
  refine ⟨v, hv.reads h.fr, ?_⟩
  cases sl with
  | val d => exact b
  | own ds =>
    obtain ⟨a, vs, n, e1, e2, r, _⟩ := b
    exact ⟨a, vs, e1, ⟨_, e2, rfl, _, rfl⟩, r⟩⟩
theorem StM.off (h : StM c A s₀ G₀ X env σ G m cm s) {t : Addr} (ht : FrameAt env t) : s₀.heap.get? t = none := by
  have hle : s₀.heap.objs.size ≤ t := by
    rcases ht with rfl | ⟨n, hn, hk⟩
    · exact h.fr.fresh
    · exact Nat.le_of_lt (Nat.lt_of_le_of_lt h.fr.fresh (h.above n t hn hk))
  cases q : s₀.heap.get? t with
  | none => rfl
  | some o => exact absurd (Heap.lt_size q) (Nat.not_lt.mpr hle)
theorem StM.cellNe (h : StM c A s₀ G₀ X env σ G m cm s) {t : Addr} (h0 : s₀.heap.get? t = none) (hf : ¬ FrameAt env t) {k : Str} {a : Addr} (hc : env.cells.lookup k = some a) : a ≠ t := fun q => by
  subst q
  by_cases hk : env.kindOf k = some .cell
  · exact hf (.inr ⟨k, mem_of_lookup hc, hk⟩)
  · obtain ⟨o, ho⟩ := h.old k a (mem_of_lookup hc) hk
    rw [h0] at ho; cases ho
/-- every frame address stands in the heap -/
def FrAlive (env : Env) (s : Shared) : Prop := ∀ a, FrameAt env a → ∃ o, s.heap.get? a = some o
theorem StM.grow {G' : Gh} {s' : Shared} (h : StM c A s₀ G₀ X env σ G m cm s) (hal : FrAlive env s) (g : Grow c G s G' s') : StM c A s₀ G₀ X env σ G' m cm s' := by
  have av : ∀ a, (∃ o, s.heap.get? a = some o) → (∀ o, ¬ G a o) → ∀ o, ¬ G' a o := fun a ⟨o', ho'⟩ hn o e => by
    rcases g.new a o e with q | q
    · exact hn o q
    · rw [q] at ho'; cases ho'
  refine ⟨h.fr.grow g.keep.same g.keep.kh, h.gl.grow g.keep, h.gl0, h.above, h.old, h.tb, g.on, fun a o e => g.sub _ _ (h.g0 _ _ e), fun a o e => ?_, fun a ha => av a (hal a ha) (h.gF a ha), fun a o e => g.keep.kh.has (h.xon a o e), h.xF, fun a o e o' x => ?_, fun x sl e => ?_, h.dis⟩
  · rcases g.new a o e with q | q
    · exact h.new a o q
    · exact .inr (h.fr.kh.none q)
  · rcases g.new a o e with q | q
    · exact h.gX a o q o' x
    · exact has_ne (h.xon _ _ x) q
  · obtain ⟨v, hv, b⟩ := h.nm x sl e
    refine ⟨v, hv, ?_⟩
    cases sl with
    | val d => exact Rep.mono g.sub b
    | own ds =>
      obtain ⟨a, vs, n, e1, e2, r, q1, q2, q3, q4⟩ := b
      exact ⟨a, vs, n, e1, g.keep.kh.get e2 rfl, RepAll.mono g.sub r, av a ⟨_, e2⟩ q1, q2, q3, q4⟩
theorem StM.alive (h : StM c A s₀ G₀ X env σ G m cm s) (hu : ∀ n a, (n, a) ∈ env.cells → env.cells.lookup n = some a) : FrAlive env s := fun a ha => by
  rcases ha with rfl | ⟨n, hn, _⟩
  · obtain ⟨o, _, _, ho, _⟩ := h.fr.ns
    exact ⟨o, ho⟩
  · obtain ⟨o, ho, _⟩ := h.fr.cell n a (hu n a hn)
    exact ⟨o, ho⟩
/-- a change at one frame address -/
theorem StM.at {t : Addr} {h' : Heap} {tk : Nat} {m' cm' : Str → Option Value} {x : Str} {v : Value} {sl : Sl} (h : StM c A s₀ G₀ X env σ G m cm s) (ht : FrameAt env t) (hs : Heap.SameBut t s.heap h')
    (fr : InCW s₀ env.locals m' env.cells cm' { s with heap := h', toks := tk }) (hdt : IsDict s.heap t → IsDict h' t) (hx : Stands env m' cm' x v) (hy : ∀ y w, y ≠ x → Stands env m cm y w → Stands env m' cm' y w) (hy' : ∀ y w, y ≠ x → Stands env m' cm' y w → Stands env m cm y w)
    (r : Bears s₀ X env G s.heap v sl) (hd : ∀ ds, sl = .own ds → ∀ y es w, y ≠ x → σ.lookup y = some (.own es) → Stands env m cm y w → w ≠ v) :
    StM c A s₀ G₀ X env ((x, sl) :: σ) G m' cm' { s with heap := h', toks := tk } := by
  have up : ∀ {w : Value} {sl : Sl}, Bears s₀ X env G s.heap w sl → Bears s₀ X env G h' w sl := fun {w sl} b => by
    cases sl with
    | val d => exact b
    | own ds =>
      obtain ⟨a, vs, n, e1, e2, r, q1, q2, q3, q4⟩ := b
      exact ⟨a, vs, n, e1, hs.extBut a _ (fun q => q4 (q ▸ ht)) e2, r, q1, q2, q3, q4⟩
  have hb0 : c.base.get? t = none := by
    cases q : c.base.get? t with
    | none => rfl
    | some o => have := h.gl0 _ _ q; rw [h.off ht] at this; cases this
  refine ⟨fr, ⟨h.gl.kin, h.gl.ktop, fun b o e => hs.extBut b o (fun q => by rw [q, hb0] at e; cases e) (h.gl.stays b o e), h.gl.fr.step fun L _ d => ?_⟩, h.gl0, h.above, h.old, h.tb, h.on.off (fun a o e o' => hs.extBut a o' (fun q => h.gF t ht o (q ▸ e))) (fun q hq a ha o' => hs.extBut a o' (fun z => h.tb q hq a ha (z ▸ h.off ht))), h.g0, h.new, h.gF, fun a o e => (h.xon a o e).off fun o' => hs.extBut a o' (fun q => h.xF t ht o (q ▸ e)), h.xF, h.gX, fun y sl' e => ?_, fun y z ds es w e1 e2 s1 s2 => ?_⟩
  · by_cases q : L = t
    · subst q; exact hdt d
    · obtain ⟨o, es, n, ho, hd'⟩ := d
      exact ⟨o, es, n, hs.extBut L o q ho, hd'⟩
  · rw [List.lookup_cons] at e
    cases q : y == x with
    | true => rw [q] at e; cases e; rw [beq_iff_eq.mp q]; exact ⟨v, hx, up r⟩
    | false =>
      rw [q] at e
      have hne : y ≠ x := by simpa using q
      obtain ⟨w, hw, b⟩ := h.nm y sl' e
      exact ⟨w, hy y w hne hw, up b⟩
  · rw [List.lookup_cons] at e1 e2
    cases q : y == x with
    | true =>
      cases q' : z == x with
      | true => rw [beq_iff_eq.mp q, beq_iff_eq.mp q']
      | false =>
        rw [q] at e1; rw [q'] at e2
        have e1' : sl = .own ds := Option.some.inj e1
        have hyx : y = x := beq_iff_eq.mp q
        subst hyx
        have hz : z ≠ y := by simpa using q'
        exact absurd ((s1.one hx)) (hd ds e1' z es w hz e2 (hy' z w hz s2))
    | false =>
      have hy0 : y ≠ x := by simpa using q
      cases q' : z == x with
      | true =>
        rw [q] at e1; rw [q'] at e2
        have e2' : sl = .own es := Option.some.inj e2
        have hzx : z = x := beq_iff_eq.mp q'
        subst hzx
        exact absurd ((s2.one hx)) (hd es e2' y ds w hy0 e1 (hy' y w hy0 s1))
      | false =>
        rw [q] at e1
        rw [q'] at e2
        exact h.dis y z ds es w e1 e2 (hy' y w hy0 s1) (hy' z w (by simpa using q') s2)
theorem inCallC_setL {h' : Heap} {tk : Nat} {x : Str} {v : Value} (fr : InCW s₀ env.locals m env.cells cm s) (hn : h'.Ns env.locals (fun y => if y = x then some v else m y)) (hs : Heap.SameBut env.locals s.heap h') :
    InCW s₀ env.locals (fun y => if y = x then some v else m y) env.cells cm { s with heap := h', toks := tk } := by
  refine ⟨?_, hn, fun b o e => ?_, fr.fresh, fun k c hc => ?_, fr.apart, fr.ne⟩
  · obtain ⟨h₁, tk, rfl⟩ := fr.same
    exact ⟨h', _, rfl⟩
  · exact (fr.kh b o e).off fun o' => hs.extBut b o' (Nat.ne_of_lt (Nat.lt_of_lt_of_le (Heap.lt_size e) fr.fresh))
  · exact (fr.cell k c hc).sameBut hs (fr.ne k c (mem_of_lookup hc))
theorem inCallC_setC {h' : Heap} {tk : Nat} {x : Str} {v : Value} {t : Addr} (fr : InCW s₀ env.locals m env.cells cm s) (hx : env.cells.lookup x = some t) (hLc : env.locals < t) (hc' : h'.IsCell t (some v)) (hs : Heap.SameBut t s.heap h') :
    InCW s₀ env.locals m env.cells (fun y => if y = x then some v else cm y) { s with heap := h', toks := tk } := by
  refine ⟨?_, fr.ns.sameBut hs (Nat.ne_of_lt hLc), fun b o e => ?_, fr.fresh, fun k c' hk' => ?_, fr.apart, fr.ne⟩
  · obtain ⟨h₁, tk, rfl⟩ := fr.same
    exact ⟨h', _, rfl⟩
  · exact (fr.kh b o e).off fun o' => hs.extBut b o' (Nat.ne_of_lt (Nat.lt_trans (Nat.lt_of_lt_of_le (Heap.lt_size e) fr.fresh) hLc))
  · by_cases hkn : k = x
    · subst hkn
      rw [hx] at hk'; cases hk'
      simpa using hc'
    · rw [if_neg hkn]
      exact (fr.cell k c' hk').sameBut hs fun e => hkn (name_of_addr fr.apart (mem_of_lookup hk') (e ▸ mem_of_lookup hx))
theorem cell_no_dict {h : Heap} {t : Addr} {v : Option Value} (x : h.IsCell t v) : ¬ IsDict h t := fun ⟨o, es, n, ho, hd⟩ => by
  obtain ⟨o', ho', hd'⟩ := x
  rw [ho] at ho'; cases ho'
  rw [hd] at hd'; cases hd'

/-- a name that may be stored -/
def Storable (env : Env) (x : Str) : Prop := env.kindOf x = some .local ∨ (env.kindOf x = some .cell ∧ ∃ t, env.cells.lookup x = some t)
theorem StM.store0 {M : Model} {A' : Around} {x : Str} {v : Value} {sl : Sl} {Q : Unit → Shared → Prop} {E : Value → Shared → Prop} (h : StM c A s₀ G₀ X env σ G m cm s) (hE : EnvOk env) (hx : Storable env x) (r : Bears s₀ X env G s.heap v sl)
    (hd : ∀ ds, sl = .own ds → ∀ y es w, y ≠ x → σ.lookup y = some (.own es) → Stands env m cm y w → w ≠ v)
    (hQ : ∀ s', St c A s₀ G₀ X env ((x, sl) :: σ) G s' → Q () s') : wpAny M A' (storeName env x v) Q E s := by
  rcases hx with hx | ⟨hx, t, ht⟩
  · refine wpAny_storeName_local hx h.fr.ns (fun h' hn hs => hQ _ ⟨_, cm, h.at (.inl rfl) hs (inCallC_setL h.fr hn hs) (fun _ => isDict_ns hn) (.loc hx (by simp)) (fun y w hy hw => ?_) (fun y w hy hw => ?_) r hd⟩) (by rw [hE.kind]; rfl)
    · cases hw with
      | loc k e => exact .loc k (by simp [hy, e])
      | cell k l e => exact .cell k l e
      | free k l q e => exact .free k l q e
    · cases hw with
      | loc k e => exact .loc k (by simpa [hy] using e)
      | cell k l e => exact .cell k l e
      | free k l q e => exact .free k l q e
  · refine wpAny_storeName_cell hE.kind hx ht (h.fr.cell x t ht) fun h' hc' hs => hQ _ ⟨m, _, h.at (.inr ⟨x, mem_of_lookup ht, hx⟩) hs (inCallC_setC h.fr ht (h.above x t (mem_of_lookup ht) hx) hc' hs) (fun d => (cell_no_dict (h.fr.cell x t ht) d).elim) (.cell hx ht (by simp)) (fun y w hy hw => ?_) (fun y w hy hw => ?_) r hd⟩
    · cases hw with
      | loc k e => exact .loc k e
      | cell k l e => exact .cell k l (by simp [hy, e])
      | free k l q e => exact .free k l q (by simp [hy, e])
    · cases hw with
      | loc k e => exact .loc k e
      | cell k l e => exact .cell k l (by simpa [hy] using e)
      | free k l q e => exact .free k l q (by simpa [hy] using e)
theorem StM.store {M : Model} {A' : Around} {x : Str} {v : Value} {d : D} {Q : Unit → Shared → Prop} {E : Value → Shared → Prop} (h : StM c A s₀ G₀ X env σ G m cm s) (hE : EnvOk env) (hx : Storable env x) (r : Rep G v d)
    (hQ : ∀ s', St c A s₀ G₀ X env ((x, .val d) :: σ) G s' → Q () s') : wpAny M A' (storeName env x v) Q E s := h.store0 (sl := .val d) hE hx r (fun ds e => nomatch e) hQ
/-- a new list is stored: the frame's own -/
theorem StM.storeF {M : Model} {A' : Around} {x : Str} {v : Value} {ds : List D} {G' : Gh} {s' : Shared} {Q : Unit → Shared → Prop} {E : Value → Shared → Prop} (h : StM c A s₀ G₀ X env σ G m cm s) (hal : FrAlive env s) (hE : EnvOk env) (hx : Storable env x) (f : Fresh c G s G' s' v ds)
    (hQ : ∀ s'', St c A s₀ G₀ X env ((x, .own ds) :: σ) G' s'' → Q () s'') : wpAny M A' (storeName env x v) Q E s' := by
  obtain ⟨a, vs, n, g, rfl, hn, hG, ho, r⟩ := f
  have h' := h.grow hal g
  refine h'.store0 (sl := .own ds) hE hx ⟨a, vs, n, rfl, ho, r, hG, fun o e => ?_, ?_, fun q => ?_⟩ (fun ds' e y es w hy ey sy q => ?_) hQ
  · exact has_ne (h.xon _ _ e) hn
  · exact h.fr.kh.none hn
  · obtain ⟨o, ho⟩ := hal a q
    rw [ho] at hn; cases hn
  · obtain ⟨w', hw', b⟩ := h.nm y _ ey
    obtain ⟨a', vs', n', e1, e2, _⟩ := b
    have := sy.one hw'
    rw [q, e1] at this
    cases this
    rw [e2] at hn; cases hn
/-- the own list is not the frame's any more: a datum -/
theorem StM.freeze' {x : Str} {ds : List D} (h : StM c A s₀ G₀ X env σ G m cm s) (hx : σ.lookup x = some (.own ds)) : ∃ G', St c A s₀ G₀ X env ((x, .val (.lst ds)) :: σ) G' s ∧ ∀ a o, G a o → G' a o := by
  obtain ⟨v, hv, a, vs, n, rfl, ho, r, q1, q2, q3, q4⟩ := h.nm x _ hx
  refine ⟨G.add a (lstObj vs n), ⟨m, cm, h.fr, h.gl, h.gl0, h.above, h.old, h.tb, h.on.more (fun _ _ e => .inl e) (fun b o e => ?_), fun b o e => .inl (h.g0 _ _ e), fun b o e => ?_, fun b hb o e => ?_, h.xon, h.xF, fun b o e o' x => ?_, fun y sl e => ?_, fun y z ds es w e1 e2 s1 s2 => ?_⟩, fun _ _ e => .inl e⟩
  · rcases e with e | ⟨rfl, rfl⟩
    · exact .inl e
    · exact .inr ⟨.of ho, rfl⟩
  · rcases e with e | ⟨rfl, rfl⟩
    · exact h.new _ _ e
    · exact .inr q3
  · rcases e with e | ⟨rfl, rfl⟩
    · exact h.gF _ hb _ e
    · exact q4 hb
  · rcases e with e | ⟨rfl, rfl⟩
    · exact h.gX _ _ e _ x
    · exact q2 _ x
  · rw [List.lookup_cons] at e
    cases q : y == x with
    | true => rw [q] at e; cases e; rw [beq_iff_eq.mp q]; exact ⟨_, hv, .lst Gh.add_self (RepAll.mono (fun _ _ e => .inl e) r)⟩
    | false =>
      rw [q] at e
      have hne : y ≠ x := by simpa using q
      obtain ⟨w, hw, b⟩ := h.nm y sl e
      refine ⟨w, hw, ?_⟩
      cases sl with
      | val d => exact Rep.mono (fun _ _ e => .inl e) b
      | own es =>
        obtain ⟨a', vs', n', e1, e2, r', p1, p2, p3, p4⟩ := b
        refine ⟨a', vs', n', e1, e2, RepAll.mono (fun _ _ e => .inl e) r', fun o q5 => ?_, p2, p3, p4⟩
        rcases q5 with q5 | ⟨rfl, _⟩
        · exact p1 _ q5
        · subst e1
          exact hne (h.dis y x es ds _ e hx hw hv)
  · rw [List.lookup_cons] at e1 e2
    cases q : y == x with
    | true => rw [q] at e1; cases e1
    | false =>
      cases q' : z == x with
      | true => rw [q'] at e2; cases e2
      | false =>
        rw [q] at e1
        rw [q'] at e2
        exact h.dis y z _ _ w e1 e2 s1 s2
/-- the own list grows by one -/
theorem StM.append {prog : Program} {w : World} {A' : Around} {x : Str} {a : Addr} {v : Value} {d : D} {ds : List D} {Q : Value → Shared → Prop} {E : Value → Shared → Prop} (h : StM c A s₀ G₀ X env σ G m cm s) (hx : σ.lookup x = some (.own ds)) (hv : Stands env m cm x (.ref a)) (r : Rep G v d) (hz : ds.length ≤ sizeLine)
    (hQ : ∀ s', St c A s₀ G₀ X env ((x, .own (ds ++ [d])) :: σ) G s' → Q .none s') : wpAny (model prog w) A' (call (.builtin "list.append") [.ref a, v]) Q E s := by
  obtain ⟨v', hv', a', vs, n, e1, ho, r', q1, q2, q3, q4⟩ := h.nm x _ hx
  have e2 := hv.one hv'
  rw [e1] at e2
  cases e2
  refine append_at (its := vs.toArray) (n := n) ho (fun h' hs ho' => hQ _ ⟨m, cm, ?_⟩) (by simp [r'.length]; exact hz)
  have hk : ∀ b o, b ≠ a → s.heap.get? b = some o → h'.get? b = some o := fun b o hb e => hs.extBut b o hb e
  have hfr : ∀ b, FrameAt env b → b ≠ a := fun b hb q => q4 (q ▸ hb)
  have hb0 : c.base.get? a = none := by
    cases q : c.base.get? a with
    | none => rfl
    | some o => have := h.gl0 _ _ q; rw [q3] at this; cases this
  refine ⟨⟨?_, h.fr.ns.sameBut hs (hfr _ (.inl rfl)), fun b o e => (h.fr.kh b o e).off fun o' => hk b o' (fun q => by rw [q, q3] at e; cases e), h.fr.fresh, fun k c hc => (h.fr.cell k c hc).sameBut hs (h.cellNe q3 q4 hc), h.fr.apart, h.fr.ne⟩,
    ⟨h.gl.kin, h.gl.ktop, fun b o e => hk b o (fun q => by rw [q, hb0] at e; cases e) (h.gl.stays b o e), h.gl.fr.step fun L _ ⟨o, es, n', ho1, hd1⟩ => ⟨o, es, n', hk L o (fun q => by rw [q, ho] at ho1; cases ho1; cases hd1) ho1, hd1⟩⟩, h.gl0, h.above, h.old, h.tb,
    h.on.off (fun b o e o' => hk b o' (fun q => q1 o (q ▸ e))) (fun q hq b hb o' => hk b o' (fun z => h.tb q hq b hb (z ▸ q3))), h.g0, h.new, h.gF, fun b o e => (h.xon b o e).off fun o' => hk b o' (fun q => q2 o (q ▸ e)), h.xF, h.gX, fun y sl e => ?_, fun y z es fs u f1 f2 s1 s2 => ?_⟩
  · obtain ⟨h₁, tk, e⟩ := h.fr.same
    exact ⟨h', tk, by rw [e]⟩
  · rw [List.lookup_cons] at e
    cases q : y == x with
    | true =>
      rw [q] at e; cases e; rw [beq_iff_eq.mp q]
      refine ⟨_, hv, a, vs ++ [v], n + 1, rfl, ?_, r'.append (.one r), q1, q2, q3, q4⟩
      rw [ho']; simp
    | false =>
      rw [q] at e
      have hne : y ≠ x := by simpa using q
      obtain ⟨u, hu, b⟩ := h.nm y sl e
      refine ⟨u, hu, ?_⟩
      cases sl with
      | val d => exact b
      | own es =>
        obtain ⟨a', vs', n', f1, f2, r2, p1, p2, p3, p4⟩ := b
        refine ⟨a', vs', n', f1, hk _ _ (fun q => ?_) f2, r2, p1, p2, p3, p4⟩
        subst q
        subst f1
        exact hne (h.dis y x es ds _ e hx hu hv)
  · have back : ∀ y es, List.lookup y ((x, Sl.own (ds ++ [d])) :: σ) = some (.own es) → ∃ es', σ.lookup y = some (.own es') := fun y es e => by
      rw [List.lookup_cons] at e
      cases q : y == x with
      | true => rw [beq_iff_eq.mp q]; exact ⟨ds, hx⟩
      | false => rw [q] at e; exact ⟨es, e⟩
    obtain ⟨es', f1'⟩ := back y es f1
    obtain ⟨fs', f2'⟩ := back z fs f2
    exact h.dis y z es' fs' u f1' f2' s1 s2
end
end Mine
end


/-! part B11 -/
section
open PySem PySem.W PyProof.Rows PySem.Calls PySem.Spec
set_option Elab.async false
set_option linter.unusedVariables false
set_option maxRecDepth 100000
namespace Mine
inductive FD where
  | next | brk | cont
  | ret (d : D)
def FlowIs (G : Gh) : Flow → FD → Prop
  | .next, .next => True
  | .brk, .brk => True
  | .cont, .cont => True
  | .ret v, .ret d => Rep G v d
  | _, _ => False
theorem FlowIs.mono {G G' : Gh} (h : ∀ a o, G a o → G' a o) : ∀ {f : Flow} {fd : FD}, FlowIs G f fd → FlowIs G' f fd
  | .next, .next, _ => trivial
  | .brk, .brk, _ => trivial
  | .cont, .cont, _ => trivial
  | .ret v, .ret d, r => Rep.mono h r
structure EnvF (env : Env) : Prop where
  ok : EnvOk env
  hu : ∀ n a, (n, a) ∈ env.cells → env.cells.lookup n = some a
abbrev Post := FD → Sig → Prop
/-- how a statement (block) ends -/
def Done (c : Cx) (A : Around) (s₀ : Shared) (G₀ X : Gh) (env : Env) (G : Gh) (Φ : Post) (fl : Flow) (s' : Shared) : Prop := ∃ G' σ' fd, St c A s₀ G₀ X env σ' G' s' ∧ (∀ a o, G a o → G' a o) ∧ FlowIs G' fl fd ∧ Φ fd σ'
def ExS (c : Cx) (A : Around) (env : Env) (σ : Sig) (ss : List Stmt) (Φ : Post) : Prop := ∀ s₀ G₀ X G s, St c A s₀ G₀ X env σ G s → wpAny (model c.prog c.w) A (execs ss env) (Done c A s₀ G₀ X env G Φ) (fun _ _ => False) s
def Ex1 (c : Cx) (A : Around) (env : Env) (σ : Sig) (st : Stmt) (Φ : Post) : Prop := ∀ s₀ G₀ X G s, St c A s₀ G₀ X env σ G s → wpAny (model c.prog c.w) A (exec st env) (Done c A s₀ G₀ X env G Φ) (fun _ _ => False) s
def andThen (c : Cx) (A : Around) (env : Env) (ss : List Stmt) (Φ : Post) : Post := fun fd σ => match fd with
  | .next => ExS c A env σ ss Φ
  | fd => Φ fd σ
section
variable {c : Cx} {A : Around} {env : Env} {σ : Sig} {Φ : Post} {s₀ s : Shared} {G₀ X G : Gh}
theorem St.ok (h : St c A s₀ G₀ X env σ G s) : Ok c A env σ G s := let ⟨_, _, q⟩ := h; q.ok
theorem St.grow (hF : EnvF env) {G' : Gh} {s' : Shared} (h : St c A s₀ G₀ X env σ G s) (g : Grow c G s G' s') : St c A s₀ G₀ X env σ G' s' := let ⟨m, cm, q⟩ := h; ⟨m, cm, q.grow (q.alive hF.hu) g⟩
theorem Done.more {G' : Gh} {fl : Flow} {s' : Shared} (h : ∀ a o, G a o → G' a o) (x : Done c A s₀ G₀ X env G' Φ fl s') : Done c A s₀ G₀ X env G Φ fl s' := let ⟨G2, σ', fd, a, b, d, e⟩ := x; ⟨G2, σ', fd, a, fun _ _ q => b _ _ (h _ _ q), d, e⟩
theorem ex_nil (h : Φ .next σ) : ExS c A env σ [] Φ := fun s₀ G₀ X G s st => wpAny_execs_nil ⟨G, σ, .next, st, fun _ _ e => e, trivial, h⟩
theorem ex_cons {st : Stmt} {ss : List Stmt} (h : Ex1 c A env σ st (andThen c A env ss Φ)) : ExS c A env σ (st :: ss) Φ := fun s₀ G₀ X G s w => by
  refine wpAny_execs_cons (wpAny_mono (h s₀ G₀ X G s w) (fun fl s' q => ?_) fun _ _ x => x)
  obtain ⟨G', σ', fd, st', hG, hfl, hΦ⟩ := q
  cases fl <;> cases fd <;> first
    | exact hfl.elim
    | exact wpAny_mono (hΦ s₀ G₀ X G' s' st') (fun _ _ y => y.more hG) fun _ _ x => x
    | exact ⟨G', σ', _, st', hG, hfl, hΦ⟩
theorem ex_mono {st : Stmt} {Ψ : Post} (h : Ex1 c A env σ st Ψ) (k : ∀ fd σ', Ψ fd σ' → Φ fd σ') : Ex1 c A env σ st Φ := fun s₀ G₀ X G s w =>
  wpAny_mono (h s₀ G₀ X G s w) (fun fl s' ⟨G', σ', fd, a, b, d, e⟩ => ⟨G', σ', fd, a, b, d, k _ _ e⟩) fun _ _ x => x
theorem exs_mono {ss : List Stmt} {Ψ : Post} (h : ExS c A env σ ss Ψ) (k : ∀ fd σ', Ψ fd σ' → Φ fd σ') : ExS c A env σ ss Φ := fun s₀ G₀ X G s w =>
  wpAny_mono (h s₀ G₀ X G s w) (fun fl s' ⟨G', σ', fd, a, b, d, e⟩ => ⟨G', σ', fd, a, b, d, k _ _ e⟩) fun _ _ x => x
theorem ex_assign {x : Str} {px pos : Pos} {e : Expr} {d : D} (hF : EnvF env) (hx : Storable env x) (he : Ev c A env σ e d) (h : Φ .next ((x, .val d) :: σ)) (hs : swapsWith e (some (.Name x px)) pos.line env = pure false := by rfl) : Ex1 c A env σ (.Assign [.Name x px] e pos) Φ := fun s₀ G₀ X G s st => by
  refine wpAny_Assign_Name ((he G s st.ok).use fun v G' s' g r => ?_) hs
  obtain ⟨m, cm, q⟩ := st.grow hF g
  exact q.store hF.ok hx r fun s'' st' => ⟨G', _, .next, st', g.sub, trivial, h⟩
theorem ex_assignF {x : Str} {px pos : Pos} {e : Expr} {ds : List D} (hF : EnvF env) (hx : Storable env x) (he : EvF c A env σ e ds) (h : Φ .next ((x, .own ds) :: σ)) (hs : swapsWith e (some (.Name x px)) pos.line env = pure false := by rfl) : Ex1 c A env σ (.Assign [.Name x px] e pos) Φ := fun s₀ G₀ X G s st => by
  refine wpAny_Assign_Name (wpAny_mono (he G s st.ok) (fun v s' ⟨G', f⟩ => ?_) fun _ _ x => x.elim) hs
  obtain ⟨m, cm, q⟩ := st
  have hg : ∀ a o, G a o → G' a o := by obtain ⟨a, vs, n, g, _⟩ := f; exact g.sub
  exact q.storeF (q.alive hF.hu) hF.ok hx f fun s'' st' => ⟨G', _, .next, st', hg, trivial, h⟩
theorem Fresh.freeze' {G G' : Gh} {s s' : Shared} {v : Value} {ds : List D} (h : Fresh c G s G' s' v ds) : ∃ G'', Grow c G s G'' s' ∧ Rep G'' v (.lst ds) ∧ ∀ b o, G'' b o → G' b o ∨ v = .ref b := by
  obtain ⟨a, vs, n, g, rfl, hn, _, ho, r⟩ := h
  exact ⟨G'.add a (lstObj vs n), ⟨g.keep, fun _ _ e => .inl (g.sub _ _ e), g.on.more (fun _ _ e => .inl e) (fun b o e => by
    rcases e with e | ⟨rfl, rfl⟩
    · exact .inl e
    · exact .inr ⟨.of ho, rfl⟩), fun b o e => by
    rcases e with e | ⟨rfl, rfl⟩
    · exact g.new _ _ e
    · exact .inr hn⟩, .lst Gh.add_self (RepAll.mono (fun _ _ e => .inl e) r), fun b o e => by
    rcases e with e | ⟨rfl, rfl⟩
    · exact .inl e
    · exact .inr rfl⟩
/-- a change at an address that is nobody's -/
theorem StM.but {m cm : Str → Option Value} {t : Addr} {h' : Heap} {tk : Nat} (h : StM c A s₀ G₀ X env σ G m cm s) (hk : ∀ b o, b ≠ t → s.heap.get? b = some o → h'.get? b = some o) (hf : ¬ FrameAt env t) (hG : ∀ o, ¬ G t o) (hX : ∀ o, ¬ X t o) (h0 : s₀.heap.get? t = none) (hF' : FrOk c A h')
    (ho : ∀ y es w, σ.lookup y = some (.own es) → Stands env m cm y w → w ≠ .ref t) : StM c A s₀ G₀ X env σ G m cm { s with heap := h', toks := tk } := by
  have hfr : ∀ b, FrameAt env b → b ≠ t := fun b hb q => hf (q ▸ hb)
  have hb0 : c.base.get? t = none := by
    cases q : c.base.get? t with
    | none => rfl
    | some o => have := h.gl0 _ _ q; rw [h0] at this; cases this
  refine ⟨⟨?_, ns_keeps' h.fr.ns fun o e => .of (hk _ _ (hfr _ (.inl rfl)) e), fun b o e => (h.fr.kh b o e).off fun o' => hk b o' (fun q => by rw [q, h0] at e; cases e), h.fr.fresh, fun k c hc => ?_, h.fr.apart, h.fr.ne⟩,
    ⟨h.gl.kin, h.gl.ktop, fun b o e => hk b o (fun q => by rw [q, hb0] at e; cases e) (h.gl.stays b o e), hF'⟩, h.gl0, h.above, h.old, h.tb,
    h.on.off (fun b o e o' => hk b o' (fun q => hG o (q ▸ e))) (fun q hq b hb o' => hk b o' (fun z => h.tb q hq b hb (z ▸ h0))), h.g0, h.new, h.gF, fun b o e => (h.xon b o e).off fun o' => hk b o' (fun q => hX o (q ▸ e)), h.xF, h.gX, fun y sl e => ?_, h.dis⟩
  · obtain ⟨h₁, tk, e⟩ := h.fr.same
    exact ⟨h', _, by rw [e]⟩
  · obtain ⟨o, e, hd⟩ := h.fr.cell k c hc
    exact ⟨o, hk _ _ (h.cellNe h0 hf hc) e, hd⟩
  · obtain ⟨u, hu, b⟩ := h.nm y sl e
    refine ⟨u, hu, ?_⟩
    cases sl with
    | val d => exact b
    | own es =>
      obtain ⟨a', vs', n', f1, f2, r2, p1, p2, p3, p4⟩ := b
      exact ⟨a', vs', n', f1, hk _ _ (fun q => ho y es u e hu (by rw [f1, q])) f2, r2, p1, p2, p3, p4⟩
/-- a comprehension stored by the exchange of the two stores -/
theorem ex_assignC {x : Str} {px spos : Pos} {target elt iter : Expr} {ifs : List Expr} {scope : Scope} {pos : Pos} {cl : List (Str × Addr)} {xd : D} {ds : List D} {okd : D → Prop} {bs : D → Sig} {σc : Sig} (p : D → Bool) (f : D → D) (hF : EnvF env) (hx : env.kindOf x = some .local)
    (hit : Ev c A env σ iter xd) (hid : ItD c A xd ds) (hclos : closureFor scope env = pure cl) (hcap : ∀ G h C, Sc env G h σ → Sc (cE scope cl C env) G h σc) (B : BndC c A env scope cl target okd bs)
    (hsz : ds.length ≤ sizeLine) (hokd : ∀ d ∈ ds, okd d)
    (htests : ∀ C, ∀ d ∈ ds, Tests c A (cE scope cl C env) (bs d ++ σc) ifs (p d)) (helt : ∀ C, ∀ d ∈ ds, p d = true → Ev c A (cE scope cl C env) (bs d ++ σc) elt (f d))
    (h : Φ .next ((x, .val (.lst ((ds.filter p).map f))) :: σ))
    (hsw : swapsWith (.ListComp elt [⟨target, iter, ifs, 0⟩] scope pos) (some (.Name x px)) spos.line env = pure true := by rfl)
    (hkind : scope.kind = .function := by rfl) (hnames : ∀ x ∈ scope.names, x.2 = .local → scope.names.lookup x.1 = some .local := by decide)
    (hs : ∀ x, foldedSetIterable iter env x = pure x := by intro _; rfl) : Ex1 c A env σ (.Assign [.Name x px] (.ListComp elt [⟨target, iter, ifs, 0⟩] scope pos) spos) Φ := fun s₀ G₀ X G s st => by
  rw [exec_Assign_Name_used _ _ _ _ hsw]
  refine wpAny_bind (wpAny_standAt (wpAny_bind ?_))
  show wpAny _ A (do let _ ← comprehension (.ListComp elt [⟨target, iter, ifs, 0⟩] scope pos) scope env _ (newList []) false (eval iter env) (some (assign (.Name x px) env))) _ _ s
  refine wpAny_bind (wpAny_mono (comp_core (use := some (assign (.Name x px) env)) (Q := fun _ s' => Done c A s₀ G₀ X env G Φ .next s') (E := fun _ _ => False) p f st.ok hs hclos hkind hnames hit hid hcap B hsz hokd htests helt fun D C s' G' fr hC hm hGC hDC => ?_) (fun _ s' hq => wpAny_pure (wpAny_pure hq)) fun _ _ e => e)
  obtain ⟨G2, g2, r2, hG2⟩ := fr.freeze'
  obtain ⟨m, cm, q⟩ := st
  have hal := q.alive hF.hu
  have q' := q.grow hal g2
  have hCfr : ¬ FrameAt env C := fun y => by obtain ⟨o, ho⟩ := hal C y; rw [hC] at ho; cases ho
  have hG2C : ∀ o, ¬ G2 C o := fun o e => by
    rcases hG2 C o e with e | e
    · exact hGC o e
    · exact hDC (by cases e; rfl)
  have hXC : ∀ o, ¬ X C o := fun o e => has_ne (q.xon _ _ e) hC
  have hs0 : s₀.heap.get? C = none := q.fr.kh.none hC
  obtain ⟨mC, hmC⟩ := hm
  refine wpAny_assign_Name (wpAny_storeName_local hx q'.fr.ns (fun h₂ hn₂ hs₂ => ?_) (by rw [hF.ok.kind]; rfl))
  have hLC : C ≠ env.locals := fun e => hCfr (.inl e)
  refine ⟨mC, hmC.sameBut hs₂ hLC, fun h₃ hs₃ => ?_⟩
  have q2 := q'.at (tk := s'.toks + 1) (sl := .val (.lst ((ds.filter p).map f))) (x := x) (.inl rfl) hs₂ (inCallC_setL q'.fr hn₂ hs₂) (fun _ => isDict_ns hn₂) (.loc hx (by simp)) (fun y w hy hw => by
      cases hw with
      | loc k e => exact .loc k (by simp [hy, e])
      | cell k l e => exact .cell k l e
      | free k l q e => exact .free k l q e) (fun y w hy hw => by
      cases hw with
      | loc k e => exact .loc k (by simpa [hy] using e)
      | cell k l e => exact .cell k l e
      | free k l q e => exact .free k l q e) r2 (fun ds e => nomatch e)
  refine ⟨G2, _, .next, ⟨_, _, q2.but (tk := s'.toks + 1) (fun b o hb e => hs₃.extBut b o hb e) hCfr hG2C hXC hs0 (q.gl.fr.step2 q2.gl.fr fun L ⟨o1, _, _, h1, _⟩ ⟨o2, es2, n2, h2, hd2⟩ => ⟨o2, es2, n2, hs₃.extBut L o2 (fun z => by rw [z, hC] at h1; cases h1) h2, hd2⟩) fun y es w ey sy e => ?_⟩, g2.sub, trivial, h⟩
  rw [List.lookup_cons] at ey
  cases qx : y == x with
  | true => rw [qx] at ey; cases ey
  | false =>
    rw [qx] at ey
    have hy : y ≠ x := by simpa using qx
    obtain ⟨w', hw', a', vs, n, e1, e2, _⟩ := q.nm y _ ey
    have sy' : Stands env m cm y w := by
      cases sy with
      | loc k e => exact .loc k (by simpa [hy] using e)
      | cell k l e => exact .cell k l e
      | free k l q e => exact .free k l q e
    have := sy'.one hw'
    rw [this, e1] at e
    cases e
    rw [e2] at hC; cases hC
end
end Mine
end


/-! part B12 -/
section
open PySem PySem.W PyProof.Rows PySem.Calls PySem.Spec
set_option Elab.async false
set_option linter.unusedVariables false
set_option maxRecDepth 100000
namespace Mine
section
variable {c : Cx} {A : Around} {env : Env} {σ : Sig} {Φ : Post} {s₀ s : Shared} {G₀ X G : Gh}
theorem ex_if {t : Expr} {a b : List Stmt} {pos : Pos} {x : Bool} (ht : Tr c A env σ t x) (hF : EnvF env) (ha : x = true → ExS c A env σ a Φ) (hb : x = false → ExS c A env σ b Φ) : Ex1 c A env σ (.If t a b pos) Φ := fun s₀ G₀ X G s st =>
  wpAny_If (ht.use st.ok fun G1 s1 g1 => by
    cases x with
    | true => exact wpAny_mono (ha rfl s₀ G₀ X G1 s1 (st.grow hF g1)) (fun _ _ y => y.more g1.sub) fun _ _ x => x
    | false => exact wpAny_mono (hb rfl s₀ G₀ X G1 s1 (st.grow hF g1)) (fun _ _ y => y.more g1.sub) fun _ _ x => x)
theorem ex_return {e : Expr} {pos : Pos} {d : D} (hF : EnvF env) (h : Ev c A env σ e d) (hΦ : Φ (.ret d) σ) : Ex1 c A env σ (.Return (some e) pos) Φ := fun s₀ G₀ X G s st =>
  wpAny_Return_some ((h G s st.ok).use fun v G1 s1 g1 r1 => ⟨G1, σ, .ret d, st.grow hF g1, g1.sub, r1, hΦ⟩)
theorem ex_break {pos : Pos} (h : Φ .brk σ) : Ex1 c A env σ (.Break pos) Φ := fun s₀ G₀ X G s st => wpAny_Break ⟨G, σ, .brk, st, fun _ _ e => e, trivial, h⟩
theorem exs_freeze {x : Str} {ds : List D} {ss : List Stmt} (hx : σ.lookup x = some (.own ds)) (h : ExS c A env ((x, .val (.lst ds)) :: σ) ss Φ) : ExS c A env σ ss Φ := fun s₀ G₀ X G s ⟨m, cm, q⟩ => by
  have hG : ∀ {G'}, St c A s₀ G₀ X env ((x, .val (.lst ds)) :: σ) G' s → (∀ a o, G a o → G' a o) → wpAny (model c.prog c.w) A (execs ss env) (Done c A s₀ G₀ X env G Φ) (fun _ _ => False) s := fun st hs => wpAny_mono (h s₀ G₀ X _ s st) (fun _ _ y => y.more hs) fun _ _ x => x
  obtain ⟨v, hv, a, vs, n, rfl, ho, r, q1, q2, q3, q4⟩ := q.nm x _ hx
  obtain ⟨G', st, hs⟩ := q.freeze' hx
  exact hG st hs
theorem st_sub {τ : Sig} (hs : ∀ p ∈ τ, σ.lookup p.1 = some p.2) (h : St c A s₀ G₀ X env σ G s) : St c A s₀ G₀ X env τ G s := by
  obtain ⟨m, cm, q⟩ := h
  have up : ∀ x sl, τ.lookup x = some sl → σ.lookup x = some sl := fun x sl e => hs (x, sl) (mem_of_lookup e)
  exact ⟨m, cm, q.fr, q.gl, q.gl0, q.above, q.old, q.tb, q.on, q.g0, q.new, q.gF, q.xon, q.xF, q.gX, fun x sl e => q.nm x sl (up x sl e), fun x y ds es v e1 e2 => q.dis x y ds es v (up _ _ e1) (up _ _ e2)⟩
/-- forget or reorder names -/
theorem exs_sub {τ : Sig} {ss : List Stmt} (hs : ∀ p ∈ τ, σ.lookup p.1 = some p.2) (h : ExS c A env τ ss Φ) : ExS c A env σ ss Φ := fun s₀ G₀ X G s st => h s₀ G₀ X G s (st_sub hs st)

/-! targets at statements -/
def BindF (c : Cx) (A : Around) (env : Env) (target : Expr) (okd : D → Prop) (bs : D → Sig) : Prop := ∀ (s₀ : Shared) (G₀ X : Gh) (σ : Sig) (G : Gh) (s : Shared) (v : Value) (d : D) (Q : Unit → Shared → Prop) (E : Value → Shared → Prop),
  St c A s₀ G₀ X env σ G s → Rep G v d → okd d → (∀ G' s', St c A s₀ G₀ X env (bs d ++ σ) G' s' → (∀ a o, G a o → G' a o) → Q () s') → wpAny (model c.prog c.w) A (assign target env v) Q E s
theorem bindF_name {x : Str} {px : Pos} (hF : EnvF env) (hx : Storable env x) : BindF c A env (.Name x px) (fun _ => True) (fun d => [(x, .val d)]) := fun s₀ G₀ X σ G s v d Q E ⟨m, cm, q⟩ r _ hQ =>
  wpAny_assign_Name (q.store hF.ok hx r fun s' st => hQ G s' st fun _ _ e => e)
def Tup2 (d : D) : Prop := ∃ a b, d = .tup [a, b]
def bs2 (x y : Str) : D → Sig
  | .tup [a, b] => [(y, .val b), (x, .val a)]
  | _ => []
theorem wp_unpack2 {M : Program} {w : World} {x y : Str} {px py pos : Pos} {k : Nat} {v : Value} {a b : D} {Q : Unit → Shared → Prop} {E : Value → Shared → Prop} (hh : A.handled = none) (on : OnG c G s) (r : Rep G v (.tup [a, b]))
    (h : ∀ u w' s', Keeps s s' → Rep G u a → Rep G w' b → wpAny (model M w) A (storeName env x u) (fun _ s1 => wpAny (model M w) A (storeName env y w') Q E s1) E s') : wpAny (model M w) A (assign (.Tuple [.Name x px, .Name y py] k pos) env v) Q E s := by
  obtain ⟨t, vs, n, rfl, g, r⟩ := r.inv
  · cases r with
    | @cons u vs' _ _ ra r =>
      cases r with
      | @cons w' vs'' _ _ rb r =>
        (first | obtain rfl := r.inv0 | obtain ⟨_, rfl⟩ := r.inv | obtain rfl := r.inv | cases r)
        refine wpAny_assign_Tuple hh ⟨_, on.at g rfl, rfl, _, rfl⟩ (by rfl) (by rfl) fun h' he => ?_
        have gk : Keeps s { s with heap := h' } := ⟨h', s.toks, rfl, fun b o e => he b o (Nat.ne_of_lt (Heap.lt_size e)) e⟩
        refine wpAny_assignInOrder_more (wpAny_assign_Name (wpAny_mono (h u w' _ gk ra rb) (fun _ s1 q => wpAny_assignInOrder_more (wpAny_assign_Name (wpAny_mono q (fun _ s2 q => wpAny_assignInOrder_none q) fun _ _ x => x))) fun _ _ x => x))
theorem bindF_tup {x y : Str} {px py pos : Pos} {k : Nat} (hA : A.handled = none) (hF : EnvF env) (hx : Storable env x) (hy : Storable env y) : BindF c A env (.Tuple [.Name x px, .Name y py] k pos) Tup2 (bs2 x y) := fun s₀ G₀ X σ G s v d Q E st r ⟨a, b, e⟩ hQ => by
  subst e
  refine wp_unpack2 hA st.ok.sub r fun u w' s' g ra rb => ?_
  obtain ⟨m, cm, q⟩ := st.grow hF (Grow.still st.ok.sub g)
  exact q.store hF.ok hx ra fun s1 st1 => by
    obtain ⟨m1, cm1, q1⟩ := st1
    exact q1.store hF.ok hy rb fun s2 st2 => hQ G s2 st2 fun _ _ e => e
theorem bnd_tup {scope : Scope} {cl : List (Str × Addr)} {x y : Str} {px py pos : Pos} {k : Nat} (hA : A.handled = none) (hE : EnvOk env) (hk : scope.kind = .function) (hx : (relabel scope env).names.lookup x = some .local) (hy : (relabel scope env).names.lookup y = some .local) (hxy : x ≠ y) :
    BndC c A env scope cl (.Tuple [.Name x px, .Name y py] k pos) Tup2 (bs2 x y) := fun h => by
  refine ⟨[h.objs.size], fun h' => ∃ m, h'.Ns h.objs.size m, ⟨fun a b ⟨m, hm⟩ k => ⟨m, ns_keeps' hm (k _ (List.mem_singleton.mpr rfl))⟩, fun a ⟨m, hm⟩ b hb => ?_, fun s v d G Q E ⟨m, hm⟩ on hG r ⟨a, b, e⟩ hQ => ?_⟩, ?_, fun b hb => by rw [List.mem_singleton.mp hb]; exact Nat.le_refl _, List.mem_singleton.mpr rfl, fun h' x => x⟩
  · rw [List.mem_singleton.mp hb]
    obtain ⟨o, _, _, ho, _⟩ := hm
    exact ⟨o, ho⟩
  · subst e
    refine wp_unpack2 hA on r fun u w' s' g ra rb => ?_
    obtain ⟨h1, t1, rfl, k1⟩ := g
    refine wpAny_storeName_local hx (hm.keeps k1) (fun h₂ hn₂ hs₂ => wpAny_storeName_local hy hn₂ (fun h₃ hn₃ hs₃ => ?_) (by simp [cE, relabel, hk])) (by simp [cE, relabel, hk])
    refine hQ h₃ _ (fun b o hb e => hs₃.extBut b o (fun q => hb (List.mem_singleton.mpr q)) (hs₂.extBut b o (fun q => hb (List.mem_singleton.mpr q)) (k1 _ _ e))) ⟨_, hn₃⟩ (sc_cons ⟨w', .loc hy hn₃ (by simp), rb⟩ (sc_cons ⟨u, .loc hx hn₃ (by simp [hxy]), ra⟩ sc_nil))
  · exact ⟨_, (Heap.Ns.new h (.type "dict")).keeps (pushCells_keeps _ _)⟩

/-! for -/
noncomputable def ForGo (c : Cx) (A : Around) (env : Env) (bs : D → Sig) (body : List Stmt) (Φ : Post) : List D → Sig → Prop
  | [], σ => Φ .next σ
  | d :: ds, σ => ExS c A env (bs d ++ σ) body fun fd σ' => match fd with
    | .next => ForGo c A env bs body Φ ds σ'
    | .cont => ForGo c A env bs body Φ ds σ'
    | .brk => Φ .next σ'
    | .ret r => Φ (.ret r) σ'
theorem forLoop_q {prog : Program} {w : World} {R : Result → Shared → Prop} {target : Expr} {I : Addr} {body : List Stmt} (Inv : Nat → Shared → Prop)
    (turn : ∀ n s, Inv n s → wpAny (model prog w) A (pyNext (.ref I)) (fun r s₁ => match r with
      | none => R (.ok .next) s₁
      | some v => (∃ o, s₁.heap.get? I = some o ∧ Quiet o) ∧ wpAny (model prog w) A (assign target env v) (fun _ s₂ => wpAny (model prog w) A (execs body env) (fun f s₃ => match f with
          | .next | .cont => ∃ m, m < n ∧ Inv m s₃
          | .brk => R (.ok .next) s₃
          | .ret v => R (.ok (.ret v)) s₃) (fun _ _ => False) s₂) (fun _ _ => False) s₁) (fun _ _ => False) s)
    (n : Nat) (s : Shared) (h : Inv n s) : codeAny (model prog w) A (.forLoop target (.ref I) body [] env) R s := by
  refine codeAny_loop' rfl Inv (fun n s hI => ?_) n h
  show wpAny _ _ ((forTurn target (.ref I) body [] env).onRaise (fun x => do noteFrame x env; theTreesLotGoes x)) _ _ s
  refine wpAny_noted ?_
  simp only [forTurn]
  refine wpAny_bind (wpAny_standAt (wpAny_bind (wpAny_onRaise (wpAny_mono (turn n s hI) (fun r s₁ h₁ => ?_) fun _ _ h' => h'.elim))))
  cases r with
  | none => exact wpAny_pure (.inr ⟨rfl, codeAny_block (wpAny_execs_nil h₁)⟩)
  | some v =>
    refine wpAny_bind (wp_letOwned h₁.1 ?_)
    refine wpAny_bind (wpAny_mono h₁.2 (fun _ s₂ h₂ => wpAny_bind (wpAny_mono h₂ (fun f s₃ h₃ => ?_) fun _ _ h' => h'.elim)) fun _ _ h' => h'.elim)
    cases f with
    | next => exact wpAny_pure (.inl ⟨rfl, h₃⟩)
    | cont => exact wpAny_pure (.inl ⟨rfl, h₃⟩)
    | brk => exact wpAny_pure h₃
    | ret v => exact wpAny_pure h₃
theorem StM.addX {m cm : Str → Option Value} {I : Addr} {o : Obj} (h : StM c A s₀ G₀ X env σ G m cm s) (hI : s.heap.get? I = some o) (hf : ¬ FrameAt env I) (hG : ∀ o, ¬ G I o) (ho : ∀ y es w, σ.lookup y = some (.own es) → Stands env m cm y w → w ≠ .ref I) :
    StM c A s₀ G₀ (X.add I o) env σ G m cm s := by
  refine ⟨h.fr, h.gl, h.gl0, h.above, h.old, h.tb, h.on, h.g0, h.new, h.gF, fun b p e => ?_, fun b hb p e => ?_, fun b p e p' x => ?_, fun y sl e => ?_, h.dis⟩
  · rcases e with e | ⟨rfl, rfl⟩
    · exact h.xon _ _ e
    · exact .of hI
  · rcases e with e | ⟨rfl, rfl⟩
    · exact h.xF _ hb _ e
    · exact hf hb
  · rcases x with x | ⟨rfl, rfl⟩
    · exact h.gX _ _ e _ x
    · exact hG _ e
  · obtain ⟨u, hu, b⟩ := h.nm y sl e
    refine ⟨u, hu, ?_⟩
    cases sl with
    | val d => exact b
    | own es =>
      obtain ⟨a', vs', n', f1, f2, r2, p1, p2, p3, p4⟩ := b
      refine ⟨a', vs', n', f1, f2, r2, p1, fun o e2 => ?_, p3, p4⟩
      rcases e2 with e2 | ⟨rfl, rfl⟩
      · exact p2 _ e2
      · exact ho y es u e hu f1
theorem StM.dropX {m cm : Str → Option Value} {I : Addr} {o : Obj} (h : StM c A s₀ G₀ (X.add I o) env σ G m cm s) : StM c A s₀ G₀ X env σ G m cm s ∧ Has s.heap I o ∧ ¬ FrameAt env I ∧ (∀ o, ¬ G I o) ∧ ∀ y es w, σ.lookup y = some (.own es) → Stands env m cm y w → w ≠ .ref I := by
  refine ⟨⟨h.fr, h.gl, h.gl0, h.above, h.old, h.tb, h.on, h.g0, h.new, h.gF, fun b p e => h.xon _ _ (.inl e), fun b hb p e => h.xF _ hb _ (.inl e), fun b p e p' x => h.gX _ _ e _ (.inl x), fun y sl e => ?_, h.dis⟩, h.xon _ _ Gh.add_self, fun q => h.xF _ q _ Gh.add_self, fun o' e => h.gX _ _ e _ Gh.add_self, fun y es w e hw q => ?_⟩
  · obtain ⟨u, hu, b⟩ := h.nm y sl e
    refine ⟨u, hu, ?_⟩
    cases sl with
    | val d => exact b
    | own es =>
      obtain ⟨a', vs', n', f1, f2, r2, p1, p2, p3, p4⟩ := b
      exact ⟨a', vs', n', f1, f2, r2, p1, fun o e2 => p2 _ (.inl e2), p3, p4⟩
  · obtain ⟨u, hu, a', vs', n', f1, f2, r2, p1, p2, p3, p4⟩ := h.nm y _ e
    have := hw.one hu
    rw [q, f1] at this
    cases this
    exact p2 _ Gh.add_self
theorem drop_cons {ds : List D} {i : Nat} {d : D} (h : ds[i]? = some d) : ds.drop i = d :: ds.drop (i + 1) := by
  obtain ⟨hi, rfl⟩ := List.getElem?_eq_some_iff.mp h
  exact List.drop_eq_getElem_cons hi
theorem StM.ownNe {m cm : Str → Option Value} {I : Addr} (q : StM c A s₀ G₀ X env σ G m cm s) (hI : s.heap.get? I = none) : ∀ y es w, σ.lookup y = some (.own es) → Stands env m cm y w → w ≠ .ref I := fun y es w e hw k => by
  obtain ⟨u, hu, a', vs', n', f1, f2, _⟩ := q.nm y _ e
  have := hw.one hu
  rw [k, f1] at this
  cases this
  rw [f2] at hI; cases hI
/-- the iterator stands behind a turn -/
theorem iter_fix {I : Addr} {ds : List D} {s' s4 s₂ : Shared} {fp : List Addr} {P : Nat → Value → Prop} {Sti : Nat → Heap → Prop} {h₁ : Heap} {k : Nat} {Gi G4 : Gh} {o₁ : Obj} (Sr : SrcAt c A G s I ds s₂ fp P Sti) (hst₁ : Sti k h₁) (on : OnG c Gi s') (hk : ∀ b o, b ≠ I → s'.heap.get? b = some o → h₁.get? b = some o) (hG : ∀ a o, G a o → Gi a o)
    (ho₁ : h₁.get? I = some o₁) (hI : Has s4.heap I o₁) (on4 : OnG c G4 s4) (hG4 : ∀ a o, Gi a o → G4 a o) : Sti k s4.heap := Sr.W.frame _ _ _ hst₁ fun b hb o e => by
  have e' : h₁.get? b = some o := e
  by_cases hbI : b = I
  · subst hbI
    rw [ho₁] at e'
    cases e'
    exact hI.eq (Sr.nd _ _ hst₁ _ hb _ ho₁)
  · obtain ⟨ob, hob⟩ := Sr.fpG b hb hbI
    obtain ⟨o', e0, al⟩ := (on.has _ _ (hG _ _ hob)).to
    have e1 : h₁.get? b = some o' := hk b o' hbI e0
    have nd : soft ob = false := al.soft ▸ Sr.nd _ _ hst₁ _ hb _ e1
    rw [e1] at e'
    cases e'
    rw [al.eq nd]
    exact (on4.has _ _ (hG4 _ _ (hG _ _ hob))).eq (soft_D nd)
set_option maxHeartbeats 1000000 in
theorem for_at {target iter : Expr} {body : List Stmt} {pos : Pos} {xd : D} {ds : List D} {okd : D → Prop} {bs : D → Sig} (hF : EnvF env) (st : St c A s₀ G₀ X env σ G s) (hit : Res c A G s (eval iter env) xd) (hid : ItD c A xd ds) (B : BindF c A env target okd bs) (hokd : ∀ d ∈ ds, okd d)
    (h : ForGo c A env bs body Φ ds σ) (hs : ∀ x, foldedSetIterable iter env x = pure x := by intro _; rfl) : wpAny (model c.prog c.w) A (exec (.For target iter body [] pos) env) (Done c A s₀ G₀ X env G Φ) (fun _ _ => False) s := by
  refine wpAny_For (hit.use fun xv G1 s1 g1 r1 => ?_) hs
  have st1 := st.grow hF g1
  refine hid G1 s1 xv g1.on r1 _ _ fun I s2 fp P Sti Sr => ?_
  have st2 : St c A s₀ G₀ X env σ G1 s2 := st1.grow hF (Grow.still g1.on Sr.keep)
  obtain ⟨m1, cm1, q1⟩ := st1
  have hal := q1.alive hF.hu
  have hIfr : ¬ FrameAt env I := fun y => by obtain ⟨o, ho⟩ := hal I y; rw [Sr.fresh] at ho; cases ho
  have hIG : ∀ o, ¬ G1 I o := fun o e => g1.on.ne e Sr.fresh
  have hIX : ∀ o, ¬ X I o := fun o e => has_ne (q1.xon _ _ e) Sr.fresh
  have hI0 : s₀.heap.get? I = none := q1.fr.kh.none Sr.fresh
  have hIo := q1.ownNe Sr.fresh
  obtain ⟨oI, hoI, hqI⟩ := Sr.alive _ _ Sr.st
  have q2 : StM c A s₀ G₀ X env σ G1 m1 cm1 s2 := q1.grow hal (Grow.still g1.on Sr.keep)
  refine forLoop_q (fun n s' => ∃ i σi Gi m cm o, i ≤ ds.length ∧ n = ds.length + 1 - i ∧ StM c A s₀ G₀ (X.add I o) env σi Gi m cm s' ∧ Sti i s'.heap ∧ (∀ a o, G1 a o → Gi a o) ∧ ForGo c A env bs body Φ (ds.drop i) σi) ?_ (ds.length + 1) s2
    ⟨0, σ, G1, m1, cm1, oI, Nat.zero_le _, rfl, q2.addX hoI hIfr hIG hIo, Sr.st, fun _ _ e => e, by simpa using h⟩
  rintro n s' ⟨i, σi, Gi, m, cm, o, hi, rfl, q, hst, hG, hgo⟩
  obtain ⟨qd, hIo', hf', hG', hown'⟩ := q.dropX
  have hfrm : ∀ h₁ : Heap, (∀ b o, b ≠ I → s'.heap.get? b = some o → h₁.get? b = some o) → FrOk c A h₁ := fun h₁ hk => q1.gl.fr.step2 q.gl.fr fun L ⟨o1, _, _, h1, _⟩ ⟨o2, es2, n2, h2, hd2⟩ => ⟨o2, es2, n2, hk L o2 (fun z => by rw [z, Sr.fresh] at h1; cases h1) h2, hd2⟩
  by_cases hlt : i < ds.length
  · refine Sr.W.item i _ _ _ hlt hst fun v h₁ tk₁ hPv hst₁ hk₁ => ?_
    have hk₁' : ∀ b o, b ≠ I → s'.heap.get? b = some o → h₁.get? b = some o := fun b o hb e => hk₁ b o (by simpa using hb) e
    obtain ⟨d, hd, rd⟩ := Sr.val i v hPv Gi hG
    have hdm : d ∈ ds := List.mem_of_getElem? hd
    have qb := qd.but (tk := tk₁) hk₁' hf' hG' hIX hI0 (hfrm _ hk₁') hown'
    obtain ⟨o₁, ho₁, hq₁⟩ := Sr.alive _ _ hst₁
    have qa := qb.addX ho₁ hf' hG' hown'
    refine ⟨⟨o₁, ho₁, hq₁⟩, B s₀ G₀ (X.add I o₁) σi Gi _ v d _ _ ⟨m, cm, qa⟩ rd (hokd d hdm) fun G3 s3 st3 hG3 => ?_⟩
    rw [drop_cons hd] at hgo
    refine wpAny_mono (hgo s₀ G₀ (X.add I o₁) G3 s3 st3) (fun fl s4 q4 => ?_) fun _ _ x => x
    obtain ⟨G4, σ4, fd, ⟨m4, cm4, q4⟩, hG4, hfl, hΦ⟩ := q4
    have hGi4 : ∀ a o, Gi a o → G4 a o := fun a o e => hG4 _ _ (hG3 _ _ e)
    have hG14 : ∀ a o, G a o → G4 a o := fun a o e => hGi4 _ _ (hG _ _ (g1.sub _ _ e))
    cases fl <;> cases fd <;> first
      | exact hfl.elim
      | exact ⟨ds.length + 1 - (i + 1), by (first | assumption | exact Int.natCast_nonneg _ | exact Nat.zero_le _ | exact Nat.le_refl _ | decide | exact Nat.le_trans (by assumption) (by decide) | lia), i + 1, σ4, G4, m4, cm4, o₁, hlt, rfl, q4, iter_fix Sr hst₁ q.on hk₁' hG ho₁ (q4.xon _ _ Gh.add_self) q4.on hGi4, fun a o e => hGi4 _ _ (hG _ _ e), hΦ⟩
      | exact ⟨G4, σ4, .next, ⟨m4, cm4, q4.dropX.1⟩, hG14, trivial, hΦ⟩
      | exact ⟨G4, σ4, .ret _, ⟨m4, cm4, q4.dropX.1⟩, hG14, hfl, hΦ⟩
  · obtain rfl : i = ds.length := Nat.le_antisymm hi (Nat.not_lt.mp hlt)
    refine Sr.W.done _ _ _ hst fun h₁ tk₁ hk₁ => ?_
    have hk₁' : ∀ b o, b ≠ I → s'.heap.get? b = some o → h₁.get? b = some o := fun b o hb e => hk₁ b o (by simpa using hb) e
    rw [List.drop_length] at hgo
    exact ⟨Gi, σi, .next, ⟨m, cm, qd.but (tk := tk₁) hk₁' hf' hG' hIX hI0 (hfrm _ hk₁') hown'⟩, fun a o e => hG _ _ (g1.sub _ _ e), trivial, hgo⟩
theorem ex_for {target iter : Expr} {body : List Stmt} {pos : Pos} {xd : D} {ds : List D} {okd : D → Prop} {bs : D → Sig} (hF : EnvF env) (hit : Ev c A env σ iter xd) (hid : ItD c A xd ds) (B : BindF c A env target okd bs) (hokd : ∀ d ∈ ds, okd d)
    (h : ForGo c A env bs body Φ ds σ) (hs : ∀ x, foldedSetIterable iter env x = pure x := by intro _; rfl) : Ex1 c A env σ (.For target iter body [] pos) Φ := fun s₀ G₀ X G s st => for_at hF st (hit G s st.ok) hid B hokd h hs
end
end Mine
end


/-! part B13 -/
section
open PySem PySem.W PyProof.Rows PySem.Calls PySem.Spec
set_option Elab.async false
set_option linter.unusedVariables false
set_option maxRecDepth 100000
namespace Mine
section
variable {c : Cx} {A : Around} {env : Env} {σ : Sig} {Φ : Post} {s₀ s : Shared} {G₀ X G : Gh}
/-- x.append(e) on the frame's own list -/
theorem ex_append {x : Str} {px apos pos spos : Pos} {e : Expr} {ds : List D} {d : D} {pl : Sem Bool} (hF : EnvF env) (hx : σ.lookup x = some (.own ds)) (he : Ev c A env σ e d) (hz : ds.length ≤ sizeLine) (h : Φ .next ((x, .own (ds ++ [d])) :: σ))
    (hd : (x == ("__debug__" : Str)) = false := by decide)
    (hc : eval (.Call (.Attribute (.Name x px) (Str.ofString "append") apos) [e] [] pos) env = (do
      let ov ← eval (.Name x px) env
      standAt apos.atName
      let (f, first) ← holding [ov] (getMethod ov (Str.ofString "append") pl)
      callWith pos f first (backTo pos (starEach [e] env)) []) := by rfl)
    (hs : starEach [e] env = (false, eval e env) :: starEach [] env := by rfl)
    (hi : interactive env = false := by rfl) (hsw : swapsWith (.Call (.Attribute (.Name x px) (Str.ofString "append") apos) [e] [] pos) none spos.line env = pure false := by rfl) :
    Ex1 c A env σ (.Expr (.Call (.Attribute (.Name x px) (Str.ofString "append") apos) [e] [] pos) spos) Φ := fun s₀ G₀ X G s ⟨m, cm, q⟩ => by
  refine wpAny_Expr_any ?_ hi hsw
  obtain ⟨v, hv, a, vs, n, rfl, ho, _⟩ := q.nm x _ hx
  refine MethodCall_ (pl := pl) (wpAny_Name (loadName_of hF.ok (hv.reads q.fr) ?_) hd) hc
  refine Calls.getMethod_list_append ho rfl rfl ?_
  refine callWith_method1 (wpAny_items_cons ((he G s q.ok).use fun v2 G2 s2 g2 r2 => wpAny_items_nil ?_) hs) hs rfl
  exact (q.grow (q.alive hF.hu) g2).append hx hv r2 hz fun s' st => ⟨G2, _, .next, st, g2.sub, trivial, h⟩
theorem wp_setItem {prog : Program} {w : World} {l : Addr} {vs : List Value} {n : Nat} {k : Int} {t : Tok} {v : Value} {Q : Unit → Shared → Prop} {E : Value → Shared → Prop} (ho : s.heap.get? l = some (lstObj vs n)) (h0 : 0 ≤ k) (hfit : k < 2 ^ 63) (hn : k < vs.length)
    (hQ : ∀ h', h'.get? l = some (lstObj (vs.set k.toNat v) n) → Heap.SameBut l s.heap h' → Q () { s with heap := h' }) : wpAny (model prog w) A (setItem (.ref l) (.int k t) v) Q E s := by
  have hl : s.heap.IsList l vs.toArray := ⟨_, ho, rfl, _, rfl⟩
  unfold setItem
  try with_reducible refine wpAny_holding ?_
  first | refine wpAny_bind (wpAny_pure ?_) | skip
  refine wpAny_bind (wpAny_sequenceKey hl.typeIs (by decide) ?_)
  refine wpAny_bind (wpAny_callSpecial?_slot (name := Str.ofString "__setitem__") hl.typeIs slot_list_setitem
    (wpAny_call_entry slot_list_setitem hl.typeIs entry_list_setitem ?_ (args_list_setitem _ _ _)))
  show wpAny _ _ (Builtin.List.listSubscript? (.int k t) >>= _) _ _ s
  refine wpAny_bind (wpAny_listSubscript_int (fitsIndex_of h0 hfit) ?_)
  clear hfit
  obtain ⟨j, rfl⟩ := Int.eq_ofNat_of_zero_le h0
  have hj : j < vs.toArray.size := by simp; (first | assumption | exact Int.natCast_nonneg _ | exact Nat.zero_le _ | exact Nat.le_refl _ | decide | exact Nat.le_trans (by assumption) (by decide) | lia)
  have hx' : vs.toArray[j]? = some vs.toArray[j] := Array.getElem?_eq_getElem hj
  show wpAny _ _ ((seqItemAt l j >>= fun r => pure (r.map (j, ·))) >>= _) _ _ s
  refine wpAny_bind (wpAny_bind (wpAny_seqItemAt ho rfl (wpAny_pure ?_)))
  rw [hx']
  show wpAny _ _ (setSeqItemAt l j v >>= _) _ _ s
  have hfin : (s.heap.update l (Obj.mapSeq (·.setIfInBounds j v))).get? l = some (lstObj (vs.set j v) n) := by
    rw [Heap.get?_update_self _ ho (by simp [Obj.mapSeq]; rfl)]
    simp [Obj.mapSeq, lstObj]
  refine wpAny_bind (wpAny_setSeqItemAt ho rfl ?_)
  first
    | exact wpAny_bind (wpAny_pure (wpAny_pure ⟨.none, rfl, wpAny_pure (hQ _ hfin (Heap.SameBut.update ..))⟩))
    | exact wpAny_pure ⟨.none, rfl, wpAny_pure (hQ _ hfin (Heap.SameBut.update ..))⟩
/-- the own list's object is another list now -/
theorem StM.ownTo {m cm : Str → Option Value} {x : Str} {a : Addr} {vs' : List Value} {n' : Nat} {ds ds' : List D} {h' : Heap} (h : StM c A s₀ G₀ X env σ G m cm s) (hx : σ.lookup x = some (.own ds)) (hv : Stands env m cm x (.ref a)) (hs : Heap.SameBut a s.heap h') (ho' : h'.get? a = some (lstObj vs' n')) (r : RepAll G vs' ds') :
    StM c A s₀ G₀ X env ((x, .own ds') :: σ) G m cm { s with heap := h' } := by
  obtain ⟨v', hv', a', vs, n, e1, ho, r', q1, q2, q3, q4⟩ := h.nm x _ hx
  have e2 := hv.one hv'
  rw [e1] at e2
  cases e2
  have hk : ∀ b o, b ≠ a → s.heap.get? b = some o → h'.get? b = some o := fun b o hb e => hs.extBut b o hb e
  have hfr : ∀ b, FrameAt env b → b ≠ a := fun b hb q => q4 (q ▸ hb)
  have hb0 : c.base.get? a = none := by
    cases q : c.base.get? a with
    | none => rfl
    | some o => have := h.gl0 _ _ q; rw [q3] at this; cases this
  refine ⟨⟨?_, h.fr.ns.sameBut hs (hfr _ (.inl rfl)), fun b o e => (h.fr.kh b o e).off fun o' => hk b o' (fun q => by rw [q, q3] at e; cases e), h.fr.fresh, fun k c hc => (h.fr.cell k c hc).sameBut hs (h.cellNe q3 q4 hc), h.fr.apart, h.fr.ne⟩,
    ⟨h.gl.kin, h.gl.ktop, fun b o e => hk b o (fun q => by rw [q, hb0] at e; cases e) (h.gl.stays b o e), h.gl.fr.step fun L _ ⟨o, es, n', ho1, hd1⟩ => ⟨o, es, n', hk L o (fun q => by rw [q, ho] at ho1; cases ho1; cases hd1) ho1, hd1⟩⟩, h.gl0, h.above, h.old, h.tb,
    h.on.off (fun b o e o' => hk b o' (fun q => q1 o (q ▸ e))) (fun q hq b hb o' => hk b o' (fun z => h.tb q hq b hb (z ▸ q3))), h.g0, h.new, h.gF, fun b o e => (h.xon b o e).off fun o' => hk b o' (fun q => q2 o (q ▸ e)), h.xF, h.gX, fun y sl e => ?_, fun y z es fs u f1 f2 s1 s2 => ?_⟩
  · obtain ⟨h₁, tk, e⟩ := h.fr.same
    exact ⟨h', tk, by rw [e]⟩
  · rw [List.lookup_cons] at e
    cases q : y == x with
    | true =>
      rw [q] at e; cases e; rw [beq_iff_eq.mp q]
      exact ⟨_, hv, a, vs', n', rfl, ho', r, q1, q2, q3, q4⟩
    | false =>
      rw [q] at e
      have hne : y ≠ x := by simpa using q
      obtain ⟨u, hu, b⟩ := h.nm y sl e
      refine ⟨u, hu, ?_⟩
      cases sl with
      | val d => exact b
      | own es =>
        obtain ⟨a', vs', n', f1, f2, r2, p1, p2, p3, p4⟩ := b
        refine ⟨a', vs', n', f1, hk _ _ (fun q => ?_) f2, r2, p1, p2, p3, p4⟩
        subst q
        subst f1
        exact hne (h.dis y x es ds _ e hx hu hv)
  · have back : ∀ y es, List.lookup y ((x, Sl.own ds') :: σ) = some (.own es) → ∃ es', σ.lookup y = some (.own es') := fun y es e => by
      rw [List.lookup_cons] at e
      cases q : y == x with
      | true => rw [beq_iff_eq.mp q]; exact ⟨ds, hx⟩
      | false => rw [q] at e; exact ⟨es, e⟩
    obtain ⟨es', f1'⟩ := back y es f1
    obtain ⟨fs', f2'⟩ := back z fs f2
    exact h.dis y z es' fs' u f1' f2' s1 s2
theorem RepAll.set {vs : List Value} {ds : List D} {v : Value} {d : D} (h : RepAll G vs ds) (r : Rep G v d) (k : Nat) : RepAll G (vs.set k v) (ds.set k d) := by
  induction vs generalizing ds k with
  | nil => cases h; exact .nil
  | cons u vs ih =>
    cases h with
    | cons h1 h2 =>
      cases k with
      | zero => exact .cons r h2
      | succ k => exact .cons h1 (ih h2 k)
/-- x[i] = e on the frame's own list -/
theorem ex_setitem {x : Str} {px ppos pos : Pos} {i e : Expr} {ds : List D} {d : D} {k : Int} (hF : EnvF env) (hx : σ.lookup x = some (.own ds)) (he : Ev c A env σ e d) (hi : Ev c A env σ i (.int k)) (h0 : 0 ≤ k) (h1 : k < 2 ^ 63) (h2 : k < ds.length)
    (h : Φ .next ((x, .own (ds.set k.toNat d)) :: σ)) (hd : (x == ("__debug__" : Str)) = false := by decide)
    (hsw : swapsWith e (some (.Subscript (.Name x px) i ppos)) pos.line env = pure false := by rfl) : Ex1 c A env σ (.Assign [.Subscript (.Name x px) i ppos] e pos) Φ := fun s₀ G₀ X G s ⟨m, cm, q⟩ => by
  refine wpAny_Assign_Subscript ((he G s q.ok).use fun v G1 s1 g1 r1 => ?_) hsw
  have q1 := q.grow (q.alive hF.hu) g1
  obtain ⟨u, hu, _⟩ := q1.nm x _ hx
  refine wpAny_Name (loadName_of hF.ok (hu.reads q1.fr) ?_) hd
  refine (hi G1 s1 q1.ok).use fun w G2 s2 g2 r2 => ?_
  have q2 := q1.grow (q1.alive hF.hu) g2
  obtain ⟨u', hu', a, vs, n, e1, ho, r, _⟩ := q2.nm x _ hx
  have := hu.one hu'
  subst this
  subst e1
  (first | obtain rfl := r2.inv0 | obtain ⟨_, rfl⟩ := r2.inv | obtain rfl := r2.inv | cases r2)
  refine wp_setItem ho h0 h1 (by rw [r.length]; exact h2) fun h' ho' hs => ?_
  exact ⟨G2, _, .next, ⟨m, cm, q2.ownTo hx hu hs ho' (r.set (r1.mono g2.sub) _)⟩, fun _ _ e => g2.sub _ _ (g1.sub _ _ e), trivial, h⟩
theorem ex_while {test : Expr} {body : List Stmt} {pos : Pos} (hF : EnvF env) (I : Nat → Sig → Prop)
    (turn : ∀ n σ, I n σ → ∃ b, Tr c A env σ test b ∧ (b = true → ExS c A env σ body fun fd σ' => match fd with
      | .next => ∃ m, m < n ∧ I m σ'
      | .cont => ∃ m, m < n ∧ I m σ'
      | .brk => Φ .next σ'
      | .ret r => Φ (.ret r) σ') ∧ (b = false → Φ .next σ)) (n : Nat) (h : I n σ) : Ex1 c A env σ (.While test body [] pos) Φ := fun s₀ G₀ X G s st => by
  refine wpAny_While (codeAny_whileLoop (fun n s' => ∃ σ' G', St c A s₀ G₀ X env σ' G' s' ∧ (∀ a o, G a o → G' a o) ∧ I n σ') ?_ n ⟨σ, G, st, fun _ _ e => e, h⟩)
  rintro n s' ⟨σ', G', st', hG, hI⟩
  obtain ⟨b, hb, h1, h2⟩ := turn n σ' hI
  refine wpAny_mono (hb G' s' st'.ok) (fun b' s2 q => ?_) fun _ _ x => x.elim
  obtain ⟨rfl, G2, g2⟩ := q
  cases b' with
  | false =>
    simp only [Bool.false_eq_true, if_false]
    exact wpAny_execs_nil ⟨G2, σ', .next, st'.grow hF g2, fun _ _ e => g2.sub _ _ (hG _ _ e), trivial, h2 rfl⟩
  | true =>
    simp only [if_true]
    refine wpAny_mono (h1 rfl s₀ G₀ X G2 s2 (st'.grow hF g2)) (fun fl s3 q3 => ?_) fun _ _ x => x.elim
    obtain ⟨G3, σ3, fd, st3, hG3, hfl, hΦ⟩ := q3
    have hG13 : ∀ a o, G a o → G3 a o := fun _ _ e => hG3 _ _ (g2.sub _ _ (hG _ _ e))
    cases fl <;> cases fd <;> first
      | exact hfl.elim
      | (obtain ⟨k, hk, hI3⟩ := hΦ; exact ⟨k, hk, σ3, G3, st3, hG13, hI3⟩)
      | exact ⟨G3, σ3, .next, st3, hG13, trivial, hΦ⟩
      | exact ⟨G3, σ3, .ret _, st3, hG13, hfl, hΦ⟩
/-- a pair assigned to two names -/
theorem ex_pair {x y : Str} {px py tpos pos : Pos} {k : Nat} {e : Expr} {a b : D} (hA : A.handled = none) (hF : EnvF env) (hx : Storable env x) (hy : Storable env y) (he : Ev c A env σ e (.tup [a, b])) (h : Φ .next ((y, .val b) :: (x, .val a) :: σ))
    (hs : swapsWithSole [.Tuple [.Name x px, .Name y py] k tpos] e pos.line env = pure false := by rfl) (hw : swappedStores [.Tuple [.Name x px, .Name y py] k tpos] e env = pure none := by rfl) : Ex1 c A env σ (.Assign [.Tuple [.Name x px, .Name y py] k tpos] e pos) Φ := fun s₀ G₀ X G s st =>
  Assign_Tuple ((he G s st.ok).use fun v G1 s1 g1 r1 => bindF_tup hA hF hx hy s₀ G₀ X σ G1 s1 v _ _ _ (st.grow hF g1) r1 ⟨a, b, rfl⟩ fun G2 s2 st2 hG => ⟨G2, _, .next, st2, fun _ _ e => hG _ _ (g1.sub _ _ e), trivial, h⟩) hs hw
/-- the same where the machine stores in the other order -/
theorem ex_pairS {x y : Str} {px py tpos pos : Pos} {k : Nat} {e : Expr} {a b : D} (hA : A.handled = none) (hF : EnvF env) (hx : Storable env x) (hy : Storable env y) (he : Ev c A env σ e (.tup [a, b])) (h : Φ .next ((x, .val a) :: (y, .val b) :: σ))
    (hs : swapsWithSole [.Tuple [.Name x px, .Name y py] k tpos] e pos.line env = pure false := by rfl) (hw : swappedStores [.Tuple [.Name x px, .Name y py] k tpos] e env = pure (some [x, y]) := by rfl) : Ex1 c A env σ (.Assign [.Tuple [.Name x px, .Name y py] k tpos] e pos) Φ := fun s₀ G₀ X G s st => by
  refine Assign_Tuple_swapped (names := [x, y]) ((he G s st.ok).use fun v G1 s1 g1 r1 => ?_) hs hw
  have st1 := st.grow hF g1
  obtain ⟨t, vs, n, rfl, g, r⟩ := r1.inv
  · cases r with
    | @cons u vs' _ _ ra r =>
      cases r with
      | @cons w' vs'' _ _ rb r =>
        (first | obtain rfl := r.inv0 | obtain ⟨_, rfl⟩ := r.inv | obtain rfl := r.inv | cases r)
        refine wpAny_unpackItems_tuple (items := [u, w'].toArray) hA ⟨_, g1.on.at g rfl, rfl, _, rfl⟩ fun h' he => ?_
        have gk : Grow c G1 s1 G1 { s1 with heap := h' } := Grow.still g1.on ⟨h', s1.toks, rfl, fun b o e => he b o (Nat.ne_of_lt (Heap.lt_size e)) e⟩
        obtain ⟨m, cm, q⟩ := st1.grow hF gk
        show wpAny _ A (assignInOrder [fun v => bindName env y v, fun v => bindName env x v] [w', u]) _ _ _
        refine wpAny_assignInOrder_more (wpAny_bindName (q.store hF.ok hy rb fun s2 st2 => ?_))
        obtain ⟨m2, cm2, q2⟩ := st2
        exact wpAny_assignInOrder_more (wpAny_bindName (q2.store hF.ok hx ra fun s3 st3 => wpAny_assignInOrder_none ⟨G1, _, .next, st3, g1.sub, trivial, h⟩))
theorem ex_three {x y z : Str} {px py pz pos : Pos} {e : Expr} {d : D} (hF : EnvF env) (hx : Storable env x) (hy : Storable env y) (hz : Storable env z) (he : Ev c A env σ e d) (h : Φ .next ((z, .val d) :: (y, .val d) :: (x, .val d) :: σ))
    (hw : swappedStores [.Name x px, .Name y py, .Name z pz] e env = pure none := by rfl) : Ex1 c A env σ (.Assign [.Name x px, .Name y py, .Name z pz] e pos) Φ := fun s₀ G₀ X G s st =>
  wpAny_Assign_three ((he G s st.ok).use fun v G1 s1 g1 r1 => by
    obtain ⟨m, cm, q⟩ := st.grow hF g1
    refine wpAny_assign_Name (q.store hF.ok hx r1 fun s2 st2 => ?_)
    obtain ⟨m2, cm2, q2⟩ := st2
    refine wpAny_assign_Name (q2.store hF.ok hy r1 fun s3 st3 => ?_)
    obtain ⟨m3, cm3, q3⟩ := st3
    exact wpAny_assign_Name (q3.store hF.ok hz r1 fun s4 st4 => ⟨G1, _, .next, st4, g1.sub, trivial, h⟩)) rfl hw

/-! calls of the text's defs -/
theorem bindL_out {kindOf : Str → Option NameKind} {x : Str} : ∀ (bs : List (Str × Value)) (m : Str → Option Value), x ∉ bs.map (·.1) → bindL kindOf bs m x = m x
  | [], _, _ => rfl
  | (n, v) :: r, m, h => by
    simp only [List.map_cons, List.mem_cons, not_or] at h
    unfold bindL
    rw [bindL_out r _ h.2]
    split <;> simp [h.1]
theorem bindC_out {kindOf : Str → Option NameKind} {x : Str} : ∀ (bs : List (Str × Value)) (m : Str → Option Value), x ∉ bs.map (·.1) → bindC kindOf bs m x = m x
  | [], _, _ => rfl
  | (n, v) :: r, m, h => by
    simp only [List.map_cons, List.mem_cons, not_or] at h
    unfold bindC
    rw [bindC_out r _ h.2]
    split <;> simp [h.1]
theorem bindL_in {kindOf : Str → Option NameKind} {x : Str} {v : Value} : ∀ (bs : List (Str × Value)) (m : Str → Option Value), (bs.map (·.1)).Nodup → (x, v) ∈ bs → kindOf x = some .local → bindL kindOf bs m x = some v
  | (n, w) :: r, m, hn, hm, hk => by
    simp only [List.map_cons, List.nodup_cons] at hn
    unfold bindL
    rcases List.mem_cons.mp hm with e | hm
    · cases e
      rw [bindL_out r _ hn.1, if_pos hk]; simp
    · exact bindL_in r _ hn.2 hm hk
theorem bindC_in {kindOf : Str → Option NameKind} {x : Str} {v : Value} : ∀ (bs : List (Str × Value)) (m : Str → Option Value), (bs.map (·.1)).Nodup → (x, v) ∈ bs → kindOf x ≠ some .local → bindC kindOf bs m x = some v
  | (n, w) :: r, m, hn, hm, hk => by
    simp only [List.map_cons, List.nodup_cons] at hn
    unfold bindC
    rcases List.mem_cons.mp hm with e | hm
    · cases e
      rw [bindC_out r _ hn.1, if_neg hk]; simp
    · exact bindC_in r _ hn.2 hm hk
def Gh.none : Gh := fun _ _ => False
/-- the frame at a call's start -/
theorem st_start {L : Addr} {names : List Str} {vs : List Value} {ds : List D} (on : OnG c G s) (gl : c.Gl A s.heap) (r : RepAll G vs ds) (hlen : names.length = ds.length) (hnd : names.Nodup) {s₁ : Shared}
    (hL : s.heap.objs.size ≤ env.locals) (hu : ∀ n a, (n, a) ∈ env.cells → env.cells.lookup n = some a) (fr : InCallC s env.locals (bindL env.kindOf (names.zip vs) fun _ => Option.none) env.cells (bindC env.kindOf (names.zip vs) fun _ => Option.none) s₁)
    (hst : ∀ x ∈ names, Storable env x) (hfm : env.frame = some env.locals) (hkm : env.scope.kind ≠ .module) (hown : ∀ n a, (n, a) ∈ env.cells → env.kindOf n = some .cell) : St c (A.deeper env) s G Gh.none env (names.zip (ds.map Sl.val)) G s₁ := by
  have hfree : ∀ a, FrameAt env a → s.heap.get? a = Option.none := fun a ha => by
    have : s.heap.objs.size ≤ a := by
      rcases ha with rfl | ⟨n, hn, _⟩
      · exact hL
      · exact Nat.le_of_lt (Nat.lt_of_le_of_lt hL (fr.above n a hn))
    cases q : s.heap.get? a with
    | none => rfl
    | some o => exact absurd (Heap.lt_size q) (Nat.not_lt.mpr this)
  have hl2 : vs.length = ds.length := r.length
  have gl' : c.Gl (A.deeper env) s₁.heap := by
    refine ⟨gl.kin, gl.ktop, fun b o e => fr.toInCall.keep _ _ (gl.stays b o e), ?_⟩
    obtain ⟨outer, e, r⟩ := gl.fr
    refine ⟨env :: outer, Around.frames_deeper e, fun v hv => ?_⟩
    rcases List.mem_cons.mp hv with rfl | hv
    · refine ⟨hkm, _, hfm, ?_, isDict_ns fr.toInCall.ns⟩
      cases q : c.base.get? v.locals with
      | none => rfl
      | some o => have := gl.stays _ _ q; rw [hfree _ (.inl rfl)] at this; cases this
    · obtain ⟨L', a, b, d⟩ := (r v hv).2
      exact ⟨(r v hv).1, L', a, b, (Kh.of fr.toInCall.keep).dict d⟩
  refine ⟨_, _, .of fr, gl', gl.stays, fun n a e _ => fr.above n a e, fun n a e q => absurd (hown n a e) q, fun q hq a ha => on.tabSome hq ha, on.keeps (by obtain ⟨h1, t1, e1⟩ := fr.toInCall.same; exact ⟨h1, t1, e1, by have := fr.toInCall.keep; rw [e1] at this; exact this⟩) (fun _ _ e => e) (fun _ _ e => .inl e), fun _ _ e => e, fun _ _ e => .inl e, fun a ha o e => ?_, fun _ _ e => e.elim, fun _ _ _ e => e, fun _ _ _ _ e => e, fun x sl e => ?_, fun x y d1 d2 v e1 e2 _ _ => ?_⟩
  · exact on.ne e (hfree a ha)
  · have hm := mem_of_lookup e
    obtain ⟨i, hi, he⟩ := List.mem_iff_getElem.mp hm
    have hi' : i < names.length ∧ i < ds.length := by simp at hi; (first | assumption | exact Int.natCast_nonneg _ | exact Nat.zero_le _ | exact Nat.le_refl _ | decide | exact Nat.le_trans (by assumption) (by decide) | lia)
    have hx : names[i]'hi'.1 = x := by simpa using congrArg Prod.fst he
    have hd : Sl.val (ds[i]'hi'.2) = sl := by simpa using congrArg Prod.snd he
    obtain ⟨v, hv, rv⟩ := r.get (k := i) (List.getElem?_eq_getElem hi'.2)
    have hvl : i < vs.length := by (first | assumption | exact Int.natCast_nonneg _ | exact Nat.zero_le _ | exact Nat.le_refl _ | decide | exact Nat.le_trans (by assumption) (by decide) | lia)
    have hv' : vs[i]'hvl = v := by rw [List.getElem?_eq_getElem hvl] at hv; exact Option.some.inj hv
    have hmem : (x, v) ∈ names.zip vs := by
      refine List.mem_iff_getElem.mpr ⟨i, by simp; (first | assumption | exact Int.natCast_nonneg _ | exact Nat.zero_le _ | exact Nat.le_refl _ | decide | exact Nat.le_trans (by assumption) (by decide) | lia), ?_⟩
      simp [hx, hv']
    have hnd' : ((names.zip vs).map (·.1)).Nodup := by
      rw [List.map_fst_zip (by (first | assumption | exact Int.natCast_nonneg _ | exact Nat.zero_le _ | exact Nat.le_refl _ | decide | exact Nat.le_trans (by assumption) (by decide) | lia))]; exact hnd
    subst hd
    refine ⟨v, ?_, rv⟩
    rcases hst x (hx ▸ List.getElem_mem hi'.1) with hk | ⟨hk, t, ht⟩
    · exact .loc hk (bindL_in _ _ hnd' hmem hk)
    · exact .cell hk ht (bindC_in _ _ hnd' hmem (by rw [hk]; decide))
  · have hm := mem_of_lookup e1
    obtain ⟨i, hi, he⟩ := List.mem_iff_getElem.mp hm
    have := congrArg Prod.snd he
    simp at this
/-- a def's contract from its body -/
theorem fn_def {n : Nat} {f : Addr} {o : Obj} {fd : FuncData} {body : List Stmt} {names : List Str} {ds : List D} {d : D} (hA : AOk A (n + 1)) (hk : c.K.lookup f = some o) (hd : o.data = .func fd) (hcd : codeIn c.K fd.code fd.qualname = true) (hbody : fd.body = .stmts body) (hclo : fd.closure = [])
    (hbind : ∀ vs : List Value, vs.length = ds.length → bindArgs fd ⟨vs, []⟩ = pure (names.zip vs)) (hlen : names.length = ds.length) (hnd : names.Nodup) (hF : ∀ L, EnvF (callEnvC fd L f)) (hown : ∀ L n a, (n, a) ∈ (callEnvC fd L f).cells → (callEnvC fd L f).kindOf n = some .cell) (hst : ∀ L, ∀ x ∈ names, Storable (callEnvC fd L f) x)
    (h : ∀ L, AOk (A.deeper (callEnvC fd L f)) n → ExS c (A.deeper (callEnvC fd L f)) (callEnvC fd L f) (names.zip (ds.map Sl.val)) body fun fd' _ => fd' = .ret d)
    (hco : fd.scope.isCoroutine = false := by rfl) (hgen : fd.scope.isGenerator = false := by rfl) (hkind : fd.scope.kind = .function := by rfl) : Fn c A (.ref f) ds d := fun G s vs on gl r => by
  refine wpAny_call (codeAny_call_cells (fd := fd) (body := body) (binds := names.zip vs) (by have := hA.dep; (first | assumption | exact Int.natCast_nonneg _ | exact Nat.zero_le _ | exact Nat.le_refl _ | decide | exact Nat.le_trans (by assumption) (by decide) | lia)) (gl.inn _ _ hk) hd gl.top.nolimit (codeRec_of gl.inn hcd) hbody (hbind vs r.length) hclo ?_ ?_ hco hgen hkind)
  · intro x hx
    have hxm : x.1 ∈ names := (List.of_mem_zip (show (x.1, x.2) ∈ names.zip vs from hx)).1
    rcases hst s.heap.objs.size x.1 hxm with q | ⟨q, t, ht⟩
    · exact .inl q
    · exact .inr ⟨q, by rw [show List.lookup x.1 (cellsFrom (s.heap.objs.size + 1) fd.scope.names []) = some t from ht]; rfl⟩
  · intro s₁ fr
    have st := st_start (c := c) (A := A) (env := callEnvC fd s.heap.objs.size f) (L := s.heap.objs.size) on gl r hlen hnd (Nat.le_refl _) (hF _).hu fr (hst _) rfl (by show fd.scope.kind ≠ _; rw [hkind]; decide) (hown _)
    refine wpAny_mono (h s.heap.objs.size (hA.deeper _) s G Gh.none G s₁ st) (fun fl s' q => ?_) fun _ _ x => x.elim
    obtain ⟨G', σ', fd', ⟨m, cm, q⟩, hG, hfl, e⟩ := q
    subst e
    cases fl with
    | ret v => exact ⟨G', ⟨⟨q.fr.same, q.fr.kh, fun z => q.gl.stays⟩, hG, q.on, q.new⟩, hfl⟩
    | next => exact hfl.elim
    | brk => exact hfl.elim
    | cont => exact hfl.elim
end
end Mine
end


/-! part F0 -/
section
open PySem PySem.W PyProof.Rows PySem.Calls PySem.Spec
set_option Elab.async false
set_option linter.unusedVariables false
set_option maxRecDepth 100000
namespace Mine
/-- the text's i-th statement -/
def stmtN (i : Nat) : Stmt := PySem.Challenge.pw_to0024_01.main.body.getD i (.Pass default)
def bodyOf : Stmt → List Stmt
  | .FunctionDef _ _ body _ _ _ _ _ _ _ => body
  | .ClassDef _ _ _ body _ _ _ _ _ _ _ => body
  | _ => []
def scopeOf : Stmt → Scope
  | .FunctionDef _ _ _ _ _ _ scope _ _ _ => scope
  | _ => default
def nameOf : Stmt → Str
  | .FunctionDef name _ _ _ _ _ _ _ _ _ => name
  | _ => default
def paramsOf : Stmt → Arguments
  | .FunctionDef _ args _ _ _ _ _ _ _ _ => args
  | _ => default
def fdOf (st : Stmt) (pm code : Value) : FuncData := docDef (nameOf st) (paramsOf st) (bodyOf st) (scopeOf st) pm code .none
/-- the def of the statement st stands at a -/
structure DefAt (c : Cx) (a : Addr) (st : Stmt) : Prop where
  g : nsIn c.K mainGlobals (nameOf st) = some (some (.ref a))
  k : ∃ o pm code, c.K.lookup a = some o ∧ o.data = .func (fdOf st pm code) ∧ codeIn c.K code (nameOf st) = true
theorem envF_of {st : Stmt} {pm code : Value} {L a : Addr} (hk : (scopeOf st).kind = .function) (hnd : ((cellsFrom 0 (scopeOf st).names []).map (·.1)).Nodup) : EnvF (callEnvC (fdOf st pm code) L a) :=
  ⟨⟨hk, rfl, rfl⟩, fun n b h => lookup_of_mem_nodup (cellsFrom_names (scopeOf st).names 0 (L + 1) [] [] rfl ▸ hnd) h⟩
theorem own_of {names : List (Str × NameKind)} {k : Nat} (h : ((cellsFrom 0 names []).all fun p => names.lookup p.1 == some .cell) = true) : ∀ n a, (n, a) ∈ cellsFrom k names [] → names.lookup n = some .cell := fun n a hm => by
  have e : (cellsFrom k names []).map (·.1) = (cellsFrom 0 names []).map (·.1) := cellsFrom_names names k 0 [] [] rfl
  have hn : n ∈ (cellsFrom 0 names []).map (·.1) := e ▸ List.mem_map.mpr ⟨_, hm, rfl⟩
  obtain ⟨p, hp, rfl⟩ := List.mem_map.mp hn
  exact beq_iff_eq.mp (List.all_eq_true.mp h p hp)
abbrev envAt (st : Stmt) (pm code : Value) (L a : Addr) : Env := callEnvC (fdOf st pm code) L a
theorem fn_at {c : Cx} {A : Around} {n : Nat} {a : Addr} {st : Stmt} {names : List Str} {ds : List D} {d : D} (hA : AOk A (n + 1)) (D : DefAt c a st)
    (hk : (scopeOf st).kind = .function) (hnd0 : ((cellsFrom 0 (scopeOf st).names []).map (·.1)).Nodup)
    (hbind : ∀ pm code, ∀ vs : List Value, vs.length = ds.length → bindArgs (fdOf st pm code) ⟨vs, []⟩ = pure (names.zip vs)) (hlen : names.length = ds.length) (hnd : names.Nodup) (hst : ∀ pm code L, ∀ x ∈ names, Storable (envAt st pm code L a) x)
    (h : ∀ pm code L, EnvF (envAt st pm code L a) → AOk (A.deeper (envAt st pm code L a)) n → ExS c (A.deeper (envAt st pm code L a)) (envAt st pm code L a) (names.zip (ds.map Sl.val)) (bodyOf st) fun fd' _ => fd' = .ret d)
    (hco : (scopeOf st).isCoroutine = false) (hgen : (scopeOf st).isGenerator = false) (hown0 : ((cellsFrom 0 (scopeOf st).names []).all fun p => (scopeOf st).names.lookup p.1 == some .cell) = true := by decide +kernel) : Fn c A (.ref a) ds d := by
  obtain ⟨o, pm, code, k1, k2, k3⟩ := D.k
  exact fn_def hA k1 k2 k3 rfl rfl (hbind pm code) hlen hnd (fun L => envF_of hk hnd0) (fun L n a hm => own_of hown0 n a hm) (fun L => hst pm code L) (fun L hA' => h pm code L (envF_of hk hnd0) hA') hco hgen hk
/-- the builtins that the text uses are not hidden -/
structure Builts (c : Cx) : Prop where
  len : nsIn c.K mainGlobals "len" = some none
  range : nsIn c.K mainGlobals "range" = some none
  sum : nsIn c.K mainGlobals "sum" = some none
  min : nsIn c.K mainGlobals "min" = some none
  chr : nsIn c.K mainGlobals "chr" = some none
  str : nsIn c.K mainGlobals "str" = some none
  tuple : nsIn c.K mainGlobals "tuple" = some none
  isinstance : nsIn c.K mainGlobals "isinstance" = some none

theorem valueTest : (scopeOf (stmtN 17)).kind = .function := by rfl
theorem valueTest2 : ((cellsFrom 0 (scopeOf (stmtN 17)).names []).map (·.1)).Nodup := by decide +kernel
end Mine
end


/-! part F1 -/
section
open PySem PySem.W PyProof.Rows PySem.Calls PySem.Spec
set_option Elab.async false
set_option linter.unusedVariables false
set_option maxRecDepth 100000
namespace Mine
def valueP (ns : List Int) : Int := if !decide (1 ∈ ns) || ((ns.idxOf 1 : Nat) : Int).fmod 2 == 1 then 0 else 2 - ns.sum.fmod 2
theorem plainAll_ints (ns : List Int) : plainAll (ns.map .int) = true := by
  induction ns with
  | nil => rfl
  | cons n ns ih => exact ih
theorem any_ints (ns : List Int) (k : Int) : ((ns.map D.int).any fun y => PyData.eqv (toPy y) (toPy (.int k))) = decide (k ∈ ns) := by
  induction ns with
  | nil => simp
  | cons n ns ih =>
    rw [List.map_cons, List.any_cons, ih]
    have e : PyData.eqv (toPy (.int n)) (toPy (.int k)) = (n == k) := rfl
    rw [e]
    by_cases h : k = n
    · subst h; simp
    · have h' : (n == k) = false := by simpa using fun q => h q.symm
      simp [h, h']
set_option maxHeartbeats 1000000 in
theorem fn_value {c : Cx} {A : Around} {a : Addr} {ns : List Int} (hA : AOk A 1) (D : DefAt c a (stmtN 17)) (B : Builts c) (hz : ns.length ≤ 100) : Fn c A (.ref a) [.lst (ns.map .int)] (.int (valueP ns)) := by
  refine fn_at (names := [Str.ofString "figures"]) hA D rfl (by decide +kernel) (fun pm code vs h => ?_) rfl (by decide) (fun pm code L x hx => ?_) (fun pm code L hF hA' => ?_) rfl rfl
  · (obtain ⟨v, rfl⟩ := len1 h; rfl)
  · simp only [List.mem_singleton] at hx
    subst hx
    exact .inl rfl
  · conv => arg 5; whnf
    have hE := hF.ok
    have hh := hA'.hh
    refine ex_cons (ex_if (x := !decide (1 ∈ ns) || ((ns.idxOf 1 : Nat) : Int).fmod 2 == 1) ?_ hF (fun h => ex_cons (ex_return hF ev_int ?_)) (fun h => ex_nil (ex_cons (ex_return hF (ev_sub ev_int (ev_mod (ev_callB (evv_built hE rfl B.sum rfl) (evall_cons (ev_name hE rfl) evall_nil) (fn_sum hh)) ev_int (by decide))) ?_))))
    · refine tr_or ((tr_cmp1 ev_int (ev_name hE rfl) (cmp_notIn hA' rfl (plainAll_ints ns) (by decide))).cast (by rw [any_ints])) fun h1 => ?_
      have h1' : 1 ∈ ns := by simpa using h1
      exact tr_cmp1 (ev_mod (ev_meth1 (ev_name hE rfl) ev_int (hasM_lst F.slot_list_index F.type_list_index) (fn_indexI h1' (by (first | assumption | exact Int.natCast_nonneg _ | exact Nat.zero_le _ | exact Nat.le_refl _ | decide | exact Nat.le_trans (by assumption) (by decide) | lia)))) ev_int (by decide)) ev_int cmp_eqI
    · show FD.ret _ = _
      unfold valueP; rw [h]; rfl
    · show FD.ret _ = _
      unfold valueP; rw [h]; rfl
end Mine
end


/-! part F2 -/
section
open PySem PySem.W PyProof.Rows PySem.Calls PySem.Spec
set_option Elab.async false
set_option linter.unusedVariables false
set_option maxRecDepth 100000
namespace Mine
/-- what stands between the quotes, from behind the first -/
noncomputable def toldP : List Nat → List Nat
  | [] => []
  | [c] => if c = 34 then [] else [c]
  | c :: d :: r => if c = 34 then (if d = 34 then 34 :: toldP r else []) else c :: toldP (d :: r)
noncomputable def parseP (x : List Nat) : List Nat := if (x.drop 3).take 2 = [32, 34] then toldP (x.drop 5) else []
theorem exs_rest {c : Cx} {A : Around} {env : Env} {σ : Sig} {st : Stmt} {ss : List Stmt} {Φ : Post} (h : Ex1 c A env σ st (andThen c A env ss Φ)) : ExS c A env σ (st :: ss) Φ := ex_cons h
theorem sub_cons {σ τ : Sig} {x : Str} {sl : Sl} (h : σ.lookup x = some sl) (hs : ∀ p ∈ τ, σ.lookup p.1 = some p.2) : ∀ p ∈ (x, sl) :: τ, σ.lookup p.1 = some p.2 := fun p hp => by
  rcases List.mem_cons.mp hp with rfl | hp
  · exact h
  · exact hs p hp
theorem sub_nil {σ : Sig} : ∀ p ∈ ([] : Sig), σ.lookup p.1 = some p.2 := fun _ h => nomatch h
set_option maxHeartbeats 2000000 in
theorem fn_parse {c : Cx} {A : Around} {a : Addr} {x : List Nat} (hA : AOk A 1) (D : DefAt c a (stmtN 4)) (B : Builts c) (hz : x.length ≤ 10000) (h3 : x.take 3 = [50, 53, 55]) : Fn c A (.ref a) [.str x] (.str (parseP x)) := by
  refine fn_at (names := [Str.ofString "resp"]) hA D rfl (by decide +kernel) (fun pm code vs h => ?_) rfl (by decide) (fun pm code L y hy => ?_) (fun pm code L hF hA' => ?_) rfl rfl
  · (obtain ⟨v, rfl⟩ := len1 h; rfl)
  · simp only [List.mem_singleton] at hy
    subst hy
    exact .inl rfl
  · conv => arg 5; whnf
    have hE := hF.ok
    have hh := hA'.hh
    have hsl := sizeLine_eq
    refine ex_cons (ex_if (x := false) ((tr_cmp1 (ev_uptoS (k := 3) (ev_name hE rfl) ev_int (by (first | assumption | exact Int.natCast_nonneg _ | exact Nat.zero_le _ | exact Nat.le_refl _ | decide | exact Nat.le_trans (by assumption) (by decide) | lia))) (ev_str (l := [50, 53, 55])) cmp_neS).cast ?_) hF (fun h => nomatch h) fun _ => ex_nil ?_)
    · show (x.take 3 != _) = false
      rw [h3]; rfl
    refine ex_cons (ex_if (x := (x.drop 3).take 2 != [32, 34]) (tr_cmp1 (ev_bothS (j := 3) (k := 5) (ev_name hE rfl) ev_int ev_int (by (first | assumption | exact Int.natCast_nonneg _ | exact Nat.zero_le _ | exact Nat.le_refl _ | decide | exact Nat.le_trans (by assumption) (by decide) | lia))) (ev_str (l := [32, 34])) cmp_neS) hF (fun h => ex_cons (ex_return hF (ev_str (l := [])) ?_)) fun h => ex_nil ?_)
    · show FD.ret _ = _
      unfold parseP
      rw [if_neg (by simpa using h)]
    have h5 : (x.drop 3).take 2 = [32, 34] := by simpa using h
    refine ex_cons (ex_assign hF (.inl rfl) (ev_str (l := [])) ?_)
    refine ex_cons (ex_assign hF (.inl rfl) ev_int ?_)
    refine ex_cons (ex_assign hF (.inl rfl) (ev_callB (evv_built hE rfl B.len rfl) (evall_cons (ev_name hE rfl) evall_nil) (fn_lenS (by (first | assumption | exact Int.natCast_nonneg _ | exact Nat.zero_le _ | exact Nat.le_refl _ | decide | exact Nat.le_trans (by assumption) (by decide) | lia)))) ?_)
    refine ex_cons (ex_while hF (fun m σ => ∃ (i : Nat) (acc : List Nat), i ≤ x.length ∧ m = x.length - i ∧ acc ++ toldP (x.drop i) = toldP (x.drop 5) ∧ acc.length ≤ i ∧
      σ.lookup (Str.ofString "resp") = some (.val (.str x)) ∧ σ.lookup (Str.ofString "i") = some (.val (.int i)) ∧ σ.lookup (Str.ofString "n") = some (.val (.int x.length)) ∧ σ.lookup (Str.ofString "dirname") = some (.val (.str acc))) ?_ (x.length - 5) ⟨5, [], ?_, rfl, rfl, by simp, rfl, rfl, rfl, rfl⟩)
    · rintro m σ ⟨i, acc, hi, rfl, hacc, hal, l1, l2, l3, l4⟩
      refine ⟨_, tr_cmp1 (ev_name hE l2) (ev_name hE l3) cmp_ltI, fun hb => ?_, fun hb => ?_⟩
      · have hlt : i < x.length := by simpa using hb
        have hx : x[i]? = some (x[i]'hlt) := List.getElem?_eq_getElem hlt
        generalize x[i]'hlt = ch at hx
        have hd : x.drop i = ch :: x.drop (i + 1) := by
          rw [List.drop_eq_getElem_cons hlt]
          congr 1
          rw [List.getElem?_eq_getElem hlt] at hx
          exact Option.some.inj hx
        refine exs_sub (τ := [(Str.ofString "resp", .val (.str x)), (Str.ofString "i", .val (.int i)), (Str.ofString "n", .val (.int x.length)), (Str.ofString "dirname", .val (.str acc))]) (sub_cons l1 (sub_cons l2 (sub_cons l3 (sub_cons l4 sub_nil)))) ?_
        refine ex_cons (ex_assign hF (.inl rfl) (ev_itemS (n := ch) (ev_name hE rfl) (ev_name hE rfl) (by lia) (by lia) (by simpa using hx)) ?_)
        refine ex_cons (ex_assign hF (.inl rfl) (ev_add (ev_name hE rfl) ev_int) ?_)
        refine ex_cons (ex_if (tr_cmp1 (ev_name hE rfl) (ev_str (l := [34])) cmp_eqS) hF (fun h34 => ?_) fun h34 => ?_)
        · have hc : ch = 34 := by simpa using h34
          subst hc
          refine ex_cons (ex_if (x := decide ((x.length : Int) ≤ (i : Int) + 1) || x[i + 1]? != some 34) ?_ hF (fun hbr => ex_cons (ex_break ?_)) fun hbr => ex_nil (ex_cons (ex_assign hF (.inl rfl) (ev_add (ev_name hE rfl) ev_int) (ex_nil ?_))))
          · refine tr_or (tr_cmp1 (ev_name hE rfl) (ev_name hE rfl) cmp_geI) fun hb2 => ?_
            have hlt2 : i + 1 < x.length := by have := of_decide_eq_false hb2; (first | assumption | exact Int.natCast_nonneg _ | exact Nat.zero_le _ | exact Nat.le_refl _ | decide | exact Nat.le_trans (by assumption) (by decide) | lia)
            have hx2 : x[i + 1]? = some (x[i + 1]'hlt2) := List.getElem?_eq_getElem hlt2
            refine (tr_cmp1 (ev_itemS (n := x[i + 1]'hlt2) (ev_name hE rfl) (ev_name hE rfl) (by lia) (by lia) (by
              rw [show ((i : Int) + 1).toNat = i + 1 by (first | assumption | exact Int.natCast_nonneg _ | exact Nat.zero_le _ | exact Nat.le_refl _ | decide | exact Nat.le_trans (by assumption) (by decide) | lia)]; exact hx2)) (ev_str (l := [34])) cmp_neS).cast ?_
            rw [hx2]
            show (!([x[i + 1]'hlt2] == [34])) = !(some (x[i + 1]'hlt2) == some 34)
            simp
          · show ExS c _ _ _ _ _
            have hend : toldP (x.drop i) = [] := by
              rw [hd]
              rw [Bool.or_eq_true] at hbr
              rcases hbr with q | q
              · have q2 := of_decide_eq_true q
                have : x.drop (i + 1) = [] := List.drop_of_length_le (by (first | assumption | exact Int.natCast_nonneg _ | exact Nat.zero_le _ | exact Nat.le_refl _ | decide | exact Nat.le_trans (by assumption) (by decide) | lia))
                rw [this]; rfl
              · cases hr : x.drop (i + 1) with
                | nil => rfl
                | cons e r =>
                  have he : x[i + 1]? = some e := by
                    have := congrArg (fun l : List Nat => l[0]?) hr
                    simpa using this
                  have hne : e ≠ 34 := by
                    rw [he] at q
                    simpa using q
                  simp [toldP, hne]
            refine ex_cons (ex_return hF (ev_name hE (d := .str acc) rfl) ?_)
            show FD.ret _ = _
            unfold parseP
            rw [if_pos h5, ← hacc, hend, List.append_nil]
          · rw [Bool.or_eq_false_iff] at hbr
            have q1 := of_decide_eq_false hbr.1
            have q2 : x[i + 1]? = some 34 := by simpa using hbr.2
            have hlt2 : i + 1 < x.length := by (first | assumption | exact Int.natCast_nonneg _ | exact Nat.zero_le _ | exact Nat.le_refl _ | decide | exact Nat.le_trans (by assumption) (by decide) | lia)
            have hd2 : x.drop (i + 1) = 34 :: x.drop (i + 2) := by
              rw [List.drop_eq_getElem_cons hlt2]
              congr 1
              rw [List.getElem?_eq_getElem hlt2] at q2
              exact Option.some.inj q2
            refine ex_cons (ex_assign hF (.inl rfl) (ev_addS (ev_name hE rfl) (ev_name hE rfl) (by simp; (first | assumption | exact Int.natCast_nonneg _ | exact Nat.zero_le _ | exact Nat.le_refl _ | decide | exact Nat.le_trans (by assumption) (by decide) | lia))) (ex_nil ?_))
            refine ⟨x.length - (i + 2), by (first | assumption | exact Int.natCast_nonneg _ | exact Nat.zero_le _ | exact Nat.le_refl _ | decide | exact Nat.le_trans (by assumption) (by decide) | lia), i + 2, acc ++ [34], by (first | assumption | exact Int.natCast_nonneg _ | exact Nat.zero_le _ | exact Nat.le_refl _ | decide | exact Nat.le_trans (by assumption) (by decide) | lia), rfl, ?_, by simp; (first | assumption | exact Int.natCast_nonneg _ | exact Nat.zero_le _ | exact Nat.le_refl _ | decide | exact Nat.le_trans (by assumption) (by decide) | lia), rfl, ?_, rfl, rfl⟩
            · rw [← hacc, hd, hd2]
              simp [toldP]
            · show some _ = some _
              rw [show ((i : Int) + 1 + 1) = ((i + 2 : Nat) : Int) by (first | assumption | exact Int.natCast_nonneg _ | exact Nat.zero_le _ | exact Nat.le_refl _ | decide | exact Nat.le_trans (by assumption) (by decide) | lia)]
        · have hc : ch ≠ 34 := by simpa using h34
          refine ex_nil (ex_cons (ex_assign hF (.inl rfl) (ev_addS (ev_name hE rfl) (ev_name hE rfl) (by simp; (first | assumption | exact Int.natCast_nonneg _ | exact Nat.zero_le _ | exact Nat.le_refl _ | decide | exact Nat.le_trans (by assumption) (by decide) | lia))) (ex_nil ?_)))
          refine ⟨x.length - (i + 1), by (first | assumption | exact Int.natCast_nonneg _ | exact Nat.zero_le _ | exact Nat.le_refl _ | decide | exact Nat.le_trans (by assumption) (by decide) | lia), i + 1, acc ++ [ch], by (first | assumption | exact Int.natCast_nonneg _ | exact Nat.zero_le _ | exact Nat.le_refl _ | decide | exact Nat.le_trans (by assumption) (by decide) | lia), rfl, ?_, by simp; (first | assumption | exact Int.natCast_nonneg _ | exact Nat.zero_le _ | exact Nat.le_refl _ | decide | exact Nat.le_trans (by assumption) (by decide) | lia), rfl, ?_, rfl, rfl⟩
          · rw [← hacc, hd]
            cases hr : x.drop (i + 1) with
            | nil => simp [toldP, hc]
            | cons e r => simp [toldP, hc]
          · show some _ = some _
            rw [show ((i : Int) + 1) = ((i + 1 : Nat) : Int) by (first | assumption | exact Int.natCast_nonneg _ | exact Nat.zero_le _ | exact Nat.le_refl _ | decide | exact Nat.le_trans (by assumption) (by decide) | lia)]
      · have hge : ¬ ((i : Int) < x.length) := of_decide_eq_false hb
        have hend : x.drop i = [] := List.drop_of_length_le (by (first | assumption | exact Int.natCast_nonneg _ | exact Nat.zero_le _ | exact Nat.le_refl _ | decide | exact Nat.le_trans (by assumption) (by decide) | lia))
        refine ex_cons (ex_return hF (ev_name hE (d := .str acc) l4) ?_)
        show FD.ret _ = _
        unfold parseP
        rw [if_pos h5, ← hacc, hend]
        simp [toldP]
    · have e1 := congrArg List.length h3
      have e2 := congrArg List.length h5
      simp at e1 e2
      (first | assumption | exact Int.natCast_nonneg _ | exact Nat.zero_le _ | exact Nat.le_refl _ | decide | exact Nat.le_trans (by assumption) (by decide) | lia)
end Mine
end


/-! part H0 -/
section
open PySem PySem.W PyProof.Rows PySem.Calls PySem.Spec
open PySem.Builtin PySem.Builtin.Str PySem.Builtin.BaseException
set_option Elab.async false
set_option maxRecDepth 100000

namespace Mine
section
variable {prog : Program} {w : World} {A : Around} {E : Value → Shared → Prop} {s : Shared} {K : Frag} {e t C : Addr} {oe : Obj} {ws : Array Value}
theorem bexcArgs_own {M : Model} {items : List Value} {Q : Value × List Value → Shared → Prop} (he : s.heap.get? e = some oe) (hd : oe.data = .fields ws) (h0 : ws[0]? = some (.ref t)) (ht : s.heap.TupAt t items) (hq : Q (.ref t, items) s) :
    wpAny M A (bexcArgs (.ref e)) Q E s := by
  obtain ⟨ot, k, hto, _, htd⟩ := ht
  unfold bexcArgs
  refine wpAny_bind (wpAny_field he hd h0 (wpAny_bind (wpAny_seqItems hto htd ?_)))
  have : items.toArray.toList = items := by simp
  show wpAny M A (pure (Value.ref t, items.toArray.toList)) Q E s
  rw [this]; exact wpAny_pure hq
theorem bexcStr_own {m : Str} {tk : Tok} {Q : Fin → Shared → Prop} (he : s.heap.get? e = some oe) (hd : oe.data = .fields ws) (h0 : ws[0]? = some (.ref t)) (ht : s.heap.TupAt t [.str m tk]) (hq : Q (.done (.ret (.str m tk))) s) :
    wpAny (model prog w) A (Builtin.«BaseException.__str__» ⟨[.ref e], []⟩) Q E s := by
  unfold Builtin.«BaseException.__str__»
  repeat (first | with_reducible refine bexcArgs_own he hd h0 ht ?_ | wp_step)
  exact hq
theorem kind_bexc_str : builtinKind "BaseException.__str__" = some .slot := by decide +kernel
theorem split_bexc_str : splitId "BaseException.__str__" = some ("BaseException", "__str__") := by decide +kernel
theorem call_entry_looks {id owner n : String} {b : Builtin} {self : Value} {rest : List Value} {Q : Value → Shared → Prop} (hp : plainId id = true) (hb : entryFor table id = some b) (hk : builtinKind id = some .slot) (hs : splitId id = some (owner, n))
    (hi : Looks (model prog w) s.heap (isInstance self (.type owner)) true) (ha : argsOk id ⟨self :: rest, []⟩)
    (hc : wpAny (model prog w) A.in1 (b ⟨self :: rest, []⟩) (fun fin s' => ∃ v, fin = .done (.ret v) ∧ Q v s') E s) : wpAny (model prog w) A (call (.builtin id) (self :: rest)) Q E s := by
  refine wpAny_call (codeAny_call_builtin hp hb (check_slot hk hs hi ha (wpAny_mono hc (fun fin s' h' => ?_) fun _ _ h' => h')))
  obtain ⟨v, rfl, hv⟩ := h'; exact hv
theorem call_bexcStr_own {m : Str} {tk : Tok} {Q : Value → Shared → Prop} (X : K.In s.heap) (he : s.heap.get? e = some oe) (hc : oe.cls = .ref C) (hd : oe.data = .fields ws) (h0 : ws[0]? = some (.ref t)) (ht : s.heap.TupAt t [.str m tk])
    (hi : subIn K (.ref C) (.type "BaseException") = some true) (hq : Q (.str m tk) s) :
    wpAny (model prog w) A (call (.builtin "BaseException.__str__") [.ref e]) Q E s := by
  have hL : Looks (model prog w) s.heap (isInstance (.ref e) (.type "BaseException")) true := by
    intro A' Q' E' s' k q
    unfold isInstance
    refine wpAny_bind ?_
    simp only [typeOf]
    exact wpAny_bind (wpAny_load (k _ _ he) (wpAny_pure (hc ▸ looks_subIn X hi A' Q' E' s' k q)))
  exact call_entry_looks PySem.F.excStr_Exception.str.plain PySem.F.entry_bexc_str kind_bexc_str split_bexc_str hL (PySem.F.args_bexc_str _) (bexcStr_own he hd h0 ht ⟨_, rfl, hq⟩)
theorem strOf_own {m : Str} {tk : Tok} {Q : Value → Shared → Prop} (hu : A.units < cLine) (X : K.In s.heap) (he : s.heap.get? e = some oe) (hc : oe.cls = .ref C) (hd : oe.data = .fields ws) (h0 : ws[0]? = some (.ref t)) (ht : s.heap.TupAt t [.str m tk])
    (hi : subIn K (.ref C) (.type "BaseException") = some true) (hs : findIn K (.ref C) "__str__" = some (some (.builtin "BaseException.__str__"))) (hq : Q (.str m tk) s) :
    wpAny (model prog w) A (PySem.Builtin.Str.strOf (.ref e)) Q E s := by
  unfold PySem.Builtin.Str.strOf
  rw [show isExactStr (.ref e) = false from rfl]
  refine wpAny_bind (m := cRoomFor _ _) (wpAny_cRoomFor hu ?_)
  refine wpAny_bind (m := callSpecial? (.ref e) (Str.ofString "__str__")) ?_
  refine wpAny_bind (wpAny_bind ?_)
  simp only [typeOf]
  refine wpAny_bind (wpAny_load he (wpAny_pure ?_))
  rw [hc]
  refine (looks_findIn X hs).here (wpAny_holding (wpAny_bind ?_))
  rw [PySem.F.excStr_Exception.str.bind]
  refine wpAny_pure ?_
  refine wpAny_bind (wpAny_mono (call_bexcStr_own X he hc hd h0 ht hi (Q := fun v s' => v = .str m tk ∧ Q v s') ⟨rfl, hq⟩) (fun v s' hv => ?_) fun _ _ y => y)
  obtain ⟨rfl, hq⟩ := hv
  exact wpAny_pure (wpAny_pure hq)
/-- str(e) of an exception of a class of the module, of one text -/
theorem str_own {m : Str} {tk : Tok} {Q : Value → Shared → Prop} (hu : A.in1.in1.units < cLine) (X : K.In s.heap) (he : s.heap.get? e = some oe) (hc : oe.cls = .ref C) (hd : oe.data = .fields ws) (h0 : ws[0]? = some (.ref t)) (ht : s.heap.TupAt t [.str m tk])
    (hi : subIn K (.ref C) (.type "BaseException") = some true) (hs : findIn K (.ref C) "__str__" = some (some (.builtin "BaseException.__str__"))) (hq : Q (.str m tk) s) :
    wpAny (model prog w) A (call (.type "str") [.ref e]) Q E s := by
  refine callType_codes (T := "str") (Bi := Builtin.«object.__init__») (Q₁ := fun r s₁ => ∃ y u, r = .str y u ∧ Q r s₁) PySem.F.called_str (PySem.F.typeCall_str_1 _) PySem.F.entry_object_init ?_ ?_
  · refine codeAny_of_tree ?_
    show wpAny _ A.in1.in1 (do checkBuiltinCall "str.__new__" ⟨[.type "str", .ref e], []⟩; again (.builtin "str.__new__" ⟨[.type "str", .ref e], []⟩)) _ _ s
    refine wpAny_bind (wpAny_of_eq (PySem.F.newCall_str_1 _) (wpAny_pure ⟨plainId_quiet (by decide +kernel) _, codeAny_builtin PySem.F.entry_str_new ?_⟩))
    rw [Around.under_plainId (by decide +kernel) _]
    rw [str_new_tree]
    refine wpAny_bind (wpAny_pure ?_)
    refine wpAny_bind (wpAny_of_eq isSubtype_str_str ?_)
    exact wpAny_bind (strOf_own hu X he hc hd h0 ht hi hs (wpAny_pure ⟨_, _, rfl, hq⟩))
  · rintro obj s₁ ⟨y, u, rfl, hq⟩
    exact ⟨typeIs_str _ _ _, PySem.F.args_object_init_2 _ _, object_init_meets PySem.F.called_str.init.lookup PySem.F.called_str.made (by decide) prog w A.in1 _ s₁ ⟨typeIs_str _ _ _, rfl, hq⟩⟩
theorem str_got {m : Str} {tk : Tok} {Q : Value → Shared → Prop} {h₀ : Heap} {L : Addr} {news : List (Addr × Obj)} (hu : A.in1.in1.units < cLine) (X : K.In s.heap) (N : News h₀ L s.heap news) (g : Got news e t (.ref C) [.str m tk])
    (hi : subIn K (.ref C) (.type "BaseException") = some true) (hs : findIn K (.ref C) "__str__" = some (some (.builtin "BaseException.__str__"))) (hq : Q (.str m tk) s) :
    wpAny (model prog w) A (call (.type "str") [.ref e]) Q E s := by
  obtain ⟨oe, ot, ws, nt, h1, h2, hc, hd, h0, htc, htd⟩ := g
  exact str_own hu X (N.get h1) hc hd h0 ⟨ot, nt, N.get h2, htc, htd⟩ hi hs hq
end
end Mine
end


/-! part F3 -/
section
open PySem PySem.W PyProof.Rows PySem.Calls PySem.Spec
set_option Elab.async false
set_option linter.unusedVariables false
set_option maxRecDepth 100000
namespace Mine
/-- what the walk shows of a refused reply -/
def HeardBad (c : Cx) (a : Addr) : Prop := ∀ (x : Str) (t : Tok), x.length ≤ 1000 → (Txt.slice x none (some 3) != Str.ofString "257") = true →
   ∀ (dp un : Nat) (gd : Option (List Code)) (outer : List Env) (base : Heap) (s : Shared) (R : Result → Shared → Prop),
    Below { handled := none, depth := dp, frames := some outer, guards := gd, units := un } base outer s.heap → c.K.In base → c.K.In s.heap →
    Top c.p c.loose c.mean c.mg c.mb base → Top c.p c.loose c.mean c.mg c.mb s.heap → KtsDicts (outer.filterMap (·.frame)) s.heap →
    dp + 8 < recursionLimit → un + 80 < cLine →
    (∀ l g' h' tk' n u, KtsTurn (outer.filterMap (·.frame)) s.heap g' → (∀ b o, g'.get? b = some o → h'.get? b = some o) → h'.get? l = some (listOf #[.str x u] n) → g'.get? l = none → R (.ok (.ret (.ref l))) { s with heap := h', toks := tk' }) →
    codeAny (model c.prog c.w) { handled := none, depth := dp, frames := some outer, guards := gd, units := un } (.call (.ref a) { pos := [.str x t] }) R s
theorem funFrames_of {h base : Heap} : ∀ {l : List Env}, (∀ e ∈ l, e.scope.kind ≠ .module ∧ ∃ L, e.frame = some L ∧ base.get? L = none ∧ IsDict h L) → h.FunFrames base l
  | [], _ => trivial
  | e :: l, r => by
    obtain ⟨k, L, a, b, o, es, n, ho, hd⟩ := r e (.head _)
    exact ⟨k, ⟨L, o, a, b, ho, fun vs q => by rw [hd] at q; cases q⟩, funFrames_of fun e' he => r e' (.tail _ he)⟩
theorem fn_heard_bad {c : Cx} {A : Around} {a : Addr} {x : List Nat} (hA : AOk A 8) (H : HeardBad c a) (hz : x.length ≤ 1000) (h3 : (Txt.slice (S x) none (some 3) != Str.ofString "257") = true) : Fn c A (.ref a) [.str x] (.lst [.str x]) := fun G s vs on gl r => by
  obtain ⟨_, _, rfl, r1, r2⟩ := r.inv
  · (first | obtain rfl := r2.inv0 | obtain ⟨_, rfl⟩ := r2.inv | obtain rfl := r2.inv | cases r2)
    (first | obtain rfl := r1.inv0 | obtain ⟨_, rfl⟩ := r1.inv | obtain rfl := r1.inv | cases r1)
    rename_i t
    obtain ⟨outer, hfr, hall⟩ := gl.fr
    obtain ⟨hd, dp, fr, gd, un⟩ := A
    have e1 : hd = none := hA.hh
    have e2 : fr = some outer := hfr
    subst e1 e2
    have hD : KtsDicts (outer.filterMap (·.frame)) s.heap := fun b hb => by
      obtain ⟨e, he, hf⟩ := List.mem_filterMap.mp hb
      obtain ⟨_, L, a', _, o, es, n, ho, hd⟩ := hall e he
      rw [a'] at hf; cases hf
      exact ⟨o, es, n, ho, hd⟩
    have hnb : ∀ b ∈ outer.filterMap (·.frame), c.base.get? b = none := fun b hb => by
      obtain ⟨e, he, hf⟩ := List.mem_filterMap.mp hb
      obtain ⟨_, L, a', h0, _⟩ := hall e he
      rw [a'] at hf; cases hf
      exact h0
    refine wpAny_call (H (S x) t (by show x.toArray.size ≤ 1000; simpa using hz) h3 dp un gd outer c.base s _ ⟨rfl, gl.stays, funFrames_of hall⟩ gl.kin gl.inn gl.ktop gl.top hD hA.dep (by have := hA.un; show un + 80 < cLine; have h' : un + 8 * 8 + 40 < cLine := this; (first | assumption | exact Int.natCast_nonneg _ | exact Nat.zero_le _ | exact Nat.le_refl _ | decide | exact Nat.le_trans (by assumption) (by decide) | lia)) fun l g' h' tk' n u hT hk hl hn => ?_)
    have hfresh : s.heap.get? l = none := by
      cases q : s.heap.get? l with
      | none => rfl
      | some o =>
        obtain ⟨sl, hs⟩ := hT.up q
        rw [hn] at hs; cases hs
    have kp : Kp c s { s with heap := h', toks := tk' } := by
      refine ⟨⟨h', tk', rfl⟩, fun b o e => ?_, fun z b o e => ?_⟩
      · by_cases hb : b ∈ outer.filterMap (·.frame)
        · obtain ⟨o', es, n', ho', hd'⟩ := hD b hb
          rw [e] at ho'; cases ho'
          obtain ⟨sl, hs⟩ := hT.frame b o e hb
          exact ⟨_, hk _ _ hs, .inr (.inl ⟨by unfold isD; rw [hd'], sl, rfl⟩)⟩
        · exact .of (hk _ _ (hT.other b o e hb))
      · exact hk _ _ (hT.other b o (z b o e) fun hb => by rw [hnb b hb] at e; cases e)
    refine ⟨G.add l (lstObj [.str (S x) u] n), ⟨kp, fun _ _ e => .inl e, ⟨fun b o e => ?_, fun q hq => ?_, fun q hq o e => ?_⟩, fun b o e => ?_⟩, .lst Gh.add_self (.one (.str x u))⟩
    · rcases e with e | ⟨rfl, rfl⟩
      · obtain ⟨o', e', al⟩ := on.has _ _ e
        by_cases hb : b ∈ outer.filterMap (·.frame)
        · obtain ⟨o2, es, n', ho', hd'⟩ := hD b hb
          rw [e'] at ho'; cases ho'
          obtain ⟨sl, hs⟩ := hT.frame b _ e' hb
          have hisd : isD o = true := by
            rcases al with rfl | ⟨q, _⟩
            · unfold isD; rw [hd']
            · exact q
          refine ⟨_, hk _ _ hs, .inr ⟨hisd, ?_⟩⟩
          rcases al with rfl | ⟨_, sl', rfl⟩ <;> exact ⟨sl, rfl⟩
        · exact ⟨o', hk _ _ (hT.other b o' e' hb), al⟩
      · exact .of hl
    · have hnd : ∀ a, (∃ o vs, s.heap.get? a = some o ∧ o.data = .fields vs) → a ∉ outer.filterMap (·.frame) := fun a ⟨o, vs, ho, hf⟩ hb => by
        obtain ⟨o', es, n', ho', hd'⟩ := hD a hb
        rw [ho] at ho'; cases ho'
        rw [hf] at hd'; cases hd'
      have T := on.tab q hq
      obtain ⟨⟨o1, vs1, file, tf, flags, tg, inF, text, tt, z1, z2, z3, zr⟩, ps, hP, zz⟩ := id T
      exact T.step (fun o e => hk _ _ (hT.other _ o e (hnd _ ⟨o1, vs1, z1, z3⟩))) (fun o e => hk _ _ (hT.other _ o e (hnd _ ⟨_, ps, hP, rfl⟩))) (fun _ _ x => .inl x) fun a o vs' _ hf e => hk _ _ (hT.other _ o e (hnd _ ⟨o, vs', e, hf⟩))
    · rcases e with e | ⟨e, _⟩
      · exact on.nt q hq o e
      · exact on.tabSome hq (.inr rfl) (e ▸ hfresh)
    · rcases e with e | ⟨rfl, rfl⟩
      · exact .inl e
      · exact .inr hfresh
theorem slice3 (x : List Nat) : Txt.slice (S x) none (some 3) = S (x.take 3) := by
  have hl : (S x).length = x.length := by simp [Str.length]
  unfold Txt.slice
  rw [hl, show (some (3 : Int)) = some ((3 : Nat) : Int) from rfl, idx_upto]
  have e : (sliceRange ((0 : Nat) : Int) ((min 3 x.length : Nat) : Int) 1).filterMap ((S x).cps[·]?) = x.take 3 := by
    have := cut_gen x 0 (min 3 x.length) (Nat.zero_le _) (Nat.min_le_right _ _)
    simp only [List.drop_zero, Nat.sub_zero] at this
    have e2 : x.take (min 3 x.length) = x.take 3 := by
      rw [← List.take_take, List.take_length]
    rw [e2] at this
    simpa using this
  rw [e]
  split
  · rename_i hc
    simp only [Bool.and_eq_true, beq_iff_eq, sliceRange_one, List.length_map, List.length_range] at hc
    have : x.length ≤ 3 := by
      have h := hc.2
      (first | assumption | exact Int.natCast_nonneg _ | exact Nat.zero_le _ | exact Nat.le_refl _ | decide | exact Nat.le_trans (by assumption) (by decide) | lia)
    rw [List.take_of_length_le this]
  · rfl
/-- what _law_heard tells -/
noncomputable def heardP (x : List Nat) : D := if x.take 3 = [50, 53, 55] then .str (parseP x) else .lst [.str x]
section
variable {c : Cx} {A : Around} {env : Env} {σ : Sig} {Φ : Post}
/-- a try whose body does not raise -/
theorem ex_try {body : List Stmt} {h₀ : ExceptHandler} {hs : List ExceptHandler} {pos : Pos} (h : ExS c A env σ body Φ) : Ex1 c A env σ (.Try body (h₀ :: hs) [] [] pos) Φ := fun s₀ G₀ X G s st => by
  refine wpAny_Try_except (wpAny_mono (h s₀ G₀ X G s st) (fun f s₁ q => ?_) fun _ _ x => x.elim)
  obtain ⟨G', σ', fd, a, b, hfl, hΦ⟩ := q
  cases f <;> cases fd <;> first
    | exact hfl.elim
    | exact wpAny_execs_nil ⟨G', σ', .next, a, b, hfl, hΦ⟩
    | exact ⟨G', σ', _, a, b, hfl, hΦ⟩
end
theorem fn_heard_good {c : Cx} {A : Around} {a p : Addr} {x : List Nat} (hA : AOk A 2) (D : DefAt c a (stmtN 11)) (P : DefAt c p (stmtN 4)) (B : Builts c) (hz : x.length ≤ 10000) (h3 : x.take 3 = [50, 53, 55]) : Fn c A (.ref a) [.str x] (.str (parseP x)) := by
  refine fn_at (names := [Str.ofString "reply"]) hA D rfl (by decide +kernel) (fun pm code vs h => ?_) rfl (by decide) (fun pm code L y hy => ?_) (fun pm code L hF hA' => ?_) rfl rfl
  · (obtain ⟨v, rfl⟩ := len1 h; rfl)
  · simp only [List.mem_singleton] at hy
    subst hy
    exact .inl rfl
  · conv => arg 5; whnf
    have hE := hF.ok
    obtain ⟨o, pm', code', k1, k2, k3⟩ := P.k
    refine ex_cons (ex_try (ex_cons (ex_return hF (ev_callF (evv_glob hE rfl P.g) k1 k2 (evall_cons (ev_name hE rfl) evall_nil) (fn_parse hA' P B hz h3)) rfl)))
theorem fn_heard {c : Cx} {A : Around} {a p : Addr} {x : List Nat} (hA : AOk A 8) (D : DefAt c a (stmtN 11)) (P : DefAt c p (stmtN 4)) (B : Builts c) (H : HeardBad c a) (hz : x.length ≤ 1000) : Fn c A (.ref a) [.str x] (heardP x) := by
  unfold heardP
  split
  · rename_i h
    exact fn_heard_good (hA.le (by (first | assumption | exact Int.natCast_nonneg _ | exact Nat.zero_le _ | exact Nat.le_refl _ | decide | exact Nat.le_trans (by assumption) (by decide) | lia))) D P B (by (first | assumption | exact Int.natCast_nonneg _ | exact Nat.zero_le _ | exact Nat.le_refl _ | decide | exact Nat.le_trans (by assumption) (by decide) | lia)) h
  · rename_i h
    refine fn_heard_bad hA H hz ?_
    rw [slice3]
    simp only [bne_iff_ne, ne_eq]
    intro q
    have : (S (x.take 3)).cps.toList = [50, 53, 55] := by rw [q]; rfl
    exact h (by simpa using this)
end Mine
end


/-! part F4 -/
section
open PySem PySem.W PyProof.Rows PySem.Calls PySem.Spec
set_option Elab.async false
set_option linter.unusedVariables false
set_option maxRecDepth 100000
namespace Mine
/-- n quotes -/
abbrev qs (n : Nat) : List Nat := List.replicate n 34
theorem rngD_nat (n : Nat) : rngD 0 (n : Int) = (List.range n).map fun (k : Nat) => D.int k := by
  unfold rngD
  simp
theorem mem_rng {n : Nat} {d : D} (h : d ∈ rngD 0 (n : Int)) : ∃ k : Nat, k < n ∧ d = .int k := by
  rw [rngD_nat] at h
  obtain ⟨k, hk, rfl⟩ := List.mem_map.mp h
  exact ⟨k, List.mem_range.mp hk, rfl⟩
theorem map_rng {n : Nat} (f : D → D) : ((rngD 0 (n : Int)).filter fun _ => true).map f = (List.range n).map fun (k : Nat) => f (.int k) := by
  rw [rngD_nat, List.filter_eq_self.mpr (fun _ _ => rfl), List.map_map]
  rfl
theorem rng_len (n : Nat) : (rngD 0 (n : Int)).length = n := by rw [rngD_nat]; simp
theorem flat_rep (n k : Nat) : (List.replicate n [k]).flatten = List.replicate n k := by
  induction n with
  | zero => rfl
  | succ n ih => rw [List.replicate_succ, List.flatten_cons, ih]; rfl
def intOf : D → Int
  | .int i => i
  | _ => 0
noncomputable def repliesP (front : List Nat) (many : Nat) (e : List Nat) : List D := (List.range many).map fun n => heardP (front ++ qs n ++ e)
set_option maxHeartbeats 1000000 in
theorem fn_replies {c : Cx} {A : Around} {a h p : Addr} {front e : List Nat} {many : Nat} (hA : AOk A 9) (D : DefAt c a (stmtN 12)) (Hd : DefAt c h (stmtN 11)) (P : DefAt c p (stmtN 4)) (B : Builts c) (H : HeardBad c h) (hf : front.length ≤ 100) (he : e.length ≤ 100) (hm : many ≤ 100) :
    Fn c A (.ref a) [.str front, .int many, .str e] (.lst (repliesP front many e)) := by
  refine fn_at (names := [Str.ofString "front", Str.ofString "many", Str.ofString "end"]) hA D rfl (by decide +kernel) (fun pm code vs h => ?_) rfl (by decide) (fun pm code L y hy => ?_) (fun pm code L hF hA' => ?_) rfl rfl
  · (obtain ⟨v1, v2, v3, rfl⟩ := len3 h; rfl)
  · simp only [List.mem_cons, List.not_mem_nil, or_false] at hy
    rcases hy with rfl | rfl | rfl
    · exact .inr ⟨rfl, _, rfl⟩
    · exact .inl rfl
    · exact .inr ⟨rfl, _, rfl⟩
  · conv => arg 5; whnf
    have hE := hF.ok
    have hh := hA'.hh
    have hsl := sizeLine_eq
    obtain ⟨o, pm', code', k1, k2, k3⟩ := Hd.k
    refine ex_cons (ex_return hF ((ev_of_fresh (ev_comp (bs := fun d => [(Str.ofString "size", .val d)]) (σc := [(Str.ofString "front", .val (.str front)), (Str.ofString "end", .val (.str e))]) (fun _ => true) (fun d => heardP (front ++ qs (intOf d).toNat ++ e)) (ev_callT (evv_built hE rfl B.range rfl) (evall_cons (ev_name hE rfl) evall_nil) fn_range1) (itd_rng hh (by decide) (by (first | assumption | exact Int.natCast_nonneg _ | exact Nat.zero_le _ | exact Nat.le_refl _ | decide | exact Nat.le_trans (by assumption) (by decide) | lia))) rfl
      (fun G h C sc => sc_cons (cap_rd (sc _ _ rfl) (.inl rfl) rfl rfl) (sc_cons (cap_rd (sc _ _ rfl) (.inl rfl) rfl rfl) sc_nil)) (bnd_name hE rfl rfl) (by rw [rng_len]; (first | assumption | exact Int.natCast_nonneg _ | exact Nat.zero_le _ | exact Nat.le_refl _ | decide | exact Nat.le_trans (by assumption) (by decide) | lia)) (fun _ _ => trivial) (fun C d hd => tests_nil) (fun C d hd _ => ?_))).cast ?_) rfl)
    · obtain ⟨k, hk, rfl⟩ := mem_rng hd
      have hk' : intOf (.int (k : Int)) = (k : Int) := rfl
      rw [hk', Int.toNat_natCast]
      refine ev_callF (evv_glob (cE_ok hE rfl) rfl Hd.g) k1 k2 (evall_cons (ev_addS (ev_addS (ev_name (cE_ok hE rfl) (d := .str front) rfl) ((ev_mulS (ev_str (l := [34])) (ev_name (cE_ok hE rfl) (d := .int k) rfl) (by (first | assumption | exact Int.natCast_nonneg _ | exact Nat.zero_le _ | exact Nat.le_refl _ | decide | exact Nat.le_trans (by assumption) (by decide) | lia)) (by (first | assumption | exact Int.natCast_nonneg _ | exact Nat.zero_le _ | exact Nat.le_refl _ | decide | exact Nat.le_trans (by assumption) (by decide) | lia)) (by decide)).cast (d' := .str (qs k)) ?_) ?_) (ev_name (cE_ok hE rfl) (d := .str e) rfl) ?_) evall_nil) (fn_heard hA' Hd P B H ?_)
      · rw [Int.toNat_natCast, flat_rep]
      · simp; (first | assumption | exact Int.natCast_nonneg _ | exact Nat.zero_le _ | exact Nat.le_refl _ | decide | exact Nat.le_trans (by assumption) (by decide) | lia)
      · simp; (first | assumption | exact Int.natCast_nonneg _ | exact Nat.zero_le _ | exact Nat.le_refl _ | decide | exact Nat.le_trans (by assumption) (by decide) | lia)
      · simp; (first | assumption | exact Int.natCast_nonneg _ | exact Nat.zero_le _ | exact Nat.le_refl _ | decide | exact Nat.le_trans (by assumption) (by decide) | lia)
    · rw [map_rng]; rfl
end Mine
end


/-! part F5 -/
section
open PySem PySem.W PyProof.Rows PySem.Calls PySem.Spec
set_option Elab.async false
set_option linter.unusedVariables false
set_option maxRecDepth 100000
namespace Mine
def leadP (size copies blanks : Nat) (e : List Nat) : List Nat := (List.replicate copies (List.replicate size 32 ++ [9])).flatten ++ List.replicate blanks 32 ++ e
theorem flat_len (n : Nat) (x : List Nat) : (List.replicate n x).flatten.length = n * x.length := by
  induction n with
  | zero => simp
  | succ n ih => rw [List.replicate_succ, List.flatten_cons, List.length_append, ih, Nat.succ_mul, Nat.add_comm]
set_option maxHeartbeats 1000000 in
theorem fn_leads {c : Cx} {A : Around} {a : Addr} {e : List Nat} {top copies blanks : Nat} (hA : AOk A 1) (D : DefAt c a (stmtN 14)) (B : Builts c) (he : e.length ≤ 100) (ht : top ≤ 30) (hc : copies ≤ 10) (hb : blanks ≤ 10) :
    Fn c A (.ref a) [.int top, .int copies, .int blanks, .str e] (.lst ((List.range (top + 1)).map fun n => .str (leadP n copies blanks e))) := by
  refine fn_at (names := [Str.ofString "top", Str.ofString "copies", Str.ofString "blanks", Str.ofString "end"]) hA D rfl (by decide +kernel) (fun pm code vs h => ?_) rfl (by decide) (fun pm code L y hy => ?_) (fun pm code L hF hA' => ?_) rfl rfl
  · (obtain ⟨v1, v2, v3, v4, rfl⟩ := len4 h; rfl)
  · simp only [List.mem_cons, List.not_mem_nil, or_false] at hy
    rcases hy with rfl | rfl | rfl | rfl
    · exact .inl rfl
    all_goals exact .inr ⟨rfl, _, rfl⟩
  · conv => arg 5; whnf
    have hE := hF.ok
    have hh := hA'.hh
    have hsl := sizeLine_eq
    refine ex_cons (ex_return hF ((ev_of_fresh (ev_comp (bs := fun d => [(Str.ofString "size", .val d)]) (σc := [(Str.ofString "copies", .val (.int copies)), (Str.ofString "blanks", .val (.int blanks)), (Str.ofString "end", .val (.str e))]) (fun _ => true) (fun d => .str (leadP (intOf d).toNat copies blanks e))
      ((ev_callT (evv_built hE rfl B.range rfl) (evall_cons (ev_add (ev_name hE rfl) ev_int) evall_nil) fn_range1).cast (d' := .rng 0 ((top + 1 : Nat) : Int)) (by rw [Int.natCast_add]; rfl)) (itd_rng hh (by decide) (by (first | assumption | exact Int.natCast_nonneg _ | exact Nat.zero_le _ | exact Nat.le_refl _ | decide | exact Nat.le_trans (by assumption) (by decide) | lia))) rfl
      (fun G h C sc => sc_cons (cap_rd (sc _ _ rfl) (.inl rfl) rfl rfl) (sc_cons (cap_rd (sc _ _ rfl) (.inl rfl) rfl rfl) (sc_cons (cap_rd (sc _ _ rfl) (.inl rfl) rfl rfl) sc_nil))) (bnd_name hE rfl rfl) (by rw [rng_len]; (first | assumption | exact Int.natCast_nonneg _ | exact Nat.zero_le _ | exact Nat.le_refl _ | decide | exact Nat.le_trans (by assumption) (by decide) | lia)) (fun _ _ => trivial) (fun C d hd => tests_nil) (fun C d hd _ => ?_))).cast ?_) rfl)
    · obtain ⟨k, hk, rfl⟩ := mem_rng hd
      have hk' : intOf (.int (k : Int)) = (k : Int) := rfl
      rw [hk', Int.toNat_natCast]
      have hcs : (List.replicate copies (List.replicate k 32 ++ [9])).flatten.length ≤ 1000 := by
        rw [flat_len]
        have : copies * (List.replicate k 32 ++ [9]).length ≤ 10 * 31 := Nat.mul_le_mul hc (by simp; (first | assumption | exact Int.natCast_nonneg _ | exact Nat.zero_le _ | exact Nat.le_refl _ | decide | exact Nat.le_trans (by assumption) (by decide) | lia))
        (first | assumption | exact Int.natCast_nonneg _ | exact Nat.zero_le _ | exact Nat.le_refl _ | decide | exact Nat.le_trans (by assumption) (by decide) | lia)
      refine ev_addS (ev_addS ((ev_mulS (ev_addS ((ev_mulS (ev_str (l := [32])) (ev_name (cE_ok hE rfl) (d := .int k) rfl) (by (first | assumption | exact Int.natCast_nonneg _ | exact Nat.zero_le _ | exact Nat.le_refl _ | decide | exact Nat.le_trans (by assumption) (by decide) | lia)) (by (first | assumption | exact Int.natCast_nonneg _ | exact Nat.zero_le _ | exact Nat.le_refl _ | decide | exact Nat.le_trans (by assumption) (by decide) | lia)) (by decide)).cast (d' := .str (List.replicate k 32)) ?_) (ev_str (l := [9])) ?_) (ev_name (cE_ok hE rfl) (d := .int copies) rfl) (by (first | assumption | exact Int.natCast_nonneg _ | exact Nat.zero_le _ | exact Nat.le_refl _ | decide | exact Nat.le_trans (by assumption) (by decide) | lia)) (by (first | assumption | exact Int.natCast_nonneg _ | exact Nat.zero_le _ | exact Nat.le_refl _ | decide | exact Nat.le_trans (by assumption) (by decide) | lia)) ?_).cast (d' := .str (List.replicate copies (List.replicate k 32 ++ [9])).flatten) ?_)
        ((ev_mulS (ev_str (l := [32])) (ev_name (cE_ok hE rfl) (d := .int blanks) rfl) (by (first | assumption | exact Int.natCast_nonneg _ | exact Nat.zero_le _ | exact Nat.le_refl _ | decide | exact Nat.le_trans (by assumption) (by decide) | lia)) (by (first | assumption | exact Int.natCast_nonneg _ | exact Nat.zero_le _ | exact Nat.le_refl _ | decide | exact Nat.le_trans (by assumption) (by decide) | lia)) (by decide)).cast (d' := .str (List.replicate blanks 32)) ?_) ?_) (ev_name (cE_ok hE rfl) (d := .str e) rfl) ?_
      · rw [Int.toNat_natCast, flat_rep]
      · simp; (first | assumption | exact Int.natCast_nonneg _ | exact Nat.zero_le _ | exact Nat.le_refl _ | decide | exact Nat.le_trans (by assumption) (by decide) | lia)
      · simp; (first | assumption | exact Int.natCast_nonneg _ | exact Nat.zero_le _ | exact Nat.le_refl _ | decide | exact Nat.le_trans (by assumption) (by decide) | lia)
      · rw [Int.toNat_natCast]
      · rw [Int.toNat_natCast, flat_rep]
      · simp only [List.length_replicate]; (first | assumption | exact Int.natCast_nonneg _ | exact Nat.zero_le _ | exact Nat.le_refl _ | decide | exact Nat.le_trans (by assumption) (by decide) | lia)
      · simp only [List.length_append, List.length_replicate]; (first | assumption | exact Int.natCast_nonneg _ | exact Nat.zero_le _ | exact Nat.le_refl _ | decide | exact Nat.le_trans (by assumption) (by decide) | lia)
    · rw [map_rng]; rfl
end Mine
end


/-! part F6 -/
section
open PySem PySem.W PyProof.Rows PySem.Calls PySem.Spec
set_option Elab.async false
set_option linter.unusedVariables false
set_option maxRecDepth 100000
namespace Mine
section
variable {c : Cx} {A : Around} {env : Env} {σ : Sig} {Φ : Post} {s : Shared}
theorem forGo_inv {bs : D → Sig} {body : List Stmt} (I : Nat → Sig → Prop) : ∀ (ds : List D) (k : Nat) (σ : Sig), I k σ →
    (∀ i d σ, ds[i]? = some d → I (k + i) σ → ExS c A env (bs d ++ σ) body fun fd σ' => match fd with
      | .next => I (k + i + 1) σ'
      | .cont => I (k + i + 1) σ'
      | .brk => Φ .next σ'
      | .ret r => Φ (.ret r) σ') → (∀ σ, I (k + ds.length) σ → Φ .next σ) → ForGo c A env bs body Φ ds σ
  | [], k, σ, h, _, he => he σ h
  | d :: ds, k, σ, h, hs, he => by
    have hrest : ∀ σ', I (k + 1) σ' → ForGo c A env bs body Φ ds σ' := fun σ' h' => forGo_inv I ds (k + 1) σ' h' (fun i d' σ'' hd hi => by
      have := hs (i + 1) d' σ'' (by simpa using hd) (by rwa [show k + (i + 1) = k + 1 + i by (first | assumption | exact Int.natCast_nonneg _ | exact Nat.zero_le _ | exact Nat.le_refl _ | decide | exact Nat.le_trans (by assumption) (by decide) | lia)])
      rw [show k + (i + 1) + 1 = k + 1 + i + 1 by (first | assumption | exact Int.natCast_nonneg _ | exact Nat.zero_le _ | exact Nat.le_refl _ | decide | exact Nat.le_trans (by assumption) (by decide) | lia)] at this
      exact this) (fun σ'' hi => he σ'' (by rw [List.length_cons, show k + (ds.length + 1) = k + 1 + ds.length by (first | assumption | exact Int.natCast_nonneg _ | exact Nat.zero_le _ | exact Nat.le_refl _ | decide | exact Nat.le_trans (by assumption) (by decide) | lia)]; exact hi))
    refine exs_mono (hs 0 d σ rfl h) fun fd σ' hq => ?_
    cases fd with
    | next => exact hrest σ' hq
    | cont => exact hrest σ' hq
    | brk => exact hq
    | ret r => exact hq
/-- isinstance(x, str) -/
theorem evv_strT {e : Expr} (h : EvV c A env σ e (.type "str")) : Ev c A env σ e .strT := fun G s ok => h G s _ _ ok ⟨G, Grow.refl ok.sub, .strT⟩
def isStrD : D → Bool
  | .str _ => true
  | _ => false
theorem fn_isStr {d : D} (h : (∃ x, d = .str x) ∨ ∃ l, d = .lst l) : Fn c A (.builtin "isinstance") [d, .strT] (.bool (isStrD d)) := fun G s vs on gl r => by
  obtain ⟨_, _, rfl, r1, r2⟩ := r.inv
  · cases r2 with
    | cons r2 r3 =>
      (first | obtain rfl := r3.inv0 | obtain ⟨_, rfl⟩ := r3.inv | obtain rfl := r3.inv | cases r3); (first | obtain rfl := r2.inv0 | obtain ⟨_, rfl⟩ := r2.inv | obtain rfl := r2.inv | cases r2)
      rcases h with ⟨x, rfl⟩ | ⟨l, rfl⟩
      · (first | obtain rfl := r1.inv0 | obtain ⟨_, rfl⟩ := r1.inv | obtain rfl := r1.inv | cases r1)
        exact IsiPair.str_str ⟨G, Grow.refl on, .bool _⟩
      · cases r1 with
        | lst g r =>
          exact call_isinstance (isinstance_false_list (by decide) F.isi_meta_str (by rw [isSubtype_type]; kernel_rfl)) ⟨⟨_, on.at g rfl, rfl⟩, G, Grow.toks on _, .bool _⟩
end
theorem filter_map_int (l : List Int) (p : D → Bool) (q : Int → Bool) (h : ∀ i, p (.int i) = q i) : (l.map D.int).filter p = (l.filter q).map D.int := by
  induction l with
  | nil => rfl
  | cons i l ih =>
    rw [List.map_cons, List.filter_cons, List.filter_cons, ih, h]
    cases q i <;> rfl
/-- the moves that are in range -/
def rowP (l : List Int) (n : Nat) : List Int := l.filter fun i => decide (0 ≤ i) && decide (i < (n : Int))
def rowD (l : List Int) (n : Nat) : D := .lst ((rowP l n).map .int)
def toldN : D → List Int
  | .str x => [(x.count 34 : Nat)]
  | _ => []
theorem toldN_len (d : D) : (toldN d).length ≤ 1 := by
  cases d <;> simp [toldN]
def readerRow (names : List D) (n : Nat) : List Int := rowP (((n : Int) - 1) :: toldN (names.getD n .none)) n
def readerP (names : List D) : D := .lst ((List.range names.length).map fun n => .lst ((readerRow names n).map .int))
theorem row_filter (l : List Int) (n : Nat) : (((l.map D.int).filter fun d => decide (0 ≤ intOf d) && decide (intOf d < (n : Int))).map fun d => d) = (rowP l n).map .int := by
  rw [List.map_id', filter_map_int l _ (fun i => decide (0 ≤ i) && decide (i < (n : Int))) (fun i => rfl)]
  rfl
theorem mem_ints {l : List Int} {d : D} (h : d ∈ l.map D.int) : ∃ i, i ∈ l ∧ d = .int i := by
  obtain ⟨i, hi, rfl⟩ := List.mem_map.mp h
  exact ⟨i, hi, rfl⟩
theorem rng_get {n i : Nat} {d : D} (h : (rngD 0 (n : Int))[i]? = some d) : i < n ∧ d = .int i := by
  rw [rngD_nat] at h
  simp only [List.getElem?_map, Option.map_eq_some_iff] at h
  obtain ⟨k, hk, rfl⟩ := h
  obtain ⟨h1, h2⟩ := List.getElem?_eq_some_iff.mp hk
  simp at h1 h2
  subst h2
  exact ⟨h1, rfl⟩
theorem range_snoc {α : Type} (f : Nat → α) (i : Nat) : (List.range (i + 1)).map f = (List.range i).map f ++ [f i] := by
  rw [List.range_succ, List.map_append]; rfl
set_option maxHeartbeats 2000000 in
theorem fn_reader {c : Cx} {A : Around} {a : Addr} {names : List D} (hA : AOk A 1) (D : DefAt c a (stmtN 13)) (B : Builts c) (hz : names.length ≤ 100) (hn : ∀ d ∈ names, (∃ x : List Nat, d = .str x ∧ x.length ≤ 1000) ∨ ∃ l, d = .lst l) :
    Fn c A (.ref a) [.lst names] (readerP names) := by
  refine fn_at (names := [Str.ofString "names"]) hA D rfl (by decide +kernel) (fun pm code vs h => ?_) rfl (by decide) (fun pm code L y hy => ?_) (fun pm code L hF hA' => ?_) rfl rfl
  · (obtain ⟨v1, rfl⟩ := len1 h; rfl)
  · simp only [List.mem_singleton] at hy
    subst hy
    exact .inl rfl
  · conv => arg 5; whnf
    have hE := hF.ok
    have hh := hA'.hh
    have hsl := sizeLine_eq
    refine ex_cons (ex_assignF hF (.inl rfl) (evf_list evall_nil (by simp)) (ex_cons (ex_for (xd := .rng 0 (names.length : Int)) (bs := fun d => [(Str.ofString "size", .val d)]) (okd := fun _ => True) hF (ev_callT (evv_built hE rfl B.range rfl) (evall_cons (ev_callB (evv_built hE rfl B.len rfl) (evall_cons (ev_name hE rfl) evall_nil) (fn_lenL (ds := names) (by (first | assumption | exact Int.natCast_nonneg _ | exact Nat.zero_le _ | exact Nat.le_refl _ | decide | exact Nat.le_trans (by assumption) (by decide) | lia)))) evall_nil) fn_range1) (itd_rng hh (by decide) (by (first | assumption | exact Int.natCast_nonneg _ | exact Nat.zero_le _ | exact Nat.le_refl _ | decide | exact Nat.le_trans (by assumption) (by decide) | lia))) (bindF_name hF (.inr ⟨rfl, _, rfl⟩)) (fun _ _ => trivial)
      (forGo_inv (fun i σ => σ = [(Str.ofString "rows", .own ((List.range i).map fun n => .lst ((readerRow names n).map .int))), (Str.ofString "names", .val (.lst names))]) _ 0 _ rfl (fun i d σ hd hi => ?_) (fun σ hi => ?_)))))
    · subst hi
      rw [Nat.zero_add]
      obtain ⟨hi, rfl⟩ := rng_get hd
      have hg : names[i]? = some (names.getD i .none) := by
        rw [List.getD_eq_getElem?_getD, List.getElem?_eq_getElem hi]; rfl
      have hmem : names.getD i .none ∈ names := List.mem_of_getElem? hg
      have hii : (i : Int).toNat = i := Int.toNat_natCast i
      have hx := hn _ hmem
      generalize hd : names.getD i .none = nd at hg hx
      refine ex_cons (ex_assign (d := .lst ((toldN nd).map .int)) hF (.inl rfl) (ev_if (x := isStrD nd) (tr_val (ev_callB (evv_built hE rfl B.isinstance rfl) (evall_cons (ev_item (evl_of (ev_name hE rfl)) (ev_name hE rfl) (by lia) (by lia) (by rw [hii]; exact hg)) (evall_cons (evv_strT (evv_built hE rfl B.str rfl)) evall_nil)) (fn_isStr (hx.imp (fun ⟨x, q, _⟩ => ⟨x, q⟩) id)))) (fun h => ?_) (fun h => ?_)) (ex_cons (ex_append (ds := (List.range i).map fun n => .lst ((readerRow names n).map .int)) (d := .lst ((readerRow names i).map .int)) hF rfl ((ev_of_fresh (ev_comp (bs := fun d => [(Str.ofString "left", .val d)]) (okd := fun _ => True) (σc := [(Str.ofString "size", .val (.int i))]) (ds := ((((i : Int) - 1) :: toldN nd).map .int)) (fun d => decide (0 ≤ intOf d) && decide (intOf d < (i : Int))) (fun d => d)
        (ev_of_fresh (evf_cat (x := [.int ((i : Int) - 1)]) (evl_of (ev_list (evall_cons (ev_sub (ev_name hE rfl) ev_int) evall_nil) (by simp; (first | assumption | exact Int.natCast_nonneg _ | exact Nat.zero_le _ | exact Nat.le_refl _ | decide | exact Nat.le_trans (by assumption) (by decide) | lia)))) (evl_of (ev_name hE rfl)) ?_)) (itd_lst hh) rfl
        (fun G h C sc => sc_cons (cap_rd (sc _ _ rfl) (.inl rfl) rfl rfl) sc_nil) (bnd_name hE rfl rfl) ?_ (fun _ _ => trivial) (fun C d hd' => ?_) (fun C d hd' _ => ev_name (cE_ok hE rfl) rfl))).cast ?_) ?_ (exs_sub (τ := [(Str.ofString "rows", .own ((List.range (i + 1)).map fun n => .lst ((readerRow names n).map .int))), (Str.ofString "names", .val (.lst names))]) ?_ (ex_nil rfl)))))
      · obtain ⟨x, rfl, hxl⟩ | ⟨l, rfl⟩ := hx
        · exact ev_list (evall_cons (ev_count (ev_item (evl_of (ev_name hE rfl)) (ev_name hE rfl) (by lia) (by lia) (by rw [hii]; exact hg)) (ev_str (l := [34]))) evall_nil) (by have := toldN_len (.str x); rw [List.length_map]; lia)
        · cases h
      · obtain ⟨x, rfl, hxl⟩ | ⟨l, rfl⟩ := hx
        · cases h
        · exact ev_list evall_nil (by show 0 ≤ _; (first | assumption | exact Int.natCast_nonneg _ | exact Nat.zero_le _ | exact Nat.le_refl _ | decide | exact Nat.le_trans (by assumption) (by decide) | lia))
      · have := toldN_len nd
        rw [List.length_map]
        show 1 + _ ≤ _
        (first | assumption | exact Int.natCast_nonneg _ | exact Nat.zero_le _ | exact Nat.le_refl _ | decide | exact Nat.le_trans (by assumption) (by decide) | lia)
      · have := toldN_len nd
        rw [List.length_map, List.length_cons]
        (first | assumption | exact Int.natCast_nonneg _ | exact Nat.zero_le _ | exact Nat.le_refl _ | decide | exact Nat.le_trans (by assumption) (by decide) | lia)
      · obtain ⟨j, hj, rfl⟩ := mem_ints hd'
        exact tests_one (tr_chain ev_int (ev_name (cE_ok hE rfl) (d := .int j) rfl) (ev_name (cE_ok hE rfl) (d := .int i) rfl) cmp_leI cmp_ltI)
      · rw [row_filter]
        unfold readerRow
        rw [hd]
      · simp; (first | assumption | exact Int.natCast_nonneg _ | exact Nat.zero_le _ | exact Nat.le_refl _ | decide | exact Nat.le_trans (by assumption) (by decide) | lia)
      · intro p hp
        simp only [List.mem_cons, List.not_mem_nil, or_false] at hp
        rcases hp with rfl | rfl
        · rw [range_snoc]; rfl
        · rfl
    · subst hi
      refine exs_freeze (x := Str.ofString "rows") rfl (ex_cons (ex_return hF (ev_name hE rfl) ?_))
      rw [rng_len, Nat.zero_add]; rfl
end Mine
end


/-! part F7 -/
section
open PySem PySem.W PyProof.Rows PySem.Calls PySem.Spec
set_option Elab.async false
set_option linter.unusedVariables false
set_option maxRecDepth 100000
namespace Mine
/-- the class Whitespace, its two methods -/
structure WsAt (c : Cx) (C I J : Addr) : Prop where
  g : nsIn c.K mainGlobals "Whitespace" = some (some (.ref C))
  keep : keepIn c.K (.ref C) = true
  makes : makesIn c.K C = true
  init : findIn c.K (.ref C) "__init__" = some (some (.ref I))
  initF : typeIn c.K (.ref I) = some (.type "function")
  set : findIn c.K (.ref C) "__setattr__" = some (some (.builtin "object.__setattr__"))
  over : plainOver c.K C = true
  dict : hasDictIn c.K C = true
  get : plainGet c.K C "norm" = true
  raw : findIn c.K (.ref C) "raw" = some none
  n : findIn c.K (.ref C) "n" = some none
  nt : findIn c.K (.ref C) "nt" = some none
  norm : findIn c.K (.ref C) "norm" = some none
  simple : findIn c.K (.ref C) "is_simple" = some none
  level : findIn c.K (.ref C) "indent_level" = some (some (.ref J))
  levelF : isFn c.K (.ref J) = true
  spc : ∃ mc t, readsIn c.K C mc = true ∧ findCls c.K (.ref C) mc "S" = some (.val (.str (S [32]) t))
  tab : ∃ mc t, readsIn c.K C mc = true ∧ findCls c.K (.ref C) mc "T" = some (.val (.str (S [9]) t))
section
variable {c : Cx} {A : Around} {env : Env} {σ : Sig} {Φ : Post} {s : Shared} {G : Gh}
/-- an attribute of a Whitespace -/
theorem getWs {C : Addr} {count : List Int} {trail nt : Int} {v : Value} (on : OnG c G s) (r : Rep G v (.ws C count trail nt)) : ∃ a dx sl od es tp tc t1 t2 n1 n2 vc, v = .ref a ∧ InstAt s.heap a ⟨.ref C, some dx, .plain, sl⟩ C (some od) ∧ (∀ name, lookIn name od = getL name es) ∧
    getL (Str.ofString "norm") es = some (some (.ref tp)) ∧ getL (Str.ofString "nt") es = some (some (.int nt t1)) ∧ getL (Str.ofString "indent_level") es = some none ∧
    G tp (tupObj [.ref tc, .int trail t2] n1) ∧ G tc (tupObj vc n2) ∧ IntsAre vc count := by
  cases r with
  | @ws _ a dx tp tc es n _ _ _ vc t1 t2 sl n1 n2 h1 h2 e1 e2 e3 h3 h4 i =>
    obtain ⟨od, hod, al⟩ := on.has _ _ h2
    refine ⟨a, dx, sl, od, es, tp, tc, t1, t2, n1, n2, vc, rfl, ⟨on.at h1 rfl, rfl, rfl, hod⟩, fun name => ?_, e1, e2, e3, h3, h4, i⟩
    unfold lookIn
    rw [al.to.data rfl]
    exact lookIn_dict name es n
theorem ev_norm {C I J : Addr} {e : Str} {xp pos : Pos} {count : List Int} {trail nt : Int} (W : WsAt c C I J) (he : Ev c A env σ (.Name e xp) (.ws C count trail nt)) : Ev c A env σ (.Attribute (.Name e xp) (Str.ofString "norm") pos) (.tup [.tup (count.map .int), .int trail]) := fun G s ok =>
  Attribute_name ((he G s ok).use fun v G1 s1 g1 r1 => by
    obtain ⟨a, dx, sl, od, es, tp, tc, t1, t2, n1, n2, vc, rfl, I, hl, e1, e2, e3, g2, g3, i⟩ := getWs g1.on r1
    exact get_value (ok.grow g1).gl.inn I (plainGet_of W.get).1 (findObj_own W.dict W.norm rfl ((hl _).trans e1)) rfl ⟨G1, g1.trans (Grow.toks g1.on _), .tup g2 (.cons (.tup g3 (of_ints i)) (.one (.int _ _)))⟩)
theorem ev_nt {C I J : Addr} {e : Str} {xp pos : Pos} {count : List Int} {trail nt : Int} (W : WsAt c C I J) (he : Ev c A env σ (.Name e xp) (.ws C count trail nt)) : Ev c A env σ (.Attribute (.Name e xp) (Str.ofString "nt") pos) (.int nt) := fun G s ok =>
  Attribute_name ((he G s ok).use fun v G1 s1 g1 r1 => by
    obtain ⟨a, dx, sl, od, es, tp, tc, t1, t2, n1, n2, vc, rfl, I, hl, e1, e2, e3, g2, g3, i⟩ := getWs g1.on r1
    exact get_value (ok.grow g1).gl.inn I (plainGet_of W.get).1 (findObj_own W.dict W.nt rfl ((hl _).trans e2)) rfl ⟨G1, g1.trans (Grow.toks g1.on _), .int _ _⟩)
/-- the method's call -/
theorem ev_level {C I J : Addr} {o i : Expr} {apos pos : Pos} {pl : Sem Bool} {count : List Int} {trail nt tab : Int} {d : D} {oJ : Obj} {fd : FuncData} (W : WsAt c C I J) (hk : c.K.lookup J = some oJ) (hd : oJ.data = .func fd) (ho : Ev c A env σ o (.ws C count trail nt)) (hi : Ev c A env σ i (.int tab)) (h : Fn c A (.ref J) [.ws C count trail nt, .int tab] d)
    (hc : eval (.Call (.Attribute o (Str.ofString "indent_level") apos) [i] [] pos) env = (do
      let ov ← eval o env
      standAt apos.atName
      let (f, first) ← holding [ov] (getMethod ov (Str.ofString "indent_level") pl)
      callWith pos f first (backTo pos (starEach [i] env)) []) := by rfl)
    (hs : starEach [i] env = (false, eval i env) :: starEach [] env := by rfl) : Ev c A env σ (.Call (.Attribute o (Str.ofString "indent_level") apos) [i] [] pos) d := fun G s ok => by
  refine MethodCall_ (pl := pl) ((ho G s ok).use fun v G1 s1 g1 r1 => ?_) hc
  obtain ⟨a, dx, sl, od, es, tp, tc, t1, t2, n1, n2, vc, e, I, hl, e1, e2, e3, g2, g3, hints⟩ := getWs g1.on r1
  subst e
  refine method_fn (ok.grow g1).gl.inn I (plainGet_of W.get).1 (plainGet_of W.get).2 W.level (beq_iff_eq.mp W.levelF) (by show (lookIn _ od).map _ = _; rw [hl, e3]; rfl) ?_
  have ha : wpAny (model c.prog c.w) A (spliced (backTo pos (starEach [i] env))) (fun vs s1 => (s1.heap.get? J = some oJ ∧ oJ.data = .func fd) ∧ wpAny (model c.prog c.w) A (call (.ref J) (.ref a :: vs)) (fun v s' => ∃ G', Grow c G s G' s' ∧ Rep G' v d) (fun _ _ => False) s1) (fun _ _ => False) s1 := by
    refine (evall_cons hi evall_nil hs).use (ok.grow g1) fun vs G2 s2 g2 r2 => ?_
    exact ⟨⟨(ok.grow (g1.trans g2)).gl.inn _ _ hk, hd⟩, (h G2 s2 _ g2.on (ok.grow (g1.trans g2)).gl (.cons (r1.mono g2.sub) r2)).use fun v G3 s3 g3 r3 => ⟨G3, (g1.trans g2).trans g3, r3⟩⟩
  rw [hs] at ha ⊢
  exact callWith_function (first := [.ref a]) (evalArgs_plain ha)
theorem fn_lenT {ds : List D} (hx : ds.length ≤ 2 ^ 40) : Fn c A (.builtin "len") [.tup ds] (.int ds.length) := fun G s vs on gl r => by
  obtain ⟨_, _, rfl, r1, r2⟩ := r.inv
  · (first | obtain rfl := r2.inv0 | obtain ⟨_, rfl⟩ := r2.inv | obtain rfl := r2.inv | cases r2)
    obtain ⟨t, vs, n, rfl, g, r⟩ := r1.inv
    · refine PyProof.Rows.len_tuple ⟨_, on.at g rfl, rfl, _, rfl⟩ (by simp [r.length]; lia) ⟨G, Grow.toks on _, ?_⟩
      rw [show vs.toArray.size = ds.length by simp [r.length]]
      exact .int _ _
theorem ev_itemT {v i : Expr} {pos : Pos} {ds : List D} {k : Int} {d : D} (hv : Ev c A env σ v (.tup ds)) (hi : Ev c A env σ i (.int k)) (h0 : 0 ≤ k) (h1 : k < 2 ^ 63) (hd : ds[k.toNat]? = some d)
    (hs : ∀ l k u, subscripted i false (.ref l) (.int k u) = operate [.ref l, .int k u] (getItem (.ref l) (.int k u)) := by intro _ _ _; rfl) : Ev c A env σ (.Subscript v i pos) d := fun G s ok => by
  refine Subscript_ ((hv G s ok).use fun o G1 s1 g1 r1 => (hi G1 s1 (ok.grow g1)).use fun w G2 s2 g2 r2 => ?_)
  (first | obtain rfl := r2.inv0 | obtain ⟨_, rfl⟩ := r2.inv | obtain rfl := r2.inv | cases r2)
  obtain ⟨t, vs, n, rfl, g, r⟩ := r1.inv
  · obtain ⟨y, hy, ry⟩ := r.get hd
    have hlt : k.toNat < vs.length := by
      obtain ⟨q, _⟩ := List.getElem?_eq_some_iff.mp hy
      exact q
    have ht : IsTup s2.heap t vs.toArray := ⟨_, g2.on.at (g2.sub _ _ g) rfl, rfl, _, rfl⟩
    refine tail_any (T := "tuple") ?_ slot_tuple_getitem.lookup (PyProof.Rows.getItem_tuple (j := k.toNat) ht (by (first | assumption | exact Int.natCast_nonneg _ | exact Nat.zero_le _ | exact Nat.le_refl _ | decide | exact Nat.le_trans (by assumption) (by decide) | lia)) (by (first | assumption | exact Int.natCast_nonneg _ | exact Nat.zero_le _ | exact Nat.le_refl _ | decide | exact Nat.le_trans (by assumption) (by decide) | lia)) ?_ (by simpa using hy) ⟨G2, g1.trans g2, ry.mono g2.sub⟩) (hs _ _ _)
    · exact ⟨_, g2.on.at (g2.sub _ _ g) rfl, rfl⟩
    · unfold seqIndex?
      simp
      (first | assumption | exact Int.natCast_nonneg _ | exact Nat.zero_le _ | exact Nat.le_refl _ | decide | exact Nat.le_trans (by assumption) (by decide) | lia)
end
end Mine
end


/-! part F8 -/
section
open PySem PySem.W PyProof.Rows PySem.Calls PySem.Spec
set_option Elab.async false
set_option linter.unusedVariables false
set_option maxRecDepth 100000
namespace Mine
def boolsD (l : List Bool) : List D := l.map .bool
def rowsD (ls : List (List Bool)) : List D := ls.map fun l => .lst (boolsD l)
def movesD (ls : List (List Int)) : List D := ls.map fun l => .lst (l.map .int)
def cellP (lost : List (List Bool)) (row : List Bool) (one two : List Int) : Bool :=
  !((one.map fun l => (lost.getD l.toNat []).getD row.length false) ++ (two.map fun l => row.getD l.toNat false)).contains true
def rowOf (lost : List (List Bool)) (one : List Int) (second : List (List Int)) : List Bool := second.foldl (fun row two => row ++ [cellP lost row one two]) []
def lostP (first second : List (List Int)) : List (List Bool) := first.foldl (fun lost one => lost ++ [rowOf lost one second]) []
theorem foldl_take {α β : Type} (f : α → β → α) (a : α) (l : List β) (i : Nat) (b : β) (h : l[i]? = some b) : (l.take (i + 1)).foldl f a = f ((l.take i).foldl f a) b := by
  rw [List.take_add_one, h, List.foldl_append]; rfl
theorem fold_len {β : Type} (f : List α → β → α) (l : List β) : (l.foldl (fun r b => r ++ [f r b]) []).length = l.length := by
  have go : ∀ (l : List β) (r : List α), (l.foldl (fun r b => r ++ [f r b]) r).length = r.length + l.length := by
    intro l
    induction l with
    | nil => intro r; simp
    | cons b l ih => intro r; rw [List.foldl_cons, ih]; simp; (first | assumption | exact Int.natCast_nonneg _ | exact Nat.zero_le _ | exact Nat.le_refl _ | decide | exact Nat.le_trans (by assumption) (by decide) | lia)
  simpa using go l []
theorem rowOf_len (lost : List (List Bool)) (one : List Int) (second : List (List Int)) : (rowOf lost one second).length = second.length := fold_len (fun row two => cellP lost row one two) second
theorem lostP_len (first second : List (List Int)) : (lostP first second).length = first.length := fold_len (fun lost one => rowOf lost one second) first
theorem lostP_row (second : List (List Int)) : ∀ (first : List (List Int)) (r : List Bool), r ∈ lostP first second → r.length = second.length := by
  have go : ∀ (first : List (List Int)) (acc : List (List Bool)), (∀ r ∈ acc, r.length = second.length) → ∀ r ∈ first.foldl (fun lost one => lost ++ [rowOf lost one second]) acc, r.length = second.length := by
    intro first
    induction first with
    | nil => intro acc h; exact h
    | cons one first ih =>
      intro acc h
      rw [List.foldl_cons]
      refine ih _ fun r hr => ?_
      rcases List.mem_append.mp hr with hr | hr
      · exact h r hr
      · rw [List.mem_singleton.mp hr]; exact rowOf_len _ _ _
  intro first
  exact go first [] (fun r h => nomatch h)
theorem any_bools (l : List Bool) : (boolsD l).any (fun y => PyData.eqv (toPy y) (toPy (.bool true))) = l.contains true := by
  induction l with
  | nil => rfl
  | cons b l ih =>
    show (PyData.eqv (toPy (.bool b)) (toPy (.bool true)) || (boolsD l).any _) = _
    rw [ih, List.contains_cons]
    cases b <;> rfl
theorem plainAll_bools (l : List Bool) : plainAll (boolsD l) = true := by
  induction l with
  | nil => rfl
  | cons b l ih => show (plainD (.bool b) && plainAll (boolsD l)) = true; rw [ih]; rfl
theorem map_ints {l : List Int} (g : Int → Bool) : ((l.map D.int).filter fun _ => true).map (fun d => D.bool (g (intOf d))) = (l.map g).map D.bool := by
  rw [List.filter_eq_self.mpr (fun _ _ => rfl), List.map_map, List.map_map]
  rfl
theorem List.filter_true_all {α : Type} (l : List α) : (l.filter fun _ => true) = l := List.filter_eq_self.mpr (fun _ _ => rfl)
theorem getD_get {l : List α} {i : Nat} {d : α} (h : i < l.length) : l[i]? = some (l.getD i d) := by
  rw [List.getD_eq_getElem?_getD, List.getElem?_eq_getElem h]; rfl
set_option maxHeartbeats 4000000 in
theorem fn_lost {c : Cx} {A : Around} {a : Addr} {first second : List (List Int)} (hA : AOk A 1) (D : DefAt c a (stmtN 16)) (B : Builts c) (h1 : first.length ≤ 100) (h2 : second.length ≤ 100)
    (hf : ∀ (i : Nat) (one : List Int), first[i]? = some one → one.length ≤ 100 ∧ ∀ l ∈ one, 0 ≤ l ∧ l < (i : Int)) (hs : ∀ (i : Nat) (two : List Int), second[i]? = some two → two.length ≤ 100 ∧ ∀ l ∈ two, 0 ≤ l ∧ l < (i : Int)) :
    Fn c A (.ref a) [.lst (movesD first), .lst (movesD second)] (.lst (rowsD (lostP first second))) := by
  refine fn_at (names := [Str.ofString "first", Str.ofString "second"]) hA D rfl (by decide +kernel) (fun pm code vs h => ?_) rfl (by decide) (fun pm code L y hy => ?_) (fun pm code L hF hA' => ?_) rfl rfl
  · (obtain ⟨v1, v2, rfl⟩ := len2 h; rfl)
  · simp only [List.mem_cons, List.not_mem_nil, or_false] at hy
    rcases hy with rfl | rfl
    · exact .inl rfl
    · exact .inl rfl
  · conv => arg 5; whnf
    have hE := hF.ok
    have hh := hA'.hh
    have hsl := sizeLine_eq
    refine ex_cons (ex_assignF hF (.inr ⟨rfl, _, rfl⟩) (evf_list evall_nil (by simp)) (ex_cons (ex_for (bs := fun d => [(Str.ofString "one", .val d)]) (okd := fun _ => True) hF (ev_name hE (d := .lst (movesD first)) rfl) (itd_lst hh) (bindF_name hF (.inl rfl)) (fun _ _ => trivial)
      (forGo_inv (fun i σ => σ = [(Str.ofString "lost", .own (rowsD (lostP (first.take i) second))), (Str.ofString "first", .val (.lst (movesD first))), (Str.ofString "second", .val (.lst (movesD second)))]) _ 0 _ rfl (fun i d σ hd hi => ?_) (fun σ hi => ?_)))))
    · subst hi
      rw [Nat.zero_add]
      unfold movesD at hd
      rw [List.getElem?_map, Option.map_eq_some_iff] at hd
      obtain ⟨one, hone, rfl⟩ := hd
      obtain ⟨hol, hor⟩ := hf i one hone
      have hil : i < first.length := by
        obtain ⟨q, _⟩ := List.getElem?_eq_some_iff.mp hone
        exact q
      have hll : (lostP (first.take i) second).length = i := by rw [lostP_len]; simp; (first | assumption | exact Int.natCast_nonneg _ | exact Nat.zero_le _ | exact Nat.le_refl _ | decide | exact Nat.le_trans (by assumption) (by decide) | lia)
      generalize hlo : lostP (first.take i) second = lo at hll
      have hlr : ∀ r ∈ lo, r.length = second.length := fun r hr => lostP_row second _ r (by rw [hlo]; exact hr)
      refine ex_cons (ex_assignF hF (.inr ⟨rfl, _, rfl⟩) (evf_list evall_nil (by simp)) (ex_cons (ex_for (bs := fun d => [(Str.ofString "two", .val d)]) (okd := fun _ => True) hF (ev_name hE (d := .lst (movesD second)) rfl) (itd_lst hh) (bindF_name hF (.inl rfl)) (fun _ _ => trivial)
        (forGo_inv (fun j σ => σ = [(Str.ofString "row", .own (boolsD (rowOf lo one (second.take j)))), (Str.ofString "one", .val (.lst (one.map .int))), (Str.ofString "lost", .own (rowsD lo)), (Str.ofString "first", .val (.lst (movesD first))), (Str.ofString "second", .val (.lst (movesD second)))]) _ 0 _ rfl (fun j d σ hd hi => ?_) (fun σ hi => ?_)))))
      · subst hi
        rw [Nat.zero_add]
        unfold movesD at hd
        rw [List.getElem?_map, Option.map_eq_some_iff] at hd
        obtain ⟨two, htwo, rfl⟩ := hd
        obtain ⟨htl, htr⟩ := hs j two htwo
        have hjl : j < second.length := by
          obtain ⟨q, _⟩ := List.getElem?_eq_some_iff.mp htwo
          exact q
        have hrl : (rowOf lo one (second.take j)).length = j := by rw [rowOf_len]; simp; (first | assumption | exact Int.natCast_nonneg _ | exact Nat.zero_le _ | exact Nat.le_refl _ | decide | exact Nat.le_trans (by assumption) (by decide) | lia)
        have hnext : rowOf lo one (second.take (j + 1)) = rowOf lo one (second.take j) ++ [cellP lo (rowOf lo one (second.take j)) one two] := foldl_take _ _ _ _ _ htwo
        generalize hrw : rowOf lo one (second.take j) = rw_ at hrl hnext
        refine ex_cons (ex_append (ds := boolsD rw_) (d := .bool (cellP lo rw_ one two)) hF rfl ((ev_cmp1 ev_bool (ev_of_fresh (EvF.cast (d' := boolsD ((one.map fun l => (lo.getD l.toNat []).getD rw_.length false) ++ (two.map fun l => rw_.getD l.toNat false))) (evf_cat (evl_of (ev_of_fresh (ev_comp (bs := fun d => [(Str.ofString "left", .val d)]) (okd := fun _ => True) (σc := [(Str.ofString "lost", .own (rowsD lo)), (Str.ofString "row", .own (boolsD rw_))]) (ds := one.map .int) (fun _ => true) (fun d => .bool ((lo.getD (intOf d).toNat []).getD rw_.length false))
            (ev_name hE rfl) (itd_lst hh) rfl (fun G h C sc => sc_cons (cap_rd (sc _ _ rfl) (.inl rfl) rfl rfl) (sc_cons (cap_rd (sc _ _ rfl) (.inl rfl) rfl rfl) sc_nil)) (bnd_name hE rfl rfl) ?_ (fun _ _ => trivial) (fun C d hd' => tests_nil) (fun C d hd' _ => ?_))))
          (evl_of (ev_of_fresh (ev_comp (bs := fun d => [(Str.ofString "left", .val d)]) (okd := fun _ => True) (σc := [(Str.ofString "row", .own (boolsD rw_))]) (ds := two.map .int) (fun _ => true) (fun d => .bool (rw_.getD (intOf d).toNat false))
            (ev_name hE rfl) (itd_lst hh) rfl (fun G h C sc => sc_cons (cap_rd (sc _ _ rfl) (.inl rfl) rfl rfl) sc_nil) (bnd_name hE rfl rfl) ?_ (fun _ _ => trivial) (fun C d hd' => tests_nil) (fun C d hd' _ => ?_)))) ?_) ?_)) (cmp_notIn hA' rfl (plainAll_bools _) (by decide))).cast ?_) ?_
          (exs_sub (τ := [(Str.ofString "row", .own (boolsD (rowOf lo one (second.take (j + 1))))), (Str.ofString "one", .val (.lst (one.map .int))), (Str.ofString "lost", .own (rowsD lo)), (Str.ofString "first", .val (.lst (movesD first))), (Str.ofString "second", .val (.lst (movesD second)))]) ?_ (ex_nil rfl)))
        · rw [List.length_map]; (first | assumption | exact Int.natCast_nonneg _ | exact Nat.zero_le _ | exact Nat.le_refl _ | decide | exact Nat.le_trans (by assumption) (by decide) | lia)
        · obtain ⟨l, hl, rfl⟩ := mem_ints hd'
          obtain ⟨hl0, hl1⟩ := hor l hl
          have hlt : l.toNat < lo.length := by (first | assumption | exact Int.natCast_nonneg _ | exact Nat.zero_le _ | exact Nat.le_refl _ | decide | exact Nat.le_trans (by assumption) (by decide) | lia)
          have hg := getD_get (d := []) hlt
          have hlen : (lo.getD l.toNat []).length = second.length := hlr _ (List.mem_of_getElem? hg)
          have hg2 := getD_get (l := lo.getD l.toNat []) (i := rw_.length) (d := false) (by (first | assumption | exact Int.natCast_nonneg _ | exact Nat.zero_le _ | exact Nat.le_refl _ | decide | exact Nat.le_trans (by assumption) (by decide) | lia))
          refine ev_item (evl_of (ev_item (d := .lst (boolsD (lo.getD l.toNat []))) (evl_own (cE_ok hE rfl) rfl) (ev_name (cE_ok hE rfl) (d := .int l) rfl) hl0 (by (first | assumption | exact Int.natCast_nonneg _ | exact Nat.zero_le _ | exact Nat.le_refl _ | decide | exact Nat.le_trans (by assumption) (by decide) | lia)) ?_)) (ev_lenL (evv_built (cE_ok hE rfl) rfl B.len rfl) (evl_own (cE_ok hE rfl) (ds := boolsD rw_) rfl) ?_) (by (first | assumption | exact Int.natCast_nonneg _ | exact Nat.zero_le _ | exact Nat.le_refl _ | decide | exact Nat.le_trans (by assumption) (by decide) | lia)) ?_ ?_
          · unfold rowsD; rw [List.getElem?_map, hg]; rfl
          · unfold boolsD; rw [List.length_map]; (first | assumption | exact Int.natCast_nonneg _ | exact Nat.zero_le _ | exact Nat.le_refl _ | decide | exact Nat.le_trans (by assumption) (by decide) | lia)
          · unfold boolsD; rw [List.length_map]; lia
          · unfold boolsD
            rw [List.getElem?_map, List.length_map, Int.toNat_natCast, hg2]; rfl
        · rw [List.length_map]; (first | assumption | exact Int.natCast_nonneg _ | exact Nat.zero_le _ | exact Nat.le_refl _ | decide | exact Nat.le_trans (by assumption) (by decide) | lia)
        · obtain ⟨l, hl, rfl⟩ := mem_ints hd'
          obtain ⟨hl0, hl1⟩ := htr l hl
          have hg := getD_get (l := rw_) (i := l.toNat) (d := false) (by (first | assumption | exact Int.natCast_nonneg _ | exact Nat.zero_le _ | exact Nat.le_refl _ | decide | exact Nat.le_trans (by assumption) (by decide) | lia))
          refine ev_item (evl_own (cE_ok hE rfl) rfl) (ev_name (cE_ok hE rfl) (d := .int l) rfl) hl0 (by (first | assumption | exact Int.natCast_nonneg _ | exact Nat.zero_le _ | exact Nat.le_refl _ | decide | exact Nat.le_trans (by assumption) (by decide) | lia)) ?_
          unfold boolsD; rw [List.getElem?_map, hg]; rfl
        · simp only [List.length_map, List.filter_true_all]
          (first | assumption | exact Int.natCast_nonneg _ | exact Nat.zero_le _ | exact Nat.le_refl _ | decide | exact Nat.le_trans (by assumption) (by decide) | lia)
        · unfold boolsD
          rw [List.map_append, List.filter_true_all, List.filter_true_all, List.map_map, List.map_map, List.map_map, List.map_map]
          rfl
        · rw [any_bools]; rfl
        · unfold boolsD; rw [List.length_map]; (first | assumption | exact Int.natCast_nonneg _ | exact Nat.zero_le _ | exact Nat.le_refl _ | decide | exact Nat.le_trans (by assumption) (by decide) | lia)
        · intro p hp
          simp only [List.mem_cons, List.not_mem_nil, or_false] at hp
          rcases hp with rfl | rfl | rfl | rfl | rfl
          · rw [hnext]; unfold boolsD; rw [List.map_append]; rfl
          · rfl
          · rfl
          · rfl
          · rfl
      · subst hi
        have hml : (movesD second).length = second.length := by unfold movesD; simp
        rw [Nat.zero_add, hml, List.take_length]
        refine exs_freeze (x := Str.ofString "row") rfl (ex_cons (ex_append (ds := rowsD lo) (d := .lst (boolsD (rowOf lo one second))) hF rfl (ev_name hE rfl) ?_
          (exs_sub (τ := [(Str.ofString "lost", .own (rowsD (lostP (first.take (i + 1)) second))), (Str.ofString "first", .val (.lst (movesD first))), (Str.ofString "second", .val (.lst (movesD second)))]) ?_ (ex_nil rfl))))
        · unfold rowsD; rw [List.length_map]; (first | assumption | exact Int.natCast_nonneg _ | exact Nat.zero_le _ | exact Nat.le_refl _ | decide | exact Nat.le_trans (by assumption) (by decide) | lia)
        · have hnext : lostP (first.take (i + 1)) second = lostP (first.take i) second ++ [rowOf (lostP (first.take i) second) one second] := foldl_take _ _ _ _ _ hone
          intro p hp
          simp only [List.mem_cons, List.not_mem_nil, or_false] at hp
          rcases hp with rfl | rfl | rfl
          · rw [hnext, hlo]; unfold rowsD; rw [List.map_append]; rfl
          · rfl
          · rfl
    · subst hi
      refine exs_freeze (x := Str.ofString "lost") rfl (ex_cons (ex_return hF (ev_name hE rfl) ?_))
      have : (movesD first).length = first.length := by unfold movesD; simp
      rw [Nat.zero_add, this, List.take_length]
      rfl
end Mine
end


/-! part F9 -/
section
open PySem PySem.W PyProof.Rows PySem.Calls PySem.Spec
set_option Elab.async false
set_option linter.unusedVariables false
set_option maxRecDepth 100000
namespace Mine
def methN (i : Nat) : Stmt := (bodyOf (stmtN 9)).getD i (.Pass default)
def mdOf (st : Stmt) (qual : Str) (pm code : Value) : FuncData := { fdOf st pm code with qualname := qual }
structure MethAt (c : Cx) (a : Addr) (st : Stmt) (qual : Str) : Prop where
  k : ∃ o pm code, c.K.lookup a = some o ∧ o.data = .func (mdOf st qual pm code) ∧ codeIn c.K code qual = true
abbrev envM (st : Stmt) (qual : Str) (pm code : Value) (L a : Addr) : Env := callEnvC (mdOf st qual pm code) L a
theorem envM_of {st : Stmt} {qual : Str} {pm code : Value} {L a : Addr} (hk : (scopeOf st).kind = .function) (hnd : ((cellsFrom 0 (scopeOf st).names []).map (·.1)).Nodup) : EnvF (envM st qual pm code L a) :=
  ⟨⟨hk, rfl, rfl⟩, fun n b h => lookup_of_mem_nodup (cellsFrom_names (scopeOf st).names 0 (L + 1) [] [] rfl ▸ hnd) h⟩
theorem fn_meth {c : Cx} {A : Around} {n : Nat} {a : Addr} {st : Stmt} {qual : Str} {names : List Str} {ds : List D} {d : D} (hA : AOk A (n + 1)) (D : MethAt c a st qual)
    (hk : (scopeOf st).kind = .function) (hnd0 : ((cellsFrom 0 (scopeOf st).names []).map (·.1)).Nodup)
    (hbind : ∀ pm code, ∀ vs : List Value, vs.length = ds.length → bindArgs (mdOf st qual pm code) ⟨vs, []⟩ = pure (names.zip vs)) (hlen : names.length = ds.length) (hnd : names.Nodup) (hst : ∀ pm code L, ∀ x ∈ names, Storable (envM st qual pm code L a) x)
    (h : ∀ pm code L, EnvF (envM st qual pm code L a) → AOk (A.deeper (envM st qual pm code L a)) n → ExS c (A.deeper (envM st qual pm code L a)) (envM st qual pm code L a) (names.zip (ds.map Sl.val)) (bodyOf st) fun fd' _ => fd' = .ret d)
    (hco : (scopeOf st).isCoroutine = false) (hgen : (scopeOf st).isGenerator = false) (hown0 : ((cellsFrom 0 (scopeOf st).names []).all fun p => (scopeOf st).names.lookup p.1 == some .cell) = true := by decide +kernel) : Fn c A (.ref a) ds d := by
  obtain ⟨o, pm, code, k1, k2, k3⟩ := D.k
  exact fn_def hA k1 k2 k3 rfl rfl (hbind pm code) hlen hnd (fun L => envM_of hk hnd0) (fun L n a hm => own_of hown0 n a hm) (fun L => hst pm code L) (fun L hA' => h pm code L (envM_of hk hnd0) hA') hco hgen hk
def ilP (tab : Nat) (count : List Int) (j : Nat) : Int := (List.range j).foldl (fun il k => il + (((tab + k : Nat) : Int).fdiv tab) * count.getD (tab + k) 0) 0
/-- what indent_level tells -/
def levelP (count : List Int) (trail nt : Int) (tab : Nat) : Int := trail + tab * (ilP tab count (count.length - tab) + nt)
theorem ilP_succ (tab : Nat) (count : List Int) (j : Nat) : ilP tab count (j + 1) = ilP tab count j + (((tab + j : Nat) : Int).fdiv tab) * count.getD (tab + j) 0 := by
  unfold ilP
  rw [List.range_succ, List.foldl_append]; rfl
theorem mulOk_right {a b : Int} (h : b.natAbs ≤ 2 ^ 40) : IntMulOk a b := IntMulOk.of_right (intBits_le_64 (by (first | assumption | exact Int.natCast_nonneg _ | exact Nat.zero_le _ | exact Nat.le_refl _ | decide | exact Nat.le_trans (by assumption) (by decide) | lia)) (by (first | assumption | exact Int.natCast_nonneg _ | exact Nat.zero_le _ | exact Nat.le_refl _ | decide | exact Nat.le_trans (by assumption) (by decide) | lia)))
theorem mulOk_left {a b : Int} (h : a.natAbs ≤ 2 ^ 40) : IntMulOk a b := IntMulOk.of_left (intBits_le_64 (by (first | assumption | exact Int.natCast_nonneg _ | exact Nat.zero_le _ | exact Nat.le_refl _ | decide | exact Nat.le_trans (by assumption) (by decide) | lia)) (by (first | assumption | exact Int.natCast_nonneg _ | exact Nat.zero_le _ | exact Nat.le_refl _ | decide | exact Nat.le_trans (by assumption) (by decide) | lia)))
set_option maxHeartbeats 2000000 in
theorem fn_level {c : Cx} {A : Around} {C I J : Addr} {count : List Int} {trail nt : Int} {tab : Nat} (hA : AOk A 1) (D : MethAt c J (methN 3) (Str.ofString "Whitespace.indent_level")) (W : WsAt c C I J) (B : Builts c) (hz : count.length ≤ 1000) (hn : ∀ n ∈ count, n.natAbs ≤ 2 ^ 40) (h1 : 1 ≤ tab) (h2 : tab ≤ 2 ^ 20) :
    Fn c A (.ref J) [.ws C count trail nt, .int tab] (.int (levelP count trail nt tab)) := by
  refine fn_meth (names := [Str.ofString "self", Str.ofString "tabsize"]) hA D rfl (by decide +kernel) (fun pm code vs h => ?_) rfl (by decide) (fun pm code L y hy => ?_) (fun pm code L hF hA' => ?_) rfl rfl
  · (obtain ⟨v1, v2, rfl⟩ := len2 h; rfl)
  · simp only [List.mem_cons, List.not_mem_nil, or_false] at hy
    rcases hy with rfl | rfl
    · exact .inl rfl
    · exact .inl rfl
  · conv => arg 5; whnf
    have hE := hF.ok
    have hh := hA'.hh
    have hsl := sizeLine_eq
    refine ex_cons (ex_pair (a := .tup (count.map .int)) (b := .int trail) hh hF (.inl rfl) (.inl rfl) (ev_norm W (ev_name hE rfl)) (ex_cons (ex_assign (d := .int 0) hF (.inl rfl) ev_int (ex_cons (ex_for (bs := fun d => [(Str.ofString "i", .val d)]) (okd := fun _ => True) (xd := .rng (tab : Int) (count.length : Int)) hF ((ev_callT (evv_built hE rfl B.range rfl) (evall_cons (ev_name hE rfl) (evall_cons (ev_callB (evv_built hE rfl B.len rfl) (evall_cons (ev_name hE rfl) evall_nil) (fn_lenT (ds := count.map .int) (by simp; (first | assumption | exact Int.natCast_nonneg _ | exact Nat.zero_le _ | exact Nat.le_refl _ | decide | exact Nat.le_trans (by assumption) (by decide) | lia)))) evall_nil)) fn_range2).cast (by rw [List.length_map])) (itd_rng hh (by (first | assumption | exact Int.natCast_nonneg _ | exact Nat.zero_le _ | exact Nat.le_refl _ | decide | exact Nat.le_trans (by assumption) (by decide) | lia)) (by (first | assumption | exact Int.natCast_nonneg _ | exact Nat.zero_le _ | exact Nat.le_refl _ | decide | exact Nat.le_trans (by assumption) (by decide) | lia))) (bindF_name hF (.inl rfl)) (fun _ _ => trivial)
      (forGo_inv (fun j σ => σ = [(Str.ofString "il", .val (.int (ilP tab count j))), (Str.ofString "trailing", .val (.int trail)), (Str.ofString "count", .val (.tup (count.map .int))), (Str.ofString "self", .val (.ws C count trail nt)), (Str.ofString "tabsize", .val (.int tab))]) _ 0 _ rfl (fun j d σ hd hi => ?_) (fun σ hi => ?_)))))))
    · subst hi
      rw [Nat.zero_add]
      unfold rngD at hd
      simp only [List.getElem?_map, Option.map_eq_some_iff] at hd
      obtain ⟨k, hk, rfl⟩ := hd
      obtain ⟨hk1, hk2⟩ := List.getElem?_eq_some_iff.mp hk
      simp at hk1 hk2
      subst hk2
      have hlt : tab + j < count.length := by (first | assumption | exact Int.natCast_nonneg _ | exact Nat.zero_le _ | exact Nat.le_refl _ | decide | exact Nat.le_trans (by assumption) (by decide) | lia)
      have hg := getD_get (l := count) (i := tab + j) (d := 0) hlt
      refine ex_cons (ex_assign (d := .int (ilP tab count (j + 1))) hF (.inl rfl) ((ev_add (ev_name hE rfl) (ev_mul (ev_fdiv (y := (tab : Int)) (ev_name hE rfl) (ev_name hE rfl) (by lia) (by lia)) (ev_itemT (ev_name hE rfl) (ev_name hE rfl) (by lia) (by lia) ?_) (mulOk_right (hn _ (List.mem_of_getElem? hg))))).cast ?_)
        (exs_sub (τ := [(Str.ofString "il", .val (.int (ilP tab count (j + 1)))), (Str.ofString "trailing", .val (.int trail)), (Str.ofString "count", .val (.tup (count.map .int))), (Str.ofString "self", .val (.ws C count trail nt)), (Str.ofString "tabsize", .val (.int tab))]) ?_ (ex_nil rfl)))
      · rw [show ((tab : Int) + (j : Int)).toNat = tab + j by (first | assumption | exact Int.natCast_nonneg _ | exact Nat.zero_le _ | exact Nat.le_refl _ | decide | exact Nat.le_trans (by assumption) (by decide) | lia), List.getElem?_map, hg]; rfl
      · rw [ilP_succ, show ((tab + j : Nat) : Int) = (tab : Int) + (j : Int) by (first | assumption | exact Int.natCast_nonneg _ | exact Nat.zero_le _ | exact Nat.le_refl _ | decide | exact Nat.le_trans (by assumption) (by decide) | lia)]
      · exact sub_cons rfl (sub_cons rfl (sub_cons rfl (sub_cons rfl (sub_cons rfl sub_nil))))
    · subst hi
      refine ex_cons (ex_return hF (ev_add (ev_name hE rfl) (ev_mul (ev_name hE rfl) (ev_add (ev_name hE rfl) (ev_nt W (ev_name hE rfl))) (mulOk_left (by (first | assumption | exact Int.natCast_nonneg _ | exact Nat.zero_le _ | exact Nat.le_refl _ | decide | exact Nat.le_trans (by assumption) (by decide) | lia))))) ?_)
      have hl : (rngD (tab : Int) (count.length : Int)).length = count.length - tab := by
        unfold rngD; simp
      rw [Nat.zero_add, hl]
      rfl
end Mine
end


/-! part KK -/
section
open PySem PySem.W PyProof.Rows PySem.Calls PySem.Spec
set_option Elab.async false
set_option linter.unusedVariables false
set_option maxRecDepth 100000
namespace Mine
noncomputable def ko_2 (P : PySem.Params) : PySem.Obj := (PySem.Obj.mk PySem.Value.none (Option.none) (PySem.Data.dict #[(PySem.DictEntry.mk (PySem.PyData.keyHash P (PySem.Str.ofString "type.__subclasses__.Exception.0")) (PySem.Value.str (PySem.Str.ofString "type.__subclasses__.Exception.0") 212) (PySem.Value.int 31 0)), (PySem.DictEntry.mk (PySem.PyData.keyHash P (PySem.Str.ofString "type.__subclasses__.Exception.n")) (PySem.Value.str (PySem.Str.ofString "type.__subclasses__.Exception.n") 213) (PySem.Value.int 1 0))] 2) #[])
noncomputable def ko_3 (P : PySem.Params) : PySem.Obj := (PySem.Obj.mk (PySem.Value.type "dict") (Option.none) (PySem.Data.dict #[(PySem.DictEntry.mk (PySem.PyData.keyHash P (PySem.Str.ofString "__name__")) (PySem.Value.str (PySem.Str.ofString "__name__") 165) (PySem.Value.str (PySem.Str.ofString "law_to0024_01") 365)), (PySem.DictEntry.mk (PySem.PyData.keyHash P (PySem.Str.ofString "__doc__")) (PySem.Value.str (PySem.Str.ofString "__doc__") 166) PySem.Value.none), (PySem.DictEntry.mk (PySem.PyData.keyHash P (PySem.Str.ofString "__package__")) (PySem.Value.str (PySem.Str.ofString "__package__") 167) PySem.Value.none), (PySem.DictEntry.mk (PySem.PyData.keyHash P (PySem.Str.ofString "__loader__")) (PySem.Value.str (PySem.Str.ofString "__loader__") 168) (PySem.Value.builtin "__main__.__loader__#opaque")), (PySem.DictEntry.mk (PySem.PyData.keyHash P (PySem.Str.ofString "__spec__")) (PySem.Value.str (PySem.Str.ofString "__spec__") 169) PySem.Value.none), (PySem.DictEntry.mk (PySem.PyData.keyHash P (PySem.Str.ofString "__annotations__")) (PySem.Value.str (PySem.Str.ofString "__annotations__") 170) (PySem.Value.ref 6)), (PySem.DictEntry.mk (PySem.PyData.keyHash P (PySem.Str.ofString "__builtins__")) (PySem.Value.str (PySem.Str.ofString "__builtins__") 171) (PySem.Value.ref 4)), (PySem.DictEntry.mk (PySem.PyData.keyHash P (PySem.Str.ofString "__file__")) (PySem.Value.str (PySem.Str.ofString "__file__") 173) (PySem.Value.str (PySem.Str.ofString "/claim/cut.py") 172)), (PySem.DictEntry.mk (PySem.PyData.keyHash P (PySem.Str.ofString "__cached__")) (PySem.Value.str (PySem.Str.ofString "__cached__") 174) PySem.Value.none), (PySem.DictEntry.mk (PySem.PyData.keyHash P (PySem.Str.ofString "_wall")) (PySem.Value.str (PySem.Str.ofString "_wall") 193) (PySem.Value.ref 21)), (PySem.DictEntry.mk (PySem.PyData.keyHash P (PySem.Str.ofString "Error")) (PySem.Value.str (PySem.Str.ofString "Error") 215) (PySem.Value.ref 31)), (PySem.DictEntry.mk (PySem.PyData.keyHash P (PySem.Str.ofString "error_reply")) (PySem.Value.str (PySem.Str.ofString "error_reply") 231) (PySem.Value.ref 44)), (PySem.DictEntry.mk (PySem.PyData.keyHash P (PySem.Str.ofString "parse257")) (PySem.Value.str (PySem.Str.ofString "parse257") 242) (PySem.Value.ref 53)), (PySem.DictEntry.mk (PySem.PyData.keyHash P (PySem.Str.ofString "_int2digits")) (PySem.Value.str (PySem.Str.ofString "_int2digits") 255) (PySem.Value.ref 60)), (PySem.DictEntry.mk (PySem.PyData.keyHash P (PySem.Str.ofString "_digits2int")) (PySem.Value.str (PySem.Str.ofString "_digits2int") 266) (PySem.Value.ref 67)), (PySem.DictEntry.mk (PySem.PyData.keyHash P (PySem.Str.ofString "Whitespace")) (PySem.Value.str (PySem.Str.ofString "Whitespace") 364) (PySem.Value.ref 129)), (PySem.DictEntry.mk (PySem.PyData.keyHash P (PySem.Str.ofString "_law_heard")) (PySem.Value.str (PySem.Str.ofString "_law_heard") 374) (PySem.Value.ref 140)), (PySem.DictEntry.mk (PySem.PyData.keyHash P (PySem.Str.ofString "_law_replies")) (PySem.Value.str (PySem.Str.ofString "_law_replies") 380) (PySem.Value.ref 145)), (PySem.DictEntry.mk (PySem.PyData.keyHash P (PySem.Str.ofString "_law_reader")) (PySem.Value.str (PySem.Str.ofString "_law_reader") 386) (PySem.Value.ref 150)), (PySem.DictEntry.mk (PySem.PyData.keyHash P (PySem.Str.ofString "_law_leads")) (PySem.Value.str (PySem.Str.ofString "_law_leads") 392) (PySem.Value.ref 155)), (PySem.DictEntry.mk (PySem.PyData.keyHash P (PySem.Str.ofString "_law_nanny")) (PySem.Value.str (PySem.Str.ofString "_law_nanny") 398) (PySem.Value.ref 160)), (PySem.DictEntry.mk (PySem.PyData.keyHash P (PySem.Str.ofString "_law_lost")) (PySem.Value.str (PySem.Str.ofString "_law_lost") 404) (PySem.Value.ref 165)), (PySem.DictEntry.mk (PySem.PyData.keyHash P (PySem.Str.ofString "_law_value")) (PySem.Value.str (PySem.Str.ofString "_law_value") 411) (PySem.Value.ref 172)), (PySem.DictEntry.mk (PySem.PyData.keyHash P (PySem.Str.ofString "_law_readings")) (PySem.Value.str (PySem.Str.ofString "_law_readings") 422) (PySem.Value.ref 179)), (PySem.DictEntry.mk (PySem.PyData.keyHash P (PySem.Str.ofString "law")) (PySem.Value.str (PySem.Str.ofString "law") 428) (PySem.Value.ref 184))] 25) #[])
noncomputable def ko_15 (P : PySem.Params) : PySem.Obj := (PySem.Obj.mk (PySem.Value.type "tuple") (Option.none) (PySem.Data.seq #[] 0) #[])
noncomputable def ko_17 (P : PySem.Params) : PySem.Obj := (PySem.Obj.mk (PySem.Value.type "tuple") (Option.none) (PySem.Data.seq #[(PySem.Value.str (PySem.Str.ofString "k") 190)] 0) #[])
noncomputable def ko_18 (P : PySem.Params) : PySem.Obj := (PySem.Obj.mk (PySem.Value.type "tuple") (Option.none) (PySem.Data.seq #[] 0) #[])
noncomputable def ko_20 (P : PySem.Params) : PySem.Obj := (PySem.Obj.mk (PySem.Value.type "code") (Option.none) (PySem.Data.fields #[(PySem.Value.str (PySem.Str.ofString "_wall") 187), (PySem.Value.str (PySem.Str.ofString "_wall") 188), (PySem.Value.str (PySem.Str.ofString "/claim/cut.py") 189), (PySem.Value.int 1 0), (PySem.Value.int 1 0), (PySem.Value.int 0 0), (PySem.Value.int 0 0), (PySem.Value.int 3 0), (PySem.Value.ref 15), (PySem.Value.bool Bool.true), (PySem.Value.int 181 0), (PySem.Value.ref 16), PySem.Value.none, (PySem.Value.ref 17), (PySem.Value.ref 18), (PySem.Value.ref 19), (PySem.Value.int 191 0), (PySem.Value.int 1 0), (PySem.Value.str (PySem.Str.ofString "/claim/cut.py") 192)]) #[])
noncomputable def ko_21 (P : PySem.Params) : PySem.Obj := (PySem.Obj.mk (PySem.Value.type "function") (Option.none) (PySem.Data.func (PySem.FuncData.mk (PySem.Str.ofString "_wall") (PySem.Str.ofString "_wall") (paramsOf (stmtN 0)) (PySem.FuncBody.stmts (bodyOf (stmtN 0))) (scopeOf (stmtN 0)) 3 [] PySem.Value.none PySem.Value.none PySem.Value.none (PySem.Value.str (PySem.Str.ofString "__main__") 164) (Option.none) (PySem.Value.ref 20) PySem.Value.none 0)) #[])
noncomputable def ko_22 (P : PySem.Params) : PySem.Obj := (PySem.Obj.mk (PySem.Value.type "tuple") (Option.none) (PySem.Data.seq #[(PySem.Value.type "Exception")] 0) #[])
noncomputable def ko_29 (P : PySem.Params) : PySem.Obj := (PySem.Obj.mk (PySem.Value.type "tuple") (Option.none) (PySem.Data.seq #[] 0) #[])
noncomputable def ko_30 (P : PySem.Params) : PySem.Obj := (PySem.Obj.mk (PySem.Value.type "dict") (Option.none) (PySem.Data.dict #[(PySem.DictEntry.mk (PySem.PyData.keyHash P (PySem.Str.ofString "__module__")) (PySem.Value.str (PySem.Str.ofString "__module__") 203) (PySem.Value.str (PySem.Str.ofString "cpy313.ftplib") 194)), (PySem.DictEntry.mk (PySem.PyData.keyHash P (PySem.Str.ofString "__firstlineno__")) (PySem.Value.str (PySem.Str.ofString "__firstlineno__") 207) (PySem.Value.int 5 206)), (PySem.DictEntry.mk (PySem.PyData.keyHash P (PySem.Str.ofString "__static_attributes__")) (PySem.Value.str (PySem.Str.ofString "__static_attributes__") 208) (PySem.Value.ref 29)), (PySem.DictEntry.mk (PySem.PyData.keyHash P (PySem.Str.ofString "__weakref__")) (PySem.Value.str (PySem.Str.ofString "__weakref__") 210) (PySem.Value.ref 32)), (PySem.DictEntry.mk (PySem.PyData.keyHash P (PySem.Str.ofString "__doc__")) (PySem.Value.str (PySem.Str.ofString "__doc__") 211) PySem.Value.none)] 3) #[])
noncomputable def ko_31 (P : PySem.Params) : PySem.Obj := (PySem.Obj.mk (PySem.Value.type "type") (Option.none) (PySem.Data.cls (PySem.ClassData.mk (PySem.Str.ofString "Error") [(PySem.Value.type "Exception")] [(PySem.Value.ref 31), (PySem.Value.type "Exception"), (PySem.Value.type "BaseException"), (PySem.Value.type "object")] 30 (PySem.Str.ofString "Error") Bool.true [] [(PySem.Value.ref 44)] Bool.false (Option.none) Bool.false)) #[(Option.some (PySem.Value.ref 22)), (Option.none), (Option.some (PySem.Value.str (PySem.Str.ofString "Error") 196)), (Option.some (PySem.Value.str (PySem.Str.ofString "Error") 204)), (Option.some (PySem.Value.builtin "Exception.__new__")), (Option.some (PySem.Value.bool Bool.true))])
noncomputable def ko_32 (P : PySem.Params) : PySem.Obj := (PySem.Obj.mk (PySem.Value.type "getset_descriptor") (Option.none) (PySem.Data.fields #[(PySem.Value.str (PySem.Str.ofString "__weakref__") 209), (PySem.Value.ref 31), (PySem.Value.builtin "ExceptionGroup.__weakref__"), PySem.Value.none]) #[])
noncomputable def ko_35 (P : PySem.Params) : PySem.Obj := (PySem.Obj.mk (PySem.Value.type "tuple") (Option.none) (PySem.Data.seq #[(PySem.Value.ref 31)] 0) #[])
noncomputable def ko_42 (P : PySem.Params) : PySem.Obj := (PySem.Obj.mk (PySem.Value.type "tuple") (Option.none) (PySem.Data.seq #[] 0) #[])
noncomputable def ko_43 (P : PySem.Params) : PySem.Obj := (PySem.Obj.mk (PySem.Value.type "dict") (Option.none) (PySem.Data.dict #[(PySem.DictEntry.mk (PySem.PyData.keyHash P (PySem.Str.ofString "__module__")) (PySem.Value.str (PySem.Str.ofString "__module__") 223) (PySem.Value.str (PySem.Str.ofString "cpy313.ftplib") 194)), (PySem.DictEntry.mk (PySem.PyData.keyHash P (PySem.Str.ofString "__firstlineno__")) (PySem.Value.str (PySem.Str.ofString "__firstlineno__") 227) (PySem.Value.int 7 226)), (PySem.DictEntry.mk (PySem.PyData.keyHash P (PySem.Str.ofString "__static_attributes__")) (PySem.Value.str (PySem.Str.ofString "__static_attributes__") 228) (PySem.Value.ref 42)), (PySem.DictEntry.mk (PySem.PyData.keyHash P (PySem.Str.ofString "__doc__")) (PySem.Value.str (PySem.Str.ofString "__doc__") 229) PySem.Value.none)] 2) #[])
noncomputable def ko_44 (P : PySem.Params) : PySem.Obj := (PySem.Obj.mk (PySem.Value.type "type") (Option.none) (PySem.Data.cls (PySem.ClassData.mk (PySem.Str.ofString "error_reply") [(PySem.Value.ref 31)] [(PySem.Value.ref 44), (PySem.Value.ref 31), (PySem.Value.type "Exception"), (PySem.Value.type "BaseException"), (PySem.Value.type "object")] 43 (PySem.Str.ofString "error_reply") Bool.true [] [] Bool.false (Option.none) Bool.false)) #[(Option.some (PySem.Value.ref 35)), (Option.none), (Option.some (PySem.Value.str (PySem.Str.ofString "error_reply") 216)), (Option.some (PySem.Value.str (PySem.Str.ofString "error_reply") 224)), (Option.some (PySem.Value.builtin "Exception.__new__")), (Option.some (PySem.Value.bool Bool.true))])
noncomputable def ko_47 (P : PySem.Params) : PySem.Obj := (PySem.Obj.mk (PySem.Value.type "tuple") (Option.none) (PySem.Data.seq #[] 0) #[])
noncomputable def ko_49 (P : PySem.Params) : PySem.Obj := (PySem.Obj.mk (PySem.Value.type "tuple") (Option.none) (PySem.Data.seq #[(PySem.Value.str (PySem.Str.ofString "resp") 235), (PySem.Value.str (PySem.Str.ofString "dirname") 236), (PySem.Value.str (PySem.Str.ofString "i") 237), (PySem.Value.str (PySem.Str.ofString "n") 238), (PySem.Value.str (PySem.Str.ofString "c") 239)] 0) #[])
noncomputable def ko_50 (P : PySem.Params) : PySem.Obj := (PySem.Obj.mk (PySem.Value.type "tuple") (Option.none) (PySem.Data.seq #[] 0) #[])
noncomputable def ko_52 (P : PySem.Params) : PySem.Obj := (PySem.Obj.mk (PySem.Value.type "code") (Option.none) (PySem.Data.fields #[(PySem.Value.str (PySem.Str.ofString "parse257") 232), (PySem.Value.str (PySem.Str.ofString "parse257") 233), (PySem.Value.str (PySem.Str.ofString "/claim/cut.py") 234), (PySem.Value.int 9 0), (PySem.Value.int 1 0), (PySem.Value.int 0 0), (PySem.Value.int 0 0), (PySem.Value.int 3 0), (PySem.Value.ref 47), (PySem.Value.bool Bool.true), (PySem.Value.int 181 0), (PySem.Value.ref 48), PySem.Value.none, (PySem.Value.ref 49), (PySem.Value.ref 50), (PySem.Value.ref 51), (PySem.Value.int 240 0), (PySem.Value.int 9 0), (PySem.Value.str (PySem.Str.ofString "/claim/cut.py") 241)]) #[])
noncomputable def kr_53 (P : PySem.Params) : PySem.Obj := (PySem.Obj.mk (PySem.Value.type "function") (Option.none) (PySem.Data.func (PySem.FuncData.mk (PySem.Str.ofString "parse257") (PySem.Str.ofString "parse257") (paramsOf (stmtN 4)) (PySem.FuncBody.stmts (bodyOf (stmtN 4))) (scopeOf (stmtN 4)) 3 [] PySem.Value.none PySem.Value.none PySem.Value.none (PySem.Value.str (PySem.Str.ofString "cpy313.ftplib") 194) (Option.none) (PySem.Value.ref 52) PySem.Value.none 0)) #[])
noncomputable def ks_53 (P : PySem.Params) : {o : PySem.Obj // o = kr_53 P} := ⟨_, by
  conv =>
    rhs
    delta kr_53
    conv => pattern (paramsOf _); whnf
    conv => pattern (bodyOf _); whnf
    conv => pattern (scopeOf _); whnf⟩
noncomputable def ko_53 (P : PySem.Params) : PySem.Obj := (ks_53 P).1
noncomputable def ko_54 (P : PySem.Params) : PySem.Obj := (PySem.Obj.mk (PySem.Value.type "tuple") (Option.none) (PySem.Data.seq #[] 0) #[])
noncomputable def ko_56 (P : PySem.Params) : PySem.Obj := (PySem.Obj.mk (PySem.Value.type "tuple") (Option.none) (PySem.Data.seq #[(PySem.Value.str (PySem.Str.ofString "a") 248), (PySem.Value.str (PySem.Str.ofString "n") 249)] 0) #[])
noncomputable def ko_57 (P : PySem.Params) : PySem.Obj := (PySem.Obj.mk (PySem.Value.type "tuple") (Option.none) (PySem.Data.seq #[(PySem.Value.str (PySem.Str.ofString "n") 250), (PySem.Value.str (PySem.Str.ofString "a_digits") 251), (PySem.Value.str (PySem.Str.ofString "inner") 252)] 0) #[])
noncomputable def ko_59 (P : PySem.Params) : PySem.Obj := (PySem.Obj.mk (PySem.Value.type "code") (Option.none) (PySem.Data.fields #[(PySem.Value.str (PySem.Str.ofString "_int2digits") 245), (PySem.Value.str (PySem.Str.ofString "_int2digits") 246), (PySem.Value.str (PySem.Str.ofString "/claim/cut.py") 247), (PySem.Value.int 27 0), (PySem.Value.int 2 0), (PySem.Value.int 0 0), (PySem.Value.int 0 0), (PySem.Value.int 3 0), (PySem.Value.ref 54), (PySem.Value.bool Bool.true), (PySem.Value.int 181 0), (PySem.Value.ref 55), PySem.Value.none, (PySem.Value.ref 56), (PySem.Value.ref 57), (PySem.Value.ref 58), (PySem.Value.int 253 0), (PySem.Value.int 27 0), (PySem.Value.str (PySem.Str.ofString "/claim/cut.py") 254)]) #[])
noncomputable def ko_60 (P : PySem.Params) : PySem.Obj := (PySem.Obj.mk (PySem.Value.type "function") (Option.none) (PySem.Data.func (PySem.FuncData.mk (PySem.Str.ofString "_int2digits") (PySem.Str.ofString "_int2digits") (paramsOf (stmtN 6)) (PySem.FuncBody.stmts (bodyOf (stmtN 6))) (scopeOf (stmtN 6)) 3 [] PySem.Value.none PySem.Value.none PySem.Value.none (PySem.Value.str (PySem.Str.ofString "cpy313._pylong") 243) (Option.none) (PySem.Value.ref 59) PySem.Value.none 0)) #[])
noncomputable def ko_61 (P : PySem.Params) : PySem.Obj := (PySem.Obj.mk (PySem.Value.type "tuple") (Option.none) (PySem.Data.seq #[] 0) #[])
noncomputable def ko_63 (P : PySem.Params) : PySem.Obj := (PySem.Obj.mk (PySem.Value.type "tuple") (Option.none) (PySem.Data.seq #[(PySem.Value.str (PySem.Str.ofString "digits") 259), (PySem.Value.str (PySem.Str.ofString "n") 260)] 0) #[])
noncomputable def ko_64 (P : PySem.Params) : PySem.Obj := (PySem.Obj.mk (PySem.Value.type "tuple") (Option.none) (PySem.Data.seq #[(PySem.Value.str (PySem.Str.ofString "digits") 261), (PySem.Value.str (PySem.Str.ofString "n") 262), (PySem.Value.str (PySem.Str.ofString "inner") 263)] 0) #[])
noncomputable def ko_66 (P : PySem.Params) : PySem.Obj := (PySem.Obj.mk (PySem.Value.type "code") (Option.none) (PySem.Data.fields #[(PySem.Value.str (PySem.Str.ofString "_digits2int") 256), (PySem.Value.str (PySem.Str.ofString "_digits2int") 257), (PySem.Value.str (PySem.Str.ofString "/claim/cut.py") 258), (PySem.Value.int 43 0), (PySem.Value.int 2 0), (PySem.Value.int 0 0), (PySem.Value.int 0 0), (PySem.Value.int 3 0), (PySem.Value.ref 61), (PySem.Value.bool Bool.true), (PySem.Value.int 181 0), (PySem.Value.ref 62), PySem.Value.none, (PySem.Value.ref 63), (PySem.Value.ref 64), (PySem.Value.ref 65), (PySem.Value.int 264 0), (PySem.Value.int 43 0), (PySem.Value.str (PySem.Str.ofString "/claim/cut.py") 265)]) #[])
noncomputable def ko_67 (P : PySem.Params) : PySem.Obj := (PySem.Obj.mk (PySem.Value.type "function") (Option.none) (PySem.Data.func (PySem.FuncData.mk (PySem.Str.ofString "_digits2int") (PySem.Str.ofString "_digits2int") (paramsOf (stmtN 7)) (PySem.FuncBody.stmts (bodyOf (stmtN 7))) (scopeOf (stmtN 7)) 3 [] PySem.Value.none PySem.Value.none PySem.Value.none (PySem.Value.str (PySem.Str.ofString "cpy313._pylong") 243) (Option.none) (PySem.Value.ref 66) PySem.Value.none 0)) #[])
noncomputable def ko_78 (P : PySem.Params) : PySem.Obj := (PySem.Obj.mk (PySem.Value.type "tuple") (Option.none) (PySem.Data.seq #[] 0) #[])
noncomputable def ko_80 (P : PySem.Params) : PySem.Obj := (PySem.Obj.mk (PySem.Value.type "tuple") (Option.none) (PySem.Data.seq #[(PySem.Value.str (PySem.Str.ofString "self") 289), (PySem.Value.str (PySem.Str.ofString "ws") 290), (PySem.Value.str (PySem.Str.ofString "S") 291), (PySem.Value.str (PySem.Str.ofString "T") 292), (PySem.Value.str (PySem.Str.ofString "count") 293), (PySem.Value.str (PySem.Str.ofString "b") 294), (PySem.Value.str (PySem.Str.ofString "n") 295), (PySem.Value.str (PySem.Str.ofString "nt") 296), (PySem.Value.str (PySem.Str.ofString "ch") 297)] 0) #[])
noncomputable def ko_81 (P : PySem.Params) : PySem.Obj := (PySem.Obj.mk (PySem.Value.type "tuple") (Option.none) (PySem.Data.seq #[] 0) #[])
noncomputable def ko_83 (P : PySem.Params) : PySem.Obj := (PySem.Obj.mk (PySem.Value.type "code") (Option.none) (PySem.Data.fields #[(PySem.Value.str (PySem.Str.ofString "__init__") 286), (PySem.Value.str (PySem.Str.ofString "Whitespace.__init__") 287), (PySem.Value.str (PySem.Str.ofString "/claim/cut.py") 288), (PySem.Value.int 56 0), (PySem.Value.int 2 0), (PySem.Value.int 0 0), (PySem.Value.int 0 0), (PySem.Value.int 3 0), (PySem.Value.ref 78), (PySem.Value.bool Bool.true), (PySem.Value.int 181 0), (PySem.Value.ref 79), PySem.Value.none, (PySem.Value.ref 80), (PySem.Value.ref 81), (PySem.Value.ref 82), (PySem.Value.int 298 0), (PySem.Value.int 56 0), (PySem.Value.str (PySem.Str.ofString "/claim/cut.py") 299)]) #[])
noncomputable def ko_84 (P : PySem.Params) : PySem.Obj := (PySem.Obj.mk (PySem.Value.type "function") (Option.none) (PySem.Data.func (PySem.FuncData.mk (PySem.Str.ofString "__init__") (PySem.Str.ofString "Whitespace.__init__") (paramsOf (methN 1)) (PySem.FuncBody.stmts (bodyOf (methN 1))) (scopeOf (methN 1)) 3 [] PySem.Value.none PySem.Value.none PySem.Value.none (PySem.Value.str (PySem.Str.ofString "cpy313.tabnanny") 267) (Option.none) (PySem.Value.ref 83) PySem.Value.none 0)) #[])
noncomputable def ko_85 (P : PySem.Params) : PySem.Obj := (PySem.Obj.mk (PySem.Value.type "tuple") (Option.none) (PySem.Data.seq #[] 0) #[])
noncomputable def ko_87 (P : PySem.Params) : PySem.Obj := (PySem.Obj.mk (PySem.Value.type "tuple") (Option.none) (PySem.Data.seq #[(PySem.Value.str (PySem.Str.ofString "self") 304)] 0) #[])
noncomputable def ko_88 (P : PySem.Params) : PySem.Obj := (PySem.Obj.mk (PySem.Value.type "tuple") (Option.none) (PySem.Data.seq #[] 0) #[])
noncomputable def ko_90 (P : PySem.Params) : PySem.Obj := (PySem.Obj.mk (PySem.Value.type "code") (Option.none) (PySem.Data.fields #[(PySem.Value.str (PySem.Str.ofString "longest_run_of_spaces") 301), (PySem.Value.str (PySem.Str.ofString "Whitespace.longest_run_of_spaces") 302), (PySem.Value.str (PySem.Str.ofString "/claim/cut.py") 303), (PySem.Value.int 79 0), (PySem.Value.int 1 0), (PySem.Value.int 0 0), (PySem.Value.int 0 0), (PySem.Value.int 3 0), (PySem.Value.ref 85), (PySem.Value.bool Bool.true), (PySem.Value.int 181 0), (PySem.Value.ref 86), PySem.Value.none, (PySem.Value.ref 87), (PySem.Value.ref 88), (PySem.Value.ref 89), (PySem.Value.int 305 0), (PySem.Value.int 79 0), (PySem.Value.str (PySem.Str.ofString "/claim/cut.py") 306)]) #[])
noncomputable def ko_91 (P : PySem.Params) : PySem.Obj := (PySem.Obj.mk (PySem.Value.type "function") (Option.none) (PySem.Data.func (PySem.FuncData.mk (PySem.Str.ofString "longest_run_of_spaces") (PySem.Str.ofString "Whitespace.longest_run_of_spaces") (paramsOf (methN 2)) (PySem.FuncBody.stmts (bodyOf (methN 2))) (scopeOf (methN 2)) 3 [] PySem.Value.none PySem.Value.none PySem.Value.none (PySem.Value.str (PySem.Str.ofString "cpy313.tabnanny") 267) (Option.none) (PySem.Value.ref 90) PySem.Value.none 0)) #[])
noncomputable def ko_92 (P : PySem.Params) : PySem.Obj := (PySem.Obj.mk (PySem.Value.type "tuple") (Option.none) (PySem.Data.seq #[] 0) #[])
noncomputable def ko_94 (P : PySem.Params) : PySem.Obj := (PySem.Obj.mk (PySem.Value.type "tuple") (Option.none) (PySem.Data.seq #[(PySem.Value.str (PySem.Str.ofString "self") 311), (PySem.Value.str (PySem.Str.ofString "tabsize") 312), (PySem.Value.str (PySem.Str.ofString "count") 313), (PySem.Value.str (PySem.Str.ofString "trailing") 314), (PySem.Value.str (PySem.Str.ofString "il") 315), (PySem.Value.str (PySem.Str.ofString "i") 316)] 0) #[])
noncomputable def ko_95 (P : PySem.Params) : PySem.Obj := (PySem.Obj.mk (PySem.Value.type "tuple") (Option.none) (PySem.Data.seq #[] 0) #[])
noncomputable def ko_97 (P : PySem.Params) : PySem.Obj := (PySem.Obj.mk (PySem.Value.type "code") (Option.none) (PySem.Data.fields #[(PySem.Value.str (PySem.Str.ofString "indent_level") 308), (PySem.Value.str (PySem.Str.ofString "Whitespace.indent_level") 309), (PySem.Value.str (PySem.Str.ofString "/claim/cut.py") 310), (PySem.Value.int 82 0), (PySem.Value.int 2 0), (PySem.Value.int 0 0), (PySem.Value.int 0 0), (PySem.Value.int 3 0), (PySem.Value.ref 92), (PySem.Value.bool Bool.true), (PySem.Value.int 181 0), (PySem.Value.ref 93), PySem.Value.none, (PySem.Value.ref 94), (PySem.Value.ref 95), (PySem.Value.ref 96), (PySem.Value.int 317 0), (PySem.Value.int 82 0), (PySem.Value.str (PySem.Str.ofString "/claim/cut.py") 318)]) #[])
noncomputable def ko_98 (P : PySem.Params) : PySem.Obj := (PySem.Obj.mk (PySem.Value.type "function") (Option.none) (PySem.Data.func (PySem.FuncData.mk (PySem.Str.ofString "indent_level") (PySem.Str.ofString "Whitespace.indent_level") (paramsOf (methN 3)) (PySem.FuncBody.stmts (bodyOf (methN 3))) (scopeOf (methN 3)) 3 [] PySem.Value.none PySem.Value.none PySem.Value.none (PySem.Value.str (PySem.Str.ofString "cpy313.tabnanny") 267) (Option.none) (PySem.Value.ref 97) PySem.Value.none 0)) #[])
noncomputable def ko_99 (P : PySem.Params) : PySem.Obj := (PySem.Obj.mk (PySem.Value.type "tuple") (Option.none) (PySem.Data.seq #[] 0) #[])
noncomputable def ko_101 (P : PySem.Params) : PySem.Obj := (PySem.Obj.mk (PySem.Value.type "tuple") (Option.none) (PySem.Data.seq #[(PySem.Value.str (PySem.Str.ofString "self") 323), (PySem.Value.str (PySem.Str.ofString "other") 324)] 0) #[])
noncomputable def ko_102 (P : PySem.Params) : PySem.Obj := (PySem.Obj.mk (PySem.Value.type "tuple") (Option.none) (PySem.Data.seq #[] 0) #[])
noncomputable def ko_104 (P : PySem.Params) : PySem.Obj := (PySem.Obj.mk (PySem.Value.type "code") (Option.none) (PySem.Data.fields #[(PySem.Value.str (PySem.Str.ofString "equal") 320), (PySem.Value.str (PySem.Str.ofString "Whitespace.equal") 321), (PySem.Value.str (PySem.Str.ofString "/claim/cut.py") 322), (PySem.Value.int 89 0), (PySem.Value.int 2 0), (PySem.Value.int 0 0), (PySem.Value.int 0 0), (PySem.Value.int 3 0), (PySem.Value.ref 99), (PySem.Value.bool Bool.true), (PySem.Value.int 181 0), (PySem.Value.ref 100), PySem.Value.none, (PySem.Value.ref 101), (PySem.Value.ref 102), (PySem.Value.ref 103), (PySem.Value.int 325 0), (PySem.Value.int 89 0), (PySem.Value.str (PySem.Str.ofString "/claim/cut.py") 326)]) #[])
noncomputable def ko_105 (P : PySem.Params) : PySem.Obj := (PySem.Obj.mk (PySem.Value.type "function") (Option.none) (PySem.Data.func (PySem.FuncData.mk (PySem.Str.ofString "equal") (PySem.Str.ofString "Whitespace.equal") (paramsOf (methN 4)) (PySem.FuncBody.stmts (bodyOf (methN 4))) (scopeOf (methN 4)) 3 [] PySem.Value.none PySem.Value.none PySem.Value.none (PySem.Value.str (PySem.Str.ofString "cpy313.tabnanny") 267) (Option.none) (PySem.Value.ref 104) PySem.Value.none 0)) #[])
noncomputable def ko_106 (P : PySem.Params) : PySem.Obj := (PySem.Obj.mk (PySem.Value.type "tuple") (Option.none) (PySem.Data.seq #[] 0) #[])
noncomputable def ko_108 (P : PySem.Params) : PySem.Obj := (PySem.Obj.mk (PySem.Value.type "tuple") (Option.none) (PySem.Data.seq #[(PySem.Value.str (PySem.Str.ofString "self") 331), (PySem.Value.str (PySem.Str.ofString "other") 332)] 0) #[])
noncomputable def ko_109 (P : PySem.Params) : PySem.Obj := (PySem.Obj.mk (PySem.Value.type "tuple") (Option.none) (PySem.Data.seq #[] 0) #[])
noncomputable def ko_111 (P : PySem.Params) : PySem.Obj := (PySem.Obj.mk (PySem.Value.type "code") (Option.none) (PySem.Data.fields #[(PySem.Value.str (PySem.Str.ofString "not_equal_witness") 328), (PySem.Value.str (PySem.Str.ofString "Whitespace.not_equal_witness") 329), (PySem.Value.str (PySem.Str.ofString "/claim/cut.py") 330), (PySem.Value.int 92 0), (PySem.Value.int 2 0), (PySem.Value.int 0 0), (PySem.Value.int 0 0), (PySem.Value.int 3 0), (PySem.Value.ref 106), (PySem.Value.bool Bool.true), (PySem.Value.int 181 0), (PySem.Value.ref 107), PySem.Value.none, (PySem.Value.ref 108), (PySem.Value.ref 109), (PySem.Value.ref 110), (PySem.Value.int 333 0), (PySem.Value.int 92 0), (PySem.Value.str (PySem.Str.ofString "/claim/cut.py") 334)]) #[])
noncomputable def ko_112 (P : PySem.Params) : PySem.Obj := (PySem.Obj.mk (PySem.Value.type "function") (Option.none) (PySem.Data.func (PySem.FuncData.mk (PySem.Str.ofString "not_equal_witness") (PySem.Str.ofString "Whitespace.not_equal_witness") (paramsOf (methN 5)) (PySem.FuncBody.stmts (bodyOf (methN 5))) (scopeOf (methN 5)) 3 [] PySem.Value.none PySem.Value.none PySem.Value.none (PySem.Value.str (PySem.Str.ofString "cpy313.tabnanny") 267) (Option.none) (PySem.Value.ref 111) PySem.Value.none 0)) #[])
noncomputable def ko_113 (P : PySem.Params) : PySem.Obj := (PySem.Obj.mk (PySem.Value.type "tuple") (Option.none) (PySem.Data.seq #[] 0) #[])
noncomputable def ko_115 (P : PySem.Params) : PySem.Obj := (PySem.Obj.mk (PySem.Value.type "tuple") (Option.none) (PySem.Data.seq #[(PySem.Value.str (PySem.Str.ofString "self") 339), (PySem.Value.str (PySem.Str.ofString "other") 340)] 0) #[])
noncomputable def ko_116 (P : PySem.Params) : PySem.Obj := (PySem.Obj.mk (PySem.Value.type "tuple") (Option.none) (PySem.Data.seq #[] 0) #[])
noncomputable def ko_118 (P : PySem.Params) : PySem.Obj := (PySem.Obj.mk (PySem.Value.type "code") (Option.none) (PySem.Data.fields #[(PySem.Value.str (PySem.Str.ofString "less") 336), (PySem.Value.str (PySem.Str.ofString "Whitespace.less") 337), (PySem.Value.str (PySem.Str.ofString "/claim/cut.py") 338), (PySem.Value.int 95 0), (PySem.Value.int 2 0), (PySem.Value.int 0 0), (PySem.Value.int 0 0), (PySem.Value.int 3 0), (PySem.Value.ref 113), (PySem.Value.bool Bool.true), (PySem.Value.int 181 0), (PySem.Value.ref 114), PySem.Value.none, (PySem.Value.ref 115), (PySem.Value.ref 116), (PySem.Value.ref 117), (PySem.Value.int 341 0), (PySem.Value.int 95 0), (PySem.Value.str (PySem.Str.ofString "/claim/cut.py") 342)]) #[])
noncomputable def ko_119 (P : PySem.Params) : PySem.Obj := (PySem.Obj.mk (PySem.Value.type "function") (Option.none) (PySem.Data.func (PySem.FuncData.mk (PySem.Str.ofString "less") (PySem.Str.ofString "Whitespace.less") (paramsOf (methN 6)) (PySem.FuncBody.stmts (bodyOf (methN 6))) (scopeOf (methN 6)) 3 [] PySem.Value.none PySem.Value.none PySem.Value.none (PySem.Value.str (PySem.Str.ofString "cpy313.tabnanny") 267) (Option.none) (PySem.Value.ref 118) PySem.Value.none 0)) #[])
noncomputable def ko_120 (P : PySem.Params) : PySem.Obj := (PySem.Obj.mk (PySem.Value.type "tuple") (Option.none) (PySem.Data.seq #[] 0) #[])
noncomputable def ko_122 (P : PySem.Params) : PySem.Obj := (PySem.Obj.mk (PySem.Value.type "tuple") (Option.none) (PySem.Data.seq #[(PySem.Value.str (PySem.Str.ofString "self") 347), (PySem.Value.str (PySem.Str.ofString "other") 348)] 0) #[])
noncomputable def ko_123 (P : PySem.Params) : PySem.Obj := (PySem.Obj.mk (PySem.Value.type "tuple") (Option.none) (PySem.Data.seq #[] 0) #[])
noncomputable def ko_125 (P : PySem.Params) : PySem.Obj := (PySem.Obj.mk (PySem.Value.type "code") (Option.none) (PySem.Data.fields #[(PySem.Value.str (PySem.Str.ofString "not_less_witness") 344), (PySem.Value.str (PySem.Str.ofString "Whitespace.not_less_witness") 345), (PySem.Value.str (PySem.Str.ofString "/claim/cut.py") 346), (PySem.Value.int 98 0), (PySem.Value.int 2 0), (PySem.Value.int 0 0), (PySem.Value.int 0 0), (PySem.Value.int 3 0), (PySem.Value.ref 120), (PySem.Value.bool Bool.true), (PySem.Value.int 181 0), (PySem.Value.ref 121), PySem.Value.none, (PySem.Value.ref 122), (PySem.Value.ref 123), (PySem.Value.ref 124), (PySem.Value.int 349 0), (PySem.Value.int 98 0), (PySem.Value.str (PySem.Str.ofString "/claim/cut.py") 350)]) #[])
noncomputable def ko_126 (P : PySem.Params) : PySem.Obj := (PySem.Obj.mk (PySem.Value.type "function") (Option.none) (PySem.Data.func (PySem.FuncData.mk (PySem.Str.ofString "not_less_witness") (PySem.Str.ofString "Whitespace.not_less_witness") (paramsOf (methN 7)) (PySem.FuncBody.stmts (bodyOf (methN 7))) (scopeOf (methN 7)) 3 [] PySem.Value.none PySem.Value.none PySem.Value.none (PySem.Value.str (PySem.Str.ofString "cpy313.tabnanny") 267) (Option.none) (PySem.Value.ref 125) PySem.Value.none 0)) #[])
noncomputable def ko_127 (P : PySem.Params) : PySem.Obj := (PySem.Obj.mk (PySem.Value.type "tuple") (Option.none) (PySem.Data.seq #[(PySem.Value.str (PySem.Str.ofString "is_simple") 352), (PySem.Value.str (PySem.Str.ofString "n") 353), (PySem.Value.str (PySem.Str.ofString "norm") 354), (PySem.Value.str (PySem.Str.ofString "nt") 355), (PySem.Value.str (PySem.Str.ofString "raw") 356)] 0) #[])
noncomputable def ko_128 (P : PySem.Params) : PySem.Obj := (PySem.Obj.mk (PySem.Value.type "dict") (Option.none) (PySem.Data.dict #[(PySem.DictEntry.mk (PySem.PyData.keyHash P (PySem.Str.ofString "__module__")) (PySem.Value.str (PySem.Str.ofString "__module__") 276) (PySem.Value.str (PySem.Str.ofString "cpy313.tabnanny") 267)), (PySem.DictEntry.mk (PySem.PyData.keyHash P (PySem.Str.ofString "__firstlineno__")) (PySem.Value.str (PySem.Str.ofString "__firstlineno__") 280) (PySem.Value.int 53 279)), (PySem.DictEntry.mk (PySem.PyData.keyHash P (PySem.Str.ofString "S")) (PySem.Value.str (PySem.Str.ofString "S") 284) (PySem.Value.str (PySem.Str.ofString " ") 282)), (PySem.DictEntry.mk (PySem.PyData.keyHash P (PySem.Str.ofString "T")) (PySem.Value.str (PySem.Str.ofString "T") 285) (PySem.Value.str (PySem.Str.ofString "\t") 283)), (PySem.DictEntry.mk (PySem.PyData.keyHash P (PySem.Str.ofString "__init__")) (PySem.Value.str (PySem.Str.ofString "__init__") 300) (PySem.Value.ref 84)), (PySem.DictEntry.mk (PySem.PyData.keyHash P (PySem.Str.ofString "longest_run_of_spaces")) (PySem.Value.str (PySem.Str.ofString "longest_run_of_spaces") 307) (PySem.Value.ref 91)), (PySem.DictEntry.mk (PySem.PyData.keyHash P (PySem.Str.ofString "indent_level")) (PySem.Value.str (PySem.Str.ofString "indent_level") 319) (PySem.Value.ref 98)), (PySem.DictEntry.mk (PySem.PyData.keyHash P (PySem.Str.ofString "equal")) (PySem.Value.str (PySem.Str.ofString "equal") 327) (PySem.Value.ref 105)), (PySem.DictEntry.mk (PySem.PyData.keyHash P (PySem.Str.ofString "not_equal_witness")) (PySem.Value.str (PySem.Str.ofString "not_equal_witness") 335) (PySem.Value.ref 112)), (PySem.DictEntry.mk (PySem.PyData.keyHash P (PySem.Str.ofString "less")) (PySem.Value.str (PySem.Str.ofString "less") 343) (PySem.Value.ref 119)), (PySem.DictEntry.mk (PySem.PyData.keyHash P (PySem.Str.ofString "not_less_witness")) (PySem.Value.str (PySem.Str.ofString "not_less_witness") 351) (PySem.Value.ref 126)), (PySem.DictEntry.mk (PySem.PyData.keyHash P (PySem.Str.ofString "__static_attributes__")) (PySem.Value.str (PySem.Str.ofString "__static_attributes__") 357) (PySem.Value.ref 127)), (PySem.DictEntry.mk (PySem.PyData.keyHash P (PySem.Str.ofString "__dict__")) (PySem.Value.str (PySem.Str.ofString "__dict__") 359) (PySem.Value.ref 130)), (PySem.DictEntry.mk (PySem.PyData.keyHash P (PySem.Str.ofString "__weakref__")) (PySem.Value.str (PySem.Str.ofString "__weakref__") 361) (PySem.Value.ref 131)), (PySem.DictEntry.mk (PySem.PyData.keyHash P (PySem.Str.ofString "__doc__")) (PySem.Value.str (PySem.Str.ofString "__doc__") 362) PySem.Value.none)] 4) #[])
noncomputable def ko_129 (P : PySem.Params) : PySem.Obj := (PySem.Obj.mk (PySem.Value.type "type") (Option.none) (PySem.Data.cls (PySem.ClassData.mk (PySem.Str.ofString "Whitespace") [(PySem.Value.type "object")] [(PySem.Value.ref 129), (PySem.Value.type "object")] 128 (PySem.Str.ofString "Whitespace") Bool.true [] [] Bool.false (Option.none) Bool.false)) #[(Option.none), (Option.none), (Option.some (PySem.Value.str (PySem.Str.ofString "Whitespace") 269)), (Option.some (PySem.Value.str (PySem.Str.ofString "Whitespace") 277)), (Option.some (PySem.Value.builtin "object.__new__")), (Option.some (PySem.Value.bool Bool.true))])
noncomputable def ko_130 (P : PySem.Params) : PySem.Obj := (PySem.Obj.mk (PySem.Value.type "getset_descriptor") (Option.none) (PySem.Data.fields #[(PySem.Value.str (PySem.Str.ofString "__dict__") 358), (PySem.Value.ref 129), (PySem.Value.builtin "function.__dict__"), (PySem.Value.builtin "function.__dict__#set")]) #[])
noncomputable def ko_131 (P : PySem.Params) : PySem.Obj := (PySem.Obj.mk (PySem.Value.type "getset_descriptor") (Option.none) (PySem.Data.fields #[(PySem.Value.str (PySem.Str.ofString "__weakref__") 360), (PySem.Value.ref 129), (PySem.Value.builtin "ExceptionGroup.__weakref__"), PySem.Value.none]) #[])
noncomputable def ko_134 (P : PySem.Params) : PySem.Obj := (PySem.Obj.mk (PySem.Value.type "tuple") (Option.none) (PySem.Data.seq #[] 0) #[])
noncomputable def ko_136 (P : PySem.Params) : PySem.Obj := (PySem.Obj.mk (PySem.Value.type "tuple") (Option.none) (PySem.Data.seq #[(PySem.Value.str (PySem.Str.ofString "reply") 370), (PySem.Value.str (PySem.Str.ofString "caught") 371)] 0) #[])
noncomputable def ko_137 (P : PySem.Params) : PySem.Obj := (PySem.Obj.mk (PySem.Value.type "tuple") (Option.none) (PySem.Data.seq #[] 0) #[])
noncomputable def ko_139 (P : PySem.Params) : PySem.Obj := (PySem.Obj.mk (PySem.Value.type "code") (Option.none) (PySem.Data.fields #[(PySem.Value.str (PySem.Str.ofString "_law_heard") 367), (PySem.Value.str (PySem.Str.ofString "_law_heard") 368), (PySem.Value.str (PySem.Str.ofString "/claim/cut.py") 369), (PySem.Value.int 101 0), (PySem.Value.int 1 0), (PySem.Value.int 0 0), (PySem.Value.int 0 0), (PySem.Value.int 3 0), (PySem.Value.ref 134), (PySem.Value.bool Bool.true), (PySem.Value.int 181 0), (PySem.Value.ref 135), PySem.Value.none, (PySem.Value.ref 136), (PySem.Value.ref 137), (PySem.Value.ref 138), (PySem.Value.int 372 0), (PySem.Value.int 101 0), (PySem.Value.str (PySem.Str.ofString "/claim/cut.py") 373)]) #[])
noncomputable def kr_140 (P : PySem.Params) : PySem.Obj := (PySem.Obj.mk (PySem.Value.type "function") (Option.none) (PySem.Data.func (PySem.FuncData.mk (PySem.Str.ofString "_law_heard") (PySem.Str.ofString "_law_heard") (paramsOf (stmtN 11)) (PySem.FuncBody.stmts (bodyOf (stmtN 11))) (scopeOf (stmtN 11)) 3 [] PySem.Value.none PySem.Value.none PySem.Value.none (PySem.Value.str (PySem.Str.ofString "law_to0024_01") 365) (Option.none) (PySem.Value.ref 139) PySem.Value.none 0)) #[])
noncomputable def ks_140 (P : PySem.Params) : {o : PySem.Obj // o = kr_140 P} := ⟨_, by
  conv =>
    rhs
    delta kr_140
    conv => pattern (paramsOf _); whnf
    conv => pattern (bodyOf _); whnf
    conv => pattern (scopeOf _); whnf⟩
noncomputable def ko_140 (P : PySem.Params) : PySem.Obj := (ks_140 P).1
noncomputable def ko_141 (P : PySem.Params) : PySem.Obj := (PySem.Obj.mk (PySem.Value.type "tuple") (Option.none) (PySem.Data.seq #[] 0) #[])
noncomputable def ko_144 (P : PySem.Params) : PySem.Obj := (PySem.Obj.mk (PySem.Value.type "code") (Option.none) (PySem.Data.fields #[(PySem.Value.str (PySem.Str.ofString "_law_replies") 375), (PySem.Value.str (PySem.Str.ofString "_law_replies") 376), (PySem.Value.str (PySem.Str.ofString "/claim/cut.py") 377), (PySem.Value.int 106 0), (PySem.Value.int 3 0), (PySem.Value.int 0 0), (PySem.Value.int 0 0), (PySem.Value.int 3 0), (PySem.Value.ref 141), (PySem.Value.bool Bool.true), (PySem.Value.int 181 0), (PySem.Value.ref 142), PySem.Value.none, PySem.Value.none, PySem.Value.none, (PySem.Value.ref 143), (PySem.Value.int 378 0), (PySem.Value.int 106 0), (PySem.Value.str (PySem.Str.ofString "/claim/cut.py") 379)]) #[])
noncomputable def ko_145 (P : PySem.Params) : PySem.Obj := (PySem.Obj.mk (PySem.Value.type "function") (Option.none) (PySem.Data.func (PySem.FuncData.mk (PySem.Str.ofString "_law_replies") (PySem.Str.ofString "_law_replies") (paramsOf (stmtN 12)) (PySem.FuncBody.stmts (bodyOf (stmtN 12))) (scopeOf (stmtN 12)) 3 [] PySem.Value.none PySem.Value.none PySem.Value.none (PySem.Value.str (PySem.Str.ofString "law_to0024_01") 365) (Option.none) (PySem.Value.ref 144) PySem.Value.none 0)) #[])
noncomputable def ko_146 (P : PySem.Params) : PySem.Obj := (PySem.Obj.mk (PySem.Value.type "tuple") (Option.none) (PySem.Data.seq #[] 0) #[])
noncomputable def ko_149 (P : PySem.Params) : PySem.Obj := (PySem.Obj.mk (PySem.Value.type "code") (Option.none) (PySem.Data.fields #[(PySem.Value.str (PySem.Str.ofString "_law_reader") 381), (PySem.Value.str (PySem.Str.ofString "_law_reader") 382), (PySem.Value.str (PySem.Str.ofString "/claim/cut.py") 383), (PySem.Value.int 108 0), (PySem.Value.int 1 0), (PySem.Value.int 0 0), (PySem.Value.int 0 0), (PySem.Value.int 3 0), (PySem.Value.ref 146), (PySem.Value.bool Bool.true), (PySem.Value.int 181 0), (PySem.Value.ref 147), PySem.Value.none, PySem.Value.none, PySem.Value.none, (PySem.Value.ref 148), (PySem.Value.int 384 0), (PySem.Value.int 108 0), (PySem.Value.str (PySem.Str.ofString "/claim/cut.py") 385)]) #[])
noncomputable def ko_150 (P : PySem.Params) : PySem.Obj := (PySem.Obj.mk (PySem.Value.type "function") (Option.none) (PySem.Data.func (PySem.FuncData.mk (PySem.Str.ofString "_law_reader") (PySem.Str.ofString "_law_reader") (paramsOf (stmtN 13)) (PySem.FuncBody.stmts (bodyOf (stmtN 13))) (scopeOf (stmtN 13)) 3 [] PySem.Value.none PySem.Value.none PySem.Value.none (PySem.Value.str (PySem.Str.ofString "law_to0024_01") 365) (Option.none) (PySem.Value.ref 149) PySem.Value.none 0)) #[])
noncomputable def ko_151 (P : PySem.Params) : PySem.Obj := (PySem.Obj.mk (PySem.Value.type "tuple") (Option.none) (PySem.Data.seq #[] 0) #[])
noncomputable def ko_154 (P : PySem.Params) : PySem.Obj := (PySem.Obj.mk (PySem.Value.type "code") (Option.none) (PySem.Data.fields #[(PySem.Value.str (PySem.Str.ofString "_law_leads") 387), (PySem.Value.str (PySem.Str.ofString "_law_leads") 388), (PySem.Value.str (PySem.Str.ofString "/claim/cut.py") 389), (PySem.Value.int 114 0), (PySem.Value.int 4 0), (PySem.Value.int 0 0), (PySem.Value.int 0 0), (PySem.Value.int 3 0), (PySem.Value.ref 151), (PySem.Value.bool Bool.true), (PySem.Value.int 181 0), (PySem.Value.ref 152), PySem.Value.none, PySem.Value.none, PySem.Value.none, (PySem.Value.ref 153), (PySem.Value.int 390 0), (PySem.Value.int 114 0), (PySem.Value.str (PySem.Str.ofString "/claim/cut.py") 391)]) #[])
noncomputable def ko_155 (P : PySem.Params) : PySem.Obj := (PySem.Obj.mk (PySem.Value.type "function") (Option.none) (PySem.Data.func (PySem.FuncData.mk (PySem.Str.ofString "_law_leads") (PySem.Str.ofString "_law_leads") (paramsOf (stmtN 14)) (PySem.FuncBody.stmts (bodyOf (stmtN 14))) (scopeOf (stmtN 14)) 3 [] PySem.Value.none PySem.Value.none PySem.Value.none (PySem.Value.str (PySem.Str.ofString "law_to0024_01") 365) (Option.none) (PySem.Value.ref 154) PySem.Value.none 0)) #[])
noncomputable def ko_156 (P : PySem.Params) : PySem.Obj := (PySem.Obj.mk (PySem.Value.type "tuple") (Option.none) (PySem.Data.seq #[] 0) #[])
noncomputable def ko_159 (P : PySem.Params) : PySem.Obj := (PySem.Obj.mk (PySem.Value.type "code") (Option.none) (PySem.Data.fields #[(PySem.Value.str (PySem.Str.ofString "_law_nanny") 393), (PySem.Value.str (PySem.Str.ofString "_law_nanny") 394), (PySem.Value.str (PySem.Str.ofString "/claim/cut.py") 395), (PySem.Value.int 116 0), (PySem.Value.int 3 0), (PySem.Value.int 0 0), (PySem.Value.int 0 0), (PySem.Value.int 3 0), (PySem.Value.ref 156), (PySem.Value.bool Bool.true), (PySem.Value.int 181 0), (PySem.Value.ref 157), PySem.Value.none, PySem.Value.none, PySem.Value.none, (PySem.Value.ref 158), (PySem.Value.int 396 0), (PySem.Value.int 116 0), (PySem.Value.str (PySem.Str.ofString "/claim/cut.py") 397)]) #[])
noncomputable def ko_160 (P : PySem.Params) : PySem.Obj := (PySem.Obj.mk (PySem.Value.type "function") (Option.none) (PySem.Data.func (PySem.FuncData.mk (PySem.Str.ofString "_law_nanny") (PySem.Str.ofString "_law_nanny") (paramsOf (stmtN 15)) (PySem.FuncBody.stmts (bodyOf (stmtN 15))) (scopeOf (stmtN 15)) 3 [] PySem.Value.none PySem.Value.none PySem.Value.none (PySem.Value.str (PySem.Str.ofString "law_to0024_01") 365) (Option.none) (PySem.Value.ref 159) PySem.Value.none 0)) #[])
noncomputable def ko_161 (P : PySem.Params) : PySem.Obj := (PySem.Obj.mk (PySem.Value.type "tuple") (Option.none) (PySem.Data.seq #[] 0) #[])
noncomputable def ko_164 (P : PySem.Params) : PySem.Obj := (PySem.Obj.mk (PySem.Value.type "code") (Option.none) (PySem.Data.fields #[(PySem.Value.str (PySem.Str.ofString "_law_lost") 399), (PySem.Value.str (PySem.Str.ofString "_law_lost") 400), (PySem.Value.str (PySem.Str.ofString "/claim/cut.py") 401), (PySem.Value.int 124 0), (PySem.Value.int 2 0), (PySem.Value.int 0 0), (PySem.Value.int 0 0), (PySem.Value.int 3 0), (PySem.Value.ref 161), (PySem.Value.bool Bool.true), (PySem.Value.int 181 0), (PySem.Value.ref 162), PySem.Value.none, PySem.Value.none, PySem.Value.none, (PySem.Value.ref 163), (PySem.Value.int 402 0), (PySem.Value.int 124 0), (PySem.Value.str (PySem.Str.ofString "/claim/cut.py") 403)]) #[])
noncomputable def ko_165 (P : PySem.Params) : PySem.Obj := (PySem.Obj.mk (PySem.Value.type "function") (Option.none) (PySem.Data.func (PySem.FuncData.mk (PySem.Str.ofString "_law_lost") (PySem.Str.ofString "_law_lost") (paramsOf (stmtN 16)) (PySem.FuncBody.stmts (bodyOf (stmtN 16))) (scopeOf (stmtN 16)) 3 [] PySem.Value.none PySem.Value.none PySem.Value.none (PySem.Value.str (PySem.Str.ofString "law_to0024_01") 365) (Option.none) (PySem.Value.ref 164) PySem.Value.none 0)) #[])
noncomputable def ko_166 (P : PySem.Params) : PySem.Obj := (PySem.Obj.mk (PySem.Value.type "tuple") (Option.none) (PySem.Data.seq #[] 0) #[])
noncomputable def ko_168 (P : PySem.Params) : PySem.Obj := (PySem.Obj.mk (PySem.Value.type "tuple") (Option.none) (PySem.Data.seq #[(PySem.Value.str (PySem.Str.ofString "figures") 408)] 0) #[])
noncomputable def ko_169 (P : PySem.Params) : PySem.Obj := (PySem.Obj.mk (PySem.Value.type "tuple") (Option.none) (PySem.Data.seq #[] 0) #[])
noncomputable def ko_171 (P : PySem.Params) : PySem.Obj := (PySem.Obj.mk (PySem.Value.type "code") (Option.none) (PySem.Data.fields #[(PySem.Value.str (PySem.Str.ofString "_law_value") 405), (PySem.Value.str (PySem.Str.ofString "_law_value") 406), (PySem.Value.str (PySem.Str.ofString "/claim/cut.py") 407), (PySem.Value.int 132 0), (PySem.Value.int 1 0), (PySem.Value.int 0 0), (PySem.Value.int 0 0), (PySem.Value.int 3 0), (PySem.Value.ref 166), (PySem.Value.bool Bool.true), (PySem.Value.int 181 0), (PySem.Value.ref 167), PySem.Value.none, (PySem.Value.ref 168), (PySem.Value.ref 169), (PySem.Value.ref 170), (PySem.Value.int 409 0), (PySem.Value.int 132 0), (PySem.Value.str (PySem.Str.ofString "/claim/cut.py") 410)]) #[])
noncomputable def ko_172 (P : PySem.Params) : PySem.Obj := (PySem.Obj.mk (PySem.Value.type "function") (Option.none) (PySem.Data.func (PySem.FuncData.mk (PySem.Str.ofString "_law_value") (PySem.Str.ofString "_law_value") (paramsOf (stmtN 17)) (PySem.FuncBody.stmts (bodyOf (stmtN 17))) (scopeOf (stmtN 17)) 3 [] PySem.Value.none PySem.Value.none PySem.Value.none (PySem.Value.str (PySem.Str.ofString "law_to0024_01") 365) (Option.none) (PySem.Value.ref 171) PySem.Value.none 0)) #[])
noncomputable def ko_173 (P : PySem.Params) : PySem.Obj := (PySem.Obj.mk (PySem.Value.type "tuple") (Option.none) (PySem.Data.seq #[] 0) #[])
noncomputable def ko_175 (P : PySem.Params) : PySem.Obj := (PySem.Obj.mk (PySem.Value.type "tuple") (Option.none) (PySem.Data.seq #[(PySem.Value.str (PySem.Str.ofString "size") 415), (PySem.Value.str (PySem.Str.ofString "end") 416), (PySem.Value.str (PySem.Str.ofString "ends") 417), (PySem.Value.str (PySem.Str.ofString "turn") 418), (PySem.Value.str (PySem.Str.ofString "name") 419)] 0) #[])
noncomputable def ko_176 (P : PySem.Params) : PySem.Obj := (PySem.Obj.mk (PySem.Value.type "tuple") (Option.none) (PySem.Data.seq #[] 0) #[])
noncomputable def ko_178 (P : PySem.Params) : PySem.Obj := (PySem.Obj.mk (PySem.Value.type "code") (Option.none) (PySem.Data.fields #[(PySem.Value.str (PySem.Str.ofString "_law_readings") 412), (PySem.Value.str (PySem.Str.ofString "_law_readings") 413), (PySem.Value.str (PySem.Str.ofString "/claim/cut.py") 414), (PySem.Value.int 136 0), (PySem.Value.int 2 0), (PySem.Value.int 0 0), (PySem.Value.int 0 0), (PySem.Value.int 3 0), (PySem.Value.ref 173), (PySem.Value.bool Bool.true), (PySem.Value.int 181 0), (PySem.Value.ref 174), PySem.Value.none, (PySem.Value.ref 175), (PySem.Value.ref 176), (PySem.Value.ref 177), (PySem.Value.int 420 0), (PySem.Value.int 136 0), (PySem.Value.str (PySem.Str.ofString "/claim/cut.py") 421)]) #[])
noncomputable def ko_179 (P : PySem.Params) : PySem.Obj := (PySem.Obj.mk (PySem.Value.type "function") (Option.none) (PySem.Data.func (PySem.FuncData.mk (PySem.Str.ofString "_law_readings") (PySem.Str.ofString "_law_readings") (paramsOf (stmtN 18)) (PySem.FuncBody.stmts (bodyOf (stmtN 18))) (scopeOf (stmtN 18)) 3 [] PySem.Value.none PySem.Value.none PySem.Value.none (PySem.Value.str (PySem.Str.ofString "law_to0024_01") 365) (Option.none) (PySem.Value.ref 178) PySem.Value.none 0)) #[])
noncomputable def ko_180 (P : PySem.Params) : PySem.Obj := (PySem.Obj.mk (PySem.Value.type "tuple") (Option.none) (PySem.Data.seq #[] 0) #[])
noncomputable def ko_183 (P : PySem.Params) : PySem.Obj := (PySem.Obj.mk (PySem.Value.type "code") (Option.none) (PySem.Data.fields #[(PySem.Value.str (PySem.Str.ofString "law") 423), (PySem.Value.str (PySem.Str.ofString "law") 424), (PySem.Value.str (PySem.Str.ofString "/claim/cut.py") 425), (PySem.Value.int 144 0), (PySem.Value.int 1 0), (PySem.Value.int 0 0), (PySem.Value.int 0 0), (PySem.Value.int 3 0), (PySem.Value.ref 180), (PySem.Value.bool Bool.true), (PySem.Value.int 181 0), (PySem.Value.ref 181), PySem.Value.none, PySem.Value.none, PySem.Value.none, (PySem.Value.ref 182), (PySem.Value.int 426 0), (PySem.Value.int 144 0), (PySem.Value.str (PySem.Str.ofString "/claim/cut.py") 427)]) #[])
noncomputable def ko_184 (P : PySem.Params) : PySem.Obj := (PySem.Obj.mk (PySem.Value.type "function") (Option.none) (PySem.Data.func (PySem.FuncData.mk (PySem.Str.ofString "law") (PySem.Str.ofString "law") (paramsOf (stmtN 19)) (PySem.FuncBody.stmts (bodyOf (stmtN 19))) (scopeOf (stmtN 19)) 3 [] PySem.Value.none PySem.Value.none PySem.Value.none (PySem.Value.str (PySem.Str.ofString "law_to0024_01") 365) (Option.none) (PySem.Value.ref 183) PySem.Value.none 0)) #[])
noncomputable def Kf (P : PySem.Params) : PySem.W.Frag := List.cons (nat_lit 2, ko_2 P) (List.cons (nat_lit 3, ko_3 P) (List.cons (nat_lit 15, ko_15 P) (List.cons (nat_lit 17, ko_17 P) (List.cons (nat_lit 18, ko_18 P) (List.cons (nat_lit 20, ko_20 P) (List.cons (nat_lit 21, ko_21 P) (List.cons (nat_lit 22, ko_22 P) (List.cons (nat_lit 29, ko_29 P) (List.cons (nat_lit 30, ko_30 P) (List.cons (nat_lit 31, ko_31 P) (List.cons (nat_lit 32, ko_32 P) (List.cons (nat_lit 35, ko_35 P) (List.cons (nat_lit 42, ko_42 P) (List.cons (nat_lit 43, ko_43 P) (List.cons (nat_lit 44, ko_44 P) (List.cons (nat_lit 47, ko_47 P) (List.cons (nat_lit 49, ko_49 P) (List.cons (nat_lit 50, ko_50 P) (List.cons (nat_lit 52, ko_52 P) (List.cons (nat_lit 53, ko_53 P) (List.cons (nat_lit 54, ko_54 P) (List.cons (nat_lit 56, ko_56 P) (List.cons (nat_lit 57, ko_57 P) (List.cons (nat_lit 59, ko_59 P) (List.cons (nat_lit 60, ko_60 P) (List.cons (nat_lit 61, ko_61 P) (List.cons (nat_lit 63, ko_63 P) (List.cons (nat_lit 64, ko_64 P) (List.cons (nat_lit 66, ko_66 P) (List.cons (nat_lit 67, ko_67 P) (List.cons (nat_lit 78, ko_78 P) (List.cons (nat_lit 80, ko_80 P) (List.cons (nat_lit 81, ko_81 P) (List.cons (nat_lit 83, ko_83 P) (List.cons (nat_lit 84, ko_84 P) (List.cons (nat_lit 85, ko_85 P) (List.cons (nat_lit 87, ko_87 P) (List.cons (nat_lit 88, ko_88 P) (List.cons (nat_lit 90, ko_90 P) (List.cons (nat_lit 91, ko_91 P) (List.cons (nat_lit 92, ko_92 P) (List.cons (nat_lit 94, ko_94 P) (List.cons (nat_lit 95, ko_95 P) (List.cons (nat_lit 97, ko_97 P) (List.cons (nat_lit 98, ko_98 P) (List.cons (nat_lit 99, ko_99 P) (List.cons (nat_lit 101, ko_101 P) (List.cons (nat_lit 102, ko_102 P) (List.cons (nat_lit 104, ko_104 P) (List.cons (nat_lit 105, ko_105 P) (List.cons (nat_lit 106, ko_106 P) (List.cons (nat_lit 108, ko_108 P) (List.cons (nat_lit 109, ko_109 P) (List.cons (nat_lit 111, ko_111 P) (List.cons (nat_lit 112, ko_112 P) (List.cons (nat_lit 113, ko_113 P) (List.cons (nat_lit 115, ko_115 P) (List.cons (nat_lit 116, ko_116 P) (List.cons (nat_lit 118, ko_118 P) (List.cons (nat_lit 119, ko_119 P) (List.cons (nat_lit 120, ko_120 P) (List.cons (nat_lit 122, ko_122 P) (List.cons (nat_lit 123, ko_123 P) (List.cons (nat_lit 125, ko_125 P) (List.cons (nat_lit 126, ko_126 P) (List.cons (nat_lit 127, ko_127 P) (List.cons (nat_lit 128, ko_128 P) (List.cons (nat_lit 129, ko_129 P) (List.cons (nat_lit 130, ko_130 P) (List.cons (nat_lit 131, ko_131 P) (List.cons (nat_lit 134, ko_134 P) (List.cons (nat_lit 136, ko_136 P) (List.cons (nat_lit 137, ko_137 P) (List.cons (nat_lit 139, ko_139 P) (List.cons (nat_lit 140, ko_140 P) (List.cons (nat_lit 141, ko_141 P) (List.cons (nat_lit 144, ko_144 P) (List.cons (nat_lit 145, ko_145 P) (List.cons (nat_lit 146, ko_146 P) (List.cons (nat_lit 149, ko_149 P) (List.cons (nat_lit 150, ko_150 P) (List.cons (nat_lit 151, ko_151 P) (List.cons (nat_lit 154, ko_154 P) (List.cons (nat_lit 155, ko_155 P) (List.cons (nat_lit 156, ko_156 P) (List.cons (nat_lit 159, ko_159 P) (List.cons (nat_lit 160, ko_160 P) (List.cons (nat_lit 161, ko_161 P) (List.cons (nat_lit 164, ko_164 P) (List.cons (nat_lit 165, ko_165 P) (List.cons (nat_lit 166, ko_166 P) (List.cons (nat_lit 168, ko_168 P) (List.cons (nat_lit 169, ko_169 P) (List.cons (nat_lit 171, ko_171 P) (List.cons (nat_lit 172, ko_172 P) (List.cons (nat_lit 173, ko_173 P) (List.cons (nat_lit 175, ko_175 P) (List.cons (nat_lit 176, ko_176 P) (List.cons (nat_lit 178, ko_178 P) (List.cons (nat_lit 179, ko_179 P) (List.cons (nat_lit 180, ko_180 P) (List.cons (nat_lit 183, ko_183 P) (List.cons (nat_lit 184, ko_184 P) (List.nil))))))))))))))))))))))))))))))))))))))))))))))))))))))))))))))))))))))))))))))))))))))))))))))))))))))))
abbrev Kas : List PySem.Addr := [2, 3, 15, 17, 18, 20, 21, 22, 29, 30, 31, 32, 35, 42, 43, 44, 47, 49, 50, 52, 53, 54, 56, 57, 59, 60, 61, 63, 64, 66, 67, 78, 80, 81, 83, 84, 85, 87, 88, 90, 91, 92, 94, 95, 97, 98, 99, 101, 102, 104, 105, 106, 108, 109, 111, 112, 113, 115, 116, 118, 119, 120, 122, 123, 125, 126, 127, 128, 129, 130, 131, 134, 136, 137, 139, 140, 141, 144, 145, 146, 149, 150, 151, 154, 155, 156, 159, 160, 161, 164, 165, 166, 168, 169, 171, 172, 173, 175, 176, 178, 179, 180, 183, 184]
end Mine
end


/-! part T0N -/
section
open PySem PySem.W PyProof.Rows
set_option Elab.async false
set_option maxRecDepth 100000
namespace Mine
noncomputable abbrev rr : RowW := OpenRow.toRowW PySem.Challenge.rw_to0024_01.row
noncomputable abbrev HH : Hook := kmHook Mine.Kf Mine.Kas (fun _ => by kernel_rfl) [62, 55]
def qN : Program := { PySem.Challenge.pw_to0024_01 with main := { PySem.Challenge.pw_to0024_01.main with body := [stmtN 0, stmtN 2, stmtN 3, stmtN 4, stmtN 6, stmtN 7, stmtN 9, stmtN 11, stmtN 12, stmtN 13, stmtN 14, stmtN 15, stmtN 16, stmtN 17, stmtN 18, stmtN 19] } }
def looseN : List Str := [Str.ofString "Whitespace"]
def posOfD : Stmt → Pos
  | .FunctionDef _ _ _ _ _ _ _ _ _ pos => pos
  | _ => default
def dN : DefRec := ⟨nameOf (stmtN 19), paramsOf (stmtN 19), bodyOf (stmtN 19), scopeOf (stmtN 19), posOfD (stmtN 19)⟩
noncomputable def obsN (s : Shared) : List (Option Obj) × List (Option Obj) := (Kas.map s.heap.get?, [62, 55].map s.heap.get?)
noncomputable def leftG (p q : Program) (loose : List Str) (R : WRecords) (w : World) :=
  (openEnds treeTable p w 2744).map (fun s => (openSeen q loose (importedModules p.main.body) (fun s => xlAt q [] s && recOk R s) true s, obsN s))
noncomputable def valN (K : Params → List (Addr × Obj)) (w : World) : List (Option Obj) × List (Option Obj) := ((K w.params).map fun p => some p.2, [62, 55].map fun _ => some (tabObj #[]))
noncomputable def saidG (l : OpenLaw) : Bool := l.wellSaid
noncomputable def rightG (q : Program) (loose : List Str) (K : Params → List (Addr × Obj)) (w : World) := some (openGood q loose, valN K w)
end Mine
lay_quick Mine.obsN Mine.valN Mine.leftG Mine.rightG Mine.saidG
namespace Mine
theorem leftF (w : World) : PySem.W.Fast.tw1732809286771250250 rr.prog qN looseN rr.records (w.withFollow "special-get-raises" false) = PySem.W.Fast.tw9056994634049024982 qN looseN Kf (w.withFollow "special-get-raises" false) := by kernel_rfl
theorem leftT (w : World) : PySem.W.Fast.tw1732809286771250250 rr.prog qN looseN rr.records (w.withFollow "special-get-raises" true) = PySem.W.Fast.tw9056994634049024982 qN looseN Kf (w.withFollow "special-get-raises" true) := by kernel_rfl
theorem leftA (w : World) : leftG rr.prog qN looseN rr.records w = rightG qN looseN Kf w := by
  rw [PySem.W.Fast.te1732809286771250250, PySem.W.Fast.te9056994634049024982]
  exact byRow2 "special-get-raises" (P := fun w => PySem.W.Fast.tw1732809286771250250 rr.prog qN looseN rr.records w = PySem.W.Fast.tw9056994634049024982 qN looseN Kf w) leftF leftT w
theorem left0 : LeftO rr.prog qN looseN (fun s => xlAt qN [] s && recOk (RowW.records rr) s) (Hook.obs HH) (Hook.val HH) 2744 := fun w => leftA w
theorem saidT : PySem.W.Fast.tw1568032226376447359 PySem.Challenge.rw_to0024_01 = true := by kernel_rfl
theorem saidN : OpenLaw.wellSaid PySem.Challenge.rw_to0024_01 = true := (congrFun PySem.W.Fast.te1568032226376447359 PySem.Challenge.rw_to0024_01).trans saidT
theorem defN : defOf qN rr.name = some (dN, []) := by kernel_rfl
theorem theN : rr.prog.theDef rr.name = some (dN.params, dN.body, dN.scope) := by kernel_rfl
theorem okN : (chainsOk qN && opensWell rr.prog && (frees rr && PySem.Challenge.rw_to0024_01.row.within.isEmpty)) = true := by kernel_rfl
set_option maxHeartbeats 8000000 in
theorem hd (h : WalkO qN looseN (XL qN []) (Hook.says (kmHook Mine.Kf Mine.Kas (fun _ => by kernel_rfl) [62, 55])) (OpenRow.toRowW PySem.Challenge.rw_to0024_01.row) dN [] fun f vs => PySem.call f vs) : PySem.Challenge.rw_to0024_01.Holds := by
  w_on
  refine holds_law saidN fun said => ?_
  refine PySem.W.holds_open (r := PySem.Challenge.rw_to0024_01.row) (q := qN) (loose := looseN) (Xt := fun s => xlAt qN [] s && recOk (RowW.records rr) s) (XP := XL qN []) (Yf := Hook.obs HH) (Ya := Hook.val HH) (YP := Hook.says HH) (N := 2744) (d := dN) (kwd := []) left0 (Hook.of HH) (Hook.keeps HH) (fun s e => xl_of s (Bool.and_eq_true_iff.mp e).1) XL.keeps defN theN rfl (fun s e => recFacts_of (Bool.and_eq_true_iff.mp e).2) rfl said okN ⟨rfl, rfl, rfl, rfl, rfl, by decide +kernel⟩ ?hw h
  w_witness2
end Mine
end


/-! part F10 -/
section
open PySem PySem.W PyProof.Rows PySem.Calls PySem.Spec
set_option Elab.async false
set_option linter.unusedVariables false
set_option maxRecDepth 100000
namespace Mine
/-- the rest of the heap -/
def allBut (h : Heap) (bs : List Addr) : List (Addr × Obj) := (List.range h.objs.size).filterMap fun b => if b ∈ bs then none else (h.get? b).map fun o => (b, o)
theorem mem_allBut {h : Heap} {bs : List Addr} {b : Addr} {o : Obj} : (b, o) ∈ allBut h bs ↔ b ∉ bs ∧ h.get? b = some o := by
  unfold allBut
  rw [List.mem_filterMap]
  constructor
  · rintro ⟨a, ha, e⟩
    by_cases q : a ∈ bs
    · rw [if_pos q] at e; cases e
    · rw [if_neg q] at e
      obtain ⟨o', ho', e'⟩ := Option.map_eq_some_iff.mp e
      cases e'
      exact ⟨q, ho'⟩
  · rintro ⟨q, e⟩
    exact ⟨b, List.mem_range.mpr (Heap.lt_size e), by rw [if_neg q, e]; rfl⟩
abbrev dictS (es : List DictEntry) (n : Nat) (sl : Array (Option Value)) : Obj := { cls := .type "dict", data := .dict es.toArray n, slots := sl }
theorem putName_dictS (name : Str) (hsh : Int) (key v : Value) (es : List DictEntry) (n : Nat) (sl : Array (Option Value)) : Obj.putName name hsh key v (dictS es n sl) = dictS (putL name hsh key v es) (putN name es n) sl := by
  have h := putName_dict name hsh key v es n
  rw [Obj.putName_eq] at h ⊢
  unfold Obj.putNameByArray dictOf at h
  unfold Obj.putNameByArray dictS
  dsimp only at h ⊢
  split
  · rename_i q
    rw [q] at h
    dsimp only at h
    injection h with _ _ h3 _
    rw [h3]
  · rename_i q
    rw [q] at h
    dsimp only at h
    injection h with _ _ h3 _
    rw [h3]
section
variable {prog : Program} {w : World} {A : Around} {E : Value → Shared → Prop} {s : Shared} {K : Frag} {x C dx L : Addr} {m : Str → Option Value} {es : List DictEntry} {n : Nat} {sl : Array (Option Value)} {name : Str} {v : Value}
theorem set_raw {Q : Unit → Shared → Prop} (X : K.In s.heap) (hL : s.heap.Ns L m) (hLd : L ≠ dx) (hx : s.heap.get? x = some (instObj C dx)) (hdx : s.heap.get? dx = some (dictS es n sl))
    (hs : findIn K (.ref C) "__setattr__" = some (some (.builtin "object.__setattr__"))) (hp : plainOver K C = true) (ht : findIn K (.ref C) name = some none) (hh : hasDictIn K C = true) (hl : (getL name es).isSome = true) (hz : (putL name (PyData.keyHash w.params name) (.str name (s.toks + 1)) v es).length ≤ 1000)
    (h : ∀ h', h'.Ns L m → (∀ b o, b ≠ dx → b ≠ L → s.heap.get? b = some o → h'.get? b = some o) → h'.get? dx = some (dictS (putL name (PyData.keyHash w.params name) (.str name (s.toks + 1)) v es) (putN name es n) sl) → Q () { s with heap := h', toks := s.toks + 2 }) :
    wpAny (model prog w) A (setAttr (.ref x) name v) Q E s := by
  have F : Fr ({ objs := #[] } : Heap) L s.heap m := ⟨hL, fun b o e => absurd (Heap.lt_size e) (Nat.not_lt_zero _), Nat.zero_le _⟩
  have hnone : ∀ b, ({ objs := #[] } : Heap).get? b = none := fun b => by
    cases q : ({ objs := #[] } : Heap).get? b with
    | none => rfl
    | some o => exact absurd (Heap.lt_size q) (Nat.not_lt_zero _)
  have N : News ({ objs := #[] } : Heap) L s.heap ([] ++ (dx, dictS es n sl) :: allBut s.heap [dx, L]) := fun p hp => by
    rcases List.mem_cons.mp hp with rfl | hp
    · exact ⟨hdx, fun q => hLd q.symm, hnone _⟩
    · obtain ⟨q1, q2⟩ := mem_allBut.mp (show (p.1, p.2) ∈ _ from hp)
      exact ⟨q2, fun q => q1 (by simp [q]), hnone _⟩
  have I : InstAt s.heap x (instObj C dx) C (some (dictS es n sl)) := ⟨hx, rfl, rfl, hdx⟩
  have ht' : takerIn K C name = some none := by unfold takerIn; rw [ht]; rfl
  refine set_plain X I hs (osa_dict (s := { s with toks := s.toks + 1 }) F N X I rfl hp ht' hh hl (fun p hp => nomatch hp) (fun p hp q => ?_) (putName_dictS ..) rfl hz fun h' F' N' => ?_)
  · obtain ⟨q1, q2⟩ := mem_allBut.mp (show (p.1, p.2) ∈ _ from hp)
    exact q1 (by simp [q])
  · refine h h' F'.ns (fun b o h1 h2 e => ?_) (N' _ (.head _)).1
    exact (N' (b, o) (.tail _ (mem_allBut.mpr ⟨by simp [h1, h2], e⟩))).1
end
section
variable {c : Cx} {A : Around} {env : Env} {σ : Sig} {Φ : Post} {s₀ s : Shared} {G₀ X G : Gh}
/-- a change of a kept dict -/
theorem StM.setD {m cm : Str → Option Value} {dx : Addr} {od od' : Obj} {h' : Heap} {tk : Nat} (h : StM c A s₀ G₀ (X.add dx od) env σ G m cm s) (h0 : s₀.heap.get? dx = none) (hX : ∀ o, ¬ X dx o) (hL : h'.Ns env.locals m) (hk : ∀ b o, b ≠ dx → b ≠ env.locals → s.heap.get? b = some o → h'.get? b = some o)
    (hdx : h'.get? dx = some od') (hD : isD od' = true) (hXL : ∀ o, ¬ X env.locals o) : StM c A s₀ G₀ (X.add dx od') env σ G m cm { s with heap := h', toks := tk } := by
  have hf : ¬ FrameAt env dx := fun q => h.xF _ q _ Gh.add_self
  have hGd : ∀ o, ¬ G dx o := fun o e => h.gX _ _ e _ Gh.add_self
  have hGL : ∀ o, ¬ G env.locals o := h.gF _ (.inl rfl)
  have hLn : s₀.heap.get? env.locals = none := h.off (.inl rfl)
  have hb : ∀ a, s₀.heap.get? a = none → c.base.get? a = none := fun a q => by
    cases q' : c.base.get? a with
    | none => rfl
    | some o => have := h.gl0 _ _ q'; rw [q] at this; cases this
  have hcell : ∀ k t, env.cells.lookup k = some t → t ≠ dx ∧ t ≠ env.locals := fun k t hc => ⟨h.cellNe h0 hf hc, h.fr.ne k t (mem_of_lookup hc)⟩
  have hdict : IsDict h' dx := by
    unfold isD at hD
    split at hD
    · rename_i es n q
      exact ⟨od', es, n, hdx, q⟩
    · cases hD
  refine ⟨⟨?_, hL, fun b o e => (h.fr.kh b o e).off fun o' => hk b o' (fun q => by rw [q, h0] at e; cases e) (fun q => by rw [q, hLn] at e; cases e), h.fr.fresh, fun k t hc => ?_, h.fr.apart, h.fr.ne⟩,
    ⟨h.gl.kin, h.gl.ktop, fun b o e => hk b o (fun q => by rw [q, hb _ h0] at e; cases e) (fun q => by rw [q, hb _ hLn] at e; cases e) (h.gl.stays b o e), h.gl.fr.step fun L' _ d => ?_⟩, h.gl0, h.above, h.old, h.tb,
    h.on.off (fun b o e o' => hk b o' (fun q => hGd o (q ▸ e)) (fun q => hGL o (q ▸ e))) (fun q hq b hb o' => hk b o' (fun z => h.tb q hq b hb (z ▸ h0)) (fun z => h.tb q hq b hb (z ▸ hLn))), h.g0, h.new, h.gF, fun b o e => ?_, fun a ha o e => ?_, fun a o e o' x => ?_, fun y sl e => ?_, h.dis⟩
  · obtain ⟨h₁, tk₁, e⟩ := h.fr.same
    exact ⟨h', tk, by rw [e]⟩
  · obtain ⟨o, ho, hd⟩ := h.fr.cell k t hc
    exact ⟨o, hk t o (hcell k t hc).1 (hcell k t hc).2 ho, hd⟩
  · by_cases q1 : L' = dx
    · rw [q1]; exact hdict
    · by_cases q2 : L' = env.locals
      · rw [q2]; exact isDict_ns hL
      · obtain ⟨o, es, n, ho, hd⟩ := d
        exact ⟨o, es, n, hk L' o q1 q2 ho, hd⟩
  · rcases e with e | ⟨rfl, rfl⟩
    · exact (h.xon _ _ (.inl e)).off fun o' => hk b o' (fun q => hX o (q ▸ e)) (fun q => hXL o (q ▸ e))
    · exact .of hdx
  · rcases e with e | ⟨rfl, rfl⟩
    · exact h.xF _ ha _ (.inl e)
    · exact hf ha
  · rcases x with x | ⟨rfl, rfl⟩
    · exact h.gX _ _ e _ (.inl x)
    · exact hGd _ e
  · obtain ⟨u, hu, b⟩ := h.nm y sl e
    refine ⟨u, hu, ?_⟩
    cases sl with
    | val d => exact b
    | own es =>
      obtain ⟨a', vs', n', f1, f2, r2, p1, p2, p3, p4⟩ := b
      refine ⟨a', vs', n', f1, hk _ _ (fun q => p2 od (by rw [q]; exact Gh.add_self)) (fun q => p4 (.inl q)) f2, r2, p1, fun o e2 => ?_, p3, p4⟩
      rcases e2 with e2 | ⟨q, _⟩
      · exact p2 _ (.inl e2)
      · exact p2 od (by rw [q]; exact Gh.add_self)
end
end Mine
end


/-! part F11 -/
section
open PySem PySem.W PyProof.Rows PySem.Calls PySem.Spec
set_option Elab.async false
set_option linter.unusedVariables false
set_option maxRecDepth 100000
namespace Mine
abbrev Xw (x C dx : Addr) (es : List DictEntry) (n : Nat) (sl : Array (Option Value)) : Gh := (Gh.none.add x (instObj C dx)).add dx (dictS es n sl)
def bumpP (count : List Int) (b : Nat) : List Int :=
  let k := if count.length ≤ b then count ++ List.replicate (b - count.length + 1) 0 else count
  k.set b (k.getD b 0 + 1)
/-- the runs of blanks -/
noncomputable def wsGo : List Nat → List Int → Nat → Nat → Nat → List Int × Nat × Nat × Nat
  | [], count, b, n, nt => (count, b, n, nt)
  | ch :: r, count, b, n, nt => if ch = 32 then wsGo r count (b + 1) (n + 1) nt else if ch = 9 then wsGo r (bumpP count b) 0 (n + 1) (nt + 1) else (count, b, n, nt)
section
variable {c : Cx} {A : Around} {env : Env} {σ : Sig} {Φ : Post} {s₀ s : Shared} {G₀ X G : Gh}
theorem forGo_P {bs : D → Sig} {body : List Stmt} (P : List D → Sig → Prop) (step : ∀ d ds σ, P (d :: ds) σ → ExS c A env (bs d ++ σ) body fun fd σ' => match fd with
      | .next => P ds σ'
      | .cont => P ds σ'
      | .brk => Φ .next σ'
      | .ret r => Φ (.ret r) σ') (hend : ∀ σ, P [] σ → Φ .next σ) : ∀ (ds : List D) (σ : Sig), P ds σ → ForGo c A env bs body Φ ds σ
  | [], σ, h => hend σ h
  | d :: ds, σ, h => exs_mono (step d ds σ h) fun fd σ' hq => by
    cases fd with
    | next => exact forGo_P P step hend ds σ' hq
    | cont => exact forGo_P P step hend ds σ' hq
    | brk => exact hq
    | ret r => exact hq
theorem alike_dictS {es : List DictEntry} {n : Nat} {sl : Array (Option Value)} {o : Obj} (h : Alike (dictS es n sl) o) : ∃ sl', o = dictS es n sl' := by
  rcases h with rfl | ⟨_, sl', rfl⟩ | ⟨q, _⟩
  · exact ⟨sl, rfl⟩
  · exact ⟨sl', rfl⟩
  · cases q
theorem wp_setself {x C dx I J : Addr} {es : List DictEntry} {n : Nat} {sl : Array (Option Value)} {name : Str} {e : Expr} {d : D} {px p' pos : Pos} {Q : Flow → Shared → Prop} {E : Value → Shared → Prop} (W : WsAt c C I J) (hF : EnvF env) (st : St c A s₀ G₀ (Xw x C dx es n sl) env σ G s) (h0 : s₀.heap.get? dx = none) (hxd : x ≠ dx)
    (hself : σ.lookup (Str.ofString "self") = some (.val (.adr x))) (he : Ev c A env σ e d) (hname : findIn c.K (.ref C) name = some none) (hl : (getL name es).isSome = true) (hlen : ∀ h k v, (putL name h k v es).length ≤ 1000)
    (hQ : ∀ G' s' hsh tok v sl', St c A s₀ G₀ (Xw x C dx (putL name hsh (.str name tok) v es) (putN name es n) sl') env σ G' s' → (∀ a o, G a o → G' a o) → Rep G' v d → Q .next s')
    (hs : swapsWith e (some (.Attribute (.Name (Str.ofString "self") px) name p')) pos.line env = pure false := by rfl) :
    wpAny (model c.prog c.w) A (exec (.Assign [.Attribute (.Name (Str.ofString "self") px) name p'] e pos) env) Q E s := by
  refine plainObj_wpAny_Assign_Attribute ((he G s st.ok).use fun v G1 s1 g1 r1 => ?_) hs
  obtain ⟨m, cm, q⟩ := st.grow hF g1
  obtain ⟨u, hu, b⟩ := q.nm _ _ hself
  have hu' : u = .ref x := by
    have b' : Rep G1 u (.adr x) := b
    (first | obtain rfl := b'.inv0 | obtain ⟨_, rfl⟩ := b'.inv | obtain rfl := b'.inv | cases b')
    rfl
  subst hu'
  refine wpAny_Name (loadName_of hF.ok (hu.reads q.fr) ?_) (by decide)
  have hx : s1.heap.get? x = some (instObj C dx) := (q.xon _ _ (.inl (.inr ⟨rfl, rfl⟩))).eq rfl
  obtain ⟨od, hod, al⟩ := q.xon _ _ (.inr ⟨rfl, rfl⟩)
  obtain ⟨sl', rfl⟩ := alike_dictS al
  have hLd : env.locals ≠ dx := fun e => q.xF _ (.inl rfl) _ (.inr ⟨e, rfl⟩)
  have hLx : env.locals ≠ x := fun e => q.xF _ (.inl rfl) _ (.inl (.inr ⟨e, rfl⟩))
  refine set_raw q.gl.inn q.fr.ns hLd hx hod W.set W.over hname W.dict hl (hlen _ _ _) fun h' hn hk hd => ?_
  have q2 : StM c A s₀ G₀ (Xw x C dx (putL name (PyData.keyHash c.w.params name) (.str name (s1.toks + 1)) v es) (putN name es n) sl') env σ G1 m cm { s1 with heap := h', toks := s1.toks + 2 } :=
    q.setD (od := dictS es n sl) h0 (fun o e => by
      rcases e with e | ⟨e, _⟩
      · exact e
      · exact hxd e.symm) hn hk hd rfl (fun o e => by
      rcases e with e | ⟨e, _⟩
      · exact e
      · exact hLx e)
  exact hQ G1 _ _ _ _ _ ⟨m, cm, q2⟩ g1.sub r1
/-- self.raw -/
theorem res_raw {x C dx I J : Addr} {es : List DictEntry} {n : Nat} {sl : Array (Option Value)} {px pos : Pos} {v : Value} {d : D} (W : WsAt c C I J) (hF : EnvF env) (st : St c A s₀ G₀ (Xw x C dx es n sl) env σ G s)
    (hself : σ.lookup (Str.ofString "self") = some (.val (.adr x))) (hl : getL (Str.ofString "raw") es = some (some v)) (hv : handedIn v = true) (r : Rep G v d) : Res c A G s (eval (.Attribute (.Name (Str.ofString "self") px) (Str.ofString "raw") pos) env) d := by
  obtain ⟨m, cm, q⟩ := st
  obtain ⟨u, hu, b⟩ := q.nm _ _ hself
  have hu' : u = .ref x := by
    have b' : Rep G u (.adr x) := b
    (first | obtain rfl := b'.inv0 | obtain ⟨_, rfl⟩ := b'.inv | obtain rfl := b'.inv | cases b')
    rfl
  subst hu'
  have hx : s.heap.get? x = some (instObj C dx) := (q.xon _ _ (.inl (.inr ⟨rfl, rfl⟩))).eq rfl
  obtain ⟨od, hod, al⟩ := q.xon _ _ (.inr ⟨rfl, rfl⟩)
  obtain ⟨sl', rfl⟩ := alike_dictS al
  refine Attribute_name (wpAny_Name (loadName_of hF.ok (hu.reads q.fr) ?_) (by decide))
  exact get_value (od := some (dictS es n sl')) q.gl.inn ⟨hx, rfl, rfl, hod⟩ (plainGet_of W.get).1 (findObj_own W.dict W.raw rfl hl) hv ⟨G, Grow.toks q.on _, r⟩
/-- a class attribute -/
theorem ev_cls {C I J : Addr} {name : Str} {xn : Str} {xp pos : Pos} {l : List Nat} (W : WsAt c C I J) (hf : EvV c A env σ (.Name xn xp) (.ref C)) (h : ∃ mc t, readsIn c.K C mc = true ∧ findCls c.K (.ref C) mc name = some (.val (.str (S l) t))) : Ev c A env σ (.Attribute (.Name xn xp) name pos) (.str l) := fun G s ok => by
  obtain ⟨mc, t, h1, h2⟩ := h
  exact Attribute_name (hf G s _ _ ok (cls_value ok.gl.inn h1 h2 rfl ⟨G, Grow.toks ok.sub _, .str _ _⟩))
theorem at_cons {stmt : Stmt} {ss : List Stmt} {τ : Sig} {Q : Flow → Shared → Prop} {E : Value → Shared → Prop} (st : St c A s₀ G₀ X env σ G s) (h : Ex1 c A env σ stmt (fun fd σ' => fd = .next ∧ σ' = τ)) (k : ∀ G' s', St c A s₀ G₀ X env τ G' s' → (∀ a o, G a o → G' a o) → wpAny (model c.prog c.w) A (execs ss env) Q E s') :
    wpAny (model c.prog c.w) A (execs (stmt :: ss) env) Q E s := by
  refine wpAny_execs_cons (wpAny_mono (h s₀ G₀ X G s st) (fun fl s' q => ?_) fun _ _ x => x.elim)
  obtain ⟨G', σ', fd, st', hG, hfl, rfl, rfl⟩ := q
  cases fl <;> first
    | exact hfl.elim
    | exact k G' s' st' hG
end
end Mine
end


/-! part F12 -/
section
open PySem PySem.W PyProof.Rows PySem.Calls PySem.Spec
set_option Elab.async false
set_option linter.unusedVariables false
set_option maxRecDepth 100000
namespace Mine
noncomputable def wsD (C : Addr) (x : List Nat) : D := .ws C (wsGo x [] 0 0 0).1 ((wsGo x [] 0 0 0).2.1 : Nat) ((wsGo x [] 0 0 0).2.2.2 : Nat)
section
variable {c : Cx} {A : Around} {env : Env} {σ : Sig} {s₀ s₁ s : Shared} {G : Gh}
/-- the same frame, seen from before the new object stood -/
theorem StM.rebase {m cm : Str → Option Value} {X : Gh} (q : StM c A s₁ G Gh.none env σ G m cm s) (k : Keeps s₀ s₁) (gl : ∀ b o, c.base.get? b = some o → s₀.heap.get? b = some o) (hz : s₀.heap.objs.size ≤ s₁.heap.objs.size) (hX : ∀ a o, X a o → s₁.heap.get? a = some o ∧ s₀.heap.get? a = none) (on : OnG c G s₀)
    (hval : ∀ x sl, σ.lookup x = some sl → ∃ d, sl = .val d) (hold : ∀ n a, (n, a) ∈ env.cells → env.kindOf n ≠ some .cell → ∃ o, s₀.heap.get? a = some o) (htb : ∀ q ∈ c.tabs, ∀ a, (a = q.code ∨ a = q.tab) → s₀.heap.get? a ≠ none) : StM c A s₀ G X env σ G m cm s := by
  have kp : Kh s₀.heap s₁.heap := (Kp.of (c := c) k).kh
  refine ⟨⟨?_, q.fr.ns, kp.trans q.fr.kh, Nat.le_trans hz q.fr.fresh, q.fr.cell, q.fr.apart, q.fr.ne⟩, q.gl, gl, q.above, hold, htb, q.on, q.g0, fun _ _ e => .inl e, q.gF, fun a o e => q.fr.kh _ _ (hX a o e).1, fun a ha o e => ?_, fun a o e o' x => on.ne e (hX a o' x).2, fun x sl e => ?_, fun x y ds es v e1 e2 => ?_⟩
  · obtain ⟨h, t, rfl, _⟩ := k
    obtain ⟨h', t', e⟩ := q.fr.same
    exact ⟨h', t', by rw [e]⟩
  · have := q.off ha
    rw [(hX a o e).1] at this; cases this
  · obtain ⟨v, hv, b⟩ := q.nm x sl e
    obtain ⟨d, rfl⟩ := hval x sl e
    exact ⟨v, hv, b⟩
  · obtain ⟨d, hd⟩ := hval x _ e1
    cases hd
theorem ws_done {m cm : Str → Option Value} {G₀ : Gh} {x C dx tp tc : Addr} {es : List DictEntry} {n n1 n2 : Nat} {sl : Array (Option Value)} {count : List Int} {trail nt : Int} {vc : List Value} {t1 t2 : Tok} (q : StM c A s₀ G₀ (Xw x C dx es n sl) env σ G m cm s) (hx0 : s₀.heap.get? x = none) (hd0 : s₀.heap.get? dx = none)
    (e1 : getL (Str.ofString "norm") es = some (some (.ref tp))) (e2 : getL (Str.ofString "nt") es = some (some (.int nt t1))) (e3 : getL (Str.ofString "indent_level") es = some none) (g4 : G tp (tupObj [.ref tc, .int trail t2] n1)) (g5 : G tc (tupObj vc n2)) (hi : IntsAre vc count) :
    ∃ G', Grow c G₀ s₀ G' s ∧ Rep G' (.ref x) (.ws C count trail nt) := by
  refine ⟨(G.add x (instObj C dx)).add dx (dictOf es n), ⟨⟨q.fr.same, q.fr.kh, fun z => q.gl.stays⟩, fun a o e => .inl (.inl (q.g0 a o e)), q.on.more (fun _ _ e => .inl (.inl e)) (fun a o e => ?_), fun a o e => ?_⟩, .ws (.inl (.inr ⟨rfl, rfl⟩)) (.inr ⟨rfl, rfl⟩) e1 e2 e3 (.inl (.inl g4)) (.inl (.inl g5)) hi⟩
  · rcases e with (e | ⟨rfl, rfl⟩) | ⟨rfl, rfl⟩
    · exact .inl e
    · exact .inr ⟨(q.xon _ _ (.inl (.inr ⟨rfl, rfl⟩))).to2 rfl, rfl⟩
    · obtain ⟨od, hod, al⟩ := q.xon _ _ (.inr ⟨rfl, rfl⟩)
      obtain ⟨sl', rfl⟩ := alike_dictS al
      exact .inr ⟨⟨_, hod, .inr ⟨rfl, sl', rfl⟩⟩, rfl⟩
  · rcases e with (e | ⟨rfl, rfl⟩) | ⟨rfl, rfl⟩
    · exact q.new _ _ e
    · exact .inr hx0
    · exact .inr hd0
end
abbrev wsSig (xa : Addr) (x : List Nat) (cnt : List Int) (b n nt : Nat) : Sig :=
  [(Str.ofString "count", .own (cnt.map .int)), (Str.ofString "b", .val (.int b)), (Str.ofString "n", .val (.int n)), (Str.ofString "nt", .val (.int nt)), (Str.ofString "S", .val (.str [32])), (Str.ofString "T", .val (.str [9])), (Str.ofString "self", .val (.adr xa)), (Str.ofString "ws", .val (.str x))]
theorem bumpP_len (count : List Int) (b : Nat) : (bumpP count b).length = max count.length (b + 1) := by
  unfold bumpP
  dsimp only
  rw [List.length_set]
  split
  · simp; (first | assumption | exact Int.natCast_nonneg _ | exact Nat.zero_le _ | exact Nat.le_refl _ | decide | exact Nat.le_trans (by assumption) (by decide) | lia)
  · (first | assumption | exact Int.natCast_nonneg _ | exact Nat.zero_le _ | exact Nat.le_refl _ | decide | exact Nat.le_trans (by assumption) (by decide) | lia)
def forBody : Stmt → List Stmt
  | .For _ _ body _ _ => body
  | _ => []
def thenOf : Stmt → List Stmt
  | .If _ a _ _ => a
  | _ => []
def elseOf : Stmt → List Stmt
  | .If _ _ b _ => b
  | _ => []
/-- the loop of Whitespace.__init__ -/
def wsBody : List Stmt := forBody ((bodyOf (methN 1)).getD 4 (.Pass default))
def wsTab : List Stmt := thenOf ((elseOf (wsBody.getD 0 (.Pass default))).getD 0 (.Pass default))
section
variable {c : Cx} {A : Around} {pm code : Value} {L I xa : Addr} {x cnt' : List Nat} {Ψ : Post}
theorem ws_set {k : List Int} {b n nt : Nat} (hF : EnvF (envM (methN 1) (Str.ofString "Whitespace.__init__") pm code L I)) (hb : b < k.length) (hb' : b ≤ 1000) (h : Ψ .next (wsSig xa x (k.set b (k.getD b 0 + 1)) 0 n nt)) :
    ExS c A (envM (methN 1) (Str.ofString "Whitespace.__init__") pm code L I) (wsSig xa x k b n nt) (wsTab.drop 3) Ψ := by
  conv => arg 5; whnf
  have hE := hF.ok
  have hkg := getD_get (l := k) (i := b) (d := 0) hb
  have hbb : (b : Int).toNat = b := Int.toNat_natCast b
  have h0 : (0 : Int) ≤ b := Int.natCast_nonneg b
  have h1 : (b : Int) < 2 ^ 63 := by lia
  refine ex_cons (ex_setitem (ds := k.map .int) (d := .int (k.getD b 0 + 1)) (k := (b : Int)) hF rfl (ev_add (ev_item (evl_own hE rfl) (ev_name hE rfl) h0 h1 (by rw [hbb, List.getElem?_map, hkg]; rfl)) ev_int) (ev_name hE rfl) h0 h1 (by rw [List.length_map]; lia) (ex_cons (ex_assign (d := .int 0) hF (.inl rfl) ev_int (exs_sub (τ := wsSig xa x (k.set b (k.getD b 0 + 1)) 0 n nt) ?_ (ex_nil h)))))
  exact sub_cons (by rw [List.map_set]; rfl) (sub_cons rfl (sub_cons rfl (sub_cons rfl (sub_cons rfl (sub_cons rfl (sub_cons rfl (sub_cons rfl sub_nil)))))))
theorem ws_tab {cnt : List Int} {b n nt : Nat} (hF : EnvF (envM (methN 1) (Str.ofString "Whitespace.__init__") pm code L I)) (B : Builts c) (hb : b ≤ 1000) (hc : cnt.length ≤ 1000) (h : Ψ .next (wsSig xa x (bumpP cnt b) 0 (n + 1) (nt + 1))) :
    ExS c A (envM (methN 1) (Str.ofString "Whitespace.__init__") pm code L I) ((Str.ofString "ch", .val (.str [9])) :: wsSig xa x cnt b n nt) wsTab Ψ := by
  have hE := hF.ok
  obtain ⟨k, hk1⟩ : ∃ k, k = if cnt.length ≤ b then cnt ++ List.replicate (b - cnt.length + 1) 0 else cnt := ⟨_, rfl⟩
  have hkb : b < k.length := by
    rw [hk1]
    split
    · rw [List.length_append, List.length_replicate]; (first | assumption | exact Int.natCast_nonneg _ | exact Nat.zero_le _ | exact Nat.le_refl _ | decide | exact Nat.le_trans (by assumption) (by decide) | lia)
    · (first | assumption | exact Int.natCast_nonneg _ | exact Nat.zero_le _ | exact Nat.le_refl _ | decide | exact Nat.le_trans (by assumption) (by decide) | lia)
  have hbump : bumpP cnt b = k.set b (k.getD b 0 + 1) := by
    unfold bumpP
    dsimp only
    rw [← hk1]
  rw [hbump] at h
  have hset := ws_set (c := c) (A := A) (Ψ := Ψ) hF hkb hb h
  conv => arg 5; whnf
  refine ex_cons (ex_assign (d := .int ((n : Int) + 1)) hF (.inl rfl) (ev_add (ev_name hE rfl) ev_int) (ex_cons (ex_assign (d := .int ((nt : Int) + 1)) hF (.inl rfl) (ev_add (ev_name hE rfl) ev_int) (ex_cons (ex_if (x := decide ((cnt.length : Int) ≤ b)) ((tr_cmp1 (ev_name hE rfl) (ev_lenL (evv_built hE rfl B.len rfl) (evl_own hE (ds := cnt.map .int) rfl) (by rw [List.length_map]; (first | assumption | exact Int.natCast_nonneg _ | exact Nat.zero_le _ | exact Nat.le_refl _ | decide | exact Nat.le_trans (by assumption) (by decide) | lia))) cmp_geI).cast (by rw [List.length_map])) hF
    (fun hlen => ex_cons (ex_assignF (ds := k.map .int) hF (.inl rfl) (EvF.cast (evf_cat (evl_own hE (ds := cnt.map .int) rfl) (evl_of (ev_of_fresh (evf_mul1 (d := .int 0) (ev_list (evall_cons ev_int evall_nil) (by decide)) (ev_add (ev_sub (ev_name hE rfl) (ev_lenL (evv_built hE rfl B.len rfl) (evl_own hE (ds := cnt.map .int) rfl) (by rw [List.length_map]; (first | assumption | exact Int.natCast_nonneg _ | exact Nat.zero_le _ | exact Nat.le_refl _ | decide | exact Nat.le_trans (by assumption) (by decide) | lia)))) ev_int) ?_ ?_))) ?_) ?_)
      (ex_nil (exs_sub (τ := wsSig xa x k b (n + 1) (nt + 1)) (sub_cons rfl (sub_cons rfl (sub_cons rfl (sub_cons rfl (sub_cons rfl (sub_cons rfl (sub_cons rfl (sub_cons rfl sub_nil)))))))) hset))))
    (fun hlen => ex_nil (exs_sub (τ := wsSig xa x k b (n + 1) (nt + 1)) ?_ hset)))))))
  · rw [List.length_map]; (first | assumption | exact Int.natCast_nonneg _ | exact Nat.zero_le _ | exact Nat.le_refl _ | decide | exact Nat.le_trans (by assumption) (by decide) | lia)
  · rw [List.length_map]; (first | assumption | exact Int.natCast_nonneg _ | exact Nat.zero_le _ | exact Nat.le_refl _ | decide | exact Nat.le_trans (by assumption) (by decide) | lia)
  · have := sizeLine_eq
    rw [List.length_map, List.length_replicate]; (first | assumption | exact Int.natCast_nonneg _ | exact Nat.zero_le _ | exact Nat.le_refl _ | decide | exact Nat.le_trans (by assumption) (by decide) | lia)
  · have hle : cnt.length ≤ b := Int.ofNat_le.mp (of_decide_eq_true hlen)
    rw [hk1, if_pos hle, List.map_append, List.map_replicate, List.length_map]
    congr 2
    (first | assumption | exact Int.natCast_nonneg _ | exact Nat.zero_le _ | exact Nat.le_refl _ | decide | exact Nat.le_trans (by assumption) (by decide) | lia)
  · have hle : ¬ cnt.length ≤ b := fun q => of_decide_eq_false hlen (Int.ofNat_le.mpr q)
    rw [if_neg hle] at hk1
    subst hk1
    exact sub_cons rfl (sub_cons rfl (sub_cons rfl (sub_cons rfl (sub_cons rfl (sub_cons rfl (sub_cons rfl (sub_cons rfl sub_nil)))))))
/-- one sign -/
theorem ws_turn {ch : Nat} {cnt : List Int} {b n nt : Nat} (hF : EnvF (envM (methN 1) (Str.ofString "Whitespace.__init__") pm code L I)) (B : Builts c) (hb : b ≤ 1000) (hc : cnt.length ≤ 1000) (h1 : ch = 32 → Ψ .next (wsSig xa x cnt (b + 1) (n + 1) nt)) (h2 : ch = 9 → Ψ .next (wsSig xa x (bumpP cnt b) 0 (n + 1) (nt + 1)))
    (h3 : ch ≠ 32 → ch ≠ 9 → Ψ .brk (wsSig xa x cnt b n nt)) : ExS c A (envM (methN 1) (Str.ofString "Whitespace.__init__") pm code L I) ((Str.ofString "ch", .val (.str [ch])) :: wsSig xa x cnt b n nt) wsBody Ψ := by
  conv => arg 5; whnf
  have hE := hF.ok
  refine ex_cons (ex_if (x := ([ch] == [32])) (tr_cmp1 (ev_name hE rfl) (ev_name hE rfl) cmp_eqS) hF (fun h => ?_) (fun h => ?_))
  · have hch : ch = 32 := List.singleton_inj.mp (eq_of_beq h)
    exact ex_cons (ex_assign (d := .int ((n : Int) + 1)) hF (.inl rfl) (ev_add (ev_name hE rfl) ev_int) (ex_cons (ex_assign (d := .int ((b : Int) + 1)) hF (.inl rfl) (ev_add (ev_name hE rfl) ev_int) (ex_nil (exs_sub (τ := wsSig xa x cnt (b + 1) (n + 1) nt) (sub_cons rfl (sub_cons rfl (sub_cons rfl (sub_cons rfl (sub_cons rfl (sub_cons rfl (sub_cons rfl (sub_cons rfl sub_nil)))))))) (ex_nil (h1 hch)))))))
  · have hch : ch ≠ 32 := fun q => by rw [q] at h; cases h
    refine ex_cons (ex_if (x := ([ch] == [9])) (tr_cmp1 (ev_name hE rfl) (ev_name hE rfl) cmp_eqS) hF (fun h9 => ?_) (fun h9 => ?_))
    · have hc9 : ch = 9 := List.singleton_inj.mp (eq_of_beq h9)
      have h2' := h2 hc9
      subst hc9
      exact ws_tab hF B hb hc (ex_nil (ex_nil h2'))
    · have hc9 : ch ≠ 9 := fun q => by rw [q] at h9; cases h9
      exact exs_sub (τ := wsSig xa x cnt b n nt) (sub_cons rfl (sub_cons rfl (sub_cons rfl (sub_cons rfl (sub_cons rfl (sub_cons rfl (sub_cons rfl (sub_cons rfl sub_nil)))))))) (ex_cons (ex_break (h3 hch hc9)))
end
set_option maxHeartbeats 1000000 in
theorem ws_tail {c : Cx} {A : Around} {pm code : Value} {L I J C xa dx : Addr} {x : List Nat} {s₀ s7 : Shared} {G G7 : Gh} {cnt : List Int} {b n nt : Nat} {v1 : Value} {hs1 : Int} {tk1 : Tok} {sl1 : Array (Option Value)} (W : WsAt c C I J) (B : Builts c) (hF : EnvF (envM (methN 1) (Str.ofString "Whitespace.__init__") pm code L I)) (hx0 : s₀.heap.get? xa = none) (hd0 : s₀.heap.get? dx = none) (hxd : xa ≠ dx) (hcl : cnt.length ≤ 1000)
    (st7 : St c A s₀ G (Xw xa C dx (putL (Str.ofString "raw") hs1 (.str (Str.ofString "raw") tk1) v1 []) (putN (Str.ofString "raw") [] 0) sl1) (envM (methN 1) (Str.ofString "Whitespace.__init__") pm code L I) (wsSig xa x cnt b n nt) G7 s7) : wpAny (model c.prog c.w) A (execs ((bodyOf (methN 1)).drop 5) (envM (methN 1) (Str.ofString "Whitespace.__init__") pm code L I))
      (fun fl s' => fl = .next ∧ ∃ G', Grow c G s₀ G' s' ∧ Rep G' (.ref xa) (.ws C cnt (b : Nat) (nt : Nat))) (fun _ _ => False) s7 := by
  have hE := hF.ok
  have hsl := sizeLine_eq
  conv in (bodyOf (methN 1)).drop 5 => whnf
  refine wpAny_execs_cons (wp_setself W hF st7 hd0 hxd rfl (ev_name hE rfl) W.n rfl (fun _ _ _ => by show 2 ≤ _; (first | assumption | exact Int.natCast_nonneg _ | exact Nat.zero_le _ | exact Nat.le_refl _ | decide | exact Nat.le_trans (by assumption) (by decide) | lia)) (fun G8 s8 hs2 tk2 v2 sl2 st8 hG8 rv2 => ?_))
  refine wpAny_execs_cons (wp_setself W hF st8 hd0 hxd rfl (ev_name hE (d := .int nt) rfl) W.nt rfl (fun _ _ _ => by show 3 ≤ _; (first | assumption | exact Int.natCast_nonneg _ | exact Nat.zero_le _ | exact Nat.le_refl _ | decide | exact Nat.le_trans (by assumption) (by decide) | lia)) (fun G9 s9 hs3 tk3 v3 sl3 st9 hG9 rv3 => ?_))
  obtain ⟨m9, cm9, q9⟩ := st9
  obtain ⟨G9', st9', hG9'⟩ := q9.freeze' (x := Str.ofString "count") rfl
  refine wpAny_execs_cons (wp_setself (d := .tup [.tup (cnt.map .int), .int b]) W hF st9' hd0 hxd rfl (ev_tuple (evall_cons (ev_callT (evv_built hE rfl B.tuple rfl) (evall_cons (ev_name hE rfl) evall_nil) (fn_tuple (ds := cnt.map .int) (by rw [List.length_map]; (first | assumption | exact Int.natCast_nonneg _ | exact Nat.zero_le _ | exact Nat.le_refl _ | decide | exact Nat.le_trans (by assumption) (by decide) | lia)))) (evall_cons (ev_name hE rfl) evall_nil)) (by show 2 ≤ _; (first | assumption | exact Int.natCast_nonneg _ | exact Nat.zero_le _ | exact Nat.le_refl _ | decide | exact Nat.le_trans (by assumption) (by decide) | lia))) W.norm rfl (fun _ _ _ => by show 4 ≤ _; (first | assumption | exact Int.natCast_nonneg _ | exact Nat.zero_le _ | exact Nat.le_refl _ | decide | exact Nat.le_trans (by assumption) (by decide) | lia)) (fun G10 s10 hs4 tk4 v4 sl4 st10 hG10 rv4 => ?_))
  refine wpAny_execs_cons (wp_setself W hF st10 hd0 hxd rfl (ev_cmp1 (ev_callB (evv_built hE rfl B.len rfl) (evall_cons (ev_name hE rfl) evall_nil) (fn_lenL (ds := cnt.map .int) (by rw [List.length_map]; (first | assumption | exact Int.natCast_nonneg _ | exact Nat.zero_le _ | exact Nat.le_refl _ | decide | exact Nat.le_trans (by assumption) (by decide) | lia)))) ev_int cmp_leI) W.simple rfl (fun _ _ _ => by show 5 ≤ _; (first | assumption | exact Int.natCast_nonneg _ | exact Nat.zero_le _ | exact Nat.le_refl _ | decide | exact Nat.le_trans (by assumption) (by decide) | lia)) (fun G11 s11 hs5 tk5 v5 sl5 st11 hG11 rv5 => ?_))
  refine wpAny_execs_nil ⟨rfl, ?_⟩
  obtain ⟨m11, cm11, q11⟩ := st11
  have r3 : Rep G11 v3 (.int nt) := ((rv3.mono hG9').mono hG10).mono hG11
  have r4 : Rep G11 v4 (.tup [.tup (cnt.map .int), .int b]) := rv4.mono hG11
  obtain ⟨_, rfl⟩ := r3.inv
  obtain ⟨tp, vs4, n4, rfl, g4, r4⟩ := r4.inv
  · obtain ⟨_, _, rfl, ra, rb⟩ := r4.inv
    · obtain ⟨_, _, rfl, rb2, rc2⟩ := rb.inv
      obtain rfl := rc2.inv0
      obtain ⟨_, rfl⟩ := rb2.inv
      obtain ⟨tc, vs5, n5, rfl, g5, ra2⟩ := ra.inv
      exact ws_done q11 hx0 hd0 rfl rfl rfl g4 g5 (ints_of ra2)
set_option maxHeartbeats 4000000 in
theorem ws_init {c : Cx} {A : Around} {pm code : Value} {L I J C xa dx : Addr} {x : List Nat} {s₀ s2 : Shared} {G G2 : Gh} (W : WsAt c C I J) (B : Builts c) (hF : EnvF (envM (methN 1) (Str.ofString "Whitespace.__init__") pm code L I)) (hhd : A.handled = none) (hz : x.length ≤ 1000) (hx0 : s₀.heap.get? xa = none) (hd0 : s₀.heap.get? dx = none) (hxd : xa ≠ dx)
    (q1' : St c A s₀ G (Xw xa C dx [] 0 #[]) (envM (methN 1) (Str.ofString "Whitespace.__init__") pm code L I) [(Str.ofString "self", .val (.adr xa)), (Str.ofString "ws", .val (.str x))] G2 s2) : wpAny (model c.prog c.w) A (execs (bodyOf (methN 1)) (envM (methN 1) (Str.ofString "Whitespace.__init__") pm code L I))
      (fun fl s' => fl = .next ∧ ∃ G', Grow c G s₀ G' s' ∧ Rep G' (.ref xa) (wsD C x)) (fun _ _ => False) s2 := by
  have hE := hF.ok
  have hsl := sizeLine_eq
  conv in bodyOf (methN 1) => whnf
  refine wpAny_execs_cons (wp_setself W hF q1' hd0 hxd rfl (ev_name hE rfl) W.raw rfl (fun _ _ _ => by show 1 ≤ _; (first | assumption | exact Int.natCast_nonneg _ | exact Nat.zero_le _ | exact Nat.le_refl _ | decide | exact Nat.le_trans (by assumption) (by decide) | lia)) (fun G2 s3 hs1 tk1 v1 sl1 st2 hG2 rv1 => ?_))
  refine at_cons st2 (ex_pairS (a := .str [32]) (b := .str [9]) hhd hF (.inl rfl) (.inl rfl) (ev_tuple (evall_cons (ev_cls W (evv_glob hE rfl W.g) W.spc) (evall_cons (ev_cls W (evv_glob hE rfl W.g) W.tab) evall_nil)) (by show 2 ≤ _; (first | assumption | exact Int.natCast_nonneg _ | exact Nat.zero_le _ | exact Nat.le_refl _ | decide | exact Nat.le_trans (by assumption) (by decide) | lia))) ⟨rfl, rfl⟩) (fun G3 s4 st3 hG3 => ?_)
  refine at_cons st3 (ex_assignF hF (.inl rfl) (evf_list evall_nil (by show 0 ≤ _; (first | assumption | exact Int.natCast_nonneg _ | exact Nat.zero_le _ | exact Nat.le_refl _ | decide | exact Nat.le_trans (by assumption) (by decide) | lia))) ⟨rfl, rfl⟩) (fun G4 s5 st4 hG4 => ?_)
  refine at_cons st4 (ex_three (d := .int 0) hF (.inl rfl) (.inl rfl) (.inl rfl) ev_int ⟨rfl, rfl⟩) (fun G5 s6 st5 hG5 => ?_)
  have rawv : Rep G5 v1 (.str x) := (((rv1.mono hG3).mono hG4).mono hG5)
  have st6 := st_sub (τ := wsSig xa x [] 0 0 0) (by
    exact sub_cons rfl (sub_cons rfl (sub_cons rfl (sub_cons rfl (sub_cons rfl (sub_cons rfl (sub_cons rfl (sub_cons rfl sub_nil)))))))) st5
  have hv1 : handedIn v1 = true := by cases rawv; rfl
  refine wpAny_execs_cons (wpAny_mono (for_at (Φ := fun fd σ' => fd = .next ∧ σ' = wsSig xa x (wsGo x [] 0 0 0).1 (wsGo x [] 0 0 0).2.1 (wsGo x [] 0 0 0).2.2.1 (wsGo x [] 0 0 0).2.2.2 ∧ (wsGo x [] 0 0 0).1.length ≤ 1000) (bs := fun d => [(Str.ofString "ch", .val d)]) (okd := fun _ => True) hF st6 (res_raw W hF st6 rfl rfl hv1 rawv) (itd_str hhd) (bindF_name hF (.inl rfl)) (fun _ _ => trivial)
    (forGo_P (fun ds σ => ∃ r cnt b n nt, ds = (r : List Nat).map (fun k => Mine.D.str [k]) ∧ σ = wsSig xa x cnt b n nt ∧ r.length + b ≤ 1000 ∧ cnt.length ≤ 1000 ∧ wsGo r cnt b n nt = wsGo x [] 0 0 0) (fun dd ds σ hP => ?_) (fun σ hP => ?_) _ _ ⟨x, [], 0, 0, 0, rfl, rfl, by (first | assumption | exact Int.natCast_nonneg _ | exact Nat.zero_le _ | exact Nat.le_refl _ | decide | exact Nat.le_trans (by assumption) (by decide) | lia), by simp, rfl⟩)) (fun fl s7 hq => ?_) fun _ _ z => z.elim)
  · obtain ⟨r, cnt, b, n, nt, hds, rfl, hb, hc, hgo⟩ := hP
    cases r with
    | nil => cases hds
    | cons ch r =>
      rw [List.map_cons] at hds
      injection hds with e1 e2
      subst e1 e2
      rw [List.length_cons] at hb
      exact ws_turn hF B (by (first | assumption | exact Int.natCast_nonneg _ | exact Nat.zero_le _ | exact Nat.le_refl _ | decide | exact Nat.le_trans (by assumption) (by decide) | lia)) hc (fun h => ⟨r, cnt, b + 1, n + 1, nt, rfl, rfl, by (first | assumption | exact Int.natCast_nonneg _ | exact Nat.zero_le _ | exact Nat.le_refl _ | decide | exact Nat.le_trans (by assumption) (by decide) | lia), hc, by rw [← hgo, h]; rfl⟩) (fun h => ⟨r, bumpP cnt b, 0, n + 1, nt + 1, rfl, rfl, by (first | assumption | exact Int.natCast_nonneg _ | exact Nat.zero_le _ | exact Nat.le_refl _ | decide | exact Nat.le_trans (by assumption) (by decide) | lia), by rw [bumpP_len]; (first | assumption | exact Int.natCast_nonneg _ | exact Nat.zero_le _ | exact Nat.le_refl _ | decide | exact Nat.le_trans (by assumption) (by decide) | lia), by rw [← hgo, h]; rfl⟩) fun h h9 => by
        have : wsGo (ch :: r) cnt b n nt = (cnt, b, n, nt) := by
          unfold wsGo
          rw [if_neg h, if_neg h9]
        rw [this] at hgo
        rw [← hgo]
        exact ⟨rfl, rfl, hc⟩
  · obtain ⟨r, cnt, b, n, nt, hds, rfl, hb, hc, hgo⟩ := hP
    cases r with
    | cons ch r => cases hds
    | nil =>
      have : wsGo [] cnt b n nt = (cnt, b, n, nt) := rfl
      rw [this] at hgo
      rw [← hgo]
      exact ⟨rfl, rfl, hc⟩
  · obtain ⟨G7, σ7, fd, st7, hG7, hfl, rfl, rfl, hcl⟩ := hq
    cases fl <;> first
      | exact hfl.elim
      | skip
    obtain ⟨⟨cnt, b, n, nt⟩, hr⟩ : ∃ r, r = wsGo x [] 0 0 0 := ⟨_, rfl⟩
    rw [← hr] at st7 hcl
    dsimp only at st7 hcl
    refine wpAny_mono (ws_tail W B hF hx0 hd0 hxd hcl st7) (fun fl s' hq => ?_) fun _ _ z => z.elim
    obtain ⟨rfl, hq⟩ := hq
    have hw : wsD C x = .ws C cnt (b : Nat) (nt : Nat) := by unfold wsD; rw [← hr]
    rw [hw]
    exact ⟨rfl, hq⟩
set_option maxHeartbeats 4000000 in
theorem fn_ws {c : Cx} {A : Around} {C I J : Addr} {x : List Nat} (hA : AOk A 3) (D : MethAt c I (methN 1) (Str.ofString "Whitespace.__init__")) (W : WsAt c C I J) (B : Builts c) (hz : x.length ≤ 1000) :
    Fn c A (.ref C) [.str x] (wsD C x) := fun G s vs on gl r => by
  obtain ⟨_, _, rfl, r1, r2⟩ := r.inv
  · (first | obtain rfl := r2.inv0 | obtain ⟨_, rfl⟩ := r2.inv | obtain rfl := r2.inv | cases r2)
    (first | obtain rfl := r1.inv0 | obtain ⟨_, rfl⟩ := r1.inv | obtain rfl := r1.inv | cases r1)
    rename_i t0
    obtain ⟨hh, g, d, t, os⟩ := s
    refine wpAny_call (make_core (makes_of gl.inn W.makes) (looks_findIn gl.inn W.init) (fun self => bind_fn gl.inn self W.initF) (.inl rfl) ?_)
    have f1 : (A.under (.builtin "type.__call__" ⟨.ref C :: [.str (S x) t0], []⟩)).frames = A.frames := rfl
    have f2 : (A.under (.builtin "type.__call__" ⟨.ref C :: [.str (S x) t0], []⟩)).depth = A.depth + 1 := rfl
    have f3 : (A.under (.builtin "type.__call__" ⟨.ref C :: [.str (S x) t0], []⟩)).units = A.units + 1 := rfl
    have f4 : (A.under (.builtin "type.__call__" ⟨.ref C :: [.str (S x) t0], []⟩)).handled = A.handled := rfl
    generalize A.under (.builtin "type.__call__" ⟨.ref C :: [.str (S x) t0], []⟩) = A1 at f1 f2 f3 f4
    obtain ⟨o, pm, code, k1, k2, k3⟩ := D.k
    have hk : ∀ b o, hh.get? b = some o → ((hh.push emptyDict).push (instObj C hh.objs.size)).get? b = some o := fun b o e => Heap.get?_push_of_some _ (Heap.get?_push_of_some _ e)
    have hks : Keeps (⟨hh, g, d, t, os⟩ : Shared) ⟨(hh.push emptyDict).push (instObj C hh.objs.size), g, d, t, os⟩ := ⟨_, _, rfl, hk⟩
    have hsz : ((hh.push emptyDict).push (instObj C hh.objs.size)).objs.size = hh.objs.size + 2 := by rw [Heap.size_push, Heap.size_push]
    have hx0 : hh.get? (hh.objs.size + 1) = none := by
      cases q : hh.get? (hh.objs.size + 1) with
      | none => rfl
      | some o => exact absurd (Heap.lt_size q) (Nat.not_lt.mpr (Nat.le_succ _))
    have hx1 : ((hh.push emptyDict).push (instObj C hh.objs.size)).get? (hh.objs.size + 1) = some (instObj C hh.objs.size) := by
      have := Heap.get?_push_size (hh.push emptyDict) (o := instObj C hh.objs.size) rfl
      rwa [Heap.size_push] at this
    have hd1 : ((hh.push emptyDict).push (instObj C hh.objs.size)).get? hh.objs.size = some emptyDict := Heap.get?_push_of_some _ (Heap.get?_push_size _ rfl)
    have gl1 : c.Gl A1 ((hh.push emptyDict).push (instObj C hh.objs.size)) := ⟨gl.kin, gl.ktop, fun b o e => hk b o (gl.stays b o e), by
      obtain ⟨outer, e, r⟩ := gl.fr.step fun L _ q => (Kh.of hk).dict q
      exact ⟨outer, f1.trans e, r⟩⟩
    have on1 : OnG c G (⟨(hh.push emptyDict).push (instObj C hh.objs.size), g, d, t, os⟩ : Shared) := on.keeps hks (fun _ _ e => e) (fun _ _ e => .inl e)
    refine codeAny_call_cells (fd := mdOf (methN 1) (Str.ofString "Whitespace.__init__") pm code) (body := bodyOf (methN 1)) (binds := [Str.ofString "self", Str.ofString "ws"].zip [.ref (hh.objs.size + 1), .str (S x) t0]) (by have := hA.dep; rw [f2]; (first | assumption | exact Int.natCast_nonneg _ | exact Nat.zero_le _ | exact Nat.le_refl _ | decide | exact Nat.le_trans (by assumption) (by decide) | lia)) (gl1.inn _ _ k1) k2 gl1.top.nolimit (codeRec_of gl1.inn k3) rfl rfl rfl ?_ ?_ rfl rfl rfl
    · intro y hy
      simp only [List.zip_cons_cons, List.zip_nil_right, List.mem_cons, List.not_mem_nil, or_false] at hy
      rcases hy with rfl | rfl
      · exact .inl rfl
      · exact .inl rfl
    · intro s2 fr
      have hF : EnvF (envM (methN 1) (Str.ofString "Whitespace.__init__") pm code ((hh.push emptyDict).push (instObj C hh.objs.size)).objs.size I) := envM_of rfl (by decide +kernel)
      have hA' : AOk (A1.deeper (envM (methN 1) (Str.ofString "Whitespace.__init__") pm code ((hh.push emptyDict).push (instObj C hh.objs.size)).objs.size I)) 0 := ⟨f4.trans hA.hh, by have := hA.dep; show A1.depth + 1 + 0 < _; (first | assumption | exact Int.natCast_nonneg _ | exact Nat.zero_le _ | exact Nat.le_refl _ | decide | exact Nat.le_trans (by assumption) (by decide) | lia), by have := hA.un; show A1.units + 3 + 8 * 0 + 40 < _; (first | assumption | exact Int.natCast_nonneg _ | exact Nat.zero_le _ | exact Nat.le_refl _ | decide | exact Nat.le_trans (by assumption) (by decide) | lia)⟩
      have st0 := st_start (c := c) (A := A1) (env := envM (methN 1) (Str.ofString "Whitespace.__init__") pm code ((hh.push emptyDict).push (instObj C hh.objs.size)).objs.size I) (L := ((hh.push emptyDict).push (instObj C hh.objs.size)).objs.size) (names := [Str.ofString "self", Str.ofString "ws"]) (ds := [.adr (hh.objs.size + 1), .str x]) on1 gl1 (.cons (.adr _) (.one (.str _ _))) rfl (by decide) (Nat.le_refl _) hF.hu fr (fun y hy => by
        simp only [List.mem_cons, List.not_mem_nil, or_false] at hy
        rcases hy with rfl | rfl
        · exact .inl rfl
        · exact .inl rfl) rfl (by show ScopeKind.function ≠ _; decide) (fun n a hm => own_of (names := (scopeOf (methN 1)).names) (k := ((hh.push emptyDict).push (instObj C hh.objs.size)).objs.size + 1) (by decide +kernel) n a hm)
      obtain ⟨m, cm, q0⟩ := st0
      have q1 := q0.rebase (X := Xw (hh.objs.size + 1) C hh.objs.size [] 0 #[]) hks gl.stays (by rw [hsz]; show hh.objs.size ≤ _; (first | assumption | exact Int.natCast_nonneg _ | exact Nat.zero_le _ | exact Nat.le_refl _ | decide | exact Nat.le_trans (by assumption) (by decide) | lia)) (fun a o e => ?_) on (fun y sl e => ?_) (fun n a hm hq => absurd (own_of (names := (scopeOf (methN 1)).names) (k := ((hh.push emptyDict).push (instObj C hh.objs.size)).objs.size + 1) (by decide +kernel) n a hm) hq) (fun q hq a ha => on.tabSome hq ha)
      · generalize hL : ((hh.push emptyDict).push (instObj C hh.objs.size)).objs.size = L at *
        have q1' : St c _ _ _ _ _ _ _ s2 := ⟨m, cm, q1⟩
        clear q0 q1 fr
        refine wpAny_mono (ws_init (x := x) W B hF hA'.hh hz hx0 (heap_size_none _) (Nat.succ_ne_self _) q1') (fun fl s' hq => ?_) fun _ _ z => z.elim
        obtain ⟨rfl, hq⟩ := hq
        exact ⟨rfl, hq⟩
      · rcases e with (e | ⟨rfl, rfl⟩) | ⟨rfl, rfl⟩
        · exact e.elim
        · exact ⟨hx1, hx0⟩
        · exact ⟨hd1, heap_size_none _⟩
      · have hm := mem_of_lookup e
        simp only [List.zip_cons_cons, List.zip_nil_right, List.map_cons, List.map_nil, List.mem_cons, List.not_mem_nil, or_false] at hm
        rcases hm with hm | hm <;> (cases hm; exact ⟨_, rfl⟩)
end Mine
end


/-! part F13 -/
section
open PySem PySem.W PyProof.Rows PySem.Calls PySem.Spec
set_option Elab.async false
set_option linter.unusedVariables false
set_option maxRecDepth 100000
namespace Mine
theorem bumpP_mem {count : List Int} {b : Nat} {k : Int} (hk : 0 ≤ k) (h : ∀ i ∈ count, 0 ≤ i ∧ i ≤ k) : ∀ i ∈ bumpP count b, 0 ≤ i ∧ i ≤ k + 1 := by
  intro i hi
  unfold bumpP at hi
  dsimp only at hi
  have hbase : ∀ i ∈ (if count.length ≤ b then count ++ List.replicate (b - count.length + 1) 0 else count), 0 ≤ i ∧ i ≤ k := by
    intro i hi
    split at hi
    · rcases List.mem_append.mp hi with hi | hi
      · exact h i hi
      · rw [(List.mem_replicate.mp hi).2]; (first | assumption | exact Int.natCast_nonneg _ | exact Nat.zero_le _ | exact Nat.le_refl _ | decide | exact Nat.le_trans (by assumption) (by decide) | lia)
    · exact h i hi
  generalize (if count.length ≤ b then count ++ List.replicate (b - count.length + 1) 0 else count) = l at hi hbase
  rcases List.mem_or_eq_of_mem_set hi with hi | hi
  · have := hbase i hi; (first | assumption | exact Int.natCast_nonneg _ | exact Nat.zero_le _ | exact Nat.le_refl _ | decide | exact Nat.le_trans (by assumption) (by decide) | lia)
  · subst hi
    by_cases q : b < l.length
    · have := hbase _ (List.mem_of_getElem? (getD_get (d := 0) q)); (first | assumption | exact Int.natCast_nonneg _ | exact Nat.zero_le _ | exact Nat.le_refl _ | decide | exact Nat.le_trans (by assumption) (by decide) | lia)
    · rw [List.getD_eq_getElem?_getD, List.getElem?_eq_none (by (first | assumption | exact Int.natCast_nonneg _ | exact Nat.zero_le _ | exact Nat.le_refl _ | decide | exact Nat.le_trans (by assumption) (by decide) | lia))]
      show 0 ≤ (0 : Int) + 1 ∧ (0 : Int) + 1 ≤ k + 1
      (first | assumption | exact Int.natCast_nonneg _ | exact Nat.zero_le _ | exact Nat.le_refl _ | decide | exact Nat.le_trans (by assumption) (by decide) | lia)
theorem wsGo_ok : ∀ (r : List Nat) (cnt : List Int) (b n nt k : Nat), r.length + b ≤ 1000 → r.length + k ≤ 1000 → cnt.length ≤ 1000 → (∀ i ∈ cnt, 0 ≤ i ∧ i ≤ (k : Int)) → (wsGo r cnt b n nt).1.length ≤ 1000 ∧ ∀ i ∈ (wsGo r cnt b n nt).1, 0 ≤ i ∧ i ≤ 1000
  | [], cnt, b, n, nt, k, h1, h2, h3, h4 => ⟨h3, fun i hi => by have := h4 i hi; simp at h2; (first | assumption | exact Int.natCast_nonneg _ | exact Nat.zero_le _ | exact Nat.le_refl _ | decide | exact Nat.le_trans (by assumption) (by decide) | lia)⟩
  | ch :: r, cnt, b, n, nt, k, h1, h2, h3, h4 => by
    rw [List.length_cons] at h1 h2
    unfold wsGo
    split
    · exact wsGo_ok r cnt (b + 1) (n + 1) nt k (by (first | assumption | exact Int.natCast_nonneg _ | exact Nat.zero_le _ | exact Nat.le_refl _ | decide | exact Nat.le_trans (by assumption) (by decide) | lia)) (by (first | assumption | exact Int.natCast_nonneg _ | exact Nat.zero_le _ | exact Nat.le_refl _ | decide | exact Nat.le_trans (by assumption) (by decide) | lia)) h3 h4
    · split
      · refine wsGo_ok r (bumpP cnt b) 0 (n + 1) (nt + 1) (k + 1) (by (first | assumption | exact Int.natCast_nonneg _ | exact Nat.zero_le _ | exact Nat.le_refl _ | decide | exact Nat.le_trans (by assumption) (by decide) | lia)) (by (first | assumption | exact Int.natCast_nonneg _ | exact Nat.zero_le _ | exact Nat.le_refl _ | decide | exact Nat.le_trans (by assumption) (by decide) | lia)) (by rw [bumpP_len]; (first | assumption | exact Int.natCast_nonneg _ | exact Nat.zero_le _ | exact Nat.le_refl _ | decide | exact Nat.le_trans (by assumption) (by decide) | lia)) fun i hi => ?_
        have := bumpP_mem (k := (k : Int)) (by (first | assumption | exact Int.natCast_nonneg _ | exact Nat.zero_le _ | exact Nat.le_refl _ | decide | exact Nat.le_trans (by assumption) (by decide) | lia)) h4 i hi
        (first | assumption | exact Int.natCast_nonneg _ | exact Nat.zero_le _ | exact Nat.le_refl _ | decide | exact Nat.le_trans (by assumption) (by decide) | lia)
      · exact ⟨h3, fun i hi => by have := h4 i hi; (first | assumption | exact Int.natCast_nonneg _ | exact Nat.zero_le _ | exact Nat.le_refl _ | decide | exact Nat.le_trans (by assumption) (by decide) | lia)⟩
section
variable {c : Cx} {A : Around} {env : Env} {σ : Sig}
/-- Whitespace(..) -/
theorem ev_new {C I J : Addr} {f e : Expr} {pos : Pos} {x : List Nat} (hA : AOk A 3) (D : MethAt c I (methN 1) (Str.ofString "Whitespace.__init__")) (W : WsAt c C I J) (B : Builts c) (hz : x.length ≤ 1000) (hf : EvV c A env σ f (.ref C)) (he : Ev c A env σ e (.str x))
    (hc : eval (.Call f [e] [] pos) env = (do callWith pos (← eval f env) [] (backTo pos (starEach [e] env)) (backToKw pos (keywordEach [] env))) := by rfl)
    (hs : starEach [e] env = (false, eval e env) :: starEach [] env := by rfl) : Ev c A env σ (.Call f [e] [] pos) (wsD C x) := fun G s ok => by
  refine Call_ (hf G s _ _ ok (callWith_K (first := []) ok.gl.inn W.keep ((evall_cons he evall_nil hs).use ok fun vs G1 s1 g1 r1 => ⟨(ok.grow g1).gl.inn, (fn_ws hA D W B hz G1 s1 vs g1.on (ok.grow g1).gl r1).use fun v G2 s2 g2 r2 => ⟨G2, g1.trans g2, r2⟩⟩) hs rfl)) hc
end
/-- a lead's column at a tab size, the blanks off -/
noncomputable def colP (x : List Nat) (blanks tab : Nat) : Int := levelP (wsGo x [] 0 0 0).1 ((wsGo x [] 0 0 0).2.1 : Nat) ((wsGo x [] 0 0 0).2.2.2 : Nat) tab - blanks
noncomputable def nannyRow (x : List Nat) (size copies blanks : Nat) : List Int :=
  rowP ((((List.range size).map fun k => (colP x blanks (k + 2), (((k + 2) * copies : Nat) : Int))).filter fun p => p.1.fmod p.2 == 0).map fun p => p.1.fdiv p.2 - 1) size
noncomputable def nannyP (leads : List (List Nat)) (copies blanks : Nat) : List (List Int) := (List.range leads.length).map fun n => nannyRow (leads.getD n []) n copies blanks
theorem map_tup (l : List (Int × Int)) (p : D → Bool) (q : Int × Int → Bool) (f : D → D) (g : Int × Int → Int) (h : ∀ a, p (.tup [.int a.1, .int a.2]) = q a) (hf : ∀ a, f (.tup [.int a.1, .int a.2]) = .int (g a)) :
    ((l.map fun a => D.tup [.int a.1, .int a.2]).filter p).map f = ((l.filter q).map g).map D.int := by
  induction l with
  | nil => rfl
  | cons a l ih =>
    rw [List.map_cons, List.filter_cons, List.filter_cons, h]
    cases q a
    · exact ih
    · show f _ :: _ = D.int (g a) :: _
      rw [hf]
      exact congrArg _ ih
def fstI : D → Int
  | .tup [.int a, _] => a
  | _ => 0
def sndI : D → Int
  | .tup [_, .int b] => b
  | _ => 0
theorem rng2_get {n : Nat} {d : D} (h : d ∈ rngD 2 ((n : Int) + 2)) : ∃ k, k < n ∧ d = .int ((k + 2 : Nat) : Int) := by
  unfold rngD at h
  obtain ⟨k, hk, rfl⟩ := List.mem_map.mp h
  have := List.mem_range.mp hk
  refine ⟨k, by (first | assumption | exact Int.natCast_nonneg _ | exact Nat.zero_le _ | exact Nat.le_refl _ | decide | exact Nat.le_trans (by assumption) (by decide) | lia), ?_⟩
  congr 1
  (first | assumption | exact Int.natCast_nonneg _ | exact Nat.zero_le _ | exact Nat.le_refl _ | decide | exact Nat.le_trans (by assumption) (by decide) | lia)
theorem rng2_map {n : Nat} (f : D → D) : ((rngD 2 ((n : Int) + 2)).filter fun _ => true).map f = (List.range n).map fun k => f (.int ((k + 2 : Nat) : Int)) := by
  unfold rngD
  rw [List.filter_true_all, List.map_map, show ((n : Int) + 2 - 2).toNat = n by (first | assumption | exact Int.natCast_nonneg _ | exact Nat.zero_le _ | exact Nat.le_refl _ | decide | exact Nat.le_trans (by assumption) (by decide) | lia)]
  refine List.map_congr_left fun k hk => ?_
  show f (.int (2 + (k : Int))) = _
  congr 2
  (first | assumption | exact Int.natCast_nonneg _ | exact Nat.zero_le _ | exact Nat.le_refl _ | decide | exact Nat.le_trans (by assumption) (by decide) | lia)
set_option maxHeartbeats 4000000 in
theorem fn_nanny {c : Cx} {A : Around} {a C I J : Addr} {leads : List (List Nat)} {copies blanks : Nat} (hA : AOk A 5) (D : DefAt c a (stmtN 15)) (DI : MethAt c I (methN 1) (Str.ofString "Whitespace.__init__")) (DJ : MethAt c J (methN 3) (Str.ofString "Whitespace.indent_level")) (W : WsAt c C I J) (B : Builts c)
    (hz : leads.length ≤ 30) (hx : ∀ x ∈ leads, x.length ≤ 1000) (h1 : 1 ≤ copies) (h2 : copies ≤ 100) (h3 : blanks ≤ 100) :
    Fn c A (.ref a) [.lst (leads.map .str), .int copies, .int blanks] (.lst (movesD (nannyP leads copies blanks))) := by
  refine fn_at (names := [Str.ofString "leads", Str.ofString "copies", Str.ofString "blanks"]) hA D rfl (by decide +kernel) (fun pm code vs h => ?_) rfl (by decide) (fun pm code L y hy => ?_) (fun pm code L hF hA' => ?_) rfl rfl
  · (obtain ⟨v1, v2, v3, rfl⟩ := len3 h; rfl)
  · simp only [List.mem_cons, List.not_mem_nil, or_false] at hy
    rcases hy with rfl | rfl | rfl
    · exact .inl rfl
    · exact .inr ⟨rfl, _, rfl⟩
    · exact .inr ⟨rfl, _, rfl⟩
  · conv => arg 5; whnf
    have hE := hF.ok
    have hh := hA'.hh
    have hsl := sizeLine_eq
    obtain ⟨oJ, pmJ, codeJ, kj1, kj2, kj3⟩ := DJ.k
    refine ex_cons (ex_assignF hF (.inl rfl) (evf_list evall_nil (by simp)) (ex_cons (ex_for (xd := .rng 0 (leads.length : Int)) (bs := fun d => [(Str.ofString "size", .val d)]) (okd := fun _ => True) hF ((ev_callT (evv_built hE rfl B.range rfl) (evall_cons (ev_callB (evv_built hE rfl B.len rfl) (evall_cons (ev_name hE rfl) evall_nil) (fn_lenL (ds := leads.map .str) (by rw [List.length_map]; (first | assumption | exact Int.natCast_nonneg _ | exact Nat.zero_le _ | exact Nat.le_refl _ | decide | exact Nat.le_trans (by assumption) (by decide) | lia)))) evall_nil) fn_range1).cast (by rw [List.length_map])) (itd_rng hh (by decide) (by (first | assumption | exact Int.natCast_nonneg _ | exact Nat.zero_le _ | exact Nat.le_refl _ | decide | exact Nat.le_trans (by assumption) (by decide) | lia))) (bindF_name hF (.inr ⟨rfl, _, rfl⟩)) (fun _ _ => trivial)
      (forGo_inv (fun i σ => σ = [(Str.ofString "rows", .own ((List.range i).map fun n => .lst ((nannyRow (leads.getD n []) n copies blanks).map .int))), (Str.ofString "leads", .val (.lst (leads.map .str))), (Str.ofString "copies", .val (.int copies)), (Str.ofString "blanks", .val (.int blanks))]) _ 0 _ rfl (fun i d σ hd hi => ?_) (fun σ hi => ?_)))))
    · subst hi
      rw [Nat.zero_add]
      obtain ⟨hi, rfl⟩ := rng_get hd
      have hg := getD_get (l := leads) (i := i) (d := []) hi
      have hii : (i : Int).toNat = i := Int.toNat_natCast i
      have hxl := hx _ (List.mem_of_getElem? hg)
      generalize hxd : leads.getD i [] = x at hg hxl
      obtain ⟨hw1, hw2⟩ := wsGo_ok x [] 0 0 0 0 (by (first | assumption | exact Int.natCast_nonneg _ | exact Nat.zero_le _ | exact Nat.le_refl _ | decide | exact Nat.le_trans (by assumption) (by decide) | lia)) (by (first | assumption | exact Int.natCast_nonneg _ | exact Nat.zero_le _ | exact Nat.le_refl _ | decide | exact Nat.le_trans (by assumption) (by decide) | lia)) (by simp) (fun i hi => nomatch hi)
      refine ex_cons (ex_assign (d := wsD C x) hF (.inr ⟨rfl, _, rfl⟩) (ev_new (hA'.le (by lia)) DI W B hxl (evv_glob hE rfl W.g) (ev_item (evl_of (ev_name hE (d := .lst (leads.map .str)) rfl)) (ev_name hE rfl) (by lia) (by lia) (by rw [hii, List.getElem?_map, hg]; rfl))) ?_)
      obtain ⟨cols, hcols⟩ : ∃ l, l = (List.range i).map fun k => (colP x blanks (k + 2), (((k + 2) * copies : Nat) : Int)) := ⟨_, rfl⟩
      refine ex_cons (ex_assignC (bs := fun d => [(Str.ofString "tab", .val d)]) (okd := fun _ => True) (xd := .rng 2 ((i : Int) + 2)) (ds := rngD 2 ((i : Int) + 2)) (σc := [(Str.ofString "lead", .val (wsD C x)), (Str.ofString "copies", .val (.int copies)), (Str.ofString "blanks", .val (.int blanks))]) (fun _ => true) (fun d => .tup [.int (colP x blanks (intOf d).toNat), .int (((intOf d).toNat * copies : Nat) : Int)]) hF rfl
        (ev_callT (evv_built hE rfl B.range rfl) (evall_cons ev_int (evall_cons (ev_add (ev_name hE rfl) ev_int) evall_nil)) fn_range2) (itd_rng hh (by decide) (by (first | assumption | exact Int.natCast_nonneg _ | exact Nat.zero_le _ | exact Nat.le_refl _ | decide | exact Nat.le_trans (by assumption) (by decide) | lia))) rfl
        (fun G h C sc => sc_cons (cap_rd (sc _ _ rfl) (.inl rfl) rfl rfl) (sc_cons (cap_rd (sc _ _ rfl) (.inl rfl) rfl rfl) (sc_cons (cap_rd (sc _ _ rfl) (.inl rfl) rfl rfl) sc_nil))) (bnd_name hE rfl rfl) (by unfold rngD; simp; (first | assumption | exact Int.natCast_nonneg _ | exact Nat.zero_le _ | exact Nat.le_refl _ | decide | exact Nat.le_trans (by assumption) (by decide) | lia)) (fun _ _ => trivial) (fun C d hd => tests_nil) (fun C' d hd' _ => ?_) ?_)
      · obtain ⟨k, hk, rfl⟩ := rng2_get hd'
        rw [show (intOf (.int ((k + 2 : Nat) : Int))).toNat = k + 2 from Int.toNat_natCast _]
        refine ev_tuple (evall_cons (ev_sub (ev_level W kj1 kj2 (ev_name (cE_ok hE rfl) (d := wsD C x) rfl) (ev_name (cE_ok hE rfl) (d := .int ((k + 2 : Nat) : Int)) rfl) (fn_level (hA'.le (by (first | assumption | exact Int.natCast_nonneg _ | exact Nat.zero_le _ | exact Nat.le_refl _ | decide | exact Nat.le_trans (by assumption) (by decide) | lia))) DJ W B hw1 (fun n hn => by have := hw2 n hn; (first | assumption | exact Int.natCast_nonneg _ | exact Nat.zero_le _ | exact Nat.le_refl _ | decide | exact Nat.le_trans (by assumption) (by decide) | lia)) (by (first | assumption | exact Int.natCast_nonneg _ | exact Nat.zero_le _ | exact Nat.le_refl _ | decide | exact Nat.le_trans (by assumption) (by decide) | lia)) (by (first | assumption | exact Int.natCast_nonneg _ | exact Nat.zero_le _ | exact Nat.le_refl _ | decide | exact Nat.le_trans (by assumption) (by decide) | lia)))) (ev_name (cE_ok hE rfl) (d := .int blanks) rfl)) (evall_cons ((ev_mul (ev_name (cE_ok hE rfl) (d := .int ((k + 2 : Nat) : Int)) rfl) (ev_name (cE_ok hE rfl) (d := .int copies) rfl) (mulOk_left (by (first | assumption | exact Int.natCast_nonneg _ | exact Nat.zero_le _ | exact Nat.le_refl _ | decide | exact Nat.le_trans (by assumption) (by decide) | lia)))).cast ?_) evall_nil)) (by show 2 ≤ _; (first | assumption | exact Int.natCast_nonneg _ | exact Nat.zero_le _ | exact Nat.le_refl _ | decide | exact Nat.le_trans (by assumption) (by decide) | lia))
        rw [Int.natCast_mul]
      · have hc1 : ((rngD 2 ((i : Int) + 2)).filter fun _ => true).map (fun d => Mine.D.tup [.int (colP x blanks (intOf d).toNat), .int (((intOf d).toNat * copies : Nat) : Int)]) = cols.map fun a => Mine.D.tup [.int a.1, .int a.2] := by
          rw [rng2_map, hcols, List.map_map]
          refine List.map_congr_left fun k hk => ?_
          rw [show (intOf (.int ((k + 2 : Nat) : Int))).toNat = k + 2 from Int.toNat_natCast _]
          rfl
        rw [hc1]
        have hpos : ∀ a ∈ cols, 0 < a.2 ∧ a.2 ≤ 10000 := by
          intro a ha
          rw [hcols] at ha
          obtain ⟨k, hk, rfl⟩ := List.mem_map.mp ha
          have hk' := List.mem_range.mp hk
          have h5 : (k + 2) * copies ≤ 32 * 100 := Nat.mul_le_mul (by (first | assumption | exact Int.natCast_nonneg _ | exact Nat.zero_le _ | exact Nat.le_refl _ | decide | exact Nat.le_trans (by assumption) (by decide) | lia)) h2
          have h6 : 1 ≤ (k + 2) * copies := Nat.mul_pos (by (first | assumption | exact Int.natCast_nonneg _ | exact Nat.zero_le _ | exact Nat.le_refl _ | decide | exact Nat.le_trans (by assumption) (by decide) | lia)) h1
          show 0 < (((k + 2) * copies : Nat) : Int) ∧ (((k + 2) * copies : Nat) : Int) ≤ 10000
          (first | assumption | exact Int.natCast_nonneg _ | exact Nat.zero_le _ | exact Nat.le_refl _ | decide | exact Nat.le_trans (by assumption) (by decide) | lia)
        have hcl : cols.length = i := by rw [hcols]; simp
        refine ex_cons (ex_assignC (bs := bs2 (Str.ofString "column") (Str.ofString "step")) (okd := Tup2) (xd := .lst (cols.map fun a => Mine.D.tup [.int a.1, .int a.2])) (ds := cols.map fun a => Mine.D.tup [.int a.1, .int a.2]) (σc := []) (fun d => (fstI d).fmod (sndI d) == 0) (fun d => .int ((fstI d).fdiv (sndI d) - 1)) hF rfl
          (ev_name hE rfl) (itd_lst hh) rfl (fun G h C sc => sc_nil) (bnd_tup hh hE rfl rfl rfl (by decide)) (by rw [List.length_map]; (first | assumption | exact Int.natCast_nonneg _ | exact Nat.zero_le _ | exact Nat.le_refl _ | decide | exact Nat.le_trans (by assumption) (by decide) | lia)) (fun d hd => ?_) (fun C d hd' => ?_) (fun C d hd' _ => ?_) ?_)
        · obtain ⟨a, ha, rfl⟩ := List.mem_map.mp hd
          exact ⟨_, _, rfl⟩
        · obtain ⟨a, ha, rfl⟩ := List.mem_map.mp hd'
          have := hpos a ha
          exact tests_one (tr_cmp1 (ev_mod (y := a.2) (ev_name (cE_ok hE rfl) (d := .int a.1) rfl) (ev_name (cE_ok hE rfl) (d := .int a.2) rfl) (by (first | assumption | exact Int.natCast_nonneg _ | exact Nat.zero_le _ | exact Nat.le_refl _ | decide | exact Nat.le_trans (by assumption) (by decide) | lia))) ev_int cmp_eqI)
        · obtain ⟨a, ha, rfl⟩ := List.mem_map.mp hd'
          have := hpos a ha
          exact ev_sub (ev_fdiv (y := a.2) (ev_name (cE_ok hE rfl) (d := .int a.1) rfl) (ev_name (cE_ok hE rfl) (d := .int a.2) rfl) (by (first | assumption | exact Int.natCast_nonneg _ | exact Nat.zero_le _ | exact Nat.le_refl _ | decide | exact Nat.le_trans (by assumption) (by decide) | lia)) (by (first | assumption | exact Int.natCast_nonneg _ | exact Nat.zero_le _ | exact Nat.le_refl _ | decide | exact Nat.le_trans (by assumption) (by decide) | lia))) ev_int
        · rw [map_tup cols _ (fun p => p.1.fmod p.2 == 0) _ (fun p => p.1.fdiv p.2 - 1) (fun _ => rfl) (fun _ => rfl)]
          obtain ⟨mv, hmv⟩ : ∃ l, l = (cols.filter fun p => p.1.fmod p.2 == 0).map fun p => p.1.fdiv p.2 - 1 := ⟨_, rfl⟩
          have hml : mv.length ≤ i := by
            rw [hmv, List.length_map, ← hcl]
            exact List.length_filter_le _ _
          have hrow : nannyRow (leads.getD i []) i copies blanks = rowP mv i := by
            unfold nannyRow
            rw [hxd, hmv, hcols]
          rw [← hmv]
          refine ex_cons (ex_append (ds := (List.range i).map fun n => .lst ((nannyRow (leads.getD n []) n copies blanks).map .int)) (d := .lst ((nannyRow (leads.getD i []) i copies blanks).map .int)) hF rfl ((ev_of_fresh (ev_comp (bs := fun d => [(Str.ofString "left", .val d)]) (okd := fun _ => True) (σc := [(Str.ofString "size", .val (.int i))]) (ds := mv.map .int) (fun d => decide (0 ≤ intOf d) && decide (intOf d < (i : Int))) (fun d => d)
            (ev_name hE rfl) (itd_lst hh) rfl (fun G h C sc => sc_cons (cap_rd (sc _ _ rfl) (.inl rfl) rfl rfl) sc_nil) (bnd_name hE rfl rfl) (by rw [List.length_map]; (first | assumption | exact Int.natCast_nonneg _ | exact Nat.zero_le _ | exact Nat.le_refl _ | decide | exact Nat.le_trans (by assumption) (by decide) | lia)) (fun _ _ => trivial) (fun C d hd' => ?_) (fun C d hd' _ => ev_name (cE_ok hE rfl) rfl))).cast ?_) ?_
            (exs_sub (τ := [(Str.ofString "rows", .own ((List.range (i + 1)).map fun n => .lst ((nannyRow (leads.getD n []) n copies blanks).map .int))), (Str.ofString "leads", .val (.lst (leads.map .str))), (Str.ofString "copies", .val (.int copies)), (Str.ofString "blanks", .val (.int blanks))]) ?_ (ex_nil rfl)))
          · obtain ⟨j, hj, rfl⟩ := mem_ints hd'
            exact tests_one (tr_chain ev_int (ev_name (cE_ok hE rfl) (d := .int j) rfl) (ev_name (cE_ok hE rfl) (d := .int i) rfl) cmp_leI cmp_ltI)
          · rw [row_filter, hrow]
          · simp; (first | assumption | exact Int.natCast_nonneg _ | exact Nat.zero_le _ | exact Nat.le_refl _ | decide | exact Nat.le_trans (by assumption) (by decide) | lia)
          · intro p hp
            simp only [List.mem_cons, List.not_mem_nil, or_false] at hp
            rcases hp with rfl | rfl | rfl | rfl
            · rw [range_snoc]; rfl
            all_goals rfl
    · subst hi
      refine exs_freeze (x := Str.ofString "rows") rfl (ex_cons (ex_return hF (ev_name hE rfl) ?_))
      rw [rng_len, Nat.zero_add]
      unfold nannyP movesD
      rw [List.map_map]; rfl
end Mine
end


/-! part F14 -/
section
open PySem PySem.W PyProof.Rows PySem.Calls PySem.Spec
set_option Elab.async false
set_option linter.unusedVariables false
set_option maxRecDepth 100000
namespace Mine
theorem toldP_len : ∀ (k : Nat) (l : List Nat), l.length ≤ k → (toldP l).length ≤ l.length
  | 0, [], _ => by unfold toldP; simp
  | 0, _ :: _, h => by simp at h
  | k + 1, [], _ => by unfold toldP; simp
  | k + 1, [c], h => by unfold toldP; split <;> simp
  | k + 1, c :: d :: r, h => by
    have h1 := toldP_len k (d :: r) (by simpa using h)
    have h2 := toldP_len k r (by simp at h; (first | assumption | exact Int.natCast_nonneg _ | exact Nat.zero_le _ | exact Nat.le_refl _ | decide | exact Nat.le_trans (by assumption) (by decide) | lia))
    unfold toldP
    simp only [List.length_cons] at *
    repeat' split
    all_goals (try simp only [List.length_cons, List.length_nil])
    all_goals (first | assumption | exact Int.natCast_nonneg _ | exact Nat.zero_le _ | exact Nat.le_refl _ | decide | exact Nat.le_trans (by assumption) (by decide) | lia)
theorem parseP_len (x : List Nat) : (parseP x).length ≤ x.length - 5 := by
  unfold parseP
  split
  · have := toldP_len _ (x.drop 5) (Nat.le_refl _)
    simpa using this
  · simp
def replyQ (size : Nat) (e : List Nat) : List Nat := [50, 53, 55, 32, 34] ++ qs size ++ e
noncomputable def readGo : Nat → Nat → List Nat → List Int
  | 0, _, _ => []
  | k + 1, size, e => if 0 < size then
      ((([qs ((parseP (replyQ size e)).count 34) ++ e, qs ((parseP (replyQ size e)).count 34), parseP (replyQ size e)].idxOf (parseP (replyQ size e)) : Nat)) : Int) :: readGo k ((parseP (replyQ size e)).count 34) e
    else readGo k size e
set_option maxHeartbeats 2000000 in
theorem fn_readings {c : Cx} {A : Around} {a p : Addr} {size : Nat} {e : List Nat} (hA : AOk A 3) (D : DefAt c a (stmtN 18)) (P : DefAt c p (stmtN 4)) (B : Builts c) (hz : size ≤ 100) (he : e.length ≤ 10) : Fn c A (.ref a) [.int size, .str e] (.lst ((readGo 8 size e).map .int)) := by
  refine fn_at (names := [Str.ofString "size", Str.ofString "end"]) hA D rfl (by decide +kernel) (fun pm code vs h => ?_) rfl (by decide) (fun pm code L y hy => ?_) (fun pm code L hF hA' => ?_) rfl rfl
  · (obtain ⟨v1, v2, rfl⟩ := len2 h; rfl)
  · simp only [List.mem_cons, List.not_mem_nil, or_false] at hy
    rcases hy with rfl | rfl
    · exact .inl rfl
    · exact .inl rfl
  · conv => arg 5; whnf
    have hE := hF.ok
    have hh := hA'.hh
    have hsl := sizeLine_eq
    obtain ⟨o, pm', code', k1, k2, k3⟩ := P.k
    refine ex_cons (ex_assignF hF (.inl rfl) (evf_list evall_nil (by simp)) (ex_cons (ex_for (xd := .rng 0 ((8 : Nat) : Int)) (bs := fun d => [(Str.ofString "turn", .val d)]) (okd := fun _ => True) hF (ev_callT (evv_built hE rfl B.range rfl) (evall_cons ev_int evall_nil) fn_range1) (itd_rng hh (by decide) (by decide)) (bindF_name hF (.inl rfl)) (fun _ _ => trivial)
      (forGo_inv (fun i σ => ∃ (sz : Nat) (en : List Int), σ = [(Str.ofString "ends", .own (en.map .int)), (Str.ofString "size", .val (.int sz)), (Str.ofString "end", .val (.str e))] ∧ sz ≤ 100 + 10 * i ∧ en.length ≤ i ∧ i ≤ 8 ∧ en ++ readGo (8 - i) sz e = readGo 8 size e) _ 0 _ ⟨size, [], rfl, by (first | assumption | exact Int.natCast_nonneg _ | exact Nat.zero_le _ | exact Nat.le_refl _ | decide | exact Nat.le_trans (by assumption) (by decide) | lia), by simp, by (first | assumption | exact Int.natCast_nonneg _ | exact Nat.zero_le _ | exact Nat.le_refl _ | decide | exact Nat.le_trans (by assumption) (by decide) | lia), rfl⟩ (fun i d σ hd hi => ?_) (fun σ hi => ?_)))))
    · obtain ⟨sz, en, rfl, hs, hl, hi8, hgo⟩ := hi
      obtain ⟨hi, rfl⟩ := rng_get hd
      rw [Nat.zero_add] at hs hl hgo hi8 ⊢
      refine ex_cons (ex_if (x := decide ((0 : Int) < sz)) (tr_cmp1 (ev_name hE rfl) ev_int cmp_gtI) hF (fun h => ?_) (fun h => ?_))
      · have hp : 0 < sz := by have := of_decide_eq_true h; (first | assumption | exact Int.natCast_nonneg _ | exact Nat.zero_le _ | exact Nat.le_refl _ | decide | exact Nat.le_trans (by assumption) (by decide) | lia)
        obtain ⟨nm, hnm⟩ : ∃ nm, nm = parseP (replyQ sz e) := ⟨_, rfl⟩
        have hnl : nm.length ≤ sz + 10 := by
          rw [hnm]
          have h5 := parseP_len (replyQ sz e)
          have h6 : (replyQ sz e).length = 5 + sz + e.length := by
            unfold replyQ
            simp only [List.length_append, List.length_replicate, List.length_cons, List.length_nil]
          (first | assumption | exact Int.natCast_nonneg _ | exact Nat.zero_le _ | exact Nat.le_refl _ | decide | exact Nat.le_trans (by assumption) (by decide) | lia)
        have hcl : nm.count 34 ≤ nm.length := List.count_le_length
        refine ex_cons (ex_assign (d := .str nm) hF (.inl rfl) ((ev_callF (evv_glob hE rfl P.g) k1 k2 (evall_cons (ev_addS (ev_addS (ev_str (l := [50, 53, 55, 32, 34])) ((ev_mulS (ev_str (l := [34])) (ev_name hE (d := .int sz) rfl) (by (first | assumption | exact Int.natCast_nonneg _ | exact Nat.zero_le _ | exact Nat.le_refl _ | decide | exact Nat.le_trans (by assumption) (by decide) | lia)) (by (first | assumption | exact Int.natCast_nonneg _ | exact Nat.zero_le _ | exact Nat.le_refl _ | decide | exact Nat.le_trans (by assumption) (by decide) | lia)) (by decide)).cast (d' := .str (qs sz)) ?_) ?_) (ev_name hE (d := .str e) rfl) ?_) evall_nil) (fn_parse (hA'.le (by (first | assumption | exact Int.natCast_nonneg _ | exact Nat.zero_le _ | exact Nat.le_refl _ | decide | exact Nat.le_trans (by assumption) (by decide) | lia))) P B ?_ rfl)).cast (by rw [hnm]; rfl))
          (ex_cons (ex_assign (d := .int (nm.count 34)) hF (.inl rfl) (ev_count (ev_name hE rfl) (ev_str (l := [34])))
          (ex_cons (ex_append (ds := en.map .int) (d := .int (([qs (nm.count 34) ++ e, qs (nm.count 34), nm].idxOf nm : Nat) : Int)) hF rfl (ev_meth1 (ev_list (ds := [qs (nm.count 34) ++ e, qs (nm.count 34), nm].map .str) (evall_cons (ev_addS ((ev_mulS (ev_str (l := [34])) (ev_name hE (d := .int (nm.count 34)) rfl) (by (first | assumption | exact Int.natCast_nonneg _ | exact Nat.zero_le _ | exact Nat.le_refl _ | decide | exact Nat.le_trans (by assumption) (by decide) | lia)) (by (first | assumption | exact Int.natCast_nonneg _ | exact Nat.zero_le _ | exact Nat.le_refl _ | decide | exact Nat.le_trans (by assumption) (by decide) | lia)) (by decide)).cast (d' := .str (qs (nm.count 34))) ?_) (ev_name hE (d := .str e) rfl) ?_) (evall_cons ((ev_mulS (ev_str (l := [34])) (ev_name hE (d := .int (nm.count 34)) rfl) (by (first | assumption | exact Int.natCast_nonneg _ | exact Nat.zero_le _ | exact Nat.le_refl _ | decide | exact Nat.le_trans (by assumption) (by decide) | lia)) (by (first | assumption | exact Int.natCast_nonneg _ | exact Nat.zero_le _ | exact Nat.le_refl _ | decide | exact Nat.le_trans (by assumption) (by decide) | lia)) (by decide)).cast (d' := .str (qs (nm.count 34))) ?_) (evall_cons (ev_name hE (d := .str nm) rfl) evall_nil))) (by show 3 ≤ _; (first | assumption | exact Int.natCast_nonneg _ | exact Nat.zero_le _ | exact Nat.le_refl _ | decide | exact Nat.le_trans (by assumption) (by decide) | lia))) (ev_name hE (d := .str nm) rfl) (hasM_lst F.slot_list_index F.type_list_index) (fn_indexS (by simp) (by show 3 < _; (first | assumption | exact Int.natCast_nonneg _ | exact Nat.zero_le _ | exact Nat.le_refl _ | decide | exact Nat.le_trans (by assumption) (by decide) | lia)))) ?_
          (ex_nil (exs_sub (τ := [(Str.ofString "ends", .own ((en ++ [(([qs (nm.count 34) ++ e, qs (nm.count 34), nm].idxOf nm : Nat) : Int)]).map .int)), (Str.ofString "size", .val (.int (nm.count 34))), (Str.ofString "end", .val (.str e))]) ?_ (ex_nil ⟨nm.count 34, _, rfl, by (first | assumption | exact Int.natCast_nonneg _ | exact Nat.zero_le _ | exact Nat.le_refl _ | decide | exact Nat.le_trans (by assumption) (by decide) | lia), by simp; (first | assumption | exact Int.natCast_nonneg _ | exact Nat.zero_le _ | exact Nat.le_refl _ | decide | exact Nat.le_trans (by assumption) (by decide) | lia), by (first | assumption | exact Int.natCast_nonneg _ | exact Nat.zero_le _ | exact Nat.le_refl _ | decide | exact Nat.le_trans (by assumption) (by decide) | lia), ?_⟩))))))))
        · rw [Int.toNat_natCast, flat_rep]
        · simp only [List.length_append, List.length_replicate, List.length_cons, List.length_nil]; (first | assumption | exact Int.natCast_nonneg _ | exact Nat.zero_le _ | exact Nat.le_refl _ | decide | exact Nat.le_trans (by assumption) (by decide) | lia)
        · simp only [List.length_append, List.length_replicate, List.length_cons, List.length_nil]; (first | assumption | exact Int.natCast_nonneg _ | exact Nat.zero_le _ | exact Nat.le_refl _ | decide | exact Nat.le_trans (by assumption) (by decide) | lia)
        · simp only [List.length_append, List.length_replicate, List.length_cons, List.length_nil]; (first | assumption | exact Int.natCast_nonneg _ | exact Nat.zero_le _ | exact Nat.le_refl _ | decide | exact Nat.le_trans (by assumption) (by decide) | lia)
        · rw [Int.toNat_natCast, flat_rep]
        · simp only [List.length_append, List.length_replicate]; (first | assumption | exact Int.natCast_nonneg _ | exact Nat.zero_le _ | exact Nat.le_refl _ | decide | exact Nat.le_trans (by assumption) (by decide) | lia)
        · rw [Int.toNat_natCast, flat_rep]
        · rw [List.length_map]; (first | assumption | exact Int.natCast_nonneg _ | exact Nat.zero_le _ | exact Nat.le_refl _ | decide | exact Nat.le_trans (by assumption) (by decide) | lia)
        · intro p hp
          simp only [List.mem_cons, List.not_mem_nil, or_false] at hp
          rcases hp with rfl | rfl | rfl
          · rw [List.map_append]; rfl
          all_goals rfl
        · rw [← hgo, show 8 - i = (8 - (i + 1)) + 1 by (first | assumption | exact Int.natCast_nonneg _ | exact Nat.zero_le _ | exact Nat.le_refl _ | decide | exact Nat.le_trans (by assumption) (by decide) | lia)]
          show _ = en ++ readGo ((8 - (i + 1)) + 1) sz e
          rw [readGo, if_pos hp, ← hnm, List.append_assoc]
          rfl
      · have hp : ¬ 0 < sz := by have := of_decide_eq_false h; (first | assumption | exact Int.natCast_nonneg _ | exact Nat.zero_le _ | exact Nat.le_refl _ | decide | exact Nat.le_trans (by assumption) (by decide) | lia)
        refine ex_nil (exs_sub (τ := [(Str.ofString "ends", .own (en.map .int)), (Str.ofString "size", .val (.int sz)), (Str.ofString "end", .val (.str e))]) ?_ (ex_nil ⟨sz, en, rfl, by (first | assumption | exact Int.natCast_nonneg _ | exact Nat.zero_le _ | exact Nat.le_refl _ | decide | exact Nat.le_trans (by assumption) (by decide) | lia), by (first | assumption | exact Int.natCast_nonneg _ | exact Nat.zero_le _ | exact Nat.le_refl _ | decide | exact Nat.le_trans (by assumption) (by decide) | lia), by (first | assumption | exact Int.natCast_nonneg _ | exact Nat.zero_le _ | exact Nat.le_refl _ | decide | exact Nat.le_trans (by assumption) (by decide) | lia), ?_⟩))
        · exact sub_cons rfl (sub_cons rfl (sub_cons rfl sub_nil))
        · rw [← hgo, show 8 - i = (8 - (i + 1)) + 1 by (first | assumption | exact Int.natCast_nonneg _ | exact Nat.zero_le _ | exact Nat.le_refl _ | decide | exact Nat.le_trans (by assumption) (by decide) | lia)]
          show _ = en ++ readGo ((8 - (i + 1)) + 1) sz e
          rw [readGo, if_neg hp]
    · obtain ⟨sz, en, rfl, hs, hl, hi8, hgo⟩ := hi
      refine exs_freeze (x := Str.ofString "ends") rfl (ex_cons (ex_return hF (ev_name hE rfl) ?_))
      rw [rng_len] at hgo
      show FD.ret _ = _
      rw [← hgo]
      simp [readGo]
end Mine
end


/-! part F15 -/
section
open PySem PySem.W PyProof.Rows PySem.Calls PySem.Spec
set_option Elab.async false
set_option linter.unusedVariables false
set_option maxRecDepth 100000
namespace Mine
/-- the function object that a nested def makes -/
def FnO (name qual : Str) (params : Arguments) (body : List Stmt) (scope : Scope) (clos : List (Str × Addr)) (o : Obj) (c' : Addr) (oc : Obj) : Prop :=
  (∃ doc pm ctv, o = fnMade name qual params body scope clos doc pm c' ctv) ∧ ∃ vs t, oc.data = .fields vs ∧ vs[1]? = some (.str qual t)
theorem isD_fields {o : Obj} {vs : Array Value} (h : o.data = .fields vs) : isD o = false := by unfold isD; rw [h]
section
variable {c : Cx} {A : Around} {env : Env} {σ : Sig} {Φ : Post} {s₀ s : Shared} {G₀ X G : Gh}
theorem codeHd_ne {h : Heap} {cd P P' : Addr} {ps : Array Value} (C : CodeHd h cd P) (hP : h.get? P' = some (tabObj ps)) : cd ≠ P' := fun q => by
  obtain ⟨o, vs, file, tf, flags, tg, inF, text, tt, e, hc, _⟩ := C
  rw [q, hP] at e; cases e; cases hc
theorem codeHd_stay {h h' : Heap} {cd P : Addr} (C : CodeHd h cd P) (k : ∀ o, h.get? cd = some o → h'.get? cd = some o) : CodeHd h' cd P := by
  obtain ⟨o, vs, file, tf, flags, tg, inF, text, tt, e, r⟩ := C
  exact ⟨o, vs, file, tf, flags, tg, inF, text, tt, k _ e, r⟩
set_option maxHeartbeats 1000000 in
theorem wp_makeFn {q : TabRec} {name : Str} {params : Arguments} {body : List Stmt} {scope : Scope} {clos : List (Str × Addr)} {fl : Nat} {Q : Value → Shared → Prop} {E : Value → Shared → Prop} (on : OnG c G s) (gl : c.Gl A s.heap) (hE : EnvOk env) (hq : q ∈ c.tabs) (hdis : ∀ q' ∈ c.tabs, q'.tab = q.tab → q' = q) (hoff : c.base.get? q.tab = none)
    (hcode : env.code = .ref q.code) (hcl : closureFor scope env = pure clos) (h : ∀ f o c' oc G' s', Grow c G s G' s' → G' f o → G' c' oc → FnO name q.qual params body scope clos o c' oc → Q (.ref f) s') :
    wpAny (model c.prog c.w) A (makeFunction name q.qual params (.stmts body) scope env [] [] [] q.pos fl) Q E s := by
  obtain ⟨C, ps, hP, hT, hh⟩ := on.tab q hq
  have hgs := gl.top.g
  obtain ⟨bm, ob, b1, b2, b3, b4, b5, b6⟩ := gl.top.bmain
  have hgP : mainGlobals ≠ q.tab := fun z => by
    obtain ⟨o, es, ep, e, hd, _⟩ := hgs
    rw [z, hP] at e; cases e; cases hd
  have hbP : bm ≠ q.tab := fun z => by
    rw [z, hP] at b3; cases b3; cases b4
  have hbG : bm ≠ mainGlobals := fun z => by
    obtain ⟨o, es, ep, e, hd, _⟩ := hgs
    rw [z, e] at b3; cases b3; rw [hd] at b6; cases b6
  rcases hh with hh | ⟨c', oc, vs, t, hf, hG, hc, hd, hv⟩
  · refine makeFunction_K (mg := c.mg) hcl hE.glob hgs hcode C hP hT hh hgP ⟨bm, ob, b1, b2, hbG, hbP, b3, b4, b5, b6⟩ fun c' ctv doc h' tk hx hge hlt hrec htb => ?_
    obtain ⟨c₂, oc, vs, t, e2, hoc, hd, hv⟩ := hrec
    cases e2
    have hup : ∀ b o, b ≠ q.tab → s.heap.get? b = some o → ∀ ob : Obj, (h'.push ob).get? b = some o := fun b o hb e ob => Heap.get?_push_of_some _ (hx b o hb e)
    have hnew : ∀ b, s.heap.objs.size ≤ b → s.heap.get? b = none := fun b hb => Heap.get?_none_of_le hb
    have hfz : s.heap.objs.size ≤ h'.objs.size := Nat.le_of_lt (Nat.lt_of_le_of_lt hge hlt)
    refine h h'.objs.size _ c' oc ((G.add c' oc).add h'.objs.size (fnMade name q.qual params body scope clos doc ((c.mg "__name__").getD .none) c' ctv)) _ ⟨⟨⟨_, _, rfl⟩, fun b o e => ?_, fun z b o e => ?_⟩, fun a o e => .inl (.inl e), ⟨fun a o e => ?_, fun q' hq' => ?_, fun q' hq' o e => ?_⟩, fun a o e => ?_⟩ Gh.add_self (.inl Gh.add_self) ⟨⟨doc, ((c.mg "__name__").getD .none), ctv, rfl⟩, vs, t, hd, hv⟩
    · by_cases hb : b = q.tab
      · subst hb
        rw [hP] at e; cases e
        exact ⟨_, Heap.get?_push_of_some _ htb, .inr (.inr ⟨rfl, _, rfl⟩)⟩
      · exact .of (hup b o hb e _)
    · exact hup b o (fun y => by rw [y, hoff] at e; cases e) (z b o e) _
    · rcases e with (e | ⟨rfl, rfl⟩) | ⟨rfl, rfl⟩
      · exact (on.has a o e).off fun o' e' => hup a o' (fun y => on.nt q hq o (y ▸ e)) e' _
      · exact .of (Heap.get?_push_of_some _ hoc)
      · exact .of (Heap.get?_push_size _ rfl)
    · by_cases ht : q'.tab = q.tab
      · have := hdis q' hq' ht
        subst this
        exact ⟨codeHd_stay C fun o e => hup _ _ (codeHd_ne C hP) e _, _, Heap.get?_push_of_some _ htb, by rw [Array.toList_append]; exact TriplesOk_snoc _ _ _ _ hT, .inr ⟨c', oc, vs, t, by rw [Array.toList_append]; exact codeAmong_snoc _ hT hh, .inl Gh.add_self, Heap.get?_push_of_some _ hoc, hd, hv⟩⟩
      · obtain ⟨C', _⟩ := on.tab q' hq'
        refine (on.tab q' hq').step (fun o e => hup _ _ (codeHd_ne C' hP) e _) (fun o e => hup _ _ ht e _) (fun a o e => .inl (.inl e)) fun a o vs e _ e' => hup a o (fun y => on.nt q hq o (y ▸ e)) e' _
    · obtain ⟨_, ps', hP', _⟩ := on.tab q' hq'
      have hlt' := Heap.lt_size hP'
      rcases e with (e | ⟨e1, _⟩) | ⟨e1, _⟩
      · exact on.nt q' hq' o e
      · rw [e1] at hlt'; exact absurd hge (Nat.not_le.mpr hlt')
      · rw [e1] at hlt'; exact absurd hfz (Nat.not_le.mpr hlt')
    · rcases e with (e | ⟨rfl, rfl⟩) | ⟨rfl, rfl⟩
      · exact .inl e
      · exact .inr (hnew _ hge)
      · exact .inr (hnew _ hfz)
  · refine makeFunction_hit (mg := c.mg) hcl hE.glob hgs hcode C hP hT hf ⟨bm, ob, b1, b2, hbG, hbP, b3, b4, b5, b6⟩ fun ctv doc h' tk hk hsz => ?_
    have g1 : Grow c G s G { s with heap := h', toks := tk } := Grow.still on ⟨h', tk, rfl, hk⟩
    have g2 := Grow.push (o := fnMade name q.qual params body scope clos doc ((c.mg "__name__").getD .none) c' ctv) (t := tk) g1.on
    exact h h'.objs.size _ c' oc _ _ (g1.trans g2) Gh.add_self (.inl hG) ⟨⟨doc, ((c.mg "__name__").getD .none), ctv, rfl⟩, vs, t, hd, hv⟩
/-- a nested def -/
theorem ex_def {q : TabRec} {name : Str} {params : Arguments} {body : List Stmt} {scope : Scope} {clos : List (Str × Addr)} {pos : Pos} (hF : EnvF env) (hx : Storable env name) (hq : q ∈ c.tabs) (hdis : ∀ q' ∈ c.tabs, q'.tab = q.tab → q' = q) (hoff : c.base.get? q.tab = none)
    (hcode : env.code = .ref q.code) (hcl : closureFor scope env = pure clos) (hqual : qualnameIn env name name = q.qual) (hpos : pos = q.pos) (hd0 : params.defaults = []) (hk0 : params.kw_defaults = []) (ha : annTrees params none env = [])
    (h : ∀ f o c' oc, FnO name q.qual params body scope clos o c' oc → Φ .next ((name, .val (.fnv f o c' oc)) :: σ)) : Ex1 c A env σ (.FunctionDef name params body [] none [] scope none name pos) Φ := fun s₀ G₀ X G s st => by
  subst hpos
  refine nestDef_K hd0 hk0 ha ?_
  rw [hqual]
  refine wp_makeFn st.ok.sub st.ok.gl hF.ok hq hdis hoff hcode hcl fun f o c' oc G' s' g e1 e2 hO => ?_
  obtain ⟨m, cm, y⟩ := st.grow hF g
  exact y.store hF.ok hx (.fnv e1 e2) fun s'' st' => ⟨G', _, .next, st', g.sub, trivial, h f o c' oc hO⟩

/-! calls of a nested def -/
abbrev Cap := List (Str × D)
def Cap.sig (τ : Cap) : Sig := τ.map fun p => (p.1, .val p.2)
theorem Cap.lookup_sig {τ : Cap} {x : Str} : τ.sig.lookup x = (List.lookup x τ).map Sl.val := by
  induction τ with
  | nil => rfl
  | cons p r ih =>
    obtain ⟨k, d⟩ := p
    show List.lookup x ((k, Sl.val d) :: Cap.sig r) = _
    rw [List.lookup_cons, List.lookup_cons, ih]
    cases x == k <;> rfl
/-- the cells hold the captured data -/
def CapOk (clos : List (Str × Addr)) (τ : Cap) (G : Gh) (h : Heap) : Prop := ∀ x d, τ.lookup x = some d → ∃ a v, clos.lookup x = some a ∧ h.IsCell a (some v) ∧ Rep G v d
theorem CapOk.grow {clos : List (Str × Addr)} {τ : Cap} {G' : Gh} {s' : Shared} (x : CapOk clos τ G s.heap) (g : Grow c G s G' s') : CapOk clos τ G' s'.heap := fun y d e => by
  obtain ⟨a, v, e1, e2, e3⟩ := x y d e
  exact ⟨a, v, e1, g.keep.kh.cell e2, e3.mono g.sub⟩
structure ClosOk (scope : Scope) (clos : List (Str × Addr)) (τ : Cap) : Prop where
  ap : clos.Pairwise fun x y => x.2 ≠ y.2
  nd : (clos.map (·.1)).Nodup
  free : ∀ x ∈ clos.map (·.1), scope.names.lookup x = some .free ∧ (x == ("__classdict__" : Str)) = false
  cov : ∀ x ∈ clos.map (·.1), ∃ d, τ.lookup x = some d
theorem ClosOk.hu {scope : Scope} {clos : List (Str × Addr)} {τ : Cap} (x : ClosOk scope clos τ) : ∀ n a, (n, a) ∈ clos → clos.lookup n = some a := fun n a h => lookup_of_mem_nodup x.nd h
theorem mem_names {clos : List (Str × Addr)} {n : Str} {a : Addr} (h : (n, a) ∈ clos) : n ∈ clos.map (·.1) := List.mem_map.mpr ⟨_, h, rfl⟩
def cellIn (h : Heap) (clos : List (Str × Addr)) (n : Str) : Option Value := (clos.lookup n).bind fun a => (h.get? a).bind fun o => match o.data with
  | .cell v => v
  | _ => none
theorem cellIn_of {h : Heap} {clos : List (Str × Addr)} {n : Str} {a : Addr} {v : Option Value} (e : clos.lookup n = some a) (x : h.IsCell a v) : cellIn h clos n = v := by
  obtain ⟨o, ho, hd⟩ := x
  simp [cellIn, e, ho, hd]
theorem envF_X {qual : Str} {scope : Scope} {L f : Addr} {cd : Value} {clos : List (Str × Addr)} {τ : Cap} (hk : scope.kind = .function) (K : ClosOk scope clos τ) : EnvF (envX qual scope L f cd clos) := ⟨⟨hk, rfl, rfl⟩, K.hu⟩
theorem lookup_of_memV {β : Type} {n : Str} {c : β} : ∀ {cs : List (Str × β)}, (cs.map (·.1)).Nodup → (n, c) ∈ cs → cs.lookup n = some c
  | (k, b) :: r, hn, hm => by
    simp only [List.map_cons, List.nodup_cons] at hn
    rw [List.lookup_cons]
    rcases List.mem_cons.mp hm with e | hm
    · cases e; simp
    · have : (n == k) = false := by
        cases q : n == k with
        | false => rfl
        | true => exact absurd (List.mem_map.mpr ⟨_, hm, rfl⟩) (beq_iff_eq.mp q ▸ hn.1)
      rw [this]
      exact lookup_of_memV hn.2 hm
theorem lookup_none_of {β : Type} {n : Str} : ∀ {cs : List (Str × β)}, n ∉ cs.map (·.1) → cs.lookup n = none
  | [], _ => rfl
  | (k, b) :: r, hn => by
    simp only [List.map_cons, List.mem_cons, not_or] at hn
    rw [List.lookup_cons, show (n == k) = false by simpa using hn.1]
    exact lookup_none_of hn.2
theorem lookup_reverse {β : Type} : ∀ {cs : List (Str × β)}, (cs.map (·.1)).Nodup → ∀ n, cs.reverse.lookup n = cs.lookup n
  | [], _, _ => rfl
  | (k, b) :: r, hn, n => by
    simp only [List.map_cons, List.nodup_cons] at hn
    rw [List.reverse_cons, List.lookup_append, lookup_reverse hn.2, List.lookup_cons, List.lookup_cons]
    cases q : n == k with
    | true =>
      rw [beq_iff_eq.mp q, lookup_none_of hn.1]
      rfl
    | false => cases List.lookup n r <;> rfl
/-- the frame of a nested def at a call's start -/
theorem st_startX {qual : Str} {scope : Scope} {f : Addr} {cd : Value} {clos : List (Str × Addr)} {τ : Cap} {names : List Str} {vs : List Value} {ds : List D} {h₁ : Heap} {tk : Nat} (on : OnG c G s) (gl : c.Gl A s.heap) (r : RepAll G vs ds) (hlen : names.length = ds.length) (hnd : names.Nodup)
    (cap : CapOk clos τ G s.heap) (K : ClosOk scope clos τ) (hk : scope.kind = .function) (hns : h₁.Ns s.heap.objs.size (fun x => (names.zip vs).reverse.lookup x)) (hk₁ : ∀ b o, s.heap.get? b = some o → h₁.get? b = some o) (hloc : ∀ x ∈ names, scope.names.lookup x = some .local) (hτ : ∀ x ∈ τ.map (·.1), x ∈ clos.map (·.1))
    (h0s : ∃ h t, s = { s₀ with heap := h, toks := t }) (h0k : ∀ b o, s₀.heap.get? b = some o → s.heap.get? b = some o) (h0z : s₀.heap.objs.size ≤ s.heap.objs.size) (h0b : ∀ b o, c.base.get? b = some o → s₀.heap.get? b = some o) (h0t : ∀ q ∈ c.tabs, ∀ a, (a = q.code ∨ a = q.tab) → s₀.heap.get? a ≠ none)
    (h0c : ∀ n a, (n, a) ∈ clos → ∃ o, s₀.heap.get? a = some o) (hXs : ∀ a o, X a o → Has s.heap a o) (hXG : ∀ a o, G a o → ∀ o', ¬ X a o') :
    St c (A.deeper (envX qual scope s.heap.objs.size f cd clos)) s₀ G X (envX qual scope s.heap.objs.size f cd clos) (names.zip (ds.map Sl.val) ++ τ.sig) G { s with heap := h₁, toks := tk } := by
  have hfr : ∀ a, FrameAt (envX qual scope s.heap.objs.size f cd clos) a → a = s.heap.objs.size := fun a ha => by
    rcases ha with rfl | ⟨n, hn, hkn⟩
    · rfl
    · have := (K.free n (mem_names hn)).1
      rw [show (envX qual scope s.heap.objs.size f cd clos).kindOf n = scope.names.lookup n from rfl, this] at hkn
      cases hkn
  have hcell : ∀ n a, clos.lookup n = some a → s.heap.IsCell a (cellIn s.heap clos n) := fun n a e => by
    obtain ⟨d, hd⟩ := K.cov n (mem_names (mem_of_lookup e))
    obtain ⟨a', v, e1, e2, _⟩ := cap n d hd
    rw [e] at e1; cases e1
    rw [cellIn_of e e2]; exact e2
  refine ⟨fun x => (names.zip vs).reverse.lookup x, cellIn s.heap clos, ⟨?_, hns, fun b o e => .of (hk₁ _ _ (h0k _ _ e)), h0z, fun n a e => (Kh.of hk₁).cell (hcell n a e), K.ap, fun n a hm q => ?_⟩, ?_, h0b, fun n a hm hkn => ?_, fun n a hm _ => h0c n a hm, h0t, on.keeps ⟨h₁, tk, rfl, hk₁⟩ (fun _ _ e => e) (fun _ _ e => .inl e), fun _ _ e => e, fun _ _ e => .inl e, fun a ha o e => ?_, fun a o e => (hXs a o e).off fun o' => hk₁ a o', fun a ha o e => ?_, hXG, fun x sl e => ?_, fun x y d1 d2 v e1 e2 _ _ => ?_⟩
  · obtain ⟨h, t, e⟩ := h0s
    exact ⟨h₁, tk, by rw [e]⟩
  · obtain ⟨o, ho, _⟩ := hcell n a (K.hu n a hm)
    rw [q] at ho
    exact Nat.lt_irrefl _ (Heap.lt_size ho)
  · refine ⟨gl.kin, gl.ktop, fun b o e => hk₁ _ _ (gl.stays b o e), ?_⟩
    obtain ⟨outer, e, r⟩ := gl.fr
    refine ⟨_ :: outer, Around.frames_deeper e, fun v hv => ?_⟩
    rcases List.mem_cons.mp hv with rfl | hv
    · refine ⟨by rw [show (envX qual scope s.heap.objs.size f cd clos).scope.kind = scope.kind from rfl, hk]; decide, _, rfl, ?_, isDict_ns hns⟩
      cases q : c.base.get? s.heap.objs.size with
      | none => rfl
      | some o => exact absurd (Heap.lt_size (gl.stays _ _ q)) (Nat.lt_irrefl _)
    · obtain ⟨L', a, b, d⟩ := (r v hv).2
      exact ⟨(r v hv).1, L', a, b, (Kh.of hk₁).dict d⟩
  · have := (K.free n (mem_names hm)).1
    rw [show (envX qual scope s.heap.objs.size f cd clos).kindOf n = scope.names.lookup n from rfl, this] at hkn
    cases hkn
  · exact on.ne e ((hfr a ha) ▸ heap_size_none _)
  · exact has_ne (hXs a o e) ((hfr a ha) ▸ heap_size_none _)
  · have hl2 : vs.length = ds.length := r.length
    rw [List.lookup_append] at e
    cases q : List.lookup x (names.zip (ds.map Sl.val)) with
    | some sl' =>
      rw [q] at e
      cases e
      have hm := mem_of_lookup q
      obtain ⟨i, hi, he⟩ := List.mem_iff_getElem.mp hm
      have hi' : i < names.length ∧ i < ds.length := by simp at hi; (first | assumption | exact Int.natCast_nonneg _ | exact Nat.zero_le _ | exact Nat.le_refl _ | decide | exact Nat.le_trans (by assumption) (by decide) | lia)
      have hx : names[i]'hi'.1 = x := by simpa using congrArg Prod.fst he
      have hd : Sl.val (ds[i]'hi'.2) = sl := by simpa using congrArg Prod.snd he
      obtain ⟨v, hv, rv⟩ := r.get (k := i) (List.getElem?_eq_getElem hi'.2)
      have hvl : i < vs.length := by (first | assumption | exact Int.natCast_nonneg _ | exact Nat.zero_le _ | exact Nat.le_refl _ | decide | exact Nat.le_trans (by assumption) (by decide) | lia)
      have hv' : vs[i]'hvl = v := by rw [List.getElem?_eq_getElem hvl] at hv; exact Option.some.inj hv
      have hmem : (x, v) ∈ names.zip vs := by
        refine List.mem_iff_getElem.mpr ⟨i, by simp; (first | assumption | exact Int.natCast_nonneg _ | exact Nat.zero_le _ | exact Nat.le_refl _ | decide | exact Nat.le_trans (by assumption) (by decide) | lia), ?_⟩
        simp [hx, hv']
      subst hd
      refine ⟨v, .loc (hloc x (hx ▸ List.getElem_mem hi'.1)) ?_, rv⟩
      have hnd2 : ((names.zip vs).map (·.1)).Nodup := by
        rw [List.map_fst_zip (by (first | assumption | exact Int.natCast_nonneg _ | exact Nat.zero_le _ | exact Nat.le_refl _ | decide | exact Nat.le_trans (by assumption) (by decide) | lia))]; exact hnd
      exact (lookup_reverse hnd2 x).trans (lookup_of_memV hnd2 hmem)
    | none =>
      rw [q] at e
      have e' : τ.sig.lookup x = some sl := e
      rw [Cap.lookup_sig] at e'
      cases q' : List.lookup x τ with
      | none => rw [q'] at e'; cases e'
      | some d =>
        rw [q'] at e'
        cases e'
        obtain ⟨a, v, e1, e2, e3⟩ := cap x d q'
        exact ⟨v, .free (K.free x (mem_names (mem_of_lookup e1))).1 e1 (K.free x (mem_names (mem_of_lookup e1))).2 (cellIn_of e1 e2), e3⟩
  · have hm := List.mem_append.mp (mem_of_lookup e1)
    rcases hm with hm | hm
    · obtain ⟨i, hi, he⟩ := List.mem_iff_getElem.mp hm
      have := congrArg Prod.snd he
      simp at this
    · obtain ⟨p, hp, he⟩ := List.mem_map.mp hm
      cases he
/-- what a call of a nested def gives, where its cells hold these data -/
def FnC (c : Cx) (A : Around) (f : Addr) (clos : List (Str × Addr)) (τ : Cap) (ds : List D) (d : D) : Prop := ∀ G s vs, OnG c G s → c.Gl A s.heap → CapOk clos τ G s.heap → RepAll G vs ds → Res c A G s (call (.ref f) vs) d
theorem fnc_def {n : Nat} {name x qual : Str} {params : Arguments} {body : List Stmt} {scope : Scope} {f c' : Addr} {o oc : Obj} {clos : List (Str × Addr)} {τ : Cap} {names : List Str} {ds : List D} {d : D} (hA : AOk A (n + 1)) (hO : FnO name qual params body scope clos o c' oc) (hself : τ.lookup x = some (.fnv f o c' oc))
    (K : ClosOk scope clos τ) (hk : scope.kind = .function) (hτ : ∀ x ∈ τ.map (·.1), x ∈ clos.map (·.1)) (hloc : ∀ x ∈ names, scope.names.lookup x = some .local) (hcell : ∀ x ∈ scope.names, x.2 ≠ .cell) (hlen : names.length = ds.length) (hnd : names.Nodup)
    (hbind : ∀ doc pm ctv, ∀ vs : List Value, vs.length = ds.length → bindArgs (fnX name qual params body scope clos .none .none doc pm none (.ref c') ctv) ⟨vs, []⟩ = pure (names.zip vs))
    (h : ∀ L, EnvF (envX qual scope L f (.ref c') clos) → AOk (A.deeper (envX qual scope L f (.ref c') clos)) n → ExS c (A.deeper (envX qual scope L f (.ref c') clos)) (envX qual scope L f (.ref c') clos) (names.zip (ds.map Sl.val) ++ τ.sig) body fun fd' _ => fd' = .ret d)
    (hco : scope.isCoroutine = false := by rfl) (hgen : scope.isGenerator = false := by rfl) : FnC c A f clos τ ds d := fun G s vs on gl cap r => by
  obtain ⟨⟨doc, pm, ctv, rfl⟩, ws, t, hd, hv⟩ := hO
  obtain ⟨_, _, _, _, rf⟩ := cap x _ hself
  cases rf with
  | fnv g1 g2 =>
    have ho := on.at g1 rfl
    have hoc := (on.has _ _ g2).eq (isD_fields hd)
    refine wpAny_call (codeAny_call_def (fd := fnX name qual params body scope clos .none .none doc pm none (.ref c') ctv) (body := body) (binds := names.zip vs) (by have := hA.dep; (first | assumption | exact Int.natCast_nonneg _ | exact Nat.zero_le _ | exact Nat.le_refl _ | decide | exact Nat.le_trans (by assumption) (by decide) | lia)) ho rfl gl.top.nolimit ⟨c', oc, ws, t, rfl, hoc, hd, hv⟩ rfl (.of_eq (hbind doc pm ctv vs r.length)) hcell ?_ ?_ hco hgen hk)
    · exact fun y hy => hloc y.1 (List.of_mem_zip (show (y.1, y.2) ∈ names.zip vs from hy)).1
    · intro h₁ hns hk₁
      have st := st_startX (s₀ := s) (X := Gh.none) (qual := qual) (f := f) (cd := .ref c') (tk := s.toks + (names.zip vs).length) on gl r hlen hnd cap K hk hns hk₁ hloc hτ ⟨s.heap, s.toks, rfl⟩ (fun _ _ e => e) (Nat.le_refl _) gl.stays (fun q hq a ha => on.tabSome hq ha)
        (fun n a hm => by
          obtain ⟨d, hd⟩ := K.cov n (mem_names hm)
          obtain ⟨a', v, e1, ⟨o, e2, _⟩, _⟩ := cap n d hd
          rw [K.hu n a hm] at e1; cases e1
          exact ⟨o, e2⟩) (fun _ _ e => e.elim) (fun _ _ _ _ e => e)
      refine wpAny_mono (h s.heap.objs.size (envF_X hk K) (hA.deeper _) s G Gh.none G _ st) (fun fl s' q => ?_) fun _ _ x => x.elim
      obtain ⟨G', σ', fd', ⟨m, cm, q⟩, hG, hfl, e⟩ := q
      subst e
      cases fl with
      | ret v => exact ⟨G', ⟨⟨q.fr.same, q.fr.kh, fun z => q.gl.stays⟩, hG, q.on, q.new⟩, hfl⟩
      | next => exact hfl.elim
      | brk => exact hfl.elim
      | cont => exact hfl.elim
/-- a call of a nested def by its name -/
theorem ev_callC {x : Str} {px : Pos} {e : Expr} {es : List Expr} {pos : Pos} {f c' : Addr} {o oc : Obj} {clos : List (Str × Addr)} {τ : Cap} {ds : List D} {d : D} (hE : EnvOk env) (hf : σ.lookup x = some (.val (.fnv f o c' oc))) (hO : ∃ fd, o.data = .func fd)
    (hcap : ∀ G h, Sc env G h σ → CapOk clos τ G h) (ha : EvAll c A env σ (e :: es) ds) (h : FnC c A f clos τ ds d) (hd : (x == ("__debug__" : Str)) = false := by decide)
    (hc : eval (.Call (.Name x px) (e :: es) [] pos) env = (do callWith pos (← eval (.Name x px) env) [] (backTo pos (starEach (e :: es) env)) (backToKw pos (keywordEach [] env))) := by rfl)
    (he : starEach (e :: es) env = (false, eval e env) :: starEach es env := by rfl) (hp : (backTo pos (starEach es env)).any (·.1) = false := by rfl) : Ev c A env σ (.Call (.Name x px) (e :: es) [] pos) d := fun G s ok => by
  obtain ⟨fd, hO⟩ := hO
  obtain ⟨v, rd, q⟩ := ok.sc x _ hf
  have q' : Rep G v (.fnv f o c' oc) := q
  cases q' with
  | fnv g1 g2 =>
    have hs : soft o = false := by unfold soft isD isT; rw [hO]; simp
    refine Call_ (wpAny_Name (loadName_of hE rd ?_) hd) hc
    have ha' : wpAny (model c.prog c.w) A (spliced (backTo pos (starEach (e :: es) env))) (fun vs s1 => (s1.heap.get? f = some o ∧ o.data = .func fd) ∧ wpAny (model c.prog c.w) A (call (.ref f) vs) (fun v s' => ∃ G', Grow c G s G' s' ∧ Rep G' v d) (fun _ _ => False) s1) (fun _ _ => False) s :=
      ha.use ok fun vs G1 s1 gr r1 => ⟨⟨gr.on.at (gr.sub _ _ g1) hs, hO⟩, (h G1 s1 vs gr.on (ok.grow gr).gl (hcap _ _ (ok.grow gr).sc) r1).use fun v G2 s2 g2 r2 => ⟨G2, gr.trans g2, r2⟩⟩
    rw [he] at ha' ⊢
    exact callWith_function (first := []) (evalArgs_plain ha')
end
end Mine
end


/-! part F16 -/
section
open PySem PySem.W PyProof.Rows PySem.Calls PySem.Spec
set_option Elab.async false
set_option linter.unusedVariables false
set_option maxRecDepth 100000
namespace Mine
def inS (i k : Nat) : Stmt := (bodyOf (stmtN i)).getD k (.Pass default)
/-- a def that holds a def -/
structure DefAtC (c : Cx) (a : Addr) (st : Stmt) (q : TabRec) : Prop where
  g : nsIn c.K mainGlobals (nameOf st) = some (some (.ref a))
  k : ∃ o pm, c.K.lookup a = some o ∧ o.data = .func (fdOf st pm (.ref q.code)) ∧ codeIn c.K (.ref q.code) (nameOf st) = true
  hq : q ∈ c.tabs
  hdis : ∀ q' ∈ c.tabs, q'.tab = q.tab → q' = q
  hoff : c.base.get? q.tab = none
theorem fn_atC {c : Cx} {A : Around} {n : Nat} {a : Addr} {st : Stmt} {q : TabRec} {names : List Str} {ds : List D} {d : D} (hA : AOk A (n + 1)) (D : DefAtC c a st q)
    (hk : (scopeOf st).kind = .function) (hnd0 : ((cellsFrom 0 (scopeOf st).names []).map (·.1)).Nodup)
    (hbind : ∀ pm code, ∀ vs : List Value, vs.length = ds.length → bindArgs (fdOf st pm code) ⟨vs, []⟩ = pure (names.zip vs)) (hlen : names.length = ds.length) (hnd : names.Nodup) (hst : ∀ pm code L, ∀ x ∈ names, Storable (envAt st pm code L a) x)
    (h : ∀ pm L, EnvF (envAt st pm (.ref q.code) L a) → AOk (A.deeper (envAt st pm (.ref q.code) L a)) n → ExS c (A.deeper (envAt st pm (.ref q.code) L a)) (envAt st pm (.ref q.code) L a) (names.zip (ds.map Sl.val)) (bodyOf st) fun fd' _ => fd' = .ret d)
    (hco : (scopeOf st).isCoroutine = false) (hgen : (scopeOf st).isGenerator = false) (hown0 : ((cellsFrom 0 (scopeOf st).names []).all fun p => (scopeOf st).names.lookup p.1 == some .cell) = true := by decide +kernel) : Fn c A (.ref a) ds d := by
  obtain ⟨o, pm, k1, k2, k3⟩ := D.k
  exact fn_def hA k1 k2 k3 rfl rfl (hbind pm _) hlen hnd (fun L => envF_of hk hnd0) (fun L n a hm => own_of hown0 n a hm) (fun L => hst pm _ L) (fun L hA' => h pm L (envF_of hk hnd0) hA') hco hgen hk
/-- the number of the figures, the lowest first -/
def undig (l : List Int) : Int := l.foldr (fun d acc => d + 2 * acc) 0
theorem undig_append (a b : List Int) : undig (a ++ b) = undig a + 2 ^ a.length * undig b := by
  induction a with
  | nil => simp [undig]
  | cons d a ih =>
    show d + 2 * undig (a ++ b) = d + 2 * undig a + 2 ^ (a.length + 1) * undig b
    rw [ih, Int.pow_succ]
    generalize (2 : Int) ^ a.length = p
    rw [Int.mul_add, ← Int.mul_assoc, Int.mul_comm p 2, Int.add_assoc]
def Bits (l : List Int) : Prop := ∀ d ∈ l, 0 ≤ d ∧ d ≤ 1
theorem undig_lt {l : List Int} (h : Bits l) : 0 ≤ undig l ∧ undig l < 2 ^ l.length := by
  induction l with
  | nil => exact ⟨Int.le_refl _, by decide⟩
  | cons d l ih =>
    have := ih fun x hx => h x (.tail _ hx)
    have := h d (.head _)
    show 0 ≤ d + 2 * undig l ∧ d + 2 * undig l < 2 ^ (l.length + 1)
    rw [Int.pow_succ]
    (first | assumption | exact Int.natCast_nonneg _ | exact Nat.zero_le _ | exact Nat.le_refl _ | decide | exact Nat.le_trans (by assumption) (by decide) | lia)
theorem undig_bound {l : List Int} (h : Bits l) (hl : l.length ≤ 60) : (undig l).natAbs < 2 ^ 64 := by
  have h1 := undig_lt h
  have h2 : (2 : Int) ^ l.length ≤ 2 ^ 60 := by
    have := Nat.pow_le_pow_right (n := 2) (by decide) hl
    exact_mod_cast this
  have h3 : (2 : Int) ^ 60 < 2 ^ 64 := by decide
  have : ((undig l).natAbs : Int) = undig l := Int.natAbs_of_nonneg h1.1
  have h4 : ((undig l).natAbs : Int) < ((2 ^ 64 : Nat) : Int) := by
    rw [this]
    have h5 : ((2 ^ 64 : Nat) : Int) = 2 ^ 64 := by decide
    rw [h5]; (first | assumption | exact Int.natCast_nonneg _ | exact Nat.zero_le _ | exact Nat.le_refl _ | decide | exact Nat.le_trans (by assumption) (by decide) | lia)
  exact_mod_cast h4
theorem FnO.fd {name qual : Str} {params : Arguments} {body : List Stmt} {scope : Scope} {clos : List (Str × Addr)} {o oc : Obj} {c' : Addr} (h : FnO name qual params body scope clos o c' oc) : ∃ fd, o.data = .func fd := by
  obtain ⟨⟨doc, pm, ctv, rfl⟩, _⟩ := h
  exact ⟨_, rfl⟩
abbrev clos7 (L : Addr) : List (Str × Addr) := [(Str.ofString "n", L + 2), (Str.ofString "inner", L + 3), (Str.ofString "digits", L + 1)]
abbrev cap7 (f : Addr) (o : Obj) (c' : Addr) (oc : Obj) (ds : List Int) : Cap := [(Str.ofString "n", .int 1), (Str.ofString "inner", .fnv f o c' oc), (Str.ofString "digits", .lst (ds.map .int))]
abbrev q7 : Str := Str.ofString "_digits2int.<locals>.inner"
theorem clos_ap {L : Addr} {x y z : Str} {i j k : Nat} (h : i ≠ j ∧ i ≠ k ∧ j ≠ k) : List.Pairwise (fun (x y : Str × Addr) => x.2 ≠ y.2) [(x, L + i), (y, L + j), (z, L + k)] := by
  refine .cons (fun p hp => ?_) (.cons (fun p hp => ?_) (.cons (fun p hp => nomatch hp) .nil))
  · simp only [List.mem_cons, List.not_mem_nil, or_false] at hp
    rcases hp with rfl | rfl
    · exact fun q => h.1 (Nat.add_left_cancel q)
    · exact fun q => h.2.1 (Nat.add_left_cancel q)
  · simp only [List.mem_cons, List.not_mem_nil, or_false] at hp
    subst hp; exact fun q => h.2.2 (Nat.add_left_cancel q)
theorem clos7_ok (L f : Addr) (o : Obj) (c' : Addr) (oc : Obj) (ds : List Int) : ClosOk (scopeOf (inS 7 0)) (clos7 L) (cap7 f o c' oc ds) :=
  ⟨clos_ap (by decide), by show ([Str.ofString "n", Str.ofString "inner", Str.ofString "digits"] : List Str).Nodup; decide, fun x hx => by
    simp only [List.map_cons, List.map_nil, List.mem_cons, List.not_mem_nil, or_false] at hx
    rcases hx with rfl | rfl | rfl <;> exact ⟨rfl, rfl⟩, fun x hx => by
    simp only [List.map_cons, List.map_nil, List.mem_cons, List.not_mem_nil, or_false] at hx
    rcases hx with rfl | rfl | rfl <;> exact ⟨_, rfl⟩⟩
/-- what captured names read -/
theorem cap_free {env : Env} {G : Gh} {h : Heap} {x : Str} {a : Addr} {d : D} {σ : Sig} (sc : Sc env G h σ) (hx : σ.lookup x = some (.val d)) (hk : env.kindOf x = some .free ∨ env.kindOf x = some .cell) (ha : env.cells.lookup x = some a) : ∃ v, h.IsCell a (some v) ∧ Rep G v d := by
  obtain ⟨v, r, q⟩ := sc x _ hx
  refine ⟨v, ?_, q⟩
  cases r with
  | loc k => rcases hk with hk | hk <;> (rw [k] at hk; cases hk)
  | cell k l e => rw [ha] at l; cases l; exact e
  | free k l e => rw [ha] at l; cases l; exact e
theorem capOk_three {clos : List (Str × Addr)} {x y z : Str} {a b e : Addr} {d1 d2 d3 : D} {G : Gh} {h : Heap} (hx : clos.lookup x = some a) (hy : clos.lookup y = some b) (hz : clos.lookup z = some e)
    (h1 : ∃ v, h.IsCell a (some v) ∧ Rep G v d1) (h2 : ∃ v, h.IsCell b (some v) ∧ Rep G v d2) (h3 : ∃ v, h.IsCell e (some v) ∧ Rep G v d3) : CapOk clos [(x, d1), (y, d2), (z, d3)] G h := fun u d hu => by
  have hm := mem_of_lookup hu
  simp only [List.mem_cons, List.not_mem_nil, or_false] at hm
  rcases hm with hm | hm | hm <;> cases hm
  · exact ⟨a, h1.choose, hx, h1.choose_spec⟩
  · exact ⟨b, h2.choose, hy, h2.choose_spec⟩
  · exact ⟨e, h3.choose, hz, h3.choose_spec⟩
theorem shr_one (x : Int) (h : 0 ≤ x) : x.fdiv (2 ^ (1 : Int).toNat) = ((x.toNat / 2 : Nat) : Int) := by
  obtain ⟨n, rfl⟩ := Int.eq_ofNat_of_zero_le h
  rw [show (2 : Int) ^ (1 : Int).toNat = 2 from rfl, Int.toNat_natCast, Int.fdiv_eq_ediv_of_nonneg _ (by decide)]
  (first | assumption | exact Int.natCast_nonneg _ | exact Nat.zero_le _ | exact Nat.le_refl _ | decide | exact Nat.le_trans (by assumption) (by decide) | lia)
theorem take_split {α : Type} (l : List α) (L m k : Nat) (hm : m ≤ k) : (l.drop L).take k = (l.drop L).take m ++ (l.drop (L + m)).take (k - m) := by
  rw [← List.drop_drop, ← List.take_add]
  congr 1
  (first | assumption | exact Int.natCast_nonneg _ | exact Nat.zero_le _ | exact Nat.le_refl _ | decide | exact Nat.le_trans (by assumption) (by decide) | lia)
set_option maxHeartbeats 2000000 in
theorem fnc_inner7 {c : Cx} {L0 f c' : Addr} {o oc : Obj} {ds : List Int} (hO : FnO (Str.ofString "inner") q7 (paramsOf (inS 7 0)) (bodyOf (inS 7 0)) (scopeOf (inS 7 0)) (clos7 L0) o c' oc) (hb : Bits ds) (hl : ds.length ≤ 40) :
    ∀ (k : Nat) {A : Around} (hA : AOk A (k + 1)) (l r : Nat), l < r → r - l ≤ k → r ≤ ds.length → FnC c A f (clos7 L0) (cap7 f o c' oc ds) [.int l, .int r] (.int (undig ((ds.drop l).take (r - l)))) := by
  intro k
  induction k with
  | zero => intro A hA l r h1 h2; (first | assumption | exact Int.natCast_nonneg _ | exact Nat.zero_le _ | exact Nat.le_refl _ | decide | exact Nat.le_trans (by assumption) (by decide) | lia)
  | succ k ih =>
    intro A hA l r h1 h2 h3
    refine fnc_def (n := k + 1) (x := Str.ofString "inner") (names := [Str.ofString "L", Str.ofString "R"]) hA hO rfl (clos7_ok _ _ _ _ _ _) rfl ?_ ?_ (by decide +kernel) rfl (by decide) (fun doc pm ctv vs h => ?_) (fun L hF hA' => ?_)
    · intro x hx
      exact hx
    · intro x hx
      simp only [List.mem_cons, List.not_mem_nil, or_false] at hx
      rcases hx with rfl | rfl <;> rfl
    · (obtain ⟨v, w, rfl⟩ := len2 h; rfl)
    · have hE := hF.ok
      conv => arg 5; whnf
      have hcap : ∀ σ : Sig, σ.lookup (Str.ofString "n") = some (.val (.int 1)) → σ.lookup (Str.ofString "inner") = some (.val (.fnv f o c' oc)) → σ.lookup (Str.ofString "digits") = some (.val (.lst (ds.map .int))) →
          ∀ G h, Sc (envX q7 (scopeOf (inS 7 0)) L f (.ref c') (clos7 L0)) G h σ → CapOk (clos7 L0) (cap7 f o c' oc ds) G h := fun σ e1 e2 e3 G h sc =>
        capOk_three rfl rfl rfl (cap_free sc e1 (.inl rfl) rfl) (cap_free sc e2 (.inl rfl) rfl) (cap_free sc e3 (.inl rfl) rfl)
      refine ex_cons (ex_if (x := ((l : Int) + 1 == (r : Int))) (tr_cmp1 (ev_add (ev_name hE rfl) ev_int) (ev_name hE rfl) cmp_eqI) hF (fun h => ex_cons (ex_return hF (ev_item (ds := ds.map .int) (k := (l : Int)) (d := .int (undig ((ds.drop l).take (r - l)))) (evl_of (ev_name hE rfl)) (ev_name hE rfl) (by lia) (by lia) ?_) rfl)) (fun h => ex_nil ?_))
      · have h' : (l : Int) + 1 = r := eq_of_beq h
        have hr : r - l = 1 := by (first | assumption | exact Int.natCast_nonneg _ | exact Nat.zero_le _ | exact Nat.le_refl _ | decide | exact Nat.le_trans (by assumption) (by decide) | lia)
        have hl' : l < ds.length := by (first | assumption | exact Int.natCast_nonneg _ | exact Nat.zero_le _ | exact Nat.le_refl _ | decide | exact Nat.le_trans (by assumption) (by decide) | lia)
        rw [hr, Int.toNat_natCast, List.getElem?_map, List.getElem?_eq_getElem hl', List.drop_eq_getElem_cons hl']
        show some (D.int ds[l]) = some (D.int (ds[l] + 2 * 0))
        rw [Int.mul_zero, Int.add_zero]
      · have h' : (l : Int) + 1 ≠ r := by simpa using h
        have hmid : (l : Int) + r = ((l + r : Nat) : Int) := by (first | assumption | exact Int.natCast_nonneg _ | exact Nat.zero_le _ | exact Nat.le_refl _ | decide | exact Nat.le_trans (by assumption) (by decide) | lia)
        generalize hm : (l + r) / 2 = m
        have hm1 : l < m := by (first | assumption | exact Int.natCast_nonneg _ | exact Nat.zero_le _ | exact Nat.le_refl _ | decide | exact Nat.le_trans (by assumption) (by decide) | lia)
        have hm2 : m < r := by (first | assumption | exact Int.natCast_nonneg _ | exact Nat.zero_le _ | exact Nat.le_refl _ | decide | exact Nat.le_trans (by assumption) (by decide) | lia)
        have e1 : ((l : Int) + r).fdiv (2 ^ (1 : Int).toNat) = (m : Int) := by
          rw [shr_one _ (by (first | assumption | exact Int.natCast_nonneg _ | exact Nat.zero_le _ | exact Nat.le_refl _ | decide | exact Nat.le_trans (by assumption) (by decide) | lia)), ← hm]
          have : ((l : Int) + r).toNat = l + r := by (first | assumption | exact Int.natCast_nonneg _ | exact Nat.zero_le _ | exact Nat.le_refl _ | decide | exact Nat.le_trans (by assumption) (by decide) | lia)
          rw [this]
        have e2 : ((m : Int) - l) * 1 = ((m - l : Nat) : Int) := by (first | assumption | exact Int.natCast_nonneg _ | exact Nat.zero_le _ | exact Nat.le_refl _ | decide | exact Nat.le_trans (by assumption) (by decide) | lia)
        refine ex_cons (ex_assign (d := .int m) hF (.inl rfl) ((ev_shr (ev_add (ev_name hE rfl) (ev_name hE rfl)) ev_int (by decide)).cast (by rw [e1])) ?_)
        refine ex_cons (ex_assign (d := .int (m - l : Nat)) hF (.inl rfl) ((ev_mul (y := 1) (ev_sub (x := (m : Int)) (y := (l : Int)) (ev_name hE rfl) (ev_name hE rfl)) (ev_name hE rfl) (mulOk_right (by decide))).cast (by rw [e2])) ?_)
        refine ex_cons (ex_return hF (ev_add (ev_shl (ev_callC hE rfl hO.fd (hcap _ rfl rfl rfl) (evall_cons (ev_name hE rfl) (evall_cons (ev_name hE rfl) evall_nil)) (ih hA' m r hm2 (by (first | assumption | exact Int.natCast_nonneg _ | exact Nat.zero_le _ | exact Nat.le_refl _ | decide | exact Nat.le_trans (by assumption) (by decide) | lia)) h3)) (ev_name hE rfl) (by (first | assumption | exact Int.natCast_nonneg _ | exact Nat.zero_le _ | exact Nat.le_refl _ | decide | exact Nat.le_trans (by assumption) (by decide) | lia)) (by (first | assumption | exact Int.natCast_nonneg _ | exact Nat.zero_le _ | exact Nat.le_refl _ | decide | exact Nat.le_trans (by assumption) (by decide) | lia)) ?_)
          (ev_callC hE rfl hO.fd (hcap _ rfl rfl rfl) (evall_cons (ev_name hE rfl) (evall_cons (ev_name hE rfl) evall_nil)) (ih hA' l m hm1 (by (first | assumption | exact Int.natCast_nonneg _ | exact Nat.zero_le _ | exact Nat.le_refl _ | decide | exact Nat.le_trans (by assumption) (by decide) | lia)) (by (first | assumption | exact Int.natCast_nonneg _ | exact Nat.zero_le _ | exact Nat.le_refl _ | decide | exact Nat.le_trans (by assumption) (by decide) | lia))))) ?_)
        · exact undig_bound (fun d hd => hb d (List.mem_of_mem_drop (List.mem_of_mem_take hd))) (by simp; (first | assumption | exact Int.natCast_nonneg _ | exact Nat.zero_le _ | exact Nat.le_refl _ | decide | exact Nat.le_trans (by assumption) (by decide) | lia))
        · show FD.ret _ = FD.ret _
          rw [take_split ds l (m - l) (r - l) (by (first | assumption | exact Int.natCast_nonneg _ | exact Nat.zero_le _ | exact Nat.le_refl _ | decide | exact Nat.le_trans (by assumption) (by decide) | lia)), undig_append]
          have e3 : l + (m - l) = m := by (first | assumption | exact Int.natCast_nonneg _ | exact Nat.zero_le _ | exact Nat.le_refl _ | decide | exact Nat.le_trans (by assumption) (by decide) | lia)
          have e4 : r - l - (m - l) = r - m := by (first | assumption | exact Int.natCast_nonneg _ | exact Nat.zero_le _ | exact Nat.le_refl _ | decide | exact Nat.le_trans (by assumption) (by decide) | lia)
          rw [e3, e4, Int.toNat_natCast]
          have e5 : ((ds.drop l).take (m - l)).length = m - l := by simp; (first | assumption | exact Int.natCast_nonneg _ | exact Nat.zero_le _ | exact Nat.le_refl _ | decide | exact Nat.le_trans (by assumption) (by decide) | lia)
          rw [e5, Int.mul_comm, Int.add_comm]
end Mine
end


/-! part F17 -/
section
open PySem PySem.W PyProof.Rows PySem.Calls PySem.Spec
set_option Elab.async false
set_option linter.unusedVariables false
set_option maxRecDepth 100000
namespace Mine
section
variable {c : Cx} {A : Around} {env : Env} {σ : Sig}
theorem tr_int {e : Expr} {i : Int} (h : Ev c A env σ e (.int i)) (he : isTrue e env (eval e env) = (do let v ← eval e env; standAt e.pos; holding [v] (truthy v)) := by rfl) : Tr c A env σ e (i != 0) := fun G s ok =>
  wpAny_isTrue_value ((h G s ok).use fun v G1 s1 g1 r1 => by
    (first | obtain rfl := r1.inv0 | obtain ⟨_, rfl⟩ := r1.inv | obtain rfl := r1.inv | cases r1)
    exact truthy_int ⟨rfl, G1, g1⟩) he
theorem tr_lst {e : Expr} {ds : List D} (h : Ev c A env σ e (.lst ds)) (hz : ds.length ≤ 1000000) (he : isTrue e env (eval e env) = (do let v ← eval e env; standAt e.pos; holding [v] (truthy v)) := by rfl) : Tr c A env σ e (!ds.isEmpty) := fun G s ok =>
  wpAny_isTrue_value ((h G s ok).use fun v G1 s1 g1 r1 => by
    obtain ⟨a, vs, n, rfl, g, r⟩ := r1.inv
    · refine wpAny_truthy_list (items := vs.toArray) ⟨_, g1.on.at g rfl, rfl, _, rfl⟩ ?_ ⟨?_, G1, g1.trans (Grow.toks g1.on _)⟩
      · have := r.length
        simp; lia
      · have := r.length
        cases vs <;> cases ds <;> first | rfl | cases this) he
end
def posOf : Stmt → Pos
  | .FunctionDef _ _ _ _ _ _ _ _ _ pos => pos
  | _ => default
set_option maxHeartbeats 2000000 in
theorem fn_digits2int {c : Cx} {A : Around} {a : Addr} {q : TabRec} {ds : List Int} (hA : AOk A (ds.length + 4)) (D : DefAtC c a (stmtN 7) q) (hpos : posOf (inS 7 0) = q.pos) (hqual : q7 = q.qual) (B : Builts c) (hb : Bits ds) (hl : ds.length ≤ 40) :
    Fn c A (.ref a) [.lst (ds.map .int), .int 1] (.int (undig ds)) := by
  refine fn_atC (n := ds.length + 3) (names := [Str.ofString "digits", Str.ofString "n"]) hA D rfl (by decide +kernel) (fun pm code vs h => ?_) rfl (by decide) (fun pm code L x hx => ?_) (fun pm L hF hA' => ?_) rfl rfl
  · (obtain ⟨v, w, rfl⟩ := len2 h; rfl)
  · simp only [List.mem_cons, List.not_mem_nil, or_false] at hx
    rcases hx with rfl | rfl <;> exact .inr ⟨rfl, _, rfl⟩
  · conv => arg 5; whnf
    have hE := hF.ok
    refine ex_cons (ex_def (clos := clos7 L) hF (.inr ⟨rfl, _, rfl⟩) D.hq D.hdis D.hoff rfl rfl hqual hpos rfl rfl rfl fun f o c' oc hO => ?_)
    have hcap : ∀ σ : Sig, σ.lookup (Str.ofString "n") = some (.val (.int 1)) → σ.lookup (Str.ofString "inner") = some (.val (.fnv f o c' oc)) → σ.lookup (Str.ofString "digits") = some (.val (.lst (ds.map .int))) →
        ∀ G h, Sc (envAt (stmtN 7) pm (.ref q.code) L a) G h σ → CapOk (clos7 L) (cap7 f o c' oc ds) G h := fun σ e1 e2 e3 G h sc =>
      capOk_three rfl rfl rfl (cap_free sc e1 (.inr rfl) rfl) (cap_free sc e2 (.inr rfl) rfl) (cap_free sc e3 (.inr rfl) rfl)
    rw [← hqual] at hO
    refine ex_cons (ex_return hF (ev_if (x := !(ds.map Mine.D.int).isEmpty) (d := .int (undig ds)) (tr_lst (ev_name hE rfl) (by simp; (first | assumption | exact Int.natCast_nonneg _ | exact Nat.zero_le _ | exact Nat.le_refl _ | decide | exact Nat.le_trans (by assumption) (by decide) | lia))) (fun h => ?_) (fun h => ?_)) rfl)
    · have hne : 0 < ds.length := by
        cases ds with
        | nil => cases h
        | cons => exact Nat.succ_pos _
      refine (ev_callC (ds := [.int (0 : Nat), .int (ds.length : Nat)]) hE rfl hO.fd (hcap _ rfl rfl rfl) (evall_cons ev_int (evall_cons ((ev_lenL (ds := ds.map .int) (evv_built hE rfl B.len rfl) (evl_of (ev_name hE rfl)) (by simp; (first | assumption | exact Int.natCast_nonneg _ | exact Nat.zero_le _ | exact Nat.le_refl _ | decide | exact Nat.le_trans (by assumption) (by decide) | lia))).cast (by rw [List.length_map])) evall_nil)) (fnc_inner7 hO hb hl ds.length (hA'.le (by (first | assumption | exact Int.natCast_nonneg _ | exact Nat.zero_le _ | exact Nat.le_refl _ | decide | exact Nat.le_trans (by assumption) (by decide) | lia))) 0 ds.length hne (by (first | assumption | exact Int.natCast_nonneg _ | exact Nat.zero_le _ | exact Nat.le_refl _ | decide | exact Nat.le_trans (by assumption) (by decide) | lia)) (Nat.le_refl _))).cast ?_
      rw [List.drop_zero, Nat.sub_zero, List.take_length]
    · have : ds = [] := by
        cases ds with
        | nil => rfl
        | cons => cases h
      subst this
      exact ev_int
end Mine
end


/-! part F18 -/
section
open PySem PySem.W PyProof.Rows PySem.Calls PySem.Spec
set_option Elab.async false
set_option linter.unusedVariables false
set_option maxRecDepth 100000
namespace Mine
/-! the plain side -/
noncomputable def bitsOf (x : Nat) : Nat → List Int
  | 0 => []
  | k + 1 => ((x % 2 : Nat) : Int) :: bitsOf (x / 2) k
theorem bitsOf_len (k : Nat) : ∀ x, (bitsOf x k).length = k := by
  induction k with
  | zero => intro x; rfl
  | succ k ih => intro x; show (bitsOf (x / 2) k).length + 1 = _; rw [ih]
theorem bitsOf_split (k : Nat) : ∀ (m x : Nat), bitsOf x (m + k) = bitsOf (x % 2 ^ m) m ++ bitsOf (x / 2 ^ m) k := by
  intro m
  induction m with
  | zero => intro x; simp [bitsOf]
  | succ m ih =>
    intro x
    rw [show m + 1 + k = (m + k) + 1 by (first | assumption | exact Int.natCast_nonneg _ | exact Nat.zero_le _ | exact Nat.le_refl _ | decide | exact Nat.le_trans (by assumption) (by decide) | lia)]
    show ((x % 2 : Nat) : Int) :: bitsOf (x / 2) (m + k) = ((x % 2 ^ (m + 1) % 2 : Nat) : Int) :: (bitsOf (x % 2 ^ (m + 1) / 2) m ++ bitsOf (x / 2 ^ (m + 1)) k)
    rw [ih (x / 2), show (2 : Nat) ^ (m + 1) = 2 * 2 ^ m by rw [Nat.pow_succ, Nat.mul_comm], Nat.mod_mul_right_mod, Nat.mod_mul_right_div_self, Nat.div_div_eq_div_mul]
theorem bitsOf_bits (k : Nat) : ∀ x, Bits (bitsOf x k) := by
  induction k with
  | zero => intro x d hd; cases hd
  | succ k ih =>
    intro x d hd
    rcases List.mem_cons.mp hd with rfl | hd
    · (first | assumption | exact Int.natCast_nonneg _ | exact Nat.zero_le _ | exact Nat.le_refl _ | decide | exact Nat.le_trans (by assumption) (by decide) | lia)
    · exact ih _ d hd
theorem xor_low (a j : Nat) : Builtin.bitXor (a : Int) ((a / 2 ^ j * 2 ^ j : Nat) : Int) = ((a % 2 ^ j : Nat) : Int) := by
  have h1 : a &&& (a / 2 ^ j * 2 ^ j) = a / 2 ^ j * 2 ^ j := by
    rw [← Nat.shiftRight_eq_div_pow, ← Nat.shiftLeft_eq]
    refine Nat.eq_of_testBit_eq fun i => ?_
    rw [Nat.testBit_and, Nat.testBit_shiftLeft, Nat.testBit_shiftRight]
    by_cases h : j ≤ i
    · rw [show j + (i - j) = i by (first | assumption | exact Int.natCast_nonneg _ | exact Nat.zero_le _ | exact Nat.le_refl _ | decide | exact Nat.le_trans (by assumption) (by decide) | lia)]; simp
    · simp [h]
  have h2 : Builtin.bitAnd (a : Int) ((a / 2 ^ j * 2 ^ j : Nat) : Int) = ((a / 2 ^ j * 2 ^ j : Nat) : Int) := by
    unfold Builtin.bitAnd
    rw [decide_eq_true (show (0 : Int) ≤ (a : Int) by (first | assumption | exact Int.natCast_nonneg _ | exact Nat.zero_le _ | exact Nat.le_refl _ | decide | exact Nat.le_trans (by assumption) (by decide) | lia)), decide_eq_true (show (0 : Int) ≤ ((a / 2 ^ j * 2 ^ j : Nat) : Int) by (first | assumption | exact Int.natCast_nonneg _ | exact Nat.zero_le _ | exact Nat.le_refl _ | decide | exact Nat.le_trans (by assumption) (by decide) | lia))]
    show (((a : Int).toNat &&& ((a / 2 ^ j * 2 ^ j : Nat) : Int).toNat : Nat) : Int) = _
    rw [Int.toNat_natCast, Int.toNat_natCast, h1]
  rw [bitXor_and, h2]
  have h3 := Nat.div_add_mod a (2 ^ j)
  rw [Nat.mul_comm] at h3
  (first | assumption | exact Int.natCast_nonneg _ | exact Nat.zero_le _ | exact Nat.le_refl _ | decide | exact Nat.le_trans (by assumption) (by decide) | lia)
def put {α : Type} (l : Nat) (xs ds : List α) : List α := ds.take l ++ xs ++ ds.drop (l + xs.length)
theorem put_len {α : Type} {l : Nat} {xs ds : List α} (h : l + xs.length ≤ ds.length) : (put l xs ds).length = ds.length := by
  simp [put]; (first | assumption | exact Int.natCast_nonneg _ | exact Nat.zero_le _ | exact Nat.le_refl _ | decide | exact Nat.le_trans (by assumption) (by decide) | lia)
theorem put_put {α : Type} {l : Nat} {xs ys ds : List α} (h : l + xs.length + ys.length ≤ ds.length) : put (l + xs.length) ys (put l xs ds) = put l (xs ++ ys) ds := by
  have h1 : (ds.take l ++ xs).length = l + xs.length := by simp; (first | assumption | exact Int.natCast_nonneg _ | exact Nat.zero_le _ | exact Nat.le_refl _ | decide | exact Nat.le_trans (by assumption) (by decide) | lia)
  unfold put
  have e1 : (ds.take l ++ xs ++ ds.drop (l + xs.length)).take (l + xs.length) = ds.take l ++ xs := by
    rw [← h1, List.take_left]
  have e2 : (ds.take l ++ xs ++ ds.drop (l + xs.length)).drop (l + xs.length + ys.length) = ds.drop (l + (xs ++ ys).length) := by
    rw [← List.drop_drop, ← h1, List.drop_left, h1, List.drop_drop, List.length_append, Nat.add_assoc]
  rw [e1, e2]
  simp only [List.append_assoc]
theorem set_put {α : Type} {l : Nat} {d : α} {ds : List α} (h : l < ds.length) : ds.set l d = put l [d] ds := by
  rw [List.set_eq_take_append_cons_drop, if_pos h]
  simp [put]
theorem put_all {α : Type} {xs ds : List α} (h : xs.length = ds.length) : put 0 xs ds = xs := by
  simp [put, h]

/-! the list that a nested def changes -/
abbrev hid (la : Addr) (s : Shared) : Shared := { s with heap := hideAll s.heap [la] }
theorem hid_of {la b : Addr} {s : Shared} {o : Obj} (e : (hid la s).heap.get? b = some o) : s.heap.get? b = some o := of_hideAll _ e
theorem hid_ne {la b : Addr} {s : Shared} {o : Obj} (e : s.heap.get? b = some o) (h : b ≠ la) : (hid la s).heap.get? b = some o := hideAll_get _ e (by simpa using h)
theorem hid_none {la : Addr} {s : Shared} : (hid la s).heap.get? la = none := hideAll_none _ (.head _)
def Xl (la : Addr) (ws : List Value) (n : Nat) : Gh := Gh.none.add la (lstObj ws n)
def FnM (c : Cx) (A : Around) (f : Addr) (clos : List (Str × Addr)) (τ : Cap) (la : Addr) (args ds0 ds1 : List D) : Prop := ∀ G s vs, OnG c G s → c.Gl A s.heap → CapOk clos τ G s.heap → (∀ o, ¬ G la o) → c.base.get? la = none → RepAll G vs args →
  (∃ ws n, s.heap.get? la = some (lstObj ws n) ∧ RepAll G ws ds0) → wpAny (model c.prog c.w) A (call (.ref f) vs) (fun v s' => v = .none ∧ ∃ G', Grow c G (hid la s) G' s' ∧ (∀ o, ¬ G' la o) ∧ ∃ ws n, s'.heap.get? la = some (lstObj ws n) ∧ RepAll G' ws ds1) (fun _ _ => False) s
section
variable {c : Cx} {A : Around} {env : Env} {σ : Sig} {Φ : Post} {s₀ s : Shared} {G₀ X G : Gh}
theorem frOk_hid {la : Addr} {ws : List Value} {n : Nat} (h : FrOk c A s.heap) (ho : s.heap.get? la = some (lstObj ws n)) {h' : Heap} (hk : ∀ b o, b ≠ la → s.heap.get? b = some o → h'.get? b = some o) : FrOk c A h' := h.step fun L _ ⟨o, es, m, e, hd⟩ =>
  ⟨o, es, m, hk L o (fun q => by rw [q, ho] at e; cases e; cases hd) e, hd⟩
/-- the kept list is another one now -/
theorem StM.setX {m cm : Str → Option Value} {la : Addr} {ws ws' : List Value} {n n' : Nat} {h' : Heap} {tk : Nat} (hu : ∀ n a, (n, a) ∈ env.cells → env.cells.lookup n = some a) (h : StM c A s₀ G₀ (Gh.none.add la (lstObj ws n)) env σ G m cm s) (h0 : s₀.heap.get? la = none) (hk : ∀ b o, b ≠ la → s.heap.get? b = some o → h'.get? b = some o) (ho : h'.get? la = some (lstObj ws' n')) :
    StM c A s₀ G₀ (Gh.none.add la (lstObj ws' n')) env σ G m cm { s with heap := h', toks := tk } := by
  obtain ⟨q, hla, hf, hG, hown⟩ := h.dropX
  have hla' := hla.eq rfl
  exact (q.but (tk := tk) hk hf hG (fun _ e => e) h0 (frOk_hid q.gl.fr hla' hk) hown).addX ho hf hG hown
/-- a call that changes the kept list -/
theorem StM.mutX {m cm : Str → Option Value} {la : Addr} {ws ws' : List Value} {n n' : Nat} {G' : Gh} {s' : Shared} (hu : ∀ n a, (n, a) ∈ env.cells → env.cells.lookup n = some a) (h : StM c A s₀ G₀ (X.add la (lstObj ws n)) env σ G m cm s) (hX : ∀ o, ¬ X la o) (h0 : s₀.heap.get? la = none) (g : Grow c G (hid la s) G' s') (hG' : ∀ o, ¬ G' la o) (ho : s'.heap.get? la = some (lstObj ws' n')) :
    StM c A s₀ G₀ (X.add la (lstObj ws' n')) env σ G' m cm s' := by
  obtain ⟨q, hla, hf, hG, hown⟩ := h.dropX
  have hla' := hla.eq rfl
  have hk : ∀ b o, b ≠ la → s.heap.get? b = some o → (hideAll s.heap [la]).get? b = some o := fun b o hb e => hid_ne e hb
  have q1 : StM c A s₀ G₀ X env σ G m cm (hid la s) := q.but (tk := s.toks) hk hf hG hX h0 (frOk_hid q.gl.fr hla' hk) hown
  exact (q1.grow (q1.alive hu) g).addX ho hf hG' hown
theorem isCell_ne_list {a la : Addr} {v : Option Value} {ws : List Value} {n : Nat} {h : Heap} (x : h.IsCell a v) (ho : h.get? la = some (lstObj ws n)) : a ≠ la := fun q => by
  obtain ⟨o, e, hd⟩ := x
  rw [q, ho] at e; cases e; cases hd
theorem fnm_def {n : Nat} {name x qual : Str} {params : Arguments} {body : List Stmt} {scope : Scope} {f c' la : Addr} {o oc : Obj} {clos : List (Str × Addr)} {τ : Cap} {names : List Str} {ds ds0 ds1 : List D} (hA : AOk A (n + 1)) (hO : FnO name qual params body scope clos o c' oc) (hself : τ.lookup x = some (.fnv f o c' oc))
    (K : ClosOk scope clos τ) (hk : scope.kind = .function) (hτ : ∀ x ∈ τ.map (·.1), x ∈ clos.map (·.1)) (hloc : ∀ x ∈ names, scope.names.lookup x = some .local) (hcell : ∀ x ∈ scope.names, x.2 ≠ .cell) (hlen : names.length = ds.length) (hnd : names.Nodup)
    (hbind : ∀ doc pm ctv, ∀ vs : List Value, vs.length = ds.length → bindArgs (fnX name qual params body scope clos .none .none doc pm none (.ref c') ctv) ⟨vs, []⟩ = pure (names.zip vs))
    (h : ∀ L, EnvF (envX qual scope L f (.ref c') clos) → AOk (A.deeper (envX qual scope L f (.ref c') clos)) n → ∀ s₀ G s ws m, c.base.get? la = none → s₀.heap.get? la = none → St c (A.deeper (envX qual scope L f (.ref c') clos)) s₀ G (Xl la ws m) (envX qual scope L f (.ref c') clos) (names.zip (ds.map Sl.val) ++ τ.sig) G s → RepAll G ws ds0 →
      wpAny (model c.prog c.w) (A.deeper (envX qual scope L f (.ref c') clos)) (execs body (envX qual scope L f (.ref c') clos)) (fun fl s' => (fl = .next ∨ fl = .ret .none) ∧ ∃ G' σ' ws' m', St c (A.deeper (envX qual scope L f (.ref c') clos)) s₀ G (Xl la ws' m') (envX qual scope L f (.ref c') clos) σ' G' s' ∧ (∀ a o, G a o → G' a o) ∧ RepAll G' ws' ds1) (fun _ _ => False) s)
    (hco : scope.isCoroutine = false := by rfl) (hgen : scope.isGenerator = false := by rfl) : FnM c A f clos τ la ds ds0 ds1 := fun G s vs on gl cap hGla hb0 r ⟨ws, m, hla, rw0⟩ => by
  obtain ⟨⟨doc, pm, ctv, rfl⟩, xs, t, hd, hv⟩ := hO
  obtain ⟨_, _, _, _, rf⟩ := cap x _ hself
  cases rf with
  | fnv g1 g2 =>
    have ho := on.at g1 rfl
    have hoc := (on.has _ _ g2).eq (isD_fields hd)
    refine wpAny_call (codeAny_call_def (fd := fnX name qual params body scope clos .none .none doc pm none (.ref c') ctv) (body := body) (binds := names.zip vs) (by have := hA.dep; (first | assumption | exact Int.natCast_nonneg _ | exact Nat.zero_le _ | exact Nat.le_refl _ | decide | exact Nat.le_trans (by assumption) (by decide) | lia)) ho rfl gl.top.nolimit ⟨c', oc, xs, t, rfl, hoc, hd, hv⟩ rfl (.of_eq (hbind doc pm ctv vs r.length)) hcell ?_ ?_ hco hgen hk)
    · exact fun y hy => hloc y.1 (List.of_mem_zip (show (y.1, y.2) ∈ names.zip vs from hy)).1
    · intro h₁ hns hk₁
      have hne : ∀ {b : Addr} {o : Obj}, c.base.get? b = some o → b ≠ la := fun e q => by rw [q, hb0] at e; cases e
      have st := st_startX (s₀ := hid la s) (X := Xl la ws m) (qual := qual) (f := f) (cd := .ref c') (tk := s.toks + (names.zip vs).length) on gl r hlen hnd cap K hk hns hk₁ hloc hτ ⟨s.heap, s.toks, rfl⟩ (fun _ _ e => hid_of e) (Nat.le_of_eq (hideAll_size _ _)) (fun b o e => hid_ne (gl.stays _ _ e) (hne e))
        (fun q hq a ha e => by
          obtain ⟨C, ps, hP, _⟩ := on.tab q hq
          rcases ha with rfl | rfl
          · obtain ⟨o, vs', file, tf, flags, tg, inF, text, tt, e1, e2, _⟩ := C
            rw [hid_ne e1 (fun z => by rw [z, hla] at e1; cases e1; exact Value.type.noConfusion e2 fun y => absurd y (by decide))] at e; cases e
          · rw [hid_ne hP (fun z => by rw [z, hla] at hP; cases hP)] at e; cases e)
        (fun n a hm => by
          obtain ⟨d, hd⟩ := K.cov n (mem_names hm)
          obtain ⟨a', v, e1, e2, _⟩ := cap n d hd
          rw [K.hu n a hm] at e1; cases e1
          have := isCell_ne_list e2 hla
          obtain ⟨o, e3, _⟩ := e2
          exact ⟨o, hid_ne e3 this⟩) (fun a o e => by
          rcases e with e | ⟨rfl, rfl⟩
          · exact e.elim
          · exact .of hla) (fun a o e o' e' => by
          rcases e' with e' | ⟨rfl, rfl⟩
          · exact e'
          · exact hGla _ e)
      refine wpAny_mono (h s.heap.objs.size (envF_X hk K) (hA.deeper _) (hid la s) G _ ws m hb0 hid_none st rw0) (fun fl s' q => ?_) fun _ _ x => x.elim
      obtain ⟨hfl, G', σ', ws', m', ⟨mm, cm, q⟩, hG, r'⟩ := q
      have hres : ∃ G', Grow c G (hid la s) G' s' ∧ (∀ o, ¬ G' la o) ∧ ∃ ws n, s'.heap.get? la = some (lstObj ws n) ∧ RepAll G' ws ds1 := ⟨G', ⟨⟨q.fr.same, q.fr.kh, fun z => q.gl.stays⟩, hG, q.on, q.new⟩, fun o e => q.gX _ _ e _ Gh.add_self, ws', m', (q.xon _ _ Gh.add_self).eq rfl, r'⟩
      rcases hfl with rfl | rfl
      · exact ⟨rfl, hres⟩
      · exact ⟨rfl, hres⟩
/-- a call of such a def, as a statement -/
theorem wp_callM {x : Str} {px : Pos} {e : Expr} {es : List Expr} {pos spos : Pos} {f c' la : Addr} {o oc : Obj} {clos : List (Str × Addr)} {τ : Cap} {ds ds0 ds1 : List D} {ws : List Value} {n : Nat} {Q : Flow → Shared → Prop} {E : Value → Shared → Prop} (hF : EnvF env) (st : St c A s₀ G₀ (Xl la ws n) env σ G s) (h0 : s₀.heap.get? la = none) (hb0 : c.base.get? la = none) (rw0 : RepAll G ws ds0)
    (hf : σ.lookup x = some (.val (.fnv f o c' oc))) (hO : ∃ fd, o.data = .func fd)
    (hcap : ∀ G h, Sc env G h σ → CapOk clos τ G h) (ha : EvAll c A env σ (e :: es) ds) (h : FnM c A f clos τ la ds ds0 ds1)
    (hQ : ∀ G' s' ws' n', St c A s₀ G₀ (Xl la ws' n') env σ G' s' → (∀ a o, G a o → G' a o) → RepAll G' ws' ds1 → Q .next s') (hd : (x == ("__debug__" : Str)) = false := by decide)
    (hc : eval (.Call (.Name x px) (e :: es) [] pos) env = (do callWith pos (← eval (.Name x px) env) [] (backTo pos (starEach (e :: es) env)) (backToKw pos (keywordEach [] env))) := by rfl)
    (he : starEach (e :: es) env = (false, eval e env) :: starEach es env := by rfl) (hp : (backTo pos (starEach es env)).any (·.1) = false := by rfl)
    (hi : interactive env = false := by rfl) (hsw : swapsWith (.Call (.Name x px) (e :: es) [] pos) none spos.line env = pure false := by rfl) : wpAny (model c.prog c.w) A (exec (.Expr (.Call (.Name x px) (e :: es) [] pos) spos) env) Q E s := by
  refine wpAny_Expr_any ?_ hi hsw
  obtain ⟨fd, hO⟩ := hO
  obtain ⟨v, rd, q⟩ := st.ok.sc x _ hf
  have q' : Rep G v (.fnv f o c' oc) := q
  cases q' with
  | fnv g1 g2 =>
    have hs : soft o = false := by unfold soft isD isT; rw [hO]; simp
    refine Call_ (wpAny_Name (loadName_of hF.ok rd ?_) hd) hc
    have ha' : wpAny (model c.prog c.w) A (spliced (backTo pos (starEach (e :: es) env))) (fun vs s1 => (s1.heap.get? f = some o ∧ o.data = .func fd) ∧ wpAny (model c.prog c.w) A (call (.ref f) vs) (fun _ => Q .next) E s1) E s := by
      refine ha.use st.ok fun vs G1 s1 gr r1 => ⟨⟨gr.on.at (gr.sub _ _ g1) hs, hO⟩, ?_⟩
      have st1 := st.grow hF gr
      obtain ⟨m, cm, y⟩ := st1
      refine wpAny_mono (h G1 s1 vs y.on y.gl (hcap _ _ y.ok.sc) (fun o e => y.gX _ _ e _ Gh.add_self) hb0 r1 ⟨ws, n, (y.xon _ _ Gh.add_self).eq rfl, rw0.mono gr.sub⟩) (fun v s2 ⟨_, G2, g2, hG2, ws', n', ho, r2⟩ => ?_) fun _ _ x => x.elim
      exact hQ G2 s2 ws' n' ⟨m, cm, y.mutX hF.hu (fun _ e => e) h0 g2 hG2 ho⟩ (fun _ _ e => g2.sub _ _ (gr.sub _ _ e)) r2
    rw [he] at ha' ⊢
    exact callWith_function (first := []) (evalArgs_plain ha')
end
end Mine
end


/-! part F19 -/
section
open PySem PySem.W PyProof.Rows PySem.Calls PySem.Spec
set_option Elab.async false
set_option linter.unusedVariables false
set_option maxRecDepth 100000
namespace Mine
section
variable {c : Cx} {A : Around} {env : Env} {σ : Sig} {Φ : Post} {s₀ s : Shared} {G₀ X G : Gh}
theorem at_ifT {t : Expr} {a b : List Stmt} {pos : Pos} {Q : Flow → Shared → Prop} {E : Value → Shared → Prop} (hF : EnvF env) (st : St c A s₀ G₀ X env σ G s) (ht : Tr c A env σ t true) (k : ∀ G' s', St c A s₀ G₀ X env σ G' s' → (∀ a o, G a o → G' a o) → wpAny (model c.prog c.w) A (execs a env) Q E s') :
    wpAny (model c.prog c.w) A (exec (.If t a b pos) env) Q E s :=
  wpAny_If (ht.use st.ok fun G1 s1 g1 => k G1 s1 (st.grow hF g1) g1.sub)
theorem wp_setX {x : Str} {px ppos pos : Pos} {i e : Expr} {la : Addr} {ws : List Value} {n : Nat} {ds0 : List D} {d : D} {k : Int} {Q : Flow → Shared → Prop} {E : Value → Shared → Prop} (hF : EnvF env) (st : St c A s₀ G₀ (Xl la ws n) env σ G s) (h0' : s₀.heap.get? la = none) (rw0 : RepAll G ws ds0) (hx : σ.lookup x = some (.val (.adr la))) (he : Ev c A env σ e d) (hi : Ev c A env σ i (.int k)) (h0 : 0 ≤ k) (h1 : k < 2 ^ 63) (h2 : k < ds0.length)
    (hQ : ∀ G' s' ws', St c A s₀ G₀ (Xl la ws' n) env σ G' s' → (∀ a o, G a o → G' a o) → RepAll G' ws' (ds0.set k.toNat d) → Q .next s') (hd : (x == ("__debug__" : Str)) = false := by decide)
    (hsw : swapsWith e (some (.Subscript (.Name x px) i ppos)) pos.line env = pure false := by rfl) : wpAny (model c.prog c.w) A (exec (.Assign [.Subscript (.Name x px) i ppos] e pos) env) Q E s := by
  refine wpAny_Assign_Subscript ((he G s st.ok).use fun v G1 s1 g1 r1 => ?_) hsw
  have st1 := st.grow hF g1
  obtain ⟨u, rd, hu⟩ := st1.ok.sc x _ hx
  have hu' : Rep G1 u (.adr la) := hu
  (first | obtain rfl := hu'.inv0 | obtain ⟨_, rfl⟩ := hu'.inv | obtain rfl := hu'.inv | cases hu')
  refine wpAny_Name (loadName_of hF.ok rd ?_) hd
  refine (hi G1 s1 st1.ok).use fun w G2 s2 g2 r2 => ?_
  obtain ⟨m, cm, y⟩ := st1.grow hF g2
  (first | obtain rfl := r2.inv0 | obtain ⟨_, rfl⟩ := r2.inv | obtain rfl := r2.inv | cases r2)
  have r : RepAll G2 ws ds0 := RepAll.mono (fun _ _ e => g2.sub _ _ (g1.sub _ _ e)) rw0
  refine wp_setItem ((y.xon _ _ Gh.add_self).eq rfl) h0 h1 (by rw [r.length]; exact h2) fun h' ho' hs => ?_
  exact hQ G2 _ _ ⟨m, cm, y.setX (tk := s2.toks) hF.hu h0' (fun b o hb e => hs.extBut b o hb e) ho'⟩ (fun _ _ e => g2.sub _ _ (g1.sub _ _ e)) (r.set (r1.mono g2.sub) _)
end
abbrev clos6 (L : Addr) : List (Str × Addr) := [(Str.ofString "n", L + 1), (Str.ofString "inner", L + 3), (Str.ofString "a_digits", L + 2)]
abbrev cap6 (f : Addr) (o : Obj) (c' : Addr) (oc : Obj) (la : Addr) : Cap := [(Str.ofString "n", .int 1), (Str.ofString "inner", .fnv f o c' oc), (Str.ofString "a_digits", .adr la)]
abbrev q6 : Str := Str.ofString "_int2digits.<locals>.inner"
theorem clos6_ok (L f : Addr) (o : Obj) (c' : Addr) (oc : Obj) (la : Addr) : ClosOk (scopeOf (inS 6 1)) (clos6 L) (cap6 f o c' oc la) :=
  ⟨clos_ap (by decide), by show ([Str.ofString "n", Str.ofString "inner", Str.ofString "a_digits"] : List Str).Nodup; decide, fun x hx => by
    simp only [List.map_cons, List.map_nil, List.mem_cons, List.not_mem_nil, or_false] at hx
    rcases hx with rfl | rfl | rfl <;> exact ⟨rfl, rfl⟩, fun x hx => by
    simp only [List.map_cons, List.map_nil, List.mem_cons, List.not_mem_nil, or_false] at hx
    rcases hx with rfl | rfl | rfl <;> exact ⟨_, rfl⟩⟩
def sigI (f : Addr) (o : Obj) (c' : Addr) (oc : Obj) (la : Addr) (x l r m : Nat) : Sig :=
  [(Str.ofString "lower", .val (.int (x % 2 ^ (m - l) : Nat))), (Str.ofString "upper", .val (.int (x / 2 ^ (m - l) : Nat))), (Str.ofString "shift", .val (.int (m - l : Nat))), (Str.ofString "mid", .val (.int m)), (Str.ofString "x", .val (.int x)), (Str.ofString "L", .val (.int l)), (Str.ofString "R", .val (.int r)),
    (Str.ofString "n", .val (.int 1)), (Str.ofString "inner", .val (.fnv f o c' oc)), (Str.ofString "a_digits", .val (.adr la))]
set_option maxHeartbeats 2000000 in
theorem fnm_inner6 {c : Cx} {L0 f c' la : Addr} {o oc : Obj} (hO : FnO (Str.ofString "inner") q6 (paramsOf (inS 6 1)) (bodyOf (inS 6 1)) (scopeOf (inS 6 1)) (clos6 L0) o c' oc) :
    ∀ (k : Nat) {A : Around} (hA : AOk A (k + 1)) (x l r : Nat) (ds : List Int), l < r → r - l ≤ k → k ≤ 40 → r ≤ ds.length → ds.length ≤ 60 → x < 2 ^ (r - l) →
      FnM c A f (clos6 L0) (cap6 f o c' oc la) la [.int x, .int l, .int r] (ds.map .int) ((put l (bitsOf x (r - l)) ds).map .int) := by
  intro k
  induction k with
  | zero => intro A hA x l r ds h1 h2; (first | assumption | exact Int.natCast_nonneg _ | exact Nat.zero_le _ | exact Nat.le_refl _ | decide | exact Nat.le_trans (by assumption) (by decide) | lia)
  | succ k ih =>
    intro A hA x l r ds h1 h2 hk40 h3 h60 hx
    refine fnm_def (n := k + 1) (x := Str.ofString "inner") (names := [Str.ofString "x", Str.ofString "L", Str.ofString "R"]) hA hO rfl (clos6_ok _ _ _ _ _ _) rfl ?_ ?_ (by decide +kernel) rfl (by decide) (fun doc pm ctv vs h => ?_) (fun L hF hA' s₀ G s ws m0 hb0 h0 st rw0 => ?_)
    · intro x hx
      exact hx
    · intro x hx
      simp only [List.mem_cons, List.not_mem_nil, or_false] at hx
      rcases hx with rfl | rfl | rfl <;> rfl
    · (obtain ⟨v, w, u, rfl⟩ := len3 h; rfl)
    · have hE := hF.ok
      conv in bodyOf (inS 6 1) => whnf
      have hcap : ∀ σ : Sig, σ.lookup (Str.ofString "n") = some (.val (.int 1)) → σ.lookup (Str.ofString "inner") = some (.val (.fnv f o c' oc)) → σ.lookup (Str.ofString "a_digits") = some (.val (.adr la)) →
          ∀ G h, Sc (envX q6 (scopeOf (inS 6 1)) L f (.ref c') (clos6 L0)) G h σ → CapOk (clos6 L0) (cap6 f o c' oc la) G h := fun σ e1 e2 e3 G h sc =>
        capOk_three rfl rfl rfl (cap_free sc e1 (.inl rfl) rfl) (cap_free sc e2 (.inl rfl) rfl) (cap_free sc e3 (.inl rfl) rfl)
      by_cases hlr : l + 1 = r
      · have hr1 : r - l = 1 := by (first | assumption | exact Int.natCast_nonneg _ | exact Nat.zero_le _ | exact Nat.le_refl _ | decide | exact Nat.le_trans (by assumption) (by decide) | lia)
        rw [hr1] at hx
        have hx2 : x % 2 = x := Nat.mod_eq_of_lt (by simpa using hx)
        refine wpAny_execs_cons (at_ifT hF st ((tr_cmp1 (ev_add (x := (l : Int)) (ev_name hE rfl) ev_int) (ev_name hE rfl) cmp_eqI).cast (b' := true) ?_) fun G1 s1 st1 hG1 => ?_)
        · exact beq_iff_eq.mpr (by (first | assumption | exact Int.natCast_nonneg _ | exact Nat.zero_le _ | exact Nat.le_refl _ | decide | exact Nat.le_trans (by assumption) (by decide) | lia))
        · refine wpAny_execs_cons (wp_setX (k := (l : Int)) (d := .int x) hF st1 h0 (rw0.mono hG1) rfl (ev_name hE rfl) (ev_name hE rfl) (by lia) (by lia) (by rw [List.length_map]; lia) fun G2 s2 ws' st2 hG2 r2 => ?_)
          refine wpAny_execs_cons (wpAny_Return_none ⟨.inr rfl, G2, _, ws', m0, st2, fun _ _ e => hG2 _ _ (hG1 _ _ e), ?_⟩)
          rw [hr1, show put l (bitsOf x 1) ds = ds.set l (x : Int) by rw [set_put (by (first | assumption | exact Int.natCast_nonneg _ | exact Nat.zero_le _ | exact Nat.le_refl _ | decide | exact Nat.le_trans (by assumption) (by decide) | lia))]; show put l [((x % 2 : Nat) : Int)] ds = _; rw [hx2], List.map_set]
          simpa using r2
      · generalize hm : (l + r) / 2 = m
        have hm1 : l < m := by (first | assumption | exact Int.natCast_nonneg _ | exact Nat.zero_le _ | exact Nat.le_refl _ | decide | exact Nat.le_trans (by assumption) (by decide) | lia)
        have hm2 : m < r := by (first | assumption | exact Int.natCast_nonneg _ | exact Nat.zero_le _ | exact Nat.le_refl _ | decide | exact Nat.le_trans (by assumption) (by decide) | lia)
        have e1 : ((l : Int) + r).fdiv (2 ^ (1 : Int).toNat) = (m : Int) := by
          rw [shr_one _ (by (first | assumption | exact Int.natCast_nonneg _ | exact Nat.zero_le _ | exact Nat.le_refl _ | decide | exact Nat.le_trans (by assumption) (by decide) | lia)), ← hm]
          have : ((l : Int) + r).toNat = l + r := by (first | assumption | exact Int.natCast_nonneg _ | exact Nat.zero_le _ | exact Nat.le_refl _ | decide | exact Nat.le_trans (by assumption) (by decide) | lia)
          rw [this]
        have e2 : ((m : Int) - l) * 1 = ((m - l : Nat) : Int) := by (first | assumption | exact Int.natCast_nonneg _ | exact Nat.zero_le _ | exact Nat.le_refl _ | decide | exact Nat.le_trans (by assumption) (by decide) | lia)
        have hxb : x < 2 ^ 60 := Nat.lt_of_lt_of_le hx (Nat.pow_le_pow_right (by decide) (by (first | assumption | exact Int.natCast_nonneg _ | exact Nat.zero_le _ | exact Nat.le_refl _ | decide | exact Nat.le_trans (by assumption) (by decide) | lia)))
        have e3 : (x : Int).fdiv (2 ^ (((m - l : Nat) : Int)).toNat) = ((x / 2 ^ (m - l) : Nat) : Int) := by
          rw [Int.toNat_natCast, show (2 : Int) ^ (m - l) = ((2 ^ (m - l) : Nat) : Int) by push_cast; rfl, Int.fdiv_eq_ediv_of_nonneg _ (Int.natCast_nonneg _)]
          rfl
        have e4 : ((x / 2 ^ (m - l) : Nat) : Int) * 2 ^ (((m - l : Nat) : Int)).toNat = ((x / 2 ^ (m - l) * 2 ^ (m - l) : Nat) : Int) := by
          rw [Int.toNat_natCast]; push_cast; rfl
        have hup : x / 2 ^ (m - l) < 2 ^ (r - m) := by
          rw [Nat.div_lt_iff_lt_mul (Nat.pow_pos (by decide)), ← Nat.pow_add, show r - m + (m - l) = r - l by (first | assumption | exact Int.natCast_nonneg _ | exact Nat.zero_le _ | exact Nat.le_refl _ | decide | exact Nat.le_trans (by assumption) (by decide) | lia)]
          exact hx
        have hlo : x % 2 ^ (m - l) < 2 ^ (m - l) := Nat.mod_lt _ (Nat.pow_pos (by decide))
        refine at_cons (τ := [(Str.ofString "x", .val (.int x)), (Str.ofString "L", .val (.int l)), (Str.ofString "R", .val (.int r)), (Str.ofString "n", .val (.int 1)), (Str.ofString "inner", .val (.fnv f o c' oc)), (Str.ofString "a_digits", .val (.adr la))]) st
          (ex_if (x := ((l : Int) + 1 == (r : Int))) (tr_cmp1 (ev_add (ev_name hE rfl) ev_int) (ev_name hE rfl) cmp_eqI) hF (fun h => absurd (eq_of_beq h) (by (first | assumption | exact Int.natCast_nonneg _ | exact Nat.zero_le _ | exact Nat.le_refl _ | decide | exact Nat.le_trans (by assumption) (by decide) | lia))) (fun h => ex_nil ⟨rfl, rfl⟩)) fun G1 s1 st1 hG1 => ?_
        refine at_cons st1 (ex_assign (d := .int m) hF (.inl rfl) ((ev_shr (ev_add (x := (l : Int)) (y := (r : Int)) (ev_name hE rfl) (ev_name hE rfl)) ev_int (by decide)).cast (by rw [e1])) ⟨rfl, rfl⟩) fun G2 s2 st2 hG2 => ?_
        refine at_cons st2 (ex_assign (d := .int (m - l : Nat)) hF (.inl rfl) ((ev_mul (y := 1) (ev_sub (x := (m : Int)) (y := (l : Int)) (ev_name hE rfl) (ev_name hE rfl)) (ev_name hE rfl) (mulOk_right (by decide))).cast (by rw [e2])) ⟨rfl, rfl⟩) fun G3 s3 st3 hG3 => ?_
        refine at_cons st3 (ex_assign (d := .int (x / 2 ^ (m - l) : Nat)) hF (.inl rfl) ((ev_shr (x := (x : Int)) (y := ((m - l : Nat) : Int)) (ev_name hE rfl) (ev_name hE rfl) (by (first | assumption | exact Int.natCast_nonneg _ | exact Nat.zero_le _ | exact Nat.le_refl _ | decide | exact Nat.le_trans (by assumption) (by decide) | lia))).cast (by rw [e3])) ⟨rfl, rfl⟩) fun G4 s4 st4 hG4 => ?_
        refine at_cons (τ := sigI f o c' oc la x l r m) st4 (ex_assign (d := .int (x % 2 ^ (m - l) : Nat)) hF (.inl rfl) ((ev_xor (x := (x : Int)) (ev_name hE rfl) (ev_shl (x := ((x / 2 ^ (m - l) : Nat) : Int)) (y := ((m - l : Nat) : Int)) (ev_name hE rfl) (ev_name hE rfl) (by (first | assumption | exact Int.natCast_nonneg _ | exact Nat.zero_le _ | exact Nat.le_refl _ | decide | exact Nat.le_trans (by assumption) (by decide) | lia)) (by (first | assumption | exact Int.natCast_nonneg _ | exact Nat.zero_le _ | exact Nat.le_refl _ | decide | exact Nat.le_trans (by assumption) (by decide) | lia)) ?_)).cast (by rw [e4, xor_low])) ⟨rfl, rfl⟩) fun G5 s5 st5 hG5 => ?_
        · have := Nat.div_le_self x (2 ^ (m - l))
          rw [Int.natAbs_natCast]
          exact Nat.lt_of_le_of_lt this (Nat.lt_trans hxb (by decide))
        · have hG15 : ∀ a o, G a o → G5 a o := fun a o e => hG5 _ _ (hG4 _ _ (hG3 _ _ (hG2 _ _ (hG1 _ _ e))))
          have hl1 : (bitsOf (x % 2 ^ (m - l)) (m - l)).length = m - l := bitsOf_len _ _
          have hp1 : (put l (bitsOf (x % 2 ^ (m - l)) (m - l)) ds).length = ds.length := put_len (by rw [hl1]; (first | assumption | exact Int.natCast_nonneg _ | exact Nat.zero_le _ | exact Nat.le_refl _ | decide | exact Nat.le_trans (by assumption) (by decide) | lia))
          refine wpAny_execs_cons (wp_callM (x := Str.ofString "inner") (ds := [.int (x % 2 ^ (m - l) : Nat), .int l, .int m]) hF st5 h0 hb0 (rw0.mono hG15) rfl hO.fd (hcap _ rfl rfl rfl) (evall_cons (ev_name hE rfl) (evall_cons (ev_name hE rfl) (evall_cons (ev_name hE rfl) evall_nil))) (ih hA' (x % 2 ^ (m - l)) l m ds hm1 (by (first | assumption | exact Int.natCast_nonneg _ | exact Nat.zero_le _ | exact Nat.le_refl _ | decide | exact Nat.le_trans (by assumption) (by decide) | lia)) (by (first | assumption | exact Int.natCast_nonneg _ | exact Nat.zero_le _ | exact Nat.le_refl _ | decide | exact Nat.le_trans (by assumption) (by decide) | lia)) (by (first | assumption | exact Int.natCast_nonneg _ | exact Nat.zero_le _ | exact Nat.le_refl _ | decide | exact Nat.le_trans (by assumption) (by decide) | lia)) h60 hlo) fun G6 s6 ws6 n6 st6 hG6 r6 => ?_)
          refine wpAny_execs_cons (wp_callM (x := Str.ofString "inner") (ds := [.int (x / 2 ^ (m - l) : Nat), .int m, .int r]) hF st6 h0 hb0 r6 rfl hO.fd (hcap _ rfl rfl rfl) (evall_cons (ev_name hE rfl) (evall_cons (ev_name hE rfl) (evall_cons (ev_name hE rfl) evall_nil))) (ih hA' (x / 2 ^ (m - l)) m r _ hm2 (by (first | assumption | exact Int.natCast_nonneg _ | exact Nat.zero_le _ | exact Nat.le_refl _ | decide | exact Nat.le_trans (by assumption) (by decide) | lia)) (by (first | assumption | exact Int.natCast_nonneg _ | exact Nat.zero_le _ | exact Nat.le_refl _ | decide | exact Nat.le_trans (by assumption) (by decide) | lia)) (by rw [hp1]; exact h3) (by rw [hp1]; exact h60) hup) fun G7 s7 ws7 n7 st7 hG7 r7 => ?_)
          refine wpAny_execs_nil ⟨.inl rfl, G7, _, ws7, n7, st7, fun _ _ e => hG7 _ _ (hG6 _ _ (hG15 _ _ e)), ?_⟩
          have e5 : put m (bitsOf (x / 2 ^ (m - l)) (r - m)) (put l (bitsOf (x % 2 ^ (m - l)) (m - l)) ds) = put l (bitsOf x (r - l)) ds := by
            have := put_put (l := l) (xs := bitsOf (x % 2 ^ (m - l)) (m - l)) (ys := bitsOf (x / 2 ^ (m - l)) (r - m)) (ds := ds) (by rw [hl1, bitsOf_len]; (first | assumption | exact Int.natCast_nonneg _ | exact Nat.zero_le _ | exact Nat.le_refl _ | decide | exact Nat.le_trans (by assumption) (by decide) | lia))
            rw [hl1, show l + (m - l) = m by (first | assumption | exact Int.natCast_nonneg _ | exact Nat.zero_le _ | exact Nat.le_refl _ | decide | exact Nat.le_trans (by assumption) (by decide) | lia), ← bitsOf_split, show m - l + (r - m) = r - l by (first | assumption | exact Int.natCast_nonneg _ | exact Nat.zero_le _ | exact Nat.le_refl _ | decide | exact Nat.le_trans (by assumption) (by decide) | lia)] at this
            exact this
          rw [← e5]
          exact r7
end Mine
end


/-! part F20 -/
section
open PySem PySem.W PyProof.Rows PySem.Calls PySem.Spec
set_option Elab.async false
set_option linter.unusedVariables false
set_option maxRecDepth 100000
namespace Mine
section
variable {c : Cx} {A : Around} {env : Env} {σ : Sig} {Φ : Post} {s₀ s : Shared} {G₀ X G : Gh}
theorem StM.name {m cm : Str → Option Value} {x : Str} {v : Value} {d : D} (h : StM c A s₀ G₀ X env σ G m cm s) (hv : Stands env m cm x v) (r : Rep G v d) : StM c A s₀ G₀ X env ((x, .val d) :: σ) G m cm s := by
  refine ⟨h.fr, h.gl, h.gl0, h.above, h.old, h.tb, h.on, h.g0, h.new, h.gF, h.xon, h.xF, h.gX, fun y sl e => ?_, fun y z d1 d2 w e1 e2 s1 s2 => ?_⟩
  · rw [List.lookup_cons] at e
    cases q : y == x with
    | true => rw [q] at e; cases e; rw [beq_iff_eq.mp q]; exact ⟨v, hv, r⟩
    | false => rw [q] at e; exact h.nm y sl e
  · rw [List.lookup_cons] at e1 e2
    cases q : y == x with
    | true => rw [q] at e1; cases e1
    | false =>
      cases q' : z == x with
      | true => rw [q'] at e2; cases e2
      | false => rw [q] at e1; rw [q'] at e2; exact h.dis y z d1 d2 w e1 e2 s1 s2
def NoOwn (τ : Sig) : Prop := ∀ x ds, τ.lookup x ≠ some (.own ds)
theorem noOwn_of {τ : Sig} (h : τ.all (fun p => match p.2 with | .val _ => true | .own _ => false) = true) : NoOwn τ := fun x ds e => by
  have := List.all_eq_true.mp h _ (mem_of_lookup e)
  cases this
theorem StM.ownBack {m cm : Str → Option Value} {x : Str} {la : Addr} {ws : List Value} {n : Nat} {ds : List D} (h : StM c A s₀ G₀ (X.add la (lstObj ws n)) env σ G m cm s) (hX : ∀ o, ¬ X la o) (h0 : s₀.heap.get? la = none) (hv : Stands env m cm x (.ref la)) (r : RepAll G ws ds) (hno : NoOwn σ) : StM c A s₀ G₀ X env ((x, .own ds) :: σ) G m cm s := by
  obtain ⟨q, hla, hf, hG, hown⟩ := h.dropX
  refine ⟨q.fr, q.gl, q.gl0, q.above, q.old, q.tb, q.on, q.g0, q.new, q.gF, q.xon, q.xF, q.gX, fun y sl e => ?_, fun y z d1 d2 w e1 e2 s1 s2 => ?_⟩
  · rw [List.lookup_cons] at e
    cases k : y == x with
    | true => rw [k] at e; cases e; rw [beq_iff_eq.mp k]; exact ⟨_, hv, la, ws, n, rfl, hla.eq rfl, r, hG, hX, h0, hf⟩
    | false => rw [k] at e; exact q.nm y sl e
  · rw [List.lookup_cons] at e1 e2
    cases k : y == x with
    | true =>
      cases k' : z == x with
      | true => rw [beq_iff_eq.mp k, beq_iff_eq.mp k']
      | false => rw [k'] at e2; exact absurd e2 (hno _ _)
    | false => rw [k] at e1; exact absurd e1 (hno _ _)
/-- a call of a def that changes the frame's own list -/
theorem ex_callOwn {x y : Str} {px : Pos} {e : Expr} {es : List Expr} {pos spos : Pos} {f c' : Addr} {o oc : Obj} {clos : List (Str × Addr)} {κ : Addr → Cap} {ds ds0 ds1 : List D} {τ : Sig} (hF : EnvF env) (hy : σ.lookup y = some (.own ds0)) (hf : σ.lookup x = some (.val (.fnv f o c' oc))) (hO : ∃ fd, o.data = .func fd)
    (hτ : ∀ p ∈ τ, σ.lookup p.1 = some p.2) (hno : NoOwn τ) (hcap : ∀ la G h, Sc env G h ((y, .val (.adr la)) :: τ) → CapOk clos (κ la) G h) (ha : EvAll c A env σ (e :: es) ds) (h : ∀ la, FnM c A f clos (κ la) la ds ds0 ds1)
    (hQ : Φ .next ((y, .own ds1) :: τ)) (hd : (x == ("__debug__" : Str)) = false := by decide)
    (hc : eval (.Call (.Name x px) (e :: es) [] pos) env = (do callWith pos (← eval (.Name x px) env) [] (backTo pos (starEach (e :: es) env)) (backToKw pos (keywordEach [] env))) := by rfl)
    (he : starEach (e :: es) env = (false, eval e env) :: starEach es env := by rfl) (hp : (backTo pos (starEach es env)).any (·.1) = false := by rfl)
    (hi : interactive env = false := by rfl) (hsw : swapsWith (.Call (.Name x px) (e :: es) [] pos) none spos.line env = pure false := by rfl) : Ex1 c A env σ (.Expr (.Call (.Name x px) (e :: es) [] pos) spos) Φ := fun s₀ G₀ X G s st => by
  refine wpAny_Expr_any ?_ hi hsw
  obtain ⟨fd, hO⟩ := hO
  obtain ⟨v, rd, q⟩ := st.ok.sc x _ hf
  have q' : Rep G v (.fnv f o c' oc) := q
  cases q' with
  | fnv g1 g2 =>
    have hs : soft o = false := by unfold soft isD isT; rw [hO]; simp
    refine Call_ (wpAny_Name (loadName_of hF.ok rd ?_) hd) hc
    have ha' : wpAny (model c.prog c.w) A (spliced (backTo pos (starEach (e :: es) env))) (fun vs s1 => (s1.heap.get? f = some o ∧ o.data = .func fd) ∧ wpAny (model c.prog c.w) A (call (.ref f) vs) (fun _ s' => Done c A s₀ G₀ X env G Φ .next s') (fun _ _ => False) s1) (fun _ _ => False) s := by
      refine ha.use st.ok fun vs G1 s1 gr r1 => ⟨⟨gr.on.at (gr.sub _ _ g1) hs, hO⟩, ?_⟩
      obtain ⟨m, cm, z⟩ := st.grow hF gr
      obtain ⟨v, hv, la, ws, n, rfl, ho, r, q1, q2, q3, q4⟩ := z.nm y _ hy
      obtain ⟨m', cm', z'⟩ := st_sub hτ ⟨m, cm, z⟩
      have zt : StM c A s₀ G₀ X env τ G1 m cm s1 := by
        have up : ∀ x sl, τ.lookup x = some sl → σ.lookup x = some sl := fun x sl e => hτ (x, sl) (mem_of_lookup e)
        exact ⟨z.fr, z.gl, z.gl0, z.above, z.old, z.tb, z.on, z.g0, z.new, z.gF, z.xon, z.xF, z.gX, fun x sl e => z.nm x sl (up x sl e), fun x y ds es v e1 e2 => z.dis x y ds es v (up _ _ e1) (up _ _ e2)⟩
      have zx := zt.addX ho q4 q1 (fun y es w e _ _ => hno _ _ e)
      have zn : StM c A s₀ G₀ X env ((y, .val (.adr la)) :: τ) G1 m cm s1 := zt.name hv (.adr la)
      have hb0 : c.base.get? la = none := by
        cases q : c.base.get? la with
        | none => rfl
        | some o => have := z.gl0 _ _ q; rw [q3] at this; cases this
      refine wpAny_mono (h la G1 s1 vs z.on z.gl (hcap la _ _ zn.ok.sc) q1 hb0 r1 ⟨ws, n, ho, r⟩) (fun v s2 ⟨_, G2, g2, hG2, ws', n', ho2, r2⟩ => ?_) fun _ _ x => x
      exact ⟨G2, _, .next, ⟨m, cm, (zx.mutX hF.hu q2 q3 g2 hG2 ho2).ownBack q2 q3 hv r2 hno⟩, fun _ _ e => g2.sub _ _ (gr.sub _ _ e), trivial, hQ⟩
    rw [he] at ha' ⊢
    exact callWith_function (first := []) (evalArgs_plain ha')
end
set_option maxHeartbeats 2000000 in
theorem fn_int2digits {c : Cx} {A : Around} {a : Addr} {q : TabRec} {x : Nat} (hA : AOk A (Builtin.Int.intBits x + 4)) (D : DefAtC c a (stmtN 6) q) (hpos : posOf (inS 6 1) = q.pos) (hqual : q6 = q.qual) (B : Builts c) (hx : x < 2 ^ 30) :
    Fn c A (.ref a) [.int x, .int 1] (.lst ((bitsOf x (Builtin.Int.intBits x)).map .int)) := by
  refine fn_atC (n := Builtin.Int.intBits x + 3) (names := [Str.ofString "a", Str.ofString "n"]) hA D rfl (by decide +kernel) (fun pm code vs h => ?_) rfl (by decide) (fun pm code L y hy => ?_) (fun pm L hF hA' => ?_) rfl rfl
  · (obtain ⟨v, w, rfl⟩ := len2 h; rfl)
  · simp only [List.mem_cons, List.not_mem_nil, or_false] at hy
    rcases hy with rfl | rfl
    · exact .inl rfl
    · exact .inr ⟨rfl, _, rfl⟩
  · conv => arg 5; whnf
    have hE := hF.ok
    generalize hk : Builtin.Int.intBits (x : Int) = k at *
    have hkl : k ≤ 30 := by rw [← hk]; exact intBits_le_iff.mpr (by rw [Int.natAbs_natCast]; exact hx)
    have hx2 : x < 2 ^ k := by
      have := (intBits_le_iff (m := k) (x := (x : Int))).mp (Nat.le_of_eq hk)
      rwa [Int.natAbs_natCast] at this
    refine ex_cons (ex_assignF (ds := List.replicate k (.int 0)) hF (.inr ⟨rfl, _, rfl⟩) ?_ ?_)
    · have e1 : (((k : Nat) : Int) + 1 - 1).fdiv 1 = (k : Int) := by rw [Int.fdiv_one]; (first | assumption | exact Int.natCast_nonneg _ | exact Nat.zero_le _ | exact Nat.le_refl _ | decide | exact Nat.le_trans (by assumption) (by decide) | lia)
      refine evf_mul1 (d := .int 0) (n := (k : Int)) (ev_list (ds := [.int 0]) (evall_cons ev_int evall_nil) (by decide)) ((ev_fdiv (x := (k : Int) + 1 - 1) (y := 1) (ev_sub (ev_add ((ev_meth0 (ev_name hE (d := .int x) rfl) (hasM_int F.slot_int_bit_length F.type_int_bit_length) fn_bits).cast (by rw [hk])) (ev_name hE rfl)) ev_int) (ev_name hE rfl) (by decide) (by decide)).cast (by rw [e1])) (by (first | assumption | exact Int.natCast_nonneg _ | exact Nat.zero_le _ | exact Nat.le_refl _ | decide | exact Nat.le_trans (by assumption) (by decide) | lia)) (by (first | assumption | exact Int.natCast_nonneg _ | exact Nat.zero_le _ | exact Nat.le_refl _ | decide | exact Nat.le_trans (by assumption) (by decide) | lia))
    · refine ex_cons (ex_def (clos := clos6 L) hF (.inr ⟨rfl, _, rfl⟩) D.hq D.hdis D.hoff rfl rfl hqual hpos rfl rfl rfl fun f o c' oc hO => ?_)
      rw [← hqual] at hO
      have hcap : ∀ la G h, Sc (envAt (stmtN 6) pm (.ref q.code) L a) G h ((Str.ofString "a_digits", .val (.adr la)) :: [(Str.ofString "inner", .val (.fnv f o c' oc)), (Str.ofString "a", .val (.int x)), (Str.ofString "n", .val (.int 1))]) → CapOk (clos6 L) (cap6 f o c' oc la) G h := fun la G h sc =>
        capOk_three rfl rfl rfl (cap_free (x := Str.ofString "n") sc rfl (.inr rfl) rfl) (cap_free (x := Str.ofString "inner") sc rfl (.inr rfl) rfl) (cap_free (x := Str.ofString "a_digits") sc rfl (.inr rfl) rfl)
      refine ex_cons (ex_if (x := ((x : Int) != 0)) (tr_int (ev_name hE rfl)) hF (fun h => ?_) (fun h => ex_nil ?_))
      · have h0 : (x : Int) ≠ 0 := by simpa using h
        have hk0 : 0 < k := by
          rw [← hk]; unfold Builtin.Int.intBits
          rw [if_neg (by simpa using h0)]; (first | assumption | exact Int.natCast_nonneg _ | exact Nat.zero_le _ | exact Nat.le_refl _ | decide | exact Nat.le_trans (by assumption) (by decide) | lia)
        refine ex_cons (ex_callOwn (κ := fun la => cap6 f o c' oc la) (ds := [.int x, .int (0 : Nat), .int k]) (ds1 := (bitsOf x k).map .int) (τ := [(Str.ofString "inner", .val (.fnv f o c' oc)), (Str.ofString "a", .val (.int x)), (Str.ofString "n", .val (.int 1))]) hF rfl rfl hO.fd ?_ (noOwn_of rfl) hcap
          (evall_cons (ev_name hE rfl) (evall_cons ev_int (evall_cons ((ev_lenL (evv_built hE rfl B.len rfl) (evl_own hE rfl) (by rw [List.length_replicate]; (first | assumption | exact Int.natCast_nonneg _ | exact Nat.zero_le _ | exact Nat.le_refl _ | decide | exact Nat.le_trans (by assumption) (by decide) | lia))).cast (by rw [List.length_replicate])) evall_nil))) (fun la => ?_) (ex_nil (exs_freeze (x := Str.ofString "a_digits") rfl (ex_cons (ex_return hF (ev_name hE rfl) rfl)))))
        · exact sub_cons rfl (sub_cons rfl (sub_cons rfl sub_nil))
        · have := fnm_inner6 (c := c) (f := f) (la := la) hO k (hA'.le (by (first | assumption | exact Int.natCast_nonneg _ | exact Nat.zero_le _ | exact Nat.le_refl _ | decide | exact Nat.le_trans (by assumption) (by decide) | lia))) x 0 k (List.replicate k 0) hk0 (by (first | assumption | exact Int.natCast_nonneg _ | exact Nat.zero_le _ | exact Nat.le_refl _ | decide | exact Nat.le_trans (by assumption) (by decide) | lia)) (by (first | assumption | exact Int.natCast_nonneg _ | exact Nat.zero_le _ | exact Nat.le_refl _ | decide | exact Nat.le_trans (by assumption) (by decide) | lia)) (by rw [List.length_replicate]; (first | assumption | exact Int.natCast_nonneg _ | exact Nat.zero_le _ | exact Nat.le_refl _ | decide | exact Nat.le_trans (by assumption) (by decide) | lia)) (by rw [List.length_replicate]; (first | assumption | exact Int.natCast_nonneg _ | exact Nat.zero_le _ | exact Nat.le_refl _ | decide | exact Nat.le_trans (by assumption) (by decide) | lia)) (by rw [Nat.sub_zero]; exact hx2)
          rw [Nat.sub_zero, put_all (by rw [bitsOf_len, List.length_replicate]), List.map_replicate] at this
          exact this
      · have h0 : (x : Int) = 0 := by simpa using h
        have hk0 : k = 0 := by
          rw [← hk, h0]; rfl
        subst hk0
        exact exs_freeze (x := Str.ofString "a_digits") rfl (ex_cons (ex_return hF (ev_name hE rfl) rfl))
end Mine
end


/-! part T6N -/
section
open PySem PySem.W PyProof.Rows PySem.Calls PySem.Spec
set_option Elab.async false
set_option maxRecDepth 100000
namespace Mine
section
variable {prog : Program} {w : World} {A : Around} {R : Result → Shared → Prop} {s : Shared} {base : Heap} {outer : List Env} {K : Frag} {p : Program} {loose : List Str} {mean : ExcName → Option Value} {mg mb : Str → Option Value} {f : Addr}
  {name qual : Str} {params : Arguments} {body : List Stmt} {scope : Scope} {dV kV doc pm cdv ct oc : Value} {od : Option Addr} {osl : Array (Option Value)} {an : Option Addr} {args : Args} {binds : List (Str × Value)}
/-- a def is entered: the whole heap is what must stay -/
theorem code_whole (X : K.In s.heap) (T : Top p loose mean mg mb s.heap)
    (ho : K.lookup f = some ⟨oc, od, .func (fnOf name qual params body scope dV kV doc pm an cdv ct), osl⟩) (hcd : codeIn K cdv qual = true) (hroom : A.depth < recursionLimit)
    (hbind : BindsTo s (fnOf name qual params body scope dV kV doc pm an cdv ct) args binds) (hloc : ∀ y ∈ binds, scope.names.lookup y.1 = some .local)
    (h : ∀ L' h₁, Fr s.heap L' h₁ (fun y => binds.reverse.lookup y) → News s.heap L' h₁ [] →
      wpAny (model prog w) (A.deeper (envOf qual scope L' f cdv)) (execs body (envOf qual scope L' f cdv))
        (fun fl s' => R (.ok (.ret (match fl with | .ret v => v | _ => .none))) s')
        (fun e s' => wpAny (model prog w) (A.deeper (envOf qual scope L' f cdv)) (leaving (envOf qual scope L' f cdv) e) (fun _ s'' => R (.error e) s'') (fun e' s'' => R (.error e') s'') s')
        { s with heap := h₁, toks := s.toks + binds.length })
    (hco : scope.isCoroutine = false) (hgen : scope.isGenerator = false) (hk : scope.kind = .function)
    (hcell : ∀ x ∈ scope.names, x.2 ≠ .cell) : codeAny (model prog w) A (.call (.ref f) args) R s := by
  refine codeAny_call_def (fd := fnOf name qual params body scope dV kV doc pm an cdv ct) (body := body) (binds := binds) hroom (X _ _ ho) rfl T.nolimit (codeRec_of X hcd) rfl hbind hcell hloc (fun h₁ hns hk₁ => ?_) hco hgen hk
  exact h _ h₁ ⟨hns, hk₁, Nat.le_refl _⟩ News.nil
end
local macro_rules | `(tactic| k_room) => `(tactic| ktr_room)
local macro_rules | `(tactic| k_units) => `(tactic| ktr_units)
set_option maxHeartbeats 8000000 in
theorem heard_bad (w : World) (loose : List Str) (mean : ExcName → Option Value) (mg mb : Str → Option Value) (x : Str) (t : Tok) (hx : x.length ≤ 1000) (hbad : (Txt.slice x none (some 3) != Str.ofString "257") = true) :
   ∀ (dp un : Nat) (gd : Option (List Code)) (outer : List Env) (base : Heap) (s : Shared) (R : Result → Shared → Prop),
    Below { handled := none, depth := dp, frames := some outer, guards := gd, units := un } base outer s.heap → (Kf w.params).In base → (Kf w.params).In s.heap →
    Top topProg loose mean mg mb base → Top topProg loose mean mg mb s.heap → KtsDicts (outer.filterMap (·.frame)) s.heap →
    dp + 8 < recursionLimit → un + 80 < cLine →
    (∀ l g' h' tk' n u, KtsTurn (outer.filterMap (·.frame)) s.heap g' → (∀ b o, g'.get? b = some o → h'.get? b = some o) → h'.get? l = some (listOf #[.str x u] n) → g'.get? l = none → R (.ok (.ret (.ref l))) { s with heap := h', toks := tk' }) →
    codeAny (model PySem.Challenge.rw_to0024_01.row.prog w) { handled := none, depth := dp, frames := some outer, guards := gd, units := un } (.call (.ref 140) { pos := [.str x t] }) R s := by
  k_fill
  intro dp un gd outer base s R B XB X TB T D hd hu hret
  refine code_whole X T (by k_is) (by k_is) (by ktr_room) (BindsTo.of_eq rfl) (locs rfl) (fun L' h₁ F N => ?_) rfl rfl rfl (by decide)
  (try dsimp only); (try k_lift B); (try k_fold)
  k_steps
  rename Got _ _ _ _ _ => gG
  refine str_got (by ktr_units) (by k_in) (by assumption) gG (by k_is) (by k_is) ?_
  k_steps
  rename KtsTurn _ _ _ => hTurn
  rename Fr _ _ _ _ => hFr
  rename News _ _ _ [_] => hNw
  exact hret _ _ _ _ _ _ hTurn hFr.keep (hNw _ (.head _)).1 (hNw _ (.head _)).2.2
end Mine
end


/-! part L0 -/
section
open PySem PySem.W PyProof.Rows PySem.Calls PySem.Spec
set_option Elab.async false
set_option linter.unusedVariables false
set_option maxRecDepth 100000
namespace Mine
/-- the law's i-th statement -/
def lawS (i : Nat) : Stmt := (bodyOf (stmtN 19)).getD i (.Pass default)
abbrev lawEnv (pm code : Value) (L a : Addr) : Env := envAt (stmtN 19) pm code L a
/-- plain data, not deep -/
noncomputable def Gd (k : Nat) (d : D) : Prop := plainD d = true ∧ (toPy d).depth ≤ k
theorem Gd.le {k m : Nat} {d : D} (h : Gd k d) (hm : k ≤ m) : Gd m d := ⟨h.1, Nat.le_trans h.2 hm⟩
theorem gd_int (k : Nat) (i : Int) : Gd k (.int i) := ⟨rfl, Nat.zero_le _⟩
theorem gd_bool (k : Nat) (b : Bool) : Gd k (.bool b) := ⟨rfl, Nat.zero_le _⟩
theorem gd_str (k : Nat) {x : List Nat} (h : ∀ n ∈ x, n < 0x110000) : Gd k (.str x) := ⟨by
  show PyData.strOk (S x) = true
  unfold PyData.strOk
  simpa using h, Nat.zero_le _⟩
theorem gd_lst {k : Nat} {ds : List D} (h : ∀ d ∈ ds, Gd k d) : Gd (k + 1) (.lst ds) := by
  constructor
  · show plainAll ds = true
    induction ds with
    | nil => rfl
    | cons d ds ih =>
      show (plainD d && plainAll ds) = true
      rw [(h d (.head _)).1, ih fun x hx => h x (.tail _ hx)]; rfl
  · show PyData.depthAll (toPyAll ds) + 1 ≤ k + 1
    refine Nat.succ_le_succ ?_
    induction ds with
    | nil => exact Nat.zero_le _
    | cons d ds ih =>
      show max ((toPy d).depth) (PyData.depthAll (toPyAll ds)) ≤ k
      exact Nat.max_le.mpr ⟨(h d (.head _)).2, ih fun x hx => h x (.tail _ hx)⟩
theorem gd_ints (k : Nat) (ns : List Int) : Gd (k + 1) (.lst (ns.map .int)) := gd_lst fun d hd => by
  obtain ⟨i, _, rfl⟩ := List.mem_map.mp hd
  exact gd_int k i
/-- the functions of the text -/
structure LawC (c : Cx) (r6 r7 : TabRec) : Prop where
  B : Builts c
  parse : DefAt c 53 (stmtN 4)
  heard : DefAt c 140 (stmtN 11)
  bad : HeardBad c 140
  replies : DefAt c 145 (stmtN 12)
  reader : DefAt c 150 (stmtN 13)
  leads : DefAt c 155 (stmtN 14)
  nanny : DefAt c 160 (stmtN 15)
  lost : DefAt c 165 (stmtN 16)
  value : DefAt c 172 (stmtN 17)
  readings : DefAt c 179 (stmtN 18)
  ws : WsAt c 129 84 98
  wsI : MethAt c 84 (methN 1) (Str.ofString "Whitespace.__init__")
  wsJ : MethAt c 98 (methN 3) (Str.ofString "Whitespace.indent_level")
  i2d : DefAtC c 60 (stmtN 6) r6
  d2i : DefAtC c 67 (stmtN 7) r7
  pos6 : posOf (inS 6 1) = r6.pos
  qual6 : q6 = r6.qual
  pos7 : posOf (inS 7 0) = r7.pos
  qual7 : q7 = r7.qual
section
variable {c : Cx} {A : Around} {env : Env} {σ : Sig} {Φ : Post}
theorem evl_any {e : Expr} {ds : List D} (h : Ev c A env σ e (.lstA ds)) : EvL c A env σ e ds := fun G s ok =>
  (h G s ok).use fun v G' s' g r => ⟨G', g, by
    cases r with
    | @lstA a o vs n _ h1 h2 h3 h4 =>
      have hd : isD o = false := by unfold isD; rw [h3]
      exact ⟨_, _, rfl, ⟨o, (g.on.has _ _ h1).eq hd, h2, n, h3⟩, h4⟩⟩
/-- a call of a def of the text -/
theorem ev_callD {a : Addr} {st : Stmt} {x : Str} {px pos : Pos} {e : Expr} {es : List Expr} {ds : List D} {d : D} (hE : EnvOk env) (D : DefAt c a st) (ha : EvAll c A env σ (e :: es) ds) (h : Fn c A (.ref a) ds d) (hx : env.kindOf x = some .globalImplicit := by rfl) (hn : nameOf st = x := by rfl)
    (hd : (x == ("__debug__" : Str)) = false := by decide) (hc : eval (.Call (.Name x px) (e :: es) [] pos) env = (do callWith pos (← eval (.Name x px) env) [] (backTo pos (starEach (e :: es) env)) (backToKw pos (keywordEach [] env))) := by rfl)
    (he : starEach (e :: es) env = (false, eval e env) :: starEach es env := by rfl) (hp : (backTo pos (starEach es env)).any (·.1) = false := by rfl) : Ev c A env σ (.Call (.Name x px) (e :: es) [] pos) d := by
  obtain ⟨o, pm, code, k1, k2, k3⟩ := D.k
  exact ev_callF (evv_glob hE hx (hn ▸ D.g) hd) k1 k2 ha h hc he hp
theorem ev_callDC {a : Addr} {st : Stmt} {q : TabRec} {x : Str} {px pos : Pos} {e : Expr} {es : List Expr} {ds : List D} {d : D} (hE : EnvOk env) (D : DefAtC c a st q) (ha : EvAll c A env σ (e :: es) ds) (h : Fn c A (.ref a) ds d) (hx : env.kindOf x = some .globalImplicit := by rfl) (hn : nameOf st = x := by rfl)
    (hd : (x == ("__debug__" : Str)) = false := by decide) (hc : eval (.Call (.Name x px) (e :: es) [] pos) env = (do callWith pos (← eval (.Name x px) env) [] (backTo pos (starEach (e :: es) env)) (backToKw pos (keywordEach [] env))) := by rfl)
    (he : starEach (e :: es) env = (false, eval e env) :: starEach es env := by rfl) (hp : (backTo pos (starEach es env)).any (·.1) = false := by rfl) : Ev c A env σ (.Call (.Name x px) (e :: es) [] pos) d := by
  obtain ⟨o, pm, k1, k2, k3⟩ := D.k
  exact ev_callF (evv_glob hE hx (hn ▸ D.g) hd) k1 k2 ha h hc he hp
/-- a check: `if a != b: return False` -/
theorem ex_check {a b : Expr} {p1 p2 : Pos} {body : List Stmt} {d : D} {n : Nat} (hF : EnvF env) (hA : AOk A n) (ha : Ev c A env σ a d) (hb : Ev c A env σ b d) (g : Gd 20 d) (h : Φ .next σ)
    (hm : behindInMarks .NotEq b = false := by with_unfolding_all rfl) : Ex1 c A env σ (.If (.Compare a [.NotEq] [b] p1) body [] p2) Φ :=
  ex_if (tr_cmp1 ha hb (cmp_ne_same hA g.1 (Nat.le_trans g.2 (by decide)) rfl) hm) hF (fun h => nomatch h) (fun _ => ex_nil h)
end
/-! residues -/
def md (x : Int) (n : Nat) : Nat := (x.fmod n).toNat
theorem md_eq (x : Int) {n : Nat} (h : 0 < n) : x.fmod (n : Int) = (md x n : Int) := by
  have := Int.fmod_nonneg_of_pos x (show (0 : Int) < n by (first | assumption | exact Int.natCast_nonneg _ | exact Nat.zero_le _ | exact Nat.le_refl _ | decide | exact Nat.le_trans (by assumption) (by decide) | lia))
  unfold md; (first | assumption | exact Int.natCast_nonneg _ | exact Nat.zero_le _ | exact Nat.le_refl _ | decide | exact Nat.le_trans (by assumption) (by decide) | lia)
theorem md_lt (x : Int) {n : Nat} (h : 0 < n) : md x n < n := by
  have := Int.fmod_lt_of_pos x (show (0 : Int) < n by (first | assumption | exact Int.natCast_nonneg _ | exact Nat.zero_le _ | exact Nat.le_refl _ | decide | exact Nat.le_trans (by assumption) (by decide) | lia))
  have := md_eq x h
  (first | assumption | exact Int.natCast_nonneg _ | exact Nat.zero_le _ | exact Nat.le_refl _ | decide | exact Nat.le_trans (by assumption) (by decide) | lia)
end Mine
end


/-! part L1 -/
section
open PySem PySem.W PyProof.Rows PySem.Calls PySem.Spec
set_option Elab.async false
set_option linter.unusedVariables false
set_option maxRecDepth 100000
namespace Mine
def baseL : List Int := [0, 0, 1, 1, 170, 690, 250, 23]
def pickI (ns : List Int) (m : Int) : List Int := (sliceRange (sliceBounds (some m) none (some 8) ns.length).1 (sliceBounds (some m) none (some 8) ns.length).2.1 (sliceBounds (some m) none (some 8) ns.length).2.2).filterMap (ns[·]?)
def sumsF (ns : List Int) (m : Nat) : Int := (pickI ns m).sum + baseL.getD m 0
def sumsD (S : Nat → Int) : D := .lst ((List.range 8).map fun i => .int (S i))
theorem repAll_pick {G : Gh} {vs : List Value} {ds : List D} (r : RepAll G vs ds) (idx : List Nat) : RepAll G (idx.filterMap (vs[·]?)) (idx.filterMap (ds[·]?)) := by
  induction idx with
  | nil => exact .nil
  | cons i idx ih =>
    rw [List.filterMap_cons, List.filterMap_cons]
    cases q : ds[i]? with
    | some d =>
      obtain ⟨v, hv, rv⟩ := r.get q
      rw [hv]; exact .cons rv ih
    | none =>
      cases q' : vs[i]? with
      | some v =>
        obtain ⟨d, hd, _⟩ := r.get' q'
        rw [q] at hd; cases hd
      | none => exact ih
section
variable {c : Cx} {A : Around} {σ : Sig} {Φ : Post} {pm code : Value} {L a : Addr} {r6 r7 : TabRec} {S : Nat → Int} {n : Nat}
theorem law_0 (hF : EnvF (lawEnv pm code L a)) (h : Φ .next ((Str.ofString "base", .val (.lst (baseL.map .int))) :: σ)) : Ex1 c A (lawEnv pm code L a) σ (lawS 0) Φ := by
  conv => arg 5; whnf
  exact ex_assign hF (.inr ⟨rfl, _, rfl⟩) (ev_list (ds := baseL.map .int) (evall_cons ev_int (evall_cons ev_int (evall_cons ev_int (evall_cons ev_int (evall_cons ev_int (evall_cons ev_int (evall_cons ev_int (evall_cons ev_int evall_nil)))))))) (by decide)) h
theorem law_1 {ns : List Int} (hF : EnvF (lawEnv pm code L a)) (hA : AOk A n) (H : LawC c r6 r7) (hz : ns.length ≤ 63) (h1 : σ.lookup (Str.ofString "script") = some (.val (.lstA (ns.map .int)))) (h2 : σ.lookup (Str.ofString "base") = some (.val (.lst (baseL.map .int))))
    (h : Φ .next ((Str.ofString "sums", .val (sumsD (sumsF ns))) :: σ)) : Ex1 c A (lawEnv pm code L a) σ (lawS 1) Φ := by
  conv => arg 5; whnf
  have hE := hF.ok
  have hh := hA.hh
  have hsl := sizeLine_eq
  refine ex_assign hF (.inr ⟨rfl, _, rfl⟩) ((ev_of_fresh (ev_comp (bs := fun d => [(Str.ofString "m", .val d)]) (σc := [(Str.ofString "script", .val (.lstA (ns.map .int))), (Str.ofString "base", .val (.lst (baseL.map .int)))]) (fun _ => true) (fun d => .int (sumsF ns (intOf d).toNat))
    (ev_callT (evv_built hE rfl H.B.range rfl) (evall_cons (ev_int (i := 8)) evall_nil) fn_range1) (itd_rng hh (by decide) (by decide)) rfl
    (fun G h C sc => sc_cons (cap_rd (sc _ _ h1) (.inl rfl) rfl rfl) (sc_cons (cap_rd (sc _ _ h2) (.inl rfl) rfl rfl) sc_nil)) (bnd_name hE rfl rfl) (by decide) (fun _ _ => trivial) (fun C d hd => tests_nil) (fun C d hd _ => ?_))).cast (d' := sumsD (sumsF ns)) ?_) h
  · obtain ⟨k, hk, rfl⟩ := mem_rng (n := 8) hd
    have hk' : intOf (.int (k : Int)) = (k : Int) := rfl
    rw [hk', Int.toNat_natCast]
    have hb : ((baseL.map D.int))[((k : Nat) : Int).toNat]? = some (.int (baseL.getD k 0)) := by
      rw [Int.toNat_natCast, List.getElem?_map]
      have : k < 8 := hk
      rw [List.getD_eq_getElem?_getD, List.getElem?_eq_getElem (show k < baseL.length from hk)]
      rfl
    refine ev_add (ev_callB (evv_built (cE_ok hE rfl) rfl H.B.sum rfl) (evall_cons (ev_slL (es := (pickI ns k).map .int) (a := some (k : Int)) (b := none) (d := some 8) (evl_any (ev_name (cE_ok hE rfl) rfl)) (evo_some (ev_name (cE_ok hE rfl) rfl)) evo_none (evo_some ev_int) (by decide) (by rw [List.length_map]; lia) (fun G vs r => ?_)) evall_nil) (fn_sum hh)) (ev_item (ds := baseL.map .int) (k := (k : Int)) (evl_of (ev_name (cE_ok hE rfl) rfl)) (ev_name (cE_ok hE rfl) rfl) (by lia) (by lia) hb)
    have hlen : vs.toArray.size = ns.length := by
      have := r.length
      rw [List.length_map] at this
      simpa using this
    unfold slicePick
    rw [hlen]
    have := repAll_pick r (sliceRange (sliceBounds (some (k : Int)) none (some 8) ns.length).1 (sliceBounds (some (k : Int)) none (some 8) ns.length).2.1 (sliceBounds (some (k : Int)) none (some 8) ns.length).2.2)
    have e1 : (pickI ns k).map D.int = (sliceRange (sliceBounds (some (k : Int)) none (some 8) ns.length).1 (sliceBounds (some (k : Int)) none (some 8) ns.length).2.1 (sliceBounds (some (k : Int)) none (some 8) ns.length).2.2).filterMap ((ns.map D.int)[·]?) := by
      unfold pickI
      rw [List.map_filterMap]
      congr 1
      funext i
      rw [List.getElem?_map]
    rw [e1]
    simpa using this
  · rw [show (rngD 0 8) = rngD 0 ((8 : Nat) : Int) from rfl, map_rng]; rfl
theorem sums_get {S : Nat → Int} {i : Nat} (hi : i < 8) : ((List.range 8).map fun i => D.int (S i))[((i : Nat) : Int).toNat]? = some (.int (S i)) := by
  rw [Int.toNat_natCast, List.getElem?_map, List.getElem?_range hi]; rfl
end
end Mine
end


/-! part L2 -/
section
open PySem PySem.W PyProof.Rows PySem.Calls PySem.Spec
set_option Elab.async false
set_option linter.unusedVariables false
set_option maxRecDepth 100000
namespace Mine
def codeN (S : Nat → Int) : Nat := 1000 + md (S 6) 999 + (if 256 < md (S 6) 999 then 1 else 0)
def codeL (S : Nat → Int) : List Nat := ((Nat.toDigits 10 (codeN S)).map Char.toNat).drop 1
def muteT : List (List Nat) := [[45, 34], [32, 39], [34], [32, 32], [32, 120], [120, 34]]
def muteL (S : Nat → Int) : List Nat := [50, 53, 55] ++ muteT.getD (md ((S 7).fdiv 26) 6) []
section
variable {c : Cx} {A : Around} {env : Env} {σ : Sig} {Φ : Post} {pm code : Value} {L a : Addr} {r6 r7 : TabRec} {S : Nat → Int} {n : Nat}
theorem ev_sums {i : Nat} {x px pc pos : Pos} {kk : Nat} (hE : EnvOk env) (hi : i < 8) (h : σ.lookup (Str.ofString "sums") = some (.val (sumsD S))) : Ev c A env σ (.Subscript (.Name (Str.ofString "sums") px) (.Constant (.int i) kk pc) pos) (.int (S i)) :=
  ev_item (ds := (List.range 8).map fun i => D.int (S i)) (k := (i : Int)) (evl_of (ev_name hE h)) ev_int (by lia) (by lia) (sums_get hi)
theorem ev_sumsMod {i k : Nat} {px pc pos pos' pc' : Pos} {kk kk' : Nat} (hE : EnvOk env) (hi : i < 8) (hk : 0 < k) (h : σ.lookup (Str.ofString "sums") = some (.val (sumsD S))) : Ev c A env σ (.BinOp (.Subscript (.Name (Str.ofString "sums") px) (.Constant (.int i) kk pc) pos) .Mod (.Constant (.int k) kk' pc') pos') (.int (md (S i) k : Nat)) :=
  (ev_mod (ev_sums (x := px) hE hi h) ev_int (by (first | assumption | exact Int.natCast_nonneg _ | exact Nat.zero_le _ | exact Nat.le_refl _ | decide | exact Nat.le_trans (by assumption) (by decide) | lia))).cast (by rw [md_eq _ hk])
theorem law_2 (hF : EnvF (lawEnv pm code L a)) (hA : AOk A n) (h1 : σ.lookup (Str.ofString "sums") = some (.val (sumsD S))) (h : Φ .next ((Str.ofString "upper", .val (.int (6 + md (S 0) 4 : Nat))) :: (Str.ofString "lower", .val (.int (3 + md (S 1) 3 : Nat))) :: σ)) : Ex1 c A (lawEnv pm code L a) σ (lawS 2) Φ := by
  conv => arg 5; whnf
  have hE := hF.ok
  exact ex_pairS hA.hh hF (.inl rfl) (.inl rfl) (ev_tuple (evall_cons ((ev_add ev_int (ev_sumsMod (i := 0) (k := 4) hE (by decide) (by decide) h1)).cast (d' := .int (6 + md (S 0) 4 : Nat)) (by rw [Int.natCast_add]; rfl)) (evall_cons ((ev_add ev_int (ev_sumsMod (i := 1) (k := 3) hE (by decide) (by decide) h1)).cast (d' := .int (3 + md (S 1) 3 : Nat)) (by rw [Int.natCast_add]; rfl)) evall_nil)) (by show 2 ≤ _; decide)) h
theorem law_3 (hF : EnvF (lawEnv pm code L a)) (hA : AOk A n) (h1 : σ.lookup (Str.ofString "sums") = some (.val (sumsD S))) (h : Φ .next ((Str.ofString "edge", .val (.int (md (S 2) 3 : Nat))) :: (Str.ofString "twins", .val (.int (1 + md (S 3) 3 : Nat))) :: σ)) : Ex1 c A (lawEnv pm code L a) σ (lawS 3) Φ := by
  conv => arg 5; whnf
  have hE := hF.ok
  exact ex_pairS hA.hh hF (.inl rfl) (.inl rfl) (ev_tuple (evall_cons (ev_sumsMod (i := 2) (k := 3) hE (by decide) (by decide) h1) (evall_cons ((ev_add ev_int (ev_sumsMod (i := 3) (k := 3) hE (by decide) (by decide) h1)).cast (d' := .int (1 + md (S 3) 3 : Nat)) (by rw [Int.natCast_add]; rfl)) evall_nil)) (by show 2 ≤ _; decide)) h
theorem law_4 (hF : EnvF (lawEnv pm code L a)) (H : LawC c r6 r7) (h1 : σ.lookup (Str.ofString "sums") = some (.val (sumsD S))) (h : Φ .next ((Str.ofString "letter", .val (.str [97 + md (S 7) 26])) :: σ)) : Ex1 c A (lawEnv pm code L a) σ (lawS 4) Φ := by
  conv => arg 5; whnf
  have hE := hF.ok
  have hm := md_lt (S 7) (n := 26) (by decide)
  exact ex_assign hF (.inr ⟨rfl, _, rfl⟩) ((ev_callB (evv_built hE rfl H.B.chr rfl) (evall_cons ((ev_add ev_int (ev_sumsMod (i := 7) (k := 26) hE (by decide) (by decide) h1)).cast (d' := .int (97 + md (S 7) 26 : Nat)) (by rw [Int.natCast_add]; rfl)) evall_nil) (fn_chr (by (first | assumption | exact Int.natCast_nonneg _ | exact Nat.zero_le _ | exact Nat.le_refl _ | decide | exact Nat.le_trans (by assumption) (by decide) | lia)) (by (first | assumption | exact Int.natCast_nonneg _ | exact Nat.zero_le _ | exact Nat.le_refl _ | decide | exact Nat.le_trans (by assumption) (by decide) | lia)))).cast (by rw [Int.toNat_natCast])) h
theorem code_text (m : Nat) : Str.ofString (toString ((m : Nat) : Int)) = Mine.S ((Nat.toDigits 10 m).map Char.toNat) := by
  have h := KIN.signs_num m
  generalize Str.ofString (toString ((m : Nat) : Int)) = x at h
  obtain ⟨x⟩ := x
  show (⟨x⟩ : Str) = ⟨((Nat.toDigits 10 m).map Char.toNat).toArray⟩
  have h' : x.toList = (Nat.toDigits 10 m).map Char.toNat := h
  rw [← h']
theorem code_len : ∀ k < 1000, ((Nat.toDigits 10 (1000 + k)).map Char.toNat).length = 4 := by decide +kernel
theorem cut_four (x : List Nat) (h : x.length = 4) : x.length = 4 ∧ cutS x (some 1) none = x.drop 1 ∧ (Builtin.Str.strSliceIndices (some 1) none 1 x.length).length = 3 := by
  match x, h with
  | [a, b, c, d], _ =>
    have e : Builtin.Str.strSliceIndices (some 1) none 1 4 = [1, 2, 3] := by decide +kernel
    refine ⟨rfl, ?_, ?_⟩
    · show (Builtin.Str.strSliceIndices (some 1) none 1 4).filterMap _ = _
      rw [e]; rfl
    · show (Builtin.Str.strSliceIndices (some 1) none 1 4).length = 3
      rw [e]; rfl
theorem law_5 (hF : EnvF (lawEnv pm code L a)) (H : LawC c r6 r7) (h1 : σ.lookup (Str.ofString "sums") = some (.val (sumsD S))) (h : Φ .next ((Str.ofString "code", .val (.str (codeL S))) :: σ)) : Ex1 c A (lawEnv pm code L a) σ (lawS 5) Φ := by
  conv => arg 5; whnf
  have hE := hF.ok
  have hm := md_lt (S 6) (n := 999) (by decide)
  have hN : 1000 ≤ codeN S ∧ codeN S < 2000 := by unfold codeN; split <;> (first | assumption | exact Int.natCast_nonneg _ | exact Nat.zero_le _ | exact Nat.le_refl _ | decide | exact Nat.le_trans (by assumption) (by decide) | lia)
  have hlen : ((Nat.toDigits 10 (codeN S)).map Char.toNat).length = 4 := by
    have := code_len (codeN S - 1000) (by (first | assumption | exact Int.natCast_nonneg _ | exact Nat.zero_le _ | exact Nat.le_refl _ | decide | exact Nat.le_trans (by assumption) (by decide) | lia))
    rwa [show 1000 + (codeN S - 1000) = codeN S by (first | assumption | exact Int.natCast_nonneg _ | exact Nat.zero_le _ | exact Nat.le_refl _ | decide | exact Nat.le_trans (by assumption) (by decide) | lia)] at this
  have hlog : (codeN S).log2 < 1920 := by
    have : (codeN S).log2 < 11 := (Nat.log2_lt (by (first | assumption | exact Int.natCast_nonneg _ | exact Nat.zero_le _ | exact Nat.le_refl _ | decide | exact Nat.le_trans (by assumption) (by decide) | lia))).mpr (by (first | assumption | exact Int.natCast_nonneg _ | exact Nat.zero_le _ | exact Nat.le_refl _ | decide | exact Nat.le_trans (by assumption) (by decide) | lia))
    (first | assumption | exact Int.natCast_nonneg _ | exact Nat.zero_le _ | exact Nat.le_refl _ | decide | exact Nat.le_trans (by assumption) (by decide) | lia)
  refine ex_assign hF (.inr ⟨rfl, _, rfl⟩) (ev_slS (x := (Nat.toDigits 10 (codeN S)).map Char.toNat) (y := codeL S) (a := some 1) (b := none) (ev_callT (evv_built hE rfl H.B.str rfl) (evall_cons ((ev_add (y := ((if 256 < md (S 6) 999 then 1 else 0 : Nat) : Int)) (ev_add ev_int (ev_sumsMod (i := 6) (k := 999) hE (by decide) (by decide) h1)) (ev_if (x := decide ((256 : Int) < (md (S 6) 999 : Nat))) (tr_cmp1 (ev_sumsMod (i := 6) (k := 999) hE (by decide) (by decide) h1) ev_int cmp_gtI) (fun q => ?_) (fun q => ?_))).cast (d' := .int (codeN S : Nat)) ?_) evall_nil) (fn_strI (by rw [Int.natAbs_natCast]; exact hlog) (code_text _))) (evo_some ev_int) evo_none ?_ ?_ ?_ ?_ ?_) h
  · rw [if_pos (by have := of_decide_eq_true q; (first | assumption | exact Int.natCast_nonneg _ | exact Nat.zero_le _ | exact Nat.le_refl _ | decide | exact Nat.le_trans (by assumption) (by decide) | lia))]; exact ev_int
  · rw [if_neg (by have := of_decide_eq_false q; (first | assumption | exact Int.natCast_nonneg _ | exact Nat.zero_le _ | exact Nat.le_refl _ | decide | exact Nat.le_trans (by assumption) (by decide) | lia))]; exact ev_int
  · unfold codeN
    split <;> (push_cast; rfl)
  · rw [hlen]; decide
  · exact (cut_four _ hlen).2.1
  · rw [show (codeL S).length = 3 from by unfold codeL; rw [List.length_drop, hlen], hlen]; intro q; cases q
  · rw [show (codeL S).length = 3 from by unfold codeL; rw [List.length_drop, hlen], hlen]; decide
  · rw [show (codeL S).length = 3 from by unfold codeL; rw [List.length_drop, hlen]]; exact (cut_four _ hlen).2.2
set_option maxHeartbeats 1000000 in
theorem law_6 (hF : EnvF (lawEnv pm code L a)) (h1 : σ.lookup (Str.ofString "sums") = some (.val (sumsD S))) (h : Φ .next ((Str.ofString "mute", .val (.str (muteL S))) :: σ)) : Ex1 c A (lawEnv pm code L a) σ (lawS 6) Φ := by
  conv => arg 5; whnf
  have hE := hF.ok
  have hm := md_lt ((S 7).fdiv 26) (n := 6) (by decide)
  have hg : (muteT.map D.str)[((md ((S 7).fdiv 26) 6 : Nat) : Int).toNat]? = some (.str (muteT.getD (md ((S 7).fdiv 26) 6) [])) := by
    rw [Int.toNat_natCast, List.getElem?_map, List.getD_eq_getElem?_getD, List.getElem?_eq_getElem (show md ((S 7).fdiv 26) 6 < muteT.length from hm)]
    rfl
  have hl : ∀ x ∈ muteT, x.length ≤ 2 := by decide
  have em : ((S 7).fdiv 26).fmod 6 = ((md ((S 7).fdiv 26) 6 : Nat) : Int) := md_eq _ (n := 6) (by decide)
  have hl2 : (muteT.getD (md ((S 7).fdiv 26) 6) []).length ≤ 2 := by
    rw [List.getD_eq_getElem?_getD, List.getElem?_eq_getElem (show md ((S 7).fdiv 26) 6 < muteT.length from hm)]
    exact hl _ (List.getElem_mem _)
  exact ex_assign hF (.inl rfl) (ev_addS (x := [50, 53, 55]) ev_str (ev_item (ds := muteT.map D.str) (k := ((md ((S 7).fdiv 26) 6 : Nat) : Int)) (evl_of (ev_list (ds := muteT.map D.str) (evall_cons ev_str (evall_cons ev_str (evall_cons ev_str (evall_cons ev_str (evall_cons ev_str (evall_cons ev_str evall_nil)))))) (by decide)))
    ((ev_mod (ev_fdiv (ev_sums (i := 7) (x := default) hE (by decide) h1) ev_int (by decide) (by decide)) ev_int (by decide)).cast (by rw [em])) (by lia) (by lia) hg) (by have := sizeLine_eq; rw [show ([50, 53, 55] : List Nat).length = 3 from rfl]; lia)) h
end
end Mine
end


/-! part LC -/
section
open PySem PySem.W PyProof.Rows PySem.Calls PySem.Spec
set_option Elab.async false
set_option linter.unusedVariables false
set_option maxRecDepth 100000
namespace Mine
/-- the six openings that can't be read -/
def muteAll : List (List Nat) := [[50, 53, 55, 45, 34], [50, 53, 55, 32, 39], [50, 53, 55, 34], [50, 53, 55, 32, 32], [50, 53, 55, 32, 120], [50, 53, 55, 120, 34]]
/-- the law's parameters -/
structure LP (mt cd : List Nat) (lt e t u l : Nat) : Prop where
  hlt : 97 ≤ lt ∧ lt ≤ 122
  hmt : mt ∈ muteAll
  hcd : cd.length = 3 ∧ cd ≠ [50, 53, 55] ∧ ∀ n ∈ cd, n < 0x110000
  hu : 6 ≤ u ∧ u ≤ 9
  hl : 3 ≤ l ∧ l ≤ 5
  ht : 1 ≤ t ∧ t ≤ 3
  he : e ≤ 2
def sigA (mt cd : List Nat) (lt e t u l : Nat) (sd : D) : Sig := [(Str.ofString "mute", .val (.str mt)), (Str.ofString "code", .val (.str cd)), (Str.ofString "letter", .val (.str [lt])), (Str.ofString "edge", .val (.int e)), (Str.ofString "twins", .val (.int t)),
  (Str.ofString "upper", .val (.int u)), (Str.ofString "lower", .val (.int l)), (Str.ofString "sums", .val sd)]
theorem lt_low {lt : Nat} (h : 97 ≤ lt ∧ lt ≤ 122) : ∀ n ∈ [lt], n < 0x110000 := fun n hn => by
  rw [List.mem_singleton] at hn; (first | assumption | exact Int.natCast_nonneg _ | exact Nat.zero_le _ | exact Nat.le_refl _ | decide | exact Nat.le_trans (by assumption) (by decide) | lia)
theorem heard_bad_eq {x : List Nat} (h : x.take 3 ≠ [50, 53, 55]) : heardP x = .lst [.str x] := by unfold heardP; rw [if_neg h]
theorem heard_good_eq {x : List Nat} (h : x.take 3 = [50, 53, 55]) : heardP x = .str (parseP x) := by unfold heardP; rw [if_pos h]
theorem sub_fresh {σ τ : Sig} {ns ms : List Str} (hn : σ.map (·.1) = ns) (hm : τ.map (·.1) = ms) (hnd : ns.Nodup) (hτ : ∀ x ∈ ms, x ∉ ns) : ∀ p ∈ σ, (τ ++ σ).lookup p.1 = some p.2 := fun p hp => by
  have h1 : p.1 ∈ σ.map (·.1) := List.mem_map.mpr ⟨p, hp, rfl⟩
  have h2 : p.1 ∉ τ.map (·.1) := fun q => hτ _ (hm ▸ q) (hn ▸ h1)
  rw [List.lookup_append, lookup_none_of h2]
  exact lookup_of_memV (hn ▸ hnd) hp
def nA : List Str := [Str.ofString "mute", Str.ofString "code", Str.ofString "letter", Str.ofString "edge", Str.ofString "twins", Str.ofString "upper", Str.ofString "lower", Str.ofString "sums"]
section
variable {c : Cx} {A : Around} {env : Env} {σ : Sig} {Φ : Post}
/-- a loop that keeps the names as they were -/
theorem ex_forKeep {target iter : Expr} {body : List Stmt} {pos : Pos} {xd : D} {ds : List D} {okd : D → Prop} {bs : D → Sig} (hF : EnvF env) (hit : Ev c A env σ iter xd) (hid : ItD c A xd ds) (B : BindF c A env target okd bs) (hokd : ∀ d ∈ ds, okd d)
    (step : ∀ d ∈ ds, ExS c A env (bs d ++ σ) body fun fd σ' => fd = .next ∧ σ' = σ) (h : Φ .next σ) (hs : ∀ x, foldedSetIterable iter env x = pure x := by intro _; rfl) : Ex1 c A env σ (.For target iter body [] pos) Φ :=
  ex_for hF hit hid B hokd (forGo_P (fun ds' τ => τ = σ ∧ ∀ d ∈ ds', d ∈ ds) (fun d ds' τ hP => by
    obtain ⟨rfl, hP⟩ := hP
    refine exs_mono (step d (hP d (.head _))) fun fd σ' hq => ?_
    obtain ⟨rfl, rfl⟩ := hq
    exact ⟨rfl, fun x hx => hP x (.tail _ hx)⟩) (fun τ hP => by obtain ⟨rfl, _⟩ := hP; exact h) ds σ ⟨rfl, fun d hd => hd⟩) hs
end
end Mine
end


/-! part L3 -/
section
open PySem PySem.W PyProof.Rows PySem.Calls PySem.Spec
set_option Elab.async false
set_option linter.unusedVariables false
set_option maxRecDepth 100000
namespace Mine
def bad7 : List (List Nat) := [[], [50, 53], [49, 53, 55, 32, 34, 50, 53, 55, 32, 34], [50, 48, 55, 32, 34, 50, 53, 55, 32, 34], [50, 53, 54, 32, 34, 50, 53, 55, 32, 34], [32, 50, 53, 55, 32, 34]]
theorem bad7_ok : ∀ x ∈ bad7, x.take 3 ≠ [50, 53, 55] ∧ x.length ≤ 10 ∧ ∀ n ∈ x, n < 0x110000 := by decide
section
variable {c : Cx} {A : Around} {env : Env} {Φ : Post} {pm code : Value} {L a : Addr} {r6 r7 : TabRec} {S : Nat → Int} {mt cd : List Nat} {lt e t u l : Nat} {sd : D}
theorem law_7 (hF : EnvF (lawEnv pm code L a)) (hA : AOk A 40) (H : LawC c r6 r7) (h : Φ .next (sigA mt cd lt e t u l sd)) : Ex1 c A (lawEnv pm code L a) (sigA mt cd lt e t u l sd) (lawS 7) Φ := by
  conv => arg 5; whnf
  have hE := hF.ok
  have hh := hA.hh
  refine ex_forKeep (xd := .lst (bad7.map .str)) (ds := bad7.map .str) (bs := fun d => [(Str.ofString "reply", .val d)]) (okd := fun _ => True) hF (ev_list (ds := bad7.map .str) (evall_cons ev_str (evall_cons ev_str (evall_cons ev_str (evall_cons ev_str (evall_cons ev_str (evall_cons ev_str evall_nil)))))) (by decide)) (itd_lst hh) (bindF_name hF (.inl rfl)) (fun _ _ => trivial) (fun d hd => ?_) h
  obtain ⟨x, hx, rfl⟩ := List.mem_map.mp hd
  obtain ⟨h1, h2, h3⟩ := bad7_ok x hx
  refine ex_cons (ex_check (d := .lst [.str x]) hF hA ((ev_callD hE H.heard (evall_cons (ev_name hE (d := .str x) rfl) evall_nil) (fn_heard (hA.le (by decide)) H.heard H.parse H.B H.bad (by (first | assumption | exact Int.natCast_nonneg _ | exact Nat.zero_le _ | exact Nat.le_refl _ | decide | exact Nat.le_trans (by assumption) (by decide) | lia)))).cast (heard_bad_eq h1)) (ev_list (evall_cons (ev_name hE rfl) evall_nil) (by show 1 ≤ _; decide)) (gd_lst fun d hd => by
    rw [List.mem_singleton] at hd; subst hd; exact gd_str 19 h3) (exs_sub (τ := sigA mt cd lt e t u l sd) (sub_fresh (τ := [(Str.ofString "reply", .val (.str x))]) (ns := nA) (ms := [Str.ofString "reply"]) rfl rfl (by decide) (by decide)) (ex_nil ⟨rfl, rfl⟩)))
def good8 (lt : Nat) : List (List Nat) := [[50, 53, 55], [50, 53, 55, 32], [50, 53, 55, 45, 34, lt], [50, 53, 55, 32, 39, lt], [50, 53, 55, 9, 34, lt]]
theorem good8_ok (lt : Nat) : ∀ x ∈ good8 lt, heardP x = .str [] ∧ x.length ≤ 10 := by
  intro x hx
  simp only [good8, List.mem_cons, List.not_mem_nil, or_false] at hx
  rcases hx with rfl | rfl | rfl | rfl | rfl <;> exact ⟨rfl, by simp⟩
theorem law_8 (hF : EnvF (lawEnv pm code L a)) (hA : AOk A 40) (H : LawC c r6 r7) (h : Φ .next (sigA mt cd lt e t u l sd)) : Ex1 c A (lawEnv pm code L a) (sigA mt cd lt e t u l sd) (lawS 8) Φ := by
  conv => arg 5; whnf
  have hE := hF.ok
  have hh := hA.hh
  have hsl := sizeLine_eq
  refine ex_check (d := .lst (List.replicate 5 (.str []))) hF hA ((ev_of_fresh (ev_comp (xd := .lst ((good8 lt).map .str)) (ds := (good8 lt).map .str) (bs := fun d => [(Str.ofString "reply", .val d)]) (okd := fun _ => True) (σc := []) (fun _ => true) (fun _ => .str [])
    (ev_list (ds := (good8 lt).map .str) (evall_cons ev_str (evall_cons ev_str (evall_cons (ev_addS (x := [50, 53, 55, 45, 34]) (y := [lt]) ev_str (ev_name hE rfl) (by simp; (first | assumption | exact Int.natCast_nonneg _ | exact Nat.zero_le _ | exact Nat.le_refl _ | decide | exact Nat.le_trans (by assumption) (by decide) | lia))) (evall_cons (ev_addS (x := [50, 53, 55, 32, 39]) (y := [lt]) ev_str (ev_name hE rfl) (by simp; (first | assumption | exact Int.natCast_nonneg _ | exact Nat.zero_le _ | exact Nat.le_refl _ | decide | exact Nat.le_trans (by assumption) (by decide) | lia))) (evall_cons (ev_addS (x := [50, 53, 55, 9, 34]) (y := [lt]) ev_str (ev_name hE rfl) (by simp; (first | assumption | exact Int.natCast_nonneg _ | exact Nat.zero_le _ | exact Nat.le_refl _ | decide | exact Nat.le_trans (by assumption) (by decide) | lia))) evall_nil))))) (by show 5 ≤ _; (first | assumption | exact Int.natCast_nonneg _ | exact Nat.zero_le _ | exact Nat.le_refl _ | decide | exact Nat.le_trans (by assumption) (by decide) | lia)))
    (itd_lst hh) rfl (fun G h C sc => sc_nil) (bnd_name hE rfl rfl) (by show 5 ≤ _; (first | assumption | exact Int.natCast_nonneg _ | exact Nat.zero_le _ | exact Nat.le_refl _ | decide | exact Nat.le_trans (by assumption) (by decide) | lia)) (fun _ _ => trivial) (fun C d hd => tests_nil) (fun C d hd _ => ?_))).cast ?_) (ev_of_fresh (evf_mul1 (d := .str []) (n := 5) (ev_list (evall_cons ev_str evall_nil) (by show 1 ≤ _; (first | assumption | exact Int.natCast_nonneg _ | exact Nat.zero_le _ | exact Nat.le_refl _ | decide | exact Nat.le_trans (by assumption) (by decide) | lia))) ev_int (by decide) (by decide))) (gd_lst (k := 19) fun d hd => by
      rw [List.eq_of_mem_replicate hd]; exact gd_str 19 (fun n hn => nomatch hn)) h
  · obtain ⟨x, hx, rfl⟩ := List.mem_map.mp hd
    obtain ⟨h1, h2⟩ := good8_ok lt x hx
    exact (ev_callD (cE_ok hE rfl) H.heard (evall_cons (ev_name (cE_ok hE rfl) (d := .str x) rfl) evall_nil) (fn_heard (hA.le (by decide)) H.heard H.parse H.B H.bad (by (first | assumption | exact Int.natCast_nonneg _ | exact Nat.zero_le _ | exact Nat.le_refl _ | decide | exact Nat.le_trans (by assumption) (by decide) | lia)))).cast h1
  · rfl
end
end Mine
end


/-! part L4 -/
section
open PySem PySem.W PyProof.Rows PySem.Calls PySem.Spec
set_option Elab.async false
set_option linter.unusedVariables false
set_option maxRecDepth 100000
namespace Mine
def sg (S : Nat → Int) (r : Nat) : Nat := 32 * md ((r : Int) + (S 4).fdiv 512) 4 + md ((S 4).fdiv 16) 32
theorem sg_lt (S : Nat → Int) (r : Nat) : sg S r < 128 := by
  have h1 := md_lt ((r : Int) + (S 4).fdiv 512) (n := 4) (by decide)
  have h2 := md_lt ((S 4).fdiv 16) (n := 32) (by decide)
  unfold sg; (first | assumption | exact Int.natCast_nonneg _ | exact Nat.zero_le _ | exact Nat.le_refl _ | decide | exact Nat.le_trans (by assumption) (by decide) | lia)
def nmL (g0 g1 g2 g3 : Nat) : List Nat := [32, g0, 34, g1, 34, 34, g2, 92, 34, g3]
def dbl (x : List Nat) : List Nat := (x.map fun c => if c = 34 then [34, 34] else [c]).flatten
theorem told_dbl (x y : List Nat) : toldP (dbl x ++ y) = x ++ toldP y := by
  induction x with
  | nil => rfl
  | cons c x ih =>
    by_cases hc : c = 34
    · subst hc
      show toldP (34 :: 34 :: (dbl x ++ y)) = 34 :: (x ++ toldP y)
      rw [← ih]; rfl
    · have e : dbl (c :: x) ++ y = c :: (dbl x ++ y) := by
        unfold dbl
        rw [List.map_cons, if_neg hc]; rfl
      rw [e, List.cons_append, ← ih]
      cases q : dbl x ++ y with
      | nil => simp [toldP, hc]
      | cons d r => simp [toldP, hc]
theorem dbl_len (x : List Nat) : (dbl x).length ≤ 2 * x.length := by
  induction x with
  | nil => exact Nat.zero_le _
  | cons c x ih =>
    have : dbl (c :: x) = (if c = 34 then [34, 34] else [c]) ++ dbl x := rfl
    rw [this, List.length_append, List.length_cons]
    split <;> simp <;> (first | assumption | exact Int.natCast_nonneg _ | exact Nat.zero_le _ | exact Nat.le_refl _ | decide | exact Nat.le_trans (by assumption) (by decide) | lia)
theorem dbl_mem {x : List Nat} {n : Nat} (h : n ∈ dbl x) : n ∈ x := by
  unfold dbl at h
  obtain ⟨l, hl, hn⟩ := List.mem_flatten.mp h
  obtain ⟨c, hc, rfl⟩ := List.mem_map.mp hl
  split at hn
  · rename_i e
    subst e
    simp at hn; subst hn; exact hc
  · rw [List.mem_singleton] at hn; subst hn; exact hc
theorem parse_front (y : List Nat) : parseP ([50, 53, 55, 32, 34] ++ y) = toldP y := rfl
section
variable {c : Cx} {A : Around} {env : Env} {σ : Sig} {Φ : Post} {pm code : Value} {L a : Addr} {r6 r7 : TabRec} {S : Nat → Int} {n : Nat} {mt cd : List Nat} {lt e t u l : Nat}
theorem law_9 (hF : EnvF (lawEnv pm code L a)) (hA : AOk A n) (H : LawC c r6 r7) (h1 : σ.lookup (Str.ofString "sums") = some (.val (sumsD S))) (h : Φ .next ((Str.ofString "signs", .val (.lst ((List.range 4).map fun r => .str [sg S r]))) :: σ)) : Ex1 c A (lawEnv pm code L a) σ (lawS 9) Φ := by
  conv => arg 5; whnf
  have hE := hF.ok
  have hh := hA.hh
  have hsl := sizeLine_eq
  refine ex_assignC (xd := .rng 0 4) (ds := rngD 0 ((4 : Nat) : Int)) (bs := fun d => [(Str.ofString "row", .val d)]) (okd := fun _ => True) (σc := [(Str.ofString "sums", .val (sumsD S))]) (fun _ => true) (fun d => .str [sg S (intOf d).toNat]) hF rfl
    (ev_callT (evv_built hE rfl H.B.range rfl) (evall_cons (ev_int (i := 4)) evall_nil) fn_range1) (itd_rng hh (by decide) (by decide)) rfl
    (fun G h C sc => sc_cons (cap_rd (sc _ _ h1) (.inl rfl) rfl rfl) sc_nil) (bnd_name hE rfl rfl) (by rw [rng_len]; (first | assumption | exact Int.natCast_nonneg _ | exact Nat.zero_le _ | exact Nat.le_refl _ | decide | exact Nat.le_trans (by assumption) (by decide) | lia)) (fun _ _ => trivial) (fun C d hd => tests_nil) (fun C d hd _ => ?_) ?_
  · obtain ⟨k, hk, rfl⟩ := mem_rng hd
    rw [show (intOf (.int (k : Int))).toNat = k from Int.toNat_natCast k]
    have hlt := sg_lt S k
    have e1 : ((k : Int) + (S 4).fdiv 512).fmod 4 = (md ((k : Int) + (S 4).fdiv 512) 4 : Nat) := md_eq _ (n := 4) (by decide)
    have e2 : ((S 4).fdiv 16).fmod 32 = (md ((S 4).fdiv 16) 32 : Nat) := md_eq _ (n := 32) (by decide)
    have hm1 := md_lt ((k : Int) + (S 4).fdiv 512) (n := 4) (by decide)
    refine (ev_callB (evv_built (cE_ok hE rfl) rfl H.B.chr rfl) (evall_cons ((ev_add (ev_mul (ev_int (i := 32)) ((ev_mod (ev_add (ev_name (cE_ok hE rfl) (d := .int k) rfl) (ev_fdiv (ev_sums (i := 4) (x := default) (cE_ok hE rfl) (by decide) rfl) ev_int (by decide) (by decide))) ev_int (by decide)).cast (by rw [e1])) (mulOk_left (by decide)))
      ((ev_mod (ev_fdiv (ev_sums (i := 4) (x := default) (cE_ok hE rfl) (by decide) rfl) ev_int (by decide) (by decide)) ev_int (by decide)).cast (by rw [e2]))).cast (d' := .int (sg S k : Nat)) ?_) evall_nil) (fn_chr (by (first | assumption | exact Int.natCast_nonneg _ | exact Nat.zero_le _ | exact Nat.le_refl _ | decide | exact Nat.le_trans (by assumption) (by decide) | lia)) (by (first | assumption | exact Int.natCast_nonneg _ | exact Nat.zero_le _ | exact Nat.le_refl _ | decide | exact Nat.le_trans (by assumption) (by decide) | lia)))).cast (by rw [Int.toNat_natCast])
    unfold sg
    rw [Int.natCast_add, Int.natCast_mul]; rfl
  · rw [map_rng]; exact h
theorem law_10 (hF : EnvF (lawEnv pm code L a)) (h1 : σ.lookup (Str.ofString "signs") = some (.val (.lst ((List.range 4).map fun r => .str [sg S r])))) (h : Φ .next ((Str.ofString "name", .val (.str (nmL (sg S 0) (sg S 1) (sg S 2) (sg S 3)))) :: σ)) : Ex1 c A (lawEnv pm code L a) σ (lawS 10) Φ := by
  conv => arg 5; whnf
  have hE := hF.ok
  have hsl := sizeLine_eq
  have it : ∀ (i : Nat) (kk : Nat) (px pc pos : Pos), i < 4 → Ev c A (lawEnv pm code L a) σ (.Subscript (.Name (Str.ofString "signs") px) (.Constant (.int i) kk pc) pos) (.str [sg S i]) := fun i kk px pc pos hi =>
    ev_item (ds := (List.range 4).map fun r => .str [sg S r]) (k := (i : Int)) (evl_of (ev_name hE h1)) ev_int (by lia) (by lia) (by rw [Int.toNat_natCast, List.getElem?_map, List.getElem?_range hi]; rfl)
  exact ex_assign hF (.inl rfl) (ev_addS (ev_addS (ev_addS (ev_addS (ev_addS (ev_addS (ev_addS (x := [32]) ev_str (it 0 _ _ _ _ (by decide)) (by simp; (first | assumption | exact Int.natCast_nonneg _ | exact Nat.zero_le _ | exact Nat.le_refl _ | decide | exact Nat.le_trans (by assumption) (by decide) | lia))) (ev_str (l := [34])) (by simp; (first | assumption | exact Int.natCast_nonneg _ | exact Nat.zero_le _ | exact Nat.le_refl _ | decide | exact Nat.le_trans (by assumption) (by decide) | lia))) (it 1 _ _ _ _ (by decide)) (by simp; (first | assumption | exact Int.natCast_nonneg _ | exact Nat.zero_le _ | exact Nat.le_refl _ | decide | exact Nat.le_trans (by assumption) (by decide) | lia))) (ev_str (l := [34, 34])) (by simp; (first | assumption | exact Int.natCast_nonneg _ | exact Nat.zero_le _ | exact Nat.le_refl _ | decide | exact Nat.le_trans (by assumption) (by decide) | lia))) (it 2 _ _ _ _ (by decide)) (by simp; (first | assumption | exact Int.natCast_nonneg _ | exact Nat.zero_le _ | exact Nat.le_refl _ | decide | exact Nat.le_trans (by assumption) (by decide) | lia))) (ev_str (l := [92, 34])) (by simp; (first | assumption | exact Int.natCast_nonneg _ | exact Nat.zero_le _ | exact Nat.le_refl _ | decide | exact Nat.le_trans (by assumption) (by decide) | lia))) (it 3 _ _ _ _ (by decide)) (by simp; (first | assumption | exact Int.natCast_nonneg _ | exact Nat.zero_le _ | exact Nat.le_refl _ | decide | exact Nat.le_trans (by assumption) (by decide) | lia))) h
theorem law_11 {x : List Nat} (hF : EnvF (lawEnv pm code L a)) (hA : AOk A n) (hx : x.length ≤ 100) (h1 : σ.lookup (Str.ofString "name") = some (.val (.str x))) (h : Φ .next ((Str.ofString "doubled", .val (.str (dbl x))) :: σ)) : Ex1 c A (lawEnv pm code L a) σ (lawS 11) Φ := by
  conv => arg 5; whnf
  have hE := hF.ok
  have hh := hA.hh
  have hsl := sizeLine_eq
  refine ex_assign hF (.inl rfl) (ev_meth1 (ev_str (l := [])) ((ev_of_fresh (ev_comp (xd := .str x) (ds := x.map fun n => D.str [n]) (bs := fun d => [(Str.ofString "sign", .val d)]) (okd := fun _ => True) (σc := []) (fun _ => true) (fun d => match d with | .str [n] => .str (if n = 34 then [34, 34] else [n]) | _ => .none)
    (ev_name hE h1) (itd_str hh) rfl (fun G h C sc => sc_nil) (bnd_name hE rfl rfl) (by rw [List.length_map]; (first | assumption | exact Int.natCast_nonneg _ | exact Nat.zero_le _ | exact Nat.le_refl _ | decide | exact Nat.le_trans (by assumption) (by decide) | lia)) (fun _ _ => trivial) (fun C d hd => tests_nil) (fun C d hd _ => ?_))).cast (d' := .lst ((x.map fun n => if n = 34 then [34, 34] else [n]).map .str)) ?_) (hasM_str F.slot_str_join F.type_str_join) (fn_join ?_)) h
  · obtain ⟨n, hn, rfl⟩ := List.mem_map.mp hd
    refine ev_if (x := ([n] == [34])) (tr_cmp1 (ev_name (cE_ok hE rfl) (d := .str [n]) rfl) ev_str cmp_eqS) (fun q => ?_) (fun q => ?_)
    · have : n = 34 := by simpa using q
      subst this
      exact ev_addS (x := [34]) (y := [34]) (ev_name (cE_ok hE rfl) (d := .str [34]) rfl) (ev_name (cE_ok hE rfl) (d := .str [34]) rfl) (by show 2 ≤ _; (first | assumption | exact Int.natCast_nonneg _ | exact Nat.zero_le _ | exact Nat.le_refl _ | decide | exact Nat.le_trans (by assumption) (by decide) | lia))
    · have : n ≠ 34 := by simpa using q
      show Ev c A _ _ _ (.str (if n = 34 then [34, 34] else [n]))
      rw [if_neg this]
      exact ev_name (cE_ok hE rfl) (d := .str [n]) rfl
  · rw [List.filter_eq_self.mpr (fun _ _ => rfl), List.map_map, List.map_map]
    rfl
  · have : ∀ y : List Nat, ((y.map fun n => if n = 34 then [34, 34] else [n]).map List.length).sum ≤ 2 * y.length := by
      intro y
      induction y with
      | nil => exact Nat.zero_le _
      | cons c y ih =>
        rw [List.map_cons, List.map_cons, List.sum_cons, List.length_cons]
        split <;> simp at ih ⊢ <;> (first | assumption | exact Int.natCast_nonneg _ | exact Nat.zero_le _ | exact Nat.le_refl _ | decide | exact Nat.le_trans (by assumption) (by decide) | lia)
    have := this x
    (first | assumption | exact Int.natCast_nonneg _ | exact Nat.zero_le _ | exact Nat.le_refl _ | decide | exact Nat.le_trans (by assumption) (by decide) | lia)
end
end Mine
end


/-! part L5 -/
section
open PySem PySem.W PyProof.Rows PySem.Calls PySem.Spec
set_option Elab.async false
set_option linter.unusedVariables false
set_option maxRecDepth 100000
namespace Mine
def sigN (nm mt cd : List Nat) (lt e t u l : Nat) (sd : D) : Sig := (Str.ofString "doubled", .val (.str (dbl nm))) :: (Str.ofString "name", .val (.str nm)) :: sigA mt cd lt e t u l sd
def nN : List Str := Str.ofString "doubled" :: Str.ofString "name" :: nA
def ends12 (nm : List Nat) : List (List Nat × List Nat) := [([], [34, 32] ++ dbl nm), ([32], [34]), ([13, 10], [])]
theorem ends12_ok {nm : List Nat} (hn : ∀ n ∈ nm, n < 0x110000) (hl : nm.length ≤ 100) : ∀ p ∈ ends12 nm, heardP ([50, 53, 55, 32, 34] ++ dbl nm ++ p.1 ++ p.2) = .str (nm ++ p.1) ∧ p.1.length ≤ 10 ∧ p.2.length ≤ 300 ∧ (∀ n ∈ nm ++ p.1, n < 0x110000) := by
  intro p hp
  have key : ∀ y z : List Nat, heardP ([50, 53, 55, 32, 34] ++ dbl nm ++ y ++ z) = .str (nm ++ toldP (y ++ z)) := fun y z => by
    rw [heard_good_eq (by rfl), List.append_assoc, List.append_assoc, parse_front, told_dbl]
  have hd := dbl_len nm
  simp only [ends12, List.mem_cons, List.not_mem_nil, or_false] at hp
  rcases hp with rfl | rfl | rfl
  · refine ⟨by rw [key]; rfl, Nat.zero_le _, by simp; (first | assumption | exact Int.natCast_nonneg _ | exact Nat.zero_le _ | exact Nat.le_refl _ | decide | exact Nat.le_trans (by assumption) (by decide) | lia), fun n h => hn n (by simpa using h)⟩
  · refine ⟨by rw [key]; rfl, by decide, by decide, fun n h => ?_⟩
    rcases List.mem_append.mp h with h | h
    · exact hn n h
    · rw [List.mem_singleton] at h; (first | assumption | exact Int.natCast_nonneg _ | exact Nat.zero_le _ | exact Nat.le_refl _ | decide | exact Nat.le_trans (by assumption) (by decide) | lia)
  · refine ⟨by rw [key]; rfl, by decide, by decide, fun n h => ?_⟩
    rcases List.mem_append.mp h with h | h
    · exact hn n h
    · simp only [List.mem_cons, List.not_mem_nil, or_false] at h; (first | assumption | exact Int.natCast_nonneg _ | exact Nat.zero_le _ | exact Nat.le_refl _ | decide | exact Nat.le_trans (by assumption) (by decide) | lia)
section
variable {c : Cx} {A : Around} {env : Env} {σ : Sig} {Φ : Post} {pm code : Value} {L a : Addr} {r6 r7 : TabRec} {S : Nat → Int} {n : Nat} {nm mt cd : List Nat} {lt e t u l : Nat} {sd : D}
theorem law_12 (hF : EnvF (lawEnv pm code L a)) (hA : AOk A 40) (H : LawC c r6 r7) (hn : ∀ n ∈ nm, n < 0x110000) (hl : nm.length ≤ 100) (h : Φ .next (sigN nm mt cd lt e t u l sd)) : Ex1 c A (lawEnv pm code L a) (sigN nm mt cd lt e t u l sd) (lawS 12) Φ := by
  conv => arg 5; whnf
  have hE := hF.ok
  have hh := hA.hh
  have hsl := sizeLine_eq
  have hd0 := dbl_len nm
  refine ex_forKeep (xd := .lst ((ends12 nm).map fun p => .tup [.str p.1, .str p.2])) (ds := (ends12 nm).map fun p => .tup [.str p.1, .str p.2]) (bs := bs2 (Str.ofString "more") (Str.ofString "end")) (okd := Tup2) hF
    (ev_list (ds := (ends12 nm).map fun p => .tup [.str p.1, .str p.2]) (evall_cons (ev_tuple (evall_cons (ev_str (l := [])) (evall_cons (ev_addS (x := [34, 32]) ev_str (ev_name hE rfl) (by rw [show ([34, 32] : List Nat).length = 2 from rfl]; (first | assumption | exact Int.natCast_nonneg _ | exact Nat.zero_le _ | exact Nat.le_refl _ | decide | exact Nat.le_trans (by assumption) (by decide) | lia))) evall_nil)) (by show 2 ≤ _; (first | assumption | exact Int.natCast_nonneg _ | exact Nat.zero_le _ | exact Nat.le_refl _ | decide | exact Nat.le_trans (by assumption) (by decide) | lia))) (evall_cons (ev_tuple (evall_cons (ev_str (l := [32])) (evall_cons (ev_str (l := [34])) evall_nil)) (by show 2 ≤ _; (first | assumption | exact Int.natCast_nonneg _ | exact Nat.zero_le _ | exact Nat.le_refl _ | decide | exact Nat.le_trans (by assumption) (by decide) | lia))) (evall_cons (ev_tuple (evall_cons (ev_str (l := [13, 10])) (evall_cons (ev_str (l := [])) evall_nil)) (by show 2 ≤ _; (first | assumption | exact Int.natCast_nonneg _ | exact Nat.zero_le _ | exact Nat.le_refl _ | decide | exact Nat.le_trans (by assumption) (by decide) | lia))) evall_nil))) (by show 3 ≤ _; (first | assumption | exact Int.natCast_nonneg _ | exact Nat.zero_le _ | exact Nat.le_refl _ | decide | exact Nat.le_trans (by assumption) (by decide) | lia)))
    (itd_lst hh) (bindF_tup hh hF (.inl rfl) (.inl rfl)) (fun d hd => ?_) (fun d hd => ?_) h
  · obtain ⟨p, hp, rfl⟩ := List.mem_map.mp hd
    exact ⟨_, _, rfl⟩
  · obtain ⟨p, hp, rfl⟩ := List.mem_map.mp hd
    obtain ⟨h1, h2, h3, h4⟩ := ends12_ok hn hl p hp
    refine ex_cons (ex_check (d := .str (nm ++ p.1)) hF hA ((ev_callD hE H.heard (evall_cons (ev_addS (ev_addS (ev_addS (x := [50, 53, 55, 32, 34]) ev_str (ev_name hE (d := .str (dbl nm)) rfl) ?_) (ev_name hE (d := .str p.1) rfl) ?_) (ev_name hE (d := .str p.2) rfl) ?_) evall_nil) (fn_heard (hA.le (by decide)) H.heard H.parse H.B H.bad ?_)).cast h1)
      (ev_addS (ev_name hE (d := .str nm) rfl) (ev_name hE (d := .str p.1) rfl) ?_) (gd_str 20 h4) (exs_sub (τ := sigN nm mt cd lt e t u l sd) (sub_fresh (τ := [(Str.ofString "end", .val (.str p.2)), (Str.ofString "more", .val (.str p.1))]) (ns := nN) (ms := [Str.ofString "end", Str.ofString "more"]) rfl rfl (by decide) (by decide)) (ex_nil ⟨rfl, rfl⟩)))
    · rw [show ([50, 53, 55, 32, 34] : List Nat).length = 5 from rfl]; (first | assumption | exact Int.natCast_nonneg _ | exact Nat.zero_le _ | exact Nat.le_refl _ | decide | exact Nat.le_trans (by assumption) (by decide) | lia)
    · rw [List.length_append, show ([50, 53, 55, 32, 34] : List Nat).length = 5 from rfl]; (first | assumption | exact Int.natCast_nonneg _ | exact Nat.zero_le _ | exact Nat.le_refl _ | decide | exact Nat.le_trans (by assumption) (by decide) | lia)
    · rw [List.length_append, List.length_append, show ([50, 53, 55, 32, 34] : List Nat).length = 5 from rfl]; (first | assumption | exact Int.natCast_nonneg _ | exact Nat.zero_le _ | exact Nat.le_refl _ | decide | exact Nat.le_trans (by assumption) (by decide) | lia)
    · rw [List.length_append, List.length_append, List.length_append, show ([50, 53, 55, 32, 34] : List Nat).length = 5 from rfl]; (first | assumption | exact Int.natCast_nonneg _ | exact Nat.zero_le _ | exact Nat.le_refl _ | decide | exact Nat.le_trans (by assumption) (by decide) | lia)
    · (first | assumption | exact Int.natCast_nonneg _ | exact Nat.zero_le _ | exact Nat.le_refl _ | decide | exact Nat.le_trans (by assumption) (by decide) | lia)
end
end Mine
end


/-! part L6 -/
section
open PySem PySem.W PyProof.Rows PySem.Calls PySem.Spec
set_option Elab.async false
set_option linter.unusedVariables false
set_option maxRecDepth 100000
namespace Mine
/-! what is told of a row of quotes -/
theorem told_q (n : Nat) : toldP (qs n) = qs (n / 2) := by
  induction n using Nat.strongRecOn with
  | _ n ih =>
    match n with
    | 0 => rfl
    | 1 => rfl
    | k + 2 =>
      show (34 : Nat) :: toldP (qs k) = _
      rw [ih k (by (first | assumption | exact Int.natCast_nonneg _ | exact Nat.zero_le _ | exact Nat.le_refl _ | decide | exact Nat.le_trans (by assumption) (by decide) | lia)), show (k + 2) / 2 = k / 2 + 1 by (first | assumption | exact Int.natCast_nonneg _ | exact Nat.zero_le _ | exact Nat.le_refl _ | decide | exact Nat.le_trans (by assumption) (by decide) | lia)]; rfl
theorem told_ql (n c : Nat) (r : List Nat) (hc : c ≠ 34) : toldP (qs n ++ c :: r) = qs (n / 2) ++ (if n % 2 = 0 then toldP (c :: r) else []) := by
  induction n using Nat.strongRecOn with
  | _ n ih =>
    match n with
    | 0 => simp [qs]
    | 1 =>
      show toldP (34 :: c :: r) = _
      simp [toldP, hc, qs]
    | k + 2 =>
      show (34 : Nat) :: toldP (qs k ++ c :: r) = _
      rw [ih k (by (first | assumption | exact Int.natCast_nonneg _ | exact Nat.zero_le _ | exact Nat.le_refl _ | decide | exact Nat.le_trans (by assumption) (by decide) | lia)), show (k + 2) / 2 = k / 2 + 1 by (first | assumption | exact Int.natCast_nonneg _ | exact Nat.zero_le _ | exact Nat.le_refl _ | decide | exact Nat.le_trans (by assumption) (by decide) | lia), show (k + 2) % 2 = k % 2 by (first | assumption | exact Int.natCast_nonneg _ | exact Nat.zero_le _ | exact Nat.le_refl _ | decide | exact Nat.le_trans (by assumption) (by decide) | lia)]; rfl
theorem told_l (c : Nat) (hc : c ≠ 34) : toldP [c] = [c] := by simp [toldP, hc]
theorem told_lq (c : Nat) (r : List Nat) (hc : c ≠ 34) : toldP (c :: 34 :: 32 :: r) = [c] := by simp [toldP, hc]
theorem qs_mem {n k : Nat} (h : k ∈ qs n) : k = 34 := List.eq_of_mem_replicate h
theorem qs_len (n : Nat) : (qs n).length = n := List.length_replicate
/-- with the right opening -/
theorem heard_257 (y : List Nat) : heardP ([50, 53, 55, 32, 34] ++ y) = .str (toldP y) := by rw [heard_good_eq rfl, parse_front]
theorem heard_mute {m : List Nat} (hm : m ∈ muteAll) (n c : Nat) (r : List Nat) (hc : c ≠ 34) (hc2 : c ≠ 32) : heardP (m ++ qs n ++ c :: r) = .str [] := by
  simp only [muteAll, List.mem_cons, List.not_mem_nil, or_false] at hm
  rcases hm with rfl | rfl | rfl | rfl | rfl | rfl
  all_goals first
    | exact rfl
    | (match n with
       | 0 => exact rfl
       | k + 1 => exact rfl)
theorem heard_code {cd : List Nat} (h : cd.length = 3 ∧ cd ≠ [50, 53, 55] ∧ ∀ n ∈ cd, n < 0x110000) (y : List Nat) : heardP (cd ++ y) = .lst [.str (cd ++ y)] := by
  refine heard_bad_eq ?_
  rw [← h.1, List.take_left]; exact h.2.1
end Mine
end


/-! part L7 -/
section
open PySem PySem.W PyProof.Rows PySem.Calls PySem.Spec
set_option Elab.async false
set_option linter.unusedVariables false
set_option maxRecDepth 100000
namespace Mine
def halvesD (u : Nat) : D := .lst ((List.range (u + 1)).map fun n => .str (qs (n / 2)))
theorem gd_qs (k n : Nat) : Gd k (.str (qs n)) := gd_str k fun m hm => by rw [qs_mem hm]; decide
theorem gd_halves (u : Nat) : Gd 20 (halvesD u) := gd_lst (k := 19) fun d hd => by
  obtain ⟨n, _, rfl⟩ := List.mem_map.mp hd
  exact gd_qs 19 _
section
variable {c : Cx} {A : Around} {env : Env} {σ : Sig} {Φ : Post} {pm code : Value} {L a : Addr} {r6 r7 : TabRec} {S : Nat → Int} {n : Nat} {mt cd : List Nat} {lt e t u l : Nat}
theorem law_13 (hF : EnvF (lawEnv pm code L a)) (H : LawC c r6 r7) (h1 : σ.lookup (Str.ofString "upper") = some (.val (.int u))) (h : Φ .next ((Str.ofString "whole", .val (.rng 0 (u + 1 : Nat))) :: σ)) : Ex1 c A (lawEnv pm code L a) σ (lawS 13) Φ := by
  conv => arg 5; whnf
  have hE := hF.ok
  exact ex_assign hF (.inl rfl) ((ev_callT (evv_built hE rfl H.B.range rfl) (evall_cons (ev_add (ev_name hE h1) ev_int) evall_nil) fn_range1).cast (by rw [Int.natCast_add]; rfl)) h
theorem law_14 (hF : EnvF (lawEnv pm code L a)) (hA : AOk A n) (hu : u ≤ 20) (h1 : σ.lookup (Str.ofString "whole") = some (.val (.rng 0 (u + 1 : Nat)))) (h : Φ .next ((Str.ofString "halves", .val (halvesD u)) :: σ)) : Ex1 c A (lawEnv pm code L a) σ (lawS 14) Φ := by
  conv => arg 5; whnf
  have hE := hF.ok
  have hh := hA.hh
  have hsl := sizeLine_eq
  refine ex_assign hF (.inr ⟨rfl, _, rfl⟩) ((ev_of_fresh (ev_comp (bs := fun d => [(Str.ofString "n", .val d)]) (okd := fun _ => True) (σc := []) (fun _ => true) (fun d => .str (qs ((intOf d).toNat / 2))) (ev_name hE h1) (itd_rng hh (by decide) (by (first | assumption | exact Int.natCast_nonneg _ | exact Nat.zero_le _ | exact Nat.le_refl _ | decide | exact Nat.le_trans (by assumption) (by decide) | lia))) rfl
    (fun G h C sc => sc_nil) (bnd_name hE rfl rfl) (by rw [rng_len]; (first | assumption | exact Int.natCast_nonneg _ | exact Nat.zero_le _ | exact Nat.le_refl _ | decide | exact Nat.le_trans (by assumption) (by decide) | lia)) (fun _ _ => trivial) (fun C d hd => tests_nil) (fun C d hd _ => ?_))).cast (d' := halvesD u) ?_) h
  · obtain ⟨k, hk, rfl⟩ := mem_rng hd
    rw [show (intOf (.int (k : Int))).toNat = k from Int.toNat_natCast k]
    refine (ev_mulS (x := [34]) ev_str ((ev_fdiv (x := (k : Int)) (y := 2) (ev_name (cE_ok hE rfl) rfl) ev_int (by decide) (by decide)).cast (d' := .int (k / 2 : Nat)) ?_) (by (first | assumption | exact Int.natCast_nonneg _ | exact Nat.zero_le _ | exact Nat.le_refl _ | decide | exact Nat.le_trans (by assumption) (by decide) | lia)) (by (first | assumption | exact Int.natCast_nonneg _ | exact Nat.zero_le _ | exact Nat.le_refl _ | decide | exact Nat.le_trans (by assumption) (by decide) | lia)) (by decide)).cast ?_
    · rw [Int.fdiv_eq_ediv_of_nonneg _ (by decide)]; rfl
    · rw [Int.toNat_natCast, flat_rep]
  · rw [map_rng]; rfl
theorem law_15 (hF : EnvF (lawEnv pm code L a)) (hA : AOk A 40) (H : LawC c r6 r7) (hu : u ≤ 20) (h1 : σ.lookup (Str.ofString "upper") = some (.val (.int u))) (h2 : σ.lookup (Str.ofString "halves") = some (.val (halvesD u))) (h : Φ .next σ) : Ex1 c A (lawEnv pm code L a) σ (lawS 15) Φ := by
  conv => arg 5; whnf
  have hE := hF.ok
  refine ex_check (d := halvesD u) hF hA ((ev_callD hE H.replies (evall_cons (ev_str (l := [50, 53, 55, 32, 34])) (evall_cons ((ev_add (ev_name hE h1) ev_int).cast (d' := .int (u + 1 : Nat)) (by rw [Int.natCast_add]; rfl)) (evall_cons (ev_str (l := [])) evall_nil))) (fn_replies (hA.le (by decide)) H.replies H.heard H.parse H.B H.bad (by decide) (by decide) (by (first | assumption | exact Int.natCast_nonneg _ | exact Nat.zero_le _ | exact Nat.le_refl _ | decide | exact Nat.le_trans (by assumption) (by decide) | lia)))).cast ?_) (ev_name hE h2) (gd_halves u) h
  show D.lst ((List.range (u + 1)).map _) = D.lst ((List.range (u + 1)).map _)
  congr 1
  refine List.map_congr_left fun n _ => ?_
  rw [List.append_nil, heard_257, told_q]
def mixD (u lt : Nat) : D := .lst ((List.range (u + 1)).map fun n => .str (qs (n / 2) ++ (if n % 2 = 0 then [lt] else [])))
theorem law_16 (hF : EnvF (lawEnv pm code L a)) (hA : AOk A 40) (H : LawC c r6 r7) (hu : u ≤ 20) (hlt : 97 ≤ lt ∧ lt ≤ 122) (h1 : σ.lookup (Str.ofString "upper") = some (.val (.int u))) (h2 : σ.lookup (Str.ofString "halves") = some (.val (halvesD u))) (h3 : σ.lookup (Str.ofString "letter") = some (.val (.str [lt]))) (h4 : σ.lookup (Str.ofString "whole") = some (.val (.rng 0 (u + 1 : Nat))))
    (h : Φ .next σ) : Ex1 c A (lawEnv pm code L a) σ (lawS 16) Φ := by
  conv => arg 5; whnf
  have hE := hF.ok
  have hh := hA.hh
  have hsl := sizeLine_eq
  refine ex_check (d := mixD u lt) hF hA ((ev_callD hE H.replies (evall_cons (ev_str (l := [50, 53, 55, 32, 34])) (evall_cons ((ev_add (ev_name hE h1) ev_int).cast (d' := .int (u + 1 : Nat)) (by rw [Int.natCast_add]; rfl)) (evall_cons (ev_name hE h3) evall_nil))) (fn_replies (hA.le (by decide)) H.replies H.heard H.parse H.B H.bad (by decide) (by show 1 ≤ 100; decide) (by (first | assumption | exact Int.natCast_nonneg _ | exact Nat.zero_le _ | exact Nat.le_refl _ | decide | exact Nat.le_trans (by assumption) (by decide) | lia)))).cast ?_)
    ((ev_of_fresh (ev_comp (bs := fun d => [(Str.ofString "n", .val d)]) (okd := fun _ => True) (σc := [(Str.ofString "halves", .val (halvesD u)), (Str.ofString "letter", .val (.str [lt]))]) (fun _ => true) (fun d => .str (qs ((intOf d).toNat / 2) ++ (if (intOf d).toNat % 2 = 0 then [lt] else []))) (ev_name hE h4) (itd_rng hh (by decide) (by (first | assumption | exact Int.natCast_nonneg _ | exact Nat.zero_le _ | exact Nat.le_refl _ | decide | exact Nat.le_trans (by assumption) (by decide) | lia))) rfl
      (fun G h C sc => sc_cons (cap_rd (sc _ _ h2) (.inl rfl) rfl rfl) (sc_cons (cap_rd (sc _ _ h3) (.inl rfl) rfl rfl) sc_nil)) (bnd_name hE rfl rfl) (by rw [rng_len]; (first | assumption | exact Int.natCast_nonneg _ | exact Nat.zero_le _ | exact Nat.le_refl _ | decide | exact Nat.le_trans (by assumption) (by decide) | lia)) (fun _ _ => trivial) (fun C d hd => tests_nil) (fun C d hd _ => ?_))).cast (d' := mixD u lt) ?_) (gd_lst (k := 19) fun d hd => ?_) h
  · show D.lst ((List.range (u + 1)).map _) = D.lst ((List.range (u + 1)).map _)
    congr 1
    refine List.map_congr_left fun n _ => ?_
    rw [List.append_assoc, heard_257, told_ql _ _ _ (by (first | assumption | exact Int.natCast_nonneg _ | exact Nat.zero_le _ | exact Nat.le_refl _ | decide | exact Nat.le_trans (by assumption) (by decide) | lia)), told_l _ (by (first | assumption | exact Int.natCast_nonneg _ | exact Nat.zero_le _ | exact Nat.le_refl _ | decide | exact Nat.le_trans (by assumption) (by decide) | lia))]
  · obtain ⟨k, hk, rfl⟩ := mem_rng hd
    rw [show (intOf (.int (k : Int))).toNat = k from Int.toNat_natCast k]
    have e2 : ((k : Int).fmod 2) = ((k % 2 : Nat) : Int) := by
      rw [Int.fmod_eq_emod_of_nonneg _ (by decide)]; rfl
    refine ev_addS (ev_item (ds := (List.range (u + 1)).map fun n => .str (qs (n / 2))) (k := (k : Int)) (evl_of (ev_name (cE_ok hE rfl) rfl)) (ev_name (cE_ok hE rfl) rfl) (by lia) (by lia) (by rw [Int.toNat_natCast, List.getElem?_map, List.getElem?_range hk]; rfl))
      (ev_if (x := (((k : Int).fmod 2) == 0)) (tr_cmp1 (ev_mod (ev_name (cE_ok hE rfl) rfl) ev_int (by decide)) ev_int cmp_eqI) (fun q => ?_) (fun q => ?_)) ?_
    · rw [e2] at q
      have : k % 2 = 0 := by have := eq_of_beq q; (first | assumption | exact Int.natCast_nonneg _ | exact Nat.zero_le _ | exact Nat.le_refl _ | decide | exact Nat.le_trans (by assumption) (by decide) | lia)
      rw [if_pos this]; exact ev_name (cE_ok hE rfl) rfl
    · rw [e2] at q
      have : k % 2 ≠ 0 := by
        intro h0; rw [h0] at q; cases q
      rw [if_neg this]; exact ev_str
    · rw [qs_len]
      split <;> simp <;> (first | assumption | exact Int.natCast_nonneg _ | exact Nat.zero_le _ | exact Nat.le_refl _ | decide | exact Nat.le_trans (by assumption) (by decide) | lia)
  · rw [map_rng]; rfl
  · obtain ⟨n, _, rfl⟩ := List.mem_map.mp hd
    refine gd_str 19 fun m hm => ?_
    rcases List.mem_append.mp hm with hm | hm
    · rw [qs_mem hm]; decide
    · split at hm
      · rw [List.mem_singleton] at hm; (first | assumption | exact Int.natCast_nonneg _ | exact Nat.zero_le _ | exact Nat.le_refl _ | decide | exact Nat.le_trans (by assumption) (by decide) | lia)
      · cases hm
theorem law_17 (hF : EnvF (lawEnv pm code L a)) (hA : AOk A 40) (H : LawC c r6 r7) (hlt : 97 ≤ lt ∧ lt ≤ 122) (hm : mt ∈ muteAll) (h1 : σ.lookup (Str.ofString "mute") = some (.val (.str mt))) (h3 : σ.lookup (Str.ofString "letter") = some (.val (.str [lt])))
    (h : Φ .next σ) : Ex1 c A (lawEnv pm code L a) σ (lawS 17) Φ := by
  conv => arg 5; whnf
  have hE := hF.ok
  have hsl := sizeLine_eq
  have hml : mt.length ≤ 10 := by
    have : ∀ m ∈ muteAll, m.length ≤ 10 := by decide
    exact this mt hm
  refine ex_check (d := .lst (List.replicate 5 (.str []))) hF hA ((ev_callD hE H.replies (evall_cons (ev_name hE h1) (evall_cons (ev_int (i := (5 : Nat))) (evall_cons (ev_name hE h3) evall_nil))) (fn_replies (hA.le (by decide)) H.replies H.heard H.parse H.B H.bad (by (first | assumption | exact Int.natCast_nonneg _ | exact Nat.zero_le _ | exact Nat.le_refl _ | decide | exact Nat.le_trans (by assumption) (by decide) | lia)) (by show 1 ≤ 100; decide) (by decide))).cast ?_)
    (ev_of_fresh (evf_mul1 (d := .str []) (n := 5) (ev_list (evall_cons ev_str evall_nil) (by show 1 ≤ _; (first | assumption | exact Int.natCast_nonneg _ | exact Nat.zero_le _ | exact Nat.le_refl _ | decide | exact Nat.le_trans (by assumption) (by decide) | lia))) ev_int (by decide) (by decide))) (gd_lst (k := 19) fun d hd => by
      rw [List.eq_of_mem_replicate hd]; exact gd_str 19 (fun n hn => nomatch hn)) h
  show D.lst ((List.range 5).map _) = D.lst ((List.range 5).map fun _ => .str [])
  congr 1
  refine List.map_congr_left fun n _ => ?_
  exact heard_mute hm n lt [] (by (first | assumption | exact Int.natCast_nonneg _ | exact Nat.zero_le _ | exact Nat.le_refl _ | decide | exact Nat.le_trans (by assumption) (by decide) | lia)) (by (first | assumption | exact Int.natCast_nonneg _ | exact Nat.zero_le _ | exact Nat.le_refl _ | decide | exact Nat.le_trans (by assumption) (by decide) | lia))
def codesD (cd : List Nat) (lt k : Nat) : D := .lst ((List.range k).map fun n => .lst [.str (cd ++ [32, 34] ++ qs n ++ [lt])])
theorem law_18 (hF : EnvF (lawEnv pm code L a)) (hA : AOk A 40) (H : LawC c r6 r7) (hlt : 97 ≤ lt ∧ lt ≤ 122) (hcd : cd.length = 3 ∧ cd ≠ [50, 53, 55] ∧ ∀ n ∈ cd, n < 0x110000) (h1 : σ.lookup (Str.ofString "code") = some (.val (.str cd))) (h3 : σ.lookup (Str.ofString "letter") = some (.val (.str [lt])))
    (h : Φ .next σ) : Ex1 c A (lawEnv pm code L a) σ (lawS 18) Φ := by
  conv => arg 5; whnf
  have hE := hF.ok
  have hh := hA.hh
  have hsl := sizeLine_eq
  refine ex_check (d := codesD cd lt 5) hF hA ((ev_callD hE H.replies (evall_cons (ev_addS (x := cd) (y := [32, 34]) (ev_name hE h1) ev_str (by rw [hcd.1]; show 3 + 2 ≤ _; (first | assumption | exact Int.natCast_nonneg _ | exact Nat.zero_le _ | exact Nat.le_refl _ | decide | exact Nat.le_trans (by assumption) (by decide) | lia))) (evall_cons (ev_int (i := (5 : Nat))) (evall_cons (ev_name hE h3) evall_nil))) (fn_replies (hA.le (by decide)) H.replies H.heard H.parse H.B H.bad (by rw [List.length_append, hcd.1]; decide) (by show 1 ≤ 100; decide) (by decide))).cast ?_)
    ((ev_of_fresh (ev_comp (xd := .rng 0 5) (ds := rngD 0 ((5 : Nat) : Int)) (bs := fun d => [(Str.ofString "n", .val d)]) (okd := fun _ => True) (σc := [(Str.ofString "code", .val (.str cd)), (Str.ofString "letter", .val (.str [lt]))]) (fun _ => true) (fun d => .lst [.str (cd ++ [32, 34] ++ qs (intOf d).toNat ++ [lt])]) (ev_callT (evv_built hE rfl H.B.range rfl) (evall_cons (ev_int (i := 5)) evall_nil) fn_range1) (itd_rng hh (by decide) (by decide)) rfl
      (fun G h C sc => sc_cons (cap_rd (sc _ _ h1) (.inl rfl) rfl rfl) (sc_cons (cap_rd (sc _ _ h3) (.inl rfl) rfl rfl) sc_nil)) (bnd_name hE rfl rfl) (by rw [rng_len]; (first | assumption | exact Int.natCast_nonneg _ | exact Nat.zero_le _ | exact Nat.le_refl _ | decide | exact Nat.le_trans (by assumption) (by decide) | lia)) (fun _ _ => trivial) (fun C d hd => tests_nil) (fun C d hd _ => ?_))).cast (d' := codesD cd lt 5) ?_) (gd_lst (k := 19) fun d hd => ?_) h
  · show D.lst ((List.range 5).map _) = D.lst ((List.range 5).map _)
    congr 1
    refine List.map_congr_left fun n _ => ?_
    rw [List.append_assoc, List.append_assoc, heard_code hcd]
  · obtain ⟨k, hk, rfl⟩ := mem_rng hd
    rw [show (intOf (.int (k : Int))).toNat = k from Int.toNat_natCast k]
    refine ev_list (evall_cons (ev_addS (ev_addS (ev_addS (x := cd) (y := [32, 34]) (ev_name (cE_ok hE rfl) rfl) ev_str ?_) ((ev_mulS (x := [34]) ev_str (ev_name (cE_ok hE rfl) (d := .int k) rfl) (by (first | assumption | exact Int.natCast_nonneg _ | exact Nat.zero_le _ | exact Nat.le_refl _ | decide | exact Nat.le_trans (by assumption) (by decide) | lia)) (by (first | assumption | exact Int.natCast_nonneg _ | exact Nat.zero_le _ | exact Nat.le_refl _ | decide | exact Nat.le_trans (by assumption) (by decide) | lia)) (by decide)).cast (d' := .str (qs k)) ?_) ?_) (ev_name (cE_ok hE rfl) (d := .str [lt]) rfl) ?_) evall_nil) (by show 1 ≤ _; (first | assumption | exact Int.natCast_nonneg _ | exact Nat.zero_le _ | exact Nat.le_refl _ | decide | exact Nat.le_trans (by assumption) (by decide) | lia))
    · rw [hcd.1]; show 3 + 2 ≤ _; (first | assumption | exact Int.natCast_nonneg _ | exact Nat.zero_le _ | exact Nat.le_refl _ | decide | exact Nat.le_trans (by assumption) (by decide) | lia)
    · rw [Int.toNat_natCast, flat_rep]
    · rw [List.length_append, hcd.1, qs_len]; show 3 + 2 + k ≤ _; (first | assumption | exact Int.natCast_nonneg _ | exact Nat.zero_le _ | exact Nat.le_refl _ | decide | exact Nat.le_trans (by assumption) (by decide) | lia)
    · rw [List.length_append, List.length_append, hcd.1, qs_len]; show 3 + 2 + k + 1 ≤ _; (first | assumption | exact Int.natCast_nonneg _ | exact Nat.zero_le _ | exact Nat.le_refl _ | decide | exact Nat.le_trans (by assumption) (by decide) | lia)
  · rw [map_rng]; rfl
  · obtain ⟨n, _, rfl⟩ := List.mem_map.mp hd
    refine gd_lst (k := 18) fun d hd => ?_
    rw [List.mem_singleton] at hd
    subst hd
    refine gd_str 18 fun m hm => ?_
    simp only [List.mem_append, List.mem_cons, List.not_mem_nil, or_false] at hm
    rcases hm with ((hm | hm) | hm) | hm
    · exact hcd.2.2 _ hm
    · (first | assumption | exact Int.natCast_nonneg _ | exact Nat.zero_le _ | exact Nat.le_refl _ | decide | exact Nat.le_trans (by assumption) (by decide) | lia)
    · rw [qs_mem hm]; decide
    · (first | assumption | exact Int.natCast_nonneg _ | exact Nat.zero_le _ | exact Nat.le_refl _ | decide | exact Nat.le_trans (by assumption) (by decide) | lia)
end
end Mine
end


/-! part P1 -/
section
open PySem PySem.W PyProof.Rows PySem.Calls PySem.Spec
set_option Elab.async false
set_option linter.unusedVariables false
set_option maxRecDepth 100000
namespace Mine
def leadsL (l t e lt : Nat) : List (List Nat) := (List.range (l + 1)).map fun n => leadP n t e [lt, 32, 9]
def divsP (l : Nat) : List (List Int) := (List.range (l + 1)).map fun n => (List.range n).map fun m => ((n / (m + 2) : Nat) : Int)
theorem wsGo_stop (c d : Nat) (r : List Nat) (h1 : c ≠ 32) (h2 : c ≠ 9) (h3 : d ≠ 32) (h4 : d ≠ 9) : ∀ (p : List Nat) (cnt : List Int) (b n nt : Nat), wsGo (p ++ c :: r) cnt b n nt = wsGo (p ++ [d]) cnt b n nt := by
  intro p
  induction p with
  | nil => intro cnt b n nt; simp [wsGo, h1, h2, h3, h4]
  | cons k p ih =>
    intro cnt b n nt
    simp only [List.cons_append, wsGo]
    simp only [ih]
theorem nannyRow_stop (c d : Nat) (r : List Nat) (h1 : c ≠ 32) (h2 : c ≠ 9) (h3 : d ≠ 32) (h4 : d ≠ 9) (n t e m : Nat) : nannyRow (leadP n t e (c :: r)) m t e = nannyRow (leadP n t e [d]) m t e := by
  have : ∀ k, colP (leadP n t e (c :: r)) e k = colP (leadP n t e [d]) e k := fun k => by
    unfold colP leadP
    rw [wsGo_stop c d r h1 h2 h3 h4]
  unfold nannyRow
  simp only [this]
theorem nanny_small : ∀ t < 4, ∀ e < 4, ∀ n < 6, 1 ≤ t → nannyRow (leadP n t e [0]) n t e = (List.range n).map fun m => ((n / (m + 2) : Nat) : Int) := by decide +kernel
theorem nanny_leads {l t e lt : Nat} (hl : l ≤ 5) (ht : 1 ≤ t ∧ t ≤ 3) (he : e ≤ 3) (h1 : 97 ≤ lt) : nannyP (leadsL l t e lt) t e = divsP l := by
  unfold nannyP divsP
  rw [show (leadsL l t e lt).length = l + 1 by unfold leadsL; simp]
  refine List.map_congr_left fun n hn => ?_
  have hn := List.mem_range.mp hn
  have hg : (leadsL l t e lt).getD n [] = leadP n t e [lt, 32, 9] := by
    unfold leadsL
    rw [List.getD_eq_getElem?_getD, List.getElem?_map, List.getElem?_range hn]; rfl
  rw [hg, nannyRow_stop lt 0 [32, 9] (by (first | assumption | exact Int.natCast_nonneg _ | exact Nat.zero_le _ | exact Nat.le_refl _ | decide | exact Nat.le_trans (by assumption) (by decide) | lia)) (by (first | assumption | exact Int.natCast_nonneg _ | exact Nat.zero_le _ | exact Nat.le_refl _ | decide | exact Nat.le_trans (by assumption) (by decide) | lia)) (by decide) (by decide)]
  exact nanny_small t (by (first | assumption | exact Int.natCast_nonneg _ | exact Nat.zero_le _ | exact Nat.le_refl _ | decide | exact Nat.le_trans (by assumption) (by decide) | lia)) e (by (first | assumption | exact Int.natCast_nonneg _ | exact Nat.zero_le _ | exact Nat.le_refl _ | decide | exact Nat.le_trans (by assumption) (by decide) | lia)) n (by (first | assumption | exact Int.natCast_nonneg _ | exact Nat.zero_le _ | exact Nat.le_refl _ | decide | exact Nat.le_trans (by assumption) (by decide) | lia)) ht.1
theorem leadsL_len {l t e lt : Nat} (hl : l ≤ 5) (ht : t ≤ 3) (he : e ≤ 3) : ∀ x ∈ leadsL l t e lt, x.length ≤ 40 := fun x hx => by
  obtain ⟨n, hn, rfl⟩ := List.mem_map.mp hx
  have hn := List.mem_range.mp hn
  unfold leadP
  rw [List.length_append, List.length_append, flat_len, List.length_append, List.length_replicate, List.length_replicate]
  have : t * (n + 1) ≤ 3 * 6 := Nat.mul_le_mul ht (by (first | assumption | exact Int.natCast_nonneg _ | exact Nat.zero_le _ | exact Nat.le_refl _ | decide | exact Nat.le_trans (by assumption) (by decide) | lia))
  show t * (n + 1) + e + 3 ≤ 40
  (first | assumption | exact Int.natCast_nonneg _ | exact Nat.zero_le _ | exact Nat.le_refl _ | decide | exact Nat.le_trans (by assumption) (by decide) | lia)
theorem leadsL_mem {l t e lt : Nat} (h1 : lt ≠ 34) : ∀ x ∈ leadsL l t e lt, ∀ k ∈ x, k = 32 ∨ k = 9 ∨ k = lt := fun x hx k hk => by
  obtain ⟨n, hn, rfl⟩ := List.mem_map.mp hx
  unfold leadP at hk
  simp only [List.mem_append, List.mem_cons, List.not_mem_nil, or_false] at hk
  rcases hk with (hk | hk) | hk | hk | hk
  · obtain ⟨y, hy, hk⟩ := List.mem_flatten.mp hk
    rw [List.eq_of_mem_replicate hy] at hk
    rcases List.mem_append.mp hk with hk | hk
    · exact .inl (List.eq_of_mem_replicate hk)
    · rw [List.mem_singleton] at hk; exact .inr (.inl hk)
  · exact .inl (List.eq_of_mem_replicate hk)
  · exact .inr (.inr hk)
  · exact .inl hk
  · exact .inr (.inl hk)
theorem dbl_no {x : List Nat} (h : ∀ k ∈ x, k ≠ 34) : dbl x = x := by
  induction x with
  | nil => rfl
  | cons c x ih =>
    have e : dbl (c :: x) = (if c = 34 then [34, 34] else [c]) ++ dbl x := rfl
    rw [e, if_neg (h c (.head _)), ih fun k hk => h k (.tail _ hk)]; rfl
/-- a lead between quotes is told -/
theorem heard_lead {x y : List Nat} (h : ∀ k ∈ x, k ≠ 34) : heardP ([50, 53, 55, 32, 34] ++ x ++ [34, 32] ++ y) = .str x := by
  rw [List.append_assoc, List.append_assoc, heard_257]
  have := told_dbl x ([34, 32] ++ y)
  rw [dbl_no h] at this
  rw [this]
  show D.str (x ++ []) = _
  rw [List.append_nil]
end Mine
end


/-! part L8 -/
section
open PySem PySem.W PyProof.Rows PySem.Calls PySem.Spec
set_option Elab.async false
set_option linter.unusedVariables false
set_option maxRecDepth 100000
namespace Mine
def divsD (l : Nat) : D := .lst (movesD (divsP l))
theorem gd_moves (ls : List (List Int)) : Gd 20 (.lst (movesD ls)) := gd_lst (k := 19) fun d hd => by
  obtain ⟨x, _, rfl⟩ := List.mem_map.mp hd
  exact gd_ints 18 x
section
variable {c : Cx} {A : Around} {env : Env} {σ : Sig} {Φ : Post} {pm code : Value} {L a : Addr} {r6 r7 : TabRec} {S : Nat → Int} {n : Nat} {mt cd : List Nat} {lt e t u l : Nat}
theorem ev_end {px : Pos} {kk : Nat} {pc pos : Pos} (hE : EnvOk env) (h : σ.lookup (Str.ofString "letter") = some (.val (.str [lt]))) : Ev c A env σ (.BinOp (.Name (Str.ofString "letter") px) .Add (.Constant (.str (Str.ofString " \t")) kk pc) pos) (.str [lt, 32, 9]) :=
  ev_addS (x := [lt]) (y := [32, 9]) (ev_name hE h) ev_str (by have := sizeLine_eq; show 1 + 2 ≤ _; (first | assumption | exact Int.natCast_nonneg _ | exact Nat.zero_le _ | exact Nat.le_refl _ | decide | exact Nat.le_trans (by assumption) (by decide) | lia))
theorem law_19 (hF : EnvF (lawEnv pm code L a)) (hA : AOk A 40) (H : LawC c r6 r7) (hl : l ≤ 5) (ht : 1 ≤ t ∧ t ≤ 3) (he : e ≤ 2) (hlt : 97 ≤ lt ∧ lt ≤ 122) (h1 : σ.lookup (Str.ofString "lower") = some (.val (.int l))) (h2 : σ.lookup (Str.ofString "twins") = some (.val (.int t))) (h3 : σ.lookup (Str.ofString "edge") = some (.val (.int e))) (h4 : σ.lookup (Str.ofString "letter") = some (.val (.str [lt])))
    (h : Φ .next ((Str.ofString "plain", .val (divsD l)) :: σ)) : Ex1 c A (lawEnv pm code L a) σ (lawS 19) Φ := by
  conv => arg 5; whnf
  have hE := hF.ok
  have hz := leadsL_len (l := l) (t := t) (e := e) (lt := lt) hl ht.2 (by (first | assumption | exact Int.natCast_nonneg _ | exact Nat.zero_le _ | exact Nat.le_refl _ | decide | exact Nat.le_trans (by assumption) (by decide) | lia))
  refine ex_assign hF (.inl rfl) ((ev_callD hE H.nanny (evall_cons ((ev_callD hE H.leads (evall_cons (ev_name hE h1) (evall_cons (ev_name hE h2) (evall_cons (ev_name hE h3) (evall_cons (ev_end hE h4) evall_nil)))) (fn_leads (hA.le (by decide)) H.leads H.B (by show 3 ≤ 100; decide) (by (first | assumption | exact Int.natCast_nonneg _ | exact Nat.zero_le _ | exact Nat.le_refl _ | decide | exact Nat.le_trans (by assumption) (by decide) | lia)) (by (first | assumption | exact Int.natCast_nonneg _ | exact Nat.zero_le _ | exact Nat.le_refl _ | decide | exact Nat.le_trans (by assumption) (by decide) | lia)) (by (first | assumption | exact Int.natCast_nonneg _ | exact Nat.zero_le _ | exact Nat.le_refl _ | decide | exact Nat.le_trans (by assumption) (by decide) | lia)))).cast (d' := .lst ((leadsL l t e lt).map .str)) ?_) (evall_cons (ev_name hE h2) (evall_cons (ev_name hE h3) evall_nil)))
    (fn_nanny (hA.le (by decide)) H.nanny H.wsI H.wsJ H.ws H.B (by unfold leadsL; simp; (first | assumption | exact Int.natCast_nonneg _ | exact Nat.zero_le _ | exact Nat.le_refl _ | decide | exact Nat.le_trans (by assumption) (by decide) | lia)) (fun x hx => Nat.le_trans (hz x hx) (by decide)) (by (first | assumption | exact Int.natCast_nonneg _ | exact Nat.zero_le _ | exact Nat.le_refl _ | decide | exact Nat.le_trans (by assumption) (by decide) | lia)) (by (first | assumption | exact Int.natCast_nonneg _ | exact Nat.zero_le _ | exact Nat.le_refl _ | decide | exact Nat.le_trans (by assumption) (by decide) | lia)) (by (first | assumption | exact Int.natCast_nonneg _ | exact Nat.zero_le _ | exact Nat.le_refl _ | decide | exact Nat.le_trans (by assumption) (by decide) | lia)))).cast (d' := divsD l) ?_) h
  · unfold leadsL; rw [List.map_map]; rfl
  · rw [nanny_leads hl ht (by (first | assumption | exact Int.natCast_nonneg _ | exact Nat.zero_le _ | exact Nat.le_refl _ | decide | exact Nat.le_trans (by assumption) (by decide) | lia)) hlt.1]; rfl
theorem rng2_mem {n : Nat} {d : D} (h : d ∈ rngD 2 ((n : Int) + 2)) : ∃ k, k < n ∧ d = .int ((k + 2 : Nat) : Int) := rng2_get h
theorem law_20 (hF : EnvF (lawEnv pm code L a)) (hA : AOk A 40) (H : LawC c r6 r7) (hl : l ≤ 5) (h1 : σ.lookup (Str.ofString "lower") = some (.val (.int l))) (h2 : σ.lookup (Str.ofString "plain") = some (.val (divsD l))) (h : Φ .next σ) : Ex1 c A (lawEnv pm code L a) σ (lawS 20) Φ := by
  conv => arg 5; whnf
  have hE := hF.ok
  have hh := hA.hh
  have hsl := sizeLine_eq
  refine ex_check (d := divsD l) hF hA (ev_name hE h2) ((ev_of_fresh (ev_comp (bs := fun d => [(Str.ofString "n", .val d)]) (okd := fun _ => True) (σc := []) (fun _ => true) (fun d => .lst (((List.range (intOf d).toNat).map fun m => (((intOf d).toNat / (m + 2) : Nat) : Int)).map .int))
    ((ev_callT (evv_built hE rfl H.B.range rfl) (evall_cons (ev_add (ev_name hE h1) ev_int) evall_nil) fn_range1).cast (d' := .rng 0 (l + 1 : Nat)) (by rw [Int.natCast_add]; rfl)) (itd_rng hh (by decide) (by (first | assumption | exact Int.natCast_nonneg _ | exact Nat.zero_le _ | exact Nat.le_refl _ | decide | exact Nat.le_trans (by assumption) (by decide) | lia))) rfl (fun G h C sc => sc_nil) (bnd_cell hE rfl rfl (fun _ => rfl) (fun _ => rfl)) (by rw [rng_len]; (first | assumption | exact Int.natCast_nonneg _ | exact Nat.zero_le _ | exact Nat.le_refl _ | decide | exact Nat.le_trans (by assumption) (by decide) | lia)) (fun _ _ => trivial) (fun C d hd => tests_nil) (fun C d hd _ => ?_))).cast (d' := divsD l) ?_) (gd_moves _) h
  · obtain ⟨k, hk, rfl⟩ := mem_rng hd
    rw [show (intOf (.int (k : Int))).toNat = k from Int.toNat_natCast k]
    refine (ev_of_fresh (ev_comp (xd := .rng 2 ((k : Int) + 2)) (ds := rngD 2 ((k : Int) + 2)) (bs := fun d => [(Str.ofString "m", .val d)]) (okd := fun _ => True) (σc := [(Str.ofString "n", .val (.int k))]) (fun _ => true) (fun d => .int (k / (intOf d).toNat : Nat))
      (ev_callT (evv_built (cE_ok hE rfl) rfl H.B.range rfl) (evall_cons ev_int (evall_cons (ev_add (ev_name (cE_ok hE rfl) rfl) ev_int) evall_nil)) fn_range2) (itd_rng hh (by decide) (by (first | assumption | exact Int.natCast_nonneg _ | exact Nat.zero_le _ | exact Nat.le_refl _ | decide | exact Nat.le_trans (by assumption) (by decide) | lia))) rfl (fun G h C sc => sc_cons (cap_rd (sc _ _ rfl) (.inl rfl) rfl rfl) sc_nil) (bnd_name (cE_ok hE rfl) rfl rfl) (by unfold rngD; simp; (first | assumption | exact Int.natCast_nonneg _ | exact Nat.zero_le _ | exact Nat.le_refl _ | decide | exact Nat.le_trans (by assumption) (by decide) | lia)) (fun _ _ => trivial) (fun C d hd => tests_nil) (fun C d hd _ => ?_))).cast ?_
    · obtain ⟨m, hm, rfl⟩ := rng2_mem hd
      rw [show (intOf (.int ((m + 2 : Nat) : Int))).toNat = m + 2 from Int.toNat_natCast _]
      refine (ev_fdiv (x := (k : Int)) (y := ((m + 2 : Nat) : Int)) (ev_name (cE_ok (cE_ok hE rfl) rfl) rfl) (ev_name (cE_ok (cE_ok hE rfl) rfl) rfl) (by (first | assumption | exact Int.natCast_nonneg _ | exact Nat.zero_le _ | exact Nat.le_refl _ | decide | exact Nat.le_trans (by assumption) (by decide) | lia)) (by rw [Int.natAbs_natCast]; (first | assumption | exact Int.natCast_nonneg _ | exact Nat.zero_le _ | exact Nat.le_refl _ | decide | exact Nat.le_trans (by assumption) (by decide) | lia))).cast ?_
      rw [Int.fdiv_eq_ediv_of_nonneg _ (Int.natCast_nonneg _)]; rfl
    · rw [rng2_map, List.map_map]
      rfl
  · rw [map_rng]
    show _ = D.lst (movesD (divsP l))
    unfold movesD divsP
    rw [List.map_map]
    rfl
theorem law_21 (hF : EnvF (lawEnv pm code L a)) (h2 : σ.lookup (Str.ofString "twins") = some (.val (.int t))) (h : Φ .next ((Str.ofString "others", .val (.int (1 + t % 3 : Nat))) :: σ)) : Ex1 c A (lawEnv pm code L a) σ (lawS 21) Φ := by
  conv => arg 5; whnf
  have hE := hF.ok
  have e2 : ((t : Int).fmod 3) = ((t % 3 : Nat) : Int) := by
    rw [Int.fmod_eq_emod_of_nonneg _ (by decide)]; rfl
  exact ex_assign hF (.inl rfl) ((ev_add (x := 1) ev_int (ev_mod (ev_name hE h2) ev_int (by decide))).cast (by rw [e2, Int.natCast_add]; rfl)) h
theorem law_22 {o : Nat} (hF : EnvF (lawEnv pm code L a)) (hA : AOk A 40) (H : LawC c r6 r7) (hl : l ≤ 5) (ho : 1 ≤ o ∧ o ≤ 3) (he : e ≤ 2) (hlt : 97 ≤ lt ∧ lt ≤ 122) (h1 : σ.lookup (Str.ofString "lower") = some (.val (.int l))) (h2 : σ.lookup (Str.ofString "others") = some (.val (.int o))) (h3 : σ.lookup (Str.ofString "edge") = some (.val (.int e))) (h4 : σ.lookup (Str.ofString "letter") = some (.val (.str [lt])))
    (h : Φ .next ((Str.ofString "told", .val (.lst ((leadsL l o (e + 1) lt).map .str))) :: σ)) : Ex1 c A (lawEnv pm code L a) σ (lawS 22) Φ := by
  conv => arg 5; whnf
  have hE := hF.ok
  have hh := hA.hh
  have hsl := sizeLine_eq
  have hz := leadsL_len (l := l) (t := o) (e := e + 1) (lt := lt) hl ho.2 (by (first | assumption | exact Int.natCast_nonneg _ | exact Nat.zero_le _ | exact Nat.le_refl _ | decide | exact Nat.le_trans (by assumption) (by decide) | lia))
  have hm := leadsL_mem (l := l) (t := o) (e := e + 1) (lt := lt) (by (first | assumption | exact Int.natCast_nonneg _ | exact Nat.zero_le _ | exact Nat.le_refl _ | decide | exact Nat.le_trans (by assumption) (by decide) | lia))
  refine ex_assignC (xd := .lst ((leadsL l o (e + 1) lt).map .str)) (ds := (leadsL l o (e + 1) lt).map .str) (bs := fun d => [(Str.ofString "lead", .val d)]) (okd := fun _ => True) (σc := []) (fun _ => true) (fun d => d) hF rfl
    ((ev_callD hE H.leads (evall_cons (ev_name hE h1) (evall_cons (ev_name hE h2) (evall_cons ((ev_add (ev_name hE h3) ev_int).cast (d' := .int (e + 1 : Nat)) (by rw [Int.natCast_add]; rfl)) (evall_cons (ev_end hE h4) evall_nil)))) (fn_leads (hA.le (by decide)) H.leads H.B (by show 3 ≤ 100; decide) (by (first | assumption | exact Int.natCast_nonneg _ | exact Nat.zero_le _ | exact Nat.le_refl _ | decide | exact Nat.le_trans (by assumption) (by decide) | lia)) (by (first | assumption | exact Int.natCast_nonneg _ | exact Nat.zero_le _ | exact Nat.le_refl _ | decide | exact Nat.le_trans (by assumption) (by decide) | lia)) (by (first | assumption | exact Int.natCast_nonneg _ | exact Nat.zero_le _ | exact Nat.le_refl _ | decide | exact Nat.le_trans (by assumption) (by decide) | lia)))).cast ?_) (itd_lst hh) rfl
    (fun G h C sc => sc_nil) (bnd_name hE rfl rfl) (by rw [List.length_map]; unfold leadsL; simp; (first | assumption | exact Int.natCast_nonneg _ | exact Nat.zero_le _ | exact Nat.le_refl _ | decide | exact Nat.le_trans (by assumption) (by decide) | lia)) (fun _ _ => trivial) (fun C d hd => tests_nil) (fun C d hd _ => ?_) ?_
  · unfold leadsL; rw [List.map_map]; rfl
  · obtain ⟨x, hx, rfl⟩ := List.mem_map.mp hd
    have hxl := hz x hx
    have hx34 : ∀ k ∈ x, k ≠ 34 := fun k hk q => by
      rcases hm x hx k hk with q' | q' | q' <;> (first | assumption | exact Int.natCast_nonneg _ | exact Nat.zero_le _ | exact Nat.le_refl _ | decide | exact Nat.le_trans (by assumption) (by decide) | lia)
    refine (ev_callD (cE_ok hE rfl) H.heard (evall_cons (ev_addS (ev_addS (ev_addS (x := [50, 53, 55, 32, 34]) ev_str (ev_name (cE_ok hE rfl) (d := .str x) rfl) ?_) (ev_str (l := [34, 32])) ?_) (ev_name (cE_ok hE rfl) (d := .str x) rfl) ?_) evall_nil) (fn_heard (hA.le (by decide)) H.heard H.parse H.B H.bad ?_)).cast (heard_lead hx34)
    · show 5 + x.length ≤ _; (first | assumption | exact Int.natCast_nonneg _ | exact Nat.zero_le _ | exact Nat.le_refl _ | decide | exact Nat.le_trans (by assumption) (by decide) | lia)
    · rw [List.length_append]; show 5 + x.length + 2 ≤ _; (first | assumption | exact Int.natCast_nonneg _ | exact Nat.zero_le _ | exact Nat.le_refl _ | decide | exact Nat.le_trans (by assumption) (by decide) | lia)
    · rw [List.length_append, List.length_append]; show 5 + x.length + 2 + x.length ≤ _; (first | assumption | exact Int.natCast_nonneg _ | exact Nat.zero_le _ | exact Nat.le_refl _ | decide | exact Nat.le_trans (by assumption) (by decide) | lia)
    · rw [List.length_append, List.length_append, List.length_append]; show 5 + x.length + 2 + x.length ≤ _; (first | assumption | exact Int.natCast_nonneg _ | exact Nat.zero_le _ | exact Nat.le_refl _ | decide | exact Nat.le_trans (by assumption) (by decide) | lia)
  · rw [List.filter_eq_self.mpr (fun _ _ => rfl), List.map_id']; exact h
theorem law_23 {o : Nat} (hF : EnvF (lawEnv pm code L a)) (hA : AOk A 40) (H : LawC c r6 r7) (hl : l ≤ 5) (ho : 1 ≤ o ∧ o ≤ 3) (he : e ≤ 2) (hlt : 97 ≤ lt ∧ lt ≤ 122) (h1 : σ.lookup (Str.ofString "told") = some (.val (.lst ((leadsL l o (e + 1) lt).map .str)))) (h2 : σ.lookup (Str.ofString "others") = some (.val (.int o))) (h3 : σ.lookup (Str.ofString "edge") = some (.val (.int e)))
    (h : Φ .next ((Str.ofString "pressed", .val (divsD l)) :: σ)) : Ex1 c A (lawEnv pm code L a) σ (lawS 23) Φ := by
  conv => arg 5; whnf
  have hE := hF.ok
  have hz := leadsL_len (l := l) (t := o) (e := e + 1) (lt := lt) hl ho.2 (by (first | assumption | exact Int.natCast_nonneg _ | exact Nat.zero_le _ | exact Nat.le_refl _ | decide | exact Nat.le_trans (by assumption) (by decide) | lia))
  refine ex_assign hF (.inl rfl) ((ev_callD hE H.nanny (evall_cons (ev_name hE h1) (evall_cons (ev_name hE h2) (evall_cons ((ev_add (ev_name hE h3) ev_int).cast (d' := .int (e + 1 : Nat)) (by rw [Int.natCast_add]; rfl)) evall_nil)))
    (fn_nanny (hA.le (by decide)) H.nanny H.wsI H.wsJ H.ws H.B (by unfold leadsL; simp; (first | assumption | exact Int.natCast_nonneg _ | exact Nat.zero_le _ | exact Nat.le_refl _ | decide | exact Nat.le_trans (by assumption) (by decide) | lia)) (fun x hx => Nat.le_trans (hz x hx) (by decide)) (by (first | assumption | exact Int.natCast_nonneg _ | exact Nat.zero_le _ | exact Nat.le_refl _ | decide | exact Nat.le_trans (by assumption) (by decide) | lia)) (by (first | assumption | exact Int.natCast_nonneg _ | exact Nat.zero_le _ | exact Nat.le_refl _ | decide | exact Nat.le_trans (by assumption) (by decide) | lia)) (by (first | assumption | exact Int.natCast_nonneg _ | exact Nat.zero_le _ | exact Nat.le_refl _ | decide | exact Nat.le_trans (by assumption) (by decide) | lia)))).cast (d' := divsD l) ?_) h
  rw [nanny_leads hl ho (by (first | assumption | exact Int.natCast_nonneg _ | exact Nat.zero_le _ | exact Nat.le_refl _ | decide | exact Nat.le_trans (by assumption) (by decide) | lia)) hlt.1]; rfl
end
end Mine
end


/-! part L9 -/
section
open PySem PySem.W PyProof.Rows PySem.Calls PySem.Spec
set_option Elab.async false
set_option linter.unusedVariables false
set_option maxRecDepth 100000
namespace Mine
noncomputable def bitsN (n : Nat) : List Int := bitsOf n (Builtin.Int.intBits n)
noncomputable def spellD (n : Nat) : D := .lst ((bitsN n).map .int)
noncomputable def spelledD (u : Nat) : D := .lst ((List.range (u + 1)).map spellD)
theorem bitsN_len (n : Nat) : (bitsN n).length = Builtin.Int.intBits n := bitsOf_len _ _
theorem intBits_le {n k : Nat} (h : n < 2 ^ k) : Builtin.Int.intBits n ≤ k := intBits_le_iff.mpr (by rw [Int.natAbs_natCast]; exact h)
theorem take_map_range {α : Type} (f : Nat → α) {m n : Nat} (h : m ≤ n) : ((List.range n).map f).take m = (List.range m).map f := by
  rw [← List.map_take, List.take_range, Nat.min_eq_left h]
noncomputable def countsD (l : Nat) : D := .lst ((List.range (l + 1)).map fun n => .int ((bitsN n).length : Nat))
noncomputable def worth0 (u : Nat) : List Int := (List.range (u + 1)).map fun n => valueP (bitsN n)
noncomputable def worth1 : List Int := (List.range 5).map fun n => if bitsN n = [] then 0 else 2 - (bitsN n).headD 0
noncomputable def worth2 : List Int := (List.range 5).map fun n => ((bitsN n).take 1).sum
def gameD (fr : List Nat) (W : List Int) : D := .tup [.str fr, .lst (W.map .int)]
section
variable {c : Cx} {A : Around} {env : Env} {σ : Sig} {Φ : Post} {pm code : Value} {L a : Addr} {r6 r7 : TabRec} {S : Nat → Int} {n : Nat} {mt cd : List Nat} {lt e t u l : Nat}
theorem fn_i2d {x : Nat} (hA : AOk A 40) (H : LawC c r6 r7) (hx : x < 2 ^ 30) : Fn c A (.ref 60) [.int x, .int 1] (spellD x) :=
  fn_int2digits (hA.le (by have := intBits_le hx; (first | assumption | exact Int.natCast_nonneg _ | exact Nat.zero_le _ | exact Nat.le_refl _ | decide | exact Nat.le_trans (by assumption) (by decide) | lia))) H.i2d H.pos6 H.qual6 H.B hx
theorem law_24 (hF : EnvF (lawEnv pm code L a)) (hA : AOk A 40) (H : LawC c r6 r7) (hu : u ≤ 20) (h1 : σ.lookup (Str.ofString "whole") = some (.val (.rng 0 (u + 1 : Nat)))) (h : Φ .next ((Str.ofString "spelled", .val (spelledD u)) :: σ)) : Ex1 c A (lawEnv pm code L a) σ (lawS 24) Φ := by
  conv => arg 5; whnf
  have hE := hF.ok
  have hh := hA.hh
  have hsl := sizeLine_eq
  refine ex_assignC (bs := fun d => [(Str.ofString "n", .val d)]) (okd := fun _ => True) (σc := []) (fun _ => true) (fun d => spellD (intOf d).toNat) hF rfl (ev_name hE h1) (itd_rng hh (by decide) (by (first | assumption | exact Int.natCast_nonneg _ | exact Nat.zero_le _ | exact Nat.le_refl _ | decide | exact Nat.le_trans (by assumption) (by decide) | lia))) rfl
    (fun G h C sc => sc_nil) (bnd_name hE rfl rfl) (by rw [rng_len]; (first | assumption | exact Int.natCast_nonneg _ | exact Nat.zero_le _ | exact Nat.le_refl _ | decide | exact Nat.le_trans (by assumption) (by decide) | lia)) (fun _ _ => trivial) (fun C d hd => tests_nil) (fun C d hd _ => ?_) ?_
  · obtain ⟨k, hk, rfl⟩ := mem_rng hd
    rw [show (intOf (.int (k : Int))).toNat = k from Int.toNat_natCast k]
    exact ev_callDC (cE_ok hE rfl) H.i2d (evall_cons (ev_name (cE_ok hE rfl) (d := .int k) rfl) (evall_cons ev_int evall_nil)) (fn_i2d hA H (by (first | assumption | exact Int.natCast_nonneg _ | exact Nat.zero_le _ | exact Nat.le_refl _ | decide | exact Nat.le_trans (by assumption) (by decide) | lia)))
  · rw [map_rng]; exact h
theorem spelled_upto {m : Nat} {x i : Expr} {p pos : Pos} (hm : m ≤ u + 1) (hu : u ≤ 20) (hx : Ev c A env σ x (spelledD u)) (hi : Ev c A env σ i (.int m)) : Ev c A env σ (.Subscript x (.Slice none (some i) none p) pos) (.lst ((List.range m).map spellD)) :=
  (ev_upto (ds := (List.range (u + 1)).map spellD) (evl_of hx) hi (by (first | assumption | exact Int.natCast_nonneg _ | exact Nat.zero_le _ | exact Nat.le_refl _ | decide | exact Nat.le_trans (by assumption) (by decide) | lia)) (by have := sizeLine_eq; simp; (first | assumption | exact Int.natCast_nonneg _ | exact Nat.zero_le _ | exact Nat.le_refl _ | decide | exact Nat.le_trans (by assumption) (by decide) | lia))).cast (by rw [Int.toNat_natCast, take_map_range _ hm])
theorem spell_mem {m : Nat} {d : D} (h : d ∈ (List.range m).map spellD) : ∃ k, k < m ∧ d = spellD k := by
  obtain ⟨k, hk, rfl⟩ := List.mem_map.mp h
  exact ⟨k, List.mem_range.mp hk, rfl⟩
def intsOf : D → List Int
  | .lst ds => ds.map intOf
  | _ => []
theorem intsOf_spell (k : Nat) : intsOf (spellD k) = bitsN k := by
  show ((bitsN k).map D.int).map intOf = _
  rw [List.map_map]
  exact List.map_id' _
theorem spell_map {m : Nat} (f : D → D) (g : Nat → D) (h : ∀ k, f (spellD k) = g k) : ((((List.range m).map spellD).filter fun _ => true).map f) = (List.range m).map g := by
  rw [List.filter_eq_self.mpr (fun _ _ => rfl), List.map_map]
  exact List.map_congr_left fun k _ => h k
theorem law_25 (hF : EnvF (lawEnv pm code L a)) (hA : AOk A 40) (H : LawC c r6 r7) (hu : u ≤ 20) (hl : l ≤ u) (h1 : σ.lookup (Str.ofString "spelled") = some (.val (spelledD u))) (h2 : σ.lookup (Str.ofString "lower") = some (.val (.int l))) (h : Φ .next ((Str.ofString "counts", .val (countsD l)) :: σ)) : Ex1 c A (lawEnv pm code L a) σ (lawS 25) Φ := by
  conv => arg 5; whnf
  have hE := hF.ok
  have hh := hA.hh
  have hsl := sizeLine_eq
  refine ex_assign hF (.inr ⟨rfl, _, rfl⟩) ((ev_of_fresh (ev_comp (xd := .lst ((List.range (l + 1)).map spellD)) (ds := (List.range (l + 1)).map spellD) (bs := fun d => [(Str.ofString "spell", .val d)]) (okd := fun _ => True) (σc := []) (fun _ => true) (fun d => .int ((intsOf d).length : Nat))
    (spelled_upto (by (first | assumption | exact Int.natCast_nonneg _ | exact Nat.zero_le _ | exact Nat.le_refl _ | decide | exact Nat.le_trans (by assumption) (by decide) | lia)) hu (ev_name hE h1) ((ev_add (ev_name hE h2) ev_int).cast (by rw [Int.natCast_add]; rfl))) (itd_lst hh) rfl (fun G h C sc => sc_nil) (bnd_name hE rfl rfl) (by simp; (first | assumption | exact Int.natCast_nonneg _ | exact Nat.zero_le _ | exact Nat.le_refl _ | decide | exact Nat.le_trans (by assumption) (by decide) | lia)) (fun _ _ => trivial) (fun C d hd => tests_nil) (fun C d hd _ => ?_))).cast (d' := countsD l) ?_) h
  · obtain ⟨k, hk, rfl⟩ := spell_mem hd
    rw [intsOf_spell]
    have hb : Builtin.Int.intBits k ≤ 30 := intBits_le (by (first | assumption | exact Int.natCast_nonneg _ | exact Nat.zero_le _ | exact Nat.le_refl _ | decide | exact Nat.le_trans (by assumption) (by decide) | lia))
    exact (ev_callB (evv_built (cE_ok hE rfl) rfl H.B.len rfl) (evall_cons (ev_name (cE_ok hE rfl) (d := spellD k) rfl) evall_nil) (fn_lenL (ds := (bitsN k).map .int) (by rw [List.length_map, bitsN_len]; (first | assumption | exact Int.natCast_nonneg _ | exact Nat.zero_le _ | exact Nat.le_refl _ | decide | exact Nat.le_trans (by assumption) (by decide) | lia)))).cast (by rw [List.length_map])
  · rw [spell_map _ (fun n => .int ((bitsN n).length : Nat)) (fun k => by rw [intsOf_spell])]; rfl
theorem law_26 (hF : EnvF (lawEnv pm code L a)) (hA : AOk A 40) (H : LawC c r6 r7) (hu : u ≤ 20) (h1 : σ.lookup (Str.ofString "spelled") = some (.val (spelledD u))) (h : Φ .next ((Str.ofString "games", .own [gameD [50, 53, 55, 32, 34] (worth0 u)]) :: σ)) : Ex1 c A (lawEnv pm code L a) σ (lawS 26) Φ := by
  conv => arg 5; whnf
  have hE := hF.ok
  have hh := hA.hh
  have hsl := sizeLine_eq
  refine ex_assignF hF (.inl rfl) (evf_list (ds := [gameD [50, 53, 55, 32, 34] (worth0 u)]) (evall_cons (ev_tuple (evall_cons (ev_str (l := [50, 53, 55, 32, 34])) (evall_cons ((ev_of_fresh (ev_comp (xd := spelledD u) (ds := (List.range (u + 1)).map spellD) (bs := fun d => [(Str.ofString "spell", .val d)]) (okd := fun _ => True) (σc := []) (fun _ => true) (fun d => .int (valueP (intsOf d)))
    (ev_name hE h1) (itd_lst hh) rfl (fun G h C sc => sc_nil) (bnd_name hE rfl rfl) (by simp; (first | assumption | exact Int.natCast_nonneg _ | exact Nat.zero_le _ | exact Nat.le_refl _ | decide | exact Nat.le_trans (by assumption) (by decide) | lia)) (fun _ _ => trivial) (fun C d hd => tests_nil) (fun C d hd _ => ?_))).cast (d' := .lst ((worth0 u).map .int)) ?_) evall_nil)) (by show 2 ≤ _; (first | assumption | exact Int.natCast_nonneg _ | exact Nat.zero_le _ | exact Nat.le_refl _ | decide | exact Nat.le_trans (by assumption) (by decide) | lia))) evall_nil) (by show 1 ≤ _; (first | assumption | exact Int.natCast_nonneg _ | exact Nat.zero_le _ | exact Nat.le_refl _ | decide | exact Nat.le_trans (by assumption) (by decide) | lia))) h
  · obtain ⟨k, hk, rfl⟩ := spell_mem hd
    rw [intsOf_spell]
    have hb : Builtin.Int.intBits k ≤ 30 := intBits_le (by (first | assumption | exact Int.natCast_nonneg _ | exact Nat.zero_le _ | exact Nat.le_refl _ | decide | exact Nat.le_trans (by assumption) (by decide) | lia))
    exact ev_callD (cE_ok hE rfl) H.value (evall_cons (ev_name (cE_ok hE rfl) (d := spellD k) rfl) evall_nil) (fn_value (hA.le (by decide)) H.value H.B (by rw [bitsN_len]; (first | assumption | exact Int.natCast_nonneg _ | exact Nat.zero_le _ | exact Nat.le_refl _ | decide | exact Nat.le_trans (by assumption) (by decide) | lia)))
  · rw [spell_map _ (fun n => .int (valueP (bitsN n))) (fun k => by rw [intsOf_spell])]
    unfold worth0
    rw [List.map_map]; rfl
theorem law_27 {gs : List D} (hF : EnvF (lawEnv pm code L a)) (hA : AOk A 40) (H : LawC c r6 r7) (hu : 4 ≤ u ∧ u ≤ 20) (hgs : gs.length ≤ 3) (h1 : σ.lookup (Str.ofString "spelled") = some (.val (spelledD u))) (h2 : σ.lookup (Str.ofString "mute") = some (.val (.str mt))) (h3 : σ.lookup (Str.ofString "games") = some (.own gs)) (h : Φ .next ((Str.ofString "games", .own (gs ++ [gameD mt worth1])) :: σ)) : Ex1 c A (lawEnv pm code L a) σ (lawS 27) Φ := by
  conv => arg 5; whnf
  have hE := hF.ok
  have hh := hA.hh
  have hsl := sizeLine_eq
  refine ex_append (d := gameD mt worth1) hF h3 (ev_tuple (evall_cons (ev_name hE h2) (evall_cons ((ev_of_fresh (ev_comp (xd := .lst ((List.range 5).map spellD)) (ds := (List.range 5).map spellD) (bs := fun d => [(Str.ofString "spell", .val d)]) (okd := fun _ => True) (σc := []) (fun _ => true) (fun d => .int (if intsOf d = [] then 0 else 2 - (intsOf d).headD 0))
    (spelled_upto (by (first | assumption | exact Int.natCast_nonneg _ | exact Nat.zero_le _ | exact Nat.le_refl _ | decide | exact Nat.le_trans (by assumption) (by decide) | lia)) hu.2 (ev_name hE h1) (ev_int (i := (5 : Nat)))) (itd_lst hh) rfl (fun G h C sc => sc_nil) (bnd_name hE rfl rfl) (by simp; (first | assumption | exact Int.natCast_nonneg _ | exact Nat.zero_le _ | exact Nat.le_refl _ | decide | exact Nat.le_trans (by assumption) (by decide) | lia)) (fun _ _ => trivial) (fun C d hd => tests_nil) (fun C d hd _ => ?_))).cast (d' := .lst (worth1.map .int)) ?_) evall_nil)) (by show 2 ≤ _; (first | assumption | exact Int.natCast_nonneg _ | exact Nat.zero_le _ | exact Nat.le_refl _ | decide | exact Nat.le_trans (by assumption) (by decide) | lia))) (by (first | assumption | exact Int.natCast_nonneg _ | exact Nat.zero_le _ | exact Nat.le_refl _ | decide | exact Nat.le_trans (by assumption) (by decide) | lia)) h
  · obtain ⟨k, hk, rfl⟩ := spell_mem hd
    rw [intsOf_spell]
    have hcmp := cmp_neP (c := c) (A := A) (x := spellD k) (y := .lst []) hA (gd_ints 3 (bitsN k)).1 rfl (Nat.le_trans (gd_ints 3 (bitsN k)).2 (by decide))
    refine ev_if (x := !decide (bitsN k = [])) ((tr_cmp1 (ev_name (cE_ok hE rfl) (d := spellD k) rfl) (ev_list evall_nil (by simp)) hcmp).cast ?_) (fun q => ?_) (fun q => ?_)
    · unfold spellD
      cases bitsN k with
      | nil => rfl
      | cons x y => rfl
    · have q' : bitsN k ≠ [] := by simpa using q
      rw [if_neg q']
      refine ev_sub (x := 2) (y := (bitsN k).headD 0) ev_int (ev_item (ds := (bitsN k).map .int) (k := 0) (evl_of (ev_name (cE_ok hE rfl) (d := spellD k) rfl)) ev_int (by decide) (by decide) ?_)
      cases e : bitsN k with
      | nil => exact absurd e q'
      | cons x y => rfl
    · have q' : bitsN k = [] := by simpa using q
      rw [if_pos q']; exact ev_int
  · rw [spell_map _ (fun n => .int (if bitsN n = [] then 0 else 2 - (bitsN n).headD 0)) (fun k => by rw [intsOf_spell])]
    unfold worth1
    rw [List.map_map]; rfl
theorem law_28 {gs : List D} (hF : EnvF (lawEnv pm code L a)) (hA : AOk A 40) (H : LawC c r6 r7) (hu : 4 ≤ u ∧ u ≤ 20) (hgs : gs.length ≤ 3) (hcd : cd.length = 3) (h1 : σ.lookup (Str.ofString "spelled") = some (.val (spelledD u))) (h2 : σ.lookup (Str.ofString "code") = some (.val (.str cd))) (h3 : σ.lookup (Str.ofString "games") = some (.own gs)) (h : Φ .next ((Str.ofString "games", .own (gs ++ [gameD (cd ++ [32, 34]) worth2])) :: σ)) : Ex1 c A (lawEnv pm code L a) σ (lawS 28) Φ := by
  conv => arg 5; whnf
  have hE := hF.ok
  have hh := hA.hh
  have hsl := sizeLine_eq
  refine ex_append (d := gameD (cd ++ [32, 34]) worth2) hF h3 (ev_tuple (evall_cons (ev_addS (x := cd) (y := [32, 34]) (ev_name hE h2) ev_str (by rw [hcd]; show 3 + 2 ≤ _; (first | assumption | exact Int.natCast_nonneg _ | exact Nat.zero_le _ | exact Nat.le_refl _ | decide | exact Nat.le_trans (by assumption) (by decide) | lia))) (evall_cons ((ev_of_fresh (ev_comp (xd := .lst ((List.range 5).map spellD)) (ds := (List.range 5).map spellD) (bs := fun d => [(Str.ofString "spell", .val d)]) (okd := fun _ => True) (σc := []) (fun _ => true) (fun d => .int ((intsOf d).take 1).sum)
    (spelled_upto (by (first | assumption | exact Int.natCast_nonneg _ | exact Nat.zero_le _ | exact Nat.le_refl _ | decide | exact Nat.le_trans (by assumption) (by decide) | lia)) hu.2 (ev_name hE h1) (ev_int (i := (5 : Nat)))) (itd_lst hh) rfl (fun G h C sc => sc_nil) (bnd_name hE rfl rfl) (by simp; (first | assumption | exact Int.natCast_nonneg _ | exact Nat.zero_le _ | exact Nat.le_refl _ | decide | exact Nat.le_trans (by assumption) (by decide) | lia)) (fun _ _ => trivial) (fun C d hd => tests_nil) (fun C d hd _ => ?_))).cast (d' := .lst (worth2.map .int)) ?_) evall_nil)) (by show 2 ≤ _; (first | assumption | exact Int.natCast_nonneg _ | exact Nat.zero_le _ | exact Nat.le_refl _ | decide | exact Nat.le_trans (by assumption) (by decide) | lia))) (by (first | assumption | exact Int.natCast_nonneg _ | exact Nat.zero_le _ | exact Nat.le_refl _ | decide | exact Nat.le_trans (by assumption) (by decide) | lia)) h
  · obtain ⟨k, hk, rfl⟩ := spell_mem hd
    rw [intsOf_spell]
    have hb : Builtin.Int.intBits k ≤ 30 := intBits_le (by (first | assumption | exact Int.natCast_nonneg _ | exact Nat.zero_le _ | exact Nat.le_refl _ | decide | exact Nat.le_trans (by assumption) (by decide) | lia))
    exact ev_callB (evv_built (cE_ok hE rfl) rfl H.B.sum rfl) (evall_cons ((ev_upto (ds := (bitsN k).map .int) (k := 1) (evl_of (ev_name (cE_ok hE rfl) (d := spellD k) rfl)) ev_int (by decide) (by rw [List.length_map, bitsN_len]; (first | assumption | exact Int.natCast_nonneg _ | exact Nat.zero_le _ | exact Nat.le_refl _ | decide | exact Nat.le_trans (by assumption) (by decide) | lia))).cast (d' := .lst (((bitsN k).take 1).map .int)) (by rw [List.map_take]; rfl)) evall_nil) (fn_sum hh)
  · rw [spell_map _ (fun n => .int ((bitsN n).take 1).sum) (fun k => by rw [intsOf_spell])]
    unfold worth2
    rw [List.map_map]; rfl
end
end Mine
end


/-! part P2 -/
section
open PySem PySem.W PyProof.Rows PySem.Calls PySem.Spec
set_option Elab.async false
set_option linter.unusedVariables false
set_option maxRecDepth 100000
namespace Mine
/-- who wins, as the law says -/
noncomputable def tableP (W : List Int) (l : Nat) : List (List Bool) := W.map fun w => (List.range (l + 1)).map fun n => w == ((bitsN n).length : Int)
structure GameOk (lt l : Nat) (fr : List Nat) (W : List Int) (names : List D) : Prop where
  repl : repliesP fr W.length [lt, 34, 32, lt] = names
  hn : ∀ d ∈ names, (∃ x : List Nat, d = .str x ∧ x.length ≤ 1000) ∨ ∃ l, d = .lst l
  hfr : fr.length ≤ 100
  hW : W.length ≤ 100
  key : lostP ((List.range W.length).map (readerRow names)) (divsP l) = tableP W l
theorem rows0_key0 : ∀ u < 4, ∀ l < 3, lostP ((List.range (u + 6 + 1)).map fun (n : Nat) => rowP [(n : Int) - 1, ((n / 2 : Nat) : Int)] n) (divsP (l + 3)) = tableP (worth0 (u + 6)) (l + 3) := by decide +kernel
theorem rows0_key (u : Nat) (hu : u < 10) (l : Nat) (hl : l < 6) (h1 : 6 ≤ u) (h2 : 3 ≤ l) : lostP ((List.range (u + 1)).map fun (n : Nat) => rowP [(n : Int) - 1, ((n / 2 : Nat) : Int)] n) (divsP l) = tableP (worth0 u) l := by
  have := rows0_key0 (u - 6) (by (first | assumption | exact Int.natCast_nonneg _ | exact Nat.zero_le _ | exact Nat.le_refl _ | decide | exact Nat.le_trans (by assumption) (by decide) | lia)) (l - 3) (by (first | assumption | exact Int.natCast_nonneg _ | exact Nat.zero_le _ | exact Nat.le_refl _ | decide | exact Nat.le_trans (by assumption) (by decide) | lia))
  rwa [show u - 6 + 6 = u by (first | assumption | exact Int.natCast_nonneg _ | exact Nat.zero_le _ | exact Nat.le_refl _ | decide | exact Nat.le_trans (by assumption) (by decide) | lia), show l - 3 + 3 = l by (first | assumption | exact Int.natCast_nonneg _ | exact Nat.zero_le _ | exact Nat.le_refl _ | decide | exact Nat.le_trans (by assumption) (by decide) | lia)] at this
theorem rows1_key : ∀ l < 6, 3 ≤ l → lostP ((List.range 5).map fun (n : Nat) => rowP [(n : Int) - 1, 0] n) (divsP l) = tableP worth1 l := by decide +kernel
theorem rows2_key : ∀ l < 6, 3 ≤ l → lostP ((List.range 5).map fun (n : Nat) => rowP [(n : Int) - 1] n) (divsP l) = tableP worth2 l := by decide +kernel
theorem getD_map_range {f : Nat → D} {m n : Nat} (h : n < m) : ((List.range m).map f).getD n .none = f n := by
  rw [List.getD_eq_getElem?_getD, List.getElem?_map, List.getElem?_range h]; rfl
theorem count_qs (n lt : Nat) (h : lt ≠ 34) (b : Prop) [Decidable b] : (qs n ++ if b then [lt] else []).count 34 = n := by
  rw [List.count_append]
  have h1 : (qs n).count 34 = n := List.count_replicate_self
  have h2 : (if b then [lt] else []).count 34 = 0 := by
    split
    · rw [List.count_singleton]; simp [h]
    · rfl
  (first | assumption | exact Int.natCast_nonneg _ | exact Nat.zero_le _ | exact Nat.le_refl _ | decide | exact Nat.le_trans (by assumption) (by decide) | lia)
theorem game0 {lt l u : Nat} (hlt : 97 ≤ lt ∧ lt ≤ 122) (hu : 6 ≤ u ∧ u ≤ 9) (hl : 3 ≤ l ∧ l ≤ 5) : GameOk lt l [50, 53, 55, 32, 34] (worth0 u) ((List.range (u + 1)).map fun n => .str (qs (n / 2) ++ if n % 2 = 0 then [lt] else [])) := by
  have hlen : (worth0 u).length = u + 1 := by unfold worth0; simp
  refine ⟨?_, fun d hd => ?_, by decide, by (first | assumption | exact Int.natCast_nonneg _ | exact Nat.zero_le _ | exact Nat.le_refl _ | decide | exact Nat.le_trans (by assumption) (by decide) | lia), ?_⟩
  · rw [hlen]
    unfold repliesP
    refine List.map_congr_left fun n _ => ?_
    rw [List.append_assoc, heard_257, told_ql _ _ _ (by (first | assumption | exact Int.natCast_nonneg _ | exact Nat.zero_le _ | exact Nat.le_refl _ | decide | exact Nat.le_trans (by assumption) (by decide) | lia)), told_lq _ _ (by (first | assumption | exact Int.natCast_nonneg _ | exact Nat.zero_le _ | exact Nat.le_refl _ | decide | exact Nat.le_trans (by assumption) (by decide) | lia))]
  · obtain ⟨n, hn, rfl⟩ := List.mem_map.mp hd
    have := List.mem_range.mp hn
    refine .inl ⟨_, rfl, ?_⟩
    rw [List.length_append, qs_len]
    split <;> simp <;> (first | assumption | exact Int.natCast_nonneg _ | exact Nat.zero_le _ | exact Nat.le_refl _ | decide | exact Nat.le_trans (by assumption) (by decide) | lia)
  · rw [hlen, ← rows0_key u (by (first | assumption | exact Int.natCast_nonneg _ | exact Nat.zero_le _ | exact Nat.le_refl _ | decide | exact Nat.le_trans (by assumption) (by decide) | lia)) l (by (first | assumption | exact Int.natCast_nonneg _ | exact Nat.zero_le _ | exact Nat.le_refl _ | decide | exact Nat.le_trans (by assumption) (by decide) | lia)) hu.1 hl.1]
    congr 1
    refine List.map_congr_left fun n hn => ?_
    unfold readerRow
    rw [getD_map_range (List.mem_range.mp hn)]
    show rowP (((n : Int) - 1) :: [((qs (n / 2) ++ if n % 2 = 0 then [lt] else []).count 34 : Nat)]) n = _
    rw [count_qs _ _ (by (first | assumption | exact Int.natCast_nonneg _ | exact Nat.zero_le _ | exact Nat.le_refl _ | decide | exact Nat.le_trans (by assumption) (by decide) | lia))]
theorem game1 {lt l : Nat} {mt : List Nat} (hlt : 97 ≤ lt ∧ lt ≤ 122) (hm : mt ∈ muteAll) (hl : 3 ≤ l ∧ l ≤ 5) : GameOk lt l mt worth1 ((List.range 5).map fun _ => .str []) := by
  have hlen : worth1.length = 5 := by unfold worth1; simp
  have hml : mt.length ≤ 10 := by
    have : ∀ m ∈ muteAll, m.length ≤ 10 := by decide
    exact this mt hm
  refine ⟨?_, fun d hd => ?_, by (first | assumption | exact Int.natCast_nonneg _ | exact Nat.zero_le _ | exact Nat.le_refl _ | decide | exact Nat.le_trans (by assumption) (by decide) | lia), by (first | assumption | exact Int.natCast_nonneg _ | exact Nat.zero_le _ | exact Nat.le_refl _ | decide | exact Nat.le_trans (by assumption) (by decide) | lia), ?_⟩
  · rw [hlen]
    unfold repliesP
    refine List.map_congr_left fun n _ => ?_
    exact heard_mute hm n lt _ (by (first | assumption | exact Int.natCast_nonneg _ | exact Nat.zero_le _ | exact Nat.le_refl _ | decide | exact Nat.le_trans (by assumption) (by decide) | lia)) (by (first | assumption | exact Int.natCast_nonneg _ | exact Nat.zero_le _ | exact Nat.le_refl _ | decide | exact Nat.le_trans (by assumption) (by decide) | lia))
  · obtain ⟨n, hn, rfl⟩ := List.mem_map.mp hd
    exact .inl ⟨_, rfl, by decide⟩
  · rw [hlen, ← rows1_key l (by (first | assumption | exact Int.natCast_nonneg _ | exact Nat.zero_le _ | exact Nat.le_refl _ | decide | exact Nat.le_trans (by assumption) (by decide) | lia)) hl.1]
    congr 1
theorem game2 {lt l : Nat} {cd : List Nat} (hlt : 97 ≤ lt ∧ lt ≤ 122) (hcd : cd.length = 3 ∧ cd ≠ [50, 53, 55] ∧ ∀ n ∈ cd, n < 0x110000) (hl : 3 ≤ l ∧ l ≤ 5) : GameOk lt l (cd ++ [32, 34]) worth2 ((List.range 5).map fun n => .lst [.str (cd ++ [32, 34] ++ qs n ++ [lt, 34, 32, lt])]) := by
  have hlen : worth2.length = 5 := by unfold worth2; simp
  refine ⟨?_, fun d hd => ?_, by rw [List.length_append, hcd.1]; decide, by (first | assumption | exact Int.natCast_nonneg _ | exact Nat.zero_le _ | exact Nat.le_refl _ | decide | exact Nat.le_trans (by assumption) (by decide) | lia), ?_⟩
  · rw [hlen]
    unfold repliesP
    refine List.map_congr_left fun n _ => ?_
    rw [List.append_assoc, List.append_assoc, heard_code hcd]
  · obtain ⟨n, hn, rfl⟩ := List.mem_map.mp hd
    exact .inr ⟨_, rfl⟩
  · rw [hlen, ← rows2_key l (by (first | assumption | exact Int.natCast_nonneg _ | exact Nat.zero_le _ | exact Nat.le_refl _ | decide | exact Nat.le_trans (by assumption) (by decide) | lia)) hl.1]
    congr 1
end Mine
end


/-! part L10 -/
section
open PySem PySem.W PyProof.Rows PySem.Calls PySem.Spec
set_option Elab.async false
set_option linter.unusedVariables false
set_option maxRecDepth 100000
namespace Mine
noncomputable def sigG (games : List (List Nat × List Int)) (lt e t l : Nat) (sd : D) : Sig := [(Str.ofString "games", .val (.lst (games.map fun p => gameD p.1 p.2))), (Str.ofString "pressed", .val (divsD l)), (Str.ofString "counts", .val (countsD l)), (Str.ofString "letter", .val (.str [lt])), (Str.ofString "edge", .val (.int e)), (Str.ofString "twins", .val (.int t)), (Str.ofString "sums", .val sd)]
def nG : List Str := [Str.ofString "games", Str.ofString "pressed", Str.ofString "counts", Str.ofString "letter", Str.ofString "edge", Str.ofString "twins", Str.ofString "sums"]
theorem readerP_moves (names : List D) : readerP names = .lst (movesD ((List.range names.length).map (readerRow names))) := by
  unfold readerP movesD
  rw [List.map_map]; rfl
theorem moves_ok (f : Nat → List Int) (m : Nat) (h : ∀ n, (f n).length ≤ 100 ∧ ∀ x ∈ f n, 0 ≤ x ∧ x < (n : Int)) : ∀ (i : Nat) (one : List Int), ((List.range m).map f)[i]? = some one → one.length ≤ 100 ∧ ∀ x ∈ one, 0 ≤ x ∧ x < (i : Int) := fun i one e => by
  rw [List.getElem?_map, Option.map_eq_some_iff] at e
  obtain ⟨k, hk, rfl⟩ := e
  obtain ⟨hi, hk⟩ := List.getElem?_eq_some_iff.mp hk
  rw [List.getElem_range] at hk
  subst hk
  exact h i
theorem rowP_ok (l : List Int) (n : Nat) (hl : l.length ≤ 100) : (rowP l n).length ≤ 100 ∧ ∀ x ∈ rowP l n, 0 ≤ x ∧ x < (n : Int) := by
  refine ⟨Nat.le_trans (List.length_filter_le _ _) hl, fun x hx => ?_⟩
  have := (List.mem_filter.mp hx).2
  simpa using this
section
variable {c : Cx} {A : Around} {env : Env} {σ : Sig} {Φ : Post} {pm code : Value} {L a : Addr} {r6 r7 : TabRec} {S : Nat → Int} {n : Nat} {mt cd : List Nat} {lt e t u l : Nat} {sd : D}
theorem divs_ok (hl : l ≤ 5) : ∀ (i : Nat) (two : List Int), (divsP l)[i]? = some two → two.length ≤ 100 ∧ ∀ x ∈ two, 0 ≤ x ∧ x < (i : Int) := fun i two e => by
  have hi : i < l + 1 := by
    obtain ⟨q, _⟩ := List.getElem?_eq_some_iff.mp e
    unfold divsP at q; simpa using q
  unfold divsP at e
  rw [List.getElem?_map, List.getElem?_range hi] at e
  cases e
  refine ⟨by simp; (first | assumption | exact Int.natCast_nonneg _ | exact Nat.zero_le _ | exact Nat.le_refl _ | decide | exact Nat.le_trans (by assumption) (by decide) | lia), fun x hx => ?_⟩
  obtain ⟨m, hm, rfl⟩ := List.mem_map.mp hx
  have hm := List.mem_range.mp hm
  have : i / (m + 2) < i := Nat.div_lt_self (by (first | assumption | exact Int.natCast_nonneg _ | exact Nat.zero_le _ | exact Nat.le_refl _ | decide | exact Nat.le_trans (by assumption) (by decide) | lia)) (by (first | assumption | exact Int.natCast_nonneg _ | exact Nat.zero_le _ | exact Nat.le_refl _ | decide | exact Nat.le_trans (by assumption) (by decide) | lia))
  exact ⟨Int.natCast_nonneg _, Int.ofNat_lt.mpr this⟩
theorem gd_rows (ls : List (List Bool)) : Gd 20 (.lst (rowsD ls)) := gd_lst (k := 19) fun d hd => by
  obtain ⟨x, _, rfl⟩ := List.mem_map.mp hd
  refine gd_lst (k := 18) fun d hd => ?_
  obtain ⟨b, _, rfl⟩ := List.mem_map.mp hd
  exact gd_bool _ _
set_option maxHeartbeats 1000000 in
theorem law_29 {games : List (List Nat × List Int)} (hF : EnvF (lawEnv pm code L a)) (hA : AOk A 40) (H : LawC c r6 r7) (hl : l ≤ 5) (hg : ∀ p ∈ games, ∃ names, GameOk lt l p.1 p.2 names) (h : Φ .next (sigG games lt e t l sd)) : Ex1 c A (lawEnv pm code L a) (sigG games lt e t l sd) (lawS 29) Φ := by
  conv => arg 5; whnf
  have hE := hF.ok
  have hh := hA.hh
  have hsl := sizeLine_eq
  refine ex_forKeep (xd := .lst (games.map fun p => gameD p.1 p.2)) (ds := games.map fun p => gameD p.1 p.2) (bs := bs2 (Str.ofString "front") (Str.ofString "worths")) (okd := Tup2) hF (ev_name hE rfl) (itd_lst hh) (bindF_tup hh hF (.inl rfl) (.inl rfl)) (fun d hd => ?_) (fun d hd => ?_) h
  · obtain ⟨p, hp, rfl⟩ := List.mem_map.mp hd
    exact ⟨_, _, rfl⟩
  · obtain ⟨p, hp, rfl⟩ := List.mem_map.mp hd
    obtain ⟨names, g⟩ := hg p hp
    have hlen : names.length = p.2.length := by rw [← g.repl]; unfold repliesP; simp
    have hfW := g.hW
    refine ex_cons (ex_assign (d := .lst (movesD ((List.range p.2.length).map (readerRow names)))) hF (.inl rfl) ((ev_callD hE H.reader (evall_cons ((ev_callD hE H.replies (evall_cons (ev_name hE (d := .str p.1) rfl) (evall_cons ((ev_callB (evv_built hE rfl H.B.len rfl) (evall_cons (ev_name hE (d := .lst (p.2.map .int)) rfl) evall_nil) (fn_lenL (by rw [List.length_map]; (first | assumption | exact Int.natCast_nonneg _ | exact Nat.zero_le _ | exact Nat.le_refl _ | decide | exact Nat.le_trans (by assumption) (by decide) | lia)))).cast (d' := .int (p.2.length : Nat)) (by rw [List.length_map])) (evall_cons (ev_addS (x := [lt, 34, 32]) (y := [lt]) (ev_addS (x := [lt]) (y := [34, 32]) (ev_name hE rfl) ev_str (by show 1 + 2 ≤ _; (first | assumption | exact Int.natCast_nonneg _ | exact Nat.zero_le _ | exact Nat.le_refl _ | decide | exact Nat.le_trans (by assumption) (by decide) | lia))) (ev_name hE rfl) (by show 3 + 1 ≤ _; (first | assumption | exact Int.natCast_nonneg _ | exact Nat.zero_le _ | exact Nat.le_refl _ | decide | exact Nat.le_trans (by assumption) (by decide) | lia))) evall_nil)))
      (fn_replies (hA.le (by decide)) H.replies H.heard H.parse H.B H.bad g.hfr (by show 4 ≤ 100; decide) g.hW)).cast (d' := .lst names) (by rw [← g.repl]; rfl)) evall_nil) (fn_reader (hA.le (by decide)) H.reader H.B (by (first | assumption | exact Int.natCast_nonneg _ | exact Nat.zero_le _ | exact Nat.le_refl _ | decide | exact Nat.le_trans (by assumption) (by decide) | lia)) g.hn)).cast ?_) ?_)
    · rw [readerP_moves, hlen]
    · refine ex_cons (ex_check (d := .lst (rowsD (tableP p.2 l))) hF hA ((ev_callD hE H.lost (evall_cons (ev_name hE rfl) (evall_cons (ev_name hE (d := divsD l) rfl) evall_nil)) (fn_lost (hA.le (by decide)) H.lost H.B (by simp; (first | assumption | exact Int.natCast_nonneg _ | exact Nat.zero_le _ | exact Nat.le_refl _ | decide | exact Nat.le_trans (by assumption) (by decide) | lia)) (by unfold divsP; simp; (first | assumption | exact Int.natCast_nonneg _ | exact Nat.zero_le _ | exact Nat.le_refl _ | decide | exact Nat.le_trans (by assumption) (by decide) | lia)) (moves_ok _ _ fun n => rowP_ok _ _ ?_) (divs_ok hl))).cast (by rw [← g.key]; rfl))
        ((ev_of_fresh (ev_comp (xd := .lst (p.2.map .int)) (ds := p.2.map .int) (bs := fun d => [(Str.ofString "worth", .val d)]) (okd := fun _ => True) (σc := [(Str.ofString "counts", .val (countsD l))]) (fun _ => true) (fun d => .lst (boolsD ((List.range (l + 1)).map fun n => intOf d == ((bitsN n).length : Int))))
          (ev_name hE rfl) (itd_lst hh) rfl (fun G h C sc => sc_cons (cap_rd (sc _ _ rfl) (.inl rfl) rfl rfl) sc_nil) (bnd_cell hE rfl rfl (fun _ => rfl) (fun _ => rfl)) (by rw [List.length_map]; (first | assumption | exact Int.natCast_nonneg _ | exact Nat.zero_le _ | exact Nat.le_refl _ | decide | exact Nat.le_trans (by assumption) (by decide) | lia)) (fun _ _ => trivial) (fun C d hd => tests_nil) (fun C d hd _ => ?_))).cast (d' := .lst (rowsD (tableP p.2 l))) ?_) (gd_rows _) (exs_sub (τ := sigG games lt e t l sd) (sub_fresh (τ := [(Str.ofString "reader", .val (.lst (movesD ((List.range p.2.length).map (readerRow names))))), (Str.ofString "worths", .val (.lst (p.2.map .int))), (Str.ofString "front", .val (.str p.1))]) (ns := nG) (ms := [Str.ofString "reader", Str.ofString "worths", Str.ofString "front"]) rfl rfl (by decide) (by decide)) (ex_nil ⟨rfl, rfl⟩)))
      · have := toldN_len (names.getD n .none)
        rw [List.length_cons]; (first | assumption | exact Int.natCast_nonneg _ | exact Nat.zero_le _ | exact Nat.le_refl _ | decide | exact Nat.le_trans (by assumption) (by decide) | lia)
      · obtain ⟨w, hw, rfl⟩ := mem_ints hd
        refine (ev_of_fresh (ev_comp (xd := countsD l) (ds := (List.range (l + 1)).map fun n => .int ((bitsN n).length : Nat)) (bs := fun d => [(Str.ofString "count", .val d)]) (okd := fun _ => True) (σc := [(Str.ofString "worth", .val (.int w))]) (fun _ => true) (fun d => .bool (w == intOf d))
          (ev_name (cE_ok hE rfl) rfl) (itd_lst hh) rfl (fun G h C sc => sc_cons (cap_rd (sc _ _ rfl) (.inl rfl) rfl rfl) sc_nil) (bnd_name (cE_ok hE rfl) rfl rfl) (by simp; (first | assumption | exact Int.natCast_nonneg _ | exact Nat.zero_le _ | exact Nat.le_refl _ | decide | exact Nat.le_trans (by assumption) (by decide) | lia)) (fun _ _ => trivial) (fun C d hd => tests_nil) (fun C d hd _ => ?_))).cast ?_
        · obtain ⟨m, hm, rfl⟩ := List.mem_map.mp hd
          exact ev_cmp1 (ev_name (cE_ok (cE_ok hE rfl) rfl) rfl) (ev_name (cE_ok (cE_ok hE rfl) rfl) (d := .int ((bitsN m).length : Nat)) rfl) cmp_eqI
        · rw [List.filter_eq_self.mpr (fun _ _ => rfl), List.map_map]
          unfold boolsD
          rw [List.map_map]; rfl
      · rw [List.filter_eq_self.mpr (fun _ _ => rfl), List.map_map]
        unfold rowsD tableP
        rw [List.map_map]; rfl
end
end Mine
end


/-! part P3 -/
section
open PySem PySem.W PyProof.Rows PySem.Calls PySem.Spec
set_option Elab.async false
set_option linter.unusedVariables false
set_option maxRecDepth 100000
namespace Mine
noncomputable def rg : Nat → Nat → List Int
  | 0, _ => []
  | k + 1, n => if 0 < n then ((n % 2 : Nat) : Int) :: rg k (n / 2) else rg k n
theorem parse_reply (n lt : Nat) (h : lt ≠ 34) : parseP (replyQ n [lt]) = qs (n / 2) ++ if n % 2 = 0 then [lt] else [] := by
  unfold replyQ
  rw [List.append_assoc, parse_front, told_ql _ _ _ h, told_l _ h]
theorem readGo_rg (lt : Nat) (h : lt ≠ 34) : ∀ k n, readGo k n [lt] = rg k n := by
  intro k
  induction k with
  | zero => intro n; rfl
  | succ k ih =>
    intro n
    rw [readGo, rg]
    split
    · rw [parse_reply n lt h, count_qs _ _ h, ih]
      congr 1
      by_cases h2 : n % 2 = 0
      · rw [if_pos h2, h2]
        simp [List.idxOf_cons]
      · have h1 : n % 2 = 1 := by (first | assumption | exact Int.natCast_nonneg _ | exact Nat.zero_le _ | exact Nat.le_refl _ | decide | exact Nat.le_trans (by assumption) (by decide) | lia)
        have hne : (qs (n / 2) ++ [lt] == qs (n / 2)) = false := by
          cases q : (qs (n / 2) ++ [lt] == qs (n / 2)) with
          | false => rfl
          | true =>
            have := congrArg List.length (eq_of_beq q)
            rw [List.length_append] at this
            simp at this
        rw [if_neg h2, h1, List.append_nil]
        simp [List.idxOf_cons, hne]
    · exact ih n
theorem rg_bits : ∀ n < 16, rg 8 (n + 10) = bitsN (n + 10) := by decide +kernel
theorem readings_bits {n lt : Nat} (hn : 10 ≤ n ∧ n < 26) (h : lt ≠ 34) : readGo 8 n [lt] = bitsN n := by
  rw [readGo_rg lt h]
  have := rg_bits (n - 10) (by (first | assumption | exact Int.natCast_nonneg _ | exact Nat.zero_le _ | exact Nat.le_refl _ | decide | exact Nat.le_trans (by assumption) (by decide) | lia))
  rwa [show n - 10 + 10 = n by (first | assumption | exact Int.natCast_nonneg _ | exact Nat.zero_le _ | exact Nat.le_refl _ | decide | exact Nat.le_trans (by assumption) (by decide) | lia)] at this
noncomputable def lvP (x : List Nat) (tab : Nat) : Int := levelP (wsGo x [] 0 0 0).1 ((wsGo x [] 0 0 0).2.1 : Nat) ((wsGo x [] 0 0 0).2.2.2 : Nat) tab
noncomputable def margOk (n t e : Nat) : Bool := (List.range (bitsN n).length).all fun m => lvP (leadP n t e [0]) (2 ^ (m + 1)) == ((t * 2 ^ (m + 1) : Nat) : Int) * (undig ((bitsN n).drop (m + 1)) + 1) + (e : Nat)
theorem marg_small : ∀ n < 16, ∀ t < 3, ∀ e < 3, margOk (n + 10) (t + 1) e = true := by decide +kernel
theorem marg_key {n t e lt m : Nat} (hn : 10 ≤ n ∧ n < 26) (ht : 1 ≤ t ∧ t ≤ 3) (he : e ≤ 2) (hlt : 97 ≤ lt) (h1 : 1 ≤ m) (h2 : m ≤ (bitsN n).length) : lvP (leadP n t e [lt, 32, 9]) (2 ^ m) = ((t * 2 ^ m : Nat) : Int) * (undig ((bitsN n).drop m) + 1) + (e : Nat) := by
  have e1 : lvP (leadP n t e [lt, 32, 9]) (2 ^ m) = lvP (leadP n t e [0]) (2 ^ m) := by
    unfold lvP leadP
    rw [wsGo_stop lt 0 [32, 9] (by (first | assumption | exact Int.natCast_nonneg _ | exact Nat.zero_le _ | exact Nat.le_refl _ | decide | exact Nat.le_trans (by assumption) (by decide) | lia)) (by (first | assumption | exact Int.natCast_nonneg _ | exact Nat.zero_le _ | exact Nat.le_refl _ | decide | exact Nat.le_trans (by assumption) (by decide) | lia)) (by decide) (by decide)]
  have := marg_small (n - 10) (by (first | assumption | exact Int.natCast_nonneg _ | exact Nat.zero_le _ | exact Nat.le_refl _ | decide | exact Nat.le_trans (by assumption) (by decide) | lia)) (t - 1) (by (first | assumption | exact Int.natCast_nonneg _ | exact Nat.zero_le _ | exact Nat.le_refl _ | decide | exact Nat.le_trans (by assumption) (by decide) | lia)) e (by (first | assumption | exact Int.natCast_nonneg _ | exact Nat.zero_le _ | exact Nat.le_refl _ | decide | exact Nat.le_trans (by assumption) (by decide) | lia))
  rw [show n - 10 + 10 = n by (first | assumption | exact Int.natCast_nonneg _ | exact Nat.zero_le _ | exact Nat.le_refl _ | decide | exact Nat.le_trans (by assumption) (by decide) | lia), show t - 1 + 1 = t by (first | assumption | exact Int.natCast_nonneg _ | exact Nat.zero_le _ | exact Nat.le_refl _ | decide | exact Nat.le_trans (by assumption) (by decide) | lia)] at this
  have := List.all_eq_true.mp this (m - 1) (List.mem_range.mpr (by (first | assumption | exact Int.natCast_nonneg _ | exact Nat.zero_le _ | exact Nat.le_refl _ | decide | exact Nat.le_trans (by assumption) (by decide) | lia)))
  rw [show m - 1 + 1 = m by (first | assumption | exact Int.natCast_nonneg _ | exact Nat.zero_le _ | exact Nat.le_refl _ | decide | exact Nat.le_trans (by assumption) (by decide) | lia)] at this
  rw [e1]
  exact eq_of_beq this
end Mine
end


/-! part P4 -/
section
open PySem PySem.W PyProof.Rows PySem.Calls PySem.Spec
set_option Elab.async false
set_option linter.unusedVariables false
set_option maxRecDepth 100000
namespace Mine
theorem undig_bits (k : Nat) : ∀ x, x < 2 ^ k → undig (bitsOf x k) = x := by
  induction k with
  | zero => intro x hx; have : x = 0 := by simpa using hx
            subst this; rfl
  | succ k ih =>
    intro x hx
    rw [Nat.pow_succ] at hx
    show ((x % 2 : Nat) : Int) + 2 * undig (bitsOf (x / 2) k) = x
    rw [ih (x / 2) (by (first | assumption | exact Int.natCast_nonneg _ | exact Nat.zero_le _ | exact Nat.le_refl _ | decide | exact Nat.le_trans (by assumption) (by decide) | lia))]
    (first | assumption | exact Int.natCast_nonneg _ | exact Nat.zero_le _ | exact Nat.le_refl _ | decide | exact Nat.le_trans (by assumption) (by decide) | lia)
theorem lt_bits (x : Nat) : x < 2 ^ Builtin.Int.intBits x := by
  have := (intBits_le_iff (m := Builtin.Int.intBits x) (x := (x : Int))).mp (Nat.le_refl _)
  rwa [Int.natAbs_natCast] at this
theorem undig_bitsN (x : Nat) : undig (bitsN x) = x := undig_bits _ x (lt_bits x)
theorem undig_half {x : Nat} (h : 0 < x) : undig ((bitsN x).drop 1) = (x / 2 : Nat) := by
  have h1 := undig_bitsN x
  unfold bitsN at *
  cases hk : Builtin.Int.intBits x with
  | zero =>
    have := lt_bits x
    rw [hk] at this
    (first | assumption | exact Int.natCast_nonneg _ | exact Nat.zero_le _ | exact Nat.le_refl _ | decide | exact Nat.le_trans (by assumption) (by decide) | lia)
  | succ k =>
    rw [hk] at h1
    have h2 : ((x % 2 : Nat) : Int) + 2 * undig (bitsOf (x / 2) k) = x := h1
    show undig (bitsOf (x / 2) k) = _
    (first | assumption | exact Int.natCast_nonneg _ | exact Nat.zero_le _ | exact Nat.le_refl _ | decide | exact Nat.le_trans (by assumption) (by decide) | lia)
noncomputable def mexL (x : Nat) : List Int := ([0, 1, 2] : List Int).filter fun w => !(w == valueP (bitsN (x - 1)) || w == valueP ((bitsN x).drop 1))
noncomputable def mexOk (x : Nat) : Bool := (mexL x).contains (valueP (bitsN x)) && (mexL x).all fun w => decide (valueP (bitsN x) ≤ w)
theorem mex_0 : ∀ x < 128, mexOk (x + 1) = true := by decide +kernel
theorem mex_1 : ∀ x < 128, mexOk (x + 129) = true := by decide +kernel
theorem mex_2 : ∀ x < 128, mexOk (x + 257) = true := by decide +kernel
theorem mex_3 : ∀ x < 128, mexOk (x + 385) = true := by decide +kernel
theorem mex_4 : ∀ x < 128, mexOk (x + 513) = true := by decide +kernel
theorem mex_5 : ∀ x < 128, mexOk (x + 641) = true := by decide +kernel
theorem mex_6 : ∀ x < 128, mexOk (x + 769) = true := by decide +kernel
theorem mex_7 : ∀ x < 128, mexOk (x + 897) = true := by decide +kernel
theorem mex_key {x : Nat} (h : 1 ≤ x ∧ x ≤ 1024) : valueP (bitsN x) ∈ mexL x ∧ ∀ w ∈ mexL x, valueP (bitsN x) ≤ w := by
  have this : mexOk x = true := by
    by_cases c1 : x < 129
    · have := mex_0 (x - 1) (by (first | assumption | exact Int.natCast_nonneg _ | exact Nat.zero_le _ | exact Nat.le_refl _ | decide | exact Nat.le_trans (by assumption) (by decide) | lia)); rwa [show x - 1 + 1 = x by (first | assumption | exact Int.natCast_nonneg _ | exact Nat.zero_le _ | exact Nat.le_refl _ | decide | exact Nat.le_trans (by assumption) (by decide) | lia)] at this
    by_cases c2 : x < 257
    · have := mex_1 (x - 129) (by (first | assumption | exact Int.natCast_nonneg _ | exact Nat.zero_le _ | exact Nat.le_refl _ | decide | exact Nat.le_trans (by assumption) (by decide) | lia)); rwa [show x - 129 + 129 = x by (first | assumption | exact Int.natCast_nonneg _ | exact Nat.zero_le _ | exact Nat.le_refl _ | decide | exact Nat.le_trans (by assumption) (by decide) | lia)] at this
    by_cases c3 : x < 385
    · have := mex_2 (x - 257) (by (first | assumption | exact Int.natCast_nonneg _ | exact Nat.zero_le _ | exact Nat.le_refl _ | decide | exact Nat.le_trans (by assumption) (by decide) | lia)); rwa [show x - 257 + 257 = x by (first | assumption | exact Int.natCast_nonneg _ | exact Nat.zero_le _ | exact Nat.le_refl _ | decide | exact Nat.le_trans (by assumption) (by decide) | lia)] at this
    by_cases c4 : x < 513
    · have := mex_3 (x - 385) (by (first | assumption | exact Int.natCast_nonneg _ | exact Nat.zero_le _ | exact Nat.le_refl _ | decide | exact Nat.le_trans (by assumption) (by decide) | lia)); rwa [show x - 385 + 385 = x by (first | assumption | exact Int.natCast_nonneg _ | exact Nat.zero_le _ | exact Nat.le_refl _ | decide | exact Nat.le_trans (by assumption) (by decide) | lia)] at this
    by_cases c5 : x < 641
    · have := mex_4 (x - 513) (by (first | assumption | exact Int.natCast_nonneg _ | exact Nat.zero_le _ | exact Nat.le_refl _ | decide | exact Nat.le_trans (by assumption) (by decide) | lia)); rwa [show x - 513 + 513 = x by (first | assumption | exact Int.natCast_nonneg _ | exact Nat.zero_le _ | exact Nat.le_refl _ | decide | exact Nat.le_trans (by assumption) (by decide) | lia)] at this
    by_cases c6 : x < 769
    · have := mex_5 (x - 641) (by (first | assumption | exact Int.natCast_nonneg _ | exact Nat.zero_le _ | exact Nat.le_refl _ | decide | exact Nat.le_trans (by assumption) (by decide) | lia)); rwa [show x - 641 + 641 = x by (first | assumption | exact Int.natCast_nonneg _ | exact Nat.zero_le _ | exact Nat.le_refl _ | decide | exact Nat.le_trans (by assumption) (by decide) | lia)] at this
    by_cases c7 : x < 897
    · have := mex_6 (x - 769) (by (first | assumption | exact Int.natCast_nonneg _ | exact Nat.zero_le _ | exact Nat.le_refl _ | decide | exact Nat.le_trans (by assumption) (by decide) | lia)); rwa [show x - 769 + 769 = x by (first | assumption | exact Int.natCast_nonneg _ | exact Nat.zero_le _ | exact Nat.le_refl _ | decide | exact Nat.le_trans (by assumption) (by decide) | lia)] at this
    · have := mex_7 (x - 897) (by (first | assumption | exact Int.natCast_nonneg _ | exact Nat.zero_le _ | exact Nat.le_refl _ | decide | exact Nat.le_trans (by assumption) (by decide) | lia)); rwa [show x - 897 + 897 = x by (first | assumption | exact Int.natCast_nonneg _ | exact Nat.zero_le _ | exact Nat.le_refl _ | decide | exact Nat.le_trans (by assumption) (by decide) | lia)] at this
  unfold mexOk at this
  rw [Bool.and_eq_true] at this
  refine ⟨by simpa using this.1, fun w hw => ?_⟩
  exact of_decide_eq_true (List.all_eq_true.mp this.2 w hw)
end Mine
end


/-! part L11 -/
section
open PySem PySem.W PyProof.Rows PySem.Calls PySem.Spec
set_option Elab.async false
set_option linter.unusedVariables false
set_option maxRecDepth 100000
namespace Mine
noncomputable def sigM (n lt e t : Nat) (sd : D) : Sig := [(Str.ofString "margin", .val (wsD 129 (leadP n t e [lt, 32, 9]))), (Str.ofString "bits", .val (spellD n)), (Str.ofString "twins", .val (.int t)), (Str.ofString "edge", .val (.int e)), (Str.ofString "sums", .val sd)]
def nM : List Str := [Str.ofString "margin", Str.ofString "bits", Str.ofString "twins", Str.ofString "edge", Str.ofString "sums"]
section
variable {c : Cx} {A : Around} {env : Env} {σ : Sig} {Φ : Post} {pm code : Value} {L a : Addr} {r6 r7 : TabRec} {S : Nat → Int} {n : Nat} {lt e t : Nat} {sd : D}
theorem law_30 (hF : EnvF (lawEnv pm code L a)) (h1 : σ.lookup (Str.ofString "sums") = some (.val (sumsD S))) (h : Φ .next ((Str.ofString "number", .val (.int (10 + md (S 4) 16 : Nat))) :: σ)) : Ex1 c A (lawEnv pm code L a) σ (lawS 30) Φ := by
  conv => arg 5; whnf
  have hE := hF.ok
  exact ex_assign hF (.inl rfl) ((ev_add ev_int (ev_sumsMod (i := 4) (k := 16) hE (by decide) (by decide) h1)).cast (d' := .int (10 + md (S 4) 16 : Nat)) (by rw [Int.natCast_add]; rfl)) h
theorem law_31 (hF : EnvF (lawEnv pm code L a)) (hA : AOk A 40) (H : LawC c r6 r7) (hn : n < 2 ^ 30) (h1 : σ.lookup (Str.ofString "number") = some (.val (.int n))) (h : Φ .next ((Str.ofString "bits", .val (spellD n)) :: σ)) : Ex1 c A (lawEnv pm code L a) σ (lawS 31) Φ := by
  conv => arg 5; whnf
  have hE := hF.ok
  exact ex_assign hF (.inl rfl) (ev_callDC hE H.i2d (evall_cons (ev_name hE h1) (evall_cons ev_int evall_nil)) (fn_i2d hA H hn)) h
theorem law_32 (hF : EnvF (lawEnv pm code L a)) (hA : AOk A 40) (H : LawC c r6 r7) (hn : 10 ≤ n ∧ n < 26) (hlt : 97 ≤ lt ∧ lt ≤ 122) (h1 : σ.lookup (Str.ofString "number") = some (.val (.int n))) (h2 : σ.lookup (Str.ofString "letter") = some (.val (.str [lt]))) (h3 : σ.lookup (Str.ofString "bits") = some (.val (spellD n))) (h : Φ .next σ) : Ex1 c A (lawEnv pm code L a) σ (lawS 32) Φ := by
  conv => arg 5; whnf
  have hE := hF.ok
  exact ex_check (d := spellD n) hF hA ((ev_callD hE H.readings (evall_cons (ev_name hE h1) (evall_cons (ev_name hE h2) evall_nil)) (fn_readings (hA.le (by decide)) H.readings H.parse H.B (by (first | assumption | exact Int.natCast_nonneg _ | exact Nat.zero_le _ | exact Nat.le_refl _ | decide | exact Nat.le_trans (by assumption) (by decide) | lia)) (by show 1 ≤ 10; decide))).cast (by rw [readings_bits hn (by (first | assumption | exact Int.natCast_nonneg _ | exact Nat.zero_le _ | exact Nat.le_refl _ | decide | exact Nat.le_trans (by assumption) (by decide) | lia))]; rfl)) (ev_name hE h3) (gd_ints 19 _) h
theorem law_33 (hF : EnvF (lawEnv pm code L a)) (hA : AOk A 40) (H : LawC c r6 r7) (hn : n < 26) (ht : t ≤ 3) (he : e ≤ 2) (h1 : σ.lookup (Str.ofString "number") = some (.val (.int n))) (h2 : σ.lookup (Str.ofString "letter") = some (.val (.str [lt]))) (h3 : σ.lookup (Str.ofString "twins") = some (.val (.int t))) (h4 : σ.lookup (Str.ofString "edge") = some (.val (.int e)))
    (h : Φ .next ((Str.ofString "margin", .val (wsD 129 (leadP n t e [lt, 32, 9]))) :: σ)) : Ex1 c A (lawEnv pm code L a) σ (lawS 33) Φ := by
  conv => arg 5; whnf
  have hE := hF.ok
  have hsl := sizeLine_eq
  have hcs : (List.replicate t (List.replicate n 32 ++ [9])).flatten.length ≤ 78 := by
    rw [flat_len, List.length_append, List.length_replicate]
    have : t * (n + [9].length) ≤ 3 * 26 := Nat.mul_le_mul ht (by show n + 1 ≤ 26; (first | assumption | exact Int.natCast_nonneg _ | exact Nat.zero_le _ | exact Nat.le_refl _ | decide | exact Nat.le_trans (by assumption) (by decide) | lia))
    exact this
  have hlen : (leadP n t e [lt, 32, 9]).length ≤ 100 := by
    unfold leadP
    rw [List.length_append, List.length_append, List.length_replicate]
    show _ + e + 3 ≤ 100
    (first | assumption | exact Int.natCast_nonneg _ | exact Nat.zero_le _ | exact Nat.le_refl _ | decide | exact Nat.le_trans (by assumption) (by decide) | lia)
  refine ex_assign hF (.inl rfl) (ev_new (hA.le (by decide)) H.wsI H.ws H.B (Nat.le_trans hlen (by decide)) (evv_glob hE rfl H.ws.g) ((ev_addS (x := (List.replicate t (List.replicate n 32 ++ [9])).flatten ++ List.replicate e 32 ++ [lt]) (y := [32, 9]) (ev_addS (x := (List.replicate t (List.replicate n 32 ++ [9])).flatten ++ List.replicate e 32) (y := [lt]) (ev_addS ((ev_mulS (ev_addS ((ev_mulS (ev_str (l := [32])) (ev_name hE h1) (by (first | assumption | exact Int.natCast_nonneg _ | exact Nat.zero_le _ | exact Nat.le_refl _ | decide | exact Nat.le_trans (by assumption) (by decide) | lia)) (by (first | assumption | exact Int.natCast_nonneg _ | exact Nat.zero_le _ | exact Nat.le_refl _ | decide | exact Nat.le_trans (by assumption) (by decide) | lia)) (by decide)).cast (d' := .str (List.replicate n 32)) ?_) (ev_str (l := [9])) ?_) (ev_name hE h3) (by (first | assumption | exact Int.natCast_nonneg _ | exact Nat.zero_le _ | exact Nat.le_refl _ | decide | exact Nat.le_trans (by assumption) (by decide) | lia)) (by (first | assumption | exact Int.natCast_nonneg _ | exact Nat.zero_le _ | exact Nat.le_refl _ | decide | exact Nat.le_trans (by assumption) (by decide) | lia)) ?_).cast (d' := .str (List.replicate t (List.replicate n 32 ++ [9])).flatten) ?_)
        ((ev_mulS (ev_str (l := [32])) (ev_name hE h4) (by (first | assumption | exact Int.natCast_nonneg _ | exact Nat.zero_le _ | exact Nat.le_refl _ | decide | exact Nat.le_trans (by assumption) (by decide) | lia)) (by (first | assumption | exact Int.natCast_nonneg _ | exact Nat.zero_le _ | exact Nat.le_refl _ | decide | exact Nat.le_trans (by assumption) (by decide) | lia)) (by decide)).cast (d' := .str (List.replicate e 32)) ?_) ?_) (ev_name hE h2) ?_) ev_str ?_).cast ?_)) h
  · rw [Int.toNat_natCast, flat_rep]
  · rw [List.length_replicate]; show n + 1 ≤ _; (first | assumption | exact Int.natCast_nonneg _ | exact Nat.zero_le _ | exact Nat.le_refl _ | decide | exact Nat.le_trans (by assumption) (by decide) | lia)
  · rw [List.length_append, List.length_replicate]; show n + 1 ≤ _; (first | assumption | exact Int.natCast_nonneg _ | exact Nat.zero_le _ | exact Nat.le_refl _ | decide | exact Nat.le_trans (by assumption) (by decide) | lia)
  · rw [Int.toNat_natCast]
  · rw [Int.toNat_natCast, flat_rep]
  · rw [List.length_replicate]; (first | assumption | exact Int.natCast_nonneg _ | exact Nat.zero_le _ | exact Nat.le_refl _ | decide | exact Nat.le_trans (by assumption) (by decide) | lia)
  · rw [List.length_append, List.length_replicate]; show _ + 1 ≤ _; (first | assumption | exact Int.natCast_nonneg _ | exact Nat.zero_le _ | exact Nat.le_refl _ | decide | exact Nat.le_trans (by assumption) (by decide) | lia)
  · rw [List.length_append, List.length_append, List.length_replicate]; show _ + e + 1 + 2 ≤ _; (first | assumption | exact Int.natCast_nonneg _ | exact Nat.zero_le _ | exact Nat.le_refl _ | decide | exact Nat.le_trans (by assumption) (by decide) | lia)
  · unfold leadP
    rw [List.append_assoc _ [lt] [32, 9]]; rfl
theorem rng1_mem {n : Nat} {d : D} (h : d ∈ rngD 1 ((n + 1 : Nat) : Int)) : ∃ m : Nat, 1 ≤ m ∧ m ≤ n ∧ d = .int m := by
  unfold rngD at h
  obtain ⟨k, hk, rfl⟩ := List.mem_map.mp h
  have := List.mem_range.mp hk
  exact ⟨k + 1, by (first | assumption | exact Int.natCast_nonneg _ | exact Nat.zero_le _ | exact Nat.le_refl _ | decide | exact Nat.le_trans (by assumption) (by decide) | lia), by (first | assumption | exact Int.natCast_nonneg _ | exact Nat.zero_le _ | exact Nat.le_refl _ | decide | exact Nat.le_trans (by assumption) (by decide) | lia), by rw [Int.natCast_add, Int.add_comm]; rfl⟩
theorem bitsN_bits (n : Nat) : Bits (bitsN n) := bitsOf_bits _ _
set_option maxHeartbeats 1000000 in
theorem law_34 (hF : EnvF (lawEnv pm code L a)) (hA : AOk A 40) (H : LawC c r6 r7) (hn : 10 ≤ n ∧ n < 26) (ht : 1 ≤ t ∧ t ≤ 3) (he : e ≤ 2) (hlt : 97 ≤ lt ∧ lt ≤ 122) (h : Φ .next (sigM n lt e t sd)) : Ex1 c A (lawEnv pm code L a) (sigM n lt e t sd) (lawS 34) Φ := by
  conv => arg 5; whnf
  have hE := hF.ok
  have hh := hA.hh
  have hsl := sizeLine_eq
  have hbl : (bitsN n).length ≤ 5 := by rw [bitsN_len]; exact intBits_le (by (first | assumption | exact Int.natCast_nonneg _ | exact Nat.zero_le _ | exact Nat.le_refl _ | decide | exact Nat.le_trans (by assumption) (by decide) | lia))
  have hxl : (leadP n t e [lt, 32, 9]).length ≤ 100 := by
    unfold leadP
    rw [List.length_append, List.length_append, List.length_replicate, flat_len, List.length_append, List.length_replicate]
    have : t * (n + [9].length) ≤ 3 * 26 := Nat.mul_le_mul ht.2 (by show n + 1 ≤ 26; (first | assumption | exact Int.natCast_nonneg _ | exact Nat.zero_le _ | exact Nat.le_refl _ | decide | exact Nat.le_trans (by assumption) (by decide) | lia))
    show t * (n + [9].length) + e + 3 ≤ 100
    (first | assumption | exact Int.natCast_nonneg _ | exact Nat.zero_le _ | exact Nat.le_refl _ | decide | exact Nat.le_trans (by assumption) (by decide) | lia)
  obtain ⟨hw1, hw2⟩ := wsGo_ok (leadP n t e [lt, 32, 9]) [] 0 0 0 0 (by (first | assumption | exact Int.natCast_nonneg _ | exact Nat.zero_le _ | exact Nat.le_refl _ | decide | exact Nat.le_trans (by assumption) (by decide) | lia)) (by (first | assumption | exact Int.natCast_nonneg _ | exact Nat.zero_le _ | exact Nat.le_refl _ | decide | exact Nat.le_trans (by assumption) (by decide) | lia)) (by simp) (fun i hi => nomatch hi)
  obtain ⟨oJ, pmJ, codeJ, kj1, kj2, kj3⟩ := H.wsJ.k
  refine ex_forKeep (xd := .rng 1 ((bitsN n).length + 1 : Nat)) (ds := rngD 1 ((bitsN n).length + 1 : Nat)) (bs := fun d => [(Str.ofString "m", .val d)]) (okd := fun _ => True) hF
    ((ev_callT (evv_built hE rfl H.B.range rfl) (evall_cons (ev_int (i := 1)) (evall_cons ((ev_add ((ev_callB (evv_built hE rfl H.B.len rfl) (evall_cons (ev_name hE (d := spellD n) rfl) evall_nil) (fn_lenL (ds := (bitsN n).map .int) (by rw [List.length_map]; (first | assumption | exact Int.natCast_nonneg _ | exact Nat.zero_le _ | exact Nat.le_refl _ | decide | exact Nat.le_trans (by assumption) (by decide) | lia)))).cast (d' := .int ((bitsN n).length : Nat)) (by rw [List.length_map])) ev_int).cast (d' := .int ((bitsN n).length + 1 : Nat)) (by rw [Int.natCast_add]; rfl)) evall_nil)) fn_range2))
    (itd_rng hh (by decide) (by (first | assumption | exact Int.natCast_nonneg _ | exact Nat.zero_le _ | exact Nat.le_refl _ | decide | exact Nat.le_trans (by assumption) (by decide) | lia))) (bindF_name hF (.inl rfl)) (fun _ _ => trivial) (fun d hd => ?_) h
  obtain ⟨m, hm1, hm2, rfl⟩ := rng1_mem hd
  have hp : (2 : Nat) ^ m ≤ 32 := Nat.le_trans (Nat.pow_le_pow_right (by decide) (show m ≤ 5 by (first | assumption | exact Int.natCast_nonneg _ | exact Nat.zero_le _ | exact Nat.le_refl _ | decide | exact Nat.le_trans (by assumption) (by decide) | lia))) (by decide)
  have hp1 : 1 ≤ (2 : Nat) ^ m := Nat.pow_pos (by decide)
  have epow : (2 : Int) ^ ((m : Int)).toNat = ((2 ^ m : Nat) : Int) := by rw [Int.toNat_natCast]; push_cast; rfl
  have hb2 : Bits ((bitsN n).drop m) := fun d hd => bitsN_bits n d (List.mem_of_mem_drop hd)
  have hdl : ((bitsN n).drop m).length ≤ 5 := by rw [List.length_drop]; (first | assumption | exact Int.natCast_nonneg _ | exact Nat.zero_le _ | exact Nat.le_refl _ | decide | exact Nat.le_trans (by assumption) (by decide) | lia)
  have hpow : ∀ (σ' : Sig), σ'.lookup (Str.ofString "m") = some (.val (.int m)) → ∀ (k k' : Nat) (p1 p2 p3 : Pos), Ev c A (lawEnv pm code L a) σ' (.BinOp (.Constant (.int 2) k p1) .Pow (.Name (Str.ofString "m") p2) p3) (.int (2 ^ m : Nat)) := fun σ' e1 k k' p1 p2 p3 =>
    (ev_pow (x := 2) (y := (m : Int)) ev_int (ev_name hE e1) (by (first | assumption | exact Int.natCast_nonneg _ | exact Nat.zero_le _ | exact Nat.le_refl _ | decide | exact Nat.le_trans (by assumption) (by decide) | lia)) (by (first | assumption | exact Int.natCast_nonneg _ | exact Nat.zero_le _ | exact Nat.le_refl _ | decide | exact Nat.le_trans (by assumption) (by decide) | lia)) (by decide)).cast (by rw [epow])
  refine ex_cons (ex_check (d := .int (((t * 2 ^ m : Nat) : Int) * (undig ((bitsN n).drop m) + 1) + (e : Nat))) hF hA ((ev_level (tab := ((2 ^ m : Nat) : Int)) H.ws kj1 kj2 (ev_name hE (d := wsD 129 (leadP n t e [lt, 32, 9])) rfl) (hpow _ rfl _ 0 _ _ _) (fn_level (hA.le (by decide)) H.wsJ H.ws H.B hw1 (fun n hn => by have := hw2 n hn; (first | assumption | exact Int.natCast_nonneg _ | exact Nat.zero_le _ | exact Nat.le_refl _ | decide | exact Nat.le_trans (by assumption) (by decide) | lia)) (by (first | assumption | exact Int.natCast_nonneg _ | exact Nat.zero_le _ | exact Nat.le_refl _ | decide | exact Nat.le_trans (by assumption) (by decide) | lia)) (by (first | assumption | exact Int.natCast_nonneg _ | exact Nat.zero_le _ | exact Nat.le_refl _ | decide | exact Nat.le_trans (by assumption) (by decide) | lia)))).cast ?_)
    (ev_add (ev_mul ((ev_mul (x := (t : Int)) (y := ((2 ^ m : Nat) : Int)) (ev_name hE rfl) (hpow _ rfl _ 0 _ _ _) (mulOk_left (by (first | assumption | exact Int.natCast_nonneg _ | exact Nat.zero_le _ | exact Nat.le_refl _ | decide | exact Nat.le_trans (by assumption) (by decide) | lia)))).cast (d' := .int ((t * 2 ^ m : Nat) : Int)) (by rw [Int.natCast_mul])) (ev_add (ev_callDC hE H.d2i (evall_cons ((ev_from (ds := (bitsN n).map .int) (k := (m : Int)) (evl_of (ev_name hE (d := spellD n) rfl)) (ev_name hE rfl) (by (first | assumption | exact Int.natCast_nonneg _ | exact Nat.zero_le _ | exact Nat.le_refl _ | decide | exact Nat.le_trans (by assumption) (by decide) | lia)) (by rw [List.length_map]; (first | assumption | exact Int.natCast_nonneg _ | exact Nat.zero_le _ | exact Nat.le_refl _ | decide | exact Nat.le_trans (by assumption) (by decide) | lia))).cast (d' := .lst (((bitsN n).drop m).map .int)) (by rw [Int.toNat_natCast, List.map_drop])) (evall_cons ev_int evall_nil)) (fn_digits2int (hA.le (by (first | assumption | exact Int.natCast_nonneg _ | exact Nat.zero_le _ | exact Nat.le_refl _ | decide | exact Nat.le_trans (by assumption) (by decide) | lia))) H.d2i H.pos7 H.qual7 H.B hb2 (by (first | assumption | exact Int.natCast_nonneg _ | exact Nat.zero_le _ | exact Nat.le_refl _ | decide | exact Nat.le_trans (by assumption) (by decide) | lia)))) ev_int) (mulOk_left ?_)) (ev_name hE rfl)) (gd_int _ _) (exs_sub (τ := sigM n lt e t sd) (sub_fresh (τ := [(Str.ofString "m", .val (.int m))]) (ns := nM) (ms := [Str.ofString "m"]) rfl rfl (by decide) (by decide)) (ex_nil ⟨rfl, rfl⟩)))
  · congr 1
    exact marg_key hn ht he hlt.1 hm1 hm2
  · have : t * 2 ^ m ≤ 3 * 32 := Nat.mul_le_mul ht.2 hp
    rw [Int.natAbs_natCast]; (first | assumption | exact Int.natCast_nonneg _ | exact Nat.zero_le _ | exact Nat.le_refl _ | decide | exact Nat.le_trans (by assumption) (by decide) | lia)
end
end Mine
end


/-! part L12 -/
section
open PySem PySem.W PyProof.Rows PySem.Calls PySem.Spec
set_option Elab.async false
set_option linter.unusedVariables false
set_option maxRecDepth 100000
namespace Mine
section
variable {c : Cx} {A : Around} {env : Env} {σ : Sig} {Φ : Post} {pm code : Value} {L a : Addr} {r6 r7 : TabRec} {S : Nat → Int} {n x : Nat} {lt e t : Nat} {sd : D}
theorem law_35 (hF : EnvF (lawEnv pm code L a)) (h1 : σ.lookup (Str.ofString "sums") = some (.val (sumsD S))) (h : Φ .next ((Str.ofString "large", .val (.int (1 + md (S 5) 1024 : Nat))) :: σ)) : Ex1 c A (lawEnv pm code L a) σ (lawS 35) Φ := by
  conv => arg 5; whnf
  have hE := hF.ok
  exact ex_assign hF (.inl rfl) ((ev_add ev_int (ev_sumsMod (i := 5) (k := 1024) hE (by decide) (by decide) h1)).cast (d' := .int (1 + md (S 5) 1024 : Nat)) (by rw [Int.natCast_add]; rfl)) h
theorem law_36 (hF : EnvF (lawEnv pm code L a)) (hA : AOk A 40) (H : LawC c r6 r7) (hx : 1 ≤ x ∧ x ≤ 1024) (h1 : σ.lookup (Str.ofString "large") = some (.val (.int x))) (h : Φ .next ((Str.ofString "low", .val (spellD (x - 1))) :: (Str.ofString "high", .val (spellD x)) :: σ)) : Ex1 c A (lawEnv pm code L a) σ (lawS 36) Φ := by
  conv => arg 5; whnf
  have hE := hF.ok
  exact ex_pair hA.hh hF (.inr ⟨rfl, _, rfl⟩) (.inr ⟨rfl, _, rfl⟩) (ev_tuple (evall_cons (ev_callDC hE H.i2d (evall_cons (ev_name hE h1) (evall_cons ev_int evall_nil)) (fn_i2d hA H (by (first | assumption | exact Int.natCast_nonneg _ | exact Nat.zero_le _ | exact Nat.le_refl _ | decide | exact Nat.le_trans (by assumption) (by decide) | lia)))) (evall_cons (ev_callDC hE H.i2d (evall_cons ((ev_sub (ev_name hE h1) ev_int).cast (d' := .int (x - 1 : Nat)) (by congr 1; (first | assumption | exact Int.natCast_nonneg _ | exact Nat.zero_le _ | exact Nat.le_refl _ | decide | exact Nat.le_trans (by assumption) (by decide) | lia))) (evall_cons ev_int evall_nil)) (fn_i2d hA H (by (first | assumption | exact Int.natCast_nonneg _ | exact Nat.zero_le _ | exact Nat.le_refl _ | decide | exact Nat.le_trans (by assumption) (by decide) | lia)))) evall_nil)) (by show 2 ≤ _; decide)) h
theorem ev_high {p q : Pos} {pl : Pos} {k : Nat} {px : Pos} (hE : EnvOk env) (hx : x ≤ 1024) (h1 : σ.lookup (Str.ofString "high") = some (.val (spellD x))) : Ev c A env σ (.Subscript (.Name (Str.ofString "high") px) (.Slice (some (.Constant (.int 1) k pl)) none none p) q) (.lst (((bitsN x).drop 1).map .int)) := by
  have hb : Builtin.Int.intBits x ≤ 11 := intBits_le (by (first | assumption | exact Int.natCast_nonneg _ | exact Nat.zero_le _ | exact Nat.le_refl _ | decide | exact Nat.le_trans (by assumption) (by decide) | lia))
  have hsl := sizeLine_eq
  exact (ev_from (ds := (bitsN x).map .int) (k := 1) (evl_of (ev_name hE h1)) ev_int (by decide) (by rw [List.length_map, bitsN_len]; (first | assumption | exact Int.natCast_nonneg _ | exact Nat.zero_le _ | exact Nat.le_refl _ | decide | exact Nat.le_trans (by assumption) (by decide) | lia))).cast (by rw [List.map_drop]; rfl)
theorem law_37 (hF : EnvF (lawEnv pm code L a)) (hA : AOk A 40) (H : LawC c r6 r7) (hx : 1 ≤ x ∧ x ≤ 1024) (h1 : σ.lookup (Str.ofString "large") = some (.val (.int x))) (h2 : σ.lookup (Str.ofString "high") = some (.val (spellD x))) (h : Φ .next σ) : Ex1 c A (lawEnv pm code L a) σ (lawS 37) Φ := by
  conv => arg 5; whnf
  have hE := hF.ok
  have hb : (bitsN x).length ≤ 11 := by rw [bitsN_len]; exact intBits_le (by (first | assumption | exact Int.natCast_nonneg _ | exact Nat.zero_le _ | exact Nat.le_refl _ | decide | exact Nat.le_trans (by assumption) (by decide) | lia))
  have hb2 : Bits ((bitsN x).drop 1) := fun d hd => bitsN_bits x d (List.mem_of_mem_drop hd)
  have hdl : ((bitsN x).drop 1).length ≤ 11 := by rw [List.length_drop]; (first | assumption | exact Int.natCast_nonneg _ | exact Nat.zero_le _ | exact Nat.le_refl _ | decide | exact Nat.le_trans (by assumption) (by decide) | lia)
  refine ex_if (x := false) ((tr_or (x := false) (y := false) ((tr_cmp1 (ev_callDC hE H.d2i (evall_cons (ev_name hE h2) (evall_cons ev_int evall_nil)) (fn_digits2int (ds := bitsN x) (hA.le (by (first | assumption | exact Int.natCast_nonneg _ | exact Nat.zero_le _ | exact Nat.le_refl _ | decide | exact Nat.le_trans (by assumption) (by decide) | lia))) H.d2i H.pos7 H.qual7 H.B (bitsN_bits x) (by (first | assumption | exact Int.natCast_nonneg _ | exact Nat.zero_le _ | exact Nat.le_refl _ | decide | exact Nat.le_trans (by assumption) (by decide) | lia)))) (ev_name hE h1) cmp_neI).cast (by rw [undig_bitsN]; simp))
    (fun _ => (tr_cmp1 (ev_callDC hE H.d2i (evall_cons (ev_high hE hx.2 h2) (evall_cons ev_int evall_nil)) (fn_digits2int (hA.le (by (first | assumption | exact Int.natCast_nonneg _ | exact Nat.zero_le _ | exact Nat.le_refl _ | decide | exact Nat.le_trans (by assumption) (by decide) | lia))) H.d2i H.pos7 H.qual7 H.B hb2 (by (first | assumption | exact Int.natCast_nonneg _ | exact Nat.zero_le _ | exact Nat.le_refl _ | decide | exact Nat.le_trans (by assumption) (by decide) | lia)))) ((ev_fdiv (x := (x : Int)) (y := 2) (ev_name hE h1) ev_int (by decide) (by decide)).cast (d' := .int (x / 2 : Nat)) (by rw [Int.fdiv_eq_ediv_of_nonneg _ (by decide)]; rfl)) cmp_neI).cast (by rw [undig_half (by (first | assumption | exact Int.natCast_nonneg _ | exact Nat.zero_le _ | exact Nat.le_refl _ | decide | exact Nat.le_trans (by assumption) (by decide) | lia))]; simp))).cast rfl) hF (fun h => nomatch h) (fun _ => ex_nil h)
theorem law_38 (hF : EnvF (lawEnv pm code L a)) (hA : AOk A 40) (H : LawC c r6 r7) (hx : 1 ≤ x ∧ x ≤ 1024) (h1 : σ.lookup (Str.ofString "high") = some (.val (spellD x))) (h2 : σ.lookup (Str.ofString "low") = some (.val (spellD (x - 1)))) (h : Φ (.ret (.bool true)) σ) : Ex1 c A (lawEnv pm code L a) σ (lawS 38) Φ := by
  conv => arg 5; whnf
  have hE := hF.ok
  have hh := hA.hh
  have hsl := sizeLine_eq
  have hb : (bitsN x).length ≤ 11 := by rw [bitsN_len]; exact intBits_le (by (first | assumption | exact Int.natCast_nonneg _ | exact Nat.zero_le _ | exact Nat.le_refl _ | decide | exact Nat.le_trans (by assumption) (by decide) | lia))
  have hb' : (bitsN (x - 1)).length ≤ 11 := by rw [bitsN_len]; exact intBits_le (by (first | assumption | exact Int.natCast_nonneg _ | exact Nat.zero_le _ | exact Nat.le_refl _ | decide | exact Nat.le_trans (by assumption) (by decide) | lia))
  have hdl : ((bitsN x).drop 1).length ≤ 11 := by rw [List.length_drop]; (first | assumption | exact Int.natCast_nonneg _ | exact Nat.zero_le _ | exact Nat.le_refl _ | decide | exact Nat.le_trans (by assumption) (by decide) | lia)
  obtain ⟨k1, k2⟩ := mex_key hx
  refine ex_return hF ((ev_cmp1 (ev_callD hE H.value (evall_cons (ev_name hE (d := spellD x) h1) evall_nil) (fn_value (ns := bitsN x) (hA.le (by decide)) H.value H.B (by (first | assumption | exact Int.natCast_nonneg _ | exact Nat.zero_le _ | exact Nat.le_refl _ | decide | exact Nat.le_trans (by assumption) (by decide) | lia)))) (ev_callB (evv_built hE rfl H.B.min rfl) (evall_cons ((ev_of_fresh (ev_comp (xd := .rng 0 3) (ds := rngD 0 ((3 : Nat) : Int)) (bs := fun d => [(Str.ofString "worth", .val d)]) (okd := fun _ => True) (σc := [(Str.ofString "low", .val (spellD (x - 1))), (Str.ofString "high", .val (spellD x))])
      (fun d => !(intOf d == valueP (bitsN (x - 1)) || intOf d == valueP ((bitsN x).drop 1))) (fun d => d) (ev_callT (evv_built hE rfl H.B.range rfl) (evall_cons (ev_int (i := 3)) evall_nil) fn_range1) (itd_rng hh (by decide) (by decide)) rfl
      (fun G h C sc => sc_cons (cap_rd (sc _ _ h2) (.inl rfl) rfl rfl) (sc_cons (cap_rd (sc _ _ h1) (.inl rfl) rfl rfl) sc_nil)) (bnd_name hE rfl rfl) (by rw [rng_len]; (first | assumption | exact Int.natCast_nonneg _ | exact Nat.zero_le _ | exact Nat.le_refl _ | decide | exact Nat.le_trans (by assumption) (by decide) | lia)) (fun _ _ => trivial) (fun C d hd => tests_one ?_) (fun C d hd _ => ?_))).cast (d' := .lst ((mexL x).map .int)) ?_) evall_nil) (fn_min (M := valueP (bitsN x)) hh (fun q => by rw [q] at k1; cases k1) k1 k2)) cmp_eqI).cast (d' := .bool true) (by rw [beq_self_eq_true])) h
  · obtain ⟨k, hk, rfl⟩ := mem_rng hd
    refine (tr_cmp1 (ev_name (cE_ok hE rfl) (d := .int k) rfl) (ev_list (ds := [valueP (bitsN (x - 1)), valueP ((bitsN x).drop 1)].map .int) (evall_cons (ev_callD (cE_ok hE rfl) H.value (evall_cons (ev_name (cE_ok hE rfl) (d := spellD (x - 1)) rfl) evall_nil) (fn_value (ns := bitsN (x - 1)) (hA.le (by decide)) H.value H.B (by (first | assumption | exact Int.natCast_nonneg _ | exact Nat.zero_le _ | exact Nat.le_refl _ | decide | exact Nat.le_trans (by assumption) (by decide) | lia)))) (evall_cons (ev_callD (cE_ok hE rfl) H.value (evall_cons (ev_high (cE_ok hE rfl) hx.2 rfl) evall_nil) (fn_value (ns := (bitsN x).drop 1) (hA.le (by decide)) H.value H.B (by (first | assumption | exact Int.natCast_nonneg _ | exact Nat.zero_le _ | exact Nat.le_refl _ | decide | exact Nat.le_trans (by assumption) (by decide) | lia)))) evall_nil)) (by show 2 ≤ _; (first | assumption | exact Int.natCast_nonneg _ | exact Nat.zero_le _ | exact Nat.le_refl _ | decide | exact Nat.le_trans (by assumption) (by decide) | lia))) (cmp_notIn hA rfl (plainAll_ints _) (by exact Nat.zero_le _))).cast ?_
    rw [any_ints]
    congr 1
    show decide ((k : Int) ∈ [valueP (bitsN (x - 1)), valueP ((bitsN x).drop 1)]) = ((k : Int) == valueP (bitsN (x - 1)) || (k : Int) == valueP ((bitsN x).drop 1))
    rw [Bool.eq_iff_iff, decide_eq_true_iff, List.mem_cons, List.mem_singleton, Bool.or_eq_true, beq_iff_eq, beq_iff_eq]
  · obtain ⟨k, hk, rfl⟩ := mem_rng hd
    exact ev_name (cE_ok hE rfl) rfl
  · have e1 : rngD 0 ((3 : Nat) : Int) = ([0, 1, 2] : List Int).map .int := rfl
    rw [e1, List.map_id', filter_map_int _ _ (fun w => !(w == valueP (bitsN (x - 1)) || w == valueP ((bitsN x).drop 1))) (fun i => rfl)]
    rfl
end
end Mine
end


/-! part LAW -/
section
open PySem PySem.W PyProof.Rows PySem.Calls PySem.Spec
set_option Elab.async false
set_option linter.unusedVariables false
set_option maxRecDepth 100000
namespace Mine
theorem law_body_eq : bodyOf (stmtN 19) = [lawS 0, lawS 1, lawS 2, lawS 3, lawS 4, lawS 5, lawS 6, lawS 7, lawS 8, lawS 9, lawS 10, lawS 11, lawS 12, lawS 13, lawS 14, lawS 15, lawS 16, lawS 17, lawS 18, lawS 19, lawS 20, lawS 21, lawS 22, lawS 23, lawS 24, lawS 25, lawS 26, lawS 27, lawS 28, lawS 29, lawS 30, lawS 31, lawS 32, lawS 33, lawS 34, lawS 35, lawS 36, lawS 37, lawS 38] := by rfl
theorem mute_mem : ∀ k < 6, [50, 53, 55] ++ muteT.getD k [] ∈ muteAll := by decide
theorem code_ok : ∀ k < 1000, k ≠ 257 → (((Nat.toDigits 10 (1000 + k)).map Char.toNat).drop 1).length = 3 ∧ ((Nat.toDigits 10 (1000 + k)).map Char.toNat).drop 1 ≠ [50, 53, 55] ∧ ∀ n ∈ ((Nat.toDigits 10 (1000 + k)).map Char.toNat).drop 1, n < 0x110000 := by decide +kernel
theorem lp_of (S : Nat → Int) : LP (muteL S) (codeL S) (97 + md (S 7) 26) (md (S 2) 3) (1 + md (S 3) 3) (6 + md (S 0) 4) (3 + md (S 1) 3) := by
  have h0 := md_lt (S 0) (n := 4) (by decide)
  have h1 := md_lt (S 1) (n := 3) (by decide)
  have h2 := md_lt (S 2) (n := 3) (by decide)
  have h3 := md_lt (S 3) (n := 3) (by decide)
  have h6 := md_lt (S 6) (n := 999) (by decide)
  have h7 := md_lt (S 7) (n := 26) (by decide)
  have h8 := md_lt ((S 7).fdiv 26) (n := 6) (by decide)
  have hN : ∃ k, k < 1000 ∧ k ≠ 257 ∧ codeN S = 1000 + k := by
    unfold codeN
    by_cases q : 256 < md (S 6) 999
    · rw [if_pos q]; exact ⟨md (S 6) 999 + 1, by (first | assumption | exact Int.natCast_nonneg _ | exact Nat.zero_le _ | exact Nat.le_refl _ | decide | exact Nat.le_trans (by assumption) (by decide) | lia), by (first | assumption | exact Int.natCast_nonneg _ | exact Nat.zero_le _ | exact Nat.le_refl _ | decide | exact Nat.le_trans (by assumption) (by decide) | lia), by (first | assumption | exact Int.natCast_nonneg _ | exact Nat.zero_le _ | exact Nat.le_refl _ | decide | exact Nat.le_trans (by assumption) (by decide) | lia)⟩
    · rw [if_neg q]; exact ⟨md (S 6) 999, by (first | assumption | exact Int.natCast_nonneg _ | exact Nat.zero_le _ | exact Nat.le_refl _ | decide | exact Nat.le_trans (by assumption) (by decide) | lia), by (first | assumption | exact Int.natCast_nonneg _ | exact Nat.zero_le _ | exact Nat.le_refl _ | decide | exact Nat.le_trans (by assumption) (by decide) | lia), by (first | assumption | exact Int.natCast_nonneg _ | exact Nat.zero_le _ | exact Nat.le_refl _ | decide | exact Nat.le_trans (by assumption) (by decide) | lia)⟩
  obtain ⟨k, k1, k2, k3⟩ := hN
  refine ⟨by (first | assumption | exact Int.natCast_nonneg _ | exact Nat.zero_le _ | exact Nat.le_refl _ | decide | exact Nat.le_trans (by assumption) (by decide) | lia), mute_mem _ h8, ?_, by (first | assumption | exact Int.natCast_nonneg _ | exact Nat.zero_le _ | exact Nat.le_refl _ | decide | exact Nat.le_trans (by assumption) (by decide) | lia), by (first | assumption | exact Int.natCast_nonneg _ | exact Nat.zero_le _ | exact Nat.le_refl _ | decide | exact Nat.le_trans (by assumption) (by decide) | lia), by (first | assumption | exact Int.natCast_nonneg _ | exact Nat.zero_le _ | exact Nat.le_refl _ | decide | exact Nat.le_trans (by assumption) (by decide) | lia), by (first | assumption | exact Int.natCast_nonneg _ | exact Nat.zero_le _ | exact Nat.le_refl _ | decide | exact Nat.le_trans (by assumption) (by decide) | lia)⟩
  unfold codeL
  rw [k3]
  exact code_ok k k1 k2
theorem ex_step {c : Cx} {A : Around} {env : Env} {σ τ : Sig} {st : Stmt} {ss : List Stmt} {Φ : Post} (h1 : ∀ Ψ : Post, Ψ .next τ → Ex1 c A env σ st Ψ) (h2 : ExS c A env τ ss Φ) : ExS c A env σ (st :: ss) Φ := ex_cons (h1 _ h2)
theorem ex_last {c : Cx} {A : Around} {env : Env} {σ : Sig} {st : Stmt} {d : D} (h1 : ∀ Ψ : Post, Ψ (.ret d) σ → Ex1 c A env σ st Ψ) : ExS c A env σ [st] fun fd _ => fd = .ret d := ex_cons (h1 _ rfl)
section
variable {c : Cx} {A : Around} {pm code : Value} {L a : Addr} {r6 r7 : TabRec}
set_option maxHeartbeats 4000000 in
theorem law_body {ns : List Int} (hF : EnvF (lawEnv pm code L a)) (hA : AOk A 40) (H : LawC c r6 r7) (hz : ns.length ≤ 63) : ExS c A (lawEnv pm code L a) [(Str.ofString "script", .val (.lstA (ns.map .int)))] (bodyOf (stmtN 19)) fun fd _ => fd = .ret (.bool true) := by
  rw [law_body_eq]
  with_reducible refine ex_step (fun Ψ h => law_0 hF h) ?_
  with_reducible refine ex_step (fun Ψ h => law_1 hF hA H hz (by with_unfolding_all rfl) (by with_unfolding_all rfl) h) ?_
  generalize sumsF ns = S
  have P := lp_of S
  have hG0 := md_lt (S 4) (n := 16) (by decide)
  have hX0 := md_lt (S 5) (n := 1024) (by decide)
  have hlt2 : ∀ r, sg S r < 0x110000 := fun r => Nat.lt_trans (sg_lt S r) (by decide)
  with_reducible refine ex_step (fun Ψ h => law_2 hF hA (by with_unfolding_all rfl) h) ?_
  generalize 6 + md (S 0) 4 = u at P ⊢
  generalize 3 + md (S 1) 3 = l at P ⊢
  with_reducible refine ex_step (fun Ψ h => law_3 hF hA (by with_unfolding_all rfl) h) ?_
  generalize md (S 2) 3 = e at P ⊢
  generalize 1 + md (S 3) 3 = t at P ⊢
  with_reducible refine ex_step (fun Ψ h => law_4 hF H (by with_unfolding_all rfl) h) ?_
  generalize 97 + md (S 7) 26 = lt at P ⊢
  with_reducible refine ex_step (fun Ψ h => law_5 hF H (by with_unfolding_all rfl) h) ?_
  generalize codeL S = cd at P ⊢
  with_reducible refine ex_step (fun Ψ h => law_6 hF (by with_unfolding_all rfl) h) ?_
  generalize muteL S = mt at P ⊢
  have hn : 10 ≤ 10 + md (S 4) 16 ∧ 10 + md (S 4) 16 < 26 := by (first | assumption | exact Int.natCast_nonneg _ | exact Nat.zero_le _ | exact Nat.le_refl _ | decide | exact Nat.le_trans (by assumption) (by decide) | lia)
  have hx : 1 ≤ 1 + md (S 5) 1024 ∧ 1 + md (S 5) 1024 ≤ 1024 := by (first | assumption | exact Int.natCast_nonneg _ | exact Nat.zero_le _ | exact Nat.le_refl _ | decide | exact Nat.le_trans (by assumption) (by decide) | lia)
  have L30 := fun (σ : Sig) (Φ : Post) => @law_30 c A σ Φ pm code L a S hF
  have L35 := fun (σ : Sig) (Φ : Post) => @law_35 c A σ Φ pm code L a S hF
  with_reducible refine exs_sub (τ := sigA mt cd lt e t u l (sumsD S)) ?_ ?_
  · exact sub_cons rfl (sub_cons rfl (sub_cons rfl (sub_cons rfl (sub_cons rfl (sub_cons rfl (sub_cons rfl (sub_cons rfl sub_nil)))))))
  obtain ⟨plt, pmt, pcd, pu, pl, pt, pe⟩ := P
  with_reducible refine ex_step (fun Ψ h => law_7 hF hA H h) ?_
  with_reducible refine ex_step (fun Ψ h => law_8 hF hA H h) ?_
  with_reducible refine ex_step (fun Ψ h => law_9 hF hA H (by with_unfolding_all rfl) h) ?_
  with_reducible refine ex_step (fun Ψ h => law_10 hF (by with_unfolding_all rfl) h) ?_
  have hnm : (nmL (sg S 0) (sg S 1) (sg S 2) (sg S 3)).length ≤ 100 := by show 10 ≤ 100; decide
  with_reducible refine ex_step (fun Ψ h => law_11 (x := nmL (sg S 0) (sg S 1) (sg S 2) (sg S 3)) hF hA hnm (by with_unfolding_all rfl) h) ?_
  with_reducible refine exs_sub (τ := sigN (nmL (sg S 0) (sg S 1) (sg S 2) (sg S 3)) mt cd lt e t u l (sumsD S)) ?_ ?_
  · exact sub_cons rfl (sub_cons rfl (sub_cons rfl (sub_cons rfl (sub_cons rfl (sub_cons rfl (sub_cons rfl (sub_cons rfl (sub_cons rfl (sub_cons rfl sub_nil)))))))))
  have h12 : ∀ n ∈ nmL (sg S 0) (sg S 1) (sg S 2) (sg S 3), n < 0x110000 := fun n hn => by
    have h0 := hlt2 0
    have h1 := hlt2 1
    have h2 := hlt2 2
    have h3 := hlt2 3
    simp only [nmL, List.mem_cons, List.not_mem_nil, or_false] at hn
    (first | assumption | exact Int.natCast_nonneg _ | exact Nat.zero_le _ | exact Nat.le_refl _ | decide | exact Nat.le_trans (by assumption) (by decide) | lia)
  with_reducible refine ex_step (fun Ψ h => law_12 hF hA H h12 hnm h) ?_
  with_reducible refine exs_sub (τ := sigA mt cd lt e t u l (sumsD S)) ?_ ?_
  · exact sub_cons rfl (sub_cons rfl (sub_cons rfl (sub_cons rfl (sub_cons rfl (sub_cons rfl (sub_cons rfl (sub_cons rfl sub_nil)))))))
  have ho : 1 ≤ 1 + t % 3 ∧ 1 + t % 3 ≤ 3 := by (first | assumption | exact Int.natCast_nonneg _ | exact Nat.zero_le _ | exact Nat.le_refl _ | decide | exact Nat.le_trans (by assumption) (by decide) | lia)
  with_reducible refine ex_step (fun Ψ h => law_13 (u := u) hF H (by with_unfolding_all rfl) h) ?_
  with_reducible refine ex_step (fun Ψ h => law_14 (u := u) hF hA (by (first | assumption | exact Int.natCast_nonneg _ | exact Nat.zero_le _ | exact Nat.le_refl _ | decide | exact Nat.le_trans (by assumption) (by decide) | lia)) (by with_unfolding_all rfl) h) ?_
  with_reducible refine ex_step (fun Ψ h => law_15 (u := u) hF hA H (by (first | assumption | exact Int.natCast_nonneg _ | exact Nat.zero_le _ | exact Nat.le_refl _ | decide | exact Nat.le_trans (by assumption) (by decide) | lia)) (by with_unfolding_all rfl) (by with_unfolding_all rfl) h) ?_
  with_reducible refine ex_step (fun Ψ h => law_16 (u := u) hF hA H (by (first | assumption | exact Int.natCast_nonneg _ | exact Nat.zero_le _ | exact Nat.le_refl _ | decide | exact Nat.le_trans (by assumption) (by decide) | lia)) plt (by with_unfolding_all rfl) (by with_unfolding_all rfl) (by with_unfolding_all rfl) (by with_unfolding_all rfl) h) ?_
  with_reducible refine ex_step (fun Ψ h => law_17 hF hA H plt pmt (by with_unfolding_all rfl) (by with_unfolding_all rfl) h) ?_
  with_reducible refine ex_step (fun Ψ h => law_18 hF hA H plt pcd (by with_unfolding_all rfl) (by with_unfolding_all rfl) h) ?_
  with_reducible refine ex_step (fun Ψ h => law_19 hF hA H pl.2 pt pe plt (by with_unfolding_all rfl) (by with_unfolding_all rfl) (by with_unfolding_all rfl) (by with_unfolding_all rfl) h) ?_
  with_reducible refine ex_step (fun Ψ h => law_20 hF hA H pl.2 (by with_unfolding_all rfl) (by with_unfolding_all rfl) h) ?_
  with_reducible refine ex_step (fun Ψ h => law_21 (t := t) hF (by with_unfolding_all rfl) h) ?_
  with_reducible refine ex_step (fun Ψ h => law_22 (o := 1 + t % 3) hF hA H pl.2 ho pe plt (by with_unfolding_all rfl) (by with_unfolding_all rfl) (by with_unfolding_all rfl) (by with_unfolding_all rfl) h) ?_
  with_reducible refine ex_step (fun Ψ h => law_23 (o := 1 + t % 3) hF hA H pl.2 ho pe plt (by with_unfolding_all rfl) (by with_unfolding_all rfl) (by with_unfolding_all rfl) h) ?_
  with_reducible refine ex_step (fun Ψ h => law_24 (u := u) hF hA H (by (first | assumption | exact Int.natCast_nonneg _ | exact Nat.zero_le _ | exact Nat.le_refl _ | decide | exact Nat.le_trans (by assumption) (by decide) | lia)) (by with_unfolding_all rfl) h) ?_
  with_reducible refine ex_step (fun Ψ h => law_25 (u := u) (l := l) hF hA H (by (first | assumption | exact Int.natCast_nonneg _ | exact Nat.zero_le _ | exact Nat.le_refl _ | decide | exact Nat.le_trans (by assumption) (by decide) | lia)) (by (first | assumption | exact Int.natCast_nonneg _ | exact Nat.zero_le _ | exact Nat.le_refl _ | decide | exact Nat.le_trans (by assumption) (by decide) | lia)) (by with_unfolding_all rfl) (by with_unfolding_all rfl) h) ?_
  with_reducible refine ex_step (fun Ψ h => law_26 (u := u) hF hA H (by (first | assumption | exact Int.natCast_nonneg _ | exact Nat.zero_le _ | exact Nat.le_refl _ | decide | exact Nat.le_trans (by assumption) (by decide) | lia)) (by with_unfolding_all rfl) h) ?_
  have h13 : [gameD [50, 53, 55, 32, 34] (worth0 u)].length ≤ 3 := by show 1 ≤ 3; decide
  have h23 : [gameD [50, 53, 55, 32, 34] (worth0 u), gameD mt worth1].length ≤ 3 := by show 2 ≤ 3; decide
  with_reducible refine ex_step (fun Ψ h => law_27 (u := u) (gs := [gameD [50, 53, 55, 32, 34] (worth0 u)]) hF hA H (by (first | assumption | exact Int.natCast_nonneg _ | exact Nat.zero_le _ | exact Nat.le_refl _ | decide | exact Nat.le_trans (by assumption) (by decide) | lia)) h13 (by with_unfolding_all rfl) (by with_unfolding_all rfl) (by with_unfolding_all rfl) h) ?_
  with_reducible refine ex_step (fun Ψ h => law_28 (u := u) (gs := [gameD [50, 53, 55, 32, 34] (worth0 u), gameD mt worth1]) hF hA H (by (first | assumption | exact Int.natCast_nonneg _ | exact Nat.zero_le _ | exact Nat.le_refl _ | decide | exact Nat.le_trans (by assumption) (by decide) | lia)) h23 pcd.1 (by with_unfolding_all rfl) (by with_unfolding_all rfl) (by with_unfolding_all rfl) h) ?_
  with_reducible refine exs_freeze (x := Str.ofString "games") (by with_unfolding_all rfl) ?_
  with_reducible refine exs_sub (τ := sigG [([50, 53, 55, 32, 34], worth0 u), (mt, worth1), (cd ++ [32, 34], worth2)] lt e t l (sumsD S)) ?_ ?_
  · exact sub_cons rfl (sub_cons rfl (sub_cons rfl (sub_cons rfl (sub_cons rfl (sub_cons rfl (sub_cons rfl sub_nil))))))
  have h29 : ∀ p ∈ [([50, 53, 55, 32, 34], worth0 u), (mt, worth1), (cd ++ [32, 34], worth2)], ∃ names, GameOk lt l p.1 p.2 names := fun p hp => by
    simp only [List.mem_cons, List.not_mem_nil, or_false] at hp
    rcases hp with rfl | rfl | rfl
    · exact ⟨_, game0 plt pu pl⟩
    · exact ⟨_, game1 plt pmt pl⟩
    · exact ⟨_, game2 plt pcd pl⟩
  with_reducible refine ex_step (fun Ψ h => law_29 hF hA H pl.2 h29 h) ?_
  with_reducible refine ex_step (fun Ψ h => L30 _ _ (by with_unfolding_all rfl) h) ?_
  generalize 10 + md (S 4) 16 = n at hn ⊢
  with_reducible refine ex_step (fun Ψ h => law_31 (n := n) hF hA H (by (first | assumption | exact Int.natCast_nonneg _ | exact Nat.zero_le _ | exact Nat.le_refl _ | decide | exact Nat.le_trans (by assumption) (by decide) | lia)) (by with_unfolding_all rfl) h) ?_
  with_reducible refine ex_step (fun Ψ h => law_32 hF hA H hn plt (by with_unfolding_all rfl) (by with_unfolding_all rfl) (by with_unfolding_all rfl) h) ?_
  with_reducible refine ex_step (fun Ψ h => law_33 hF hA H hn.2 pt.2 pe (by with_unfolding_all rfl) (by with_unfolding_all rfl) (by with_unfolding_all rfl) (by with_unfolding_all rfl) h) ?_
  with_reducible refine exs_sub (τ := sigM n lt e t (sumsD S)) ?_ ?_
  · exact sub_cons rfl (sub_cons rfl (sub_cons rfl (sub_cons rfl (sub_cons rfl sub_nil))))
  with_reducible refine ex_step (fun Ψ h => law_34 hF hA H hn pt pe plt h) ?_
  with_reducible refine ex_step (fun Ψ h => L35 _ _ (by with_unfolding_all rfl) h) ?_
  generalize 1 + md (S 5) 1024 = x at hx ⊢
  with_reducible refine ex_step (fun Ψ h => law_36 hF hA H hx (by with_unfolding_all rfl) h) ?_
  with_reducible refine ex_step (fun Ψ h => law_37 hF hA H hx (by with_unfolding_all rfl) (by with_unfolding_all rfl) h) ?_
  with_reducible exact ex_last fun Ψ h => law_38 hF hA H hx (by with_unfolding_all rfl) (by with_unfolding_all rfl) h
end
end Mine
end


/-! part T8N -/
section
open PySem PySem.W PyProof.Rows PySem.Calls PySem.Spec
set_option Elab.async false
set_option maxRecDepth 100000
namespace Mine
def r6 : TabRec := ⟨59, 55, posOf (inS 6 1), q6⟩
def r7 : TabRec := ⟨66, 62, posOf (inS 7 0), q7⟩
noncomputable def cxOf (w : World) (loose : List Str) (mean : ExcName → Option Value) (mg mb : Str → Option Value) (base : Heap) : Cx := ⟨PySem.Challenge.rw_to0024_01.row.prog, w, Kf w.params, topProg, loose, mean, mg, mb, base, [r6, r7]⟩
section
variable {w : World} {loose : List Str} {mean : ExcName → Option Value} {mg mb : Str → Option Value} {base : Heap}
theorem built_at : Builts (cxOf w loose mean mg mb base) := ⟨by rfl, by rfl, by rfl, by rfl, by rfl, by rfl, by rfl, by rfl⟩
theorem d_parse : DefAt (cxOf w loose mean mg mb base) 53 (stmtN 4) := ⟨by rfl, ⟨_, _, _, by rfl, by rfl, by rfl⟩⟩
theorem d_heard : DefAt (cxOf w loose mean mg mb base) 140 (stmtN 11) := ⟨by rfl, ⟨_, _, _, by rfl, by rfl, by rfl⟩⟩
theorem d_replies : DefAt (cxOf w loose mean mg mb base) 145 (stmtN 12) := ⟨by rfl, ⟨_, _, _, by rfl, by rfl, by rfl⟩⟩
theorem d_reader : DefAt (cxOf w loose mean mg mb base) 150 (stmtN 13) := ⟨by rfl, ⟨_, _, _, by rfl, by rfl, by rfl⟩⟩
theorem d_leads : DefAt (cxOf w loose mean mg mb base) 155 (stmtN 14) := ⟨by rfl, ⟨_, _, _, by rfl, by rfl, by rfl⟩⟩
theorem d_nanny : DefAt (cxOf w loose mean mg mb base) 160 (stmtN 15) := ⟨by rfl, ⟨_, _, _, by rfl, by rfl, by rfl⟩⟩
theorem d_lost : DefAt (cxOf w loose mean mg mb base) 165 (stmtN 16) := ⟨by rfl, ⟨_, _, _, by rfl, by rfl, by rfl⟩⟩
theorem d_value : DefAt (cxOf w loose mean mg mb base) 172 (stmtN 17) := ⟨by rfl, ⟨_, _, _, by rfl, by rfl, by rfl⟩⟩
theorem d_readings : DefAt (cxOf w loose mean mg mb base) 179 (stmtN 18) := ⟨by rfl, ⟨_, _, _, by rfl, by rfl, by rfl⟩⟩
theorem d_law : DefAt (cxOf w loose mean mg mb base) 184 (stmtN 19) := ⟨by rfl, ⟨_, _, _, by rfl, by rfl, by rfl⟩⟩
theorem m_init : MethAt (cxOf w loose mean mg mb base) 84 (methN 1) (Str.ofString "Whitespace.__init__") := ⟨⟨_, _, _, by rfl, by rfl, by rfl⟩⟩
theorem m_level : MethAt (cxOf w loose mean mg mb base) 98 (methN 3) (Str.ofString "Whitespace.indent_level") := ⟨⟨_, _, _, by rfl, by rfl, by rfl⟩⟩
theorem tabs_dis : ∀ q ∈ (cxOf w loose mean mg mb base).tabs, ∀ q' ∈ (cxOf w loose mean mg mb base).tabs, q'.tab = q.tab → q' = q := fun q hq q' hq' h => by
  have h1 : q = r6 ∨ q = r7 := by simpa [cxOf] using hq
  have h2 : q' = r6 ∨ q' = r7 := by simpa [cxOf] using hq'
  rcases h1 with rfl | rfl <;> rcases h2 with rfl | rfl
  · rfl
  · exact absurd h (by decide)
  · exact absurd h (by decide)
  · rfl
theorem d_i2d (hb : base.get? 55 = none) : DefAtC (cxOf w loose mean mg mb base) 60 (stmtN 6) r6 := ⟨by rfl, ⟨_, _, by rfl, by rfl, by rfl⟩, .head _, tabs_dis _ (.head _), hb⟩
theorem d_d2i (hb : base.get? 62 = none) : DefAtC (cxOf w loose mean mg mb base) 67 (stmtN 7) r7 := ⟨by rfl, ⟨_, _, by rfl, by rfl, by rfl⟩, .tail _ (.head _), tabs_dis _ (.tail _ (.head _)), hb⟩
theorem ws_at : WsAt (cxOf w loose mean mg mb base) 129 84 98 := by
  constructor <;> first | rfl | exact ⟨.type "type", _, by rfl, by rfl⟩
theorem law_c (hb6 : base.get? 55 = none) (hb7 : base.get? 62 = none) : LawC (cxOf w loose mean mg mb base) r6 r7 where
  B := built_at
  parse := d_parse
  heard := d_heard
  bad := fun x t hx hbad => by
    have h := heard_bad w loose mean mg mb x t hx hbad
    exact h
  replies := d_replies
  reader := d_reader
  leads := d_leads
  nanny := d_nanny
  lost := d_lost
  value := d_value
  readings := d_readings
  ws := ws_at
  wsI := m_init
  wsJ := m_level
  i2d := d_i2d hb6
  d2i := d_d2i hb7
  pos6 := rfl
  qual6 := rfl
  pos7 := rfl
  qual7 := rfl
end
end Mine
end


/-! part T9N -/
section
open PySem PySem.W PyProof.Rows PySem.Calls PySem.Spec
set_option Elab.async false
set_option linter.unusedVariables false
set_option maxRecDepth 100000
namespace Mine
set_option maxHeartbeats 4000000 in
theorem law_run {c : Cx} {A : Around} {G : Gh} {s : Shared} {r6 r7 : TabRec} {l : Addr} {o : Obj} {vs : List Value} {ns : List Int} {k : Nat} {R : Result → Shared → Prop} (hA : AOk A 41) (H : LawC c r6 r7) (D : DefAt c 184 (stmtN 19)) (on : OnG c G s) (gl : c.Gl A s.heap) (hz : ns.length ≤ 63)
    (h1 : G l o) (h2 : o.cls = .type "list") (h3 : o.data = .seq vs.toArray k) (h4 : RepAll G vs (ns.map .int)) (hR : ∀ G' s', Grow c G s G' s' → R (.ok (.ret (.bool true))) s') : codeAny (model c.prog c.w) A (.call (.ref 184) ⟨[.ref l], []⟩) R s := by
  obtain ⟨o', pm, code, k1, k2, k3⟩ := D.k
  have hk : (scopeOf (stmtN 19)).kind = .function := rfl
  have hnd : ((cellsFrom 0 (scopeOf (stmtN 19)).names []).map (·.1)).Nodup := by decide +kernel
  have hown : ((cellsFrom 0 (scopeOf (stmtN 19)).names []).all fun p => (scopeOf (stmtN 19)).names.lookup p.1 == some .cell) = true := by decide +kernel
  have r : RepAll G [.ref l] [Mine.D.lstA (ns.map .int)] := .cons (.lstA h1 h2 h3 h4) .nil
  refine codeAny_call_cells (fd := fdOf (stmtN 19) pm code) (body := bodyOf (stmtN 19)) (binds := [(Str.ofString "script", .ref l)]) (by have := hA.dep; lia) (gl.inn _ _ k1) k2 gl.top.nolimit (codeRec_of gl.inn k3) rfl rfl rfl ?_ ?_ rfl rfl hk
  · intro x hx
    rw [List.mem_singleton] at hx
    subst hx
    exact .inr ⟨rfl, rfl⟩
  · intro s₁ fr
    have hF : EnvF (lawEnv pm code s.heap.objs.size 184) := envF_of hk hnd
    have st := st_start (c := c) (A := A) (env := lawEnv pm code s.heap.objs.size 184) (L := s.heap.objs.size) (names := [Str.ofString "script"]) on gl r rfl (by decide) (Nat.le_refl _) hF.hu fr (fun x hx => by
      rw [List.mem_singleton] at hx
      subst hx
      exact .inr ⟨rfl, _, rfl⟩) rfl (by show (scopeOf (stmtN 19)).kind ≠ _; rw [hk]; decide) (fun n a hm => own_of hown n a hm)
    have hA' : AOk (A.deeper (lawEnv pm code s.heap.objs.size 184)) 40 := hA.deeper _
    refine wpAny_mono (law_body (pm := pm) (code := code) (L := s.heap.objs.size) (a := 184) hF hA' H hz s G Gh.none G s₁ st) (fun fl s' q => ?_) fun _ _ x => x.elim
    obtain ⟨G', σ', fd', ⟨m, cm, q⟩, hG, hfl, e⟩ := q
    subst e
    cases fl with
    | ret v =>
      have hv : Rep G' v (.bool true) := hfl
      (first | obtain rfl := hv.inv0 | obtain ⟨_, rfl⟩ := hv.inv | obtain rfl := hv.inv | cases hv)
      exact hR G' s' ⟨⟨q.fr.same, q.fr.kh, fun z => q.gl.stays⟩, hG, q.on, q.new⟩
    | next => exact hfl.elim
    | brk => exact hfl.elim
    | cont => exact hfl.elim
abbrev tabsL : List (Addr × Addr) := [(66, 62), (59, 55)]
theorem law_end {w : World} {s₁ : Shared} {mg mb : Str → Option Value} {mean : ExcName → Option Value} {cl : Str → Option Addr} {args : List WData} {p : Program} {loose : List Str} {l : Addr} {vs : List Value} {ns : List Int} (T : Top p loose mean mg mb s₁.heap) (KX : (Mine.Kf w.params).In s₁.heap) (hT9 : TabsAt tabsL s₁.heap)
    (hl : s₁.heap.IsList l vs.toArray) (hi : IntsAre vs ns) (hz : ns.length ≤ 63) (hg : s₁.gens = #[]) (hp : PySem.Challenge.rw_to0024_01.row.claim.post args (.bool true) args = true) : codeAny (model PySem.Challenge.rw_to0024_01.row.prog w) callerA (.call (.ref 184) ⟨[.ref l], []⟩) (GoodWG PySem.Challenge.rw_to0024_01.row.claim cl mean args s₁) s₁ := by
  obtain ⟨o, ho, hcls, k, hdata⟩ := hl
  refine kn_post hT9 (fun _ _ => rfl) ?_
  have hA : AOk callerA 41 := ⟨rfl, by decide, by decide⟩
  have hb6 : (ghostOf s₁.heap tabsL).get? 55 = none := hideAll_none _ (by decide)
  have hb7 : (ghostOf s₁.heap tabsL).get? 62 = none := hideAll_none _ (by decide)
  have hla : ∀ q ∈ [r6, r7], q.tab ≠ l := fun q hq e => by
    have hh : s₁.heap.get? q.tab = some (tabObj #[]) := by
      rcases List.mem_cons.mp hq with rfl | hq
      · exact (hT9 (59, 55) (by decide)).2
      · rcases List.mem_singleton.mp hq with rfl
        exact (hT9 (66, 62) (by decide)).2
    rw [e, ho] at hh
    cases hh; cases hcls
  have hDl : isD o = false := by unfold isD; rw [hdata]
  let c := cxOf w (loose ++ (recsOf p).map (·.name) ++ (litsOf p).map (·.1) ++ (clssOf p loose).map (·.name)) mean mg mb (ghostOf s₁.heap tabsL)
  have on : OnG c (fun a p => a = l ∧ p = o) s₁ := ⟨fun a p ⟨e1, e2⟩ => by subst e1; subst e2; exact .of ho, fun q hq => by
    have hq : q = r6 ∨ q = r7 := by simpa [c, cxOf] using hq
    rcases hq with rfl | rfl
    · exact ⟨(hT9 (59, 55) (by decide)).1, #[], (hT9 (59, 55) (by decide)).2, trivial, .inl rfl⟩
    · exact ⟨(hT9 (66, 62) (by decide)).1, #[], (hT9 (66, 62) (by decide)).2, trivial, .inl rfl⟩, fun q hq p ⟨e, _⟩ => by
    have hq : q = r6 ∨ q = r7 := by simpa [c, cxOf] using hq
    rcases hq with rfl | rfl
    · exact hla r6 (.head _) e
    · exact hla r7 (.tail _ (.head _)) e⟩
  have gl : c.Gl callerA s₁.heap := ⟨ghost_K hT9 KX (by rfl), ghost_top hT9 T, fun b o e => of_hideAll _ e, ⟨[], rfl, fun e he => nomatch he⟩⟩
  refine law_run (c := c) (r6 := r6) (r7 := r7) (ns := ns) hA (law_c hb6 hb7) d_law on gl hz ⟨rfl, rfl⟩ hcls hdata (of_ints hi) fun G' s' g => ⟨⟨.inl ⟨.bool true, .bool true, [], rfl, fun _ => rfl, .bool true, hp, unshared_nil⟩, g.keep.base gl.stays, ?_, ?_⟩, ?_⟩
  · obtain ⟨h, t, e⟩ := g.keep.same
    rw [e]
  · obtain ⟨h, t, e⟩ := g.keep.same
    rw [e]; exact hg
  · obtain ⟨_, ps6, h6, _⟩ := g.on.tab r6 (.head _)
    obtain ⟨_, ps7, h7, _⟩ := g.on.tab r7 (.tail _ (.head _))
    exact ⟨⟨ps7, h7⟩, ⟨ps6, h6⟩, trivial⟩
end Mine
end


/-! part T10N -/
open PySem PySem.W PyProof.Rows
set_option Elab.async false
set_option maxRecDepth 100000
set_option maxHeartbeats 8000000 in
theorem PySem.Challenge.cw_to0024_01_holds : PySem.Challenge.rw_to0024_01.Holds :=
  Mine.hd (by
  k_fill
  intro w s₀ s₁ mg mb G Y fa o pm cd doc dV kV ho hd hcd hD hmg hg args vals as hpre hlay hrd hwl hlo
  have KX := km_in_of Y
  km_tabs Y
  have X := (Ground.X G).1
  have V := (Ground.X G).2
  refine Ground.open G ?_
  intro T B D TE TW
  try (refine guard_noD D (by decide +kernel) ?_; clear D)
  km_lay T hmg ho hd cd
  have hfa : fa = 184 := by
    have e1 := mg_of (n := Str.ofString "law") (v := .ref 184) KX T.g (by rfl)
    have e2 : mg (Str.ofString "law") = some (.ref fa) := hmg
    rw [e1] at e2
    cases e2
    rfl
  subst hfa
  wrow_args hpre hlay hrd hwl hlo
  all_goals (
    (first | refine callC_kw (enter_call ?_) | refine enter_call ?_)
    w_top on
    rename Heap.IsList _ _ _ => hIL
    rename IntsAre _ _ => hIA
    rename ¬ _ => hcond
    exact Mine.law_end T KX hT9 hIL hIA (by omega) hg (by wrow_post)))

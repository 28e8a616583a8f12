import PyProof.Rows.All
import Wide.All
import OpenK.AllK
import Wide.FinOn
import KE.KxPercent
import KE.KIntText
import PyProof.MeetsSeq2
import Lean
import PySem.Challenge.RW_ku0010_01
set_option Elab.async false
section
open PySem PySem.W PyProof.Rows
set_option Elab.async false
set_option genSizeOf false
set_option maxRecDepth 20000
namespace Mine

theorem no {α : Type} {x : α} {C : Prop} (h : Option.none = some x) : C := nomatch h
theorem nob {C : Prop} (h : false = true) : C := nomatch h
/-! plain data -/
inductive P where
  | none | bool (b : Bool) | int (i : Int) | str (l : List Nat) | tup (ps : List P)

noncomputable def S (l : List Nat) : Str := ⟨l.toArray⟩
@[simp] theorem S_cps (l : List Nat) : (S l).cps = l.toArray := rfl
@[simp] theorem S_len (l : List Nat) : (S l).length = l.length := by show l.toArray.size = _; simp
theorem S_inj {a b : List Nat} (h : S a = S b) : a = b := by
  have := congrArg (fun x => x.cps.toList) h
  simpa using this
theorem S_of (x : Str) : S x.cps.toList = x := by cases x; rfl

mutual
noncomputable def P.dat : P → Dat
  | .none => .none
  | .bool b => .bool b
  | .int i => .int i
  | .str l => .str (S l)
  | .tup ps => .tuple (dats ps)
noncomputable def dats : List P → List Dat
  | [] => []
  | p :: r => p.dat :: dats r
end
theorem dats_eq (ps : List P) : dats ps = ps.map P.dat := by
  induction ps with
  | nil => rfl
  | cons p r ih => simp [dats, ih]

noncomputable def P.beq (a b : P) : Bool := @decide (a = b) (Classical.propDecidable _)
noncomputable def beqs (a b : List P) : Bool := @decide (a = b) (Classical.propDecidable _)
theorem beq_iff (a b : P) : a.beq b = true ↔ a = b := @decide_eq_true_iff _ (Classical.propDecidable _)
theorem beqs_iff (a b : List P) : beqs a b = true ↔ a = b := @decide_eq_true_iff _ (Classical.propDecidable _)
mutual
theorem dat_inj : ∀ a b : P, a.dat = b.dat → a = b
  | .none, b, h => by cases b <;> simp_all [P.dat]
  | .bool a, b, h => by cases b <;> simp_all [P.dat]
  | .int a, b, h => by cases b <;> simp_all [P.dat]
  | .str a, b, h => by
      cases b with
      | str b => simp only [P.dat, Dat.str.injEq] at h; rw [S_inj h]
      | _ => simp [P.dat] at h
  | .tup a, b, h => by
      cases b with
      | tup b => simp only [P.dat, Dat.tuple.injEq] at h; rw [dats_inj a b h]
      | _ => simp [P.dat] at h
theorem dats_inj : ∀ a b : List P, dats a = dats b → a = b
  | [], b, h => by cases b <;> simp_all [dats]
  | a :: r, b, h => by
      cases b with
      | nil => simp [dats] at h
      | cons b q => simp only [dats, List.cons.injEq] at h; rw [dat_inj a b h.1, dats_inj r q h.2]
end
/-- no bools within, and not too deep: what the kit's == wants -/
noncomputable def P.leaf (f : List P → Bool) (p : P) : Bool := match p with
  | .none => true
  | .int _ => true
  | .str l => l.all (· < 0x110000)
  | .tup ps => f ps
  | .bool _ => false
noncomputable def P.okAt (n : Nat) : P → Bool := Nat.rec (motive := fun _ => P → Bool) (P.leaf fun _ => false) (fun _ f => P.leaf fun ps => ps.all f) n
theorem okAt_int (n : Nat) (i : Int) : (P.int i).okAt n = true := by cases n <;> rfl
theorem okAt_str (n : Nat) (l : List Nat) : (P.str l).okAt n = l.all (· < 0x110000) := by cases n <;> rfl
theorem okAt_tup (n : Nat) (ps : List P) : (P.tup ps).okAt (n + 1) = ps.all (P.okAt n) := rfl
theorem okAt_kqd : ∀ (n : Nat) (p : P), p.okAt n = true → kqdOk n p.dat = true := by
  intro n
  induction n with
  | zero => intro p h; cases p <;> first | rfl | exact nob h | exact (List.all_toArray ..).trans h
  | succ n ih =>
    intro p h
    cases p with
    | tup ps =>
      show (dats ps).all (kqdOk n) = true
      rw [dats_eq, List.all_map]
      exact List.all_eq_true.mpr fun q hq => ih q (List.all_eq_true.mp h q hq)
    | _ => first | rfl | exact nob h | exact (List.all_toArray ..).trans h

/-! abstract values, objects -/
inductive V where
  | p (x : P) | ref (r : Nat) | obj (r : Nat) | bm (r : Nat) | rng (a b : Int) | glob (g : Nat) | fix (ps : List P)
inductive O where
  | list (ps : List P) | inst (fs : List (Str × P)) | cell (x : Option P)

section
set_option genInjectivity false
/-- what never changes: the program, the world, the written part of the heap, the class -/
structure Wd where
  prog : Program
  w : World
  K : Frag
  C : Addr
  T : Nat → Option Addr
  g : Array GenState
  d : Drawn
  os : OsState
  p : Program
  loose : List Str
  mg : Str → Option Value
  mb : Str → Option Value

end
structure Wd.In (X : Wd) (h : Heap) : Prop where
  k : X.K.In h
  t : TopRead X.p X.loose X.mg X.mb h
theorem Wd.In.keeps {X : Wd} {h h' : Heap} (I : X.In h) (k : ∀ b o, h.get? b = some o → h'.get? b = some o) : X.In h' :=
  ⟨I.k.keeps k, ⟨I.t.g.keeps k, I.t.b.keeps k, I.t.nolimit.keeps k, I.t.builtins, I.t.free⟩⟩

noncomputable abbrev bmObj (a : Addr) : Obj := { cls := .type "builtin_function_or_method", data := .fields #[.builtin "list.append", .ref a] }
noncomputable abbrev rngObj (a b : Int) (t u v : Tok) : Obj := { cls := .type "range", dict := none, data := .fields #[.int a t, .int b u, .int 1 v], slots := #[] }
noncomputable abbrev cellObj (v : Option Value) : Obj := { cls := .type "cell", data := .cell v }
noncomputable abbrev tupObj (vs : List Value) (n : Nat) : Obj := { cls := .type "tuple", data := .seq vs.toArray n }

noncomputable def VRel (X : Wd) (imm : List (Addr × Obj)) (ad : List Addr) : V → Value → Prop
  | .p x, v => DatIn imm v x.dat
  | .ref r, v => ∃ a, ad[r]? = some a ∧ v = .ref a
  | .obj r, v => ∃ x d, ad[r]? = some d ∧ v = .ref x ∧ (x, instObj X.C d) ∈ imm
  | .bm r, v => ∃ b a, ad[r]? = some a ∧ v = .ref b ∧ (b, bmObj a) ∈ imm
  | .rng a b, v => ∃ r t u w, v = .ref r ∧ (r, rngObj a b t u w) ∈ imm
  | .glob g, v => ∃ a, X.T g = some a ∧ v = .ref a
  | .fix ps, v => ∃ a vs n, v = .ref a ∧ (a, listOf vs.toArray n) ∈ imm ∧ DatAll imm vs (dats ps)

inductive FRel (imm : List (Addr × Obj)) : List DictEntry → List (Str × P) → Prop
  | nil : FRel imm [] []
  | cons {h : Int} {n : Str} {t : Tok} {v : Value} {x : P} {es fs} : DatIn imm v x.dat → FRel imm es fs → FRel imm (⟨h, .str n t, v⟩ :: es) ((n, x) :: fs)

inductive ORel (X : Wd) (imm : List (Addr × Obj)) : Addr × Obj → O → Prop
  | list {a : Addr} {vs : List Value} {n : Nat} {ps : List P} : DatAll imm vs (dats ps) → ORel X imm (a, listOf vs.toArray n) (.list ps)
  | inst {x d : Addr} {es : List DictEntry} {n : Nat} {fs : List (Str × P)} : (x, instObj X.C d) ∈ imm → FRel imm es fs → ORel X imm (d, dictOf es n) (.inst fs)
  | cellN {c : Addr} {o : Obj} : o.data = .cell none → ORel X imm (c, o) (.cell none)
  | cellS {c : Addr} {o : Obj} {v : Value} {x : P} : o.data = .cell (some v) → DatIn imm v x.dat → ORel X imm (c, o) (.cell (some x))

inductive MRel (X : Wd) (imm : List (Addr × Obj)) : List (Addr × Obj) → List O → Prop
  | nil : MRel X imm [] []
  | cons {e o es os} : ORel X imm e o → MRel X imm es os → MRel X imm (e :: es) (o :: os)

section
variable {X : Wd} {imm imm' : List (Addr × Obj)} {ad ad' : List Addr}
theorem FRel.mono (hs : ∀ p ∈ imm, p ∈ imm') {es fs} (h : FRel imm es fs) : FRel imm' es fs := by
  induction h with
  | nil => exact .nil
  | cons a _ ih => exact .cons (a.mono hs) ih
theorem ORel.mono (hs : ∀ p ∈ imm, p ∈ imm') {e o} (h : ORel X imm e o) : ORel X imm' e o := by
  cases h with
  | list a => exact .list (a.mono hs)
  | inst a b => exact .inst (hs _ a) (b.mono hs)
  | cellN a => exact .cellN a
  | cellS a b => exact .cellS a (b.mono hs)
theorem MRel.mono (hs : ∀ p ∈ imm, p ∈ imm') {es os} (h : MRel X imm es os) : MRel X imm' es os := by
  induction h with
  | nil => exact .nil
  | cons a _ ih => exact .cons (a.mono hs) ih
theorem MRel.length {es os} (h : MRel X imm es os) : es.length = os.length := by
  induction h with
  | nil => rfl
  | cons _ _ ih => simp [ih]
theorem MRel.get {es os} (h : MRel X imm es os) {r : Nat} {o : O} (ho : os[r]? = some o) : ∃ e, es[r]? = some e ∧ ORel X imm e o := by
  induction h generalizing r with
  | nil => simp at ho
  | cons a _ ih =>
    cases r with
    | zero => simp at ho; subst ho; exact ⟨_, rfl, a⟩
    | succ r => simpa using ih (by simpa using ho)
theorem MRel.snoc {es os e o} (h : MRel X imm es os) (k : ORel X imm e o) : MRel X imm (es ++ [e]) (os ++ [o]) := by
  induction h with
  | nil => exact .cons k .nil
  | cons a _ ih => exact .cons a ih
theorem MRel.set {es os e o} (h : MRel X imm es os) (k : ORel X imm e o) (r : Nat) : MRel X imm (es.set r e) (os.set r o) := by
  induction h generalizing r with
  | nil => exact .nil
  | cons a b ih =>
    cases r with
    | zero => exact .cons k b
    | succ r => exact .cons a (ih r)
theorem VRel.mono (hs : ∀ p ∈ imm, p ∈ imm') (ha : ad <+: ad') {v : V} {x : Value} (h : VRel X imm ad v x) : VRel X imm' ad' v x := by
  obtain ⟨t, rfl⟩ := ha
  have key : ∀ {r a}, ad[r]? = some a → (ad ++ t)[r]? = some a := fun {r a} e => by
    rw [List.getElem?_append_left (List.getElem?_eq_some_iff.mp e).1]; exact e
  cases v with
  | p x => exact DatIn.mono hs h
  | ref r => obtain ⟨a, e, q⟩ := h; exact ⟨a, key e, q⟩
  | obj r => obtain ⟨a, d, e, q, m⟩ := h; exact ⟨a, d, key e, q, hs _ m⟩
  | bm r => obtain ⟨a, d, e, q, m⟩ := h; exact ⟨a, d, key e, q, hs _ m⟩
  | rng a b => obtain ⟨r, t, u, w, q, m⟩ := h; exact ⟨r, t, u, w, q, hs _ m⟩
  | glob g => exact h
  | fix ps => obtain ⟨a, vs, n, q, m, d⟩ := h; exact ⟨a, vs, n, q, hs _ m, d.mono hs⟩
end

/-! the state -/
structure St (X : Wd) (h₀ : Heap) (L : Addr) (m : Str → Option Value) (mu ext imm : List (Addr × Obj)) (H : List O) (s : Shared) : Prop where
  fr : Fr h₀ L s.heap m
  nw : News h₀ L s.heap (mu ++ (ext ++ imm))
  nd : ((mu ++ (ext ++ imm)).map Prod.fst).Nodup
  mr : MRel X imm mu H
  g : s.gens = X.g
  d : s.drawn = X.d
  os : s.os = X.os

theorem news_sub {h₀ h : Heap} {L : Addr} {l l' : List (Addr × Obj)} (N : News h₀ L h l) (hs : ∀ p ∈ l', p ∈ l) : News h₀ L h l' := fun p hp => N p (hs p hp)

/-- the locals -/
noncomputable def LRel (X : Wd) (nm : List Str) (env : Env) (m : Str → Option Value) (imm : List (Addr × Obj)) (ad : List Addr) (loc : List (Option V)) : Prop :=
  ∀ (i : Nat) (v : V) (x : Str), loc[i]? = some (some v) → nm[i]? = some x →
    (env.kindOf x = some .local → ∃ y, m x = some y ∧ VRel X imm ad v y) ∧
    (env.kindOf x = some .cell ∨ env.kindOf x = some .free → ∃ r c, v = .ref r ∧ env.cells.lookup x = some c ∧ ad[r]? = some c)

structure Gw (mu imm mu' imm' : List (Addr × Obj)) : Prop where
  ad : mu.map Prod.fst <+: mu'.map Prod.fst
  im : ∀ p ∈ imm, p ∈ imm'
theorem Gw.refl {mu imm : List (Addr × Obj)} : Gw mu imm mu imm := ⟨List.prefix_refl _, fun _ h => h⟩
theorem Gw.trans {a b c d e f : List (Addr × Obj)} (x : Gw a b c d) (y : Gw c d e f) : Gw a b e f := ⟨x.ad.trans y.ad, fun p h => y.im p (x.im p h)⟩
theorem LRel.gw {X : Wd} {nm env m imm imm' mu mu' loc} (h : LRel X nm env m imm (mu.map Prod.fst) loc) (g : Gw mu imm mu' imm') : LRel X nm env m imm' (mu'.map Prod.fst) loc := by
  intro i v x hv hx
  obtain ⟨a, b⟩ := h i v x hv hx
  refine ⟨fun k => ?_, fun k => ?_⟩
  · obtain ⟨y, e, r⟩ := a k
    exact ⟨y, e, r.mono g.im g.ad⟩
  · obtain ⟨r, c, e, f, q⟩ := b k
    refine ⟨r, c, e, f, ?_⟩
    obtain ⟨t, ht⟩ := g.ad
    rw [← ht, List.getElem?_append_left (List.getElem?_eq_some_iff.mp q).1]; exact q
theorem VRel.gw {X : Wd} {imm imm' mu mu' v y} (h : VRel X imm (mu.map Prod.fst) v y) (g : Gw mu imm mu' imm') : VRel X imm' (mu'.map Prod.fst) v y := h.mono g.im g.ad

section
variable {X : Wd} {h₀ : Heap} {L : Addr} {m : Str → Option Value} {mu ext imm : List (Addr × Obj)} {H : List O} {s : Shared}
theorem St.lt (t : St X h₀ L m mu ext imm H s) : ∀ p ∈ mu ++ (ext ++ imm), p.1 < s.heap.objs.size := fun p hp => Heap.lt_size (t.nw p hp).1
/-- tokens alone -/
theorem St.tok (t : St X h₀ L m mu ext imm H s) (k : Nat) : St X h₀ L m mu ext imm H { s with toks := k } := ⟨t.fr, t.nw, t.nd, t.mr, t.g, t.d, t.os⟩
/-- a heap that the rule hands back, the ledger as it was -/
theorem St.heap (t : St X h₀ L m mu ext imm H s) {h' : Heap} (F : Fr h₀ L h' m) (N : News h₀ L h' (mu ++ (ext ++ imm))) (k : Nat) : St X h₀ L m mu ext imm H { s with heap := h', toks := k } :=
  ⟨F, N, t.nd, t.mr, t.g, t.d, t.os⟩
theorem St.keeps (t : St X h₀ L m mu ext imm H s) {h' : Heap} (k : ∀ b o, s.heap.get? b = some o → h'.get? b = some o) (n : Nat) : St X h₀ L m mu ext imm H { s with heap := h', toks := n } :=
  t.heap (t.fr.after k) (fun p hp => ⟨k _ _ (t.nw p hp).1, (t.nw p hp).2⟩) n
theorem St.addI (t : St X h₀ L m mu ext imm H s) {h' : Heap} {a : Addr} {o : Obj} (F : Fr h₀ L h' m) (N : News h₀ L h' ((a, o) :: (mu ++ (ext ++ imm)))) (ha : ∀ p ∈ mu ++ (ext ++ imm), p.1 < a) (k : Nat) :
    St X h₀ L m mu ext ((a, o) :: imm) H { s with heap := h', toks := k } := by
  have e : ∀ p, p ∈ mu ++ (ext ++ (a, o) :: imm) ↔ p ∈ (a, o) :: (mu ++ (ext ++ imm)) := by
    intro p; simp only [List.mem_append, List.mem_cons]; constructor <;> (intro h; rcases h with h | h | h | h <;> simp [h])
  refine ⟨F, news_sub N fun p hp => (e p).mp hp, ?_, t.mr.mono fun p hp => .tail _ hp, t.g, t.d, t.os⟩
  have pm : (mu ++ (ext ++ (a, o) :: imm)).Perm ((a, o) :: (mu ++ (ext ++ imm))) := by
    rw [← List.append_assoc, ← List.append_assoc]; exact List.perm_middle
  rw [(pm.map Prod.fst).nodup_iff, List.map_cons, List.nodup_cons]
  refine ⟨fun hm => ?_, t.nd⟩
  obtain ⟨p, hp, q⟩ := List.mem_map.mp hm
  exact absurd (ha p hp) (by rw [q]; exact Nat.lt_irrefl _)
theorem St.addMn (t : St X h₀ L m mu ext imm H s) {h' : Heap} {a : Addr} {o : Obj} {b : O} (F : Fr h₀ L h' m) (N : News h₀ L h' ((a, o) :: (mu ++ (ext ++ imm)))) (ha : ∀ p ∈ mu ++ (ext ++ imm), p.1 ≠ a) (r : ORel X imm (a, o) b) (k : Nat) :
    St X h₀ L m (mu ++ [(a, o)]) ext imm (H ++ [b]) { s with heap := h', toks := k } := by
  have e : ∀ p, p ∈ (mu ++ [(a, o)]) ++ (ext ++ imm) ↔ p ∈ (a, o) :: (mu ++ (ext ++ imm)) := by
    intro p
    simp only [List.mem_append, List.mem_cons, List.not_mem_nil, or_false]
    constructor
    · rintro ((h | h) | h | h) <;> simp [h]
    · rintro (h | h | h | h) <;> simp [h]
  refine ⟨F, news_sub N fun p hp => (e p).mp hp, ?_, t.mr.snoc r, t.g, t.d, t.os⟩
  have pm : ((mu ++ [(a, o)]) ++ (ext ++ imm)).Perm ((a, o) :: (mu ++ (ext ++ imm))) := by
    rw [List.append_assoc]; exact List.perm_middle
  rw [(pm.map Prod.fst).nodup_iff, List.map_cons, List.nodup_cons]
  refine ⟨fun hm => ?_, t.nd⟩
  obtain ⟨p, hp, q⟩ := List.mem_map.mp hm
  exact ha p hp q
theorem St.addM (t : St X h₀ L m mu ext imm H s) {h' : Heap} {a : Addr} {o : Obj} {b : O} (F : Fr h₀ L h' m) (N : News h₀ L h' ((a, o) :: (mu ++ (ext ++ imm)))) (ha : ∀ p ∈ mu ++ (ext ++ imm), p.1 < a) (r : ORel X imm (a, o) b) (k : Nat) :
    St X h₀ L m (mu ++ [(a, o)]) ext imm (H ++ [b]) { s with heap := h', toks := k } := t.addMn F N (fun p hp => Nat.ne_of_lt (ha p hp)) r k
theorem gw_imm {a : Addr × Obj} : Gw mu imm mu (a :: imm) := ⟨List.prefix_refl _, fun _ h => .tail _ h⟩
theorem gw_mu {a : Addr × Obj} : Gw mu imm (mu ++ [a]) imm := ⟨by rw [List.map_append]; exact List.prefix_append _ _, fun _ h => h⟩
theorem mem_set_of {α : Type} {l : List α} {r : Nat} {x y : α} (h : l[r]? = some x) : ∃ a b, l = a ++ x :: b ∧ l.set r y = a ++ y :: b := by
  induction l generalizing r with
  | nil => simp at h
  | cons z l ih =>
    cases r with
    | zero => simp at h; subst h; exact ⟨[], l, rfl, rfl⟩
    | succ r =>
      obtain ⟨a, b, h1, h2⟩ := ih (by simpa using h)
      exact ⟨z :: a, b, by rw [h1]; rfl, by rw [List.set_cons_succ, h2]; rfl⟩
theorem map_fst_set {l : List (Addr × Obj)} {r : Nat} {a : Addr} {o o' : Obj} (h : l[r]? = some (a, o)) : (l.set r (a, o')).map Prod.fst = l.map Prod.fst := by
  obtain ⟨p, q, h1, h2⟩ := mem_set_of (y := (a, o')) h
  rw [h2, h1]; simp
/-- the shape in which the kit wants a change of one entry -/
theorem St.updOf (t : St X h₀ L m mu ext imm H s) {r : Nat} {a : Addr} {o : Obj} (o' : Obj) (h : mu[r]? = some (a, o)) : Upd a o o' (mu ++ (ext ++ imm)) (mu.set r (a, o') ++ (ext ++ imm)) := by
  have nd := t.nd
  obtain ⟨p, q, h1, h2⟩ := mem_set_of (y := (a, o')) h
  rw [h2]
  subst h1
  clear h h2 t
  have rest : ∀ (p l : List (Addr × Obj)), ((p ++ (a, o) :: l).map Prod.fst).Nodup → Upd a o o' (p ++ (a, o) :: l) (p ++ (a, o') :: l) := by
    intro p l
    induction p with
    | nil =>
      intro nd
      simp only [List.nil_append, List.map_cons, List.nodup_cons] at nd
      exact .head fun x hx e => nd.1 (List.mem_map.mpr ⟨x, hx, e⟩)
    | cons x p ih =>
      intro nd
      simp only [List.cons_append, List.map_cons, List.nodup_cons] at nd
      refine .tail (fun e => nd.1 (List.mem_map.mpr ⟨(a, o), by simp, e.symm⟩)) (ih nd.2)
  have := rest p (q ++ (ext ++ imm)) (by simpa using nd)
  simpa using this
theorem St.upd (t : St X h₀ L m mu ext imm H s) {r : Nat} {a : Addr} {o o' : Obj} {b : O} {h' : Heap} (h : mu[r]? = some (a, o)) (F : Fr h₀ L h' m) (N : News h₀ L h' (mu.set r (a, o') ++ (ext ++ imm))) (k : ORel X imm (a, o') b) (n : Nat) :
    St X h₀ L m (mu.set r (a, o')) ext imm (H.set r b) { s with heap := h', toks := n } := by
  refine ⟨F, N, ?_, t.mr.set k r, t.g, t.d, t.os⟩
  rw [List.map_append, map_fst_set h, ← List.map_append]
  exact t.nd
theorem gw_set {r : Nat} {a : Addr} {o o' : Obj} (h : mu[r]? = some (a, o)) : Gw mu imm (mu.set r (a, o')) imm := ⟨by rw [map_fst_set h]; exact List.prefix_refl _, fun _ h => h⟩
end

/-! room on the stacks -/
noncomputable def Room (A : Around) (n : Nat) : Prop := A.handled = none ∧ A.depth + n + 2 < recursionLimit ∧ A.units + 100 * (n + 1) < cLine
theorem Room.deeper {A : Around} {n : Nat} (h : Room A (n + 1)) (env : Env) : Room (A.deeper env) n := by
  obtain ⟨a, b, c⟩ := h
  exact ⟨a, by rw [depth_deeper]; lia, by rw [Around.deeper_units]; lia⟩
theorem Room.le {A : Around} {n k : Nat} (h : Room A n) (hk : k ≤ n) : Room A k := by
  obtain ⟨a, b, c⟩ := h
  exact ⟨a, by lia, by lia⟩
end Mine
end
section
open PySem PySem.W PyProof.Rows
set_option Elab.async false
set_option genSizeOf false
set_option maxRecDepth 20000
namespace Mine

section
set_option genInjectivity false
inductive BOp where
  | add | sub | mul | fdiv | mod | pow
inductive COp where
  | eq | ne | lt | le | gt | ge | inn | nin | is | isn
inductive BI where
  | len | max | range | list | isint | sorted | ord | chr | int16 | tuple
inductive SM where
  | translate | splitlines | rstrip | endswith | replace | split | join | append | extend | pop
inductive Tg where
  | one (i : Nat) | cel (i : Nat) | tup (l : List Nat)

inductive E where
  | loc (i : Nat) | cel (i : Nat) | lit (x : P) | tab (g : Nat)
  | bin (o : BOp) (a b : E) | cmp (o : COp) (a b : E) | neg (a : E) | not (a : E) | and (es : List E) | or (es : List E)
  | ife (c a b : E)
  | tup (es : List E) | lst (es : List E)
  | idx (a i : E) | sl (a : E) (lo hi : Option E)
  | fld (a : E) (n : Str)
  | cal (f : Nat) (es : List E) | new (es : List E) | mth (f : Nat) (n : Str) (a : E) (es : List E)
  | bi (b : BI) (es : List E) | sm (b : SM) (a : E) (es : List E) | bnd (a : E) | app (a x : E)
  | comp (fr : List (Option Nat)) (elt : E) (t : Tg) (it : E) (cs : List E)
  | comp2 (fr : List (Option Nat)) (elt : E) (t : Tg) (it : E) (t2 : Tg) (it2 : E) (cs : List E)
inductive T where
  | asg (t : Tg) (e : E) | asgS (l : List Nat) (e : E) | asgM (l : List Nat) (e : E) | asgI (a i e : E) | asgF (a : E) (n : Str) (e : E) | asgC (i : Nat) (e : E)
  | aug (i : Nat) (o : BOp) (e : E) | ex (e : E) | ifs (c : E) (a b : List T) | whl (c : E) (b : List T) | fore (t : Tg) (it : E) (b : List T)
  | ret (e : E) | brk | cont | bad
end
inductive Fl where
  | next | brk | cont | ret (v : V)

/-- a size that the model bears -/
noncomputable def ok (n : Nat) : Bool := decide (n ≤ 1000000)
theorem ok_of {n : Nat} (h : n ≤ 1000000) : ok n = true := decide_eq_true h
theorem of_ok {n : Nat} (h : ok n = true) : n ≤ 1000000 := of_decide_eq_true h
noncomputable def oki (i : Int) : Bool := decide (-1000000000 ≤ i ∧ i ≤ 1000000000)
theorem oki_of {i : Int} (h : -1000000000 ≤ i ∧ i ≤ 1000000000) : oki i = true := decide_eq_true h
theorem of_oki {i : Int} (h : oki i = true) : -1000000000 ≤ i ∧ i ≤ 1000000000 := of_decide_eq_true h

noncomputable def rep (n : Nat) (l : List α) : List α := (List.replicate n l).flatten
noncomputable def hexD (n : Nat) : Nat := if n < 10 then 48 + n else 55 + n
noncomputable def hexV (c : Nat) : Option Nat := if 48 ≤ c ∧ c ≤ 57 then some (c - 48) else if 65 ≤ c ∧ c ≤ 70 then some (c - 55) else if 97 ≤ c ∧ c ≤ 102 then some (c - 87) else none

/-! readings of data: one step each -/
noncomputable def P.int? (p : P) : Option Int := match p with
  | .int i => some i
  | _ => Option.none
noncomputable def P.str? (p : P) : Option (List Nat) := match p with
  | .str i => some i
  | _ => Option.none
noncomputable def V.pl (v : V) : Option P := match v with
  | .p x => some x
  | _ => none
noncomputable def V.rf (v : V) : Option Nat := match v with
  | .ref r => some r
  | _ => none
noncomputable def V.int (v : V) : Option Int := v.pl.bind P.int?
noncomputable def V.str (v : V) : Option (List Nat) := v.pl.bind P.str?
noncomputable def nul (l : List α) : Option Unit := match l with
  | [] => some ()
  | _ => none
noncomputable def one (l : List α) : Option α := match l with
  | [] => none
  | a :: r => (nul r).map fun _ => a
noncomputable def two (l : List α) : Option (α × α) := match l with
  | [] => none
  | a :: r => (one r).map fun b => (a, b)
theorem int_mk (i : Int) : (V.p (.int i)).int = some i := rfl
theorem str_mk (l : List Nat) : (V.p (.str l)).str = some l := rfl
theorem rf_mk (r : Nat) : (V.ref r).rf = some r := rfl
theorem pl_mk (x : P) : (V.p x).pl = some x := rfl
theorem pint_mk (i : Int) : (P.int i).int? = some i := rfl
theorem pstr_mk (i : List Nat) : (P.str i).str? = some i := rfl
theorem nul_mk : nul ([] : List α) = some () := rfl
theorem one_mk (a : α) : one [a] = some a := rfl
theorem two_mk (a b : α) : two [a, b] = some (a, b) := rfl

noncomputable def addP (p q : P) : Option P := match p with
  | .int a => q.int?.bind fun b => some (.int (a + b))
  | .str a => q.str?.bind fun b => if ok (a.length + b.length) then some (.str (a ++ b)) else none
  | _ => none
noncomputable def mulP (p q : P) : Option P := match p with
  | .int a => q.int?.bind fun b => if oki a then some (.int (a * b)) else none
  | .str a => q.int?.bind fun b => if oki b && ok (a.length * b.toNat) then some (.str (rep b.toNat a)) else none
  | _ => none
noncomputable def modP (p q : P) : Option P := match p with
  | .int a => q.int?.bind fun b => if decide (0 < b) then some (.int (a % b)) else none
  | .str a => q.int?.bind fun b => if a == [61, 37, 48, 50, 88] && decide (0 ≤ b ∧ b < 256) then some (.str [61, hexD (b.toNat / 16), hexD (b.toNat % 16)]) else none
  | _ => none
noncomputable def binP (o : BOp) (p q : P) : Option P := match o with
  | .add => addP p q
  | .sub => p.int?.bind fun a => q.int?.bind fun b => some (.int (a - b))
  | .mul => mulP p q
  | .fdiv => p.int?.bind fun a => q.int?.bind fun b => if oki b && decide (0 < b) then some (.int (a / b)) else none
  | .mod => modP p q
  | .pow => p.int?.bind fun a => q.int?.bind fun b => if a == 10 && b == 6 then some (.int 1000000) else none

noncomputable def getL (H : List O) (r : Nat) : Option (List P) := match H[r]? with
  | some (.list ps) => some ps
  | _ => none
noncomputable def O.cel (o : O) : Option P := match o with
  | .cell x => x
  | _ => none
noncomputable def getC (H : List O) (r : Nat) : Option P := (H[r]?).bind O.cel
noncomputable def getF (H : List O) (r : Nat) : Option (List (Str × P)) := match H[r]? with
  | some (.inst fs) => some fs
  | _ => none

noncomputable def V.lst (v : V) (H : List O) : Option (List P) := v.rf.bind (getL H)
theorem lst_mk (r : Nat) (H : List O) : (V.ref r).lst H = getL H r := rfl
noncomputable def binR (o : BOp) (r : Nat) (b : V) (H : List O) : Option (V × List O) := match o with
  | .add => (getL H r).bind fun x => (b.lst H).bind fun y => if ok (x.length + y.length) then some (.ref H.length, H ++ [.list (x ++ y)]) else none
  | .mul => (getL H r).bind fun x => b.int.bind fun n => if oki n && ok (x.length * n.toNat) && !x.isEmpty then some (.ref H.length, H ++ [.list (rep n.toNat x)]) else none
  | _ => none
noncomputable def binV (o : BOp) (a b : V) (H : List O) : Option (V × List O) := match a with
  | .p x => b.pl.bind fun y => (binP o x y).bind fun c => some (.p c, H)
  | .ref r => binR o r b H
  | _ => none

noncomputable def P.tup? (p : P) : Option (List P) := match p with
  | .tup i => some i
  | _ => Option.none
noncomputable def P.bool? (p : P) : Option Bool := match p with
  | .bool i => some i
  | _ => Option.none
theorem ptup_mk (i : List P) : (P.tup i).tup? = some i := rfl
theorem pbool_mk (i : Bool) : (P.bool i).bool? = some i := rfl
noncomputable def eqP (a b : P) : Option Bool := match a with
  | .int a => b.int?.bind fun b => some (a == b)
  | .str a => b.str?.bind fun b => some (a == b)
  | .tup a => b.tup?.bind fun b => if (P.tup a).okAt 7 && (P.tup b).okAt 7 then some ((P.tup a).beq (.tup b)) else none
  | _ => none
noncomputable def cmpI (f : Int → Int → Bool) (a b : P) : Option Bool := a.int?.bind fun a => b.int?.bind fun b => some (f a b)
noncomputable def cmpIn (f : Bool → Bool) (a b : P) : Option Bool := a.str?.bind fun x => (one x).bind fun c => b.str?.bind fun l => some (f (l.contains c))
noncomputable def cmpB (f : Bool → Bool) (a b : P) : Option Bool := a.bool?.bind fun a => b.bool?.bind fun b => some (f (a == b))
noncomputable def cmpP (o : COp) (a b : P) : Option Bool := match o with
  | .eq => eqP a b
  | .ne => (eqP a b).map (!·)
  | .lt => cmpI (fun a b => decide (a < b)) a b
  | .le => cmpI (fun a b => decide (a ≤ b)) a b
  | .gt => cmpI (fun a b => decide (b < a)) a b
  | .ge => cmpI (fun a b => decide (b ≤ a)) a b
  | .inn => cmpIn (fun x => x) a b
  | .nin => cmpIn (fun x => !x) a b
  | .is => cmpB (fun x => x) a b
  | .isn => cmpB (fun x => !x) a b
noncomputable def cmpR (o : COp) (x y : List P) : Option Bool := if x.all (P.okAt 7) && y.all (P.okAt 7) then (match o with
  | .eq => some (beqs x y)
  | .ne => some (!beqs x y)
  | _ => none) else none
noncomputable def cmpN (o : COp) (a : P) (y : List P) : Option Bool := match o with
  | .nin => a.str?.bind fun l => if y.all (P.okAt 7) && (P.str l).okAt 7 then some (!y.any (P.beq (.str l))) else none
  | _ => none
noncomputable def cmpV (o : COp) (a b : V) (H : List O) : Option Bool := match a with
  | .p a => match b with
    | .p b => cmpP o a b
    | .ref q => (getL H q).bind fun y => cmpN o a y
    | _ => none
  | .ref r => (getL H r).bind fun x => (b.lst H).bind fun y => cmpR o x y
  | _ => none

noncomputable def truP (x : P) : Option Bool := match x with
  | .bool b => some b
  | .str l => if ok l.length then some (!l.isEmpty) else none
  | _ => none
noncomputable def truV (v : V) : Option Bool := match v with
  | .p x => truP x
  | _ => none

noncomputable def nIdx (i : Int) (n : Nat) : Nat := if i < 0 then (i + n).toNat else i.toNat
noncomputable def inIdx (i : Int) (n : Nat) : Bool := oki i && (decide (0 ≤ i ∧ i < n) || decide (i < 0 ∧ -(n : Int) ≤ i))
noncomputable def idxP (x : P) (i : Int) : Option P := match x with
  | .tup x => if inIdx i x.length then x[nIdx i x.length]? else none
  | .str x => if inIdx i x.length then (x[nIdx i x.length]?).map fun c => .str [c] else none
  | _ => none
noncomputable def idxA (tabs : Nat → List P) (a : V) (i : Int) (H : List O) : Option P := match a with
  | .ref r => (getL H r).bind fun x => if inIdx i x.length then x[nIdx i x.length]? else none
  | .p x => idxP x i
  | .glob g => if inIdx i (tabs g).length then (tabs g)[nIdx i (tabs g).length]? else none
  | _ => none
noncomputable def idxV (tabs : Nat → List P) (a i : V) (H : List O) : Option V := i.int.bind fun i => (idxA tabs a i H).map .p

noncomputable def clip (i : Int) (n : Nat) : Nat := if i < 0 then (i + n).toNat else min i.toNat n
noncomputable def cut (l : List α) (lo hi : Option Int) : List α := (l.drop ((lo.map (clip · l.length)).getD 0)).take ((hi.map (clip · l.length)).getD l.length - (lo.map (clip · l.length)).getD 0)
noncomputable def bnds (o : Option V) : Option (Option Int) := match o with
  | none => some none
  | some v => v.int.bind fun i => if oki i then some (some i) else none
noncomputable def slA (x : List P) (lo hi : Option Int) (H : List O) : Option (V × List O) := if ok x.length then some (.ref H.length, H ++ [.list (cut x lo hi)]) else none
noncomputable def slV (a : V) (lo hi : Option V) (H : List O) : Option (V × List O) := (bnds lo).bind fun lo => (bnds hi).bind fun hi => match a with
  | .ref r => (getL H r).bind fun x => slA x lo hi H
  | .p x => x.str?.bind fun x => if ok x.length then some (.p (.str (cut x lo hi)), H) else none
  | .fix x => slA x lo hi H
  | _ => none

noncomputable def pInts : List P → Option (List Int)
  | [] => some []
  | .int i :: r => (pInts r).map (i :: ·)
  | _ => none
noncomputable def pStrs : List P → Option (List (List Nat))
  | [] => some []
  | .str i :: r => (pStrs r).map (i :: ·)
  | _ => none
noncomputable def allP : List V → Option (List P)
  | [] => some []
  | .p x :: r => (allP r).map (x :: ·)
  | _ => none
noncomputable def maxI : List Int → Int
  | [] => 0
  | [a] => a
  | a :: r => max a (maxI r)
noncomputable def rngL (a b : Int) : List P := (List.range (b - a).toNat).map fun (k : Nat) => .int (a + k)
/-- the order of texts -/
noncomputable def leS : List Nat → List Nat → Bool
  | [], _ => true
  | _ :: _, [] => false
  | a :: r, b :: q => decide (a < b) || (a == b && leS r q)
noncomputable def srt (l : List (List Nat)) : List (List Nat) := l.mergeSort leS

noncomputable def lenP (x : P) : Option Nat := match x with
  | .str l => some l.length
  | .tup l => some l.length
  | _ => none
noncomputable def lenV (v : V) (H : List O) : Option Nat := match v with
  | .p x => lenP x
  | .ref r => (getL H r).map List.length
  | .fix x => some x.length
  | _ => none
noncomputable def V.rg (v : V) : Option (Int × Int) := match v with
  | .rng a b => some (a, b)
  | _ => none
theorem rg_mk (a b : Int) : (V.rng a b).rg = some (a, b) := rfl
noncomputable def maxV (v : V) (r : List V) (H : List O) : Option (V × List O) := match r with
  | [] => (v.lst H).bind fun x => (pInts x).bind fun x => if x.isEmpty then none else some (.p (.int (maxI x)), H)
  | _ :: _ => (one r).bind fun w => v.int.bind fun a => w.int.bind fun b => some (.p (.int (max a b)), H)
noncomputable def rngV (v : V) (r : List V) (H : List O) : Option (V × List O) := match r with
  | [] => v.int.bind fun b => if oki b then some (.rng 0 b, H) else none
  | _ :: _ => (one r).bind fun w => v.int.bind fun a => w.int.bind fun b => if oki a && oki b then some (.rng a b, H) else none
noncomputable def biA (b : BI) (v : V) (r : List V) (H : List O) : Option (V × List O) := match b with
  | .len => (nul r).bind fun _ => (lenV v H).bind fun n => if ok n then some (.p (.int n), H) else none
  | .max => maxV v r H
  | .range => rngV v r H
  | .list => (nul r).bind fun _ => v.rg.bind fun q => if oki q.1 && oki q.2 && ok (q.2 - q.1).toNat then some (.ref H.length, H ++ [.list (rngL q.1 q.2)]) else none
  | .isint => (nul r).bind fun _ => v.int.bind fun _ => some (.p (.bool true), H)
  | .sorted => (nul r).bind fun _ => (v.lst H).bind fun x => (pStrs x).bind fun x => if decide (2 ≤ x.length ∧ x.length < 64) then some (.ref H.length, H ++ [.list ((srt x).map .str)]) else none
  | .ord => (nul r).bind fun _ => v.str.bind fun l => (one l).bind fun c => some (.p (.int c), H)
  | .chr => (nul r).bind fun _ => v.int.bind fun i => if decide (0 ≤ i ∧ i < 0x110000) then some (.p (.str [i.toNat]), H) else none
  | .int16 => (nul r).bind fun _ => v.str.bind fun l => (two l).bind fun q => (hexV q.1).bind fun x => (hexV q.2).bind fun y => some (.p (.int (16 * x + y : Nat)), H)
  | .tuple => (nul r).bind fun _ => (v.lst H).bind fun x => if decide (x.length ≤ 16384) then some (.p (.tup x), H) else none
noncomputable def biV (b : BI) (vs : List V) (H : List O) : Option (V × List O) := match vs with
  | [] => none
  | v :: r => biA b v r H

/-- texts -/
noncomputable def splitOn (c : Nat) : List Nat → List (List Nat)
  | [] => [[]]
  | a :: r => if a = c then [] :: splitOn c r else match splitOn c r with
    | [] => [[a]]
    | x :: q => (a :: x) :: q
/-- cut at each place where y stands, from the left; the first number says how many signs of a found y are still to pass -/
noncomputable def splitG (y : List Nat) : Nat → List Nat → List (List Nat)
  | _, [] => [[]]
  | k + 1, _ :: r => splitG y k r
  | 0, a :: r => if y.isPrefixOf (a :: r) then [] :: splitG y (y.length - 1) r else match splitG y 0 r with
    | [] => [[a]]
    | x :: q => (a :: x) :: q
noncomputable def joinL (s : List Nat) : List (List Nat) → List Nat
  | [] => []
  | [a] => a
  | a :: r => a ++ s ++ joinL s r
noncomputable def isSp (c : Nat) : Bool := decide (9 ≤ c ∧ c ≤ 13) || decide (28 ≤ c ∧ c ≤ 32)
noncomputable def rstr (l : List Nat) : List Nat := (l.reverse.dropWhile isSp).reverse
noncomputable def isNl (c : Nat) : Bool := decide (10 ≤ c ∧ c ≤ 13) || decide (28 ≤ c ∧ c ≤ 30)
/-- splitlines of texts below 128: \r\n is one end -/
noncomputable def lns : List Nat → List (List Nat)
  | [] => []
  | 13 :: 10 :: r => [] :: lns r
  | a :: r => if isNl a then [] :: lns r else match r with
    | [] => [[a]]
    | _ => match lns r with
      | [] => [[a]]
      | x :: q => (a :: x) :: q
noncomputable def asc (l : List Nat) : Bool := l.all (· < 128)
noncomputable def sfx (l y : List Nat) : Bool := y.isSuffixOf l

noncomputable def V.gl (v : V) : Option Nat := match v with
  | .glob g => some g
  | _ => none
theorem gl_mk (g : Nat) : (V.glob g).gl = some g := rfl
/-- methods of texts -/
noncomputable def smT (tabs : Nat → List P) (b : SM) (l : List Nat) (vs : List V) (H : List O) : Option (V × List O) := match b with
  | .translate => (one vs).bind fun v => v.gl.bind fun g => (pStrs (tabs g)).bind fun t => if ok (l.length + t.length) && l.all (fun c => decide (c < t.length)) && t.all (fun x => !x.isEmpty && decide (x.length ≤ 4)) then some (.p (.str (l.flatMap fun c => t.getD c [])), H) else none
  | .splitlines => (nul vs).bind fun _ => if ok l.length && asc l then some (.ref H.length, H ++ [.list ((lns l).map .str)]) else none
  | .rstrip => (nul vs).bind fun _ => if ok l.length && asc l then some (.p (.str (rstr l)), H) else none
  | .endswith => (one vs).bind fun v => v.str.bind fun y => some (.p (.bool (sfx l y)), H)
  | .replace => (two vs).bind fun q => q.1.str.bind fun y => q.2.str.bind fun z => if ok ((l.length + 1) * (z.length + 1)) && !y.isEmpty then some (.p (.str (joinL z (splitG y 0 l))), H) else none
  | .split => (one vs).bind fun v => v.str.bind fun y => if ok l.length && !y.isEmpty then some (.ref H.length, H ++ [.list ((splitG y 0 l).map .str)]) else none
  | .join => (one vs).bind fun v => (v.lst H).bind fun x => (pStrs x).bind fun x => if ok ((x.map List.length).sum + x.length * l.length) then some (.p (.str (joinL l x)), H) else none
  | _ => none
/-- methods of lists -/
noncomputable def smR (b : SM) (r : Nat) (l : List P) (v : V) (H : List O) : Option (V × List O) := match b with
  | .append => v.pl.bind fun x => if ok l.length then some (.p .none, H.set r (.list (l ++ [x]))) else none
  | .extend => v.rf.bind fun q => (getL H q).bind fun y => if ok (l.length + y.length) && !(r == q) then some (.p .none, H.set r (.list (l ++ y))) else none
  | .pop => v.int.bind fun i => if ok l.length && decide (0 ≤ i ∧ i < l.length) then (l[i.toNat]?).bind fun x => some (.p x, H.set r (.list (l.eraseIdx i.toNat))) else none
  | _ => none
noncomputable def smV (tabs : Nat → List P) (b : SM) (a : V) (vs : List V) (H : List O) : Option (V × List O) := match a with
  | .p x => x.str?.bind fun l => smT tabs b l vs H
  | .ref r => (getL H r).bind fun l => (one vs).bind fun v => smR b r l v H
  | _ => none

noncomputable def V.ob (v : V) : Option Nat := match v with
  | .obj r => some r
  | _ => none
noncomputable def V.bmr (v : V) : Option Nat := match v with
  | .bm r => some r
  | _ => none
noncomputable def P.nn (p : P) : Option Unit := match p with
  | .none => some ()
  | _ => Option.none
noncomputable def V.nn (v : V) : Option Unit := v.pl.bind P.nn
noncomputable def V.tup (v : V) : Option (List P) := v.pl.bind P.tup?
theorem ob_mk (r : Nat) : (V.obj r).ob = some r := rfl
theorem bmr_mk (r : Nat) : (V.bm r).bmr = some r := rfl
theorem nn_mk : (V.p .none).nn = some () := rfl
theorem tup_mk (l : List P) : (V.p (.tup l)).tup = some l := rfl
noncomputable def fldV (a : V) (n : Str) (H : List O) : Option V := a.ob.bind fun r => (getF H r).bind fun fs => (fs.lookup n).map .p
noncomputable def put (fs : List (Str × P)) (n : Str) (x : P) : List (Str × P) := match fs with
  | [] => [(n, x)]
  | (k, y) :: r => if k == n then (k, x) :: r else (k, y) :: put r n x

noncomputable def setC (H : List O) (r : Nat) (x : P) (o : O) : Option (List O) := match o with
  | .cell _ => some (H.set r (.cell (some x)))
  | _ => none
noncomputable def tgt (t : Tg) (v : V) (loc : List (Option V)) (H : List O) : Option (List (Option V) × List O) := match t with
  | .one i => if i < loc.length then some (loc.set i (some v), H) else none
  | .cel i => (loc[i]?).join.bind fun u => u.rf.bind fun r => v.pl.bind fun x => (H[r]?).bind fun o => (setC H r x o).bind fun K => some (loc, K)
  | .tup l => v.tup.bind fun ps => if l.length == ps.length && l.all (· < loc.length) then some ((l.zip ps).foldl (fun loc x => loc.set x.1 (some (.p x.2))) loc, H) else none

/-- what a loop goes over: the items, and the list that must stay -/
noncomputable def itemsOf (v : V) (H : List O) : Option (List P × Option Nat) := match v with
  | .ref r => (getL H r).map fun x => (x, some r)
  | .rng a b => if oki a && oki b then some (rngL a b, none) else none
  | .p (.str l) => some (l.map fun c => .str [c], none)
  | .p (.tup ps) => some (ps, none)
  | _ => none
noncomputable def stays (w : Option Nat) (ps : List P) (H : List O) : Bool := match w with
  | none => true
  | some r => match getL H r with
    | some qs => beqs ps qs
    | none => false

noncomputable def forL (all : List P) (w : Option Nat) (t : Tg) (body : List (Option V) → List O → Option (Fl × List (Option V) × List O)) : List P → List (Option V) → List O → Option (Fl × List (Option V) × List O)
  | [], loc, H => if stays w all H then some (.next, loc, H) else none
  | x :: r, loc, H => if stays w all H then (tgt t (.p x) loc H).bind fun q => (body q.1 q.2).bind fun z => match z.1 with
      | .next | .cont => forL all w t body r z.2.1 z.2.2
      | .brk => some (.next, z.2)
      | .ret v => some (.ret v, z.2)
    else none
noncomputable def whlL (test : List (Option V) → List O → Option (Bool × List O)) (body : List (Option V) → List O → Option (Fl × List (Option V) × List O)) : Nat → List (Option V) → List O → Option (Fl × List (Option V) × List O)
  | 0, _, _ => none
  | n + 1, loc, H => (test loc H).bind fun b => if b.1 then (body loc b.2).bind fun z => match z.1 with
      | .next | .cont => whlL test body n z.2.1 z.2.2
      | .brk => some (.next, z.2)
      | .ret v => some (.ret v, z.2)
    else some (.next, loc, b.2)
/-- a comprehension's turns; acc is the list at place a -/
noncomputable def cmpL (all : List P) (w : Option Nat) (t : Tg) (turn : List (Option V) → List O → Option (List O)) (loc : List (Option V)) : List P → List O → Option (List O)
  | [], H => if stays w all H then some H else none
  | x :: r, H => if stays w all H then (tgt t (.p x) loc H).bind fun q => (turn q.1 q.2).bind fun z => cmpL all w t turn q.1 r z else none
noncomputable def addTo (a : Nat) (v : V) (H : List O) : Option (List O) := v.pl.bind fun x => (getL H a).bind fun l => if ok l.length then some (H.set a (.list (l ++ [x]))) else none
noncomputable def tgFree (t : Tg) (loc : List (Option V)) : Bool := match t with
  | .one i => match loc[i]? with
    | some (some _) => false
    | _ => true
  | .cel _ => false
  | .tup l => l.all fun i => match loc[i]? with
    | some (some _) => false
    | _ => true
noncomputable def frOk (fr : List (Option Nat)) (loc : List (Option V)) : Bool := fr.all fun x => match x with
  | none => true
  | some j => match loc[j]? with
    | some (some (.ref _)) => true
    | _ => false
noncomputable def frOf (fr : List (Option Nat)) (loc : List (Option V)) : List (Option V) := fr.map fun x => x.bind fun j => (loc[j]?).join

noncomputable def rcOk : V → List O → Bool
  | .ref r, H => (getL H r).isSome
  | _, _ => true
structure G where
  tabs : Nat → List P
  init : Nat
  call : Nat → List V → List O → Option (V × List O)

mutual
noncomputable def ev (g : G) (loc : List (Option V)) : E → List O → Option (V × List O)
  | .loc i, H => (loc[i]?).join.bind fun v => some (v, H)
  | .cel i, H => (loc[i]?).join.bind fun v => v.rf.bind fun r => (getC H r).bind fun x => some (.p x, H)
  | .lit x, H => some (.p x, H)
  | .tab t, H => some (.glob t, H)
  | .bin o a b, H => (ev g loc a H).bind fun x => (ev g loc b x.2).bind fun y => binV o x.1 y.1 y.2
  | .cmp o a b, H => (ev g loc a H).bind fun x => (ev g loc b x.2).bind fun y => (cmpV o x.1 y.1 y.2).bind fun c => some (.p (.bool c), y.2)
  | .not _, _ => none
  | .and _, _ => none
  | .or _, _ => none
  | .neg a, H => (ev g loc a H).bind fun x => x.1.int.bind fun i => some (.p (.int (-i)), x.2)
  | .ife c a b, H => (evT g loc c (ev g loc c H) H).bind fun t => if t.1 then ev g loc a t.2 else ev g loc b t.2
  | .tup es, H => (evs g loc es H).bind fun x => (allP x.1).bind fun ps => if ok ps.length then some (.p (.tup ps), x.2) else none
  | .lst es, H => (evs g loc es H).bind fun x => (allP x.1).bind fun ps => if ok ps.length then some (.ref x.2.length, x.2 ++ [.list ps]) else none
  | .idx a i, H => (ev g loc a H).bind fun x => (ev g loc i x.2).bind fun y => (idxV g.tabs x.1 y.1 y.2).bind fun v => some (v, y.2)
  | .sl a lo hi, H => (ev g loc a H).bind fun x => (evo g loc lo x.2).bind fun y => (evo g loc hi y.2).bind fun z => slV x.1 y.1 z.1 z.2
  | .fld a n, H => (ev g loc a H).bind fun x => (fldV x.1 n x.2).bind fun v => some (v, x.2)
  | .cal f es, H => (evs g loc es H).bind fun x => g.call f x.1 x.2
  | .new es, H => (evs g loc es H).bind fun x => (g.call g.init (.obj x.2.length :: x.1) (x.2 ++ [.inst []])).bind fun y => y.1.nn.bind fun _ => some (.obj x.2.length, y.2)
  | .mth f n a es, H => (ev g loc a H).bind fun x => x.1.ob.bind fun r => (getF x.2 r).bind fun fs => if (fs.lookup n).isNone then (evs g loc es x.2).bind fun y => g.call f (.obj r :: y.1) y.2 else none
  | .bi b es, H => (evs g loc es H).bind fun x => biV b x.1 x.2
  | .sm b a es, H => (ev g loc a H).bind fun x => if rcOk x.1 x.2 then (evs g loc es x.2).bind fun y => smV g.tabs b x.1 y.1 y.2 else none
  | .bnd a, H => (ev g loc a H).bind fun x => x.1.rf.bind fun r => (getL x.2 r).bind fun _ => some (.bm r, x.2)
  | .app a e, H => (ev g loc a H).bind fun x => (ev g loc e x.2).bind fun y => x.1.bmr.bind fun r => (addTo r y.1 y.2).bind fun K => some (.p .none, K)
  | .comp fr elt t it cs, H => if frOk fr loc then (ev g loc it H).bind fun x => (itemsOf x.1 x.2).bind fun q =>
      (cmpL q.1 q.2 t (fun l K => (evC g l cs K).bind fun b => if b.1 then (ev g l elt b.2).bind fun v => addTo x.2.length v.1 v.2 else some b.2) (frOf fr loc) q.1 (x.2 ++ [.list []])).bind fun K =>
        some (.ref x.2.length, K.take (x.2.length + 1)) else none
  | .comp2 fr elt t it t2 it2 cs, H => if frOk fr loc then (ev g loc it H).bind fun x => (itemsOf x.1 x.2).bind fun q =>
      (cmpL q.1 q.2 t (fun l K => if tgFree t2 l then (ev g l it2 K).bind fun x2 => (itemsOf x2.1 x2.2).bind fun q2 =>
        cmpL q2.1 q2.2 t2 (fun l K => (evC g l cs K).bind fun b => if b.1 then (ev g l elt b.2).bind fun v => addTo x.2.length v.1 v.2 else some b.2) l q2.1 x2.2 else none) (frOf fr loc) q.1 (x.2 ++ [.list []])).bind fun K =>
        some (.ref x.2.length, K.take (x.2.length + 1)) else none
termination_by structural e => e
noncomputable def evs (g : G) (loc : List (Option V)) : List E → List O → Option (List V × List O)
  | [], H => some ([], H)
  | e :: r, H => (ev g loc e H).bind fun x => (evs g loc r x.2).bind fun y => some (x.1 :: y.1, y.2)
termination_by structural e => e
noncomputable def evo (g : G) (loc : List (Option V)) : Option E → List O → Option (Option V × List O)
  | none, H => some (none, H)
  | some e, H => (ev g loc e H).bind fun x => some (some x.1, x.2)
termination_by structural e => e
noncomputable def evT (g : G) (loc : List (Option V)) : E → Option (V × List O) → List O → Option (Bool × List O)
  | .not a, _, H => (evT g loc a (ev g loc a H) H).bind fun b => some (!b.1, b.2)
  | .and es, _, H => evC g loc es H
  | .or es, _, H => evD g loc es H
  | .ife _ _ _, _, _ => none
  | _, w, _ => w.bind fun x => (truV x.1).bind fun b => some (b, x.2)
termination_by structural e => e
noncomputable def evC (g : G) (loc : List (Option V)) : List E → List O → Option (Bool × List O)
  | [], H => some (true, H)
  | e :: r, H => (evT g loc e (ev g loc e H) H).bind fun b => if b.1 then evC g loc r b.2 else some (false, b.2)
termination_by structural e => e
noncomputable def evD (g : G) (loc : List (Option V)) : List E → List O → Option (Bool × List O)
  | [], H => some (false, H)
  | e :: r, H => (evT g loc e (ev g loc e H) H).bind fun b => if b.1 then some (true, b.2) else evD g loc r b.2
termination_by structural e => e
end

noncomputable def isAdd (o : BOp) : Option Unit := match o with
  | .add => some ()
  | _ => none
theorem isAdd_mk : isAdd .add = some () := rfl
noncomputable def fuel : Nat := 100000
/-- how far the locals reach into the heap -/
noncomputable def vb : V → Nat
  | .ref r => r + 1
  | .obj r => r + 1
  | .bm r => r + 1
  | _ => 0
noncomputable def lb : List (Option V) → Nat
  | [] => 0
  | none :: r => lb r
  | some v :: r => max (vb v) (lb r)
noncomputable def gc (n : Nat) (loc : List (Option V)) (H : List O) : List O := H.take (max n (lb loc))
mutual
noncomputable def ex (g : G) : T → List (Option V) → List O → Option (Fl × List (Option V) × List O)
  | .asg t e, loc, H => (ev g loc e H).bind fun x => (tgt t x.1 loc x.2).bind fun q => some (.next, q)
  | .asgS l e, loc, H => (ev g loc e H).bind fun x => (tgt (.tup l) x.1 loc x.2).bind fun q => some (.next, q)
  | .asgM l e, loc, H => (ev g loc e H).bind fun x => if l.all (· < loc.length) then some (.next, l.foldl (fun loc i => loc.set i (some x.1)) loc, x.2) else none
  | .asgI a i e, loc, H => (ev g loc e H).bind fun x => (ev g loc a x.2).bind fun y => (ev g loc i y.2).bind fun z => x.1.pl.bind fun x => y.1.rf.bind fun r => z.1.int.bind fun i => (getL z.2 r).bind fun l => if oki i && decide (0 ≤ i ∧ i < l.length) then some (.next, loc, z.2.set r (.list (l.set i.toNat x))) else none
  | .asgF a n e, loc, H => (ev g loc e H).bind fun x => (ev g loc a x.2).bind fun y => x.1.pl.bind fun x => y.1.ob.bind fun r => (getF y.2 r).bind fun fs => if decide (fs.length ≤ 100) then some (.next, loc, y.2.set r (.inst (put fs n x))) else none
  | .asgC i e, loc, H => (ev g loc e H).bind fun x => (tgt (.one i) x.1 loc x.2).bind fun q => some (.next, q)
  | .aug i o e, loc, H => (loc[i]?).join.bind fun v => (ev g loc e H).bind fun x => (isAdd o).bind fun _ => v.pl.bind fun a => x.1.pl.bind fun b => (addP a b).bind fun c => (tgt (.one i) (.p c) loc x.2).bind fun q => some (.next, q)
  | .ex e, loc, H => (ev g loc e H).bind fun x => x.1.nn.bind fun _ => some (.next, loc, x.2)
  | .ifs c a b, loc, H => (evT g loc c (ev g loc c H) H).bind fun t => if t.1 then exs g a loc t.2 else exs g b loc t.2
  | .whl c b, loc, H => whlL (fun loc H => evT g loc c (ev g loc c H) H) (fun loc H => exs g b loc H) fuel loc H
  | .fore t it b, loc, H => (ev g loc it H).bind fun x => (itemsOf x.1 x.2).bind fun q => forL q.1 q.2 t (fun loc H => exs g b loc H) q.1 loc x.2
  | .ret e, loc, H => (ev g loc e H).bind fun x => some (.ret x.1, loc, x.2)
  | .brk, loc, H => some (.brk, loc, H)
  | .cont, loc, H => some (.cont, loc, H)
  | .bad, _, _ => none
termination_by structural t => t
noncomputable def exs (g : G) : List T → List (Option V) → List O → Option (Fl × List (Option V) × List O)
  | [], loc, H => some (.next, loc, H)
  | t :: r, loc, H => (ex g t loc H).bind fun z => match z.1 with
    | .next => exs g r z.2.1 (gc H.length z.2.1 z.2.2)
    | _ => some z
termination_by structural t => t
end
end Mine
end
section
open PySem PySem.W PyProof.Rows
set_option Elab.async false
set_option genSizeOf false
set_option genInjectivity false
set_option maxRecDepth 20000
namespace Mine

/-- what a global name stands for -/
inductive GV where
  | defn (f : Nat) | cls (attrs : List (Str × P)) | bi (b : BI) (i : String) | ty (b : BI) (i : String) | const (x : P) | tab (g : Nat)
structure Ce where
  nm : List Str
  sc : Scope
  gl : List (Str × GV)
  meths : List (Str × Nat)
  flds : List Str

noncomputable def idxS (x : Str) : List Str → Option Nat
  | [] => none
  | y :: r => if x == y then some 0 else (idxS x r).map (· + 1)
noncomputable def Ce.kind (c : Ce) (x : Str) : Option NameKind := c.sc.names.lookup x
noncomputable def Ce.slot (c : Ce) (x : Str) : Option Nat := idxS x c.nm

noncomputable def litOf : Const → Option P
  | .none => some .none
  | .bool b => some (.bool b)
  | .int i => some (.int i)
  | .str s => some (.str s.cps.toList)
  | _ => none
noncomputable def bopOf : Operator → Option BOp
  | .Add => some .add | .Sub => some .sub | .Mult => some .mul | .FloorDiv => some .fdiv | .Mod => some .mod | .Pow => some .pow
  | _ => none
noncomputable def copOf : CmpOp → COp
  | .Eq => .eq | .NotEq => .ne | .Lt => .lt | .LtE => .le | .Gt => .gt | .GtE => .ge | .Is => .is | .IsNot => .isn | .In => .inn | .NotIn => .nin
noncomputable def smOf : List (Str × SM) := [("translate", .translate), ("splitlines", .splitlines), ("rstrip", .rstrip), ("endswith", .endswith), ("replace", .replace), ("split", .split), ("join", .join), ("append", .append), ("extend", .extend), ("pop", .pop)]

noncomputable def isSetE (e : PySem.Expr) : Bool := e.ctorIdx == 7
noncomputable def isSliceE (e : PySem.Expr) : Bool := e.ctorIdx == 26
noncomputable def isStarE (e : PySem.Expr) : Bool := e.ctorIdx == 22
noncomputable def isCallE (e : PySem.Expr) : Bool := e.ctorIdx == 16
noncomputable def isCompE (e : PySem.Expr) : Bool := e.ctorIdx == 8 || e.ctorIdx == 9 || e.ctorIdx == 10
noncomputable def isTupE (e : PySem.Expr) : Bool := e.ctorIdx == 25
noncomputable def nameE : PySem.Expr → Option Str
  | .Name x _ => some x
  | _ => none

/-- the comprehension's own scope: a free name that is the block's cell is its cell -/
noncomputable def effSc (scope outer : Scope) : Scope := { scope with names := scope.names.map fun (n, k) => if (k == .free && outer.kind == .function && outer.names.lookup n == some .cell) then (n, .cell) else (n, k) }
noncomputable def compNm (sc : Scope) : List Str := (sc.names.filter fun x => (x.2 == .local || x.2 == .cell || x.2 == .free) && x.1 != (".0" : Str)).map (·.1)
noncomputable def Ce.inner (c : Ce) (scope : Scope) : Ce := { c with nm := compNm scope, sc := effSc scope c.sc }
noncomputable def seqO {α : Type} : List (Option α) → Option (List α)
  | [] => some []
  | x :: r => x.bind fun a => (seqO r).map (a :: ·)
/-- slot by slot: fresh, or the block's own -/
noncomputable def Ce.frame (c : Ce) (scope : Scope) : Option (List (Option Nat)) := seqO ((scope.names.filter fun x => (x.2 == .local || x.2 == .cell || x.2 == .free) && x.1 != (".0" : Str)).map fun x => if x.2 == .local then some none else if x.2 == .free && c.kind x.1 == some .cell then (c.slot x.1).map some else none)
noncomputable def ndup : List Str → Bool
  | [] => true
  | x :: r => !r.contains x && ndup r
/-- what the comprehension's scope must be -/
noncomputable def scOk (c : Ce) (scope : Scope) : Bool := scope.kind == .function && c.sc.kind == .function && ndup (scope.names.map (·.1)) && scope.names.all fun x => x.2 != .cell && (x.2 != .free || c.kind x.1 == some .cell) && (x.1 != (".0" : Str) || x.2 == .local)
noncomputable def nmSlot (c : Ce) (e : PySem.Expr) : Option Nat := (nameE e).bind fun x => if c.kind x == some .local then c.slot x else none
noncomputable def tgtN (c : Ce) (x : Str) : Option Tg := (c.kind x).bind fun k => match k with
  | .local => (c.slot x).map .one
  | .cell => (c.slot x).map .cel
  | _ => none
noncomputable def tgtOf (c : Ce) (e : PySem.Expr) : Option Tg := match e with
  | .Name x _ => tgtN c x
  | .Tuple es _ _ => (seqO (es.map (nmSlot c))).map .tup
  | _ => none

/-- does the call keep to the plain form: no star, few -/
noncomputable def plainArgs (as : List PySem.Expr) : Bool := as.all (fun e => !isStarE e) && decide (as.length ≤ 4)

/-- a text that the expression makes anew -/
noncomputable def strK (k : Const) : Option Str := match k with
  | .str s => some s
  | _ => none
noncomputable def constE (e : PySem.Expr) : Option Const := match e with
  | .Constant k _ _ => some k
  | _ => none
noncomputable def litS (e : PySem.Expr) : Option Str := (constE e).bind strK
noncomputable def isAddO (o : Operator) : Bool := match o with
  | .Add => true
  | _ => false
noncomputable def locN (c : Ce) (e : PySem.Expr) : Bool := match nameE e with
  | some x => c.kind x == some .local && x != ("__debug__" : Str)
  | none => false
noncomputable def freshP (c : Ce) (a b : PySem.Expr) : Bool := match litS a with
  | some s => s.length != 0 && locN c b
  | none => false
noncomputable def freshE (c : Ce) (e : PySem.Expr) : Bool := match e with
  | .Constant k _ _ => (strK k).isSome
  | .BinOp a o b _ => isAddO o && (freshP c a b || freshP c b a)
  | _ => false
noncomputable def isRep : SM → Bool
  | .replace => true
  | _ => false
/-- the name of the type int, told by the globals -/
noncomputable def intGV (o : Option GV) : Bool := match o with
  | some (.ty b _) => (match b with | .int16 => true | _ => false)
  | _ => false
noncomputable def isIntTy (c : Ce) (y : Str) : Bool := y != ("__debug__" : Str) && c.kind y == some .globalImplicit && intGV (c.gl.lookup y)
noncomputable def intK (k : Const) : Option Int := match k with
  | .int i => some i
  | _ => none
noncomputable def litI (e : PySem.Expr) : Option Int := (constE e).bind intK
/-- an expression whose truth is its value's -/
noncomputable def plainX (x : E) : Bool := match x with
  | .not _ => false
  | .and _ => false
  | .or _ => false
  | .ife _ _ _ => false
  | _ => true
noncomputable def pln (o : Option E) : Option E := o.bind fun x => if plainX x then some x else none
/-- what stands in a name's place -/
noncomputable def glX (v : GV) : Option E := match v with
  | .const p => some (.lit p)
  | .tab g => some (.tab g)
  | _ => none
noncomputable def trName (c : Ce) (x : Str) : Option E := if x != ("__debug__" : Str) then (c.kind x).bind fun k => match k with
  | .local => (c.slot x).map .loc
  | .cell => (c.slot x).map .cel
  | .globalImplicit => (c.gl.lookup x).bind glX
  | _ => none else none
noncomputable def trUn (o : UnaryOp) (x : Option E) : Option E := match o with
  | .Not => x.map .not
  | .USub => x.map .neg
  | _ => none
noncomputable def trBo (o : BoolOp) (l : Option (List E)) : Option E := match o with
  | .And => l.map .and
  | .Or => l.map .or
section
variable (c : Ce) (t ti : PySem.Expr → Option E)
noncomputable def trO (o : Option PySem.Expr) : Option (Option E) := match o with
  | none => some none
  | some e => (t e).map some
noncomputable def slcE (e : PySem.Expr) : Option (Option PySem.Expr × Option PySem.Expr × Option PySem.Expr) := match e with
  | .Slice lo hi st _ => some (lo, hi, st)
  | _ => none
noncomputable def trSub (v i : PySem.Expr) : Option E := match slcE i with
  | some q => if q.2.2.isNone then (t v).bind fun a => (trO t q.1).bind fun lo => (trO t q.2.1).map fun hi => .sl a lo hi else none
  | none => (t v).bind fun a => (t i).map fun i => .idx a i
noncomputable def clsGV (o : Option GV) : Option (List (Str × P)) := match o with
  | some (.cls at_) => some at_
  | _ => none
noncomputable def trAttr (v : PySem.Expr) (a : Str) : Option E := (nameE v).bind fun x => if x != ("__debug__" : Str) then (c.kind x).bind fun k => match k with
  | .globalImplicit => (clsGV (c.gl.lookup x)).bind fun at_ => (at_.lookup a).map .lit
  | .local => if a == ("append" : Str) then (t v).map .bnd else if c.flds.contains a then (t v).map (.fld · a) else none
  | _ => none else none
noncomputable def trArgs (as : List PySem.Expr) : Option (List E) := seqO (as.map t)
noncomputable def trBi (b : BI) (as : List PySem.Expr) : Option E := match b with
  | .isint => (two as).bind fun q => (nameE q.2).bind fun y => if isIntTy c y then (t q.1).map fun a => .bi .isint [a] else none
  | .int16 => none
  | b => (trArgs t as).map (.bi b)
noncomputable def trTy (b : BI) (as : List PySem.Expr) : Option E := match b with
  | .int16 => (two as).bind fun q => (litI q.2).bind fun k => if k == 16 then (t q.1).map fun a => .bi .int16 [a] else none
  | .isint => none
  | b => (trArgs t as).map (.bi b)
noncomputable def trGl (v : GV) (as : List PySem.Expr) : Option E := match v with
  | .defn i => (trArgs t as).map (.cal i)
  | .cls _ => (trArgs t as).map .new
  | .bi b _ => trBi c t b as
  | .ty b _ => trTy t b as
  | _ => none
noncomputable def trCallN (f : PySem.Expr) (x : Str) (as : List PySem.Expr) : Option E := if x != ("__debug__" : Str) then (c.kind x).bind fun k => match k with
  | .local => (one as).bind fun e => (t f).bind fun a => (t e).map fun b => .app a b
  | .globalImplicit => (c.gl.lookup x).bind fun v => trGl c t v as
  | _ => none else none
noncomputable def trCallM (o : PySem.Expr) (a : Str) (as : List PySem.Expr) : Option E := match smOf.lookup a with
  | some b => if !isRep b || (as.length == 2 && as.all (freshE c)) then (t o).bind fun o => (trArgs t as).map (.sm b o) else none
  | none => (c.meths.lookup a).bind fun f => (t o).bind fun o => (trArgs t as).map (.mth f a o)
noncomputable def trCall (f : PySem.Expr) (as : List PySem.Expr) (pos : Pos) : Option E := match f with
  | .Name x _ => trCallN c t f x as
  | .Attribute o a apos => if !isCallE o && apos.endLine == pos.line then trCallM c t o a as else none
  | _ => none
structure CG where
  tg : PySem.Expr
  it : PySem.Expr
  ifs : List PySem.Expr
noncomputable def genOf (g : Comprehension) : Option CG := match g with
  | ⟨t, it, ifs, a⟩ => if a == 0 && !isSetE it then some ⟨t, it, ifs⟩ else none
noncomputable def trComp1 (elt : PySem.Expr) (sc : Scope) (fr : List (Option Nat)) (q : CG) : Option E :=
  (tgtOf (c.inner sc) q.tg).bind fun tg => (t q.it).bind fun it => (trArgs ti q.ifs).bind fun cs => (ti elt).map fun elt => .comp fr elt tg it cs
noncomputable def trComp2 (elt : PySem.Expr) (sc : Scope) (fr : List (Option Nat)) (q r : CG) : Option E :=
  (nul q.ifs).bind fun _ => (tgtOf (c.inner sc) q.tg).bind fun tg => (t q.it).bind fun it => (tgtOf (c.inner sc) r.tg).bind fun tg2 => (ti r.it).bind fun it2 => (trArgs ti r.ifs).bind fun cs => (ti elt).map fun elt => .comp2 fr elt tg it tg2 it2 cs
noncomputable def trComp (elt : PySem.Expr) (gs : List Comprehension) (sc : Scope) : Option E := if scOk c sc then (c.frame sc).bind fun fr => match gs with
  | [] => none
  | a :: r => (genOf a).bind fun q => match r with
    | [] => trComp1 c t ti elt sc fr q
    | _ :: _ => (one r).bind fun b => (genOf b).bind fun w => trComp2 c t ti elt sc fr q w else none
end
noncomputable def plainS (es : List PySem.Expr) : Bool := es.all (fun e => !isStarE e)
noncomputable def tr (c : Ce) : Nat → PySem.Expr → Option E
  | 0, _ => none
  | n + 1, e => match e with
    | .Constant k _ _ => (litOf k).map .lit
    | .Name x _ => pln (trName c x)
    | .BinOp l o r _ => (bopOf o).bind fun o => (tr c n l).bind fun a => (tr c n r).map fun b => .bin o a b
    | .UnaryOp o x _ => trUn o (tr c n x)
    | .Compare l os rs _ => (one os).bind fun o => (one rs).bind fun r => if !isSetE r then (tr c n l).bind fun a => (tr c n r).map fun b => .cmp (copOf o) a b else none
    | .BoolOp o es _ => trBo o (trArgs (tr c n) es)
    | .IfExp t a b _ => (tr c n t).bind fun t => (tr c n a).bind fun a => (tr c n b).map fun b => .ife t a b
    | .Tuple es _ _ => if plainS es then (trArgs (tr c n) es).map .tup else none
    | .List es _ => if plainS es then (trArgs (tr c n) es).map .lst else none
    | .Subscript v i _ => trSub (tr c n) v i
    | .Attribute v a _ => pln (trAttr c (tr c n) v a)
    | .Call f as ks pos => (nul ks).bind fun _ => if plainArgs as then pln (trCall c (tr c n) f as pos) else none
    | .ListComp elt gs sc _ => pln (trComp c (tr c n) (tr (c.inner sc) n) elt gs sc)
    | _ => none

/-- is a comprehension that is bound to a name made in the name's place -/
noncomputable def used (c : Ce) (x : Str) (pos : Pos) : PySem.Expr → Bool
  | .ListComp _ _ s p => c.sc.kind == .function && c.kind x == some .local && pos.line == p.line && !(s.names.any fun (n, k) => n == x && (k == .local || k == .cell))
  | _ => false
noncomputable def nameLine : PySem.Expr → Option (Str × Nat)
  | .Name x p => some (x, p.line)
  | _ => none

/-- two names of one line, both of the frame -/
noncomputable def twoNames (c : Ce) (ts : List PySem.Expr) : Bool := match (two ts).bind fun q => (nameLine q.1).bind fun x => (nameLine q.2).map fun y => (x, y) with
  | some (x, y) => x.1 != y.1 && x.2 == y.2 && c.kind x.1 == some .local && c.kind y.1 == some .local
  | none => false
noncomputable def tupE (e : PySem.Expr) : Option (List PySem.Expr) := match e with
  | .Tuple vs _ _ => some vs
  | _ => none
noncomputable def tgL (t : Tg) : Option (List Nat) := match t with
  | .tup l => some l
  | _ => none
section
variable (c : Ce) (t : PySem.Expr → Option E)
noncomputable def asgN (x : Str) (px : Pos) (v : PySem.Expr) : Option T :=
  if used c x px v then (if c.kind x == some .local then (c.slot x).bind fun i => (t v).map fun e => .asgC i e else none)
  else (tgtOf c (.Name x px)).bind fun g => (t v).map fun e => .asg g e
noncomputable def asgT (tg : PySem.Expr) (ts : List PySem.Expr) (v : PySem.Expr) : Option T := match tupE v with
  | some vs => if twoNames c ts && plainS vs && !(vs.all (foldedForSure 8)) && !(vs.all (constantsAlone 8)) then (two vs).bind fun _ => (tgtOf c tg).bind fun g => (tgL g).bind fun l => (t v).map fun e => .asgS l e else none
  | none => if !isCompE v then (tgtOf c tg).bind fun g => (t v).map fun e => .asg g e else none
noncomputable def asg1 (tg v : PySem.Expr) : Option T := match tg with
  | .Name x px => asgN c t x px v
  | .Tuple ts _ _ => asgT c t tg ts v
  | .Subscript o i _ => if !isSliceE i && !isCompE v then (t v).bind fun e => (t o).bind fun o => (t i).map fun i => .asgI o i e else none
  | .Attribute o a _ => if !isCompE v && c.flds.contains a then (t v).bind fun e => (t o).map fun o => .asgF o a e else none
  | _ => none
noncomputable def asgA (ts : List PySem.Expr) (v : PySem.Expr) : Option T := match ts with
  | [] => none
  | a :: r => match r with
    | [] => asg1 c t a v
    | _ :: _ => if !isCompE v then (seqO (ts.map (nmSlot c))).bind fun l => (t v).map fun e => .asgM l e else none
noncomputable def augX (tg : PySem.Expr) (o : Operator) (v : PySem.Expr) : Option T := (nameE tg).bind fun x => if c.kind x == some .local then (bopOf o).bind fun o => (c.slot x).bind fun i => (t v).map fun e => .aug i o e else none
end
noncomputable def trS (c : Ce) : Nat → Stmt → Option T
  | 0, _ => none
  | n + 1, s => match s with
    | .Assign ts v _ => asgA c (tr c n) ts v
    | .AugAssign tg o v _ => augX c (tr c n) tg o v
    | .Expr v _ => if !isCompE v then (tr c n v).map .ex else none
    | .If t a b _ => (tr c n t).bind fun t => (seqO (a.map (trS c n))).bind fun a => (seqO (b.map (trS c n))).map fun b => .ifs t a b
    | .While t b e _ => (nul e).bind fun _ => (tr c n t).bind fun t => (seqO (b.map (trS c n))).map fun b => .whl t b
    | .For t it b e _ => (nul e).bind fun _ => if !isSetE it then (tgtOf c t).bind fun t => (tr c n it).bind fun it => (seqO (b.map (trS c n))).map fun b => .fore t it b else none
    | .Return o _ => o.bind fun e => (tr c n e).map .ret
    | .Break _ => some .brk
    | .Continue _ => some .cont
    | .Raise _ _ _ => some .bad
    | _ => none
noncomputable def trB (c : Ce) (n : Nat) (b : List Stmt) : Option (List T) := seqO (b.map (trS c n))
end Mine
end
section
open PySem PySem.W PyProof.Rows PyProof.V PySem.Calls Builtin Builtin.Str
set_option Elab.async false
set_option maxRecDepth 100000
namespace Mine
noncomputable abbrev fHex : PySem.Str := ⟨#[61, 37, 48, 50, 88]⟩
noncomputable def pctF : Percent := { zero := true, width := some 2, type := 88 }
theorem pct_digits_nat : ∀ n : Nat, n < 256 → (percentField pctF true (percentInt pctF (decide ((n : Int) < 0)) ((Nat.toDigits 16 (n : Int).natAbs).map Char.toNat))).getD (percentInt pctF (decide ((n : Int) < 0)) ((Nat.toDigits 16 (n : Int).natAbs).map Char.toNat)) = [hexD ((n : Nat) / 16), hexD ((n : Nat) % 16)] := by decide +kernel
theorem pct_digits (i : Int) (h0 : 0 ≤ i) (h1 : i < 256) : (percentField pctF true (percentInt pctF (decide (i < 0)) ((Nat.toDigits 16 i.natAbs).map Char.toNat))).getD (percentInt pctF (decide (i < 0)) ((Nat.toDigits 16 i.natAbs).map Char.toNat)) = [hexD (i.toNat / 16), hexD (i.toNat % 16)] := by
  obtain ⟨n, rfl⟩ := Int.eq_ofNat_of_zero_le h0
  exact pct_digits_nat n (by lia)
theorem meets_hex (i : Int) (h0 : 0 ≤ i) (h1 : i < 256) (t u : Tok) : Meets («str.__mod__» ⟨[.str fHex t, .int i u], []⟩) (fun _ R s => ∀ t' k, R (.ok (.ret (.str (S [61, hexD (i.toNat / 16), hexD (i.toNat % 16)]) t'))) { s with toks := k }) := by
  apply KPc.meets_of
  intro _ _ _ _ _ _ hQ
  rw [KPc.entry_is]
  unfold Builtin.Str.percentFormat
  refine wpAny_bind (wpAny_isInstance (typeIs_int _ _ _) F.sub_int_tuple ?_)
  refine wpAny_bind (wpAny_of_eq (a := none) rfl ?_)
  refine wpAny_bind (wpAny_of_eq (KPc.fills _ _) ?_)
  kpc_if
  refine wpAny_bind (wpAny_pure ?_)
  refine wpAny_bind ?_
  rw [KPc.range_list]
  refine KPc.start ?_
  intro w0 g0
  refine KPc.turn ?_
  kpc_check
  repeat kpc_if
  refine wpAny_pure ?_
  kpc_piece
  refine KPc.turn ?_
  kpc_check
  repeat kpc_if
  refine wpAny_bind ?_
  refine wpAny_holding ?_
  kpc_if
  kpc_if
  refine wpAny_bind (wpAny_of_eq (a := i) rfl ?_)
  repeat kpc_if
  refine wpAny_bind (wpAny_pure ?_)
  refine wpAny_pure ?_
  have hd := pct_digits i h0 h1
  generalize hT : percentInt pctF (decide (i < 0)) ((Nat.toDigits 16 i.natAbs).map Char.toNat) = T at hd
  have key : ∀ (T : List Nat), (percentField pctF true T).getD T = [hexD (i.toNat / 16), hexD (i.toNat % 16)] → percentInt pctF (decide (i < 0)) ((Nat.toDigits 16 i.natAbs).map Char.toNat) = T → ∀ (w1 : Writer), KPc.Good w1 (PySem.Str.ofString "=") (0 + (PySem.Str.ofString "=").length) →
      ∃ w2, KPc.Good w2 (PySem.Str.ofString "=" ++ S [hexD (i.toNat / 16), hexD (i.toNat % 16)]) (0 + (PySem.Str.ofString "=").length + 2) ∧ (match percentField pctF true (percentInt pctF (decide (i < 0)) ((Nat.toDigits 16 i.natAbs).map Char.toNat)) with
        | none => (pure (ForInStep.yield (([] : List Value), w1.add ⟨(percentInt pctF (decide (i < 0)) ((Nat.toDigits 16 i.natAbs).map Char.toNat)).toArray⟩ (if ([] : List Nat).isEmpty then none else none), ([] : List Nat))) : Sem (ForInStep (List Value × Writer × List Nat)))
        | some laid => pure (ForInStep.yield (([] : List Value), w1.add ⟨laid.toArray⟩, ([] : List Nat)))) = pure (ForInStep.yield (([] : List Value), w2, ([] : List Nat))) := by
    intro T hd hT w1 g1
    rw [hT]
    have fin : ∀ (x : List Nat) (o : Option Value), o = none → x = [hexD (i.toNat / 16), hexD (i.toNat % 16)] → KPc.Good (w1.add ⟨x.toArray⟩ o) (PySem.Str.ofString "=" ++ S [hexD (i.toNat / 16), hexD (i.toNat % 16)]) (0 + (PySem.Str.ofString "=").length + 2) := by
      intro x o ho hx
      subst hx
      exact KPc.good_add g1 (KPc.obj_none ho)
    cases hp : percentField pctF true T with
    | none =>
      rw [hp] at hd
      exact ⟨_, fin _ _ (by simp) hd, rfl⟩
    | some laid =>
      rw [hp] at hd
      exact ⟨_, fin _ _ rfl hd, rfl⟩
  obtain ⟨w2, g2, e2⟩ := key T hd hT _ ‹KPc.Good _ (PySem.Str.ofString "=") _›
  refine wpAny_of_eq e2 ?_
  refine KPc.turn ?_
  kpc_check
  kpc_if
  refine wpAny_pure ?_
  kpc_if
  refine KPc.finish_ok g2 (by decide +kernel) rfl ?_
  intro t' k
  exact hQ t' k
end Mine
end
section
open PySem PySem.W PyProof.Rows PyProof.V
set_option Elab.async false
set_option genSizeOf false
set_option maxRecDepth 20000
namespace Mine

theorem S_add (a b : List Nat) : S a ++ S b = S (a ++ b) := by
  show Str.append (S a) (S b) = _
  unfold Str.append S
  simp
theorem foldl_app {α : Type} (l : List (Array α)) (z : Array α) : (l.foldl (fun x y => x ++ y) z).toList = z.toList ++ (l.map Array.toList).flatten := by
  induction l generalizing z with
  | nil => simp
  | cons a r ih => simp [ih]
theorem rep_zero (l : List α) : rep 0 l = [] := rfl
theorem rep_succ (n : Nat) (l : List α) : rep (n + 1) l = l ++ rep n l := by unfold rep; simp [List.replicate_succ]
theorem rep_nil (n : Nat) : rep n ([] : List α) = [] := by
  induction n with
  | zero => rfl
  | succ n ih => rw [rep_succ, ih]; rfl
theorem rep_len (n : Nat) (l : List α) : (rep n l).length = l.length * n := by
  induction n with
  | zero => simp [rep_zero]
  | succ n ih => rw [rep_succ, List.length_append, ih, Nat.mul_succ]; lia
theorem S_mul (a : List Nat) (n : Int) : Txt.mul (S a) n = S (rep n.toNat a) := by
  unfold Txt.mul
  split
  · have : n.toNat = 0 := by lia
    rw [this]; rfl
  · split
    · rename_i h1 h2
      simp only [Bool.or_eq_true, beq_iff_eq, S_len] at h2
      rcases h2 with h2 | h2
      · subst h2; show S a = S (rep 1 a); rw [rep_succ]; simp [rep_zero]
      · have : a = [] := List.length_eq_zero_iff.mp h2
        subst this; rw [rep_nil]
    · have e := foldl_app (List.replicate n.toNat (S a).cps) #[]
      have : (List.foldl (fun x1 x2 => x1 ++ x2) #[] (List.replicate n.toNat (S a).cps)) = (rep n.toNat a).toArray := by
        apply Array.ext'
        rw [e]; simp [rep]
      rw [this]; rfl

theorem natAbs_log2 {b : Int} (h : b.natAbs < 2 ^ 40) : b.natAbs.log2 < 40 ∨ b.natAbs = 0 := by
  by_cases e : b.natAbs = 0
  · exact .inr e
  · exact .inl ((Nat.log2_lt e).mpr h)
theorem noPylong {a b : Int} (h : b.natAbs < 2 ^ 40) : Builtin.divisionGoesByPylong a b = false := by
  unfold Builtin.divisionGoesByPylong
  dsimp only
  have : (if (b == 0) = true then 0 else b.natAbs.log2 / 30 + 1) ≤ 2 := by
    split
    · exact Nat.zero_le _
    · rcases natAbs_log2 h with h | h
      · lia
      · rw [h]; decide
  rw [Bool.and_eq_false_iff]
  left
  exact decide_eq_false (by omega)
theorem intBits_small {a : Int} (h : -1000000000 ≤ a ∧ a ≤ 1000000000) : Builtin.Int.intBits a ≤ 64 := by
  unfold Builtin.Int.intBits
  split
  · exact Nat.zero_le _
  · rename_i h0
    have h0 : ¬ a.natAbs = 0 := by simp at h0; lia
    have : a.natAbs.log2 < 40 := (Nat.log2_lt h0).mpr (by omega)
    exact Nat.lt_of_lt_of_le ‹_› (by decide)

theorem dats_len (ps : List P) : (dats ps).length = ps.length := by rw [dats_eq, List.length_map]
theorem datAll_rep {imm : List (Addr × Obj)} {vs : List Value} {ds : List Dat} (h : DatAll imm vs ds) (n : Nat) : DatAll imm (rep n vs) (rep n ds) := by
  induction n with
  | zero => exact .nil
  | succ n ih => rw [rep_succ, rep_succ]; exact h.append ih
theorem dats_rep (n : Nat) (ps : List P) : dats (rep n ps) = rep n (dats ps) := by
  induction n with
  | zero => rfl
  | succ n ih => rw [rep_succ, rep_succ, ← ih, dats_eq, dats_eq, dats_eq, List.map_append]
theorem dats_append (a b : List P) : dats (a ++ b) = dats a ++ dats b := by simp [dats_eq]
theorem getL_some {H : List O} {r : Nat} {ps : List P} (h : getL H r = some ps) : H[r]? = some (.list ps) := by
  unfold getL at h
  split at h
  · rename_i x e; cases h; exact e
  · cases h
theorem getF_some {H : List O} {r : Nat} {ps} (h : getF H r = some ps) : H[r]? = some (.inst ps) := by
  unfold getF at h
  split at h
  · rename_i x e; cases h; exact e
  · cases h

/-! eliminators, each with the goal told once -/
theorem bindE {α β : Type} {o : Option α} {f : α → Option β} {y : β} {C : Prop} (h : o.bind f = some y) (k : ∀ a, o = some a → f a = some y → C) : C := by
  cases o with
  | none => first | exact no h | exact nob h | cases h
  | some a => exact k a rfl h
theorem mapE {α β : Type} {o : Option α} {f : α → β} {y : β} {C : Prop} (h : o.map f = some y) (k : ∀ a, o = some a → some (f a) = some y → C) : C := by
  cases o with
  | none => first | exact no h | exact nob h | cases h
  | some a => exact k a rfl h
theorem iteE {β : Type} {c : Bool} {a : Option β} {y : β} {C : Prop} (h : (if c = true then a else none) = some y) (k : c = true → a = some y → C) : C := by
  cases c with
  | false => first | exact no h | exact nob h | cases h
  | true => exact k rfl h
theorem iteP {β : Type} {p : Prop} [Decidable p] {a : Option β} {y : β} {C : Prop} (h : (if p then a else none) = some y) (k : p → a = some y → C) : C := by
  by_cases hp : p
  · rw [if_pos hp] at h; exact k hp h
  · rw [if_neg hp] at h; cases h
theorem iteB {β : Type} {c : Bool} {a b : Option β} {y : β} {C : Prop} (h : (if c = true then a else b) = some y) (k1 : c = true → a = some y → C) (k2 : c = false → b = some y → C) : C := by
  cases c with
  | false => exact k2 rfl h
  | true => exact k1 rfl h
theorem andE {a b : Bool} {C : Prop} (h : (a && b) = true) (k : a = true → b = true → C) : C := by
  cases a with
  | false => first | exact no h | exact nob h | cases h
  | true => exact k rfl h
theorem pl_eq {v : V} {p : P} (h : v.pl = some p) : v = .p p := by cases v <;> first | exact no h | (cases h; rfl)
theorem rf_eq {v : V} {r : Nat} (h : v.rf = some r) : v = .ref r := by cases v <;> first | exact no h | (cases h; rfl)
theorem pint_eq {p : P} {i : Int} (h : p.int? = some i) : p = .int i := by cases p <;> first | exact no h | (cases h; rfl)
theorem pstr_eq {p : P} {i : List Nat} (h : p.str? = some i) : p = .str i := by cases p <;> first | exact no h | (cases h; rfl)
theorem ptup_eq {p : P} {i : List P} (h : p.tup? = some i) : p = .tup i := by cases p <;> first | exact no h | (cases h; rfl)
theorem pbool_eq {p : P} {i : Bool} (h : p.bool? = some i) : p = .bool i := by cases p <;> first | exact no h | (cases h; rfl)
theorem int_eq {v : V} {i : Int} (h : v.int = some i) : v = .p (.int i) := bindE h fun _ e h => (pl_eq e).trans (congrArg _ (pint_eq h))
theorem str_eq {v : V} {i : List Nat} (h : v.str = some i) : v = .p (.str i) := bindE h fun _ e h => (pl_eq e).trans (congrArg _ (pstr_eq h))
theorem tup_eq {v : V} {i : List P} (h : v.tup = some i) : v = .p (.tup i) := bindE h fun _ e h => (pl_eq e).trans (congrArg _ (ptup_eq h))
theorem ob_eq {v : V} {r : Nat} (h : v.ob = some r) : v = .obj r := by cases v <;> first | exact no h | (cases h; rfl)
theorem bmr_eq {v : V} {r : Nat} (h : v.bmr = some r) : v = .bm r := by cases v <;> first | exact no h | (cases h; rfl)
theorem nn_eq {v : V} {u : Unit} (h : v.nn = some u) : v = .p .none := bindE h fun p e h => by cases p <;> first | exact no h | (cases h; exact pl_eq e)
theorem nameE_eq {e : PySem.Expr} {x : Str} (h : nameE e = some x) : ∃ p, e = .Name x p := by cases e <;> first | exact no h | (cases h; exact ⟨_, rfl⟩)
theorem nt {b : Bool} (h : (!b) = true) : b = false := by cases b <;> first | rfl | exact no h | exact nob h | cases h
theorem join_eq {α : Type} {o : Option (Option α)} {a : α} (h : o.join = some a) : o = some (some a) := by cases o with | none => cases h | some b => exact congrArg some h
theorem lst_eq {v : V} {H : List O} {ps : List P} (h : v.lst H = some ps) : ∃ r, v = .ref r ∧ getL H r = some ps := bindE h fun r e h => ⟨r, rf_eq e, h⟩
theorem nul_eq {α : Type} {l : List α} {u : Unit} (h : nul l = some u) : l = [] := by cases l with | nil => rfl | cons => first | exact no h | exact nob h | cases h
theorem one_eq {α : Type} {l : List α} {a : α} (h : one l = some a) : l = [a] := by
  cases l with
  | nil => first | exact no h | exact nob h | cases h
  | cons b r => exact mapE h fun _ e h => by cases h; rw [nul_eq e]
theorem two_eq {α : Type} {l : List α} {a : α × α} (h : two l = some a) : l = [a.1, a.2] := by
  cases l with
  | nil => first | exact no h | exact nob h | cases h
  | cons b r => exact mapE h fun _ e h => by cases h; rw [one_eq e]
section
variable {X : Wd} {imm : List (Addr × Obj)} {ad : List Addr} {x : Value} {C : Value → Prop}
theorem datInt {i : Int} (r : DatIn imm x (P.int i).dat) (k : ∀ t, C (.int i t)) : C x := by cases r; exact k _
theorem datStr {i : List Nat} (r : DatIn imm x (P.str i).dat) (k : ∀ t, C (.str (S i) t)) : C x := by cases r; exact k _
theorem datBool {i : Bool} (r : DatIn imm x (P.bool i).dat) (k : C (.bool i)) : C x := by cases r; exact k
theorem pint_E {p : P} {i : Int} (h : p.int? = some i) (r : DatIn imm x p.dat) (k : ∀ t, C (.int i t)) : C x := by cases pint_eq h; exact datInt r k
theorem pstr_E {p : P} {i : List Nat} (h : p.str? = some i) (r : DatIn imm x p.dat) (k : ∀ t, C (.str (S i) t)) : C x := by cases pstr_eq h; exact datStr r k
theorem pbool_E {p : P} {i : Bool} (h : p.bool? = some i) (r : DatIn imm x p.dat) (k : C (.bool i)) : C x := by cases pbool_eq h; exact datBool r k
theorem dat_E {v : V} {p : P} (h : v.pl = some p) (r : VRel X imm ad v x) : DatIn imm x p.dat := by rw [pl_eq h] at r; exact r
theorem int_E {v : V} {i : Int} (h : v.int = some i) (r : VRel X imm ad v x) (k : ∀ t, C (.int i t)) : C x := by rw [int_eq h] at r; exact datInt r k
theorem str_E {v : V} {i : List Nat} (h : v.str = some i) (r : VRel X imm ad v x) (k : ∀ t, C (.str (S i) t)) : C x := by rw [str_eq h] at r; exact datStr r k
end
inductive VRs (X : Wd) (imm : List (Addr × Obj)) (ad : List Addr) : List V → List Value → Prop
  | nil : VRs X imm ad [] []
  | cons {v y vs ys} : VRel X imm ad v y → VRs X imm ad vs ys → VRs X imm ad (v :: vs) (y :: ys)
section
variable {X : Wd} {imm : List (Addr × Obj)} {ad : List Addr} {vs : List V} {ys : List Value} {C : List Value → Prop}
theorem consE {v : V} (r : VRs X imm ad (v :: vs) ys) (k : ∀ y ys, VRel X imm ad v y → VRs X imm ad vs ys → C (y :: ys)) : C ys := by cases r with | cons a b => exact k _ _ a b
theorem nulE {u : Unit} (h : nul vs = some u) (r : VRs X imm ad vs ys) (k : C []) : C ys := by rw [nul_eq h] at r; cases r; exact k
theorem oneE {v : V} (h : one vs = some v) (r : VRs X imm ad vs ys) (k : ∀ y, VRel X imm ad v y → C [y]) : C ys := by
  rw [one_eq h] at r
  apply consE r
  intro y z a b
  apply nulE (u := ()) rfl b
  exact k y a
theorem twoE {v : V × V} (h : two vs = some v) (r : VRs X imm ad vs ys) (k : ∀ y z, VRel X imm ad v.1 y → VRel X imm ad v.2 z → C [y, z]) : C ys := by
  rw [two_eq h] at r
  apply consE r
  intro y z a b
  apply oneE (v := v.2) rfl b
  exact fun z c => k y z a c
end
section
variable {X : Wd} {h₀ : Heap} {L : Addr} {m : Str → Option Value} {mu ext imm : List (Addr × Obj)} {H : List O} {s : Shared} {A : Around} {E : Value → Shared → Prop}

/-- a list of the abstract heap, found -/
theorem St.lst (t : St X h₀ L m mu ext imm H s) {r : Nat} {ps : List P} (h : getL H r = some ps) : ∃ a vs n, mu[r]? = some (a, listOf vs.toArray n) ∧ DatAll imm vs (dats ps) ∧ vs.length = ps.length ∧ (a, listOf vs.toArray n) ∈ mu ++ (ext ++ imm) ∧ s.heap.IsList a vs.toArray := by
  obtain ⟨e, he, ho⟩ := t.mr.get (getL_some h)
  cases ho with
  | list hd =>
    rename_i a vs n
    have hm : (a, listOf vs.toArray n) ∈ mu ++ (ext ++ imm) := List.mem_append_left _ (List.mem_of_getElem? he)
    exact ⟨a, vs, n, he, hd, by rw [hd.length, dats_len], hm, ⟨_, (t.nw _ hm).1, rfl, n, rfl⟩⟩
theorem St.ref (t : St X h₀ L m mu ext imm H s) {r : Nat} {ps : List P} (h : getL H r = some ps) {v : Value} (hv : VRel X imm (mu.map Prod.fst) (.ref r) v) :
    ∃ a vs n, v = .ref a ∧ mu[r]? = some (a, listOf vs.toArray n) ∧ DatAll imm vs (dats ps) ∧ vs.length = ps.length ∧ (a, listOf vs.toArray n) ∈ mu ++ (ext ++ imm) ∧ s.heap.IsList a vs.toArray := by
  obtain ⟨a, vs, n, h1, h2, h3, h4, h5⟩ := t.lst h
  obtain ⟨b, hb, rfl⟩ := hv
  rw [List.getElem?_map, h1] at hb
  cases hb
  exact ⟨a, vs, n, rfl, h1, h2, h3, h4, h5⟩
/-- a new list onto the ledger -/
theorem St.newL (t : St X h₀ L m mu ext imm H s) {h' : Heap} {a : Addr} {vs : List Value} {n : Nat} {ps : List P} (F : Fr h₀ L h' m) (N : News h₀ L h' ((a, listOf vs.toArray n) :: (mu ++ (ext ++ imm)))) (ha : ∀ p ∈ mu ++ (ext ++ imm), p.1 < a)
    (hd : DatAll imm vs (dats ps)) (k : Nat) {Q : Value → Shared → Prop}
    (hQ : ∀ mu' imm' y s', St X h₀ L m mu' ext imm' (H ++ [.list ps]) s' → Gw mu imm mu' imm' → VRel X imm' (mu'.map Prod.fst) (.ref H.length) y → Q y s') : Q (.ref a) { s with heap := h', toks := k } := by
  refine hQ _ _ _ _ (t.addM F N ha (.list hd) k) gw_mu ⟨a, ?_, rfl⟩
  rw [← t.mr.length]
  simp

structure LAt (mu ext imm : List (Addr × Obj)) (s : Shared) (r : Nat) (ps : List P) (a : Addr) (vs : List Value) (n : Nat) : Prop where
  e : mu[r]? = some (a, listOf vs.toArray n)
  d : DatAll imm vs (dats ps)
  l : vs.length = ps.length
  m : (a, listOf vs.toArray n) ∈ mu ++ (ext ++ imm)
  i : s.heap.IsList a vs.toArray
theorem St.refE (t : St X h₀ L m mu ext imm H s) {r : Nat} {ps : List P} (h : getL H r = some ps) {v : Value} (hv : VRel X imm (mu.map Prod.fst) (.ref r) v) {C : Value → Prop}
    (k : ∀ a vs n, LAt mu ext imm s r ps a vs n → C (.ref a)) : C v := by
  obtain ⟨a, vs, n, rfl, h1, h2, h3, h4, h5⟩ := t.ref h hv
  exact k _ _ _ ⟨h1, h2, h3, h4, h5⟩
theorem St.lstE (t : St X h₀ L m mu ext imm H s) {w : V} {ps : List P} (h : w.lst H = some ps) {v : Value} (hv : VRel X imm (mu.map Prod.fst) w v) {C : Value → Prop}
    (k : ∀ r a vs n, LAt mu ext imm s r ps a vs n → C (.ref a)) : C v := by
  obtain ⟨r, rfl, h⟩ := lst_eq h
  exact t.refE h hv (k r)
/-- what is to be shown behind a step -/
noncomputable def Post (X : Wd) (h₀ : Heap) (L : Addr) (m : Str → Option Value) (mu ext imm : List (Addr × Obj)) (r : V × List O) (Q : Value → Shared → Prop) : Prop :=
  ∀ mu' imm' z s', St X h₀ L m mu' ext imm' r.2 s' → Gw mu imm mu' imm' → VRel X imm' (mu'.map Prod.fst) r.1 z → Q z s'
variable {r : V × List O} {Q : Value → Shared → Prop}
theorem Post.of {v : V} {H' : List O} (hQ : Post X h₀ L m mu ext imm r Q) (e : some (v, H') = some r) : Post X h₀ L m mu ext imm (v, H') Q := Option.some.inj e ▸ hQ
theorem Post.p {p : P} (hQ : Post X h₀ L m mu ext imm r Q) (e : some (V.p p, H) = some r) (t : St X h₀ L m mu ext imm H s) {z : Value} {k : Nat} (hz : DatIn imm z p.dat) : Q z { s with toks := k } :=
  hQ.of e _ _ _ _ (t.tok k) .refl hz
noncomputable def opB : BOp → Operator
  | .add => .Add | .sub => .Sub | .mul => .Mult | .fdiv => .FloorDiv | .mod => .Mod | .pow => .Pow
theorem bop_inv {o : BOp} {op : Operator} (h : bopOf op = some o) : op = opB o := by cases op <;> cases h <;> rfl
section
variable {p q c : P} {x y : Value}
theorem op_addP (hr : addP p q = some c) (ra : DatIn imm x p.dat) (rb : DatIn imm y q.dat) (fin : ∀ z k, DatIn imm z c.dat → Q z { s with toks := k }) :
    wpAny (model X.prog X.w) A (binaryOp .Add x y) Q E s := by
  cases p with
  | int a =>
    refine bindE hr fun b e hr => ?_
    apply pint_E e rb
    intro t2
    apply datInt ra
    intro t1
    cases hr
    exact add_int (fin _ _ (.int _ _))
  | str a =>
    refine bindE hr fun b e hr => ?_
    apply pstr_E e rb
    intro t2
    apply datStr ra
    intro t1
    refine iteE hr fun h hr => ?_
    cases hr
    have h := of_ok h
    exact add_str (fun t' k => fin _ k (by rw [S_add]; exact .str _ _)) (by rw [S_len, S_len, sizeLine_eq]; exact Nat.le_trans ‹_› (by decide))
  | _ => first | exact no hr | exact nob hr | cases hr
theorem op_mulP (hr : mulP p q = some c) (ra : DatIn imm x p.dat) (rb : DatIn imm y q.dat) (fin : ∀ z k, DatIn imm z c.dat → Q z { s with toks := k }) :
    wpAny (model X.prog X.w) A (binaryOp .Mult x y) Q E s := by
  cases p with
  | int a =>
    refine bindE hr fun b e hr => ?_
    apply pint_E e rb
    intro t2
    apply datInt ra
    intro t1
    refine iteE hr fun h hr => ?_
    cases hr
    exact mul_int (fin _ _ (.int _ _)) (.of_left (intBits_small (of_oki h)))
  | str a =>
    refine bindE hr fun n e hr => ?_
    apply pint_E e rb
    intro t2
    apply datStr ra
    intro t1
    refine iteE hr fun h hr => andE h fun h1 h2 => ?_
    cases hr
    have h1 := of_oki h1
    have h2 := of_ok h2
    refine SB.mul ⟨?_, fun q1 q2 => ?_, fun q1 q2 => ?_⟩ (fun t' k => fin _ k (by rw [S_mul]; exact .str _ _))
    · rw [Bool.or_eq_false_iff]
      exact ⟨decide_eq_false (by lia), decide_eq_false (by lia)⟩
    · rw [S_len]
      have : (a.length : Int) * n ≤ 1000000 := by
        have e1 : (n.toNat : Int) = n := by lia
        rw [← e1, ← Int.natCast_mul]; lia
      intro hh
      exact absurd ((Int.ediv_lt_iff_lt_mul (by lia)).mp (show (2 ^ 63 - 1) / n < (a.length : Int) from hh)) (by lia)
    · show Builtin.Str.tooLong ((S a).length * n.toNat) = false
      unfold Builtin.Str.tooLong
      rw [S_len, sizeLine_eq]
      exact decide_eq_false (by lia)
  | _ => first | exact no hr | exact nob hr | cases hr
theorem op_modP (hr : modP p q = some c) (ra : DatIn imm x p.dat) (rb : DatIn imm y q.dat) (fin : ∀ z k, DatIn imm z c.dat → Q z { s with toks := k }) :
    wpAny (model X.prog X.w) A (binaryOp .Mod x y) Q E s := by
  cases p with
  | int a =>
    refine bindE hr fun b e hr => ?_
    apply pint_E e rb
    intro t2
    apply datInt ra
    intro t1
    refine iteE hr fun h hr => ?_
    cases hr
    have h := of_decide_eq_true h
    refine mod_int' (Int.ne_of_gt h) (fin _ _ ?_)
    rw [Int.fmod_eq_emod_of_nonneg _ (Int.le_of_lt h)]
    exact .int _ _
  | str a =>
    refine bindE hr fun n e hr => ?_
    apply pint_E e rb
    intro t2
    apply datStr ra
    intro t1
    refine iteE hr fun h hr => andE h fun h1 h2 => ?_
    cases hr
    cases eq_of_beq h1
    have h2 := of_decide_eq_true h2
    exact KPc.mod_lit (X' := fHex) rfl (shown (N := 2 ^ 1920) (by omega) (by omega) (Int.le_refl _)) (fun _ _ => meets_hex _ h2.1 h2.2 _ _) (fun t' k => fin _ k (.str _ _))
  | _ => first | exact no hr | exact nob hr | cases hr
theorem op_binP {o : BOp} (hr : binP o p q = some c) (ra : DatIn imm x p.dat) (rb : DatIn imm y q.dat) (fin : ∀ z k, DatIn imm z c.dat → Q z { s with toks := k }) :
    wpAny (model X.prog X.w) A (binaryOp (opB o) x y) Q E s := by
  cases o with
  | add => exact op_addP hr ra rb fin
  | mul => exact op_mulP hr ra rb fin
  | mod => exact op_modP hr ra rb fin
  | sub =>
    refine bindE hr fun a e hr => ?_
    apply pint_E e ra
    intro t1
    refine bindE hr fun b e hr => ?_
    apply pint_E e rb
    intro t2
    cases hr
    exact sub_int (fin _ _ (.int _ _))
  | fdiv =>
    refine bindE hr fun a e hr => ?_
    apply pint_E e ra
    intro t1
    refine bindE hr fun b e hr => ?_
    apply pint_E e rb
    intro t2
    refine iteE hr fun h hr => andE h fun h1 h2 => ?_
    cases hr
    have h1 := of_oki h1
    have h2 := of_decide_eq_true h2
    refine floordiv_int (Int.ne_of_gt h2) (fin _ _ ?_) (.inl (noPylong (by omega)))
    rw [Int.fdiv_eq_ediv_of_nonneg _ (Int.le_of_lt h2)]
    exact .int _ _
  | pow =>
    refine bindE hr fun a e hr => ?_
    apply pint_E e ra
    intro t1
    refine bindE hr fun b e hr => ?_
    apply pint_E e rb
    intro t2
    refine iteE hr fun h hr => andE h fun h1 h2 => ?_
    cases hr
    cases eq_of_beq h1
    cases eq_of_beq h2
    exact pow_int (by decide) (by decide) (fin _ _ (.int _ _))
end
theorem op_binR {o : BOp} {i : Nat} {b : V} (hv : binR o i b H = some r) (t : St X h₀ L m mu ext imm H s) {x y : Value} (ra : VRel X imm (mu.map Prod.fst) (.ref i) x) (rb : VRel X imm (mu.map Prod.fst) b y)
    (hQ : Post X h₀ L m mu ext imm r Q) : wpAny (model X.prog X.w) A (binaryOp (opB o) x y) Q E s := by
  cases o with
  | add =>
    refine bindE hv fun x1 h1 hv => bindE hv fun x2 h2 hv => iteE hv fun hk hv => ?_
    have h := of_ok hk
    apply t.refE h1 ra
    intro a1 v1 n1 w1
    apply t.lstE h2 rb
    intro _ a2 v2 n2 w2
    refine add_arrays t.fr t.nw w1.i w2.i (fun h' F N => ?_) (by have := w1.l; have := w2.l; simp only [List.size_toArray, sizeLine_eq]; lia)
    exact t.newL F N t.lt (by rw [dats_append]; exact w1.d.append w2.d) _ (hQ.of hv)
  | mul =>
    refine bindE hv fun x1 h1 hv => bindE hv fun n e hv => ?_
    apply int_E e rb
    intro t2
    refine iteE hv fun hk hv => andE hk fun hk h4 => andE hk fun h2 h3 => ?_
    have h2 := of_oki h2
    have h3 := of_ok h3
    apply t.refE h1 ra
    intro a1 v1 n1 w1
    have hl := w1.l
    refine mul_list t.fr t.nw (t.nw _ w1.m).1 (by lia) (by lia) (by rw [List.size_toArray, hl]; exact Nat.le_trans ‹_› (by decide)) (fun h' F N => ?_)
    have ne : v1.toArray.isEmpty = false := by
      cases v1 with
      | nil => rw [List.eq_nil_of_length_eq_zero hl.symm] at h4; cases h4
      | cons _ _ => rfl
    rw [ne, if_neg Bool.false_ne_true] at N
    have e : (List.foldl (fun x1 x2 => x1 ++ x2) #[] (List.replicate n.toNat v1.toArray)) = (rep n.toNat v1).toArray := by
      apply Array.ext'
      rw [foldl_app]; simp [rep]
    rw [e] at N
    exact t.newL F N t.lt (by rw [dats_rep]; exact datAll_rep w1.d _) _ (hQ.of hv)
  | _ => first | exact no hv | exact nob hv | cases hv
theorem op_bin {o : BOp} {op : Operator} (hop : bopOf op = some o) {a b c : V} {H' : List O} (hv : binV o a b H = some (c, H')) (t : St X h₀ L m mu ext imm H s) {x y : Value}
    (ra : VRel X imm (mu.map Prod.fst) a x) (rb : VRel X imm (mu.map Prod.fst) b y)
    (hQ : Post X h₀ L m mu ext imm (c, H') Q) :
    wpAny (model X.prog X.w) A (binaryOp op x y) Q E s := by
  rw [bop_inv hop]
  cases a with
  | p x => exact bindE hv fun y e hv => bindE hv fun c e2 hv => op_binP e2 ra (dat_E e rb) fun z k hz => hQ.p hv t hz
  | ref r => exact op_binR hv t ra rb hQ
  | _ => first | exact no hv | exact nob hv | cases hv
end
end Mine
end
section
open PySem PySem.W PyProof.Rows PyProof.V
set_option Elab.async false
set_option maxRecDepth 20000
namespace Mine
theorem S_beq (a b : List Nat) : (S a == S b) = (a == b) := by
  rw [Bool.eq_iff_iff, beq_iff_eq, beq_iff_eq]
  exact ⟨S_inj, fun h => by rw [h]⟩
theorem S_contains (l : List Nat) (c : Nat) : Txt.contains (S l) (S [c]) = l.contains c := by
  show (!(Builtin.Str.occurrences (S l) ⟨#[c]⟩ 0 (S l).length 1).isEmpty) = _
  rw [StrLaws.found_one, Bool.eq_iff_iff, decide_eq_true_eq, List.contains_iff_mem]
  simp [S]
theorem beq_self (p : P) : p.beq p = true := (beq_iff p p).mpr rfl
theorem beqs_self (p : List P) : beqs p p = true := (beqs_iff p p).mpr rfl
open Classical in
theorem dats_dec (a b : List P) : decide (dats a = dats b) = beqs a b := by
  rw [Bool.eq_iff_iff, decide_eq_true_eq, beqs_iff]
  exact ⟨dats_inj a b, fun h => by rw [h]⟩

section
variable {X : Wd} {h₀ : Heap} {L : Addr} {m : Str → Option Value} {mu ext imm : List (Addr × Obj)} {H : List O} {s : Shared} {A : Around} {E : Value → Shared → Prop}
theorem St.sub_imm : ∀ p ∈ imm, p ∈ mu ++ (ext ++ imm) := fun _ h => List.mem_append_right _ (List.mem_append_right _ h)

theorem eqv_dec {a b : List P} (ha : (P.tup a).okAt 7 = true) (hb : (P.tup b).okAt 7 = true) : PyData.eqv (kqdP (P.tup a).dat) (kqdP (P.tup b).dat) = beqs a b := by
  have q := kqd_eqv 7 _ _ 7 (okAt_kqd 7 _ ha) (okAt_kqd 7 _ hb)
  rw [Bool.eq_iff_iff, q, beqs_iff]
  exact ⟨fun h => by have := dat_inj _ _ h; cases this; rfl, fun h => by rw [h]⟩
theorem eqv_dec' {a b : P} (ha : a.okAt 7 = true) (hb : b.okAt 7 = true) : PyData.eqv (kqdP a.dat) (kqdP b.dat) = a.beq b := by
  have q := kqd_eqv 7 _ _ 7 (okAt_kqd 7 _ ha) (okAt_kqd 7 _ hb)
  rw [Bool.eq_iff_iff, q, beq_iff]
  exact ⟨fun h => dat_inj _ _ h, fun h => by rw [h]⟩
theorem shaped_of {p : P} (h : p.okAt 7 = true) : SeqAt.shaped (kqdP p.dat) = true := by
  have l := kqd_lay 7 _ (okAt_kqd 7 _ h)
  unfold SeqAt.shaped
  rw [l.1, Bool.true_and]
  exact decide_eq_true (Nat.le_trans l.2 (by decide))
theorem tup_eqv (N : News h₀ L s.heap (mu ++ (ext ++ imm))) {a b : P} {x y : Value} (ha : a.okAt 7 = true) (hb : b.okAt 7 = true) (ra : DatIn imm x a.dat) (rb : DatIn imm y b.dat) (hu : A.units + 64 < cLine) {Q : Value → Shared → Prop}
    (hQ : Q (.bool (a.beq b)) s) : wpAny (model X.prog X.w) A (compareOp .Eq x y) Q E s := by
  obtain ⟨as, q1⟩ := kqd_in N 7 (ra.mono St.sub_imm) (okAt_kqd 7 _ ha)
  obtain ⟨bs, q2⟩ := kqd_in N 7 (rb.mono St.sub_imm) (okAt_kqd 7 _ hb)
  exact eq_dataH q1 q2 (shaped_of ha) (shaped_of hb) hu (by rw [eqv_dec' ha hb]; exact hQ)
theorem tup_nev (N : News h₀ L s.heap (mu ++ (ext ++ imm))) {a b : P} {x y : Value} (ha : a.okAt 7 = true) (hb : b.okAt 7 = true) (ra : DatIn imm x a.dat) (rb : DatIn imm y b.dat) (hu : A.units + 64 < cLine) {Q : Value → Shared → Prop}
    (hQ : Q (.bool (!a.beq b)) s) : wpAny (model X.prog X.w) A (compareOp .NotEq x y) Q E s := by
  obtain ⟨as, q1⟩ := kqd_in N 7 (ra.mono St.sub_imm) (okAt_kqd 7 _ ha)
  obtain ⟨bs, q2⟩ := kqd_in N 7 (rb.mono St.sub_imm) (okAt_kqd 7 _ hb)
  exact ne_dataH q1 q2 (shaped_of ha) (shaped_of hb) hu (by rw [eqv_dec' ha hb]; exact hQ)

theorem all_ok {ps : List P} (h : ps.all (P.okAt 7) = true) : ∀ d ∈ dats ps, kqdOk 8 d = true := by
  intro d hd
  rw [dats_eq] at hd
  obtain ⟨p, hp, rfl⟩ := List.mem_map.mp hd
  have h7 := List.all_eq_true.mp h p hp
  refine okAt_kqd 8 p ?_
  have up : ∀ n (p : P), p.okAt n = true → p.okAt (n + 1) = true := by
    intro n
    induction n with
    | zero => intro p h; cases p <;> first | exact h | exact nob h
    | succ n ih =>
      intro p h
      cases p with
      | tup ps => exact List.all_eq_true.mpr fun q hq => ih q (List.all_eq_true.mp h q hq)
      | _ => exact h
  exact up 7 p h7

section
variable {p q : P} {x y : Value} {c : Bool} {Q : Value → Shared → Prop}
theorem op_eqP (hv : eqP p q = some c) (t : St X h₀ L m mu ext imm H s) (hu : A.units + 64 < cLine) (ra : DatIn imm x p.dat) (rb : DatIn imm y q.dat) (hQ : Q (.bool c) s) :
    wpAny (model X.prog X.w) A (compareOp .Eq x y) Q E s := by
  cases p with
  | int a =>
    refine bindE hv fun b e hv => ?_
    apply pint_E e rb
    intro t2
    apply datInt ra
    intro t1
    cases hv
    exact eq_int hQ
  | str a =>
    refine bindE hv fun b e hv => ?_
    apply pstr_E e rb
    intro t2
    apply datStr ra
    intro t1
    cases hv
    exact eq_str (by rw [S_beq]; exact hQ)
  | tup a =>
    refine bindE hv fun b e hv => iteE hv fun hk hv => andE hk fun h1 h2 => ?_
    cases hv
    cases ptup_eq e
    exact tup_eqv t.nw h1 h2 ra rb hu hQ
  | _ => first | exact no hv | exact nob hv | cases hv
theorem op_neP (hv : (eqP p q).map (!·) = some c) (t : St X h₀ L m mu ext imm H s) (hu : A.units + 64 < cLine) (ra : DatIn imm x p.dat) (rb : DatIn imm y q.dat) (hQ : Q (.bool c) s) :
    wpAny (model X.prog X.w) A (compareOp .NotEq x y) Q E s := by
  refine mapE hv fun c' hv2 e2 => ?_
  cases e2
  clear hv
  have hv := hv2
  clear hv2
  cases p with
  | int a =>
    refine bindE hv fun b e hv => ?_
    apply pint_E e rb
    intro t2
    apply datInt ra
    intro t1
    cases hv
    exact ne_int hQ
  | str a =>
    refine bindE hv fun b e hv => ?_
    apply pstr_E e rb
    intro t2
    apply datStr ra
    intro t1
    cases hv
    exact ne_str (by rw [bne, S_beq]; exact hQ)
  | tup a =>
    refine bindE hv fun b e hv => iteE hv fun hk hv => andE hk fun h1 h2 => ?_
    cases hv
    cases ptup_eq e
    exact tup_nev t.nw h1 h2 ra rb hu hQ
  | _ => first | exact no hv | exact nob hv | cases hv
theorem op_cmpI {f : Int → Int → Bool} {op : CmpOp} (hv : cmpI f p q = some c) (ra : DatIn imm x p.dat) (rb : DatIn imm y q.dat) (k : ∀ a b t u, c = f a b → wpAny (model X.prog X.w) A (compareOp op (.int a t) (.int b u)) Q E s) :
    wpAny (model X.prog X.w) A (compareOp op x y) Q E s := by
  refine bindE hv fun a e hv => ?_
  apply pint_E e ra
  intro t1
  refine bindE hv fun b e hv => ?_
  apply pint_E e rb
  intro t2
  exact k _ _ _ _ (Option.some.inj hv).symm
theorem op_cmpIn {f : Bool → Bool} {op : CmpOp} (hv : cmpIn f p q = some c) (ra : DatIn imm x p.dat) (rb : DatIn imm y q.dat) (k : ∀ a b t u, c = f (Txt.contains (S b) (S [a])) → wpAny (model X.prog X.w) A (compareOp op (.str (S [a]) t) (.str (S b) u)) Q E s) :
    wpAny (model X.prog X.w) A (compareOp op x y) Q E s := by
  refine bindE hv fun a e hv => ?_
  apply pstr_E e ra
  intro t1
  refine bindE hv fun a1 e1 hv => bindE hv fun b e hv => ?_
  apply pstr_E e rb
  intro t2
  have hv := Option.some.inj hv
  subst hv
  cases one_eq e1
  exact k _ _ _ _ (by rw [S_contains])
theorem op_cmpB {f : Bool → Bool} {op : CmpOp} (hv : cmpB f p q = some c) (ra : DatIn imm x p.dat) (rb : DatIn imm y q.dat) (k : ∀ a b, c = f (Value.bool a == Value.bool b) → wpAny (model X.prog X.w) A (compareOp op (.bool a) (.bool b)) Q E s) :
    wpAny (model X.prog X.w) A (compareOp op x y) Q E s := by
  refine bindE hv fun a e hv => ?_
  apply pbool_E e ra
  refine bindE hv fun b e hv => ?_
  apply pbool_E e rb
  have : (Value.bool a == Value.bool b) = (a == b) := by cases a <;> cases b <;> decide
  exact k _ _ (by rw [this]; exact (Option.some.inj hv).symm)
noncomputable def opC : COp → CmpOp
  | .eq => .Eq | .ne => .NotEq | .lt => .Lt | .le => .LtE | .gt => .Gt | .ge => .GtE | .is => .Is | .isn => .IsNot | .inn => .In | .nin => .NotIn
theorem cop_inv (op : CmpOp) : op = opC (copOf op) := by cases op <;> rfl
theorem op_cmpP {o : COp} (hv : cmpP o p q = some c) (t : St X h₀ L m mu ext imm H s) (hu : A.units + 64 < cLine) (ra : DatIn imm x p.dat) (rb : DatIn imm y q.dat) (hQ : Q (.bool c) s) :
    wpAny (model X.prog X.w) A (compareOp (opC o) x y) Q E s := by
  cases o with
  | eq => exact op_eqP hv t hu ra rb hQ
  | ne => exact op_neP hv t hu ra rb hQ
  | lt => exact op_cmpI hv ra rb fun _ _ _ _ e => lt_int (e ▸ hQ)
  | le => exact op_cmpI hv ra rb fun _ _ _ _ e => le_int (e ▸ hQ)
  | gt => exact op_cmpI hv ra rb fun _ _ _ _ e => gt_int (e ▸ hQ)
  | ge => exact op_cmpI hv ra rb fun _ _ _ _ e => ge_int (e ▸ hQ)
  | inn => exact op_cmpIn (f := fun x => x) hv ra rb fun _ _ _ _ e => SB.contains (e ▸ hQ)
  | nin => exact op_cmpIn (f := fun x => !x) hv ra rb fun _ _ _ _ e => SB.notContains (e ▸ hQ)
  | is => exact op_cmpB (f := fun x => x) hv ra rb fun _ _ e => wpAny_is_plain rfl (e ▸ hQ)
  | isn => exact op_cmpB (f := fun x => !x) hv ra rb fun _ _ e => wpAny_isNot_plain rfl (e ▸ hQ)
open Classical in
theorem op_cmpR {o : COp} {x1 x2 : List P} {r1 r2 : Nat} {a1 a2 : Addr} {v1 v2 : List Value} {n1 n2 : Nat} (hv : cmpR o x1 x2 = some c) (t : St X h₀ L m mu ext imm H s) (hu : A.units + 64 < cLine)
    (w1 : LAt mu ext imm s r1 x1 a1 v1 n1) (w2 : LAt mu ext imm s r2 x2 a2 v2 n2) (hQ : Q (.bool c) s) : wpAny (model X.prog X.w) A (compareOp (opC o) (.ref a1) (.ref a2)) Q E s := by
  refine iteE hv fun hk hv => andE hk fun k1 k2 => ?_
  cases o with
  | eq =>
    cases hv
    exact kqd_eq t.nw w1.m rfl rfl w1.d St.sub_imm w2.m rfl rfl w2.d St.sub_imm (all_ok k1) (all_ok k2) hu (by rw [dats_dec]; exact hQ)
  | ne =>
    cases hv
    exact kqd_ne t.nw w1.m rfl rfl w1.d St.sub_imm w2.m rfl rfl w2.d St.sub_imm (all_ok k1) (all_ok k2) hu (by rw [dats_dec]; exact hQ)
  | _ => first | exact no hv | exact nob hv | cases hv
open Classical in
theorem op_cmpN {o : COp} {x2 : List P} {r2 : Nat} {a2 : Addr} {v2 : List Value} {n2 : Nat} (hv : cmpN o p x2 = some c) (t : St X h₀ L m mu ext imm H s) (hu : A.units + 64 < cLine) (ra : DatIn imm x p.dat)
    (w2 : LAt mu ext imm s r2 x2 a2 v2 n2) (hQ : Q (.bool c) s) : wpAny (model X.prog X.w) A (compareOp (opC o) x (.ref a2)) Q E s := by
  cases o with
  | nin =>
    refine bindE hv fun l e hv => iteE hv fun hk hv => andE hk fun k1 k2 => ?_
    cases hv
    cases pstr_eq e
    refine kqd_notIn t.nw w2.m rfl rfl w2.d St.sub_imm ra St.sub_imm (all_ok k1) (all_ok (ps := [.str l]) (by simpa using k2) _ (.head _)) hu ?_
    have : decide ((P.str l).dat ∈ dats x2) = x2.any (P.beq (.str l)) := by
      rw [Bool.eq_iff_iff, decide_eq_true_eq, List.any_eq_true, dats_eq, List.mem_map]
      constructor
      · rintro ⟨p, hp, e⟩
        exact ⟨p, hp, (beq_iff _ _).mpr (dat_inj _ _ e).symm⟩
      · rintro ⟨p, hp, e⟩
        rw [← (beq_iff _ _).mp e] at hp
        exact ⟨_, hp, rfl⟩
    rw [this]; exact hQ
  | _ => first | exact no hv | exact nob hv | cases hv
end
theorem op_cmp {op : CmpOp} {a b : V} {c : Bool} (hv : cmpV (copOf op) a b H = some c) (t : St X h₀ L m mu ext imm H s) {n : Nat} (R : Room A n) {x y : Value}
    (ra : VRel X imm (mu.map Prod.fst) a x) (rb : VRel X imm (mu.map Prod.fst) b y) {Q : Value → Shared → Prop}
    (hQ : ∀ k, Q (.bool c) { s with toks := k }) :
    wpAny (model X.prog X.w) A (compareOp op x y) Q E s := by
  have hu : A.units + 64 < cLine := by have := R.2.2; lia
  have hQ : Q (.bool c) s := hQ s.toks
  rw [cop_inv op]
  cases a with
  | p p =>
    cases b with
    | p q => exact op_cmpP hv t hu ra rb hQ
    | ref q =>
      refine bindE hv fun x2 h2 hv => ?_
      apply t.refE h2 rb
      intro a2 v2 n2 w2
      exact op_cmpN hv t hu ra w2 hQ
    | _ => first | exact no hv | exact nob hv | cases hv
  | ref r =>
    refine bindE hv fun x1 h1 hv => bindE hv fun x2 h2 hv => ?_
    apply t.refE h1 ra
    intro a1 v1 n1 w1
    apply t.lstE h2 rb
    intro r2 a2 v2 n2 w2
    exact op_cmpR hv t hu w1 w2 hQ
  | _ => first | exact no hv | exact nob hv | cases hv

theorem op_truth {a : V} {c : Bool} (hv : truV a = some c) (_t : St X h₀ L m mu ext imm H s) {x : Value} (ra : VRel X imm (mu.map Prod.fst) a x) {Q : Bool → Shared → Prop} (hQ : ∀ k, Q c { s with toks := k }) :
    wpAny (model X.prog X.w) A (truthy x) Q E s := by
  cases a with
  | p p =>
    cases p with
    | bool b =>
      cases hv
      exact datBool (C := fun x => wpAny _ _ (truthy x) _ _ _) ra (wpAny_truthy_bool (hQ s.toks))
    | str l =>
      refine iteE hv fun hk hv => ?_
      cases hv
      have hk := of_ok hk
      apply datStr ra
      intro t1
      refine SBL.truthy (by rw [S_len]; lia) ?_
      have : (((S l).length : Int) != 0) = !l.isEmpty := by
        rw [S_len]
        cases l with
        | nil => rfl
        | cons a r => exact bne_iff_ne.mpr (by rw [List.length_cons]; lia)
      rw [this]; exact hQ _
    | _ => first | exact no hv | exact nob hv | cases hv
  | _ => first | exact no hv | exact nob hv | cases hv
end
end Mine
end
section
open PySem PySem.W PyProof.Rows PyProof.V
set_option Elab.async false
set_option maxRecDepth 20000
namespace Mine
theorem clip_le (i : Int) (n : Nat) : clip i n ≤ n := by unfold clip; split <;> (first | lia | omega)
theorem clip_int (i : Int) (n : Nat) : max (0 : Int) (min (if i < 0 then i + n else i) n) = (clip i n : Nat) := by
  unfold clip
  by_cases h : i < 0
  · rw [if_pos h, if_pos h, Int.min_eq_left (Int.le_trans (Int.add_le_add_right (Int.le_of_lt h) n) (Int.le_of_eq (Int.zero_add _))), Int.max_comm]
    exact (Int.toNat_eq_max _).symm
  · obtain ⟨k, rfl⟩ := Int.eq_ofNat_of_zero_le (Int.not_lt.mp h)
    rw [if_neg h, if_neg h, Int.toNat_natCast]
    rcases Nat.le_total k n with hk | hk
    · rw [Int.min_eq_left (Int.ofNat_le.mpr hk), Nat.min_eq_left hk]
      exact Int.max_eq_right (Int.natCast_nonneg _)
    · rw [Int.min_eq_right (Int.ofNat_le.mpr hk), Nat.min_eq_right hk]
      exact Int.max_eq_right (Int.natCast_nonneg _)
noncomputable def loN (lo : Option Int) (n : Nat) : Nat := (lo.map (clip · n)).getD 0
noncomputable def hiN (hi : Option Int) (n : Nat) : Nat := (hi.map (clip · n)).getD n
theorem hiN_le (hi : Option Int) (n : Nat) : hiN hi n ≤ n := by cases hi <;> simp [hiN, clip_le]
theorem cut_eq (l : List α) (lo hi : Option Int) : cut l lo hi = (l.drop (loN lo l.length)).take (hiN hi l.length - loN lo l.length) := rfl
theorem sliceRange_one (a b : Nat) : sliceRange (a : Int) (b : Int) 1 = (List.range (b - a)).map fun k => a + k := by
  unfold sliceRange
  have h : ((1 : Int) > 0) = True := by simp
  simp only [h, if_true]
  by_cases hlt : (a : Int) < b
  · have e3 : (((b : Int) - a + 1 - 1) / 1).toNat = b - a := by first | lia | (simp; done) | (simp; lia)
    simp only [hlt, if_true, e3]
    refine List.map_congr_left fun k _ => ?_
    lia
  · have : b - a = 0 := by lia
    simp [hlt, this]
theorem ssi (lo hi : Option Int) (n : Nat) : Builtin.Str.strSliceIndices lo hi 1 n = (List.range (hiN hi n - loN lo n)).map fun k => loN lo n + k := by
  rw [← sliceRange_one]
  unfold Builtin.Str.strSliceIndices
  have h : ((1 : Int) > 0) = True := by simp
  simp only [h, if_true]
  congr 1
  · cases lo with
    | none => rfl
    | some i => exact clip_int i n
  · cases hi with
    | none => rfl
    | some i => exact clip_int i n
theorem pick_run {α : Type} (l : List α) (a c : Nat) (h : a + c ≤ l.length) : ((List.range c).map fun k => a + k).filterMap (l[·]?) = (l.drop a).take c := by
  induction c with
  | zero => simp
  | succ n ih =>
    have hlt : a + n < l.length := by assumption
    rw [List.range_succ, List.map_append, List.filterMap_append, ih (by exact Nat.le_of_lt ‹_›), List.take_add_one, List.getElem?_drop]
    simp [List.getElem?_eq_getElem hlt]
theorem pick_cut {α : Type} (l : List α) (lo hi : Option Int) : (Builtin.Str.strSliceIndices lo hi 1 l.length).filterMap (l[·]?) = cut l lo hi := by
  rw [ssi, cut_eq]
  by_cases h : loN lo l.length ≤ hiN hi l.length
  · have := hiN_le hi l.length
    exact pick_run l _ _ (by lia)
  · have : hiN hi l.length - loN lo l.length = 0 := by lia
    rw [this]; simp
theorem S_slice (l : List Nat) (lo hi : Option Int) : Txt.slice (S l) lo hi = S (cut l lo hi) := by
  unfold Txt.slice
  have e : (Builtin.Str.strSliceIndices lo hi 1 (S l).length).filterMap (fun x => (S l).cps[x]?) = cut l lo hi := by
    rw [S_len, ← pick_cut]; simp [S]
  split
  · rename_i h
    simp only [Bool.and_eq_true, beq_iff_eq, S_len] at h
    have h2 := h.2
    rw [ssi, List.length_map, List.length_range] at h2
    have h3 := hiN_le hi l.length
    rw [cut_eq]
    by_cases hz : l.length = 0
    · have : l = [] := List.length_eq_zero_iff.mp hz
      subst this; simp
    · have h4 : loN lo l.length = 0 := by lia
      have h5 : hiN hi l.length = l.length := by lia
      rw [h4, h5]; simp
  · rw [e]; rfl
theorem pick_list (vs : List Value) (lo hi : Option Int) : slicePick vs.toArray lo hi none = (cut vs lo hi).toArray := by
  rw [slicePick_plain]
  have e : ∀ (n : Nat) (i : Int), clipAt n i = clip i n := fun n i => by
    have h := clipAt_cast n i
    have h2 := clip_int i n
    lia
  cases lo <;> cases hi <;> simp [cut_eq, loN, hiN, e]
theorem dats_cut (ps : List P) (lo hi : Option Int) : dats (cut ps lo hi) = cut (dats ps) lo hi := by
  rw [cut_eq, cut_eq, dats_len, dats_eq, dats_eq, List.map_take, List.map_drop]
theorem datAll_drop {imm : List (Addr × Obj)} : ∀ {vs : List Value} {ds : List Dat} (n : Nat), DatAll imm vs ds → DatAll imm (vs.drop n) (ds.drop n)
  | _, _, 0, h => h
  | _, _, _ + 1, .nil => .nil
  | _, _, n + 1, .cons _ h => datAll_drop n h
theorem datAll_take {imm : List (Addr × Obj)} : ∀ {vs : List Value} {ds : List Dat} (n : Nat), DatAll imm vs ds → DatAll imm (vs.take n) (ds.take n)
  | _, _, 0, _ => .nil
  | _, _, _ + 1, .nil => .nil
  | _, _, n + 1, .cons a h => .cons a (datAll_take n h)
theorem datAll_cut {imm : List (Addr × Obj)} {vs : List Value} {ds : List Dat} (h : DatAll imm vs ds) (lo hi : Option Int) : DatAll imm (cut vs lo hi) (cut ds lo hi) := by
  rw [cut_eq, cut_eq, h.length]
  exact datAll_take _ (datAll_drop _ h)

/-- the tables that stand in the written part -/
structure Tabs (X : Wd) (tabs : Nat → List P) : Prop where
  at_ : ∀ g a, X.T g = some a → ∃ vs n, X.K.lookup a = some (listOf vs.toArray n) ∧ DatAll [] vs (dats (tabs g))

section
variable {X : Wd} {tabs : Nat → List P} {h₀ : Heap} {L : Addr} {m : Str → Option Value} {mu ext imm : List (Addr × Obj)} {H : List O} {s : Shared} {A : Around} {E : Value → Shared → Prop}
theorem St.kin (t : St X h₀ L m mu ext imm H s) (I : X.In h₀) : X.K.In s.heap := I.k.keeps t.fr.keep
theorem nIdx_lt {i : Int} {n : Nat} (h : inIdx i n = true) : nIdx i n < n ∧ -1000000000 ≤ i ∧ i ≤ 1000000000 := by
  unfold inIdx at h
  obtain ⟨h1, h2⟩ := Bool.and_eq_true_iff.mp h
  have h1 := of_oki h1
  unfold nIdx
  rcases Bool.or_eq_true_iff.mp h2 with h2 | h2 <;> have h2 := of_decide_eq_true h2
  · rw [if_neg (by lia)]; omega
  · rw [if_pos h2.1]; omega
theorem nIdx_seq {i : Int} {n : Nat} (h : inIdx i n = true) : seqIndex? i n = some (nIdx i n) := by
  have h1 := nIdx_lt h
  unfold inIdx at h
  obtain ⟨_, h2⟩ := Bool.and_eq_true_iff.mp h
  unfold seqIndex? nIdx
  rcases Bool.or_eq_true_iff.mp h2 with h2 | h2 <;> have h2 := of_decide_eq_true h2
  · simp only [if_neg (show ¬ i < 0 by lia)]
    simp
    omega
  · simp only [if_pos h2.1]
    simp
    lia
theorem sub_plain {slice : PySem.Expr} (h : isSliceE slice = false) (o i : Value) : subscripted slice false o i = operate [o, i] (getItem o i) := by
  cases slice <;> first | rfl | exact no h | exact nob h | cases h
theorem item_seq {l : Addr} {vs : List Value} {k : Int} {u : Tok} {x : Value} {Q : Value → Shared → Prop} (hl : s.heap.IsList l vs.toArray) (hi : inIdx k vs.length = true) (hx : vs[nIdx k vs.length]? = some x) (h : Q x s) :
    wpAny (model X.prog X.w) A (getItem (.ref l) (.int k u)) Q E s := by
  have h1 := nIdx_lt hi
  unfold inIdx at hi
  obtain ⟨_, h2⟩ := Bool.and_eq_true_iff.mp hi
  unfold nIdx at hx
  rcases Bool.or_eq_true_iff.mp h2 with h2 | h2 <;> have h2 := of_decide_eq_true h2
  · rw [if_neg (by lia)] at hx
    exact wpAny_getItem_list hl h2.1 (by omega) (by simpa using hx) h
  · rw [if_pos h2.1] at hx
    exact wpAny_getItem_list_neg hl h2.1 (by rw [List.size_toArray]; exact h2.2) (by lia) (by rw [List.size_toArray]; simpa using hx) h
theorem datAll_get {ps : List P} {vs : List Value} (d : DatAll imm vs (dats ps)) {k : Nat} {p : P} (h : ps[k]? = some p) : ∃ v, vs[k]? = some v ∧ DatIn imm v p.dat := by
  obtain ⟨hk, e⟩ := List.getElem?_eq_some_iff.mp h
  obtain ⟨v, hv, hd⟩ := d.get (k := k) (by rw [dats_len]; exact hk)
  refine ⟨v, hv, ?_⟩
  have : (dats ps)[k]'(by rw [dats_len]; exact hk) = p.dat := by
    simp only [dats_eq, List.getElem_map, e]
  rw [← this]; exact hd

theorem op_idxL {value slice : PySem.Expr} (hs : isSliceE slice = false) {i : Int} {u : Tok} {ps : List P} {a : Addr} {vs : List Value} {p : P} (hv : (if inIdx i ps.length then ps[nIdx i ps.length]? else none) = some p)
    (hl : s.heap.IsList a vs.toArray) (hd : DatAll imm vs (dats ps)) {Q : Value → Shared → Prop} (hQ : ∀ z, DatIn imm z p.dat → Q z s) : wpAny (model X.prog X.w) A (subscriptTail value slice (.ref a) (.int i u)) Q E s := by
  refine iteE hv fun hk hp => ?_
  obtain ⟨z, hz, rz⟩ := datAll_get hd hp
  have hle := hd.length
  rw [dats_len] at hle
  exact tail_any hl.typeIs slot_list_getitem.lookup (item_seq hl (by rw [hle]; exact hk) (by rw [hle]; exact hz) (hQ z rz)) (sub_plain hs _ _)
theorem op_idxP {value slice : PySem.Expr} (hs : isSliceE slice = false) {i : Int} {u : Tok} {q p : P} (hv : idxP q i = some p) (t : St X h₀ L m mu ext imm H s) {x : Value} (ra : DatIn imm x q.dat)
    {Q : Value → Shared → Prop} (hQ : ∀ z k, DatIn imm z p.dat → Q z { s with toks := k }) : wpAny (model X.prog X.w) A (subscriptTail value slice x (.int i u)) Q E s := by
  cases q with
  | tup ps =>
    refine iteE hv fun hk hp => ?_
    cases ra with
    | tuple hm hd =>
      obtain ⟨z, hz, rz⟩ := datAll_get hd hp
      have hl := hd.length
      rw [dats_len] at hl
      have hb := nIdx_lt hk
      exact item_tupleT ⟨_, (t.nw _ (St.sub_imm _ hm)).1, rfl, _, rfl⟩ (by lia) (by omega) (by rw [hl]; exact nIdx_seq hk) hz (hQ z s.toks rz) (sub_plain hs _ _)
  | str l =>
    refine iteE hv fun hk hp => mapE hp fun c hc e => ?_
    cases e
    apply datStr ra
    intro t1
    have hb := nIdx_lt hk
    have e : Txt.charAt (S l) i = some c := by
      show ((seqIndex? i (S l).length).bind ((S l).cps[·]?)) = _
      rw [S_len, nIdx_seq hk]
      simpa [S] using hc
    refine tail_any (T := "str") (typeIs_str _ _ _) slot_str_getitem.lookup (SB.getItem ?_ (by rw [e]; rfl) ?_) (sub_plain hs _ _)
    · unfold fitsSsize
      rw [Bool.not_eq_true', Bool.or_eq_false_iff]
      exact ⟨decide_eq_false (by lia), decide_eq_false (by lia)⟩
    · refine hQ _ _ ?_
      have : Txt.item (S l) i = S [c] := by unfold Txt.item; rw [e]; rfl
      rw [this]; exact .str _ _
  | _ => first | exact no hv | exact nob hv | cases hv
theorem op_idx (TT : Tabs X tabs) (I : X.In h₀) {value slice : PySem.Expr} (hs : isSliceE slice = false) {a i v : V} (hv : idxV tabs a i H = some v) (t : St X h₀ L m mu ext imm H s) {x y : Value}
    (ra : VRel X imm (mu.map Prod.fst) a x) (ri : VRel X imm (mu.map Prod.fst) i y) {Q : Value → Shared → Prop} (hQ : ∀ z k, VRel X imm (mu.map Prod.fst) v z → Q z { s with toks := k }) :
    wpAny (model X.prog X.w) A (subscriptTail value slice x y) Q E s := by
  refine bindE hv fun k e hv => ?_
  apply int_E e ri
  intro u
  refine mapE hv fun p hp e => ?_
  cases e
  clear hv
  cases a with
  | ref r =>
    refine bindE hp fun ps h1 hv => ?_
    apply t.refE h1 ra
    intro a1 vs n1 w
    exact op_idxL hs hv w.i w.d fun z rz => hQ z s.toks rz
  | p q => exact op_idxP hs hp t ra hQ
  | glob g =>
    obtain ⟨b, hb, rfl⟩ := ra
    obtain ⟨vs, n, hl, hd⟩ := TT.at_ g b hb
    exact op_idxL hs hp ⟨_, t.kin I _ _ hl, rfl, n, rfl⟩ (hd.mono (List.forall_mem_nil _)) fun z rz => hQ z s.toks rz
  | _ => first | exact no hp | exact nob hp | cases hp

theorem noTemp (value : PySem.Expr) (x : Str) (t : Tok) (r : Value) : letTemporaryGo value (.str x t) r = pure () := by cases value <;> rfl
/-- a slice's bound, told -/
noncomputable def BRel (b : Option V) (y : Value) : Prop := match b with
  | none => y = .none
  | some v => ∀ i, v.int = some i → ∃ t, y = .int i t
theorem bnds_cases {b : Option V} {o : Option Int} (h : bnds b = some o) {y : Value} (r : BRel b y) {C : Option Int → Value → Prop} (k1 : C none .none) (k2 : ∀ i t, C (some i) (.int i t)) : C o y := by
  cases b with
  | none => cases h; cases r; exact k1
  | some v =>
    refine bindE h fun i e h => iteE h fun _ h => ?_
    cases h
    obtain ⟨t, e⟩ := r i e
    cases e
    exact k2 i t
theorem op_slL {value : PySem.Expr} {lo hi : Option PySem.Expr} {p : Pos} {r : V × List O} {l h : Option Int} {x : List P} (hv : slA x l h H = some r) (t : St X h₀ L m mu ext imm H s) {yl yh : Value} (pl : IsPart yl l) (ph : IsPart yh h)
    {a : Addr} {vs : List Value} (hl : s.heap.IsList a vs.toArray) (hd : DatAll imm vs (dats x)) {Q : Value → Shared → Prop} (hQ : Post X h₀ L m mu ext imm r Q) :
    wpAny (model X.prog X.w) A (subscriptTail value (.Slice lo hi none p) (.ref a) (.ref s.heap.objs.size)) Q E
      { s with heap := s.heap.push { cls := .type "slice", data := .fields #[yl, yh, .none] } } := by
  refine iteE hv fun hk hv => ?_
  have hk := of_ok hk
  have l1 := hd.length
  rw [dats_len] at l1
  have t2 := t.keeps (h' := s.heap.push { cls := .type "slice", data := .fields #[yl, yh, .none] }) (fun b o e => Heap.get?_push_of_some _ e) s.toks
  have i2 := hl.push { cls := .type "slice", data := .fields #[yl, yh, .none] }
  refine tail_any (T := "list") i2.typeIs slot_list_getitem.lookup ?_ (ops := [.ref s.heap.objs.size, .ref a]) rfl
  refine wpAny_getItem_list_slice i2 (Heap.IsSliceOf.new _ _ _ _) pl ph .none (by simp) ?_ (by simp only [List.size_toArray, sizeLine_eq]; lia)
  rw [pick_list]
  exact t2.newL (t2.fr.push _) (t2.nw.push t2.fr (listOf (cut vs l h).toArray 0)) t2.lt (by rw [dats_cut]; exact datAll_cut hd _ _) _ (hQ.of hv)
theorem op_sl {value : PySem.Expr} {lo hi : Option PySem.Expr} {p : Pos} {a v : V} {bl bh : Option V} {H' : List O} (hv : slV a bl bh H = some (v, H')) (t : St X h₀ L m mu ext imm H s) {x yl yh : Value}
    (ra : VRel X imm (mu.map Prod.fst) a x) (rl : BRel bl yl) (rh : BRel bh yh) {Q : Value → Shared → Prop}
    (hQ : Post X h₀ L m mu ext imm (v, H') Q) :
    wpAny (model X.prog X.w) A (subscriptTail value (.Slice lo hi none p) x (.ref s.heap.objs.size)) Q E
      { s with heap := s.heap.push { cls := .type "slice", data := .fields #[yl, yh, .none] } } := by
  refine bindE hv fun l hl hv => bindE hv fun h hh hv => ?_
  have part : ∀ {b o y}, bnds b = some o → BRel b y → IsPart y o := fun h r => by apply bnds_cases h r; exact .none; exact fun _ _ => .int _ _
  cases a with
  | ref r =>
    refine bindE hv fun ps h1 hv => ?_
    apply t.refE h1 ra
    intro a1 vs n1 w
    exact op_slL hv t (part hl rl) (part hh rh) w.i w.d hQ
  | p q =>
    refine bindE hv fun xs e hv => iteE hv fun hk hv => ?_
    have hk := of_ok hk
    cases hv
    apply pstr_E e ra
    intro tk
    have hsz : (S xs).length ≤ sizeLine := by rw [S_len, sizeLine_eq]; exact Nat.le_trans ‹_› (by decide)
    have fin : ∀ (h' : Heap) (t' : Tok) (k : Nat), Fr h₀ L h' m → News h₀ L h' (mu ++ (ext ++ imm)) → Q (.str (Txt.slice (S xs) l h) t') { s with heap := h', toks := k } := fun h' t' k F N => by
      rw [S_slice]; exact hQ _ _ _ _ (t.heap F N k) .refl (.str _ _)
    revert fin
    apply bnds_cases hl rl
    · apply bnds_cases hh rh
      · exact fun fin => slice_strN_nn t.fr t.nw fin rfl (noTemp _ _ _) hsz
      · exact fun i ti fin => slice_strN_ns t.fr t.nw fin rfl (noTemp _ _ _) hsz
    · intro i ti
      apply bnds_cases hh rh
      · exact fun fin => slice_strN_sn t.fr t.nw fin rfl (noTemp _ _ _) hsz
      · exact fun j tj fin => slice_strN_ss t.fr t.nw fin rfl (noTemp _ _ _) hsz
  | fix ps =>
    obtain ⟨a1, vs, n1, rfl, hm1, d1⟩ := ra
    exact op_slL hv t (part hl rl) (part hh rh) ⟨_, (t.nw _ (St.sub_imm _ hm1)).1, rfl, n1, rfl⟩ d1 hQ
  | _ => first | exact no hv | exact nob hv | cases hv
end
end Mine
end
section
open PySem PySem.W PyProof.Rows PyProof.V
set_option Elab.async false
set_option maxRecDepth 20000
namespace Mine
/-! the kit's texts, as lists of signs -/
theorem S_glued (s : List Nat) : ∀ l : List (List Nat), Txt.join (S s) (l.map S) = S (joinL s l) := by
  have key : ∀ (l : List (List Nat)) (z : Array Nat), (l.map S).foldl (fun acc p => acc ++ (S s).cps ++ p.cps) z = (z.toList ++ (l.flatMap fun x => s ++ x)).toArray := by
    intro l
    induction l with
    | nil => intro z; simp
    | cons a r ih => intro z; rw [List.map_cons, List.foldl_cons, ih]; simp [S]
  have key2 : ∀ (l : List (List Nat)) (a : List Nat), joinL s (a :: l) = a ++ l.flatMap fun x => s ++ x := by
    intro l
    induction l with
    | nil => intro a; simp [joinL]
    | cons b r ih => intro a; rw [joinL, ih]; simp; simp
  intro l
  cases l with
  | nil => rfl
  | cons a r =>
    show Builtin.Str.glued _ _ = _
    unfold Builtin.Str.glued
    rw [List.map_cons, List.drop_one, List.tail_cons, List.headD_cons, key, key2]
    simp [S]
open Builtin.Str PySem.StrLaws in
/-- the places where y stands -/
noncomputable def occL (y : List Nat) : Nat → Nat → List Nat → List Nat
  | _, _, [] => []
  | k + 1, i, _ :: r => occL y k (i + 1) r
  | 0, i, a :: r => if y.isPrefixOf (a :: r) then i :: occL y (y.length - 1) (i + 1) r else occL y 0 (i + 1) r
theorem occ_run (l y : List Nat) (hy : y ≠ []) : ∀ (m i : Nat) (st : Array Nat × Nat), i + m = l.length + 1 → st.1.size ≤ i →
    (forIn (m := Id) (List.range' i m) st (StrLaws.occBody (S l) (S y) l.length (l.length + 1))).run.fst.toList = st.1.toList ++ occL y (st.2 - i) i (l.drop i) := by
  intro m
  induction m with
  | zero =>
    intro i st h hs
    rw [List.drop_eq_nil_of_le (by lia)]
    cases h : st.2 - i <;> simp [occL]
  | succ m om =>
    intro i st h hs
    have yl : 0 < y.length := List.length_pos_iff.mpr hy
    rw [List.range'_succ, List.forIn_cons]
    unfold StrLaws.occBody
    by_cases hi : i = l.length
    · rw [if_neg (by rw [S_len]; lia)]
      have ih := om (i + 1) st (by lia) (by exact Nat.le_succ_of_le ‹_›)
      unfold StrLaws.occBody at ih
      refine ih.trans ?_
      rw [List.drop_eq_nil_of_le (by lia), List.drop_eq_nil_of_le (by lia)]
      cases h : st.2 - i <;> cases h : st.2 - (i + 1) <;> simp [occL]
    · have hlt : i < l.length := by lia
      have hd : l.drop i = l[i] :: l.drop (i + 1) := List.drop_eq_getElem_cons hlt
      have hcond : Builtin.Str.subAt (S l) (S y) i = true ↔ y.isPrefixOf (l.drop i) = true := by
        rw [StrLaws.subAt_eq, List.isPrefixOf_iff_prefix, List.prefix_iff_eq_take, S_len, beq_iff_eq]
        simp only [S_cps]
        exact eq_comm
      have hlen : y.isPrefixOf (l.drop i) = true → i + y.length ≤ l.length := fun hp => by
        have := (List.isPrefixOf_iff_prefix.mp hp).length_le
        rw [List.length_drop] at this; lia
      cases hk : st.2 - i with
      | succ k =>
        rw [if_neg (by omega)]
        have ih := om (i + 1) st (by lia) (by exact Nat.le_succ_of_le ‹_›)
        unfold StrLaws.occBody at ih
        refine ih.trans ?_
        rw [hd, show st.2 - (i + 1) = k by omega]
        simp [occL]
      | zero =>
        by_cases hp : y.isPrefixOf (l.drop i) = true
        · have h1 := hcond.mpr hp
          have h2 := hlen hp
          rw [if_pos (by rw [S_len]; exact ⟨⟨⟨by lia, by lia⟩, h2⟩, h1⟩)]
          have ih := om (i + 1) (st.1.push i, i + (S y).length) (by lia) (by simp; omega)
          unfold StrLaws.occBody at ih
          refine ih.trans ?_
          rw [hd] at hp ⊢
          simp only [occL, hp, if_true, S_len, Array.toList_push, List.append_assoc, List.singleton_append]
          congr 3
          lia
        · have h1 : ¬ Builtin.Str.subAt (S l) (S y) i = true := fun h => hp (hcond.mp h)
          rw [if_neg (fun h => h1 h.2)]
          have ih := om (i + 1) st (by lia) (by exact Nat.le_succ_of_le ‹_›)
          unfold StrLaws.occBody at ih
          refine ih.trans ?_
          rw [hd] at hp ⊢
          have hp : y.isPrefixOf (l[i] :: l.drop (i + 1)) = false := Bool.eq_false_iff.mpr hp
          simp only [occL, hp, show st.2 - (i + 1) = 0 by omega]
          rfl
theorem splitG_ne (y : List Nat) : ∀ (r : List Nat) (k : Nat), ∃ h q, splitG y k r = h :: q
  | [], k => ⟨[], [], by cases k <;> rfl⟩
  | a :: r, k + 1 => splitG_ne y r k
  | a :: r, 0 => by
    unfold splitG
    split
    · exact ⟨_, _, rfl⟩
    · split <;> exact ⟨_, _, rfl⟩
theorem S_sub (l : List Nat) (i j : Nat) : Builtin.Str.strSub (S l) i j = S ((l.drop i).take (j - i)) := by
  apply Str.ext'
  apply Array.toList_inj.mp
  rw [StrLaws.strSub_toList]
  simp
theorem parts_run (l y : List Nat) (hy : y ≠ []) : ∀ (r : List Nat) (i k p : Nat), l.drop i = r → (k = 0 → p ≤ i) → (0 < k → p = i + k) →
    ∃ h q, splitG y k r = h :: q ∧ StrLaws.partsFrom (S l) y.length p (occL y k i r) = S ((l.drop p).take (i - p) ++ h) :: q.map S := by
  intro r
  induction r with
  | nil =>
    intro i k p hd h0 h1
    have hl : l.length ≤ i := List.drop_eq_nil_iff.mp hd
    refine ⟨[], [], by cases k <;> rfl, ?_⟩
    have e : occL y k i [] = [] := by cases k <;> rfl
    rw [e]
    show [Builtin.Str.strSub (S l) p (S l).length] = _
    rw [S_sub, S_len, List.append_nil, List.map_nil]
    congr 2
    by_cases hp : p ≤ i
    · rw [List.take_of_length_le (by simp), List.take_of_length_le (by simp; lia)]
    · rw [List.drop_eq_nil_of_le (by lia)]; simp
  | cons a r ih =>
    intro i k p hd h0 h1
    cases k with
    | succ k =>
      have h1 := h1 (by exact Nat.succ_pos _)
      have hd' : l.drop (i + 1) = r := by rw [← List.drop_drop, hd]; rfl
      obtain ⟨h, q, e1, e2⟩ := ih (i + 1) k p hd' (by lia) (by lia)
      refine ⟨h, q, e1, ?_⟩
      show StrLaws.partsFrom (S l) y.length p (occL y k (i + 1) r) = _
      rw [e2, show i + 1 - p = 0 by omega, show i - p = 0 by omega]
    | zero =>
      have h0 := h0 rfl
      have yl : 0 < y.length := List.length_pos_iff.mpr hy
      have hd' : l.drop (i + 1) = r := by rw [← List.drop_drop, hd]; rfl
      by_cases hp : y.isPrefixOf (a :: r) = true
      · obtain ⟨h, q, e1, e2⟩ := ih (i + 1) (y.length - 1) (i + y.length) hd' (by lia) (by lia)
        refine ⟨[], h :: q, by simp only [splitG, hp, if_true, e1], ?_⟩
        simp only [occL, hp, if_true]
        show Builtin.Str.strSub (S l) p i :: StrLaws.partsFrom (S l) y.length (i + y.length) _ = _
        rw [e2, S_sub, show i + 1 - (i + y.length) = 0 by omega]
        simp
      · have hp : y.isPrefixOf (a :: r) = false := Bool.eq_false_iff.mpr hp
        obtain ⟨h, q, e1, e2⟩ := ih (i + 1) 0 p hd' (by lia) (by lia)
        refine ⟨a :: h, q, by simp only [splitG, hp, e1]; rfl, ?_⟩
        have e3 : occL y 0 i (a :: r) = occL y 0 (i + 1) r := by simp only [occL, hp]; rfl
        rw [e3, e2]
        congr 2
        have e4 : (l.drop p).take (i + 1 - p) = (l.drop p).take (i - p) ++ [a] := by
          rw [show i + 1 - p = i - p + 1 by lia, List.take_add_one, List.getElem?_drop, show p + (i - p) = i by lia]
          have : l[i]? = some a := by
            have := congrArg (·[0]?) hd
            simpa using this
          rw [this]; rfl
        rw [e4, List.append_assoc]; rfl
theorem parts_split (y l : List Nat) (hy : y ≠ []) : Builtin.Str.partsBetween (S l) (Builtin.Str.occurrences (S l) (S y) 0 (S l).length ((S l).length + 1)) (S y).length = (splitG y 0 l).map S := by
  rw [StrLaws.partsBetween_eq, StrLaws.occ_eq, S_len, S_len]
  have h1 := occ_run l y hy (l.length + 1) 0 (#[], 0) (by lia) (Nat.le_refl _)
  rw [show l.length + 1 - 0 = l.length + 1 from rfl, h1]
  obtain ⟨h, q, e1, e2⟩ := parts_run l y hy l 0 0 0 rfl (fun _ => Nat.le_refl _) (fun h => absurd h (Nat.lt_irrefl _))
  simp only [List.nil_append, Nat.sub_zero, List.drop_zero] at e2 ⊢
  rw [e2, e1]
  simp
theorem S_split (y l : List Nat) (hy : y ≠ []) : Txt.split (S l) (S y) = (splitG y 0 l).map S := by
  have hy' : ((S y).length == 0) = false := by rw [S_len]; simpa using hy
  have h1 := m_split (S l) (S y) hy'
  have h2 : GW2.means .split (.str (S l)) (.str (S y)) = some (.list ((Builtin.Str.partsBetween (S l) (Builtin.Str.occurrences (S l) (S y) 0 (S l).length ((S l).length + 1)) (S y).length).map .str)) := by
    show (if ((S y).length == 0) = true then Option.none else some (WData.list (_))) = _
    rw [if_neg (by rw [hy']; nofun)]
    rfl
  rw [h2, parts_split y l hy] at h1
  injection h1 with h1
  injection h1 with h1
  have inj : ∀ a b : List Str, a.map WData.str = b.map WData.str → a = b := by
    intro a
    induction a with
    | nil => intro b h; cases b <;> simp_all
    | cons x a ih => intro b h; cases b with
      | nil => simp at h
      | cons z b => simp only [List.map_cons, List.cons.injEq, WData.str.injEq] at h; rw [h.1, ih b h.2]
  exact (inj _ _ h1).symm
theorem S_replace (y z l : List Nat) (hy : y ≠ []) : Txt.replace (S l) (S y) (S z) = S (joinL z (splitG y 0 l)) := by
  have h1 := m_replace (S l) (S y) (S z)
  have h2 : GW3.means .replace (.str (S l)) (.str (S y)) (.str (S z)) = some (WData.str (Builtin.Str.glued (S z) (Builtin.Str.partsBetween (S l) (Builtin.Str.occurrences (S l) (S y) 0 (S l).length ((S l).length + 1)) (S y).length))) := rfl
  rw [h2, parts_split y l hy] at h1
  injection h1 with h1
  injection h1 with h1
  rw [← h1]
  exact S_glued z _
theorem S_endswith (l y : List Nat) : Txt.endswith (S l) (S y) = sfx l y := by
  unfold Txt.endswith sfx
  rw [StrLaws.subAt_eq, S_len, S_len, Bool.eq_iff_iff, List.isSuffixOf_iff_suffix, List.suffix_iff_eq_drop]
  simp only [Nat.zero_add, Bool.and_eq_true, decide_eq_true_eq, beq_iff_eq, S_cps]
  constructor
  · rintro ⟨h1, h2⟩
    have h3 : (l.drop (l.length - y.length)).take y.length = l.drop (l.length - y.length) := List.take_of_length_le (by simp; lia)
    rw [h3] at h2
    exact h2.symm
  · intro h
    have hl : y.length ≤ l.length := by
      rw [h]; simp
    refine ⟨hl, ?_⟩
    rw [← h, List.take_of_length_le (Nat.le_refl _)]
theorem isSpace_asc : ∀ c, c < 128 → Unicode.isSpace c = isSp c := by decide +kernel
theorem isNl_asc : ∀ c, c < 128 → Unicode.isLineBreak c = isNl c := by decide +kernel
theorem dropWhile_congr' {p q : Nat → Bool} : ∀ {l : List Nat}, (∀ c ∈ l, p c = q c) → l.takeWhile p = l.takeWhile q ∧ l.dropWhile p = l.dropWhile q
  | [], _ => ⟨rfl, rfl⟩
  | a :: r, h => by
    have ha := h a (.head _)
    have ih := dropWhile_congr' (l := r) fun c hc => h c (.tail _ hc)
    simp only [List.takeWhile_cons, List.dropWhile_cons, ha]
    split <;> simp [ih]
theorem S_rstrip (l : List Nat) (h : asc l = true) : Txt.rstrip (S l) = S (rstr l) := by
  unfold Txt.rstrip
  rw [W.stripBy_eq]
  show Builtin.Str.strSub (S l) 0 ((S l).length - (((S l).cps.toList.drop 0).reverse.takeWhile Unicode.isSpace).length) = _
  rw [S_sub, S_len, List.drop_zero, List.drop_zero, Nat.sub_zero, S_cps]
  have ha : ∀ c ∈ l.reverse, Unicode.isSpace c = isSp c := fun c hc => isSpace_asc c (by
    have := List.all_eq_true.mp h c (List.mem_reverse.mp hc)
    simpa using this)
  rw [show l.toArray.toList = l from rfl, (dropWhile_congr' ha).1]
  unfold rstr
  congr 1
  have e := List.takeWhile_append_dropWhile (p := isSp) (l := l.reverse)
  have e2 := congrArg List.reverse e
  rw [List.reverse_append, List.reverse_reverse] at e2
  generalize hA : (l.reverse.takeWhile isSp) = A at *
  generalize hB : (l.reverse.dropWhile isSp) = B at *
  subst e2
  simp
/-- the lines -/
noncomputable def app (pre : List Nat) (L : List (List Nat)) : List (List Nat) := if pre = [] then L else match L with
  | [] => [pre]
  | h :: q => (pre ++ h) :: q
theorem lns_brk {a : Nat} {r : List Nat} (h : isNl a = true) (hn : (a == 13 && r[0]? == some 10) = false) : lns (a :: r) = [] :: lns r := by
  cases r with
  | nil => simp [lns, h]
  | cons b r => 
    rw [lns]
    · rw [if_pos h]
    · intro r' e1 e2
      simp at e2
      simp [e1, e2.1] at hn
    · nofun
theorem lns_sign {a : Nat} {r : List Nat} (h : isNl a = false) : lns (a :: r) = app [a] (lns r) := by
  cases r with
  | nil => simp [lns, h, app]
  | cons b r => 
    rw [lns]
    · rw [if_neg (by simp [h])]
      cases lns (b :: r) <;> simp [app]
    · intro r' e1 e2
      subst e1
      simp [isNl] at h
    · nofun
theorem app_app (pre : List Nat) (a : Nat) (L : List (List Nat)) : app pre (app [a] L) = app (pre ++ [a]) L := by
  unfold app
  by_cases h : pre = [] <;> cases L <;> simp [h]
theorem lines_run (l : List Nat) (hl : asc l = true) : ∀ (r : List Nat) (i : Nat) (st : StrLaws.LsSt), i ≤ l.length → l.drop i = r → st.2 ≤ i + 1 →
    (StrLaws.lsEnd (S l) (Id.run (forIn (m := Id) (List.range' i r.length) st (StrLaws.lsBody (S l))))).map (fun p => Builtin.Str.strSub (S l) p.1 p.2.1) =
      st.1.toList.map (fun p => Builtin.Str.strSub (S l) p.1 p.2.1) ++ (if st.2 = i + 1 then lns (r.drop 1) else app ((l.drop st.2).take (i - st.2)) (lns r)).map S := by
  intro r
  induction r with
  | nil =>
    intro i st hi hd hp
    obtain ⟨acc, p⟩ := st
    have hn : i = l.length := by have := List.drop_eq_nil_iff.mp hd; lia
    show (StrLaws.lsEnd (S l) (acc, p)).map _ = _
    unfold StrLaws.lsEnd
    simp only [S_len]
    by_cases h1 : p = i + 1
    · rw [if_neg (by lia), if_pos h1]; simp [lns]
    · rw [if_neg h1]
      simp only at hp
      by_cases h2 : p < l.length
      · rw [if_pos h2]
        have : (l.drop p).take (i - p) ≠ [] := by
          intro h
          have := congrArg List.length h
          simp at this
          lia
        unfold app
        rw [if_neg this]
        simp only [lns, Array.toList_push, List.map_append, List.map_cons, List.map_nil, S_sub]
        rw [hn]
      · rw [if_neg h2]
        have : (l.drop p).take (i - p) = [] := by rw [List.drop_eq_nil_of_le (by exact Nat.le_of_not_lt ‹_›)]; simp
        unfold app
        rw [if_pos this]
        simp [lns]
  | cons a r lr =>
    intro i st hi hd hp
    obtain ⟨acc, p⟩ := st
    have hlt : i < l.length := by
      have := congrArg List.length hd
      simp at this
      omega
    have hd' : l.drop (i + 1) = r := by rw [← List.drop_drop, hd]; rfl
    have ha : l[i]? = some a := by
      have := congrArg (·[0]?) hd
      simpa using this
    have hga : (S l).cps.getD i 0 = a := by
      simp only [S_cps, Array.getD_eq_getD_getElem?, List.getElem?_toArray, ha, Option.getD_some]
    have haa : Unicode.isLineBreak a = isNl a := isNl_asc a (by
      have := List.all_eq_true.mp hl a (List.mem_of_getElem? ha)
      simpa using this)
    rw [List.length_cons, List.range'_succ, List.forIn_cons]
    unfold StrLaws.lsBody
    rw [hga, haa]
    simp only at hp
    by_cases h1 : p = i + 1
    · have ih := lr (i + 1) (acc, p) (by assumption) hd' (by simp only; exact Nat.le_succ_of_le ‹_›)
      have hc : (decide ((acc, p).2 ≤ i) && isNl a) = false := by simp; lia
      rw [hc]
      unfold StrLaws.lsBody at ih
      refine ih.trans ?_
      rw [if_neg (by simp only; lia), if_pos h1]
      simp only [show i + 1 - p = 0 by lia, List.take_zero, List.drop_succ_cons, List.drop_zero]
      rfl
    · by_cases h2 : isNl a = true
      · have hc : (decide ((acc, p).2 ≤ i) && isNl a) = true := by simp [h2]; lia
        rw [hc]
        have hnx : StrLaws.lsNext (S l) i = if (a == 13 && r[0]? == some 10) = true then i + 2 else i + 1 := by
          unfold StrLaws.lsNext
          rw [hga]
          have e : (S l).cps[i + 1]? = r[0]? := by
            rw [S_cps, List.getElem?_toArray, ← hd', List.getElem?_drop]
          rw [e]
        have ih := lr (i + 1) (acc.push (p, i, StrLaws.lsNext (S l) i), StrLaws.lsNext (S l) i) (by assumption) hd' (by rw [hnx]; split <;> (first | exact Nat.le_add_right _ _ | exact Nat.le_refl _))
        unfold StrLaws.lsBody at ih
        refine ih.trans ?_
        rw [if_neg h1]
        simp only [Array.toList_push, List.map_append, List.map_cons, List.map_nil, List.append_assoc, S_sub]
        congr 1
        by_cases hcr : (a == 13 && r[0]? == some 10) = true
        · rw [if_pos hcr] at hnx
          rw [hnx, if_pos rfl]
          obtain ⟨e13, e10⟩ := Bool.and_eq_true_iff.mp hcr
          cases eq_of_beq e13
          obtain ⟨r', rfl⟩ : ∃ r', r = 10 :: r' := by
            cases r with
            | nil => first | exact no e10 | exact nob e10 | cases e10
            | cons b r' => cases Option.some.inj (eq_of_beq e10); exact ⟨r', rfl⟩
          unfold app
          by_cases hq : (l.drop p).take (i - p) = []
          · simp [hq, lns]
          · simp [hq, lns]
        · rw [if_neg hcr] at hnx
          rw [hnx, if_neg (by lia)]
          have e1 : lns (a :: r) = [] :: lns r := lns_brk h2 (Bool.eq_false_iff.mpr hcr)
          rw [e1]
          unfold app
          by_cases hq : (l.drop p).take (i - p) = []
          · simp [hq]
          · simp [hq]
      · have h2 : isNl a = false := Bool.eq_false_iff.mpr h2
        have hc : (decide ((acc, p).2 ≤ i) && isNl a) = false := by simp [h2]
        rw [hc]
        have ih := lr (i + 1) (acc, p) (by assumption) hd' (by simp only; exact Nat.le_succ_of_le ‹_›)
        unfold StrLaws.lsBody at ih
        refine ih.trans ?_
        rw [if_neg h1, if_neg (by simp only; lia), lns_sign h2, app_app]
        simp only
        have e4 : (l.drop p).take (i + 1 - p) = (l.drop p).take (i - p) ++ [a] := by
          rw [show i + 1 - p = i - p + 1 by lia, List.take_add_one, List.getElem?_drop, show p + (i - p) = i by lia, ha]; rfl
        rw [e4]
theorem S_lines (l : List Nat) (h : asc l = true) : Txt.lines (S l) = (lns l).map S := by
  have h1 : Txt.lines (S l) = linesOf (S l) := by
    unfold Txt.lines
    split
    · rename_i h
      unfold linesOf
      rw [beq_iff_eq.mp h]
      show [S l] = [Builtin.Str.strSub (S l) 0 (S l).length]
      rw [StrLaws.sub_whole]
    · rfl
  rw [h1]
  have h2 : linesOf (S l) = (Builtin.Str.lineSpans (S l)).map (fun p => Builtin.Str.strSub (S l) p.1 p.2.1) := by
    unfold linesOf lineCuts
    rw [List.map_map]
    apply List.map_congr_left
    intro ⟨i, j, k⟩ _
    rfl
  rw [h2, StrLaws.ls_eq, S_len]
  have := lines_run l h l 0 (#[], 0) (Nat.zero_le _) rfl (by simp)
  rw [this]
  simp [app]
/-! the order of texts -/
theorem leS_lt : ∀ (a b : List Nat), leS a b = !PySem.Spec.ltCps b a
  | [], [] => rfl
  | [], _ :: _ => rfl
  | _ :: _, [] => rfl
  | a :: r, b :: q => by
    simp only [leS, PySem.Spec.ltCps, leS_lt r q]
    by_cases h1 : a < b
    · simp [h1, Nat.lt_asymm h1]; lia
    · by_cases h2 : b < a
      · simp [h1, h2]; lia
      · obtain rfl : a = b := by lia
        simp
theorem leS_trans : ∀ (a b c : List Nat), leS a b = true → leS b c = true → leS a c = true
  | [], _, _, _, _ => by simp [leS]
  | a :: r, [], _, h, _ => by simp [leS] at h
  | a :: r, b :: q, [], _, h => by simp [leS] at h
  | a :: r, b :: q, c :: t, h1, h2 => by
    simp only [leS, Bool.or_eq_true, decide_eq_true_eq, Bool.and_eq_true, beq_iff_eq] at h1 h2 ⊢
    rcases h1 with h1 | ⟨rfl, h1⟩
    · rcases h2 with h2 | ⟨rfl, h2⟩
      · left; exact Nat.lt_trans ‹_› ‹_›
      · left; exact h1
    · rcases h2 with h2 | ⟨rfl, h2⟩
      · left; exact h2
      · right; exact ⟨rfl, leS_trans r q t h1 h2⟩
theorem leS_total : ∀ (a b : List Nat), (leS a b || leS b a) = true
  | [], _ => by simp [leS]
  | a :: r, [] => by simp [leS]
  | a :: r, b :: q => by
    have ih := leS_total r q
    simp only [Bool.or_eq_true] at ih
    simp only [leS, Bool.or_eq_true, decide_eq_true_eq, Bool.and_eq_true, beq_iff_eq]
    rcases Nat.lt_trichotomy a b with h | rfl | h
    · left; left; exact h
    · rcases ih with ih | ih
      · left; right; exact ⟨rfl, ih⟩
      · right; right; exact ⟨rfl, ih⟩
    · right; left; exact h
theorem leS_anti : ∀ (a b : List Nat), leS a b = true → leS b a = true → a = b
  | [], [], _, _ => rfl
  | [], _ :: _, _, h => by simp [leS] at h
  | _ :: _, [], h, _ => by simp [leS] at h
  | a :: r, b :: q, h1, h2 => by
    simp only [leS, Bool.or_eq_true, decide_eq_true_eq, Bool.and_eq_true, beq_iff_eq] at h1 h2
    rcases h1 with h1 | ⟨rfl, h1⟩
    · rcases h2 with h2 | ⟨rfl, h2⟩
      · lia
      · lia
    · rcases h2 with h2 | ⟨_, h2⟩
      · lia
      · rw [leS_anti r q h1 h2]
theorem rising_le : ∀ (l : List Str) (p : Str), risingS p l = true → ∀ x ∈ l, leS p.cps.toList x.cps.toList = true
  | [], _, _, _, h => by cases h
  | a :: r, p, h, x, hx => by
    simp only [risingS, Bool.and_eq_true] at h
    have h1 : leS p.cps.toList a.cps.toList = true := by rw [leS_lt]; exact h.1
    rcases List.mem_cons.mp hx with rfl | hx
    · exact h1
    · exact leS_trans _ _ _ h1 (rising_le r a h.2 x hx)
theorem rising_pw : ∀ (l : List Str) (p : Str), risingS p l = true → (p :: l).Pairwise fun a b => leS a.cps.toList b.cps.toList = true
  | [], p, _ => List.pairwise_singleton _ _
  | a :: r, p, h => by
    have h0 := rising_le _ _ h
    simp only [risingS, Bool.and_eq_true] at h
    exact List.pairwise_cons.mpr ⟨h0, rising_pw r a h.2⟩
theorem S_sorted (l : List (List Nat)) (ss : List Str) (hp : ss.Perm (l.map S)) (hs : sortedS ss = true) : ss = (srt l).map S := by
  have hpw : ss.Pairwise fun a b => leS a.cps.toList b.cps.toList = true := by
    cases ss with
    | nil => exact .nil
    | cons p r => exact rising_pw r p hs
  have h1 : (ss.map fun x => x.cps.toList) = srt l := by
    refine List.Perm.eq_of_pairwise (le := fun a b => leS a b = true) (fun a b _ _ h1 h2 => leS_anti a b h1 h2) ?_ ?_ ?_
    · exact List.pairwise_map.mpr hpw
    · exact List.pairwise_mergeSort leS_trans leS_total l
    · have h2 := hp.map (fun x => x.cps.toList)
      rw [List.map_map] at h2
      have e : ((fun x : Str => x.cps.toList) ∘ S) = id := rfl
      rw [e, List.map_id] at h2
      exact h2.trans (List.mergeSort_perm l leS).symm
  rw [← h1, List.map_map]
  have e : (S ∘ fun x : Str => x.cps.toList) = id := by funext x; exact S_of x
  rw [e, List.map_id]
end Mine
end
section
open PySem PySem.W PyProof.Rows PyProof.V PySem.Calls
set_option Elab.async false
set_option maxRecDepth 20000
namespace Mine
noncomputable def numIs (n : int_private% "Numeral") (i : Int) : Bool := (int_private% "Numeral.casesOn") (motive := fun _ => Bool) n false (fun _ => false) false (fun j => j == i)
theorem numIs_eq {n : int_private% "Numeral"} {i : Int} (h : numIs n i = true) : n = (int_private% "Numeral.value") i := by
  cases n with
  | value j =>
    have : j = i := by simpa [numIs] using h
    rw [this]
  | _ => cases h
noncomputable def hexL : List Nat := [48,49,50,51,52,53,54,55,56,57,65,66,67,68,69,70,97,98,99,100,101,102]
theorem hexL_all : (hexL.all fun a => hexL.all fun b => numIs ((int_private% "readNumeral") 0 16 [a, b]) ((16 * (hexV a).getD 0 + (hexV b).getD 0 : Nat) : Int)) = true := by decide +kernel
theorem hexV_big {a : Nat} (h : 103 ≤ a) : hexV a = none := by
  unfold hexV
  rw [if_neg (fun e => absurd (Nat.le_trans h e.2) (by decide)), if_neg (fun e => absurd (Nat.le_trans h e.2) (by decide)), if_neg (fun e => absurd (Nat.le_trans h e.2) (by decide))]
theorem hexV_tab : ((List.range 103).all fun a => (hexV a).isNone || hexL.contains a) = true := by decide +kernel
theorem hexV_mem {a x : Nat} (h : hexV a = some x) : a ∈ hexL := by
  by_cases ha : a < 103
  · have := List.all_eq_true.mp hexV_tab a (List.mem_range.mpr ha)
    rw [h] at this
    exact List.contains_iff_mem.mp this
  · rw [hexV_big (Nat.le_of_not_lt ha)] at h
    cases h
theorem hexL_ok : (hexL.all fun a => a != 0 && decide (a < 128)) = true := by decide +kernel
theorem hexL_ne {a : Nat} (h : a ∈ hexL) : (a != 0) = true := (Bool.and_eq_true_iff.mp (List.all_eq_true.mp hexL_ok a h)).1
theorem hexL_lt {a : Nat} (h : a ∈ hexL) : decide (a < 128) = true := (Bool.and_eq_true_iff.mp (List.all_eq_true.mp hexL_ok a h)).2
theorem hex_reads {a b x y : Nat} (ha : hexV a = some x) (hb : hexV b = some y) : (int_private% "readNumeral") 0 16 [a, b] = (int_private% "Numeral.value") ((16 * x + y : Nat) : Int) := by
  refine numIs_eq ?_
  have := List.all_eq_true.mp (List.all_eq_true.mp hexL_all a (hexV_mem ha)) b (hexV_mem hb)
  rw [ha, hb] at this
  exact this
theorem wp_text16 {M : Model} {A : Around} {E : Value → Shared → Prop} {s : Shared} {Q : Value → Shared → Prop} {v : Value} {text : List Nat} {n : Int}
    (hs : (text.takeWhile (· != 0)).length ≤ 640) (hr : (int_private% "readNumeral") 0 16 (text.takeWhile (· != 0)) = (int_private% "Numeral.value") n)
    (ha : ((text.takeWhile (· != 0)).length == text.length) = true) (h : Q (.int n s.toks) { s with toks := s.toks + 1 }) :
    wpAny M A ((int_private% "intFromText") v text 16) Q E s := by
  obtain ⟨hp, g, d, tk, os⟩ := s
  repeat (any_goals (first
    | assumption
    | (with_reducible refine wpAny_ite_true (decide_eq_true hs) ?_)
    | (with_reducible refine wpAny_ite_true (decide_eq_true ha) ?_)
    | wp_step))
  all_goals (try rw [hr])
  all_goals (try dsimp only)
  repeat (any_goals (first
    | assumption
    | (with_reducible refine wpAny_ite_true (decide_eq_true hs) ?_)
    | (with_reducible refine wpAny_ite_true (decide_eq_true ha) ?_)
    | wp_step))
structure Hid (p : Prop) : Prop where
  out : p
theorem typeCall_int_2 (a b : Value) : checkTypeCall "int" ⟨[a, b], []⟩ = pure () := by kernel_rfl
theorem newCall_int_2 (a b : Value) : checkBuiltinCall "int.__new__" ⟨[.type "int", a, b], []⟩ = pure () := by kernel_rfl
set_option maxHeartbeats 4000000 in
theorem gives_int16 {a b x y : Nat} (ha : hexV a = some x) (hb : hexV b = some y) {t u : Tok} : Gives (Builtin.«int.__new__» ⟨[.type "int", .str (S [a, b]) t, .int 16 u], []⟩) (.int ((16 * x + y : Nat) : Int)) :=
  .of_wp fun M A E s Q h => by
    obtain ⟨hp, g, d, tk, os⟩ := s
    have f1 := F.conv_sub_int
    have f2 := F.madeHere_int
    have f6 : typeOf (.str (S [a, b]) t) = pure (.type "str") := rfl
    have ma := hexV_mem ha
    have mb := hexV_mem hb
    have hz : [a, b].takeWhile (· != 0) = [a, b] := by
      rw [List.takeWhile_cons_of_pos (p := fun x => x != 0) (hexL_ne ma), List.takeWhile_cons_of_pos (p := fun x => x != 0) (hexL_ne mb)]
      rfl
    have has : ((S [a, b]).cps.all (· < 128)) = true := by
      have h1 := of_decide_eq_true (hexL_lt ma)
      have h2 := of_decide_eq_true (hexL_lt mb)
      simp [S, h1, h2]
    have hk := Hid.mk (hex_reads ha hb)
    clear ma mb
    repeat (any_goals (first
      | assumption
      | (with_reducible refine wpAny_ite_true has ?_)
      | ((with_reducible show wpAny _ _ ((int_private% "intFromText") _ _ _) _ _ _); refine wp_text16 (by rw [show (S [a, b]).cps.toList = [a, b] from rfl, hz]; decide) (by rw [show (S [a, b]).cps.toList = [a, b] from rfl, hz]; exact hk.out) (by rw [show (S [a, b]).cps.toList = [a, b] from rfl, hz]; rfl) ?_)
      | wp_step))
    have e : (if ((S [a, b]).cps.all fun x => decide (x < 128)) = true then (S [a, b]).cps.toList else Unicode.numberText (S [a, b]).cps.toList) = [a, b] := if_pos has
    have hs : ([a, b] : List Nat).length ≤ 640 := by simp
    have ha2 : (([a, b] : List Nat).length == ([a, b] : List Nat).length) = true := rfl
    simp only [e, hz, show Int.toNat 16 = 16 from rfl]
    repeat (any_goals (first
      | assumption
      | (with_reducible refine wpAny_ite_true (by decide) ?_)
      | (with_reducible refine wpAny_ite_true hs ?_)
      | wp_step))
    all_goals (try rw [hk.out])
    all_goals (try dsimp only)
    repeat (any_goals (first
      | assumption
      | (with_reducible refine wpAny_ite_true ha2 ?_)
      | wp_step))
    all_goals first | exact ⟨_, rfl, h⟩ | skip
theorem args_object_init_3 (a b c : Value) : argsOk "object.__init__" ⟨[a, b, c], []⟩ := by
  unfold argsOk; kernel_rfl
theorem op_int16' {prog : Program} {w : World} {A : Around} {E : Value → Shared → Prop} {s : Shared} {a b : Nat} {x y : Nat} (ha : hexV a = some x) (hb : hexV b = some y) {t u : Tok} {Q : Value → Shared → Prop} (hQ : ∀ t' k, Q (.int (16 * x + y : Nat) t') { s with toks := k }) :
    wpAny (model prog w) A (call (.type "int") [.str (S [a, b]) t, .int 16 u]) Q E s :=
  callType_new F.called_int F.newNe_int (typeCall_int_2 _ _) (newCall_int_2 _ _) (fun obj => args_object_init_3 obj _ _) F.entry_int_new (gives_int16 ha hb).meets (show (Made.int _).post _ s from ⟨rfl, hQ _ _⟩)
end Mine
end
section
open PySem PySem.W PyProof.Rows PyProof.V PySem.Calls
set_option Elab.async false
set_option maxRecDepth 20000
namespace Mine
open Builtin.Str in
theorem wp_look {prog : Program} {w : World} {A : Around} {E : Value → Shared → Prop} {s : Shared} {a : Addr} {items : Array Value} {c : Nat} {x : Str} {t : Tok} {Q : Mapped → Shared → Prop} (hl : s.heap.IsList a items) (hc : c < 1000000) (hx : items[c]? = some (.str x t)) (h : Q (.text x) { s with toks := s.toks + 1 }) :
    wpAny (model prog w) A (tableLookup (.ref a) c) Q E s := by
  obtain ⟨hp, g, d, tk, os⟩ := s
  unfold tableLookup
  refine wpAny_bind (wpAny_attempt (wpAny_bind ?_))
  refine wpAny_mkInt ?_
  refine wpAny_getItem_list (items := items) (x := .str x t) hl (by lia) (by lia) (by simpa using hx) ?_
  repeat (any_goals (first | assumption | wp_step))
theorem forIn_by {M : Model} {A : Around} {E : Value → Shared → Prop} {s : Shared} {α β : Type} (f : α → β → Sem (ForInStep β)) (I : List α → β → Shared → Prop) (Q : β → Shared → Prop)
    (turn : ∀ f', f' = f → ∀ x rest b s, I (x :: rest) b s → wpAny M A (f' x b) (fun r s' => match r with | .yield b' => I rest b' s' | .done b' => Q b' s') E s)
    (fin : ∀ b s, I [] b s → Q b s) (xs : Array α) (b : β) (h : I xs.toList b s) : wpAny M A (forIn xs b f) Q E s :=
  MeetsSeq2.wpAny_forIn_array f I Q (turn f rfl) fin xs b h
inductive TrI (hp : Heap) (g : Array GenState) (d : Drawn) (os : OsState) (l : List Nat) (tb : List (List Nat)) (rest : List Nat) : List Str × Nat × Bool × List (Nat × Option Nat) × Bool → Shared → Prop where
  | mk {dn : List Nat} {k : Nat} {p : List Str} {n : Nat} {f : Bool} {kn : List (Nat × Option Nat)} (e1 : l = dn ++ rest) (e2 : p.reverse.foldl (fun acc p => acc ++ p.cps) #[] = (dn.flatMap fun c => tb.getD c []).toArray)
    (e3 : n = (dn.flatMap fun c => tb.getD c []).length) (e4 : ∀ c o, kn.lookup c = some o → ∃ e, o = some e ∧ tb.getD c [] = [e]) : TrI hp g d os l tb rest (p, n, f, kn, false) ⟨hp, g, d, k, os⟩
theorem TrI.next {hp : Heap} {g : Array GenState} {d : Drawn} {os : OsState} {l : List Nat} {tb : List (List Nat)} {x : Nat} {rest : List Nat} {p : List Str} {n : Nat} {dn : List Nat} (e1 : l = dn ++ x :: rest) (e2 : p.reverse.foldl (fun acc p => acc ++ p.cps) #[] = (dn.flatMap fun c => tb.getD c []).toArray)
    (e3 : n = (dn.flatMap fun c => tb.getD c []).length) {y : Str} (hy : y = S (tb.getD x [])) (k' : Nat) (hn : k' = y.length) (f : Bool) (kn : List (Nat × Option Nat)) (hk : ∀ c o, kn.lookup c = some o → ∃ e, o = some e ∧ tb.getD c [] = [e]) (k : Nat) :
    TrI hp g d os l tb rest (y :: p, n + k', f, kn, false) ⟨hp, g, d, k, os⟩ := by
  subst hy
  refine .mk (dn := dn ++ [x]) (by rw [e1, List.append_assoc]; rfl) ?_ ?_ hk
  · rw [List.flatMap_append, List.reverse_cons, List.foldl_append, e2]
    simp [S]
  · rw [e3, hn, S_len, List.flatMap_append, List.length_append, List.flatMap_singleton]
theorem wp_one {prog : Program} {w : World} {A : Around} {E : Value → Shared → Prop} {s : Shared} {x : Str} {u : Tok} {a : Addr} {Q : Value × Str × Value → Shared → Prop} (h : Q (.str x u, x, .ref a) s) :
    wpAny (model prog w) A (Builtin.Str.strOneArg "translate" ⟨[.str x u, .ref a], []⟩) Q E s := by
  unfold Builtin.Str.strOneArg
  repeat (any_goals (first | assumption | wp_step))
theorem meets_translate {prog : Program} {w : World} {l : List Nat} {tb : List (List Nat)} {a : Addr} {u : Tok} {A : Around} {s : Shared} {items : Array Value} (hl : s.heap.IsList a items) (hlen : l.length ≤ 1000000) (ht : tb.length ≤ 1000000) (hc : ∀ c ∈ l, c < tb.length) (h4 : ∀ x ∈ tb, x.length ≤ 4)
    (hit : ∀ (c : Nat) (x : List Nat), tb[c]? = some x → ∃ t, items[c]? = some (Value.str (S x) t)) {E : Value → Shared → Prop} {Q : Value → Shared → Prop} (hQ : ∀ t' k, Q (.str (S (l.flatMap fun c => tb.getD c [])) t') { s with toks := k }) :
    wpAny (model prog w) A (Builtin.«str.translate» ⟨[.str (S l) u, .ref a], []⟩) (fun fin s' => ∃ v, fin = .done (.ret v) ∧ Q v s') E s := by
  obtain ⟨hp, g, d, tk, os⟩ := s
  refine wpAny_bind (wp_one ?_)
  have size : ∀ dn : List Nat, (dn.flatMap fun c => tb.getD c []).length ≤ 4 * dn.length := by
    intro dn
    induction dn with
    | nil => simp
    | cons c r ih =>
      have : (tb.getD c []).length ≤ 4 := by
        rw [List.getD_eq_getElem?_getD]
        cases hx : tb[c]? with
        | none => simp
        | some x => exact h4 x (List.mem_of_getElem? hx)
      simp only [List.flatMap_cons, List.length_append, List.length_cons]
      lia
  have small : ∀ n, n ≤ 4000000 → Builtin.Str.tooLong n = false := fun n h => by
    unfold Builtin.Str.tooLong
    rw [sizeLine_eq]
    exact decide_eq_false (by lia)
  have hat : ∀ x, x ∈ l → ∃ t, items[x]? = some (Value.str (S (tb.getD x [])) t) := fun x hx => by
    have := hc x hx
    have e : tb[x]? = some (tb.getD x []) := by simp [this]
    exact hit _ _ e
  by_cases h0 : l = []
  · subst h0
    refine wpAny_ite_true rfl ?_
    refine wpAny_bind (wpAny_rule ?_)
    show wpAny _ _ (pure (Value.str (S []) u) >>= _) _ _ _
    exact wpAny_bind (wpAny_pure (wpAny_pure ⟨_, rfl, hQ u tk⟩))
  refine wpAny_ite_false (by simpa using h0) ?_
  refine wpAny_bind (forIn_by _ (TrI hp g d os l tb) _ ?turn ?fin _ _ ?start)
  case start => exact .mk (dn := []) rfl rfl rfl fun c o h => no h
  case fin =>
    intro b s' hI
    cases hI with | @mk dn k p n f kn e1 e2 e3 e4
    rw [List.append_nil] at e1
    subst e1
    have hs := size l
    have hn := small n (by lia)
    have e6 : (⟨p.reverse.foldl (fun acc p => acc ++ p.cps) #[]⟩ : Str) = S (l.flatMap fun c => tb.getD c []) := by rw [e2]; rfl
    have hl9 : (S (l.flatMap fun c => tb.getD c [])).length ≤ sizeLine := by rw [S_len, sizeLine_eq]; lia
    refine wpAny_ite_false (by rw [hn]; decide) ?_
    show wpAny _ _ (mkStr (⟨p.reverse.foldl (fun acc p => acc ++ p.cps) #[]⟩ : Str) >>= fun v => ret v) _ _ _
    rw [e6]
    exact wpAny_bind (wpAny_mkStr (wpAny_pure ⟨_, rfl, hQ _ _⟩) hl9)
  case turn =>
    intro B hB x rest b s' hI
    cases hI with | @mk dn k p n f kn e1 e2 e3 e4
    have hs := size dn
    have hdl : dn.length ≤ l.length := by rw [e1]; simp
    have hn := small n (by lia)
    obtain ⟨t, hx⟩ := hat x (by rw [e1]; simp)
    have hx9 : x < 1000000 := by have := hc x (by rw [e1]; simp); lia
    have slow := fun (y : Str) (hy : y = S (tb.getD x [])) (n : Nat) (hn : n = y.length) (f : Bool) kn hk k => TrI.next (hp := hp) (g := g) (d := d) (os := os) e1 e2 e3 hy n hn f kn hk k
    have HK := Hid.mk (And.intro hl (And.intro hx9 (And.intro hx slow)))
    clear slow
    clear hQ hs size small hat hit h4 hc ht hlen h0 hl e2 e3 hx hx9 hdl e1
    cases f with
    | false =>
      subst hB
      refine wpAny_ite_false (by rw [hn]; rfl) ?_
      clear hn
      repeat (any_goals (first | assumption | ((with_reducible show wpAny _ _ (Builtin.Str.tableLookup _ _) _ _ _); refine wp_look HK.out.1 HK.out.2.1 HK.out.2.2.1 ?_) | wp_step))
      all_goals exact HK.out.2.2.2 _ rfl _ rfl _ _ e4 _
    | true =>
      cases hkn : kn.lookup x with
      | some o =>
        obtain ⟨e, rfl, he⟩ := e4 _ _ hkn
        have he := Hid.mk he
        subst hB
        refine wpAny_ite_false (by rw [hn]; rfl) ?_
        clear hn
        rw [hkn]
        repeat (any_goals (first | assumption | ((with_reducible show wpAny _ _ (Builtin.Str.tableLookup _ _) _ _ _); refine wp_look HK.out.1 HK.out.2.1 HK.out.2.2.1 ?_) | wp_step))
        all_goals exact HK.out.2.2.2 _ (by rw [he.out]; rfl) _ rfl _ _ e4 _
      | none =>
        by_cases hone : ((S (tb.getD x [])).length == 1 && (S (tb.getD x [])).cps.all fun x => decide (x < 128)) = true
        · obtain ⟨e, he⟩ : ∃ e, tb.getD x [] = [e] := by
            rw [Bool.and_eq_true, beq_iff_eq, S_len] at hone
            exact List.length_eq_one_iff.mp hone.1
          have h9 : (S (tb.getD x [])).cps[0]? = some e := by rw [he]; rfl
          have he := Hid.mk he
          subst hB
          refine wpAny_ite_false (by rw [hn]; rfl) ?_
          clear hn
          rw [hkn]
          refine wpAny_bind (wp_look HK.out.1 HK.out.2.1 HK.out.2.2.1 ?_)
          dsimp only
          rw [(if_pos hone).trans (congrArg some h9)]
          clear hone h9
          repeat (any_goals (first | assumption | wp_step))
          all_goals (refine HK.out.2.2.2 _ (by rw [he.out]; rfl) _ rfl _ _ ?_ _)
          all_goals
            intro c o hc
            rw [List.lookup_cons] at hc
            split at hc
            · rename_i hcx
              cases hc
              exact ⟨e, rfl, by rw [beq_iff_eq.mp hcx]; exact he.out⟩
            · exact e4 _ _ hc
        · subst hB
          refine wpAny_ite_false (by rw [hn]; rfl) ?_
          clear hn
          rw [hkn]
          refine wpAny_bind (wp_look HK.out.1 HK.out.2.1 HK.out.2.2.1 ?_)
          dsimp only
          rw [if_neg hone]
          clear hone
          repeat (any_goals (first | assumption | ((with_reducible show wpAny _ _ (Builtin.Str.tableLookup _ _) _ _ _); refine wp_look HK.out.1 HK.out.2.1 HK.out.2.2.1 ?_) | wp_step))
          all_goals exact HK.out.2.2.2 _ rfl _ rfl _ _ e4 _
end Mine
namespace Mine
theorem op_translate' {prog : Program} {w : World} {l : List Nat} {tb : List (List Nat)} {a : Addr} {u : Tok} {A : Around} {s : Shared} {items : Array Value} (hl : s.heap.IsList a items) (hlen : l.length ≤ 1000000) (ht : tb.length ≤ 1000000) (hc : ∀ c ∈ l, c < tb.length) (h4 : ∀ x ∈ tb, x.length ≤ 4)
    (hit : ∀ (c : Nat) (x : List Nat), tb[c]? = some x → ∃ t, items[c]? = some (Value.str (S x) t)) {E : Value → Shared → Prop} {Q : Value → Shared → Prop} (hQ : ∀ t' k, Q (.str (S (l.flatMap fun c => tb.getD c [])) t') { s with toks := k }) :
    wpAny (model prog w) A (call (.builtin "str.translate") [.str (S l) u, .ref a]) Q E s :=
  wpAny_call (codeAny_call_builtin F.slot_str_translate.plain F.entry_str_translate (F.slot_str_translate.check _ _ _ _ _ _ _ _ (typeIs_str _ _ _) (F.args_str_translate_2 _ _)
    (wpAny_mono (meets_translate hl hlen ht hc h4 hit (Q := Q) hQ) (fun fin s' h => by obtain ⟨v, rfl, h⟩ := h; exact h) fun _ _ x => x)))
end Mine
end
section
open PySem PySem.W PyProof.Rows PyProof.V
set_option Elab.async false
set_option genSizeOf false
set_option maxRecDepth 20000
namespace Mine
theorem VRs.gw {X : Wd} {imm imm' mu mu' vs ys} (h : VRs X imm (mu.map Prod.fst) vs ys) (g : Gw mu imm mu' imm') : VRs X imm' (mu'.map Prod.fst) vs ys := by
  induction h with
  | nil => exact .nil
  | cons a _ ih => exact .cons (a.gw g) ih
theorem VRs.len {X : Wd} {imm ad vs ys} (h : VRs X imm ad vs ys) : vs.length = ys.length := by
  induction h with
  | nil => rfl
  | cons _ _ ih => simp [ih]

theorem intsAre_of {imm : List (Addr × Obj)} : ∀ {vs : List Value} {ps : List P} {ns : List Int}, DatAll imm vs (dats ps) → pInts ps = some ns → IntsAre vs ns
  | _, [], ns, .nil, h => by cases h; exact .nil
  | _, p :: r, ns, .cons a d, h => by
    cases p with
    | int i =>
      simp only [pInts] at h
      obtain ⟨ms, h1, rfl⟩ := Option.map_eq_some_iff.mp h
      cases a
      exact .cons _ _ (intsAre_of d h1)
    | _ => simp [pInts] at h
theorem strsAre_of {imm : List (Addr × Obj)} : ∀ {vs : List Value} {ps : List P} {ns : List (List Nat)}, DatAll imm vs (dats ps) → pStrs ps = some ns → StrsAre vs (ns.map S)
  | _, [], ns, .nil, h => by cases h; exact .nil
  | _, p :: r, ns, .cons a d, h => by
    cases p with
    | str i =>
      simp only [pStrs] at h
      obtain ⟨ms, h1, rfl⟩ := Option.map_eq_some_iff.mp h
      cases a
      exact .cons _ _ (strsAre_of d h1)
    | _ => simp [pStrs] at h
theorem datAll_ints {imm : List (Addr × Obj)} : ∀ {vs : List Value} {ns : List Int}, IntsAre vs ns → DatAll imm vs (dats (ns.map .int))
  | _, _, .nil => .nil
  | _, _, .cons _ _ r => .cons (.int _ _) (datAll_ints r)
theorem datAll_strs {imm : List (Addr × Obj)} : ∀ {vs : List Value} {ns : List (List Nat)}, StrsAre vs (ns.map S) → DatAll imm vs (dats (ns.map .str))
  | _, [], .nil => .nil
  | _, _ :: _, .cons _ _ r => .cons (.str _ _) (datAll_strs r)
theorem pInts_len : ∀ {ps : List P} {ns : List Int}, pInts ps = some ns → ns.length = ps.length
  | [], ns, h => by cases h; rfl
  | p :: r, ns, h => by
    cases p with
    | int i =>
      simp only [pInts] at h
      obtain ⟨ms, h1, rfl⟩ := Option.map_eq_some_iff.mp h
      simp [pInts_len h1]
    | _ => simp [pInts] at h
theorem pStrs_len : ∀ {ps : List P} {ns : List (List Nat)}, pStrs ps = some ns → ns.length = ps.length
  | [], ns, h => by cases h; rfl
  | p :: r, ns, h => by
    cases p with
    | str i =>
      simp only [pStrs] at h
      obtain ⟨ms, h1, rfl⟩ := Option.map_eq_some_iff.mp h
      simp [pStrs_len h1]
    | _ => simp [pStrs] at h
theorem maxI_spec : ∀ {l : List Int}, l ≠ [] → maxI l ∈ l ∧ ∀ a ∈ l, a ≤ maxI l
  | [a], _ => by simp [maxI]
  | a :: b :: r, _ => by
    obtain ⟨h1, h2⟩ := maxI_spec (l := b :: r) (by simp)
    rw [maxI]
    · constructor
      · rcases Int.le_total a (maxI (b :: r)) with h | h
        · rw [Int.max_eq_right h]; exact .tail _ h1
        · rw [Int.max_eq_left h]; exact .head _
      · intro x hx
        rcases List.mem_cons.mp hx with rfl | hx
        · exact Int.le_max_left _ _
        · exact Int.le_trans (h2 x hx) (Int.le_max_right _ _)
    · simp
theorem strValues_of {vs : List Value} {ss : List Str} (h : StrsAre vs ss) : ∃ l : List (Str × Tok), strValues l = vs ∧ l.map (·.1) = ss := by
  induction h with
  | nil => exact ⟨[], rfl, rfl⟩
  | cons x t _ ih => obtain ⟨l, h1, h2⟩ := ih; exact ⟨(x, t) :: l, by rw [← h1]; rfl, by rw [← h2]; rfl⟩
theorem joinOk_of {s : List Nat} {x : List (List Nat)} (h : (x.map List.length).sum + x.length * s.length ≤ 1000000) : JoinOk (S s) (x.map S) = true := by
  have key : ∀ (x : List (List Nat)) (k : Nat), (x.map S).foldl (fun a b => a + b.length + (S s).length) k = k + (x.map List.length).sum + x.length * s.length := by
    intro x
    induction x with
    | nil => intro k; simp
    | cons a r ih => intro k; rw [List.map_cons, List.foldl_cons, ih]; simp only [S_len, List.map_cons, List.sum_cons, List.length_cons]; rw [Nat.add_mul]; lia
  unfold JoinOk
  rw [List.foldl_toArray]
  simp only [key]
  unfold Builtin.Str.tooLong
  rw [sizeLine_eq, Bool.not_eq_true']
  exact decide_eq_false (by lia)

noncomputable def biVal : BI → Value
  | .len => .builtin "len" | .max => .builtin "max" | .range => .type "range" | .list => .type "list" | .isint => .builtin "isinstance" | .sorted => .builtin "sorted"
  | .ord => .builtin "ord" | .chr => .builtin "chr" | .int16 => .type "int" | .tuple => .type "tuple"
noncomputable def biMore (b : BI) (more : List Value) : Prop := match b with
  | .isint => more = [.type "int"]
  | .int16 => ∃ t, more = [.int 16 t]
  | _ => more = []

section
variable {X : Wd} {tabs : Nat → List P} {h₀ : Heap} {L : Addr} {m : Str → Option Value} {mu ext imm : List (Addr × Obj)} {H : List O} {s : Shared} {A : Around} {E : Value → Shared → Prop}
theorem small_of {a b : Int} (ha : oki a = true) (hb : oki b = true) : Builtin.Range.small a b 1 = true := by
  have := of_oki ha; have := of_oki hb
  exact small_one (by lia) (by lia) (by lia) (by lia)
theorem St.newAt (t : St X h₀ L m mu ext imm H s) {h' : Heap} {o : Obj} (F : Fr h₀ L h' m) (N : News h₀ L h' (mu ++ (ext ++ imm))) (ho : h'.get? s.heap.objs.size = some o) : News h₀ L h' ((s.heap.objs.size, o) :: (mu ++ (ext ++ imm))) := by
  intro p hp
  rcases List.mem_cons.mp hp with rfl | hp
  · refine ⟨ho, Nat.ne_of_gt t.fr.ns.lt, ?_⟩
    cases q : h₀.get? s.heap.objs.size with
    | none => rfl
    | some o' => exact absurd (Heap.lt_size (t.fr.keep _ _ q)) (Nat.lt_irrefl _)
  · exact N p hp
theorem rngL_ks (a b : Int) : rngL a b = (rangeKs a (b - a).toNat).map .int := by
  unfold rngL rangeKs; rw [List.map_map]; rfl
theorem op_int16 {a b : Nat} {x y : Nat} (ha : hexV a = some x) (hb : hexV b = some y) {t u : Tok} {Q : Value → Shared → Prop} (hQ : ∀ t' k, Q (.int (16 * x + y : Nat) t') { s with toks := k }) :
    wpAny (model X.prog X.w) A (call (.type "int") [.str (S [a, b]) t, .int 16 u]) Q E s := op_int16' ha hb hQ

section
variable {r : V × List O} {v : V} {vs : List V} {y : Value} {ys : List Value} {Q : Value → Shared → Prop}
theorem bi_lenP {x : P} {n : Nat} (hv : lenP x = some n) (hk : ok n = true) (hv2 : some (V.p (.int n), H) = some r) (t : St X h₀ L m mu ext imm H s) (ra : DatIn imm y x.dat) (hQ : Post X h₀ L m mu ext imm r Q) :
    wpAny (model X.prog X.w) A (call (.builtin "len") [y]) Q E s := by
  cases x with
  | str l =>
    cases hv
    have hk := of_ok hk
    apply datStr ra
    intro t1
    exact SBL.len (by rw [S_len]; lia) (hQ.p hv2 t (by rw [S_len]; exact .int _ _))
  | tup x =>
    cases hv
    have hk := of_ok hk
    cases ra with
    | tuple hm hd =>
      have hl := hd.length
      rw [dats_len] at hl
      exact len_tuple ⟨_, (t.nw _ (St.sub_imm _ hm)).1, rfl, _, rfl⟩ (by rw [List.size_toArray]; lia) (hQ.p hv2 t (by rw [List.size_toArray, hl]; exact .int _ _))
  | _ => first | exact no hv | exact nob hv | cases hv
theorem bi_len (hv : biA .len v vs H = some r) (t : St X h₀ L m mu ext imm H s) (ra : VRel X imm (mu.map Prod.fst) v y) (rs : VRs X imm (mu.map Prod.fst) vs ys) (hQ : Post X h₀ L m mu ext imm r Q) :
    wpAny (model X.prog X.w) A (call (.builtin "len") (y :: ys)) Q E s := by
  refine bindE hv fun _ e hv => ?_
  apply nulE e rs
  refine bindE hv fun n e hv1 => iteE hv1 fun hk hv2 => ?_
  clear hv hv1
  cases v with
  | p x => exact bi_lenP e hk hv2 t ra hQ
  | ref i =>
    refine mapE e fun x h1 e1 => ?_
    cases e1
    have hk := of_ok hk
    apply t.refE h1 ra
    intro a vs n1 w
    exact len_list w.i (by rw [List.size_toArray, w.l]; lia) (hQ.p hv2 t (by rw [List.size_toArray, w.l]; exact .int _ _))
  | fix x =>
    cases e
    have hk := of_ok hk
    obtain ⟨a1, vs, n1, rfl, hm1, d1⟩ := ra
    have l1 : vs.length = x.length := by rw [d1.length, dats_len]
    exact len_list ⟨_, (t.nw _ (St.sub_imm _ hm1)).1, rfl, n1, rfl⟩ (by rw [List.size_toArray]; lia) (hQ.p hv2 t (by rw [List.size_toArray, l1]; exact .int _ _))
  | _ => first | exact no e | exact nob e | cases e
theorem bi_max (hv : maxV v vs H = some r) (t : St X h₀ L m mu ext imm H s) {n : Nat} (R : Room A n) (ra : VRel X imm (mu.map Prod.fst) v y) (rs : VRs X imm (mu.map Prod.fst) vs ys) (hQ : Post X h₀ L m mu ext imm r Q) :
    wpAny (model X.prog X.w) A (call (.builtin "max") (y :: ys)) Q E s := by
  cases vs with
  | nil =>
    refine bindE hv fun x h1 hv => bindE hv fun ns h2 hv => ?_
    apply nulE (u := ()) rfl rs
    apply t.lstE h1 ra
    intro i a1 vs n1 w
    cases ns with
    | nil => first | exact no hv | exact nob hv | cases hv
    | cons b q =>
      have hm := maxI_spec (List.cons_ne_nil b q)
      refine kso_max t.fr t.nw w.i (intsAre_of w.d h2) (Nat.succ_pos _) R.1 fun h' M tk k F N hM hle => ?_
      have e : M = maxI (b :: q) := Int.le_antisymm (hm.2 _ hM) (hle _ hm.1)
      exact hQ.of hv _ _ _ _ (t.heap F N k) .refl (by rw [e]; exact .int _ _)
  | cons w q =>
    refine bindE hv fun z e hv => bindE hv fun a e1 hv => bindE hv fun c e2 hv => ?_
    apply oneE e rs
    intro y2 r2
    apply int_E e1 ra
    intro t1
    apply int_E e2 r2
    intro t2
    refine max_two_N R.1 t.fr t.nw fun h' tk F N => ?_
    refine hQ.of hv _ _ _ _ (t.heap F N tk) .refl ?_
    have : (if c > a then c else a) = max a c := by split <;> lia
    rw [this]; exact .int _ _
theorem bi_range (hv : rngV v vs H = some r) (t : St X h₀ L m mu ext imm H s) (ra : VRel X imm (mu.map Prod.fst) v y) (rs : VRs X imm (mu.map Prod.fst) vs ys) (hQ : Post X h₀ L m mu ext imm r Q) :
    wpAny (model X.prog X.w) A (call (.type "range") (y :: ys)) Q E s := by
  cases vs with
  | nil =>
    refine bindE hv fun c e hv => iteE hv fun hk hv => ?_
    apply nulE (u := ()) rfl rs
    apply int_E e ra
    intro t0
    refine range1_rows t.fr t.nw fun h' tk t1 u1 v1 hr F N _ => ?_
    exact hQ.of hv _ _ _ _ (t.addI F (t.newAt F N hr) t.lt tk) gw_imm ⟨_, t1, u1, v1, rfl, .head _⟩
  | cons w q =>
    refine bindE hv fun z e hv => bindE hv fun a e1 hv => bindE hv fun c e2 hv => iteE hv fun hk hv => ?_
    apply oneE e rs
    intro y2 r2
    apply int_E e1 ra
    intro t1
    apply int_E e2 r2
    intro t2
    refine range2_rows t.fr t.nw fun h' tk t1 u1 v1 hr F N _ => ?_
    exact hQ.of hv _ _ _ _ (t.addI F (t.newAt F N hr) t.lt tk) gw_imm ⟨_, t1, u1, v1, rfl, .head _⟩
theorem rg_eq {v : V} {q : Int × Int} (h : v.rg = some q) : v = .rng q.1 q.2 := by cases v <;> first | exact no h | (cases h; rfl)
theorem bi_list {q : Int × Int} (e : v.rg = some q) (hk : (oki q.1 && oki q.2 && ok (q.2 - q.1).toNat) = true) (hv : some (V.ref H.length, H ++ [.list (rngL q.1 q.2)]) = some r) (t : St X h₀ L m mu ext imm H s) {n : Nat} (R : Room A n) (ra : VRel X imm (mu.map Prod.fst) v y) (hQ : Post X h₀ L m mu ext imm r Q) :
    wpAny (model X.prog X.w) A (call (.type "list") [y]) Q E s := by
  refine andE hk fun hk hk3 => andE hk fun ka kb => ?_
  have hk3 := of_ok hk3
  rw [rg_eq e] at ra
  clear e
  obtain ⟨q1, q2⟩ := q
  obtain ⟨a, t1, u1, w1, rfl, hm⟩ := ra
  refine kll_range R.1 t.fr t.nw (t.nw _ (St.sub_imm _ hm)).1 (small_of ka kb) (rangeSize_nat _ _) (by lia) fun D us n2 h' tk F N hl hi => ?_
  exact t.newL F N hl (by rw [rngL_ks]; exact datAll_ints hi) tk (hQ.of hv)
theorem bi_sorted {x : List P} {ns : List (List Nat)} (h1 : v.lst H = some x) (h2 : pStrs x = some ns) (hk : decide (2 ≤ ns.length ∧ ns.length < 64) = true) (hv : some (V.ref H.length, H ++ [.list ((srt ns).map .str)]) = some r) (t : St X h₀ L m mu ext imm H s)
    (ra : VRel X imm (mu.map Prod.fst) v y) (hQ : Post X h₀ L m mu ext imm r Q) : wpAny (model X.prog X.w) A (call (.builtin "sorted") [y]) Q E s := by
  have hk := of_decide_eq_true hk
  have hl := pStrs_len h2
  apply t.lstE h1 ra
  intro i a1 vs n1 w
  refine sorted_N_str t.fr t.nw w.i (strsAre_of w.d h2) (by have := w.l; lia) fun h' vs' ss' e F N q1 q2 q3 => ?_
  cases S_sorted ns ss' q2 q3
  exact t.newL (n := e) F N (fun p hp => Nat.lt_succ_of_lt (t.lt p hp)) (datAll_strs q1) _ (hQ.of hv)
theorem bi_tuple {x : List P} (h1 : v.lst H = some x) (hk : decide (x.length ≤ 16384) = true) (hv : some (V.p (.tup x), H) = some r) (t : St X h₀ L m mu ext imm H s)
    (ra : VRel X imm (mu.map Prod.fst) v y) (hQ : Post X h₀ L m mu ext imm r Q) : wpAny (model X.prog X.w) A (call (.type "tuple") [y]) Q E s := by
  have hk := of_decide_eq_true hk
  apply t.lstE h1 ra
  intro i a1 vs n1 w
  refine kde_tupleOf t.fr t.nw w.i (by rw [List.size_toArray, w.l]; lia) rfl fun D h' F N hl => ?_
  exact hQ.of hv _ _ _ _ (t.addI F N hl s.toks) gw_imm (.tuple (.head _) (w.d.mono fun _ h => .tail _ h))
end
theorem more_nil {b : Value} {ys more : List Value} {Q : Value → Shared → Prop} (hm : more = []) (h : wpAny (model X.prog X.w) A (call b ys) Q E s) : wpAny (model X.prog X.w) A (call b (ys ++ more)) Q E s := by
  rw [hm, List.append_nil]; exact h
theorem op_bi {b : BI} {vs : List V} {v : V} {H' : List O} (hv : biV b vs H = some (v, H')) (t : St X h₀ L m mu ext imm H s) {n : Nat} (R : Room A n) {ys more : List Value}
    (ra : VRs X imm (mu.map Prod.fst) vs ys) (hm : biMore b more) {Q : Value → Shared → Prop}
    (hQ : Post X h₀ L m mu ext imm (v, H') Q) :
    wpAny (model X.prog X.w) A (call (biVal b) (ys ++ more)) Q E s := by
  cases vs with
  | nil => first | exact no hv | exact nob hv | cases hv
  | cons w vs =>
    apply consE ra
    intro y ys ra rs
    cases b with
    | len => exact more_nil hm (bi_len hv t ra rs hQ)
    | max => exact more_nil hm (bi_max hv t R ra rs hQ)
    | range => exact more_nil hm (bi_range hv t ra rs hQ)
    | list =>
      refine bindE hv fun _ e hv => ?_
      apply nulE e rs
      exact bindE hv fun q e hv => iteE hv fun hk hv => more_nil hm (bi_list e hk hv t R ra hQ)
    | isint =>
      refine bindE hv fun _ e hv => ?_
      apply nulE e rs
      refine bindE hv fun i e hv => ?_
      apply int_E e ra
      intro t1
      cases hm
      exact IsiPair.int_int (hQ.p (k := s.toks) hv t (.bool _))
    | sorted =>
      refine bindE hv fun _ e hv => ?_
      apply nulE e rs
      exact bindE hv fun q e hv => bindE hv fun ns h2 hv => iteE hv fun hk hv => more_nil hm (bi_sorted e h2 hk hv t ra hQ)
    | ord =>
      refine bindE hv fun _ e hv => ?_
      apply nulE e rs
      refine bindE hv fun l e hv => bindE hv fun c e1 hv => ?_
      apply str_E e ra
      intro t1
      cases one_eq e1
      exact more_nil hm (P.ord_of_char (hQ.p hv t (.int _ _)))
    | chr =>
      refine bindE hv fun _ e hv => ?_
      apply nulE e rs
      refine bindE hv fun i e hv => iteE hv fun hk hv => ?_
      have hk := of_decide_eq_true hk
      apply int_E e ra
      intro t1
      exact more_nil hm (chr_of_range hk.1 (by lia) (hQ.p hv t (.str (S [_]) _)))
    | int16 =>
      refine bindE hv fun _ e hv => ?_
      apply nulE e rs
      refine bindE hv fun l e hv => bindE hv fun q e1 hv => bindE hv fun x h1 hv => bindE hv fun z h2 hv2 => ?_
      apply str_E e ra
      intro t1
      have e1 := two_eq e1
      subst e1
      obtain ⟨t5, rfl⟩ := hm
      exact op_int16 h1 h2 fun t' k => hQ.p hv2 t (.int _ _)
    | tuple =>
      refine bindE hv fun _ e hv => ?_
      apply nulE e rs
      exact bindE hv fun q e hv => iteE hv fun hk hv => more_nil hm (bi_tuple e hk hv t ra hQ)
end
end Mine
end
section
open PySem PySem.W PyProof.Rows PyProof.V
set_option Elab.async false
set_option maxRecDepth 20000
namespace Mine
noncomputable def smId : SM → String
  | .translate => "str.translate" | .splitlines => "str.splitlines" | .rstrip => "str.rstrip" | .endswith => "str.endswith" | .replace => "str.replace" | .split => "str.split" | .join => "str.join"
  | .append => "list.append" | .extend => "list.extend" | .pop => "list.pop"

theorem kl_cut_at : ∀ {l : List Value} {k : Nat} (h : k < l.length), kl_cut l k = some (l.take k, l[k], l.drop (k + 1))
  | x :: r, 0, _ => rfl
  | x :: r, k + 1, h => by
    have h' : k < r.length := by simpa using h
    simp only [kl_cut, kl_cut_at h', List.take_succ_cons, List.getElem_cons_succ, List.drop_succ_cons]
theorem datAll_erase {imm : List (Addr × Obj)} {vs : List Value} {ps : List P} (d : DatAll imm vs (dats ps)) (k : Nat) : DatAll imm (vs.take k ++ vs.drop (k + 1)) (dats (ps.eraseIdx k)) := by
  rw [List.eraseIdx_eq_take_drop_succ, dats_append]
  have e1 : dats (ps.take k) = (dats ps).take k := by rw [dats_eq, dats_eq, List.map_take]
  have e2 : dats (ps.drop (k + 1)) = (dats ps).drop (k + 1) := by rw [dats_eq, dats_eq, List.map_drop]
  rw [e1, e2]
  exact (datAll_take _ d).append (datAll_drop _ d)

section
variable {X : Wd} {tabs : Nat → List P} {h₀ : Heap} {L : Addr} {m : Str → Option Value} {mu ext imm : List (Addr × Obj)} {H : List O} {s : Shared} {A : Around} {E : Value → Shared → Prop}
/-- an object of the abstract heap is changed -/
theorem St.setL (t : St X h₀ L m mu ext imm H s) {r : Nat} {a : Addr} {o : Obj} {vs : List Value} {n : Nat} {ps : List P} {h' : Heap} (h : mu[r]? = some (a, o)) (F : Fr h₀ L h' m) (N : News h₀ L h' (mu.set r (a, listOf vs.toArray n) ++ (ext ++ imm)))
    (hd : DatAll imm vs (dats ps)) (k : Nat) : St X h₀ L m (mu.set r (a, listOf vs.toArray n)) ext imm (H.set r (.list ps)) { s with heap := h', toks := k } := t.upd h F N (.list hd) k
theorem op_append (t : St X h₀ L m mu ext imm H s) {r : Nat} {l : List P} (h1 : getL H r = some l) (hk : ok l.length = true) {x : P} {a : Addr} {y : Value} (ha : (mu.map Prod.fst)[r]? = some a) (ry : DatIn imm y x.dat) {Q : Value → Shared → Prop}
    (hQ : ∀ mu' s', St X h₀ L m mu' ext imm (H.set r (.list (l ++ [x]))) s' → Gw mu imm mu' imm → Q .none s') :
    wpAny (model X.prog X.w) A (call (.builtin "list.append") [.ref a, y]) Q E s := by
  have hk := of_ok hk
  obtain ⟨b, vs, n, e1, d1, l1, m1, i1⟩ := t.lst h1
  have : b = a := by rw [List.getElem?_map, e1] at ha; cases ha; rfl
  subst this
  have e : vs.toArray.push y = (vs ++ [y]).toArray := by simp
  refine append_K t.fr t.nw (t.updOf (listOf (vs.toArray.push y) (n + 1)) e1) (fun h' F N => ?_) (by rw [List.size_toArray, sizeLine_eq]; lia)
  rw [e] at N
  exact hQ _ _ (t.setL e1 F N (by rw [dats_append]; exact d1.append (.one ry)) s.toks) (gw_set e1)
theorem notTooLong {a b : Nat} (h : a + b ≤ 1000000) : Builtin.List.listTooLong (a + b) = false := by
  unfold Builtin.List.listTooLong
  rw [sizeLine_eq]
  exact decide_eq_false (by lia)
theorem pStrs_map {l : List P} {tb : List (List Nat)} (h : pStrs l = some tb) : l = tb.map P.str := by
  induction l generalizing tb with
  | nil => cases h; rfl
  | cons a r ih =>
    cases a with
    | str x =>
      obtain ⟨y, h1, rfl⟩ := Option.map_eq_some_iff.mp h
      rw [ih h1]; rfl
    | _ => first | exact no h | exact nob h | cases h
theorem op_translate (TT : Tabs X tabs) (I : X.In h₀) (t : St X h₀ L m mu ext imm H s) {l : List Nat} {g : Nat} {tb : List (List Nat)} (h1 : pStrs (tabs g) = some tb) (hl : l.length + tb.length ≤ 1000000) (hc : ∀ c ∈ l, c < tb.length)
    (ht : ∀ x ∈ tb, x ≠ [] ∧ x.length ≤ 4) {a : Addr} (ha : X.T g = some a) {u : Tok} {Q : Value → Shared → Prop} (hQ : ∀ t' k, Q (.str (S (l.flatMap fun c => tb.getD c [])) t') { s with toks := k }) :
    wpAny (model X.prog X.w) A (call (.builtin "str.translate") [.str (S l) u, .ref a]) Q E s := by
  obtain ⟨vs, n, hk, hd⟩ := TT.at_ g a ha
  have il : s.heap.IsList a vs.toArray := ⟨_, t.kin I _ _ hk, rfl, n, rfl⟩
  refine op_translate' il (by lia) (by lia) hc (fun x hx => (ht x hx).2) (fun c x hx => ?_) hQ
  have hp : (tabs g)[c]? = some (.str x) := by rw [pStrs_map h1, List.getElem?_map, hx]; rfl
  obtain ⟨z, hz, rz⟩ := datAll_get hd hp
  cases rz
  exact ⟨_, by simpa using hz⟩
section
variable {r : V × List O} {v : V} {vs : List V} {y : Value} {ys : List Value} {l : List Nat} {u : Tok} {Q : Value → Shared → Prop}
theorem sm_translate' (TT : Tabs X tabs) (I : X.In h₀) (hv : smT tabs .translate l vs H = some r) (t : St X h₀ L m mu ext imm H s) (rs : VRs X imm (mu.map Prod.fst) vs ys) (hQ : Post X h₀ L m mu ext imm r Q) :
    wpAny (model X.prog X.w) A (call (.builtin "str.translate") (.str (S l) u :: ys)) Q E s := by
  refine bindE hv fun v e hv => bindE hv fun g e2 hv => bindE hv fun tb h1 hv => iteE hv fun hk hv2 => andE hk fun hk k3 => andE hk fun k1 k2 => ?_
  apply oneE e rs
  intro y r1
  cases v with
  | glob g' =>
    cases e2
    obtain ⟨a, ha, rfl⟩ := r1
    refine op_translate TT I t h1 (of_ok k1) (fun c hc => of_decide_eq_true (List.all_eq_true.mp k2 c hc)) (fun x hx => ?_) ha fun t' k => hQ.p hv2 t (.str _ _)
    refine andE (List.all_eq_true.mp k3 x hx) fun p1 p2 => ⟨?_, of_decide_eq_true p2⟩
    rintro rfl
    cases p1
  | _ => first | exact no e2 | exact nob e2 | cases e2
theorem sm_splitlines (hv : smT tabs .splitlines l vs H = some r) (t : St X h₀ L m mu ext imm H s) (rs : VRs X imm (mu.map Prod.fst) vs ys) (hQ : Post X h₀ L m mu ext imm r Q) :
    wpAny (model X.prog X.w) A (call (.builtin "str.splitlines") (.str (S l) u :: ys)) Q E s := by
  refine bindE hv fun _ e hv => iteE hv fun hk hv => andE hk fun k1 k2 => ?_
  apply nulE e rs
  have k1 := of_ok k1
  refine splitlinesNA t.fr t.nw (fun ls h' k e1 e2 _ _ F N => ?_) (by rw [S_len, sizeLine_eq]; lia)
  rw [S_lines l k2] at e1
  rw [e1] at e2
  exact t.newL (n := 0) F N t.lt (datAll_strs e2) k (hQ.of hv)
theorem sm_split (hv : smT tabs .split l vs H = some r) (t : St X h₀ L m mu ext imm H s) (rs : VRs X imm (mu.map Prod.fst) vs ys) (hQ : Post X h₀ L m mu ext imm r Q) :
    wpAny (model X.prog X.w) A (call (.builtin "str.split") (.str (S l) u :: ys)) Q E s := by
  refine bindE hv fun v e hv => bindE hv fun z e2 hv => iteE hv fun hk hv => andE hk fun k1 k2 => ?_
  apply oneE e rs
  intro y r1
  apply str_E e2 r1
  intro t1
  have k1 := of_ok k1
  have k2 : z ≠ [] := by rintro rfl; cases k2
  refine splitN1A t.fr t.nw ?_ (fun ls h' k e1 e2 _ _ F N => ?_) (by rw [S_len, sizeLine_eq]; lia)
  · rw [S_len]; exact beq_eq_false_iff_ne.mpr fun h => k2 (List.length_eq_zero_iff.mp h)
  · rw [S_split _ _ k2] at e1
    rw [e1] at e2
    exact t.newL (n := 0) F N t.lt (datAll_strs e2) k (hQ.of hv)
theorem sm_join (hv : smT tabs .join l vs H = some r) (t : St X h₀ L m mu ext imm H s) (rs : VRs X imm (mu.map Prod.fst) vs ys) (hQ : Post X h₀ L m mu ext imm r Q) :
    wpAny (model X.prog X.w) A (call (.builtin "str.join") (.str (S l) u :: ys)) Q E s := by
  refine bindE hv fun v e hv => bindE hv fun x h1 hv => bindE hv fun xs h2 hv => iteE hv fun hk hv => ?_
  apply oneE e rs
  intro y r1
  apply t.lstE h1 r1
  intro i a1 vs n1 w
  obtain ⟨ls, q1, q2⟩ := strValues_of (strsAre_of w.d h2)
  subst q1
  exact SC.join w.i q2 (joinOk_of (of_ok hk)) fun t' k => hQ.p hv t (by rw [S_glued]; exact .str _ _)
theorem op_smT (TT : Tabs X tabs) (I : X.In h₀) {b : SM} (hb : b ≠ .replace) (hv : smT tabs b l vs H = some r) (t : St X h₀ L m mu ext imm H s) (rs : VRs X imm (mu.map Prod.fst) vs ys) (hQ : Post X h₀ L m mu ext imm r Q) :
    wpAny (model X.prog X.w) A (call (.builtin (smId b)) (.str (S l) u :: ys)) Q E s := by
  cases b with
  | translate => exact sm_translate' TT I hv t rs hQ
  | splitlines => exact sm_splitlines hv t rs hQ
  | rstrip =>
    refine bindE hv fun _ e hv => iteE hv fun hk hv => andE hk fun k1 k2 => ?_
    apply nulE e rs
    have k1 := of_ok k1
    exact SCL.rstrip (fun t' k _ => hQ.p hv t (by rw [S_rstrip l k2]; exact .str _ _)) (by rw [S_len, sizeLine_eq]; exact Nat.le_trans ‹_› (by decide))
  | endswith =>
    refine bindE hv fun v e hv => bindE hv fun z e2 hv => ?_
    apply oneE e rs
    intro y r1
    apply str_E e2 r1
    intro t1
    exact SC.endswith (by rw [S_endswith]; exact hQ.p (k := s.toks) hv t (.bool _))
  | replace => exact absurd rfl hb
  | split => exact sm_split hv t rs hQ
  | join => exact sm_join hv t rs hQ
  | _ => first | exact no hv | exact nob hv | cases hv
variable {i : Nat} {a1 : Addr} {v1 : List Value} {n1 : Nat} {ps : List P}
theorem sm_extend (hv : smR .extend i ps v H = some r) (t : St X h₀ L m mu ext imm H s) (w : LAt mu ext imm s i ps a1 v1 n1) (r1 : VRel X imm (mu.map Prod.fst) v y) (hQ : Post X h₀ L m mu ext imm r Q) :
    wpAny (model X.prog X.w) A (call (.builtin "list.extend") [.ref a1, y]) Q E s := by
  refine bindE hv fun q e hv => bindE hv fun l2 h2 hv => iteE hv fun hk hv => andE hk fun k1 k2 => ?_
  have k1 := of_ok k1
  rw [rf_eq e] at r1
  apply t.refE h2 r1
  intro a2 v2 n2 w2
  have hl1 := w.l
  have hl2 := w2.l
  have big : ¬(!v1.toArray.isEmpty && Builtin.List.listTooLong (v1.toArray.size + v2.toArray.size)) = true := by
    rw [notTooLong (by simp only [List.size_toArray]; lia), Bool.and_false]; exact Bool.false_ne_true
  by_cases hz : v2 = []
  · subst hz
    cases List.length_eq_zero_iff.mp hl2.symm
    refine kxn_extend t.fr t.nw w2.m rfl (t.updOf (listOf v1.toArray n1) w.e) big (by simp only [sizeLine_eq]; lia) (by simp only [List.size_toArray, sizeLine_eq]; lia) fun h' F N => ?_
    exact hQ.of hv _ _ _ _ (t.setL w.e F N (by rw [List.append_nil]; exact w.d) s.toks) (gw_set w.e) .none
  · refine kl_extend t.fr t.nw w2.m rfl (by simpa using hz) (t.updOf (listOf (v1 ++ v2).toArray (n1 + 1)) w.e) big (by simp only [sizeLine_eq]; lia) (by simp only [List.size_toArray, sizeLine_eq]; lia) fun h' F N => ?_
    exact hQ.of hv _ _ _ _ (t.setL w.e F N (by rw [dats_append]; exact w.d.append w2.d) s.toks) (gw_set w.e) .none
theorem sm_pop (hv : smR .pop i ps v H = some r) (t : St X h₀ L m mu ext imm H s) (w : LAt mu ext imm s i ps a1 v1 n1) (r1 : VRel X imm (mu.map Prod.fst) v y) (hQ : Post X h₀ L m mu ext imm r Q) :
    wpAny (model X.prog X.w) A (call (.builtin "list.pop") [.ref a1, y]) Q E s := by
  refine bindE hv fun k e hv => iteE hv fun hk hv => andE hk fun k1 k2 => bindE hv fun x h2 hv => ?_
  have k1 := of_ok k1
  have k2 := of_decide_eq_true k2
  apply int_E e r1
  intro t1
  have hl := w.l
  have hlt : k.toNat < v1.length := by omega
  obtain ⟨z, hz, rz⟩ := datAll_get w.d h2
  have ez : v1[k.toNat] = z := by rw [List.getElem?_eq_getElem hlt] at hz; exact Option.some.inj hz
  refine kl_popAt t.fr t.nw ?_ ?_ (kl_cut_at hlt) (t.updOf (listOf (v1.take k.toNat ++ v1.drop (k.toNat + 1)).toArray (n1 + 1)) w.e) (by simp only [sizeLine_eq]; lia) fun h' F N => ?_
  · unfold Builtin.List.listFitsIndex
    rw [Bool.and_eq_true, decide_eq_true_eq, decide_eq_true_eq]; omega
  · rw [List.size_toArray]
    unfold seqIndex?
    simp only [if_neg (show ¬ k < 0 by omega)]
    simp
    omega
  · rw [ez]
    exact hQ.of hv _ _ _ _ (t.setL w.e F N (datAll_erase w.d _) s.toks) (gw_set w.e) rz
theorem op_smR {b : SM} (hv : smR b i ps v H = some r) (h1 : getL H i = some ps) (t : St X h₀ L m mu ext imm H s) (w : LAt mu ext imm s i ps a1 v1 n1) (r1 : VRel X imm (mu.map Prod.fst) v y) (hQ : Post X h₀ L m mu ext imm r Q) :
    wpAny (model X.prog X.w) A (call (.builtin (smId b)) [.ref a1, y]) Q E s := by
  cases b with
  | append =>
    refine bindE hv fun x e hv => iteE hv fun hk hv => ?_
    exact op_append t h1 hk (by rw [List.getElem?_map, w.e]; rfl) (dat_E e r1) fun mu' s' t' g => hQ.of hv _ _ _ _ t' g .none
  | extend => exact sm_extend hv t w r1 hQ
  | pop => exact sm_pop hv t w r1 hQ
  | _ => first | exact no hv | exact nob hv | cases hv
end
theorem op_sm (TT : Tabs X tabs) (I : X.In h₀) {b : SM} (hb : b ≠ .replace) {o : V} {vs : List V} {v : V} {H' : List O} (hv : smV tabs b o vs H = some (v, H')) (t : St X h₀ L m mu ext imm H s) {n : Nat} (R : Room A n) {y : Value} {ys : List Value}
    (ro : VRel X imm (mu.map Prod.fst) o y) (ra : VRs X imm (mu.map Prod.fst) vs ys) {Q : Value → Shared → Prop}
    (hQ : Post X h₀ L m mu ext imm (v, H') Q) :
    wpAny (model X.prog X.w) A (call (.builtin (smId b)) (y :: ys)) Q E s := by
  cases o with
  | p x =>
    refine bindE hv fun l e hv => ?_
    apply pstr_E e ro
    intro tk
    exact op_smT TT I hb hv t ra hQ
  | ref r =>
    refine bindE hv fun l h1 hv => bindE hv fun w e hv => ?_
    apply t.refE h1 ro
    intro a1 v1 n1 w1
    apply oneE e ra
    intro z rz
    exact op_smR hv h1 t w1 rz hQ
  | _ => first | exact no hv | exact nob hv | cases hv
end
end Mine
end
section
open PySem PySem.W PyProof.Rows PyProof.V
set_option Elab.async false
set_option genSizeOf false
set_option maxRecDepth 20000
namespace Mine

structure EnvOk (c : Ce) (env : Env) : Prop where
  sc : env.scope = c.sc
  gl : env.globals = mainGlobals
  bi : env.builtins = builtinsNs
  fn : c.sc.kind = .function
  nd : c.nm.Nodup
theorem EnvOk.kind {c : Ce} {env : Env} (e : EnvOk c env) (x : Str) : env.kindOf x = c.kind x := by unfold Env.kindOf Ce.kind; rw [e.sc]
theorem EnvOk.fn' {c : Ce} {env : Env} (e : EnvOk c env) : env.scope.kind = .function := by rw [e.sc]; exact e.fn
theorem EnvOk.inter {c : Ce} {env : Env} (e : EnvOk c env) : interactive env = false := by unfold interactive; rw [e.fn']; rfl

structure At (X : Wd) (c : Ce) (env : Env) (h₀ : Heap) (m : Str → Option Value) (ext : List (Addr × Obj)) (loc : List (Option V)) (mu imm : List (Addr × Obj)) (H : List O) (s : Shared) : Prop where
  st : St X h₀ env.locals m mu ext imm H s
  tk : 1 ≤ s.toks
  lr : LRel X c.nm env m imm (mu.map Prod.fst) loc
theorem At.step {X c env h₀ m ext loc mu imm H s mu' imm' H' s'} (a : At X c env h₀ m ext loc mu imm H s) (t : St X h₀ env.locals m mu' ext imm' H' s') (k : 1 ≤ s'.toks) (g : Gw mu imm mu' imm') : At X c env h₀ m ext loc mu' imm' H' s' :=
  ⟨t, k, a.lr.gw g⟩

noncomputable def SE (X : Wd) (n : Nat) (c : Ce) (env : Env) (e : PySem.Expr) (loc : List (Option V)) (H : List O) (v : V) (H' : List O) : Prop :=
  ∀ ⦃A : Around⦄ ⦃h₀ : Heap⦄ ⦃m : Str → Option Value⦄ ⦃mu ext imm : List (Addr × Obj)⦄ ⦃s : Shared⦄ ⦃Q : Value → Shared → Prop⦄ ⦃E : Value → Shared → Prop⦄,
    Room A n → X.In h₀ → At X c env h₀ m ext loc mu imm H s →
    (∀ mu' imm' y s', At X c env h₀ m ext loc mu' imm' H' s' → Gw mu imm mu' imm' → VRel X imm' (mu'.map Prod.fst) v y → Q y s') →
    wpAny (model X.prog X.w) A (eval e env) Q E s
/-- a list of expressions, in the way of a call's arguments -/
noncomputable def SEs (X : Wd) (n : Nat) (c : Ce) (env : Env) (es : List PySem.Expr) (loc : List (Option V)) (H : List O) (vs : List V) (H' : List O) : Prop :=
  ∀ ⦃A : Around⦄ ⦃h₀ : Heap⦄ ⦃m : Str → Option Value⦄ ⦃mu ext imm : List (Addr × Obj)⦄ ⦃s : Shared⦄ ⦃Q : List Value → Shared → Prop⦄ ⦃E : Value → Shared → Prop⦄,
    Room A n → X.In h₀ → At X c env h₀ m ext loc mu imm H s →
    (∀ mu' imm' ys s', At X c env h₀ m ext loc mu' imm' H' s' → Gw mu imm mu' imm' → VRs X imm' (mu'.map Prod.fst) vs ys → Q ys s') →
    wpAny (model X.prog X.w) A (spliced (es.map fun e => (false, eval e env))) Q E s
noncomputable def ST (X : Wd) (n : Nat) (c : Ce) (env : Env) (e : PySem.Expr) (loc : List (Option V)) (H : List O) (b : Bool) (H' : List O) : Prop :=
  ∀ ⦃A : Around⦄ ⦃h₀ : Heap⦄ ⦃m : Str → Option Value⦄ ⦃mu ext imm : List (Addr × Obj)⦄ ⦃s : Shared⦄ ⦃Q : Bool → Shared → Prop⦄ ⦃E : Value → Shared → Prop⦄,
    Room A n → X.In h₀ → At X c env h₀ m ext loc mu imm H s →
    (∀ mu' imm' s', At X c env h₀ m ext loc mu' imm' H' s' → Gw mu imm mu' imm' → Q b s') →
    wpAny (model X.prog X.w) A (isTrue e env (eval e env)) Q E s

noncomputable def CallS (X : Wd) (n : Nat) (a : Addr) (vs : List V) (H : List O) (v : V) (H' : List O) : Prop :=
  ∀ ⦃A : Around⦄ ⦃h₀ : Heap⦄ ⦃L : Addr⦄ ⦃m : Str → Option Value⦄ ⦃mu ext imm : List (Addr × Obj)⦄ ⦃s : Shared⦄ ⦃ys : List Value⦄ ⦃R : Result → Shared → Prop⦄,
    Room A n → X.In h₀ → St X h₀ L m mu ext imm H s → 1 ≤ s.toks → VRs X imm (mu.map Prod.fst) vs ys →
    (∀ mu' imm' y s', St X h₀ L m mu' ext imm' H' s' → 1 ≤ s'.toks → Gw mu imm mu' imm' → VRel X imm' (mu'.map Prod.fst) v y → R (.ok (.ret y)) s') →
    codeAny (model X.prog X.w) A (.call (.ref a) ⟨ys, []⟩) R s

/-- what the global names stand for, the calls' contracts -/
noncomputable def GVOk (X : Wd) (fa : Nat → Addr) (x : Str) : GV → Prop
  | .const p => ∃ v, nsIn X.K mainGlobals x = some (some v) ∧ DatIn [] v p.dat
  | .tab i => ∃ a, nsIn X.K mainGlobals x = some (some (.ref a)) ∧ X.T i = some a
  | .defn f => nsIn X.K mainGlobals x = some (some (.ref (fa f))) ∧ keepIn X.K (.ref (fa f)) = true
  | .cls at_ => nsIn X.K mainGlobals x = some (some (.ref X.C)) ∧ keepIn X.K (.ref X.C) = true ∧
      ∃ mc, typeIn X.K (.ref X.C) = some mc ∧ readsIn X.K X.C mc = true ∧ ∀ n p, at_.lookup n = some p → ∃ v, findCls X.K (.ref X.C) mc n = some (.val v) ∧ handedIn v = true ∧ DatIn [] v p.dat
  | .bi b _ => nsIn X.K mainGlobals x = some none ∧ bootBuiltins x = some (biVal b) ∧ x ≠ "__name__" ∧ ∃ i, biVal b = .builtin i
  | .ty b _ => nsIn X.K mainGlobals x = some none ∧ bootBuiltins x = some (biVal b) ∧ x ≠ "__name__" ∧ ∃ i, biVal b = .type i
structure MethOk (X : Wd) (fa : Nat → Addr) (x : Str) (f : Nat) : Prop where
  plain : plainGet X.K X.C x = true
  find : findIn X.K (.ref X.C) x = some (some (.ref (fa f)))
  fn : isFn X.K (.ref (fa f)) = true
  keep : keepIn X.K (.ref (fa f)) = true
structure ClsOk (X : Wd) (fa : Nat → Addr) (init : Nat) : Prop where
  makes : makesIn X.K X.C = true
  ini : findIn X.K (.ref X.C) "__init__" = some (some (.ref (fa init)))
  fn : typeIn X.K (.ref (fa init)) = some (.type "function")
  hasDict : hasDictIn X.K X.C = true
  set_ : findIn X.K (.ref X.C) "__setattr__" = some (some (.builtin "object.__setattr__"))
  over : plainOver X.K X.C = true
/-- a name that the instances bear, read and stored -/
structure FldOk (X : Wd) (x : Str) : Prop where
  plain : plainGet X.K X.C x = true
  find : findIn X.K (.ref X.C) x = some none
  taker : takerIn X.K X.C x = some none
structure GOk (X : Wd) (fa : Nat → Addr) (gl : List (Str × GV)) (ml : List (Str × Nat)) (fl : List Str) (g : G) (n : Nat) : Prop where
  fld : ∀ x ∈ fl, FldOk X x
  gv : ∀ x v, gl.lookup x = some v → GVOk X fa x v
  meth : ∀ x f, ml.lookup x = some f → MethOk X fa x f
  cls : ClsOk X fa g.init
  tabs : Tabs X g.tabs
  call : ∀ f vs H v H', g.call f vs H = some (v, H') → CallS X n (fa f) vs H v H'

section
variable {X : Wd} {n : Nat} {c : Ce} {env : Env} {loc : List (Option V)} {H H' : List O} {A : Around} {h₀ : Heap} {m : Str → Option Value} {mu ext imm : List (Addr × Obj)} {s : Shared} {E : Value → Shared → Prop}

theorem idxS_get : ∀ {l : List Str} {x : Str} {i : Nat}, idxS x l = some i → l[i]? = some x
  | y :: r, x, i, h => by
    unfold idxS at h
    split at h
    · rename_i e; cases h; simp [eq_of_beq e]
    · obtain ⟨j, hj, rfl⟩ := Option.map_eq_some_iff.mp h
      simpa using idxS_get hj
theorem At.local_ (eo : EnvOk c env) (a : At X c env h₀ m ext loc mu imm H s) {x : Str} {i : Nat} {v : V} (hk : c.kind x = some .local) (hs : c.slot x = some i) (hv : loc[i]? = some (some v)) {pos : Pos} (hd : (x == ("__debug__" : Str)) = false) {Q : Value → Shared → Prop}
    (hQ : ∀ y, VRel X imm (mu.map Prod.fst) v y → Q y s) : wpAny (model X.prog X.w) A (eval (.Name x pos) env) Q E s := by
  obtain ⟨y, hy, ry⟩ := (a.lr i v x hv (idxS_get hs)).1 ((eo.kind x).trans hk)
  exact wpAny_Name (wpAny_loadName_local eo.fn' ((eo.kind x).trans hk) a.st.fr.ns hy (hQ y ry)) hd

theorem At.cell_ (eo : EnvOk c env) (a : At X c env h₀ m ext loc mu imm H s) {x : Str} {i r : Nat} {p : P} (hk : c.kind x = some .cell) (hs : c.slot x = some i) (hv : loc[i]? = some (some (.ref r))) (hr : H[r]? = some (.cell (some p)))
    {pos : Pos} (hd : (x == ("__debug__" : Str)) = false) {Q : Value → Shared → Prop} (hQ : ∀ y, DatIn imm y p.dat → Q y s) : wpAny (model X.prog X.w) A (eval (.Name x pos) env) Q E s := by
  obtain ⟨r', d, e1, e2, e3⟩ := (a.lr i _ x hv (idxS_get hs)).2 (.inl ((eo.kind x).trans hk))
  cases e1
  obtain ⟨en, he, ho⟩ := a.st.mr.get hr
  rw [List.getElem?_map, he] at e3
  cases e3
  cases ho with
  | cellS hc hd2 =>
    rename_i d o v
    have hm : (d, o) ∈ mu ++ (ext ++ imm) := List.mem_append_left _ (List.mem_of_getElem? he)
    exact wpAny_Name (wpAny_loadName_cell eo.fn' ((eo.kind x).trans hk) e2 ⟨_, (a.st.nw _ hm).1, hc⟩ (hQ v hd2)) hd
theorem At.glob_ (eo : EnvOk c env) (I : X.In h₀) (a : At X c env h₀ m ext loc mu imm H s) {x : Str} {v : Value} (hk : c.kind x = some .globalImplicit) (hv : nsIn X.K mainGlobals x = some (some v))
    {pos : Pos} (hd : (x == ("__debug__" : Str)) = false) {Q : Value → Shared → Prop} (hQ : Q v s) : wpAny (model X.prog X.w) A (eval (.Name x pos) env) Q E s :=
  nameG_K (p := X.p) (loose := X.loose) (mb := X.mb) a.st.fr I.k I.t hv hQ eo.gl eo.fn' ((eo.kind x).trans hk) hd
theorem At.blt_ (eo : EnvOk c env) (I : X.In h₀) (a : At X c env h₀ m ext loc mu imm H s) {x : Str} {v : Value} (hk : c.kind x = some .globalImplicit) (hv : nsIn X.K mainGlobals x = some none) (hb : bootBuiltins x = some v) (hn : x ≠ "__name__")
    {pos : Pos} (hd : (x == ("__debug__" : Str)) = false) {Q : Value → Shared → Prop} (hQ : Q v s) : wpAny (model X.prog X.w) A (eval (.Name x pos) env) Q E s :=
  Calls.Name_function_global eo.fn' ((eo.kind x).trans hk)
    (Calls.loadGlobal_builtin (env := env) (by rw [eo.gl]; exact I.t.g.keeps a.st.fr.keep) (mg_none_of I.k I.t.g hv) (by rw [eo.bi]; exact I.t.b.keeps a.st.fr.keep) ((I.t.builtins x hn).trans hb) hQ) hd

theorem St.newRef {L : Addr} (t : St X h₀ L m mu ext imm H s) (e : Addr × Obj) : VRel X imm ((mu ++ [e]).map Prod.fst) (.ref H.length) (.ref e.1) := ⟨e.1, by rw [← t.mr.length]; simp, rfl⟩
theorem se_const {k : Const} {p : P} (h : litOf k = some p) {i : Nat} {pos : Pos} : SE X n c env (.Constant k i pos) loc H (.p p) H := by
  intro A h₀ m mu ext imm s Q E R I a hQ
  refine wpAny_with_toks a.tk ?_
  have fin : ∀ (y : Value) (tk : Nat), DatIn imm y p.dat → 1 ≤ tk → Q y { s with toks := tk } := fun y tk hy htk => hQ _ _ _ _ (a.step (a.st.tok tk) htk .refl) .refl hy
  cases k <;> cases h
  · exact fun Γ q _ => fun _ => fin .none s.toks .none a.tk
  · exact fun Γ q _ => fun _ => fin _ s.toks (.bool _) a.tk
  · exact wpAny_Constant_int fun hk => fin _ _ (.int _ _) hk
  · exact wpAny_Constant_str fun hk => fin _ _ (by rw [P.dat, S_of]; exact .str _ _) hk
theorem se_bin {l r : PySem.Expr} {op : Operator} {o : BOp} {pos : Pos} {H₁ H₂ : List O} {x y v : V} (hop : bopOf op = some o) (hl : SE X n c env l loc H x H₁) (hr : SE X n c env r loc H₁ y H₂) (hv : binV o x y H₂ = some (v, H')) :
    SE X n c env (.BinOp l op r pos) loc H v H' := by
  intro A h₀ m mu ext imm s Q E R I a hQ
  refine wpAny_with_toks a.tk (wpAny_BinOp (hl R I a fun mu1 imm1 y1 s1 a1 g1 r1 => hr R I a1 fun mu2 imm2 y2 s2 a2 g2 r2 => ?_))
  refine wpAny_with_toks a2.tk (op_bin hop hv a2.st (r1.gw g2) r2 fun mu3 imm3 z s3 t3 g3 r3 k3 _ => ?_)
  exact hQ _ _ _ _ (a2.step t3 k3 g3) ((g1.trans g2).trans g3) r3
theorem se_cmp {l r : PySem.Expr} {op : CmpOp} {pos : Pos} {H₁ : List O} {x y : V} {b : Bool} (hs : isSetE r = false) (hl : SE X n c env l loc H x H₁) (hr : SE X n c env r loc H₁ y H') (hv : cmpV (copOf op) x y H' = some b) :
    SE X n c env (.Compare l [op] [r] pos) loc H (.p (.bool b)) H' := by
  intro A h₀ m mu ext imm s Q E R I a hQ
  have hm : behindInMarks op r = false := by cases r <;> first | rfl | exact no hs | exact nob hs | cases hs
  refine wpAny_Compare1 (hl R I a fun mu1 imm1 y1 s1 a1 g1 r1 => hr R I a1 fun mu2 imm2 y2 s2 a2 g2 r2 => ?_) hm
  refine wpAny_with_toks a2.tk (op_cmp hv a2.st R (r1.gw g2) r2 fun k hk => ?_)
  exact hQ _ _ _ _ (a2.step (a2.st.tok k) hk .refl) (g1.trans g2) (.bool b)
theorem st_cmp {l r : PySem.Expr} {op : CmpOp} {pos : Pos} {H₁ : List O} {x y : V} {b : Bool} (hs : isSetE r = false) (hl : SE X n c env l loc H x H₁) (hr : SE X n c env r loc H₁ y H') (hv : cmpV (copOf op) x y H' = some b) :
    ST X n c env (.Compare l [op] [r] pos) loc H b H' := by
  intro A h₀ m mu ext imm s Q E R I a hQ
  have hm : behindInMarks op r = false := by cases r <;> first | rfl | exact no hs | exact nob hs | cases hs
  refine wpAny_isTrue_Compare1 (hl R I a fun mu1 imm1 y1 s1 a1 g1 r1 => hr R I a1 fun mu2 imm2 y2 s2 a2 g2 r2 => ?_) hm
  refine wpAny_with_toks a2.tk (op_cmp hv a2.st R (r1.gw g2) r2 fun k hk => ?_)
  exact wpAny_truthy_bool (hQ _ _ _ (a2.step (a2.st.tok k) hk .refl) (g1.trans g2))
theorem se_neg {e : PySem.Expr} {pos : Pos} {i : Int} (he : SE X n c env e loc H (.p (.int i)) H') : SE X n c env (.UnaryOp .USub e pos) loc H (.p (.int (-i))) H' := by
  intro A h₀ m mu ext imm s Q E R I a hQ
  refine wpAny_UnaryOp (he R I a fun mu1 imm1 y1 s1 a1 g1 r1 => ?_)
  cases r1
  refine wpAny_with_toks a1.tk (neg_int fun hk => ?_)
  exact hQ _ _ _ _ (a1.step (a1.st.tok _) hk .refl) g1 (.int _ _)
theorem se_ife {t x y : PySem.Expr} {pos : Pos} {b : Bool} {H₁ : List O} {v : V} (ht : ST X n c env t loc H b H₁) (hx : b = true → SE X n c env x loc H₁ v H') (hy : b = false → SE X n c env y loc H₁ v H') :
    SE X n c env (.IfExp t x y pos) loc H v H' := by
  intro A h₀ m mu ext imm s Q E R I a hQ
  refine wpAny_IfExp (ht R I a fun mu1 imm1 s1 a1 g1 => ?_)
  cases b with
  | true => exact hx rfl R I a1 fun mu2 imm2 y2 s2 a2 g2 r2 => hQ _ _ _ _ a2 (g1.trans g2) r2
  | false => exact hy rfl R I a1 fun mu2 imm2 y2 s2 a2 g2 r2 => hQ _ _ _ _ a2 (g1.trans g2) r2
theorem st_not {e : PySem.Expr} {pos : Pos} {b : Bool} (he : ST X n c env e loc H b H') : ST X n c env (.UnaryOp .Not e pos) loc H (!b) H' := by
  intro A h₀ m mu ext imm s Q E R I a hQ
  exact wpAny_isTrue_Not (he R I a fun mu1 imm1 s1 a1 g1 => hQ _ _ _ a1 g1)
noncomputable def plainT : PySem.Expr → Bool
  | .UnaryOp .Not _ _ | .BoolOp .. | .IfExp .. | .Compare .. => false
  | _ => true
theorem st_val {e : PySem.Expr} {v : V} {b : Bool} (hp : plainT e = true) (he : SE X n c env e loc H v H') (hv : truV v = some b) : ST X n c env e loc H b H' := by
  intro A h₀ m mu ext imm s Q E R I a hQ
  refine wpAny_isTrue_value (he R I a fun mu1 imm1 y1 s1 a1 g1 r1 => ?_) (by
    cases e <;> first | rfl | exact no hp | exact nob hp | cases hp | skip
    rename_i o x p; cases o <;> first | rfl | exact no hp | exact nob hp | cases hp)
  exact wpAny_with_toks a1.tk (op_truth hv a1.st r1 fun k hk => hQ _ _ _ (a1.step (a1.st.tok k) hk .refl) g1)
theorem ses_nil : SEs X n c env [] loc H [] H := by
  intro A h₀ m mu ext imm s Q E R I a hQ
  exact wpAny_pure (hQ _ _ _ _ a .refl .nil)
theorem ses_cons {e : PySem.Expr} {es : List PySem.Expr} {v : V} {vs : List V} {H₁ : List O} (he : SE X n c env e loc H v H₁) (hs : SEs X n c env es loc H₁ vs H') : SEs X n c env (e :: es) loc H (v :: vs) H' := by
  intro A h₀ m mu ext imm s Q E R I a hQ
  refine Calls.spliced_cons (he R I a fun mu1 imm1 y1 s1 a1 g1 r1 => hs R I a1 fun mu2 imm2 ys s2 a2 g2 r2 => ?_)
  exact hQ _ _ _ _ a2 (g1.trans g2) (.cons (r1.gw g2) r2)
theorem star_cons {e : PySem.Expr} (h : isStarE e = false) (r : List PySem.Expr) : starEach (e :: r) env = (false, eval e env) :: starEach r env := by
  cases e <;> first | rfl | exact no h | exact nob h | cases h
theorem star_plain {es : List PySem.Expr} : es.all (fun e => !isStarE e) = true → starEach es env = es.map fun e => (false, eval e env) := by
  induction es with
  | nil => exact fun _ => rfl
  | cons e r ih =>
    intro h
    obtain ⟨h1, h2⟩ := Bool.and_eq_true_iff.mp h
    rw [star_cons ((Bool.not_eq_true' _).mp h1), ih h2]
    rfl
theorem back_plain (pos : Pos) (es : List PySem.Expr) : backTo pos (es.map fun e => (false, eval e env)) = es.map fun e => (false, eval e env) := by
  unfold backTo; rw [List.map_map]; rfl
theorem allP_some : ∀ {vs : List V} {ps : List P}, allP vs = some ps → vs = ps.map .p
  | [], ps, h => by cases h; rfl
  | v :: r, ps, h => by
    cases v with
    | p x =>
      simp only [allP] at h
      obtain ⟨q, hq, rfl⟩ := Option.map_eq_some_iff.mp h
      rw [allP_some hq]; rfl
    | _ => simp [allP] at h
theorem VRs.dats {imm ad} : ∀ {ps : List P} {ys : List Value}, VRs X imm ad (ps.map .p) ys → DatAll imm ys (dats ps)
  | [], _, .nil => .nil
  | _ :: _, _, .cons a r => .cons a (VRs.dats r)
theorem se_tup {es : List PySem.Expr} {k : Nat} {pos : Pos} {vs : List V} {ps : List P} (hst : es.all (fun e => !isStarE e) = true) (hs : SEs X n c env es loc H vs H') (hp : allP vs = some ps) (hk : ok ps.length = true) :
    SE X n c env (.Tuple es k pos) loc H (.p (.tup ps)) H' := by
  intro A h₀ m mu ext imm s Q E R I a hQ
  refine wpAny_with_toks a.tk (wpAny_Tuple ?_)
  rw [star_plain hst, back_plain]
  refine hs R I a fun mu1 imm1 ys s1 a1 g1 r1 => ?_
  rw [allP_some hp] at r1
  have hl := r1.len
  rw [List.length_map] at hl
  refine ⟨by rw [sizeLine_eq]; have := of_ok hk; lia, fun hk2 => ?_⟩
  have N := a1.st.nw.push a1.st.fr (tupObj ys 0)
  exact hQ _ _ _ _ (a1.step (a1.st.addI (a1.st.fr.push _) N a1.st.lt s1.toks) a1.tk gw_imm) (g1.trans gw_imm) (.tuple (.head _) (r1.dats.mono fun _ h => .tail _ h))
theorem se_lst {es : List PySem.Expr} {pos : Pos} {vs : List V} {ps : List P} {H₁ : List O} (hst : es.all (fun e => !isStarE e) = true) (hs : SEs X n c env es loc H vs H₁) (hp : allP vs = some ps) (hk : ok ps.length = true) :
    SE X n c env (.List es pos) loc H (.ref H₁.length) (H₁ ++ [.list ps]) := by
  intro A h₀ m mu ext imm s Q E R I a hQ
  refine wpAny_List ?_
  rw [star_plain hst, back_plain]
  refine hs R I a fun mu1 imm1 ys s1 a1 g1 r1 => ?_
  rw [allP_some hp] at r1
  have hl := r1.len
  rw [List.length_map] at hl
  refine ⟨by rw [sizeLine_eq]; have := of_ok hk; lia, ?_⟩
  have N := a1.st.nw.push a1.st.fr (listOf ys.toArray 0)
  exact hQ _ _ _ _ (a1.step (a1.st.addM (a1.st.fr.push _) N a1.st.lt (.list r1.dats) s1.toks) a1.tk gw_mu) (g1.trans gw_mu) (a1.st.newRef _)
end
end Mine
end
section
open PySem PySem.W PyProof.Rows PyProof.V
set_option Elab.async false
set_option maxRecDepth 20000
namespace Mine
section
variable {X : Wd} {n : Nat} {c : Ce} {env : Env} {loc : List (Option V)} {H H' : List O} {A : Around} {h₀ : Heap} {m : Str → Option Value} {mu ext imm : List (Addr × Obj)} {s : Shared} {E : Value → Shared → Prop} {tabs : Nat → List P}

theorem se_idx (TT : Tabs X tabs) {v i : PySem.Expr} {pos : Pos} {a b r : V} {H₁ : List O} (hs : isSliceE i = false) (hv : SE X n c env v loc H a H₁) (hi : SE X n c env i loc H₁ b H') (hr : idxV tabs a b H' = some r) :
    SE X n c env (.Subscript v i pos) loc H r H' := by
  intro A h₀ m mu ext imm s Q E R I a0 hQ
  refine Subscript_ (hv R I a0 fun mu1 imm1 y1 s1 a1 g1 r1 => hi R I a1 fun mu2 imm2 y2 s2 a2 g2 r2 => ?_)
  refine wpAny_with_toks a2.tk (op_idx TT I hs hr a2.st (r1.gw g2) r2 fun z k hz hk => ?_)
  exact hQ _ _ _ _ (a2.step (a2.st.tok k) hk .refl) (g1.trans g2) hz

/-- a slice's bound -/
noncomputable def SB (X : Wd) (n : Nat) (c : Ce) (env : Env) (e : Option PySem.Expr) (loc : List (Option V)) (H : List O) (v : Option V) (H' : List O) : Prop :=
  ∀ ⦃A : Around⦄ ⦃h₀ : Heap⦄ ⦃m : Str → Option Value⦄ ⦃mu ext imm : List (Addr × Obj)⦄ ⦃s : Shared⦄ ⦃Q : Value → Shared → Prop⦄ ⦃E : Value → Shared → Prop⦄,
    Room A n → X.In h₀ → At X c env h₀ m ext loc mu imm H s →
    (∀ mu' imm' y s', At X c env h₀ m ext loc mu' imm' H' s' → Gw mu imm mu' imm' → BRel v y → Q y s') →
    wpAny (model X.prog X.w) A (evalPart e env) Q E s
theorem brel_of {v : V} {y : Value} {ad : List Addr} (r : VRel X imm ad v y) : BRel (some v) y := fun _ e => by
  apply int_E e r
  exact fun t => ⟨t, rfl⟩
theorem sb_none : SB X n c env none loc H none H := by
  intro A h₀ m mu ext imm s Q E R I a hQ
  exact wpAny_evalPart_none (hQ _ _ _ _ a .refl rfl)
theorem sb_some {e : PySem.Expr} {v : V} (he : SE X n c env e loc H v H') : SB X n c env (some e) loc H (some v) H' := by
  intro A h₀ m mu ext imm s Q E R I a hQ
  exact wpAny_evalPart_some (he R I a fun mu1 imm1 y1 s1 a1 g1 r1 => hQ _ _ _ _ a1 g1 (brel_of r1))
theorem se_sl {v : PySem.Expr} {lo hi : Option PySem.Expr} {p pos : Pos} {a r : V} {bl bh : Option V} {H₁ H₂ H₃ : List O} (hv : SE X n c env v loc H a H₁) (hl : SB X n c env lo loc H₁ bl H₂) (hh : SB X n c env hi loc H₂ bh H₃) (hr : slV a bl bh H₃ = some (r, H')) :
    SE X n c env (.Subscript v (.Slice lo hi none p) pos) loc H r H' := by
  intro A h₀ m mu ext imm s Q E R I a0 hQ
  refine Subscript_ (hv R I a0 fun mu1 imm1 y1 s1 a1 g1 r1 => wpAny_Slice (hl R I a1 fun mu2 imm2 y2 s2 a2 g2 r2 => hh R I a2 fun mu3 imm3 y3 s3 a3 g3 r3 => wpAny_evalPart_none ?_))
  refine wpAny_with_toks (n := 1) a3.tk (op_sl hr a3.st (r1.gw (g2.trans g3)) r2 r3 fun mu4 imm4 z s4 t4 g4 r4 k4 => ?_)
  exact hQ _ _ _ _ (a3.step t4 k4 g4) (((g1.trans g2).trans g3).trans g4) r4

/-! instances -/
theorem FRel_get : ∀ {es : List DictEntry} {fs : List (Str × P)} {x : Str}, FRel imm es fs → (∀ p, fs.lookup x = some p → ∃ v, W.getL x es = some (some v) ∧ DatIn imm v p.dat) ∧ (fs.lookup x = none → W.getL x es = some none)
  | _, _, x, .nil => ⟨fun p h => by simp at h, fun _ => rfl⟩
  | _, _, x, .cons (n := k) (es := es) (fs := fs) d r => by
    obtain ⟨i1, i2⟩ := FRel_get (x := x) r
    by_cases hk : x = k
    · subst hk
      constructor
      · intro p h
        rw [List.lookup_cons, beq_self_eq_true] at h
        cases h
        refine ⟨_, ?_, d⟩
        unfold W.getL
        rw [List.find?_cons]
        simp [Value.isStr]
      · intro h; rw [List.lookup_cons, beq_self_eq_true] at h; cases h
    · have hb : (x == k) = false := beq_eq_false_iff_ne.mpr hk
      have hb2 : (k == x) = false := beq_eq_false_iff_ne.mpr (Ne.symm hk)
      have e : ∀ h t v, W.getL x (⟨h, .str k t, v⟩ :: es) = W.getL x es := by
        intro h t v
        unfold W.getL
        rw [List.find?_cons]
        have : (DictEntry.key ⟨h, .str k t, v⟩).isStr x = false := hb2
        rw [this]
        have : (List.any (⟨h, .str k t, v⟩ :: es) fun x => x.refKey) = es.any fun x => x.refKey := by rw [List.any_cons]; rfl
        rw [this]
      rw [e]
      constructor
      · intro p h; rw [List.lookup_cons, hb] at h; exact i1 p h
      · intro h; rw [List.lookup_cons, hb] at h; exact i2 h
theorem FRel_put {v : Value} {p : P} (d : DatIn imm v p.dat) (x : Str) (hsh : Int) (t : Tok) : ∀ {es : List DictEntry} {fs : List (Str × P)}, FRel imm es fs → FRel imm (putL x hsh (.str x t) v es) (put fs x p)
  | _, _, .nil => .cons d .nil
  | _, _, .cons (n := k) (es := es) (fs := fs) d2 r => by
    unfold putL put
    by_cases hk : k = x
    · subst hk
      simp only [Value.isStr, beq_self_eq_true, if_true]
      exact .cons d r
    · have hb2 : (k == x) = false := beq_eq_false_iff_ne.mpr hk
      simp only [Value.isStr, hb2, Bool.false_eq_true, if_false]
      exact .cons d2 (FRel_put d x hsh t r)
theorem FRel_len : ∀ {es : List DictEntry} {fs : List (Str × P)}, FRel imm es fs → es.length = fs.length
  | _, _, .nil => rfl
  | _, _, .cons _ r => by simp [FRel_len r]
theorem put_len (fs : List (Str × P)) (x : Str) (p : P) : (put fs x p).length ≤ fs.length + 1 := by
  induction fs with
  | nil => simp [put]
  | cons a r ih =>
    unfold put
    split
    · simp
    · simp; exact ih

/-- a form of the abstract heap -/
theorem St.obj {L : Addr} (t : St X h₀ L m mu ext imm H s) {r : Nat} {fs : List (Str × P)} (h : getF H r = some fs) {v : Value} (hv : VRel X imm (mu.map Prod.fst) (.obj r) v) :
    ∃ x d es k, v = .ref x ∧ mu[r]? = some (d, dictOf es k) ∧ FRel imm es fs ∧ InstAt s.heap x (instObj X.C d) X.C (some (dictOf es k)) := by
  obtain ⟨e, he, ho⟩ := t.mr.get (getF_some h)
  cases ho with
  | inst hm hf =>
    rename_i x0 d es k
    obtain ⟨x, d', e1, rfl, hm2⟩ := hv
    rw [List.getElem?_map, he] at e1
    cases e1
    have hd : (d, dictOf es k) ∈ mu ++ (ext ++ imm) := List.mem_append_left _ (List.mem_of_getElem? he)
    exact ⟨x, d, es, k, rfl, he, hf, ⟨(t.nw _ (St.sub_imm _ hm2)).1, rfl, rfl, (t.nw _ hd).1⟩⟩
theorem handed_dat {v : Value} {d : Dat} (h : DatIn imm v d) : handedIn v = true := h.handed

theorem se_fld {fa : Nat → Addr} {init : Nat} (CO : ClsOk X fa init) {x a : Str} (FO : FldOk X a) {px pos : Pos} {r : Nat} {fs : List (Str × P)} {p : P} (hv : SE X n c env (.Name x px) loc H (.obj r) H') (hf : getF H' r = some fs) (hl : fs.lookup a = some p) :
    SE X n c env (.Attribute (.Name x px) a pos) loc H (.p p) H' := by
  intro A h₀ m mu ext imm s Q E R I a0 hQ
  refine Attribute_any_ (hv R I a0 fun mu1 imm1 y1 s1 a1 g1 r1 => ?_)
  obtain ⟨x', d, es, k, rfl, e1, hfr, hi⟩ := a1.st.obj hf r1
  obtain ⟨z, hz, rz⟩ := (FRel_get hfr).1 p hl
  refine wpAny_with_toks a1.tk (get_own (attr := none) a1.st.fr I.k hi FO.plain CO.hasDict FO.find rfl hz rz.handed fun hk => ?_)
  exact hQ _ _ _ _ (a1.step (a1.st.tok _) hk .refl) g1 rz
theorem se_cattr {x a : Str} {px pos : Pos} {at_ : List (Str × P)} {p : P} {fa : Nat → Addr} (eo : EnvOk c env) (hk : c.kind x = some .globalImplicit) (hd : (x == ("__debug__" : Str)) = false) (hg : GVOk X fa x (.cls at_)) (hl : at_.lookup a = some p) :
    SE X n c env (.Attribute (.Name x px) a pos) loc H (.p p) H := by
  intro A h₀ m mu ext imm s Q E R I a0 hQ
  obtain ⟨g1, g2, mc, g3, g4, g5⟩ := hg
  obtain ⟨v, h1, h2, h3⟩ := g5 a p hl
  refine Attribute_any_ (a0.glob_ eo I hk g1 hd ?_)
  refine wpAny_with_toks a0.tk (cls_val a0.st.fr I.k g3 g4 h1 h2 fun hk => ?_)
  exact hQ _ _ _ _ (a0.step (a0.st.tok _) hk .refl) .refl (h3.mono (List.forall_mem_nil _))
end
end Mine
end
section
open PySem PySem.W PyProof.Rows PyProof.V
set_option Elab.async false
set_option maxRecDepth 20000
namespace Mine
section
variable {X : Wd} {n : Nat} {c : Ce} {env : Env} {loc : List (Option V)} {H H' : List O} {A : Around} {h₀ : Heap} {m : Str → Option Value} {mu ext imm : List (Addr × Obj)} {s : Shared} {E : Value → Shared → Prop} {tabs : Nat → List P}

/-- the arguments of a plain call, evaluated -/
theorem args_one {e : PySem.Expr} {r : List PySem.Expr} (h : (e :: r).all (fun e => !isStarE e) = true) : starEach (e :: r) env = (false, eval e env) :: starEach r env := by
  rw [star_plain h]
  rw [List.all_cons, Bool.and_eq_true] at h
  rw [star_plain h.2]; rfl
theorem args_no {r : List PySem.Expr} (pos : Pos) (h : r.all (fun e => !isStarE e) = true) : ((backTo pos (starEach r env)).any fun x => x.1) = false := by
  rw [star_plain h, back_plain]
  induction r with
  | nil => rfl
  | cons a r ih => rw [List.all_cons, Bool.and_eq_true] at h; simpa using ih h.2
theorem plain_star {es : List PySem.Expr} (h : plainArgs es = true) : es.all (fun e => !isStarE e) = true := by
  unfold plainArgs at h
  exact (Bool.and_eq_true_iff.mp h).1

theorem callB {f : String} {first : List Value} {es : List PySem.Expr} {pos : Pos} (hp : plainArgs es = true) {Q : Value → Shared → Prop}
    (h : wpAny (model X.prog X.w) A (spliced (es.map fun e => (false, eval e env))) (fun vs s₁ => wpAny (model X.prog X.w) A (call (.builtin f) (first ++ vs)) Q E s₁) E s) :
    wpAny (model X.prog X.w) A (callWith pos (.builtin f) first (backTo pos (starEach es env)) []) Q E s := by
  have hs := plain_star hp
  cases es with
  | nil =>
    refine callWith_method0 ?_
    intro Γ p hΓ
    have := h Γ p hΓ Γ p hΓ
    rw [List.append_nil] at this
    exact this
  | cons e r =>
    refine callWith_method1 ?_ (args_one hs) (args_no pos (by rw [List.all_cons, Bool.and_eq_true] at hs; exact hs.2))
    rw [star_plain hs, back_plain]
    exact h
theorem callT {f : String} {e : PySem.Expr} {r : List PySem.Expr} {pos : Pos} (hp : plainArgs (e :: r) = true) {Q : Value → Shared → Prop}
    (h : wpAny (model X.prog X.w) A (spliced ((e :: r).map fun e => (false, eval e env))) (fun vs s₁ => wpAny (model X.prog X.w) A (call (.type f) vs) Q E s₁) E s) :
    wpAny (model X.prog X.w) A (callWith pos (.type f) [] (backTo pos (starEach (e :: r) env)) []) Q E s := by
  have hs := plain_star hp
  refine PyProof.Rows.callWith_type1 ?_ (args_one hs) (args_no pos (by rw [List.all_cons, Bool.and_eq_true] at hs; exact hs.2))
  rw [star_plain hs, back_plain]
  exact h
theorem callF {f : Addr} (hk : keepIn X.K (.ref f) = true) (I : X.In h₀) {first : List Value} {es : List PySem.Expr} {pos : Pos} (hp : plainArgs es = true) {Q : Value → Shared → Prop} (h0 : X.K.In s.heap)
    (h : wpAny (model X.prog X.w) A (spliced (es.map fun e => (false, eval e env))) (fun vs s₁ => X.K.In s₁.heap ∧ wpAny (model X.prog X.w) A (call (.ref f) (first ++ vs)) Q E s₁) E s) :
    wpAny (model X.prog X.w) A (callWith pos (.ref f) first (backTo pos (starEach es env)) []) Q E s := by
  have hs := plain_star hp
  cases es with
  | nil =>
    refine callWith_K0 h0 hk ?_
    intro Γ p hΓ
    exact (h Γ p hΓ).2 Γ p hΓ
  | cons e r =>
    refine callWith_K I.k hk ?_ (args_one hs) (args_no pos (by rw [List.all_cons, Bool.and_eq_true] at hs; exact hs.2))
    rw [star_plain hs, back_plain]
    exact h
theorem VRs.append {imm ad vs ws ys zs} (a : VRs X imm ad vs ys) (b : VRs X imm ad ws zs) : VRs X imm ad (vs ++ ws) (ys ++ zs) := by
  induction a with
  | nil => exact b
  | cons h _ ih => exact .cons h ih

theorem se_bi {fa : Nat → Addr} (eo : EnvOk c env) {x i : _} {b : BI} {px pos : Pos} {es : List PySem.Expr} {vs : List V} {v : V} {H₁ : List O} (hk : c.kind x = some .globalImplicit) (hd : (x == ("__debug__" : Str)) = false)
    (hg : GVOk X fa x (.bi b i) ∨ GVOk X fa x (.ty b i)) (hb : ∀ l, biMore b l ↔ l = []) (hne : es ≠ []) (hp : plainArgs es = true) (hs : SEs X n c env es loc H vs H₁) (hv : biV b vs H₁ = some (v, H')) :
    SE X n c env (.Call (.Name x px) es [] pos) loc H v H' := by
  intro A h₀ m mu ext imm s Q E R I a0 hQ
  refine wpAny_with_toks a0.tk (wpAny_Call_ofName ?_)
  have fin : ∀ {E' : Value → Shared → Prop} mu1 imm1 ys s1, At X c env h₀ m ext loc mu1 imm1 H₁ s1 → Gw mu imm mu1 imm1 → VRs X imm1 (mu1.map Prod.fst) vs ys → wpAny (model X.prog X.w) A (call (biVal b) ys) (fun y s' => 1 ≤ s'.toks → Q y s') E' s1 := by
    intro E' mu1 imm1 ys s1 a1 g1 r1
    have h := op_bi (A := A) (E := E') hv a1.st R (more := []) r1 ((hb []).mpr rfl) (Q := fun y s' => 1 ≤ s'.toks → Q y s') fun mu2 imm2 z s2 t2 g2 r2 k2 => hQ _ _ _ _ (a1.step t2 k2 g2) (g1.trans g2) r2
    simpa using h
  rcases hg with ⟨h1, h2, h3, id, h4⟩ | ⟨h1, h2, h3, id, h4⟩
  · refine a0.blt_ eo I hk h1 h2 h3 hd ?_
    rw [h4]
    refine callB hp (hs R I a0 fun mu1 imm1 ys s1 a1 g1 r1 => ?_)
    have := fin mu1 imm1 ys s1 a1 g1 r1 (E' := fun e s' => 1 ≤ s'.toks → E e s')
    rw [h4] at this
    exact this
  · refine a0.blt_ eo I hk h1 h2 h3 hd ?_
    rw [h4]
    cases es with
    | nil => exact absurd rfl hne
    | cons e r =>
      refine callT hp (hs R I a0 fun mu1 imm1 ys s1 a1 g1 r1 => ?_)
      have := fin mu1 imm1 ys s1 a1 g1 r1 (E' := fun e s' => 1 ≤ s'.toks → E e s')
      rw [h4] at this
      exact this
theorem se_isint {fa : Nat → Addr} (eo : EnvOk c env) {x y i j : _} {px py pos : Pos} {e : PySem.Expr} {a v : V} {H₁ : List O} (hk : c.kind x = some .globalImplicit) (hd : (x == ("__debug__" : Str)) = false)
    (hg : GVOk X fa x (.bi .isint i)) (hky : c.kind y = some .globalImplicit) (hdy : (y == ("__debug__" : Str)) = false) (hgy : GVOk X fa y (.ty .int16 j)) (hst : isStarE e = false) (hs : SE X n c env e loc H a H₁) (hv : biV .isint [a] H₁ = some (v, H')) :
    SE X n c env (.Call (.Name x px) [e, .Name y py] [] pos) loc H v H' := by
  intro A h₀ m mu ext imm s Q E R I a0 hQ
  refine wpAny_with_toks a0.tk (wpAny_Call_ofName ?_)
  obtain ⟨h1, h2, h3, id, h4⟩ := hg
  obtain ⟨q1, q2, q3, jd, q4⟩ := hgy
  refine a0.blt_ eo I hk h1 h2 h3 hd ?_
  refine callB (f := "isinstance") (by unfold plainArgs; rw [List.all_cons, hst]; rfl) ?_
  refine Calls.spliced_cons (hs R I a0 fun mu1 imm1 y1 s1 a1 g1 r1 => Calls.spliced_cons (a1.blt_ eo I hky q1 q2 q3 hdy (Calls.spliced_nil ?_)))
  have h := op_bi (A := A) (E := fun e s' => 1 ≤ s'.toks → E e s') hv a1.st R (more := [.type "int"]) (.cons r1 .nil) rfl (Q := fun y s' => 1 ≤ s'.toks → Q y s') fun mu2 imm2 z s2 t2 g2 r2 k2 => hQ _ _ _ _ (a1.step t2 k2 g2) (g1.trans g2) r2
  exact h
theorem se_int16 {fa : Nat → Addr} (eo : EnvOk c env) {x j : _} {px p16 pos : Pos} {k16 : Nat} {e : PySem.Expr} {a v : V} {H₁ : List O} (hk : c.kind x = some .globalImplicit) (hd : (x == ("__debug__" : Str)) = false)
    (hg : GVOk X fa x (.ty .int16 j)) (hst : isStarE e = false) (hs : SE X n c env e loc H a H₁) (hv : biV .int16 [a] H₁ = some (v, H')) :
    SE X n c env (.Call (.Name x px) [e, .Constant (.int 16) k16 p16] [] pos) loc H v H' := by
  intro A h₀ m mu ext imm s Q E R I a0 hQ
  refine wpAny_with_toks a0.tk (wpAny_Call_ofName ?_)
  obtain ⟨h1, h2, h3, id, h4⟩ := hg
  refine a0.blt_ eo I hk h1 h2 h3 hd ?_
  refine callT (f := "int") (by unfold plainArgs; rw [List.all_cons, hst]; rfl) ?_
  refine Calls.spliced_cons (hs R I a0 fun mu1 imm1 y1 s1 a1 g1 r1 => Calls.spliced_cons (wpAny_Constant_int (Calls.spliced_nil ?_)))
  have h := op_bi (A := A) (E := fun e s' => 1 ≤ s'.toks → E e s') hv (a1.st.tok (s1.toks + 1)) R (more := [.int 16 s1.toks]) (.cons r1 .nil) ⟨_, rfl⟩ (Q := fun y s' => 1 ≤ s'.toks → Q y s') fun mu2 imm2 z s2 t2 g2 r2 k2 => hQ _ _ _ _ (a1.step t2 k2 g2) (g1.trans g2) r2
  exact h

/-- methods of texts and lists -/
theorem few_args (o : PySem.Expr) (name : Str) (apos pos : Pos) (es : List PySem.Expr) (hc : isCallE o = false) (hl : apos.endLine = pos.line) (hp : plainArgs es = true) :
    eval (.Call (.Attribute o name apos) es [] pos) env = (do
      let ov ← eval o env
      standAt apos.atName
      let x ← holding [ov] (getMethod ov name (do return (← importBound o env).getD true))
      match x with
        | (f, first) => callWith pos f first (backTo pos (starEach es env)) []) := by
  have hs := plain_star hp
  have hlen : es.length < 30 := by
    unfold plainArgs at hp
    have := of_decide_eq_true (Bool.and_eq_true_iff.mp hp).2
    lia
  have hb : attributeBase o name env (eval o env) = eval o env := by cases o <;> first | rfl | exact no hc | exact nob hc | cases hc
  have hf : methodCallForm (es.length + ([] : List Keyword).length) (backTo pos (starEach es env)) (backToKw pos (keywordEach [] env)) = true := by
    unfold methodCallForm
    rw [star_plain hs, back_plain]
    rw [show (es.map fun e => (false, eval e env)).all (fun x => !x.1) = true from by rw [List.all_map]; exact List.all_eq_true.mpr fun _ _ => rfl]
    exact decide_eq_true hlen
  show (attributeBase o name env (eval o env) >>= fun ov => standAt apos.atName >>= fun _ => methodCall o name apos pos env ov (es.length + ([] : List Keyword).length) (backTo pos (starEach es env)) (backToKw pos (keywordEach [] env))) = _
  rw [hb]
  unfold methodCall
  rw [hf]
  have hm : methodCallPos true o env apos pos = pure pos := by
    unfold methodCallPos
    rw [hl]; simp
  rw [hm]
  rfl
theorem mcall {o : PySem.Expr} {name : Str} {apos pos : Pos} {es : List PySem.Expr} (hc : isCallE o = false) (hl : apos.endLine = pos.line) (hp : plainArgs es = true) {Q : Value → Shared → Prop}
    (h : ∀ pl, wpAny (model X.prog X.w) A (eval o env) (fun ov s₁ => wpAny (model X.prog X.w) A (getMethod ov name pl) (fun fx s₂ => wpAny (model X.prog X.w) A (callWith pos fx.1 fx.2 (backTo pos (starEach es env)) []) Q E s₂) E s₁) E s) :
    wpAny (model X.prog X.w) A (eval (.Call (.Attribute o name apos) es [] pos) env) Q E s := MethodCall_ (h _) (few_args o name apos pos es hc hl hp)

noncomputable def smName : SM → Str
  | .translate => "translate" | .splitlines => "splitlines" | .rstrip => "rstrip" | .endswith => "endswith" | .replace => "replace" | .split => "split" | .join => "join" | .append => "append" | .extend => "extend" | .pop => "pop"
noncomputable def onList (b : SM) : Bool := Nat.ble 7 b.ctorIdx
theorem getm_str {b : SM} (hb : onList b = false) {x : Str} {t : Tok} {pl : Sem Bool} {Q : Value × List Value → Shared → Prop} (h : Q (.builtin (smId b), [.str x t]) s) :
    wpAny (model X.prog X.w) A (getMethod (.str x t) (smName b) pl) Q E s := by
  have nr : ∀ a, Value.str x t = .ref a → ∃ o, s.heap.get? a = some o ∧ o.dict = none := fun a h => nomatch h
  cases b <;> first | exact nob hb | exact nob hb.symm | skip
  · have h' : Q (.builtin "str.translate", [.str x t]) s := h
    show wpAny _ _ (getMethod (.str x t) (Str.ofString "translate") pl) _ _ _
    with_reducible exact GM.of (.str x t) (typeIs_str _ _ _) PySem.F.slot_str_translate PySem.F.type_str_translate nr h'
  · have h' : Q (.builtin "str.splitlines", [.str x t]) s := h
    show wpAny _ _ (getMethod (.str x t) (Str.ofString "splitlines") pl) _ _ _
    with_reducible exact GM.of (.str x t) (typeIs_str _ _ _) PySem.F.slot_str_splitlines PySem.F.type_str_splitlines nr h'
  · have h' : Q (.builtin "str.rstrip", [.str x t]) s := h
    show wpAny _ _ (getMethod (.str x t) (Str.ofString "rstrip") pl) _ _ _
    with_reducible exact GM.of (.str x t) (typeIs_str _ _ _) PySem.F.slot_str_rstrip PySem.F.type_str_rstrip nr h'
  · have h' : Q (.builtin "str.endswith", [.str x t]) s := h
    show wpAny _ _ (getMethod (.str x t) (Str.ofString "endswith") pl) _ _ _
    with_reducible exact GM.of (.str x t) (typeIs_str _ _ _) PySem.F.slot_str_endswith PySem.F.type_str_endswith nr h'
  · have h' : Q (.builtin "str.replace", [.str x t]) s := h
    show wpAny _ _ (getMethod (.str x t) (Str.ofString "replace") pl) _ _ _
    with_reducible exact GM.of (.str x t) (typeIs_str _ _ _) PySem.F.slot_str_replace PySem.F.type_str_replace nr h'
  · have h' : Q (.builtin "str.split", [.str x t]) s := h
    show wpAny _ _ (getMethod (.str x t) (Str.ofString "split") pl) _ _ _
    with_reducible exact GM.of (.str x t) (typeIs_str _ _ _) PySem.F.slot_str_split PySem.F.type_str_split nr h'
  · have h' : Q (.builtin "str.join", [.str x t]) s := h
    show wpAny _ _ (getMethod (.str x t) (Str.ofString "join") pl) _ _ _
    with_reducible exact GM.of (.str x t) (typeIs_str _ _ _) PySem.F.slot_str_join PySem.F.type_str_join nr h'
theorem getm_list {b : SM} (hb : onList b = true) {L D : Addr} {its : Array Value} {k : Nat} {news : List (Addr × Obj)} (N : News h₀ L s.heap news) (hm : (D, listOf its k) ∈ news) {pl : Sem Bool} {Q : Value × List Value → Shared → Prop} (h : Q (.builtin (smId b), [.ref D]) s) :
    wpAny (model X.prog X.w) A (getMethod (.ref D) (smName b) pl) Q E s := by
  cases b <;> first | exact nob hb | exact nob hb.symm | skip
  · show wpAny _ _ (getMethod (.ref D) (Str.ofString "append") pl) _ _ _
    have h' : Q (.builtin "list.append", [.ref D]) s := h
    with_reducible exact kl_method N hm PySem.F.slot_list_append PySem.F.type_list_append h'
  · show wpAny _ _ (getMethod (.ref D) (Str.ofString "extend") pl) _ _ _
    have h' : Q (.builtin "list.extend", [.ref D]) s := h
    with_reducible exact kl_method N hm PySem.F.slot_list_extend PySem.F.type_list_extend h'
  · show wpAny _ _ (getMethod (.ref D) (Str.ofString "pop") pl) _ _ _
    have h' : Q (.builtin "list.pop", [.ref D]) s := h
    with_reducible exact kl_method N hm PySem.F.slot_list_pop PySem.F.type_list_pop h'
theorem smV_kind {b : SM} {o : V} {vs : List V} {v : V} (hv : smV tabs b o vs H = some (v, H')) : (onList b = false ∧ ∃ l, o = .p (.str l)) ∨ (onList b = true ∧ ∃ r, o = .ref r ∧ ∃ l, getL H r = some l) := by
  cases o with
  | p x =>
    refine bindE hv fun l e hv => .inl ⟨?_, l, congrArg _ (pstr_eq e)⟩
    cases b <;> first | rfl | exact no hv | exact nob hv | cases hv
  | ref r =>
    refine bindE hv fun l h1 hv => bindE hv fun w e hv => .inr ⟨?_, r, rfl, l, h1⟩
    cases b <;> first | rfl | exact no hv | exact nob hv | cases hv
  | _ => first | exact no hv | exact nob hv | cases hv

end
end Mine
end
section
open PySem PySem.W PyProof.Rows PyProof.V
set_option Elab.async false
set_option maxRecDepth 20000
namespace Mine
section
variable {X : Wd} {n : Nat} {c : Ce} {env : Env} {loc : List (Option V)} {H H' : List O} {A : Around} {h₀ : Heap} {m : Str → Option Value} {mu ext imm : List (Addr × Obj)} {s : Shared} {E : Value → Shared → Prop} {tabs : Nat → List P}

theorem se_sm (TT : Tabs X tabs) {b : SM} (hb : b ≠ .replace) {o : PySem.Expr} {apos pos : Pos} {es : List PySem.Expr} {a v : V} {vs : List V} {H₁ H₂ : List O} (hc : isCallE o = false) (hl : apos.endLine = pos.line) (hp : plainArgs es = true)
    (ho : SE X n c env o loc H a H₁) (hs : SEs X n c env es loc H₁ vs H₂) (hv : smV tabs b a vs H₂ = some (v, H')) (hk : ∀ r, a = .ref r → ∃ l, getL H₁ r = some l) :
    SE X n c env (.Call (.Attribute o (smName b) apos) es [] pos) loc H v H' := by
  intro A h₀ m mu ext imm s Q E R I a0 hQ
  refine mcall hc hl hp fun pl => ho R I a0 fun mu1 imm1 y1 s1 a1 g1 r1 => ?_
  have fin : ∀ mu2 imm2 ys s2, At X c env h₀ m ext loc mu2 imm2 H₂ s2 → Gw mu1 imm1 mu2 imm2 → VRs X imm2 (mu2.map Prod.fst) vs ys → wpAny (model X.prog X.w) A (call (.builtin (smId b)) (y1 :: ys)) Q E s2 := fun mu2 imm2 ys s2 a2 g2 r2 => by
    refine wpAny_with_toks a2.tk (op_sm TT I hb hv a2.st R (r1.gw g2) r2 fun mu3 imm3 z s3 t3 g3 r3 k3 => ?_)
    exact hQ _ _ _ _ (a2.step t3 k3 g3) ((g1.trans g2).trans g3) r3
  rcases smV_kind hv with ⟨q, l, rfl⟩ | ⟨q, r, rfl, l, _⟩
  · cases r1
    refine getm_str q ?_
    exact callB hp (hs R I a1 fun mu2 imm2 ys s2 a2 g2 r2 => fin mu2 imm2 ys s2 a2 g2 r2)
  · obtain ⟨l1, h1⟩ := hk r rfl
    obtain ⟨D, w, k, rfl, e1, d1, q1, m1, i1⟩ := a1.st.ref h1 r1
    refine getm_list q a1.st.nw m1 ?_
    exact callB hp (hs R I a1 fun mu2 imm2 ys s2 a2 g2 r2 => fin mu2 imm2 ys s2 a2 g2 r2)

/-! replace: the two texts are made anew, one behind the other -/
noncomputable def SF (X : Wd) (n : Nat) (c : Ce) (env : Env) (e : PySem.Expr) (loc : List (Option V)) (H : List O) (l : List Nat) : Prop :=
  ∀ ⦃A : Around⦄ ⦃h₀ : Heap⦄ ⦃m : Str → Option Value⦄ ⦃mu ext imm : List (Addr × Obj)⦄ ⦃s : Shared⦄ ⦃Q : Value → Shared → Prop⦄ ⦃E : Value → Shared → Prop⦄,
    Room A n → X.In h₀ → At X c env h₀ m ext loc mu imm H s → (∀ t k, s.toks ≤ t → t < k → Q (.str (S l) t) { s with toks := k }) → wpAny (model X.prog X.w) A (eval e env) Q E s
theorem sf_const {l : List Nat} {x : Str} (h : x.cps.toList = l) {i : Nat} {pos : Pos} : SF X n c env (.Constant (.str x) i pos) loc H l := by
  intro A h₀ m mu ext imm s Q E R I a hQ
  refine wpAny_Constant_str ?_
  have := hQ s.toks (s.toks + 1) (Nat.le_refl _) (Nat.lt_succ_self _)
  rw [← h, S_of] at this
  exact this
theorem Str_len (x : Str) : x.length = x.cps.toList.length := by show x.cps.size = _; simp
theorem sf_addl (eo : EnvOk c env) {x y : Str} {l : List Nat} {i k : Nat} {p1 p2 pos : Pos} (hx : x.length ≠ 0) (hk : c.kind y = some .local) (hd : (y == ("__debug__" : Str)) = false) (hs : c.slot y = some i) (hv : loc[i]? = some (some (.p (.str l)))) (hz : ok (x.cps.toList.length + l.length) = true) :
    SF X n c env (.BinOp (.Constant (.str x) k p1) .Add (.Name y p2) pos) loc H (x.cps.toList ++ l) := by
  intro A h₀ m mu ext imm s Q E R I a hQ
  have hz := of_ok hz
  refine wpAny_BinOp (wpAny_Constant_str ?_)
  have a' : At X c env h₀ m ext loc mu imm H { s with toks := s.toks + 1 } := a.step (a.st.tok _) (Nat.le_succ_of_le a.tk) .refl
  refine a'.local_ eo hk hs hv hd fun z hz' => ?_
  cases hz'
  refine P.add_str ?_
  have hx0 : (x.length == 0) = false := beq_eq_false_iff_ne.mpr hx
  rw [hx0]
  simp only [Bool.false_eq_true, if_false]
  by_cases hl : ((S l).length == 0) = true
  · rw [if_pos hl]
    have : l = [] := List.length_eq_zero_iff.mp (by simpa using hl)
    subst this
    have := hQ s.toks (s.toks + 1) (Nat.le_refl _) (Nat.lt_succ_self _)
    rw [List.append_nil, S_of] at this
    exact this
  · rw [if_neg hl]
    refine ⟨?_, ?_⟩
    · have e : x = S x.cps.toList := (S_of x).symm
      rw [e, S_add, S_len, sizeLine_eq, List.length_append]; simpa using (by lia : x.cps.toList.length + l.length ≤ 16777216)
    · have := hQ (s.toks + 1) (s.toks + 1 + 1) (Nat.le_succ _) (Nat.lt_succ_self _)
      rw [← S_add, S_of] at this
      exact this
theorem sf_addr (eo : EnvOk c env) {x y : Str} {l : List Nat} {i k : Nat} {p1 p2 pos : Pos} (hx : x.length ≠ 0) (hk : c.kind y = some .local) (hd : (y == ("__debug__" : Str)) = false) (hs : c.slot y = some i) (hv : loc[i]? = some (some (.p (.str l)))) (hz : ok (l.length + x.cps.toList.length) = true) :
    SF X n c env (.BinOp (.Name y p2) .Add (.Constant (.str x) k p1) pos) loc H (l ++ x.cps.toList) := by
  intro A h₀ m mu ext imm s Q E R I a hQ
  have hz := of_ok hz
  refine wpAny_BinOp (a.local_ eo hk hs hv hd fun z hz' => wpAny_Constant_str ?_)
  cases hz'
  refine P.add_str ?_
  have hx0 : (x.length == 0) = false := beq_eq_false_iff_ne.mpr hx
  by_cases hl : ((S l).length == 0) = true
  · rw [if_pos hl]
    have : l = [] := List.length_eq_zero_iff.mp (by simpa using hl)
    subst this
    have := hQ s.toks (s.toks + 1) (Nat.le_refl _) (Nat.lt_succ_self _)
    rw [List.nil_append, S_of] at this
    exact this
  · rw [if_neg hl, hx0]
    simp only [Bool.false_eq_true, if_false]
    refine ⟨?_, ?_⟩
    · have e : x = S x.cps.toList := (S_of x).symm
      rw [e, S_add, S_len, sizeLine_eq, List.length_append]; simpa using (by lia : l.length + x.cps.toList.length ≤ 16777216)
    · have := hQ (s.toks + 1) (s.toks + 1 + 1) (Nat.le_succ _) (Nat.lt_succ_self _)
      rw [← S_add, S_of] at this
      exact this
theorem booked_of (I : X.In h₀) (hn : nsIn X.K cStatics sharingNotToldKey = some none) {h : Heap} (k : ∀ b o, h₀.get? b = some o → h.get? b = some o) : NoneBooked h := by
  obtain ⟨mc, h1, _⟩ := I.t.nolimit
  exact ⟨mc, h1.keeps k, ns_none_of I.k h1 hn⟩
theorem se_replace (hn : nsIn X.K cStatics sharingNotToldKey = some none) {o y z : PySem.Expr} {apos pos : Pos} {l ly lz : List Nat} (hc : isCallE o = false) (hl : apos.endLine = pos.line) (hp : plainArgs [y, z] = true)
    (ho : SE X n c env o loc H (.p (.str l)) H') (hy : SF X n c env y loc H' ly) (hz : SF X n c env z loc H' lz) (hk : ok ((l.length + 1) * (lz.length + 1)) = true) (hne : ly ≠ []) :
    SE X n c env (.Call (.Attribute o (smName .replace) apos) [y, z] [] pos) loc H (.p (.str (joinL lz (splitG ly 0 l)))) H' := by
  intro A h₀ m mu ext imm s Q E R I a0 hQ
  have hk := of_ok hk
  refine mcall hc hl hp fun pl => ho R I a0 fun mu1 imm1 y1 s1 a1 g1 r1 => ?_
  cases r1
  refine getm_str (b := .replace) rfl (callB hp ?_)
  refine Calls.spliced_cons (hy R I a1 fun u k1 hu1 hu2 => Calls.spliced_cons (hz R I (a1.step (a1.st.tok k1) (by show 1 ≤ k1; have := a1.tk; lia) .refl) fun v k2 hv1 hv2 => Calls.spliced_nil ?_))
  have tk1 := a1.tk
  have hv1' : k1 ≤ v := hv1
  have hb : (S l).length + ((S l).length + 1) * (S lz).length ≤ 16777216 := by
    rw [S_len, S_len]
    have e1 : (l.length + 1) * (lz.length + 1) = (l.length + 1) * lz.length + (l.length + 1) := Nat.mul_succ _ _
    lia
  show wpAny _ _ (call (.builtin "str.replace") [.str (S l) _, .str (S ly) u, .str (S lz) v]) _ _ _
  refine wpAny_with_toks (n := 1) (show 1 ≤ k2 by lia) (SC.replaceA (Nat.ne_of_gt (show (0 : Nat) < u by lia)) (Nat.ne_of_gt (show (0 : Nat) < v by lia)) (Nat.ne_of_lt (show @LT.lt Nat _ u v by lia)) hb (fun t' k hk => ?_) (booked_of I hn a1.st.fr.keep))
  rw [S_replace _ _ _ hne]
  exact hQ _ _ _ _ (a1.step (a1.st.tok k) hk .refl) g1 (.str _ _)
end
end Mine
end
section
open PySem PySem.W PyProof.Rows PyProof.V
set_option Elab.async false
set_option maxRecDepth 20000
namespace Mine
theorem units_make (A : Around) (C : Addr) (vals : List Value) : (A.under (.builtin "type.__call__" ⟨.ref C :: vals, []⟩)).units = A.units + 1 := rfl
theorem Room.make {A : Around} {n : Nat} (h : Room A (n + 1)) (C : Addr) (vals : List Value) : Room (A.under (.builtin "type.__call__" ⟨.ref C :: vals, []⟩)) n := by
  obtain ⟨a, b, c⟩ := h
  exact ⟨a, by rw [depth_under_make]; lia, by rw [units_make]; lia⟩
section
variable {X : Wd} {n : Nat} {c : Ce} {env : Env} {loc : List (Option V)} {H H' : List O} {A : Around} {h₀ : Heap} {m : Str → Option Value} {mu ext imm : List (Addr × Obj)} {s : Shared} {E : Value → Shared → Prop} {tabs : Nat → List P}

theorem CallS.call {L : Addr} {a : Addr} {vs : List V} {v : V} {ys : List Value} (h : CallS X n a vs H v H') (R : Room A n) (I : X.In h₀) (t : St X h₀ L m mu ext imm H s) (tk : 1 ≤ s.toks) (rs : VRs X imm (mu.map Prod.fst) vs ys) {Q : Value → Shared → Prop}
    (hQ : ∀ mu' imm' y s', St X h₀ L m mu' ext imm' H' s' → 1 ≤ s'.toks → Gw mu imm mu' imm' → VRel X imm' (mu'.map Prod.fst) v y → Q y s') : wpAny (model X.prog X.w) A (call (.ref a) ys) Q E s :=
  wpAny_call (h R I t tk rs hQ)
theorem se_cal {fa : Nat → Addr} (eo : EnvOk c env) {x : Str} {f : Nat} {px pos : Pos} {es : List PySem.Expr} {vs : List V} {v : V} {H₁ : List O} (hk : c.kind x = some .globalImplicit) (hd : (x == ("__debug__" : Str)) = false)
    (hg : GVOk X fa x (.defn f)) (hp : plainArgs es = true) (hs : SEs X n c env es loc H vs H₁) (hv : CallS X n (fa f) vs H₁ v H') : SE X n c env (.Call (.Name x px) es [] pos) loc H v H' := by
  intro A h₀ m mu ext imm s Q E R I a0 hQ
  refine wpAny_Call_ofName (a0.glob_ eo I hk hg.1 hd ?_)
  refine callF hg.2 I hp (a0.st.kin I) (hs R I a0 fun mu1 imm1 ys s1 a1 g1 r1 => ⟨a1.st.kin I, ?_⟩)
  exact hv.call R I a1.st a1.tk r1 fun mu2 imm2 y s2 t2 k2 g2 r2 => hQ _ _ _ _ (a1.step t2 k2 g2) (g1.trans g2) r2
theorem se_mth {fa : Nat → Addr} {init : Nat} (_CO : ClsOk X fa init) {name : Str} {f : Nat} (MO : MethOk X fa name f) {o : PySem.Expr} {apos pos : Pos} {es : List PySem.Expr} {r : Nat} {fs : List (Str × P)} {vs : List V} {v : V} {H₁ H₂ : List O} (hc : isCallE o = false) (hl : apos.endLine = pos.line) (hp : plainArgs es = true)
    (ho : SE X n c env o loc H (.obj r) H₁) (hf : getF H₁ r = some fs) (hn : fs.lookup name = none) (hs : SEs X n c env es loc H₁ vs H₂) (hv : CallS X n (fa f) (.obj r :: vs) H₂ v H') : SE X n c env (.Call (.Attribute o name apos) es [] pos) loc H v H' := by
  intro A h₀ m mu ext imm s Q E R I a0 hQ
  refine mcall hc hl hp fun pl => ho R I a0 fun mu1 imm1 y1 s1 a1 g1 r1 => ?_
  obtain ⟨x', d, es', k, rfl, e1, hfr, hi⟩ := a1.st.obj hf r1
  refine method_inst a1.st.fr I.k hi MO.plain MO.find MO.fn ((FRel_get hfr).2 hn) ?_
  refine callF MO.keep I hp (a1.st.kin I) (hs R I a1 fun mu2 imm2 ys s2 a2 g2 r2 => ⟨a2.st.kin I, ?_⟩)
  exact hv.call R I a2.st a2.tk (.cons (r1.gw g2) r2) fun mu3 imm3 y s3 t3 k3 g3 r3 => hQ _ _ _ _ (a2.step t3 k3 g3) ((g1.trans g2).trans g3) r3
theorem se_new {fa : Nat → Addr} {init : Nat} (CO : ClsOk X fa init) (eo : EnvOk c env) {x : Str} {at_ : List (Str × P)} {px pos : Pos} {es : List PySem.Expr} {vs : List V} {H₁ : List O} (hk : c.kind x = some .globalImplicit) (hd : (x == ("__debug__" : Str)) = false)
    (hg : GVOk X fa x (.cls at_)) (hp : plainArgs es = true) (hs : SEs X (n + 1) c env es loc H vs H₁) (hv : CallS X n (fa init) (.obj H₁.length :: vs) (H₁ ++ [.inst []]) (.p .none) H') : SE X (n + 1) c env (.Call (.Name x px) es [] pos) loc H (.obj H₁.length) H' := by
  intro A h₀ m mu ext imm s Q E R I a0 hQ
  obtain ⟨g1, g2, _⟩ := hg
  refine wpAny_Call_ofName (a0.glob_ eo I hk g1 hd ?_)
  refine callF g2 I hp (a0.st.kin I) (hs R I a0 fun mu1 imm1 ys s1 a1 gw1 r1 => ⟨a1.st.kin I, wpAny_call ?_⟩)
  refine W.make_K a1.st.fr a1.st.nw (a1.st.kin I) CO.makes CO.ini CO.fn fun x' dx h' F N hlt hx => ?_
  have t2 := a1.st.addI (a := x') (o := instObj X.C dx) F (news_sub N fun p hp => by
    rcases List.mem_cons.mp hp with rfl | hp
    · exact .head _
    · exact .tail _ (.tail _ hp)) (fun p hp => Nat.lt_trans (hlt p hp) hx) s1.toks
  have N2 : News h₀ env.locals h' ((dx, dictOf [] 0) :: (mu1 ++ (ext ++ (x', instObj X.C dx) :: imm1))) := news_sub N fun p hp => by
    simp only [List.mem_cons, List.mem_append] at hp ⊢
    rcases hp with rfl | hp | hp | rfl | hp
    · exact .inr (.inl rfl)
    · exact .inr (.inr (.inl hp))
    · exact .inr (.inr (.inr (.inl hp)))
    · exact .inl rfl
    · exact .inr (.inr (.inr (.inr hp)))
  have t3 := t2.addMn (h' := h') (a := dx) (o := dictOf [] 0) (b := .inst []) F N2 (fun p hp => by
    simp only [List.mem_cons, List.mem_append] at hp
    rcases hp with hp | hp | rfl | hp
    · exact Nat.ne_of_lt (hlt p (List.mem_append_left _ hp))
    · exact Nat.ne_of_lt (hlt p (List.mem_append_right _ (List.mem_append_left _ hp)))
    · exact Nat.ne_of_gt hx
    · exact Nat.ne_of_lt (hlt p (List.mem_append_right _ (List.mem_append_right _ hp)))) (.inst (.head _) .nil) s1.toks
  have g2 : Gw mu1 imm1 (mu1 ++ [(dx, dictOf [] 0)]) ((x', instObj X.C dx) :: imm1) := ⟨by rw [List.map_append]; exact List.prefix_append _ _, fun _ h => .tail _ h⟩
  have ro : VRel X ((x', instObj X.C dx) :: imm1) ((mu1 ++ [(dx, dictOf [] 0)]).map Prod.fst) (.obj H₁.length) (.ref x') :=
    ⟨x', dx, by rw [← a1.st.mr.length]; simp, rfl, .head _⟩
  refine hv (R.make X.C ys) I t3 a1.tk (.cons ro (r1.gw g2)) fun mu4 imm4 y s4 t4 k4 g4 r4 => ?_
  have : y = .none := by cases r4; rfl
  subst this
  exact ⟨rfl, hQ _ _ _ _ (a1.step t4 k4 (g2.trans g4)) ((gw1.trans g2).trans g4) (ro.gw g4)⟩
end
end Mine
end
section
set_option Elab.async false
set_option maxRecDepth 100000
open PySem PySem.W PyProof.Rows PyProof.V
namespace Mine
theorem lk_app : typeLookup (.type "list") "append" = pure (some (.builtin "list.append")) := by rw [typeLookup_type, builtinLookup_eq_fast]; kernel_rfl
theorem ty_app : typeOf (.builtin "list.append") = pure (.type "method_descriptor") := by show builtinType _ = _; rw [builtinType_eq_fast]; kernel_rfl
theorem slot_md_get : Slot "method_descriptor" "__get__" "method_descriptor.__get__" :=
  .of (owner := "method_descriptor") (n := "__get__") (by rw [typeLookup_type, builtinLookup_eq_fast]; kernel_rfl) (by decide +kernel) (by decide +kernel) (by decide +kernel)
    (by first | exact .inl (by decide +kernel) | exact .inr (by decide +kernel)) (by rw [isSubtype_type]; kernel_rfl)
theorem no_md_set : typeLookup (.type "method_descriptor") "__set__" = pure none := by rw [typeLookup_type, builtinLookup_eq_fast]; kernel_rfl
theorem no_md_del : typeLookup (.type "method_descriptor") "__delete__" = pure none := by rw [typeLookup_type, builtinLookup_eq_fast]; kernel_rfl
theorem entry_md_get : entryFor table "method_descriptor.__get__" = some Builtin.«method_descriptor.__get__» := entryFor_of_tree (by kernel_rfl)
theorem args_md_get (a b c : Value) : argsOk "method_descriptor.__get__" ⟨[a, b, c], []⟩ := by unfold argsOk; kernel_rfl
theorem told_app : Manifest.toldItsClass.contains "list.append" = false := by decide +kernel
theorem sub_list_module : isSubtype (.type "list") (.type "module") = pure false := by rw [isSubtype_type]; kernel_rfl
theorem sub_list_type : isSubtype (.type "list") (.type "type") = pure false := by rw [isSubtype_type]; kernel_rfl
theorem va_app : Manifest.varargsMethods.contains "list.append" = false := by decide +kernel
theorem ca_app (a v : Value) : Bind.checkArgs "list.append" { machinery := Manifest.Machinery.oneArg, full := s!"{Bind.lastOf "list"}.{Bind.lastOf "list.append"}", short := "append", receiver := .self, params := [{ name := "object", kind := .posOnly, required := true }] } ⟨[a, v], []⟩ = pure () := by kernel_rfl
theorem check_app {a : Addr} {v : Value} {A : Around} {prog : Program} {w : World} {E : Value → Shared → Prop} {s : Shared} {its : Array Value} {k : Nat} (hx : s.heap.get? a = some (listOf its k)) {Q : Unit → Shared → Prop} (h : Q () s) : wpAny (model prog w) A (checkBoundCall "list.append" ⟨[.ref a, v], []⟩) Q E s := by
  unfold checkBoundCall
  have hT : s.TypeIs (.ref a) "list" := ⟨_, hx, rfl⟩
  have f1 := sub_list_module
  have f2 := sub_list_type
  repeat (any_goals (first | assumption | wp_step))
  repeat (any_goals (first | assumption | wp_step))
theorem owner_app : (".".intercalate ("list.append".cutAt '.').dropLast) = "list" := by
  have e0 : "list.append".cutAt '.' = ["list", "append"] := by first | rfl | decide +kernel
  rw [e0]; decide +kernel
theorem sub_app : isSubtype (.type "list") (.type (".".intercalate ("list.append".cutAt '.').dropLast)) = pure true := by
  rw [owner_app, isSubtype_type]; kernel_rfl
theorem bnd_get {a : Addr} {prog : Program} {w : World} {A : Around} {s : Shared} {its : Array Value} {k : Nat} {R : Result → Shared → Prop} (hx : s.heap.get? a = some (listOf its k))
    (h : R (.ok (.ret (.ref s.heap.objs.size))) { s with heap := s.heap.push (bmObj a) }) :
    codeAny (model prog w) A (.call (.builtin "method_descriptor.__get__") ⟨[.builtin "list.append", .ref a, .type "list"], []⟩) R s := by
  have hT : s.TypeIs (.ref a) "list" := ⟨_, hx, rfl⟩
  have hT5 : s.TypeIs (.builtin "list.append") "method_descriptor" := ty_app
  have f1 := sub_app
  refine codeAny_call_builtin slot_md_get.plain entry_md_get (slot_md_get.check _ _ _ _ _ _ _ _ hT5 (args_md_get _ _ _) ?_)
  repeat (any_goals (first | assumption | wp_step))
theorem bnd_entry {a : Addr} {tk : Tok} {prog : Program} {w : World} {A : Around} {E : Value → Shared → Prop} {s : Shared} {its : Array Value} {k : Nat} {Q : Fin → Shared → Prop} (hx : s.heap.get? a = some (listOf its k))
    (h : Q (.done (.ret (.ref s.heap.objs.size))) { s with heap := s.heap.push (bmObj a) }) :
    wpAny (model prog w) A (Builtin.«object.__getattribute__» ⟨[.ref a, .str "append" tk], []⟩) Q E s := by
  have hT : s.TypeIs (.ref a) "list" := ⟨_, hx, rfl⟩
  have hT5 : s.TypeIs (.builtin "list.append") "method_descriptor" := ty_app
  have f4 := lk_app
  have f5 := ty_app
  have f6 := slot_md_get.lookup
  have f7 := no_md_set
  have f8 := no_md_del
  repeat (any_goals (first | assumption | wp_step))
  refine bnd_get hx ?_
  repeat (any_goals (first | assumption | wp_step))
theorem bnd_call {a : Addr} {tk : Tok} {prog : Program} {w : World} {A : Around} {s : Shared} {its : Array Value} {k : Nat} {R : Result → Shared → Prop} (hx : s.heap.get? a = some (listOf its k))
    (h : R (.ok (.ret (.ref s.heap.objs.size))) { s with heap := s.heap.push (bmObj a) }) :
    codeAny (model prog w) A (.call (.builtin "list.__getattribute__") ⟨[.ref a, .str "append" tk], []⟩) R s :=
  codeAny_call_builtin F.slot_list_getattribute.plain F.entry_list_ga (F.slot_list_getattribute.check _ _ _ _ _ _ _ _ (show s.TypeIs (.ref a) "list" from ⟨_, hx, rfl⟩) (F.args_list_getattribute_2 _ _) (bnd_entry hx h))
theorem bnd_attr {a : Addr} {prog : Program} {w : World} {A : Around} {E : Value → Shared → Prop} {s : Shared} {its : Array Value} {k : Nat} {Q : Value → Shared → Prop} (hx : s.heap.get? a = some (listOf its k))
    (h : Q (.ref s.heap.objs.size) { s with heap := s.heap.push (bmObj a), toks := s.toks + 1 }) :
    wpAny (model prog w) A (getAttr (.ref a) "append" true) Q E s := by
  have hT : ({ s with toks := s.toks + 1 } : Shared).TypeIs (.ref a) "list" := ⟨_, hx, rfl⟩
  have f2 := F.slot_list_getattribute.lookup
  have f3 := F.slot_list_getattribute.bind (.ref a)
  unfold getAttr
  repeat (any_goals (first | assumption | wp_step))
  refine bnd_call hx ?_
  repeat (any_goals (first | assumption | wp_step))

theorem bm_fields {M : Model} {A : Around} {E : Value → Shared → Prop} {s : Shared} {pos : Pos} {u a : Addr} {first : List Value} {args : List (Bool × Sem Value)} {Q : Value → Shared → Prop} (hplain : args.any (·.1) = false)
    (h : wpAny M A (evalArgs (.ref u) true args []) (fun x s₁ => s₁.heap.get? u = some (bmObj a) ∧ wpAny M A (call (.ref u) (first ++ x.pos) x.kw) Q E s₁) E s) : wpAny M A (callWith pos (.ref u) first args []) Q E s := by
  refine wpAny_bind (wpAny_holding (wpAny_mono h (fun x s₁ h₁ => wpAny_bind (wpAny_standAt ?_)) fun _ _ x => x))
  obtain ⟨ho, hcall⟩ := h₁
  rw [hplain]
  refine wpAny_bind (wpAny_bind (wpAny_load ho ?_))
  refine KFB.if_so (show (Value.type "builtin_function_or_method" != Value.type "method") = true by decide) (wpAny_pure ?_)
  rw [if_pos (show (Value.type "builtin_function_or_method" == Value.type "builtin_function_or_method" || Value.type "builtin_function_or_method" == Value.type "method-wrapper") = true by decide)]
  exact wpAny_bind (wpAny_mono hcall (fun r s₂ hr => wpAny_bind (wpAny_holding (wpAny_point (wpAny_pure hr)))) fun _ _ x => x)
theorem bm_quiet {as : Args} : (Code.builtin "list.append" as).quiet = true := Code.quiet_builtin _ (by decide +kernel)
theorem bm_call {u a : Addr} {y : Value} {its : Array Value} {k : Nat} {h₀ : Heap} {L : Addr} {m : Str → Option Value} {news news' : List (Addr × Obj)} {prog : Program} {w : World} {A : Around} {E : Value → Shared → Prop} {s : Shared} {Q : Value → Shared → Prop} (hu : s.heap.get? u = some (bmObj a))
    (F : Fr h₀ L s.heap m) (N : News h₀ L s.heap news) (U : Upd a (listOf its k) (listOf (its.push y) (k + 1)) news news') (h : ∀ h', Fr h₀ L h' m → News h₀ L h' news' → Q .none { s with heap := h' }) (hsz : its.size ≤ sizeLine) :
    wpAny (model prog w) A (call (.ref u) [y]) Q E s := by
  obtain ⟨pre, post, rfl, rfl, c, d⟩ := U.split
  have z := N (a, listOf its k) (List.mem_append.mpr (.inr (.head _)))
  refine wpAny_call (codeAny_of_tree ?_)
  show wpAny _ A.in1 (callAny (.ref u) ⟨[y], []⟩) _ _ s
  refine wpAny_bind (wpAny_load hu ?_)
  refine KFB.if_so (show (Value.type "builtin_function_or_method" == Value.type "method" || Value.type "builtin_function_or_method" == Value.type "builtin_function_or_method" || Value.type "builtin_function_or_method" == Value.type "method-wrapper") = true by decide) ?_
  refine KFB.if_so (show (Value.type "builtin_function_or_method" != Value.type "method") = true by decide) ?_
  refine wpAny_bind (check_app z.1 ?_)
  refine wpAny_bind (wpAny_pure (wpAny_pure ?_))
  refine ⟨bm_quiet, codeAny_builtin PySem.F.entry_list_append ?_⟩
  show wpAny _ _ (updateSeq a (·.push y) >>= fun _ => ret .none) _ _ s
  refine wpAny_bind ?_
  refine wpAny_updateSeq (hz := hsz) z.1 rfl (wpAny_pure ?_)
  exact h _ (F.change (Heap.SameBut.update ..) z.2.1 z.2.2) (news_set N c d (Heap.SameBut.update ..) (by rw [Heap.get?_update_self _ z.1 (by rw [Obj.mapSeq_push_plain]; rfl), Obj.mapSeq_push_plain]))
section
variable {X : Wd} {n : Nat} {c : Ce} {env : Env} {loc : List (Option V)} {H H' : List O} {A : Around} {h₀ : Heap} {m : Str → Option Value} {mu ext imm : List (Addr × Obj)} {s : Shared} {E : Value → Shared → Prop} {tabs : Nat → List P}
theorem se_bnd {x : Str} {px pos : Pos} {r : Nat} {l : List P} (hv : SE X n c env (.Name x px) loc H (.ref r) H') (hl : getL H' r = some l) : SE X n c env (.Attribute (.Name x px) "append" pos) loc H (.bm r) H' := by
  intro A h₀ m mu ext imm s Q E R I a0 hQ
  refine Attribute_any_ (hv R I a0 fun mu1 imm1 y1 s1 a1 g1 r1 => ?_)
  obtain ⟨a, vs, k, rfl, e1, d1, l1, m1, i1⟩ := a1.st.ref hl r1
  refine bnd_attr (a1.st.nw _ m1).1 ?_
  have N := a1.st.nw.push a1.st.fr (bmObj a)
  refine hQ _ _ _ _ (a1.step (a1.st.addI (a1.st.fr.push _) N a1.st.lt (s1.toks + 1)) (Nat.le_add_left _ _) gw_imm) (g1.trans gw_imm) ?_
  exact ⟨_, a, by rw [List.getElem?_map, e1]; rfl, rfl, .head _⟩
theorem addTo_some {a : Nat} {v : V} (h : addTo a v H = some H') : ∃ x l, v = .p x ∧ getL H a = some l ∧ l.length ≤ 1000000 ∧ H' = H.set a (.list (l ++ [x])) :=
  bindE h fun x h0 h => bindE h fun l h1 h => iteE h fun hk h => ⟨x, l, pl_eq h0, h1, of_ok hk, (Option.some.inj h).symm⟩
theorem se_app {e : PySem.Expr} {x : Str} {px pos : Pos} {r : Nat} {v : V} {H₁ H₂ : List O} (hp : plainArgs [e] = true) (ho : SE X n c env (.Name x px) loc H (.bm r) H₁) (he : SE X n c env e loc H₁ v H₂) (hv : addTo r v H₂ = some H') :
    SE X n c env (.Call (.Name x px) [e] [] pos) loc H (.p .none) H' := by
  intro A h₀ m mu ext imm s Q E R I a0 hQ
  obtain ⟨p, l, rfl, hl, hk, rfl⟩ := addTo_some hv
  refine wpAny_Call_ofName (ho R I a0 fun mu1 imm1 y1 s1 a1 g1 r1 => ?_)
  obtain ⟨b, a, h1, rfl, hm⟩ := r1
  have hs := plain_star hp
  refine bm_fields (a := a) (args_no pos hs) ?_
  rw [star_plain hs, back_plain, List.map_cons]
  refine Calls.evalArgs_plain ?_
  refine Calls.spliced_cons (he R I a1 fun mu2 imm2 y2 s2 a2 g2 r2 => Calls.spliced_nil ⟨?_, ?_⟩)
  · exact (a2.st.nw _ (List.mem_append_right _ (List.mem_append_right _ (g2.im _ hm)))).1
  · obtain ⟨a', vs, k, e1, d1, l1, m1, i1⟩ := a2.st.lst hl
    have : a' = a := by
      obtain ⟨t, ht⟩ := g2.ad
      have := congrArg (fun z => z[r]?) ht
      rw [List.getElem?_append_left (List.getElem?_eq_some_iff.mp h1).1, h1, List.getElem?_map, e1] at this
      simpa using this.symm
    subst this
    have e : vs.toArray.push y2 = (vs ++ [y2]).toArray := by simp
    refine bm_call ((a2.st.nw _ (List.mem_append_right _ (List.mem_append_right _ (g2.im _ hm)))).1) a2.st.fr a2.st.nw (a2.st.updOf (listOf (vs.toArray.push y2) (k + 1)) e1) (fun h' F N => ?_) (by rw [List.size_toArray, sizeLine_eq]; lia)
    rw [e] at N
    exact hQ _ _ _ _ (a2.step (a2.st.setL e1 F N (by rw [dats_append]; exact d1.append (.one r2)) s2.toks) a2.tk (gw_set e1)) ((g1.trans g2).trans (gw_set e1)) .none
end
end Mine
end
section
open PySem PySem.W PyProof.Rows PyProof.V
set_option Elab.async false
set_option genSizeOf false
set_option maxRecDepth 20000
namespace Mine
/-! iterators -/
noncomputable def strTy (l : List Nat) : String := if l.all (· < 128) then "str_ascii_iterator" else "str_iterator"
inductive ItR (imm : List (Addr × Obj)) (ad : List Addr) : V → Nat → Obj → Prop
  | list {r : Nat} {a : Addr} {i : Nat} {o : Obj} : ad[r]? = some a → o.cls = .type "list_iterator" → o.data = .fields #[.ref a, .int i 0] → ItR imm ad (.ref r) i o
  | rng {a b : Int} {i : Nat} : ItR imm ad (.rng a b) i { cls := .type "range_iterator", dict := none, data := .fields #[rawInt (a + i), rawInt (((b - a).toNat : Nat) - (i : Int)), rawInt 1], slots := #[] }
  | str {l : List Nat} {t : Tok} {i : Nat} {o : Obj} : o.cls = .type (strTy l) → o.data = .fields #[.str (S l) t, .int i 0] → ItR imm ad (.p (.str l)) i o
  | tup {ps : List P} {t : Addr} {vs : List Value} {n i : Nat} {o : Obj} : (t, tupObj vs n) ∈ imm → DatAll imm vs (dats ps) → o.cls = .type "tuple_iterator" → o.data = .fields #[.ref t, .int i 0] → ItR imm ad (.p (.tup ps)) i o
theorem ItR.mono {imm imm' ad ad' v i o} (hs : ∀ p ∈ imm, p ∈ imm') (ha : ad <+: ad') (h : ItR imm ad v i o) : ItR imm' ad' v i o := by
  cases h with
  | list h1 h2 h3 =>
    obtain ⟨t, rfl⟩ := ha
    exact .list (by rw [List.getElem?_append_left (List.getElem?_eq_some_iff.mp h1).1]; exact h1) h2 h3
  | rng => exact .rng
  | str h1 h2 => exact .str h1 h2
  | tup h1 h2 h3 h4 => exact .tup (hs _ h1) (h2.mono hs) h3 h4
section
variable {X : Wd} {n : Nat} {c : Ce} {env : Env} {loc : List (Option V)} {H H' H₀ : List O} {A : Around} {h₀ : Heap} {L : Addr} {m : Str → Option Value} {mu ext imm : List (Addr × Obj)} {s : Shared} {E : Value → Shared → Prop}

theorem perm_ext {mu ext imm : List (Addr × Obj)} {e : Addr × Obj} : (mu ++ ((e :: ext) ++ imm)).Perm (e :: (mu ++ (ext ++ imm))) := List.perm_middle
theorem St.addE (t : St X h₀ L m mu ext imm H s) {h' : Heap} {a : Addr} {o : Obj} (F : Fr h₀ L h' m) (N : News h₀ L h' ((a, o) :: (mu ++ (ext ++ imm)))) (ha : ∀ p ∈ mu ++ (ext ++ imm), p.1 < a) (k : Nat) :
    St X h₀ L m mu ((a, o) :: ext) imm H { s with heap := h', toks := k } := by
  refine ⟨F, news_sub N fun p hp => perm_ext.mem_iff.mp hp, ?_, t.mr, t.g, t.d, t.os⟩
  rw [(perm_ext.map Prod.fst).nodup_iff, List.map_cons, List.nodup_cons]
  refine ⟨fun hm => ?_, t.nd⟩
  obtain ⟨p, hp, q⟩ := List.mem_map.mp hm
  exact absurd (ha p hp) (by rw [q]; exact Nat.lt_irrefl _)
theorem St.dropE {e : Addr × Obj} (t : St X h₀ L m mu (e :: ext) imm H s) : St X h₀ L m mu ext imm H s := by
  refine ⟨t.fr, news_sub t.nw fun p hp => perm_ext.mem_iff.mpr (.tail _ hp), ?_, t.mr, t.g, t.d, t.os⟩
  have := t.nd
  rw [(perm_ext.map Prod.fst).nodup_iff, List.map_cons, List.nodup_cons] at this
  exact this.2
theorem St.notE {e : Addr × Obj} (t : St X h₀ L m mu (e :: ext) imm H s) : ∀ p ∈ mu ++ (ext ++ imm), p.1 ≠ e.1 := by
  have := t.nd
  rw [(perm_ext.map Prod.fst).nodup_iff, List.map_cons, List.nodup_cons] at this
  exact fun p hp q => this.1 (List.mem_map.mpr ⟨p, hp, q⟩)
theorem St.getE {e : Addr × Obj} (t : St X h₀ L m mu (e :: ext) imm H s) : s.heap.get? e.1 = some e.2 ∧ e.1 ≠ L ∧ h₀.get? e.1 = none := t.nw e (perm_ext.mem_iff.mpr (.head _))
/-- the entry changed -/
theorem St.setE {a : Addr} {o o' : Obj} (t : St X h₀ L m mu ((a, o) :: ext) imm H s) {h' : Heap} (hs : Heap.SameBut a s.heap h') (ho : h'.get? a = some o') (k : Nat) : St X h₀ L m mu ((a, o') :: ext) imm H { s with heap := h', toks := k } := by
  obtain ⟨g1, g2, g3⟩ := t.getE
  refine ⟨t.fr.change hs g2 g3, fun p hp => ?_, ?_, t.mr, t.g, t.d, t.os⟩
  · rcases List.mem_cons.mp (perm_ext.mem_iff.mp hp) with rfl | hp
    · exact ⟨ho, g2, g3⟩
    · have z := t.nw p (perm_ext.mem_iff.mpr (.tail _ hp))
      exact ⟨(hs.2 _ (t.notE p hp)).trans z.1, z.2⟩
  · have := t.nd
    rw [(perm_ext.map Prod.fst).nodup_iff] at this ⊢
    exact this
theorem St.endE {a : Addr} {o : Obj} (t : St X h₀ L m mu ((a, o) :: ext) imm H s) {h' : Heap} (hs : Heap.ExtBut a s.heap h') (k : Nat) : St X h₀ L m mu ext imm H { s with heap := h', toks := k } := by
  obtain ⟨g1, g2, g3⟩ := t.getE
  have keep : ∀ b o, b ≠ a → s.heap.get? b = some o → h'.get? b = some o := fun b o hb e => hs b o hb e
  refine ⟨⟨?_, fun b o e => keep b o (fun q => by subst q; rw [g3] at e; cases e) (t.fr.keep b o e), t.fr.above⟩, fun p hp => ?_, t.dropE.nd, t.mr, t.g, t.d, t.os⟩
  · obtain ⟨oL, a1, a2, hoL, a3⟩ := t.fr.ns
    exact ⟨oL, a1, a2, keep _ _ (Ne.symm g2) hoL, a3⟩
  · have z := t.nw p (perm_ext.mem_iff.mpr (.tail _ hp))
    exact ⟨keep _ _ (t.notE p hp) z.1, z.2⟩

theorem rng_size (a b : Int) : Builtin.Range.rangeSize a b 1 = ((b - a).toNat : Nat) := by
  unfold Builtin.Range.rangeSize
  simp; lia
theorem rng_small {a b : Int} (ha : oki a = true) (hb : oki b = true) : Builtin.Range.small a b 1 = true := by
  have ha := of_oki ha
  have hb := of_oki hb
  unfold Builtin.Range.small Builtin.Range.rangeFitsLong
  rw [rng_size]
  simp
  omega
theorem DatIn.tupV {imm : List (Addr × Obj)} {ps : List P} {y : Value} (h : DatIn imm y (P.tup ps).dat) : ∃ t vs n, y = .ref t ∧ (t, tupObj vs n) ∈ imm ∧ DatAll imm vs (dats ps) := by
  cases h with
  | tuple h1 h2 => exact ⟨_, _, _, rfl, h1, h2⟩
theorem it_iter {v : V} {ps : List P} {w : Option Nat} {y : Value} (hi : itemsOf v H = some (ps, w)) (t : St X h₀ L m mu ext imm H s) (r : VRel X imm (mu.map Prod.fst) v y) {Q : Value → Shared → Prop}
    (hQ : ∀ I o h', St X h₀ L m mu ((I, o) :: ext) imm H { s with heap := h' } → ItR imm (mu.map Prod.fst) v 0 o → Q (.ref I) { s with heap := h' }) :
    wpAny (model X.prog X.w) A (pyIter y) Q E s := by
  have go : ∀ o : Obj, o.isFreed = false → St X h₀ L m mu ((s.heap.objs.size, o) :: ext) imm H { s with heap := s.heap.push o } := fun o hf => by
    exact t.addE (k := s.toks) (t.fr.push o) (t.nw.push t.fr o hf) t.lt
  have str : ∀ l : List Nat, VRel X imm (mu.map Prod.fst) (.p (.str l)) y → v = .p (.str l) → wpAny (model X.prog X.w) A (pyIter y) Q E s := fun l r hv => by
    apply datStr r
    intro t'
    cases hx : (S l).cps.all (· < 128) with
    | true =>
      have e : strTy l = "str_ascii_iterator" := by unfold strTy; rw [show l.all (· < 128) = true by simpa using hx]; rfl
      exact wpAny_pyIter_ascii hx (hQ _ _ _ (go _ rfl) (hv ▸ .str (t := t') (by rw [e]) rfl))
    | false =>
      have e : strTy l = "str_iterator" := by unfold strTy; rw [show l.all (· < 128) = false by simpa using hx]; rfl
      exact wpAny_pyIter_wide hx (hQ _ _ _ (go _ rfl) (hv ▸ .str (t := t') (by rw [e]) rfl))
  cases v with
  | ref r' =>
    refine mapE hi fun l h1 _ => ?_
    obtain ⟨a, vs, k, rfl, e1, d1, l1, m1, i1⟩ := t.ref h1 r
    exact wpAny_pyIter_list i1 (hQ _ _ _ (go _ rfl) (.list (by rw [List.getElem?_map, e1]; rfl) rfl rfl))
  | rng a b =>
      refine iteE hi fun hk _ => andE hk fun ha hb => ?_
      obtain ⟨q, tt, u, w', rfl, hm⟩ := r
      refine wpAny_pyIter_range (t.nw _ (List.mem_append_right _ (List.mem_append_right _ hm))).1 (rng_small ha hb) (hQ _ _ _ (go _ rfl) ?_)
      rw [rng_size]
      have := ItR.rng (imm := imm) (ad := mu.map Prod.fst) (a := a) (b := b) (i := 0)
      simpa using this
  | p x =>
    cases x with
    | str l => exact str l r rfl
    | tup l =>
      obtain ⟨tt, vs, k, rfl, h1, h2⟩ := DatIn.tupV r
      exact wpAny_pyIter_tuple ⟨_, (t.nw _ (St.sub_imm _ h1)).1, rfl, k, rfl⟩ (hQ _ _ _ (go _ rfl) (.tup h1 h2 rfl rfl))
    | _ => first | exact no hi | exact nob hi | cases hi
  | _ => first | exact no hi | exact nob hi | cases hi
theorem strTy_cases (l : List Nat) : strTy l = "str_ascii_iterator" ∨ strTy l = "str_iterator" := by unfold strTy; split <;> simp
theorem it_self {v : V} {i : Nat} {I : Addr} {o : Obj} (t : St X h₀ L m mu ((I, o) :: ext) imm H s) (r : ItR imm (mu.map Prod.fst) v i o) {Q : Value → Shared → Prop} (hQ : Q (.ref I) s) : wpAny (model X.prog X.w) A (pyIter (.ref I)) Q E s := by
  obtain ⟨g1, g2, g3⟩ := t.getE
  cases r with
  | list h1 h2 h3 => exact wpAny_pyIter_listiter ⟨_, g1, h2, h3⟩ hQ
  | rng => exact wpAny_pyIter_rangeiter g1 hQ
  | str h1 h2 =>
    rename_i l tt
    rcases strTy_cases l with e | e
    · rw [e] at h1; exact wpAny_pyIter_striter_ascii ⟨_, g1, h1, h2⟩ hQ
    · rw [e] at h1; exact wpAny_pyIter_striter_wide ⟨_, g1, h1, h2⟩ hQ
  | tup h1 h2 h3 h4 => exact wpAny_pyIter_tupleiter ⟨_, g1, h3, h4⟩ hQ
theorem DatAll.getAt {imm : List (Addr × Obj)} : ∀ {vs : List Value} {ps : List P} {i : Nat} {x : P}, DatAll imm vs (dats ps) → ps[i]? = some x → ∃ y, vs[i]? = some y ∧ DatIn imm y x.dat
  | _, [], i, x, _, h => by simp at h
  | _, p :: ps, 0, x, .cons a _, h => by simp at h; subst h; exact ⟨_, rfl, a⟩
  | _, p :: ps, i + 1, x, .cons _ r, h => by simpa using DatAll.getAt r (by simpa using h)
theorem stays_ref {r : Nat} {ps : List P} (h : stays (some r) ps H = true) : getL H r = some ps := by
  unfold stays at h
  simp only at h
  split at h
  · rename_i qs e; rw [(beqs_iff _ _).mp h, e]
  · cases h
/-- what itemsOf says, apart from the heap -/
theorem items_ref {r : Nat} {ps : List P} {w : Option Nat} (h : itemsOf (.ref r) H = some (ps, w)) : w = some r := mapE (o := getL H r) h fun _ _ e => (congrArg Prod.snd (Option.some.inj e)).symm
theorem items_rng {a b : Int} {ps : List P} {w : Option Nat} (h : itemsOf (.rng a b) H = some (ps, w)) : ps = rngL a b := iteE h fun _ e => (congrArg Prod.fst (Option.some.inj e)).symm
theorem items_str {l : List Nat} {ps : List P} {w : Option Nat} (h : itemsOf (.p (.str l)) H = some (ps, w)) : ps = l.map fun c => .str [c] := (congrArg Prod.fst (Option.some.inj h)).symm
theorem items_tup {l : List P} {ps : List P} {w : Option Nat} (h : itemsOf (.p (.tup l)) H = some (ps, w)) : ps = l := (congrArg Prod.fst (Option.some.inj h)).symm
theorem addr_eq {r : Nat} {a b : Addr} {o : Obj} (h : (mu.map Prod.fst)[r]? = some a) (e : mu[r]? = some (b, o)) : b = a := by rw [List.getElem?_map, e] at h; exact Option.some.inj h
theorem it_item {v : V} {i : Nat} {I : Addr} {o : Obj} {ps : List P} {w : Option Nat} {x : P} (hi : itemsOf v H₀ = some (ps, w)) (hw : stays w ps H = true) (hx : ps[i]? = some x) (t : St X h₀ L m mu ((I, o) :: ext) imm H s) (tk : 1 ≤ s.toks) (r : ItR imm (mu.map Prod.fst) v i o)
    {Q : Option Value → Shared → Prop} (hQ : ∀ y o' s', St X h₀ L m mu ((I, o') :: ext) imm H s' → 1 ≤ s'.toks → DatIn imm y x.dat → ItR imm (mu.map Prod.fst) v (i + 1) o' → Q (some y) s') :
    wpAny (model X.prog X.w) A (pyNext (.ref I)) Q E s := by
  obtain ⟨g1, g2, g3⟩ := t.getE
  cases r with
  | list h1 h2 h3 =>
    rename_i r a
    rw [items_ref hi] at hw
    obtain ⟨a', vs, k, e1, d1, l1, m1, i1⟩ := t.lst (stays_ref hw)
    cases addr_eq h1 e1
    obtain ⟨y, hy, ry⟩ := DatAll.getAt d1 hx
    refine wpAny_pyNext_list_item ⟨_, g1, h2, h3⟩ i1 (x := y) (by simpa using hy) fun h' hit hs => ?_
    obtain ⟨o', q1, q2, q3⟩ := hit
    exact hQ y o' _ (t.setE hs q1 s.toks) tk ry (.list h1 q2 q3)
  | rng =>
    rename_i a b
    rw [items_rng hi] at hx
    unfold rngL at hx
    rw [List.getElem?_map] at hx
    obtain ⟨j, hj, rfl⟩ := Option.map_eq_some_iff.mp hx
    have hlt : i < (b - a).toNat := by
      have := (List.getElem?_eq_some_iff.mp hj).1
      simpa using this
    have hij : j = i := by rw [List.getElem?_range hlt] at hj; exact (Option.some.inj hj).symm
    subst hij
    refine wpAny_pyNext_range_item g1 (by lia) fun h' hit hs => ?_
    refine hQ _ _ _ (t.setE hs hit (s.toks + 1)) (Nat.le_add_left _ _) (.int _ _) ?_
    have := ItR.rng (imm := imm) (ad := mu.map Prod.fst) (a := a) (b := b) (i := j + 1)
    have e1 : (a + (j : Int)) + 1 = a + ((j + 1 : Nat) : Int) := by push_cast; lia
    have e2 : ((b - a).toNat : Int) - (j : Int) - 1 = ((b - a).toNat : Nat) - ((j + 1 : Nat) : Int) := by push_cast; lia
    rw [e1, e2]
    exact this
  | str h1 h2 =>
    rename_i l tt
    rw [items_str hi, List.getElem?_map] at hx
    obtain ⟨ch, hc, rfl⟩ := Option.map_eq_some_iff.mp hx
    have hcx : (S l).cps[i]? = some ch := by simpa using hc
    rcases strTy_cases l with e | e
    · have h1' := h1
      rw [e] at h1
      refine wpAny_pyNext_ascii_item ⟨_, g1, h1, h2⟩ hcx fun h' hit hs => ?_
      obtain ⟨o', q1, q2, q3⟩ := hit
      exact hQ _ o' _ (t.setE hs q1 (s.toks + 1)) (Nat.le_add_left _ _) (.str (S [ch]) _) (.str (by rw [e]; exact q2) q3)
    · rw [e] at h1
      refine wpAny_pyNext_wide_item ⟨_, g1, h1, h2⟩ hcx fun h' hit hs => ?_
      obtain ⟨o', q1, q2, q3⟩ := hit
      exact hQ _ o' _ (t.setE hs q1 (s.toks + 1)) (Nat.le_add_left _ _) (.str (S [ch]) _) (.str (by rw [e]; exact q2) q3)
  | tup h1 h2 h3 h4 =>
    rename_i ps' tt vs k
    cases items_tup hi
    obtain ⟨y, hy, ry⟩ := DatAll.getAt h2 hx
    refine wpAny_pyNext_tuple_item ⟨_, g1, h3, h4⟩ ⟨_, (t.nw _ (List.mem_append_right _ (List.mem_append_right _ h1))).1, rfl, k, rfl⟩ (x := y) (by simpa using hy) fun h' hit hs => ?_
    obtain ⟨o', q1, q2, q3⟩ := hit
    exact hQ y o' _ (t.setE hs q1 s.toks) tk ry (.tup h1 h2 q2 q3)
theorem it_end {v : V} {i : Nat} {I : Addr} {o : Obj} {ps : List P} {w : Option Nat} (hi : itemsOf v H₀ = some (ps, w)) (hw : stays w ps H = true) (hx : i = ps.length) (t : St X h₀ L m mu ((I, o) :: ext) imm H s) (tk : 1 ≤ s.toks) (r : ItR imm (mu.map Prod.fst) v i o) (hh : A.handled = none)
    {Q : Option Value → Shared → Prop} (hQ : ∀ s', St X h₀ L m mu ext imm H s' → 1 ≤ s'.toks → Q none s') :
    wpAny (model X.prog X.w) A (pyNext (.ref I)) Q E s := by
  obtain ⟨g1, g2, g3⟩ := t.getE
  subst hx
  cases r with
  | list h1 h2 h3 =>
    rename_i r a
    rw [items_ref hi] at hw
    obtain ⟨a', vs, k, e1, d1, l1, m1, i1⟩ := t.lst (stays_ref hw)
    cases addr_eq h1 e1
    exact wpAny_pyNext_list_end hh ⟨_, g1, h2, h3⟩ i1 (by simp [l1]) fun h' hs => hQ _ (t.endE hs s.toks) tk
  | rng =>
    rename_i a b
    cases items_rng hi
    exact wpAny_pyNext_range_end hh g1 (by simp [rngL]) fun h' hs => hQ _ (t.endE hs s.toks) tk
  | str h1 h2 =>
    rename_i l tt
    cases items_str hi
    have hcx : (S l).cps[(l.map fun c => P.str [c]).length]? = none := by simp
    rcases strTy_cases l with e | e
    · rw [e] at h1
      exact wpAny_pyNext_ascii_end hh ⟨_, g1, h1, h2⟩ hcx fun h' hs => hQ _ (t.endE hs s.toks) tk
    · rw [e] at h1
      exact wpAny_pyNext_wide_end hh ⟨_, g1, h1, h2⟩ hcx fun h' hs => hQ _ (t.endE hs s.toks) tk
  | tup h1 h2 h3 h4 =>
    rename_i ps' tt vs k
    cases items_tup hi
    have hl : vs.length = ps.length := by rw [h2.length, dats_len]
    exact wpAny_pyNext_tuple_end hh ⟨_, g1, h3, h4⟩ ⟨_, (t.nw _ (List.mem_append_right _ (List.mem_append_right _ h1))).1, rfl, k, rfl⟩ (by simp [hl]) fun h' hs => hQ _ (t.endE hs s.toks) tk
end
end Mine
end
section
open PySem PySem.W PyProof.Rows PyProof.V
set_option Elab.async false
set_option genSizeOf false
set_option maxRecDepth 20000
namespace Mine
section
variable {X : Wd} {n : Nat} {c : Ce} {env : Env} {loc loc' : List (Option V)} {H H' H₀ : List O} {A : Around} {h₀ : Heap} {L : Addr} {m : Str → Option Value} {mu ext imm : List (Addr × Obj)} {s : Shared} {E : Value → Shared → Prop}

theorem LRel.store (eo : EnvOk c env) (lr : LRel X c.nm env m imm (mu.map Prod.fst) loc) {x : Str} {i : Nat} {v : V} {y : Value} (hk : c.kind x = some .local) (hs : c.slot x = some i) (ry : VRel X imm (mu.map Prod.fst) v y) :
    LRel X c.nm env (fun z => if z = x then some y else m z) imm (mu.map Prod.fst) (loc.set i (some v)) := by
  intro j u z hj hz
  by_cases hji : i = j
  · subst hji
    have hx := idxS_get hs
    rw [hx] at hz
    cases hz
    rw [List.getElem?_set] at hj
    simp only [if_true] at hj
    split at hj
    · cases hj
      refine ⟨fun _ => ⟨y, if_pos rfl, ry⟩, fun h => ?_⟩
      rw [eo.kind, hk] at h
      rcases h with h | h <;> cases h
    · cases hj
  · rw [List.getElem?_set_ne hji] at hj
    obtain ⟨a, b⟩ := lr j u z hj hz
    have hne : z ≠ x := fun e => by
      subst e
      have hx := idxS_get hs
      exact hji ((List.getElem?_inj (List.getElem?_eq_some_iff.mp hx).1 eo.nd).mp (hx.trans hz.symm))
    refine ⟨fun h => ?_, b⟩
    obtain ⟨q, h1, h2⟩ := a h
    exact ⟨q, (if_neg hne).trans h1, h2⟩
theorem St.store {X : Wd} {h₀ : Heap} {L : Addr} {m m' : Str → Option Value} {mu ext imm : List (Addr × Obj)} {H : List O} {s : Shared} (t : St X h₀ L m mu ext imm H s) {h' : Heap} (hn : h'.Ns L m') (hs : Heap.SameBut L s.heap h') (k : Nat) : St X h₀ L m' mu ext imm H { s with heap := h', toks := k } :=
  ⟨t.fr.set hn hs, fun p hp => ⟨(hs.2 _ (t.nw p hp).2.1).trans (t.nw p hp).1, (t.nw p hp).2⟩, t.nd, t.mr, t.g, t.d, t.os⟩
theorem At.storeL (eo : EnvOk c env) (a : At X c env h₀ m ext loc mu imm H s) {x : Str} {i : Nat} {v : V} {y : Value} (hk : c.kind x = some .local) (hs : c.slot x = some i) (ry : VRel X imm (mu.map Prod.fst) v y) {Q : Unit → Shared → Prop}
    (hQ : ∀ m' s', At X c env h₀ m' ext (loc.set i (some v)) mu imm H s' → Q () s') : wpAny (model X.prog X.w) A (storeName env x y) Q E s := by
  have hkk : env.scope.kind = .function := eo.fn'
  refine wpAny_storeName_local ((eo.kind x).trans hk) a.st.fr.ns (fun h' hn hb => ?_) (by rw [hkk]; rfl)
  exact hQ _ _ ⟨a.st.store hn hb (s.toks + 1), Nat.le_add_left _ _, a.lr.store eo hk hs ry⟩
theorem At.storeC (eo : EnvOk c env) (a : At X c env h₀ m ext loc mu imm H s) {x : Str} {i r : Nat} {p : P} {o : Option P} {y : Value} (hk : c.kind x = some .cell) (hs : c.slot x = some i) (hl : loc[i]? = some (some (.ref r))) (hr : H[r]? = some (.cell o)) (ry : DatIn imm y p.dat) {Q : Unit → Shared → Prop}
    (hQ : ∀ mu' s', At X c env h₀ m ext loc mu' imm (H.set r (.cell (some p))) s' → Gw mu imm mu' imm → Q () s') : wpAny (model X.prog X.w) A (storeName env x y) Q E s := by
  obtain ⟨r', d, e1, e2, e3⟩ := (a.lr i _ x hl (idxS_get hs)).2 (.inl ((eo.kind x).trans hk))
  cases e1
  obtain ⟨en, he, ho⟩ := a.st.mr.get hr
  rw [List.getElem?_map, he] at e3
  cases e3
  have hc : ∃ w, en.2.data = .cell w := by cases ho with
    | cellN h => exact ⟨_, h⟩
    | cellS h _ => exact ⟨_, h⟩
  obtain ⟨w, hw⟩ := hc
  have hm : en ∈ mu ++ (ext ++ imm) := List.mem_append_left _ (List.mem_of_getElem? he)
  obtain ⟨q1, q2, q3⟩ := a.st.nw _ hm
  refine wpAny_storeName_cell eo.fn' ((eo.kind x).trans hk) e2 ⟨_, q1, hw⟩ fun h' hc' hs' => ?_
  obtain ⟨o', g1, g2⟩ := hc'
  obtain ⟨ad, oo⟩ := en
  have U := a.st.updOf o' he
  obtain ⟨pre, post, e1, e2', h1, h2⟩ := U.split
  have N : News h₀ env.locals h' (mu.set r (ad, o') ++ (ext ++ imm)) := by
    rw [e2']
    exact news_set (e1 ▸ a.st.nw) h1 h2 hs' g1
  have F := a.st.fr.change hs' q2 q3
  have t := a.st.upd he F N (.cellS g2 ry) s.toks
  exact hQ _ _ ⟨t, a.tk, a.lr.gw (gw_set he)⟩ (gw_set he)
/-- names in order, each a local -/
theorem seqO_cons {α : Type} {a : Option α} {r : List (Option α)} {l : List α} (h : seqO (a :: r) = some l) : ∃ b q, a = some b ∧ seqO r = some q ∧ l = b :: q :=
  bindE h fun b h1 h => mapE h fun q h2 e => ⟨b, q, h1, h2, (Option.some.inj e).symm⟩
theorem seqO_len {α β : Type} {f : α → Option β} : ∀ {es : List α} {l : List β}, seqO (es.map f) = some l → l.length = es.length := by
  intro es
  induction es with
  | nil => exact fun h => by cases h; rfl
  | cons e es ih => exact fun h => by obtain ⟨i, q, _, h2, rfl⟩ := seqO_cons h; exact congrArg (· + 1) (ih h2)
theorem nmSlot_some {e : PySem.Expr} {i : Nat} (h : nmSlot c e = some i) : ∃ x p, e = .Name x p ∧ c.kind x = some .local ∧ c.slot x = some i :=
  bindE h fun x e h => iteP h fun hk h => by
    obtain ⟨p, e⟩ := nameE_eq e
    exact ⟨x, p, e, eq_of_beq hk, h⟩
noncomputable def setAll (l : List (Nat × P)) (loc : List (Option V)) : List (Option V) := l.foldl (fun loc x => loc.set x.1 (some (.p x.2))) loc
theorem setAll_cons (x : Nat × P) (l : List (Nat × P)) (loc : List (Option V)) : setAll (x :: l) loc = setAll l (loc.set x.1 (some (.p x.2))) := rfl
theorem At.inOrder (eo : EnvOk c env) : ∀ {es : List PySem.Expr} {l : List Nat} {vs : List Value} {ps : List P} {loc : List (Option V)} {m : Str → Option Value} {s : Shared}, seqO (es.map (nmSlot c)) = some l → l.length = ps.length → DatAll imm vs (dats ps) → At X c env h₀ m ext loc mu imm H s →
    ∀ {Q : Unit → Shared → Prop}, (∀ m' s', At X c env h₀ m' ext (setAll (l.zip ps) loc) mu imm H s' → Q () s') → wpAny (model X.prog X.w) A (assignInOrder (es.map fun e => assign e env) vs) Q E s := by
  intro es
  induction es with
  | nil =>
    intro l vs ps loc m s hl hlen hd a Q hQ
    cases hl
    cases ps with
    | nil => cases hd; exact wpAny_pure (hQ _ _ a)
    | cons p r => cases hlen
  | cons e es ih =>
    intro l vs ps loc m s hl hlen hd a Q hQ
    obtain ⟨i, q, h1, h2, rfl⟩ := seqO_cons hl
    cases ps with
    | nil => cases hlen
    | cons p ps =>
      cases hd with
      | cons hy hr =>
        obtain ⟨x, pp, rfl, hk, hs⟩ := nmSlot_some h1
        exact wpAny_bind (wpAny_holding (wpAny_assign_Name (a.storeL eo hk hs (v := .p p) hy fun m' s' a' => ih h2 (Nat.succ.inj hlen) hr a' hQ)))
theorem assignEach_names : ∀ {es : List PySem.Expr} {l : List Nat}, seqO (es.map (nmSlot c)) = some l → assignEach es env = es.map fun e => (false, assign e env) := by
  intro es
  induction es with
  | nil => exact fun _ => rfl
  | cons e es ih =>
    intro l h
    obtain ⟨i, q, h1, h2, rfl⟩ := seqO_cons h
    obtain ⟨x, pp, rfl, hk, hs⟩ := nmSlot_some h1
    rw [List.map_cons, ← ih h2]; rfl
theorem St.ext0 {X : Wd} {h₀ : Heap} {L : Addr} {m : Str → Option Value} {mu ext imm : List (Addr × Obj)} {H : List O} {s : Shared} (t : St X h₀ L m mu ext imm H s) {h' : Heap} (hs : Heap.ExtBut s.heap.objs.size s.heap h') (k : Nat) : St X h₀ L m mu ext imm H { s with heap := h', toks := k } :=
  t.keeps (fun b o e => hs b o (Nat.ne_of_lt (Heap.lt_size e)) e) k
theorem at_of {l : List (Option V)} {K : List O} (e : some (l, K) = some (loc', H')) (a : At X c env h₀ m ext l mu imm K s) : At X c env h₀ m ext loc' mu imm H' s := by cases e; exact a
theorem sg_cel (eo : EnvOk c env) {x : Str} {p : Pos} {i : Nat} {v : V} {y : Value} (hk : c.kind x = some .cell) (hs : c.slot x = some i) (hv : tgt (.cel i) v loc H = some (loc', H')) (a : At X c env h₀ m ext loc mu imm H s) (ry : VRel X imm (mu.map Prod.fst) v y) {Q : Unit → Shared → Prop}
    (hQ : ∀ m' mu' s', At X c env h₀ m' ext loc' mu' imm H' s' → Gw mu imm mu' imm → Q () s') : wpAny (model X.prog X.w) A (assign (.Name x p) env y) Q E s := by
  refine bindE (o := (loc[i]?).join) hv fun u hl hv => bindE hv fun r hr hv => bindE hv fun x hx hv => bindE hv fun o ho hv => bindE hv fun K hK hz => ?_
  cases o with
  | cell z =>
    exact wpAny_assign_Name (a.storeC eo hk hs ((join_eq hl).trans (by rw [rf_eq hr])) ho (dat_E hx ry) fun mu' s' a' g => hQ _ _ _ (at_of ((congrArg (fun K => some (loc, K)) (Option.some.inj hK)).trans hz) a') g)
  | _ => first | exact no hK | exact nob hK | cases hK
theorem sg_tup (eo : EnvOk c env) {es : List PySem.Expr} {k : Nat} {p : Pos} {l : List Nat} {v : V} {y : Value} (hl : seqO (es.map (nmSlot c)) = some l) (hv : tgt (.tup l) v loc H = some (loc', H')) (hh : A.handled = none) (a : At X c env h₀ m ext loc mu imm H s) (ry : VRel X imm (mu.map Prod.fst) v y) {Q : Unit → Shared → Prop}
    (hQ : ∀ m' mu' s', At X c env h₀ m' ext loc' mu' imm H' s' → Gw mu imm mu' imm → Q () s') : wpAny (model X.prog X.w) A (assign (.Tuple es k p) env y) Q E s := by
  refine bindE hv fun ps hp hv => iteE hv fun hk hz => andE hk fun h1 h2 => ?_
  rw [tup_eq hp] at ry
  obtain ⟨tt, vs, k, rfl, q1, q2⟩ := DatIn.tupV ry
  have hlen : l.length = ps.length := eq_of_beq h1
  have hes := seqO_len hl
  have hvs : vs.length = ps.length := by rw [q2.length, dats_len]
  refine wpAny_assign_Tuple hh ⟨_, (a.st.nw _ (St.sub_imm _ q1)).1, rfl, k, rfl⟩ (by rw [assignEach_names hl, List.length_map, ← hes, hlen, ← hvs, List.size_toArray]) (by rw [assignEach_names hl, List.findIdx?_eq_none_iff]; simp) fun h' hs' => ?_
  rw [assignEach_names hl, List.map_map]
  exact At.inOrder eo hl hlen q2 ⟨a.st.ext0 hs' s.toks, a.tk, a.lr⟩ fun m' s' a'' => hQ _ _ _ (at_of hz a'') .refl
theorem sg_tgt (eo : EnvOk c env) {t : PySem.Expr} {tg : Tg} {v : V} {y : Value} (ht : tgtOf c t = some tg) (hv : tgt tg v loc H = some (loc', H')) (hh : A.handled = none) (a : At X c env h₀ m ext loc mu imm H s) (ry : VRel X imm (mu.map Prod.fst) v y) {Q : Unit → Shared → Prop}
    (hQ : ∀ m' mu' s', At X c env h₀ m' ext loc' mu' imm H' s' → Gw mu imm mu' imm → Q () s') : wpAny (model X.prog X.w) A (assign t env y) Q E s := by
  cases t with
  | Name x p =>
    refine bindE ht fun k hk ht => ?_
    cases k with
    | «local» =>
      refine mapE ht fun i hs e => ?_
      rw [← Option.some.inj e] at hv
      refine iteP hv fun _ hz => ?_
      exact wpAny_assign_Name (a.storeL eo hk hs ry fun m' s' a' => hQ _ _ _ (at_of hz a') .refl)
    | cell =>
      refine mapE ht fun i hs e => ?_
      rw [← Option.some.inj e] at hv
      exact sg_cel eo hk hs hv a ry hQ
    | _ => first | exact no ht | exact nob ht | cases ht
  | Tuple es k p =>
    refine mapE ht fun l hl e => ?_
    rw [← Option.some.inj e] at hv
    exact sg_tup eo hl hv hh a ry hQ
  | _ => first | exact no ht | exact nob ht | cases ht
end
end Mine
end
section
open PySem PySem.W PyProof.Rows PyProof.V
set_option Elab.async false
set_option genSizeOf false
set_option maxRecDepth 20000
namespace Mine
/-- a ground on which a callee or a comprehension stands: all that is old, the ledger hidden -/
theorem ground {h₀ h : Heap} {L : Addr} {m : Str → Option Value} {news : List (Addr × Obj)} (F : Fr h₀ L h m) (N : News h₀ L h news) :
    ∃ g : Heap, (∀ b o, h₀.get? b = some o → g.get? b = some o) ∧ g.objs.size = h.objs.size ∧ (∀ b o, g.get? b = some o → h.get? b = some o) ∧ (∀ p ∈ news, g.get? p.1 = none) ∧
      (∀ L' h' m' news', Fr g L' h' m' → News g L' h' news' → Fr h₀ L h' m ∧ News h₀ L h' news') := by
  have nm : ∀ b o, h₀.get? b = some o → b ∉ news.map (·.1) := fun b o e q => by
    obtain ⟨p, hp, rfl⟩ := List.mem_map.mp q
    rw [(N p hp).2.2] at e; cases e
  have st : ∀ b o, h₀.get? b = some o → (hideAll h (news.map (·.1))).get? b = some o := fun b o e => hideAll_get _ (F.keep b o e) (nm b o e)
  obtain ⟨oL, es, ep, hL, hLd, hLk, hLf⟩ := F.ns
  have nL : L ∉ news.map (·.1) := fun q => by
    obtain ⟨p, hp, e⟩ := List.mem_map.mp q
    exact (N p hp).2.1 e
  have hLg := hideAll_get (news.map (·.1)) hL nL
  refine ⟨hideAll h (news.map (·.1)), st, hideAll_size _ _, fun b o e => of_hideAll _ e, fun p hp => hideAll_none _ (List.mem_map_of_mem hp), fun L' h' m' news' F' N' => ?_⟩
  refine ⟨⟨⟨oL, es, ep, F'.keep L oL hLg, hLd, hLk, hLf⟩, fun b o e => F'.keep b o (st b o e), F.above⟩, fun p hp => ⟨(N' p hp).1, fun q => ?_, ?_⟩⟩
  · have := (N' p hp).2.2; rw [q, hLg] at this; cases this
  · cases q : h₀.get? p.1 with
    | none => rfl
    | some o => have := (N' p hp).2.2; rw [st _ _ q] at this; cases this
section
variable {X : Wd} {n : Nat} {c : Ce} {env : Env} {loc loc' : List (Option V)} {H H' H₀ : List O} {A : Around} {h₀ : Heap} {L : Addr} {m : Str → Option Value} {mu ext imm : List (Addr × Obj)} {s : Shared} {E : Value → Shared → Prop}
theorem MRel.take {X : Wd} {imm : List (Addr × Obj)} {es : List (Addr × Obj)} {os : List O} (h : MRel X imm es os) (k : Nat) : MRel X imm (es.take k) (os.take k) := by
  induction h generalizing k with
  | nil => simp; exact .nil
  | cons a _ ih =>
    cases k with
    | zero => simp; exact .nil
    | succ k => simpa using .cons a (ih k)
theorem St.trunc (t : St X h₀ L m mu ext imm H s) (k : Nat) : St X h₀ L m (mu.take k) ext imm (H.take k) s := by
  have sl : (mu.take k ++ (ext ++ imm)).Sublist (mu ++ (ext ++ imm)) := (List.take_sublist k mu).append (List.Sublist.refl _)
  exact ⟨t.fr, news_sub t.nw fun p hp => sl.subset hp, t.nd.sublist (sl.map _), t.mr.take k, t.g, t.d, t.os⟩
theorem Gw.trunc {mu' imm' : List (Addr × Obj)} (g : Gw mu imm mu' imm') {k : Nat} (hk : mu.length ≤ k) : Gw mu imm (mu'.take k) imm' := by
  refine ⟨?_, g.im⟩
  rw [List.map_take, List.prefix_take_iff]
  exact ⟨g.ad, by rw [List.length_map]; exact hk⟩

/-- less told of the locals -/
noncomputable def Le (a b : List (Option V)) : Prop := ∀ (i : Nat) (v : V), a[i]? = some (some v) → b[i]? = some (some v)
theorem Le.refl {a : List (Option V)} : Le a a := fun _ _ h => h
theorem Le.trans {a b c : List (Option V)} (x : Le a b) (y : Le b c) : Le a c := fun i v h => y i v (x i v h)
theorem At.le {X c env h₀ m ext loc loc' mu imm H s} (a : At X c env h₀ m ext loc' mu imm H s) (l : Le loc loc') : At X c env h₀ m ext loc mu imm H s := ⟨a.st, a.tk, fun i v x hv hx => a.lr i v x (l i v hv) hx⟩
theorem Le.set {a b : List (Option V)} {i : Nat} {v : V} (h : Le a b) (hn : ∀ u, a[i]? ≠ some (some u)) : Le a (b.set i (some v)) := fun j u hj => by
  by_cases e : i = j
  · subst e; exact absurd hj (hn u)
  · rw [List.getElem?_set_ne e]; exact h j u hj
theorem Le.setAll {a : List (Option V)} : ∀ {l : List (Nat × P)} {b : List (Option V)}, Le a b → (∀ x ∈ l, ∀ u, a[x.1]? ≠ some (some u)) → Le a (setAll l b)
  | [], b, h, _ => h
  | x :: r, b, h, hn => by
    rw [setAll_cons]
    exact Le.setAll (h.set (hn x (.head _))) fun y hy => hn y (.tail _ hy)
theorem tgt_le {loc₀ : List (Option V)} {t : Tg} {v : V} (hv : tgt t v loc H = some (loc', H')) (hf : tgFree t loc₀ = true) (h : Le loc₀ loc) : Le loc₀ loc' := by
  cases t with
  | one i =>
    refine iteP hv fun _ hv => ?_
    cases hv
    refine h.set fun u hu => ?_
    unfold tgFree at hf
    simp only [hu] at hf
    cases hf
  | cel i => first | exact no hf | exact nob hf | cases hf
  | tup l =>
    refine bindE hv fun ps hp hv => iteE hv fun _ hv => ?_
    cases hv
    refine Le.setAll (l := l.zip ps) h fun x hx u hu => ?_
    have := List.all_eq_true.mp hf x.1 (List.of_mem_zip hx).1
    simp only [hu] at this
    cases this

theorem own_go {t : PySem.Expr} {v : V} {i : Nat} {I : Addr} {o : Obj} {y : Value} (st : St X h₀ L m mu ((I, o) :: ext) imm H s) (r : ItR imm (mu.map Prod.fst) v i o) {Q : Unit → Shared → Prop} (hQ : Q () s) : wpAny (model X.prog X.w) A (letOwnedTupleGo t (.ref I) y) Q E s := by
  obtain ⟨g1, g2, g3⟩ := st.getE
  have core : ∀ p, wpAny (model X.prog X.w) A (letOwnedTupleGo (.Tuple [] 0 p) (.ref I) y) Q E s := fun p => by
    cases y with
    | ref a =>
      refine wpAny_bind (wpAny_load g1 ?_)
      cases r with
      | list h1 h2 h3 => simp only [h2, h3]; refine KFB.if_not ?_ (wpAny_pure hQ); rfl
      | rng => refine KFB.if_not ?_ (wpAny_pure hQ); rfl
      | str h1 h2 =>
        rename_i l tt
        simp only [h1, h2]
        rcases strTy_cases l with e | e <;> rw [e] <;> exact KFB.if_not rfl (wpAny_pure hQ)
      | tup h1 h2 h3 h4 => simp only [h3, h4]; refine KFB.if_not ?_ (wpAny_pure hQ); rfl
    | _ => exact wpAny_pure hQ
  cases t <;> first | exact wpAny_pure hQ | exact core default
end
end Mine
end
section
open PySem PySem.W PyProof.Rows PyProof.V
set_option Elab.async false
set_option genSizeOf false
set_option maxRecDepth 20000
namespace Mine
section
variable {X : Wd} {n : Nat} {c : Ce} {env : Env} {loc loc' : List (Option V)} {H H' H₀ : List O} {A : Around} {h₀ : Heap} {L : Addr} {m : Str → Option Value} {mu ext imm : List (Addr × Obj)} {s : Shared} {E : Value → Shared → Prop}

/-- what is done in a turn of a comprehension behind the target -/
noncomputable def InS (X : Wd) (n : Nat) (c : Ce) (env : Env) (D : Addr) (a : Nat) (inner : Sem Unit) (turn : List (Option V) → List O → Option (List O)) : Prop :=
  ∀ ⦃loc : List (Option V)⦄ ⦃H H' : List O⦄ ⦃A : Around⦄ ⦃h₀ : Heap⦄ ⦃m : Str → Option Value⦄ ⦃mu ext imm : List (Addr × Obj)⦄ ⦃s : Shared⦄ ⦃Q : Unit → Shared → Prop⦄ ⦃E : Value → Shared → Prop⦄,
    turn loc H = some H' → Room A n → X.In h₀ → At X c env h₀ m ext loc mu imm H s → (mu.map Prod.fst)[a]? = some D →
    (∀ m' mu' imm' s', At X c env h₀ m' ext loc mu' imm' H' s' → Gw mu imm mu' imm' → Q () s') → wpAny (model X.prog X.w) A inner Q E s

theorem pre_get {mu mu' imm imm' : List (Addr × Obj)} (g : Gw mu imm mu' imm') {a : Nat} {D : Addr} (h : (mu.map Prod.fst)[a]? = some D) : (mu'.map Prod.fst)[a]? = some D := by
  obtain ⟨t, ht⟩ := g.ad
  rw [← ht, List.getElem?_append_left (List.getElem?_eq_some_iff.mp h).1]; exact h

theorem cmp_loop {elt : PySem.Expr} {gens : List Comprehension} {scope : Scope} {pos : Pos} {d : Nat} {I D : Addr} {a : Nat} {t : PySem.Expr} {p : Pos} {inner : Sem Unit} {tg : Tg} {turn : List (Option V) → List O → Option (List O)} {v : V} {ps : List P} {w : Option Nat} {loc₀ : List (Option V)} {R : Result → Shared → Prop}
    (eo : EnvOk c env)
    (hturn : compTurn (.ListComp elt gens scope pos) d (.ref I) (.ref D) env = (standAt p >>= fun _ => pyNext (.ref I) >>= fun r => match r with
      | none => pure (.done .next)
      | some v => letOwnedTupleGo t (.ref I) v >>= fun _ => assign t env v >>= fun _ => inner >>= fun _ => again (.compLoop (.ListComp elt gens scope pos) d (.ref I) (.ref D) env)))
    (hin : InS X n c env D a inner turn) (ht : tgtOf c t = some tg) (hi : itemsOf v H₀ = some (ps, w)) (Rm : Room A n) (hI : X.In h₀) :
    ∀ {rem : List P} {i : Nat} {loc : List (Option V)} {H H' : List O} {m : Str → Option Value} {mu imm : List (Addr × Obj)} {o : Obj} {s : Shared}, i + rem.length = ps.length → ps.drop i = rem → cmpL ps w tg turn loc rem H = some H' → At X c env h₀ m ((I, o) :: ext) loc mu imm H s →
      ItR imm (mu.map Prod.fst) v i o → (mu.map Prod.fst)[a]? = some D → (tgFree tg loc₀ = true → Le loc₀ loc) →
      (∀ loc' m' mu' imm' s', At X c env h₀ m' ext loc' mu' imm' H' s' → Gw mu imm mu' imm' → (tgFree tg loc₀ = true → Le loc₀ loc') → R (.ok .next) s') → codeAny (model X.prog X.w) A (.compLoop (.ListComp elt gens scope pos) d (.ref I) (.ref D) env) R s := by
  intro rem
  induction rem with
  | nil =>
    intro i loc H H' m mu imm o s hl hd hv at_ it ha hle hR
    refine iteE hv fun hw hv => ?_
    cases Option.some.inj hv
    refine codeAny_of_tree ?_
    show wpAny _ A ((compTurn (.ListComp elt gens scope pos) d (.ref I) (.ref D) env).onRaise (fun x => do noteFrame x env; theTreesLotGoes x)) _ _ s
    refine wpAny_noted ?_
    rw [hturn]
    refine wpAny_bind (wpAny_standAt (wpAny_bind (it_end hi hw (by simpa using hl) at_.st at_.tk it Rm.1 fun s' st tk => ?_)))
    exact wpAny_pure (hR _ _ _ _ _ ⟨st, tk, at_.lr⟩ .refl hle)
  | cons x rem ir =>
    intro i loc H H' m mu imm o s hl hd hv at_ it ha hle hR
    refine iteE hv fun hw hv => bindE hv fun q h1 hv => bindE hv fun z h2 hv => ?_
    have hx : ps[i]? = some x := by
      have := congrArg (fun l => l[0]?) hd
      simpa using this
    refine codeAny_of_tree ?_
    show wpAny _ A ((compTurn (.ListComp elt gens scope pos) d (.ref I) (.ref D) env).onRaise (fun x => do noteFrame x env; theTreesLotGoes x)) _ _ s
    refine wpAny_noted ?_
    rw [hturn]
    refine wpAny_bind (wpAny_standAt (wpAny_bind (it_item hi hw hx at_.st at_.tk it fun y o' s1 st1 tk1 ry it1 => ?_)))
    have a1 : At X c env h₀ m ((I, o') :: ext) loc mu imm H s1 := ⟨st1, tk1, at_.lr⟩
    refine wpAny_bind (own_go st1 it1 (wpAny_bind (sg_tgt eo ht (loc' := q.1) (H' := q.2) h1 Rm.1 a1 (v := .p x) ry fun m2 mu2 s2 a2 g2 => wpAny_bind (hin h2 Rm hI a2 (pre_get g2 ha) fun m3 mu3 imm3 s3 a3 g3 => ?_))))
    refine wpAny_pure ⟨rfl, ?_⟩
    have g := g2.trans g3
    exact ir (by rw [List.length_cons] at hl; lia) (by
      have := congrArg (List.drop 1) hd
      simpa [List.drop_drop, Nat.add_comm] using this) hv a3 (it1.mono g.im g.ad) (pre_get g ha) (fun hf => tgt_le h1 hf (hle hf)) fun loc' m' mu' imm' s' a' g' l' => hR _ _ _ _ _ a' (g.trans g') l'
end
end Mine
end
section
open PySem PySem.W PyProof.Rows PyProof.V
set_option Elab.async false
set_option maxRecDepth 20000
namespace Mine
theorem ndup_nodup : ∀ {l : List Str}, ndup l = true → l.Nodup
  | [], _ => .nil
  | x :: r, h => by
    unfold ndup at h
    obtain ⟨a, b⟩ := Bool.and_eq_true_iff.mp h
    rw [List.nodup_cons]
    exact ⟨by simpa using a, ndup_nodup b⟩
theorem lookup_nodup : ∀ {l : List (Str × NameKind)} {x : Str} {k : NameKind}, (l.map (·.1)).Nodup → (x, k) ∈ l → l.lookup x = some k
  | (y, j) :: r, x, k, hn, hm => by
    rw [List.map_cons, List.nodup_cons] at hn
    rw [List.lookup_cons]
    rcases List.mem_cons.mp hm with e | hm
    · cases e; simp
    · have : (x == y) = false := by
        cases h : x == y with
        | false => rfl
        | true => rw [eq_of_beq h] at hm; exact absurd (List.mem_map_of_mem hm) hn.1
      rw [this]
      exact lookup_nodup hn.2 hm
theorem closure_loop {env : Env} (f : Str × NameKind → List (Str × Addr) → Sem (ForInStep (List (Str × Addr))))
    (hf : ∀ name kind cs, f (name, kind) cs = if kind == .free then (do let a ← cellOf env name; pure (.yield ((name, a) :: cs))) else pure (.yield cs)) :
    ∀ (names : List (Str × NameKind)) (acc : List (Str × Addr)), (∀ x ∈ names, x.2 = .free → (env.cells.lookup x.1).isSome = true) → (∀ x a, acc.lookup x = some a → env.cells.lookup x = some a) →
      ∃ cl, (forIn names acc f : Sem _) = pure cl ∧ (∀ x a, cl.lookup x = some a → env.cells.lookup x = some a) ∧ (∀ x ∈ names, x.2 = .free → (cl.lookup x.1).isSome = true) ∧ ∀ x, (acc.lookup x).isSome = true → (cl.lookup x).isSome = true := by
  intro names
  induction names with
  | nil => exact fun acc _ h2 => ⟨acc, List.forIn_nil, h2, (fun _ h => nomatch h), fun _ h => h⟩
  | cons nk r ih =>
    intro acc h1 h2
    obtain ⟨name, kind⟩ := nk
    rw [List.forIn_cons, hf]
    by_cases hk : kind = .free
    · subst hk
      obtain ⟨a, ha⟩ := Option.isSome_iff_exists.mp (h1 _ (.head _) rfl)
      have e : cellOf env name = pure a := by unfold cellOf; simp only at ha; rw [ha]
      rw [if_pos (by rfl), e]
      obtain ⟨cl, q1, q2, q3, q4⟩ := ih ((name, a) :: acc) (fun x hx => h1 x (.tail _ hx)) (fun x b hb => by
        rw [List.lookup_cons] at hb
        cases hxn : x == name with
        | true => rw [hxn] at hb; cases hb; rw [eq_of_beq hxn]; exact ha
        | false => rw [hxn] at hb; exact h2 x b hb)
      refine ⟨cl, q1, q2, fun x hx hf => ?_, fun x hx => q4 x ?_⟩
      · rcases List.mem_cons.mp hx with rfl | hx
        · exact q4 _ (by rw [List.lookup_cons, beq_self_eq_true]; rfl)
        · exact q3 x hx hf
      · rw [List.lookup_cons]
        cases x == name with
        | true => rfl
        | false => exact hx
    · have : (kind == NameKind.free) = false := by simpa using hk
      rw [this]
      obtain ⟨cl, q1, q2, q3, q4⟩ := ih acc (fun x hx => h1 x (.tail _ hx)) h2
      exact ⟨cl, q1, q2, fun x hx hfr => by
        rcases List.mem_cons.mp hx with rfl | hx
        · exact absurd hfr hk
        · exact q3 x hx hfr, q4⟩
theorem closure_of {env : Env} {scope : Scope} (h : ∀ x ∈ scope.names, x.2 = .free → (env.cells.lookup x.1).isSome = true) :
    ∃ cl, closureFor scope env = pure cl ∧ (∀ x ∈ scope.names, x.2 = .free → cl.lookup x.1 = env.cells.lookup x.1) := by
  obtain ⟨cl, h1, h2, h3, _⟩ := closure_loop (env := env) (fun x cs => if x.2 == .free then (do let a ← cellOf env x.1; pure (.yield ((x.1, a) :: cs))) else pure (.yield cs)) (fun _ _ _ => rfl) scope.names [] h (by simp)
  refine ⟨cl, ?_, fun x hx hf => ?_⟩
  · exact Eq.trans (b := (pure cl >>= fun cs => pure cs)) (congrArg (fun m => m >>= fun cs => pure cs) h1) rfl
  · obtain ⟨a, ha⟩ := Option.isSome_iff_exists.mp (h3 x hx hf)
    rw [ha, h2 _ _ ha]
end Mine
end
section
open PySem PySem.W PyProof.Rows PyProof.V
set_option Elab.async false
set_option maxRecDepth 20000
namespace Mine
theorem seqO_get {α : Type} : ∀ {l : List (Option α)} {r : List α}, seqO l = some r → ∀ j : Nat, l[j]? = r[j]?.map some
  | [], r, h, j => by cases h; simp
  | a :: l, r, h, j => by
    obtain ⟨b, q, rfl, h2, rfl⟩ := seqO_cons h
    cases j with
    | zero => simp
    | succ j => simpa using seqO_get h2 j
section
variable {X : Wd} {n : Nat} {c : Ce} {env : Env} {loc loc' : List (Option V)} {H H' H₀ : List O} {A : Around} {h₀ : Heap} {L : Addr} {m : Str → Option Value} {mu ext imm : List (Addr × Obj)} {s : Shared} {E : Value → Shared → Prop}

structure ScOk (c : Ce) (scope : Scope) : Prop where
  fn : scope.kind = .function
  ofn : c.sc.kind = .function
  nd : (scope.names.map (·.1)).Nodup
  nocell : ∀ x ∈ scope.names, x.2 ≠ .cell
  free : ∀ x ∈ scope.names, x.2 = .free → c.kind x.1 = some .cell
  dot : ∀ x ∈ scope.names, x.2 = .free → x.1 ≠ (".0" : Str)
theorem scOk_of {scope : Scope} (h : scOk c scope = true) : ScOk c scope := by
  unfold scOk at h
  simp only [Bool.and_eq_true] at h
  obtain ⟨⟨⟨h1, h2⟩, h3⟩, h4⟩ := h
  have h4 := List.all_eq_true.mp h4
  refine ⟨by simpa using h1, by simpa using h2, ndup_nodup h3, fun x hx e => ?_, fun x hx e => ?_, fun x hx e => ?_⟩
  · have := h4 x hx
    simp [e] at this
  · have := h4 x hx
    simp [e] at this
    exact this.1
  · have := h4 x hx
    simp [e] at this
    exact this.2
noncomputable def inP (x : Str × NameKind) : Bool := (x.2 == .local || x.2 == .cell || x.2 == .free) && x.1 != (".0" : Str)
theorem compNm_eq (scope : Scope) : compNm scope = (scope.names.filter inP).map (·.1) := rfl
noncomputable def frF (c : Ce) (x : Str × NameKind) : Option (Option Nat) := if x.2 == .local then some none else if x.2 == .free && c.kind x.1 == some .cell then (c.slot x.1).map some else none
theorem frame_eq {scope : Scope} {fr : List (Option Nat)} (h : c.frame scope = some fr) : seqO ((scope.names.filter inP).map (frF c)) = some fr := by
  exact h
theorem frame_at {scope : Scope} {fr : List (Option Nat)} (h : c.frame scope = some fr) {j : Nat} {x : Str} (hx : (compNm scope)[j]? = some x) : ∃ k, (x, k) ∈ scope.names ∧ fr[j]?.map some = some (frF c (x, k)) := by
  rw [compNm_eq, List.getElem?_map] at hx
  obtain ⟨p, hp, rfl⟩ := Option.map_eq_some_iff.mp hx
  refine ⟨p.2, (List.mem_filter.mp (List.mem_of_getElem? hp)).1, ?_⟩
  rw [← seqO_get (frame_eq h) j, List.getElem?_map, hp]
  rfl
noncomputable def relF (env : Env) (x : Str × NameKind) : Str × NameKind := if (x.2 == .free && env.scope.kind == .function && env.kindOf x.1 == some .cell) then (x.1, .cell) else x
theorem relF_fst (env : Env) (x : Str × NameKind) : (relF env x).1 = x.1 := by unfold relF; split <;> rfl
theorem relabel_eq (scope : Scope) (env : Env) : (relabel scope env).names = scope.names.map (relF env) := rfl
theorem inner_lrel {scope : Scope} {fr : List (Option Nat)} {cl : List (Str × Addr)} {C : Addr} {m' : Str → Option Value} (eo : EnvOk c env) (so : ScOk c scope) (hfr : c.frame scope = some fr)
    (lr : LRel X c.nm env m imm (mu.map Prod.fst) loc) (hcl : ∀ x ∈ scope.names, x.2 = .free → cl.lookup x.1 = env.cells.lookup x.1) :
    LRel X (c.inner scope).nm (compEnvC scope cl C env) m' imm (mu.map Prod.fst) (frOf fr loc) := by
  intro j v x hj hx
  have hx' : (compNm scope)[j]? = some x := hx
  obtain ⟨k, hm, hk⟩ := frame_at hfr hx'
  unfold frOf at hj
  rw [List.getElem?_map] at hj
  obtain ⟨z, hz, hb⟩ := Option.map_eq_some_iff.mp hj
  rw [hz] at hk
  have hk : some z = frF c (x, k) := Option.some.inj hk
  unfold frF at hk
  obtain ⟨i, rfl, hi⟩ := Option.bind_eq_some_iff.mp hb
  split at hk
  · cases hk
  · split at hk
    · rename_i _ hfk
      obtain ⟨h1, h2⟩ := Bool.and_eq_true_iff.mp hfk
      have h1 : k = .free := eq_of_beq h1
      have k2 : c.kind x = some .cell := eq_of_beq h2
      subst h1
      have hs : c.slot x = some i := by
        obtain ⟨i', hs, e⟩ := Option.map_eq_some_iff.mp hk.symm
        cases e; exact hs
      have hloc : loc[i]? = some (some v) := by
        cases q : loc[i]? with
        | none => rw [q] at hi; cases hi
        | some u => rw [q] at hi; simp at hi; rw [hi]
      obtain ⟨r, d, e1, e2, e3⟩ := (lr i v x hloc (idxS_get hs)).2 (.inl ((eo.kind x).trans k2))
      have hkind : (compEnvC scope cl C env).kindOf x = some .cell := by
        show (relabel scope env).names.lookup x = some .cell
        rw [relabel_eq]
        refine lookup_nodup ?_ (List.mem_map.mpr ⟨(x, .free), hm, ?_⟩)
        · rw [List.map_map, show ((fun x : Str × NameKind => x.1) ∘ relF env) = fun x => x.1 from funext fun x => relF_fst env x]
          exact so.nd
        · unfold relF
          simp [eo.fn', eo.kind, k2]
      refine ⟨fun h => (by rw [hkind] at h; cases h), fun _ => ⟨r, d, e1, ?_, e3⟩⟩
      show cl.lookup x = some d
      rw [hcl _ hm rfl]; exact e2
    · cases hk
theorem inner_eo {scope : Scope} {cl : List (Str × Addr)} {C : Addr} (eo : EnvOk c env) (so : ScOk c scope) : EnvOk (c.inner scope) (compEnvC scope cl C env) := by
  refine ⟨?_, eo.gl, eo.bi, so.fn, ?_⟩
  · show relabel scope env = effSc scope c.sc
    unfold relabel effSc Env.kindOf
    rw [eo.sc]
  · show (compNm scope).Nodup
    rw [compNm_eq]
    exact so.nd.sublist ((List.filter_sublist).map _)
theorem free_cells {scope : Scope} {fr : List (Option Nat)} (eo : EnvOk c env) (so : ScOk c scope) (hfr : c.frame scope = some fr) (hfo : frOk fr loc = true) (lr : LRel X c.nm env m imm (mu.map Prod.fst) loc) :
    ∀ x ∈ scope.names, x.2 = .free → (env.cells.lookup x.1).isSome = true := by
  rintro ⟨x, k⟩ hm hk
  simp only at hk
  subst hk
  have hin : (x, NameKind.free) ∈ scope.names.filter inP := List.mem_filter.mpr ⟨hm, by
    have := so.dot _ hm rfl
    simp only at this
    simp [inP, this]⟩
  obtain ⟨j, hj⟩ := List.getElem?_of_mem hin
  have h2 := so.free _ hm rfl
  simp only at h2
  have e := seqO_get (frame_eq hfr) j
  rw [List.getElem?_map, hj] at e
  simp only [Option.map_some, frF] at e
  rw [if_neg (by decide)] at e
  simp only [h2, beq_self_eq_true, Bool.and_self, if_true] at e
  cases q : fr[j]? with
  | none => rw [q] at e; cases e
  | some z =>
    rw [q] at e
    have e : Option.map some (c.slot x) = some z := Option.some.inj e
    obtain ⟨i, hs, rfl⟩ := Option.map_eq_some_iff.mp e
    have := List.all_eq_true.mp hfo _ (List.mem_of_getElem? q)
    simp only at this
    split at this
    · rename_i r hl
      obtain ⟨r', d, e1, e2, e3⟩ := (lr i _ x hl (idxS_get hs)).2 (.inl ((eo.kind x).trans h2))
      show (env.cells.lookup x).isSome = true
      rw [e2]; rfl
    · cases this

theorem comp_run {elt target iter : PySem.Expr} {ifs : List PySem.Expr} {rest : List Comprehension} {scope : Scope} {pos : Pos} {fr : List (Option Nat)} {v : V} {ps : List P} {w : Option Nat} {tg : Tg} {turn : List (Option V) → List O → Option (List O)} {K : List O} {cl : List (Str × Addr)}
    {I : Addr} {o : Obj} {RR : Value → Addr → Result → Shared → Prop} (inner : Env → Addr → Sem Unit)
    (eo : EnvOk c env) (so : ScOk c scope) (hfr : c.frame scope = some fr) (hcl : ∀ x ∈ scope.names, x.2 = .free → cl.lookup x.1 = env.cells.lookup x.1)
    (ht : tgtOf (c.inner scope) target = some tg) (hi : itemsOf v H₀ = some (ps, w)) (Rm : Room A n) (hI : X.In h₀)
    (hturn : ∀ cenv D, compTurn (.ListComp elt (⟨target, iter, ifs, 0⟩ :: rest) scope pos) 0 (.ref I) (.ref D) cenv = (standAt iter.pos >>= fun _ => pyNext (.ref I) >>= fun r => match r with
      | none => pure (.done .next)
      | some v => letOwnedTupleGo target (.ref I) v >>= fun _ => assign target cenv v >>= fun _ => inner cenv D >>= fun _ => again (.compLoop (.ListComp elt (⟨target, iter, ifs, 0⟩ :: rest) scope pos) 0 (.ref I) (.ref D) cenv)))
    (hin : ∀ C D, EnvOk (c.inner scope) (compEnvC scope cl C env) → InS X n (c.inner scope) (compEnvC scope cl C env) D H.length (inner (compEnvC scope cl C env) D) turn)
    (hv : cmpL ps w tg turn (frOf fr loc) ps (H ++ [.list []]) = some K)
    (a : At X c env h₀ m ((I, o) :: ext) loc mu imm H s) (it : ItR imm (mu.map Prod.fst) v 0 o)
    (hR : ∀ D C oC mC mu' imm' s', At X c env h₀ m ((C, oC) :: ext) loc mu' imm' (K.take (H.length + 1)) s' → (∀ s'' : Shared, s''.heap.get? C = some oC → s''.heap.Ns C mC) → (mu'.map Prod.fst)[H.length]? = some D → Gw mu imm mu' imm' → RR (.ref D) C (.ok .next) s') :
    wpAny (model X.prog X.w) A (newList []) (fun acc s₃ => wpAny (model X.prog X.w) A (newFunctionEnv scope env.globals cl [] env.qual none .none (some env)) (fun cenv s₄ =>
      codeAny (model X.prog X.w) A (.compStart (.ListComp elt (⟨target, iter, ifs, 0⟩ :: rest) scope pos) 0 (.ref I) acc { cenv with scope := relabel scope env }) (RR acc cenv.locals) s₄) E s₃) E s := by
  refine newList_K a.st.fr a.st.nw (fun D h' F N hlt => ?_) (by rw [sizeLine_eq]; exact Nat.zero_le _)
  have t3 := a.st.addM F N hlt (b := .list []) (.list (.nil : DatAll imm [] (dats []))) s.toks
  have hD : ((mu ++ [(D, listOf [].toArray 0)]).map Prod.fst)[H.length]? = some D := by rw [← a.st.mr.length]; simp
  obtain ⟨g, k1, k2, k3, k4, k5⟩ := ground t3.fr t3.nw
  have hI' : X.In g := hI.keeps k1
  refine wpAny_newFunctionEnv so.nocell (by simp) (fun h4 hns hsb => ?_) so.fn
  have hkeep : ∀ b o, h'.get? b = some o → h4.get? b = some o := fun b o e => hsb.extBut b o (Nat.ne_of_lt (Heap.lt_size e)) (Heap.get?_push_of_some _ e)
  have F4 : Fr g h'.objs.size h4 (fun _ => none) := ⟨by simpa using hns, fun b o e => hkeep b o (k3 b o e), Nat.le_of_eq k2⟩
  have t4 : St X g h'.objs.size (fun _ => none) (mu ++ [(D, listOf [].toArray 0)]) ((I, o) :: ext) imm (H ++ [.list []]) { s with heap := h4, toks := s.toks } :=
    ⟨F4, fun p hp => ⟨hkeep _ _ (t3.nw p hp).1, Nat.ne_of_lt (Heap.lt_size (t3.nw p hp).1), k4 p hp⟩, t3.nd, t3.mr, t3.g, t3.d, t3.os⟩
  have eo' := inner_eo (cl := cl) (C := h'.objs.size) eo so
  have a4 : At X (c.inner scope) (compEnvC scope cl h'.objs.size env) g (fun _ => none) ((I, o) :: ext) (frOf fr loc) (mu ++ [(D, listOf [].toArray 0)]) imm (H ++ [.list []]) { s with heap := h4, toks := s.toks } :=
    ⟨t4, a.tk, inner_lrel eo so hfr (a.lr.gw gw_mu) hcl⟩
  have it4 := it.mono (fun _ h => h) (gw_mu (mu := mu) (imm := imm) (a := (D, listOf [].toArray 0))).ad
  have fin : codeAny (model X.prog X.w) A (.compLoop (.ListComp elt (⟨target, iter, ifs, 0⟩ :: rest) scope pos) 0 (.ref I) (.ref D) (compEnvC scope cl h'.objs.size env)) (RR (.ref D) h'.objs.size) { s with heap := h4, toks := s.toks } := by
    refine cmp_loop (loc₀ := frOf fr loc) eo' (hturn _ D) (hin _ D eo') ht hi Rm hI' (i := 0) (by simp) rfl hv a4 it4 hD (fun _ => .refl) fun loc' m' mu' imm' s' a' g' _ => ?_
    obtain ⟨F', N'⟩ := k5 _ _ _ _ a'.st.fr a'.st.nw
    obtain ⟨oC, es, ep, hC, hCd, hCk, hCf⟩ := a'.st.fr.ns
    have hC : s'.heap.get? h'.objs.size = some oC := hC
    have tO : St X h₀ env.locals m mu' ext imm' K s' := ⟨F', N', a'.st.nd, a'.st.mr, a'.st.g, a'.st.d, a'.st.os⟩
    have hne : ∀ p ∈ mu' ++ (ext ++ imm'), p.1 ≠ h'.objs.size := fun p hp e => (a'.st.nw p hp).2.1 e
    have hCL : h'.objs.size ≠ env.locals := Nat.ne_of_gt t3.fr.ns.lt
    have hC0 : h₀.get? h'.objs.size = none := by
      cases q : h₀.get? h'.objs.size with
      | none => rfl
      | some o' => exact absurd (Heap.lt_size (t3.fr.keep _ _ q)) (Nat.lt_irrefl _)
    have tE : St X h₀ env.locals m mu' ((h'.objs.size, oC) :: ext) imm' K s' := by
      refine ⟨F', fun p hp => ?_, ?_, a'.st.mr, a'.st.g, a'.st.d, a'.st.os⟩
      · rcases List.mem_cons.mp (perm_ext.mem_iff.mp hp) with rfl | hp
        · exact ⟨hC, hCL, hC0⟩
        · exact N' p hp
      · rw [(perm_ext.map Prod.fst).nodup_iff, List.map_cons, List.nodup_cons]
        refine ⟨fun hm => ?_, tO.nd⟩
        obtain ⟨p, hp, q⟩ := List.mem_map.mp hm
        exact hne p hp q
    have gA : Gw mu imm mu' imm' := gw_mu.trans g'
    have lE : mu.length ≤ H.length + 1 := by rw [a.st.mr.length]; exact Nat.le_succ _
    have gT : Gw mu imm (mu'.take (H.length + 1)) imm' := gA.trunc lE
    refine hR D _ oC m' _ imm' s' ⟨tE.trunc (H.length + 1), a'.tk, a.lr.gw gT⟩ (fun s'' e => ⟨oC, es, ep, e, hCd, hCk, hCf⟩) ?_ gT
    rw [List.map_take, List.getElem?_take_of_lt (Nat.lt_succ_self _)]
    exact pre_get g' hD
  exact codeAny_compStart_list fin (it_self t4 it4 fin)
end
end Mine
end
section
open PySem PySem.W PyProof.Rows PyProof.V
set_option Elab.async false
set_option maxRecDepth 20000
namespace Mine
noncomputable def testsOf (ifs : List PySem.Expr) (env : Env) : Sem Bool := forIn ifs true fun c r => if r = true then do let ok ← isTrue c env (eval c env); pure (ForInStep.yield ok) else pure (ForInStep.yield r)
noncomputable def emit1 (elt : PySem.Expr) (env : Env) (D : Addr) : Sem Unit := do let _ ← call (.builtin "list.append") [.ref D, ← eval elt env]
noncomputable def inner1 (ifs : List PySem.Expr) (elt : PySem.Expr) (env : Env) (D : Addr) : Sem Unit := testsOf ifs env >>= fun ok => if ok = true then emit1 elt env D else pure ()
theorem turn1 (elt target iter : PySem.Expr) (ifs : List PySem.Expr) (scope : Scope) (pos : Pos) (I D : Addr) (cenv : Env) :
    compTurn (.ListComp elt [⟨target, iter, ifs, 0⟩] scope pos) 0 (.ref I) (.ref D) cenv = (standAt iter.pos >>= fun _ => pyNext (.ref I) >>= fun r => match r with
      | none => pure (.done .next)
      | some v => letOwnedTupleGo target (.ref I) v >>= fun _ => assign target cenv v >>= fun _ => inner1 ifs elt cenv D >>= fun _ => again (.compLoop (.ListComp elt [⟨target, iter, ifs, 0⟩] scope pos) 0 (.ref I) (.ref D) cenv)) := by
  rw [compTurn_list]
  refine bind_congr fun _ => bind_congr fun r => ?_
  cases r with
  | none => rfl
  | some v =>
    refine bind_congr fun _ => bind_congr fun _ => ?_
    unfold inner1 testsOf
    rw [bind_assoc]
    refine bind_congr fun ok => ?_
    cases ok with
    | true => rfl
    | false => simp
end Mine
end
section
open PySem PySem.W PyProof.Rows PyProof.V
set_option Elab.async false
set_option maxRecDepth 20000
namespace Mine
section
variable {X : Wd} {n : Nat} {c : Ce} {env : Env} {loc loc' : List (Option V)} {H H' H₀ : List O} {A : Around} {h₀ : Heap} {L : Addr} {m : Str → Option Value} {mu ext imm : List (Addr × Obj)} {s : Shared} {E : Value → Shared → Prop}
/-- a list of tests, each only if all ahead of it held -/
noncomputable def STs (X : Wd) (n : Nat) (c : Ce) (env : Env) (es : List PySem.Expr) (loc : List (Option V)) (H : List O) (b : Bool) (H' : List O) : Prop :=
  ∀ ⦃A : Around⦄ ⦃h₀ : Heap⦄ ⦃m : Str → Option Value⦄ ⦃mu ext imm : List (Addr × Obj)⦄ ⦃s : Shared⦄ ⦃Q : Bool → Shared → Prop⦄ ⦃E : Value → Shared → Prop⦄,
    Room A n → X.In h₀ → At X c env h₀ m ext loc mu imm H s →
    (∀ mu' imm' s', At X c env h₀ m ext loc mu' imm' H' s' → Gw mu imm mu' imm' → Q b s') → wpAny (model X.prog X.w) A (testsOf es env) Q E s
theorem sts_nil : STs X n c env [] loc H true H := by
  intro A h₀ m mu ext imm s Q E R I a hQ
  exact wpAny_tests_nil (hQ _ _ _ a .refl)
theorem tests_false : ∀ (es : List PySem.Expr), (forIn es false fun c r => if r = true then do let ok ← isTrue c env (eval c env); pure (ForInStep.yield ok) else pure (ForInStep.yield r) : Sem Bool) = pure false
  | [] => by rw [List.forIn_nil]
  | e :: es => by
    rw [List.forIn_cons, if_neg (by decide)]
    show ((pure (ForInStep.yield false) : Sem _) >>= _) = _
    rw [pure_bind]
    exact tests_false es
theorem sts_cons {e : PySem.Expr} {es : List PySem.Expr} {b b' : Bool} {H₁ : List O} (h : ST X n c env e loc H b H₁) (hs : b = true → STs X n c env es loc H₁ b' H') (hn : b = false → b' = false ∧ H' = H₁) : STs X n c env (e :: es) loc H b' H' := by
  intro A h₀ m mu ext imm s Q E R I a hQ
  unfold testsOf
  rw [List.forIn_cons, if_pos rfl]
  refine wpAny_bind (wpAny_bind (h R I a fun mu1 imm1 s1 a1 g1 => wpAny_pure ?_))
  cases b with
  | true => exact hs rfl R I a1 fun mu2 imm2 s2 a2 g2 => hQ _ _ _ a2 (g1.trans g2)
  | false =>
    obtain ⟨rfl, rfl⟩ := hn rfl
    show wpAny _ _ (forIn es false _ : Sem Bool) _ _ _
    exact wpAny_of_eq (tests_false es) (hQ _ _ _ a1 g1)

theorem ins_one {elt : PySem.Expr} {ifs : List PySem.Expr} {a : Nat} {D : Addr} {tests : List (Option V) → List O → Option (Bool × List O)} {emit : List (Option V) → List O → Option (V × List O)}
    (h1 : ∀ loc H b H', tests loc H = some (b, H') → STs X n c env ifs loc H b H') (h2 : ∀ loc H v H', emit loc H = some (v, H') → SE X n c env elt loc H v H') :
    InS X n c env D a (inner1 ifs elt env D) (fun l K => (tests l K).bind fun b => if b.1 then (emit l b.2).bind fun v => addTo a v.1 v.2 else some b.2) := by
  intro loc H H' A h₀ m mu ext imm s Q E hv R I at_ hD hQ
  simp only at hv
  obtain ⟨b, k1, hv⟩ := Option.bind_eq_some_iff.mp hv
  unfold inner1
  refine wpAny_bind (h1 _ _ _ _ k1 R I at_ fun mu1 imm1 s1 a1 g1 => ?_)
  split at hv
  · rename_i hb
    obtain ⟨v, k2, hv⟩ := Option.bind_eq_some_iff.mp hv
    obtain ⟨p, l, e1, e2, e3, rfl⟩ := addTo_some hv
    rw [hb, if_pos rfl]
    unfold emit1
    refine wpAny_bind (h2 _ _ _ _ k2 R I a1 fun mu2 imm2 y s2 a2 g2 r2 => wpAny_bind ?_)
    rw [e1] at r2
    exact wpAny_with_toks a2.tk (op_append a2.st e2 (ok_of e3) (pre_get (g1.trans g2) hD) r2 fun mu3 s3 t3 g3 k3 => wpAny_pure (hQ _ _ _ _ (a2.step t3 k3 g3) ((g1.trans g2).trans g3)))
  · rename_i hb
    cases hv
    have : b.1 = false := by simpa using hb
    rw [this, if_neg (by decide)]
    exact wpAny_pure (hQ _ _ _ _ a1 g1)
theorem notSet {it : PySem.Expr} (h : isSetE it = false) : ∀ (env : Env) (x : Value), foldedSetIterable it env x = pure x := by
  intro env x
  cases it <;> first | rfl | exact no h | exact nob h | cases h
theorem se_comp {elt target iter : PySem.Expr} {ifs : List PySem.Expr} {scope : Scope} {pos : Pos} {fr : List (Option Nat)} {v : V} {ps : List P} {w : Option Nat} {tg : Tg} {K H₁ : List O} {tests : List (Option V) → List O → Option (Bool × List O)} {emit : List (Option V) → List O → Option (V × List O)}
    (eo : EnvOk c env) (hsc : scOk c scope = true) (hset : isSetE iter = false) (hfr : c.frame scope = some fr) (hfo : frOk fr loc = true) (ht : tgtOf (c.inner scope) target = some tg) (hit : SE X n c env iter loc H v H₁) (hi : itemsOf v H₁ = some (ps, w))
    (h1 : ∀ env, EnvOk (c.inner scope) env → ∀ loc H b H', tests loc H = some (b, H') → STs X n (c.inner scope) env ifs loc H b H') (h2 : ∀ env, EnvOk (c.inner scope) env → ∀ loc H v H', emit loc H = some (v, H') → SE X n (c.inner scope) env elt loc H v H')
    (hv : cmpL ps w tg (fun l K => (tests l K).bind fun b => if b.1 then (emit l b.2).bind fun v => addTo H₁.length v.1 v.2 else some b.2) (frOf fr loc) ps (H₁ ++ [.list []]) = some K) :
    SE X n c env (.ListComp elt [⟨target, iter, ifs, 0⟩] scope pos) loc H (.ref H₁.length) (K.take (H₁.length + 1)) := by
  intro A h₀ m mu ext imm s Q E R I a hQ
  have so := scOk_of hsc
  obtain ⟨cl, hc1, hc2⟩ := closure_of (free_cells eo so hfr hfo a.lr)
  rw [eval_ListComp]
  refine wpAny_comprehension_free (g := ⟨target, iter, ifs, 0⟩) (gs := []) rfl (notSet hset env) hc1 so.fn (fun x hx e => lookup_nodup so.nd (by rw [← e]; exact hx)) ?_
  refine hit R I a fun mu1 imm1 y1 s1 a1 g1 r1 => it_iter hi a1.st r1 fun It o h' t2 it2 => ?_
  have a2 : At X c env h₀ m ((It, o) :: ext) loc mu1 imm1 H₁ { s1 with heap := h' } := ⟨t2, a1.tk, a1.lr⟩
  refine comp_run (RR := fun acc C r s' => compPost (model X.prog X.w) A E none Q acc C r s') (inner := inner1 ifs elt) eo so hfr hc2 ht hi R I (fun _ _ => turn1 _ _ _ _ _ _ _ _ _) (fun C D eo' => ins_one (h1 _ eo') (h2 _ eo')) hv a2 it2 fun D C oC mC mu' imm' s' a' hns hD g' => ?_
  refine ⟨mC, hns s' a'.st.getE.1, fun h' hs => hQ _ _ _ _ ⟨a'.st.endE hs.extBut s'.toks, a'.tk, a'.lr⟩ (g1.trans g') ⟨D, hD, rfl⟩⟩

/-- two clauses -/
noncomputable def inner2 (it2 : PySem.Expr) (e : PySem.Expr) (env : Env) (D : Addr) : Sem Unit := eval it2 env >>= fun x => standAt it2.pos >>= fun _ => foldedSetIterable it2 env x >>= fun x => holding [x] (pyIter x) >>= fun it => runOwn (.compStart e 1 it (.ref D) env) env >>= fun _ => pure ()
theorem turn2 (elt t1 i1 t2 i2 : PySem.Expr) (ifs : List PySem.Expr) (scope : Scope) (pos : Pos) (I D : Addr) (cenv : Env) :
    compTurn (.ListComp elt [⟨t1, i1, [], 0⟩, ⟨t2, i2, ifs, 0⟩] scope pos) 0 (.ref I) (.ref D) cenv = (standAt i1.pos >>= fun _ => pyNext (.ref I) >>= fun r => match r with
      | none => pure (.done .next)
      | some v => letOwnedTupleGo t1 (.ref I) v >>= fun _ => assign t1 cenv v >>= fun _ => inner2 i2 (.ListComp elt [⟨t1, i1, [], 0⟩, ⟨t2, i2, ifs, 0⟩] scope pos) cenv D >>= fun _ => again (.compLoop (.ListComp elt [⟨t1, i1, [], 0⟩, ⟨t2, i2, ifs, 0⟩] scope pos) 0 (.ref I) (.ref D) cenv)) := by
  unfold inner2
  simp only [bind_assoc]
  rfl
theorem turn1' (elt t1 i1 t2 i2 : PySem.Expr) (ifs : List PySem.Expr) (scope : Scope) (pos : Pos) (I D : Addr) (cenv : Env) :
    compTurn (.ListComp elt [⟨t1, i1, [], 0⟩, ⟨t2, i2, ifs, 0⟩] scope pos) 1 (.ref I) (.ref D) cenv = (standAt i2.pos >>= fun _ => pyNext (.ref I) >>= fun r => match r with
      | none => pure (.done .next)
      | some v => letOwnedTupleGo t2 (.ref I) v >>= fun _ => assign t2 cenv v >>= fun _ => inner1 ifs elt cenv D >>= fun _ => again (.compLoop (.ListComp elt [⟨t1, i1, [], 0⟩, ⟨t2, i2, ifs, 0⟩] scope pos) 1 (.ref I) (.ref D) cenv)) := by
  have e : compTurn (.ListComp elt [⟨t1, i1, [], 0⟩, ⟨t2, i2, ifs, 0⟩] scope pos) 1 (.ref I) (.ref D) cenv = (do
      standAt i2.pos
      match ← pyNext (.ref I) with
      | none => pure (.done .next)
      | some v =>
        letOwnedTupleGo t2 (.ref I) v
        assign t2 cenv v
        let mut ok := true
        for c in ifs do
          if ok then ok ← isTrue c cenv (eval c cenv)
        if ok then
          (do let _ ← call (.builtin "list.append") [.ref D, ← eval elt cenv])
        again (.compLoop (.ListComp elt [⟨t1, i1, [], 0⟩, ⟨t2, i2, ifs, 0⟩] scope pos) 1 (.ref I) (.ref D) cenv)) := rfl
  rw [e]
  refine bind_congr fun _ => bind_congr fun r => ?_
  cases r with
  | none => rfl
  | some v =>
    refine bind_congr fun _ => bind_congr fun _ => ?_
    unfold inner1 testsOf
    rw [bind_assoc]
    refine bind_congr fun ok => ?_
    cases ok with
    | true => rfl
    | false => simp
theorem compStart2 {elt t1 i1 t2 i2 : PySem.Expr} {ifs : List PySem.Expr} {scope : Scope} {pos : Pos} {it acc : Value} {env : Env} {R : Result → Shared → Prop}
    (h0 : codeAny (model X.prog X.w) A (.compLoop (.ListComp elt [⟨t1, i1, [], 0⟩, ⟨t2, i2, ifs, 0⟩] scope pos) 1 it acc env) R s)
    (h : wpAny (model X.prog X.w) A (pyIter it) (fun it' s' => codeAny (model X.prog X.w) A (.compLoop (.ListComp elt [⟨t1, i1, [], 0⟩, ⟨t2, i2, ifs, 0⟩] scope pos) 1 it' acc env) R s')
      (notedBy (model X.prog X.w) A env fun x s' => R (.error x) s') s) :
    codeAny (model X.prog X.w) A (.compStart (.ListComp elt [⟨t1, i1, [], 0⟩, ⟨t2, i2, ifs, 0⟩] scope pos) 1 it acc env) R s := by
  refine codeAny_of_tree ?_
  show wpAny _ A ((compStart (.ListComp elt [⟨t1, i1, [], 0⟩, ⟨t2, i2, ifs, 0⟩] scope pos) 1 it acc env).onRaise (fun x => do noteFrame x env; standAt theWindowsPlace)) _ _ s
  refine wpAny_notedAt ?_
  unfold compStart
  show wpAny _ _ (ask >>= _) _ _ s
  refine wpAny_bind (wpAny_askSetting (wpAny_ite ?_))
  split
  · first
      | exact wpAny_bind (wpAny_pure (wpAny_pure (And.intro rfl h0)))
      | exact wpAny_pure (And.intro rfl h0)
  · first
      | exact wpAny_bind (wpAny_rule (wpAny_bind (wpAny_standAt (wpAny_bind (wpAny_mono h (fun it' s' h' => wpAny_pure (And.intro rfl h')) fun _ _ x => x)))))
      | (refine wpAny_bind (wpAny_rule ?_); show wpAny _ _ (standAt i2.pos >>= _) _ _ s; exact wpAny_bind (wpAny_standAt (wpAny_bind (wpAny_mono h (fun it' s' h' => wpAny_pure (And.intro rfl h')) fun _ _ x => x))))
theorem Room.mark {A : Around} {n : Nat} (h : Room A n) : Room (A.mark none) n := h
theorem ins_two {elt t1 i1 t2 i2 : PySem.Expr} {ifs : List PySem.Expr} {scope : Scope} {pos : Pos} {a : Nat} {D : Addr} {tg2 : Tg} {src : List (Option V) → List O → Option (V × List O)} {turn : List (Option V) → List O → Option (List O)}
    (eo : EnvOk c env) (hset : isSetE i2 = false) (ht : tgtOf c t2 = some tg2) (h1 : ∀ loc H v H', src loc H = some (v, H') → SE X n c env i2 loc H v H') (h2 : InS X n c env D a (inner1 ifs elt env D) turn) :
    InS X n c env D a (inner2 i2 (.ListComp elt [⟨t1, i1, [], 0⟩, ⟨t2, i2, ifs, 0⟩] scope pos) env D) (fun l K => if tgFree tg2 l then (src l K).bind fun x2 => (itemsOf x2.1 x2.2).bind fun q2 => cmpL q2.1 q2.2 tg2 turn l q2.1 x2.2 else none) := by
  intro loc H H' A h₀ m mu ext imm s Q E hv R I at_ hD hQ
  simp only at hv
  split at hv
  · rename_i hf
    obtain ⟨x2, k1, hv⟩ := Option.bind_eq_some_iff.mp hv
    obtain ⟨q2, k2, hv⟩ := Option.bind_eq_some_iff.mp hv
    unfold inner2
    refine wpAny_bind (h1 _ _ _ _ k1 R I at_ fun mu1 imm1 y1 s1 a1 g1 r1 => ?_)
    refine wpAny_bind (wpAny_standAt ?_)
    rw [notSet hset]
    show wpAny _ _ ((pure y1 : Sem Value) >>= _) _ _ _
    rw [pure_bind]
    refine wpAny_bind (wpAny_holding (it_iter (ps := q2.1) (w := q2.2) k2 a1.st r1 fun It o h' t2' it2 => ?_))
    have a2 : At X c env h₀ m ((It, o) :: ext) loc mu1 imm1 x2.2 { s1 with heap := h' } := ⟨t2', a1.tk, a1.lr⟩
    refine wpAny_bind (wpAny_runOwn (h := none) ?_)
    have fin := cmp_loop (X := X) (A := A.mark none) (R := fun r s' => match r with | .ok f => wpAny (model X.prog X.w) A (pure ()) Q E s' | .error e => cameBackBy (model X.prog X.w) A env E e s') (loc₀ := loc) eo (turn1' elt t1 i1 t2 i2 ifs scope pos It D env) h2 ht (ps := q2.1) (w := q2.2) k2 R.mark I (i := 0) (by simp) rfl hv a2 it2 (pre_get g1 hD) (fun _ => .refl) fun loc' m' mu' imm' s' a' g' l' => wpAny_pure (hQ _ _ _ _ (a'.le (l' hf)) (g1.trans g'))
    exact compStart2 fin (it_self t2' it2 fin)
  · cases hv
theorem se_comp2 {elt t1 i1 t2 i2 : PySem.Expr} {ifs : List PySem.Expr} {scope : Scope} {pos : Pos} {fr : List (Option Nat)} {v : V} {ps : List P} {w : Option Nat} {tg tg2 : Tg} {K H₁ : List O} {tests : List (Option V) → List O → Option (Bool × List O)} {src emit : List (Option V) → List O → Option (V × List O)}
    (eo : EnvOk c env) (hsc : scOk c scope = true) (hset : isSetE i1 = false) (hset2 : isSetE i2 = false) (hfr : c.frame scope = some fr) (hfo : frOk fr loc = true) (ht : tgtOf (c.inner scope) t1 = some tg) (ht2 : tgtOf (c.inner scope) t2 = some tg2) (hit : SE X n c env i1 loc H v H₁) (hi : itemsOf v H₁ = some (ps, w))
    (h0 : ∀ env, EnvOk (c.inner scope) env → ∀ loc H v H', src loc H = some (v, H') → SE X n (c.inner scope) env i2 loc H v H')
    (h1 : ∀ env, EnvOk (c.inner scope) env → ∀ loc H b H', tests loc H = some (b, H') → STs X n (c.inner scope) env ifs loc H b H') (h2 : ∀ env, EnvOk (c.inner scope) env → ∀ loc H v H', emit loc H = some (v, H') → SE X n (c.inner scope) env elt loc H v H')
    (hv : cmpL ps w tg (fun l K => if tgFree tg2 l then (src l K).bind fun x2 => (itemsOf x2.1 x2.2).bind fun q2 => cmpL q2.1 q2.2 tg2 (fun l K => (tests l K).bind fun b => if b.1 then (emit l b.2).bind fun v => addTo H₁.length v.1 v.2 else some b.2) l q2.1 x2.2 else none) (frOf fr loc) ps (H₁ ++ [.list []]) = some K) :
    SE X n c env (.ListComp elt [⟨t1, i1, [], 0⟩, ⟨t2, i2, ifs, 0⟩] scope pos) loc H (.ref H₁.length) (K.take (H₁.length + 1)) := by
  intro A h₀ m mu ext imm s Q E R I a hQ
  have so := scOk_of hsc
  obtain ⟨cl, hc1, hc2⟩ := closure_of (free_cells eo so hfr hfo a.lr)
  rw [eval_ListComp]
  refine wpAny_comprehension_free (g := ⟨t1, i1, [], 0⟩) (gs := [⟨t2, i2, ifs, 0⟩]) rfl (notSet hset env) hc1 so.fn (fun x hx e => lookup_nodup so.nd (by rw [← e]; exact hx)) ?_
  refine hit R I a fun mu1 imm1 y1 s1 a1 g1 r1 => it_iter hi a1.st r1 fun It o h' t2 it2 => ?_
  have a2 : At X c env h₀ m ((It, o) :: ext) loc mu1 imm1 H₁ { s1 with heap := h' } := ⟨t2, a1.tk, a1.lr⟩
  refine comp_run (RR := fun acc C r s' => compPost (model X.prog X.w) A E none Q acc C r s') (inner := inner2 i2 _) eo so hfr hc2 ht hi R I (fun _ _ => turn2 _ _ _ _ _ _ _ _ _ _ _) (fun C D eo' => ins_two eo' hset2 ht2 (h0 _ eo') (ins_one (h1 _ eo') (h2 _ eo'))) hv a2 it2 fun D C oC mC mu' imm' s' a' hns hD g' => ?_
  refine ⟨mC, hns s' a'.st.getE.1, fun h' hs => hQ _ _ _ _ ⟨a'.st.endE hs.extBut s'.toks, a'.tk, a'.lr⟩ (g1.trans g') ⟨D, hD, rfl⟩⟩
end
end Mine
end
section
open PySem PySem.W PyProof.Rows PyProof.V
set_option Elab.async false
set_option maxRecDepth 20000
set_option maxHeartbeats 1000000
namespace Mine
section
variable {X : Wd} {n : Nat} {fa : Nat → Addr} {g : G}

theorem CallS.le {a vs H v H'} (h : CallS X n a vs H v H') : CallS X (n + 1) a vs H v H' := fun _ _ _ _ _ _ _ _ _ _ R => h (R.le (Nat.le_succ n))

noncomputable def SD (X : Wd) (n : Nat) (c : Ce) (env : Env) (g : G) (e : PySem.Expr) (x : E) : Prop :=
  (∀ {loc H v H'}, ev g loc x H = some (v, H') → SE X (n + 1) c env e loc H v H') ∧ (∀ {loc H b H'}, evT g loc x (ev g loc x H) H = some (b, H') → ST X (n + 1) c env e loc H b H')
noncomputable def SndE (X : Wd) (n : Nat) (fa : Nat → Addr) (g : G) (k : Nat) : Prop := ∀ {c : Ce} {env : Env} {e : PySem.Expr} {x : E}, GOk X fa c.gl c.meths c.flds g n → EnvOk c env → tr c k e = some x → SD X n c env g e x

/-! the same, of what is told as equal -/
section
variable {c : Ce} {env : Env} {e : PySem.Expr} {loc : List (Option V)} {H H' H₀ : List O} {v v₀ : V} {x x₀ : E}
theorem ev_of {r : V × List O} (h : some x₀ = some x) (hv : ev g loc x H = some r) : ev g loc x₀ H = some r := Option.some.inj h ▸ hv
theorem sd_of (h : some x₀ = some x) (hv : SD X n c env g e x₀) : SD X n c env g e x := Option.some.inj h ▸ hv
theorem se_of (h : some (v₀, H₀) = some (v, H')) (hv : SE X n c env e loc H v₀ H₀) : SE X n c env e loc H v H' := by cases h; exact hv
theorem se_rf {r : Nat} (h : v.rf = some r) (hv : SE X n c env e loc H v H') : SE X n c env e loc H (.ref r) H' := rf_eq h ▸ hv
theorem se_ob {r : Nat} (h : v.ob = some r) (hv : SE X n c env e loc H v H') : SE X n c env e loc H (.obj r) H' := ob_eq h ▸ hv
theorem se_bm {r : Nat} (h : v.bmr = some r) (hv : SE X n c env e loc H v H') : SE X n c env e loc H (.bm r) H' := bmr_eq h ▸ hv
theorem se_nn {u : Unit} (h : v.nn = some u) (hv : SE X n c env e loc H v H') : SE X n c env e loc H (.p .none) H' := nn_eq h ▸ hv
theorem se_int {i : Int} (h : v.int = some i) (hv : SE X n c env e loc H v H') : SE X n c env e loc H (.p (.int i)) H' := int_eq h ▸ hv
theorem se_pl {p : P} (h : v.pl = some p) (hv : SE X n c env e loc H v H') : SE X n c env e loc H (.p p) H' := pl_eq h ▸ hv
end
/-! forms of the syntax, told back -/
theorem constE_eq {e : PySem.Expr} {k : Const} (h : constE e = some k) : ∃ i p, e = .Constant k i p := by cases e <;> first | exact no h | (cases h; exact ⟨_, _, rfl⟩)
theorem strK_eq {k : Const} {s : Str} (h : strK k = some s) : k = .str s := by cases k <;> first | exact no h | (cases h; rfl)
theorem intK_eq {k : Const} {s : Int} (h : intK k = some s) : k = .int s := by cases k <;> first | exact no h | (cases h; rfl)
theorem litS_eq {e : PySem.Expr} {s : Str} (h : litS e = some s) : ∃ i p, e = .Constant (.str s) i p := bindE h fun _ h1 h2 => by cases strK_eq h2; exact constE_eq h1
theorem litI_eq {e : PySem.Expr} {s : Int} (h : litI e = some s) : ∃ i p, e = .Constant (.int s) i p := bindE h fun _ h1 h2 => by cases intK_eq h2; exact constE_eq h1
theorem slcE_eq {e : PySem.Expr} {q : _} (h : slcE e = some q) : ∃ p, e = .Slice q.1 q.2.1 q.2.2 p := by cases e <;> first | exact no h | (cases h; exact ⟨_, rfl⟩)
theorem slcE_none {e : PySem.Expr} (h : slcE e = none) : isSliceE e = false := by cases e <;> first | rfl | exact no h | exact nob h | cases h
theorem isAddO_eq {o : Operator} (h : isAddO o = true) : o = .Add := by cases o <;> first | rfl | exact no h | exact nob h | cases h
theorem nd {x : Str} (h : (x != ("__debug__" : Str)) = true) : (x == ("__debug__" : Str)) = false := nt h
theorem getC_eq {H : List O} {r : Nat} {x : P} (h : getC H r = some x) : H[r]? = some (.cell (some x)) := bindE h fun o e h => by
  cases o with
  | cell y => cases h; exact e
  | _ => first | exact no h | exact nob h | cases h
theorem evT_plain {x : E} (h : plainX x = true) (loc : List (Option V)) (w : Option (V × List O)) (H : List O) : evT g loc x w H = w.bind fun x => (truV x.1).bind fun b => some (b, x.2) := by
  cases x <;> first | rfl | exact no h | exact nob h | cases h
section
variable {k : Nat} {c : Ce} {env : Env} {es : List PySem.Expr} {xs : List E} {loc : List (Option V)} {H H' : List O}
theorem snd_list (ih : SndE X n fa g k) (G : GOk X fa c.gl c.meths c.flds g n) (eo : EnvOk c env) (h : trArgs (tr c k) es = some xs) {vs : List V} (hv : evs g loc xs H = some (vs, H')) : SEs X (n + 1) c env es loc H vs H' := by
  induction es generalizing xs H vs with
  | nil => cases h; cases hv; exact ses_nil
  | cons e es ie =>
    exact bindE h fun x h1 h => mapE h fun q h2 e => by
      cases e
      exact bindE (o := ev g loc x H) hv fun a k1 hv => bindE hv fun b k2 hv => by cases hv; exact ses_cons ((ih G eo h1).1 k1) (ie h2 k2)
theorem snd_tests (ih : SndE X n fa g k) (G : GOk X fa c.gl c.meths c.flds g n) (eo : EnvOk c env) (h : trArgs (tr c k) es = some xs) {b : Bool} (hv : evC g loc xs H = some (b, H')) : STs X (n + 1) c env es loc H b H' := by
  induction es generalizing xs H with
  | nil => cases h; cases hv; exact sts_nil
  | cons e es ie =>
    exact bindE h fun x h1 h => mapE h fun q h2 e => by
      cases e
      refine bindE (o := evT g loc x (ev g loc x H) H) hv fun a k1 hv => ?_
      obtain ⟨a1, a2⟩ := a
      cases a1 with
      | true => exact sts_cons ((ih G eo h1).2 k1) (fun _ => ie h2 hv) nofun
      | false => cases hv; exact sts_cons ((ih G eo h1).2 k1) nofun fun _ => ⟨rfl, rfl⟩
noncomputable def BO (X : Wd) (n : Nat) (c : Ce) (env : Env) (o : BoolOp) (es : List PySem.Expr) (loc : List (Option V)) (H : List O) (b : Bool) (H' : List O) : Prop := ∀ ⦃A : Around⦄ ⦃h₀ : Heap⦄ ⦃m : Str → Option Value⦄ ⦃mu ext imm : List (Addr × Obj)⦄ ⦃s : Shared⦄ ⦃Q : Bool → Shared → Prop⦄ ⦃E : Value → Shared → Prop⦄,
    Room A (n + 1) → X.In h₀ → At X c env h₀ m ext loc mu imm H s → (∀ mu' imm' s', At X c env h₀ m ext loc mu' imm' H' s' → Gw mu imm mu' imm' → Q b s') → wpAny (model X.prog X.w) A (allTrue o es env) Q E s
theorem snd_and (ih : SndE X n fa g k) (G : GOk X fa c.gl c.meths c.flds g n) (eo : EnvOk c env) (h : trArgs (tr c k) es = some xs) {b : Bool} (hv : evC g loc xs H = some (b, H')) : BO X n c env .And es loc H b H' := by
  induction es generalizing xs H with
  | nil => cases h; cases hv; exact fun _ _ _ _ _ _ _ _ _ _ _ a hQ => wpAny_allTrue_And_nil (hQ _ _ _ a .refl)
  | cons e es ie =>
    exact bindE h fun x h1 h => mapE h fun q h2 e => by
      cases e
      refine bindE (o := evT g loc x (ev g loc x H) H) hv fun a k1 hv => ?_
      obtain ⟨a1, a2⟩ := a
      cases a1 with
      | true => exact fun _ _ _ _ _ _ _ _ _ R I a hQ => wpAny_allTrue_And_cons ((ih G eo h1).2 k1 R I a fun mu1 imm1 s1 a1 g1 => ie h2 hv R I a1 fun mu2 imm2 s2 a2 g2 => hQ _ _ _ a2 (g1.trans g2))
      | false => cases hv; exact fun _ _ _ _ _ _ _ _ _ R I a hQ => wpAny_allTrue_And_cons ((ih G eo h1).2 k1 R I a fun mu1 imm1 s1 a1 g1 => hQ _ _ _ a1 g1)
theorem snd_or (ih : SndE X n fa g k) (G : GOk X fa c.gl c.meths c.flds g n) (eo : EnvOk c env) (h : trArgs (tr c k) es = some xs) {b : Bool} (hv : evD g loc xs H = some (b, H')) : BO X n c env .Or es loc H b H' := by
  induction es generalizing xs H with
  | nil => cases h; cases hv; exact fun _ _ _ _ _ _ _ _ _ _ _ a hQ => wpAny_allTrue_Or_nil (hQ _ _ _ a .refl)
  | cons e es ie =>
    exact bindE h fun x h1 h => mapE h fun q h2 e => by
      cases e
      refine bindE (o := evT g loc x (ev g loc x H) H) hv fun a k1 hv => ?_
      obtain ⟨a1, a2⟩ := a
      cases a1 with
      | false => exact fun _ _ _ _ _ _ _ _ _ R I a hQ => wpAny_allTrue_Or_cons ((ih G eo h1).2 k1 R I a fun mu1 imm1 s1 a1 g1 => ie h2 hv R I a1 fun mu2 imm2 s2 a2 g2 => hQ _ _ _ a2 (g1.trans g2))
      | true => cases hv; exact fun _ _ _ _ _ _ _ _ _ R I a hQ => wpAny_allTrue_Or_cons ((ih G eo h1).2 k1 R I a fun mu1 imm1 s1 a1 g1 => hQ _ _ _ a1 g1)
end
/-- both parts from the first, where the second is the truth of the value -/
theorem both {c : Ce} {env : Env} {e : PySem.Expr} {x : E} (hp : plainT e = true) (hx : plainX x = true)
    (h : ∀ {loc H v H'}, ev g loc x H = some (v, H') → SE X (n + 1) c env e loc H v H') : SD X n c env g e x := by
  refine ⟨h, fun {loc H b H'} hv => ?_⟩
  rw [evT_plain hx] at hv
  exact bindE hv fun y k1 hv => bindE hv fun b' k2 hv => by cases hv; exact st_val hp (h k1) k2
theorem pln_E {o : Option E} {x : E} {C : Prop} (h : pln o = some x) (k : o = some x → plainX x = true → C) : C := bindE h fun y e h => iteE h fun p h => by cases h; exact k e p
theorem dat0 {imm : List (Addr × Obj)} {v : Value} {d : Dat} (h : DatIn [] v d) : DatIn imm v d := h.mono (List.forall_mem_nil _)
theorem lookup_map {a : Str} {b : SM} : ∀ {l : List SM}, (l.map fun b => (smName b, b)).lookup a = some b → a = smName b
  | [], h => by cases h
  | y :: r, h => by
    rw [List.map_cons, List.lookup_cons] at h
    cases e : a == smName y with
    | true => rw [e] at h; cases h; exact eq_of_beq e
    | false => rw [e] at h; exact lookup_map h
theorem sm_name {a : Str} {b : SM} (h : smOf.lookup a = some b) : a = smName b := lookup_map (l := smOf.map Prod.snd) h
section
variable {k : Nat} {c : Ce} {env : Env} {loc : List (Option V)} {H H' : List O} {v : V} {x : E} {y : Str} {pos : Pos}
theorem name_sound (G : GOk X fa c.gl c.meths c.flds g n) (eo : EnvOk c env) (h : trName c y = some x) (hv : ev g loc x H = some (v, H')) : SE X (n + 1) c env (.Name y pos) loc H v H' := by
  refine iteE h fun hd h => bindE h fun kd hk h => ?_
  have hd := nd hd
  cases kd with
  | «local» =>
    exact mapE h fun i hs e => bindE (o := (loc[i]?).join) (ev_of e hv) fun w hl hv => se_of hv fun _ _ _ _ _ _ _ _ _ R I a hQ => a.local_ eo hk hs (join_eq hl) hd fun y hy => hQ _ _ _ _ a .refl hy
  | cell =>
    exact mapE h fun i hs e => bindE (o := (loc[i]?).join) (ev_of e hv) fun w hl hv => bindE hv fun r hr hv => bindE hv fun p hp hv =>
      se_of hv fun _ _ _ _ _ _ _ _ _ R I a hQ => a.cell_ eo hk hs ((join_eq hl).trans (by rw [rf_eq hr])) (getC_eq hp) hd fun y hy => hQ _ _ _ _ a .refl hy
  | globalImplicit =>
    refine bindE h fun z hg h => ?_
    cases z with
    | const p =>
      obtain ⟨v, h1, h2⟩ := G.gv _ _ hg
      exact se_of (ev_of h hv) fun _ _ _ _ _ _ _ _ _ R I a hQ => a.glob_ eo I hk h1 hd (hQ _ _ _ _ a .refl (dat0 h2))
    | tab t =>
      obtain ⟨v, h1, h2⟩ := G.gv _ _ hg
      exact se_of (ev_of h hv) fun _ _ _ _ _ _ _ _ _ R I a hQ => a.glob_ eo I hk h1 hd (hQ _ _ _ _ a .refl ⟨v, h2, rfl⟩)
    | _ => first | exact no h | exact nob h | cases h
  | _ => first | exact no h | exact nob h | cases h
end
section
variable {k : Nat} {c : Ce} {env : Env} {loc : List (Option V)} {H : List O} {r : V × List O} {x : E}
noncomputable def SFs (X : Wd) (n : Nat) (c : Ce) (env : Env) (e : PySem.Expr) (loc : List (Option V)) (H : List O) (r : V × List O) : Prop := ∃ l, r.1 = .p (.str l) ∧ r.2 = H ∧ SF X (n + 1) c env e loc H l
theorem tr_str {s : Str} {i : Nat} {p : Pos} (h : tr c k (.Constant (.str s) i p) = some x) : x = .lit (.str s.cps.toList) := by
  cases k with
  | zero => first | exact no h | exact nob h | cases h
  | succ k => cases h; rfl
theorem tr_loc {y : Str} {p : Pos} (hk : c.kind y = some .local) (hd : (y != ("__debug__" : Str)) = true) (h : tr c k (.Name y p) = some x) : ∃ i, c.slot y = some i ∧ x = .loc i := by
  cases k with
  | zero => first | exact no h | exact nob h | cases h
  | succ k =>
    refine pln_E h fun h _ => ?_
    unfold trName at h
    rw [if_pos hd, hk] at h
    exact mapE h fun i hs e => ⟨i, hs, (Option.some.inj e).symm⟩
theorem locN_eq {e : PySem.Expr} (h : locN c e = true) : ∃ y p, e = .Name y p ∧ c.kind y = some .local ∧ (y != ("__debug__" : Str)) = true := by
  unfold locN at h
  cases q : nameE e with
  | none => rw [q] at h; cases h
  | some y =>
    rw [q] at h
    obtain ⟨p, e⟩ := nameE_eq q
    exact andE h fun h1 h2 => ⟨y, p, e, eq_of_beq h1, h2⟩
theorem freshP_eq {a b : PySem.Expr} (h : freshP c a b = true) : ∃ s i p y q, a = .Constant (.str s) i p ∧ b = .Name y q ∧ s.length ≠ 0 ∧ c.kind y = some .local ∧ (y != ("__debug__" : Str)) = true := by
  unfold freshP at h
  cases q : litS a with
  | none => rw [q] at h; cases h
  | some s =>
    rw [q] at h
    obtain ⟨i, p, e⟩ := litS_eq q
    exact andE h fun h1 h2 => by
      obtain ⟨y, q, e2, h3, h4⟩ := locN_eq h2
      exact ⟨s, i, p, y, q, e, e2, bne_iff_ne.mp h1, h3, h4⟩
theorem add_strL {a : List Nat} {u : V} (h : binV .add (.p (.str a)) u H = some r) : ∃ l, u = .p (.str l) ∧ ok (a.length + l.length) = true ∧ r = (.p (.str (a ++ l)), H) :=
  bindE (o := u.pl) h fun y hy h => bindE (o := y.str?.bind fun b => if ok (a.length + b.length) = true then some (P.str (a ++ b)) else none) h fun z hz h => bindE hz fun l e hz => iteE hz fun hk hz => by
    cases hz
    exact ⟨l, (pl_eq hy).trans (congrArg _ (pstr_eq e)), hk, (Option.some.inj h).symm⟩
theorem add_strR {a : List Nat} {u : V} (h : binV .add u (.p (.str a)) H = some r) : ∃ l, u = .p (.str l) ∧ ok (l.length + a.length) = true ∧ r = (.p (.str (l ++ a)), H) := by
  cases u with
  | p p =>
    refine bindE (o := addP p (.str a)) h fun z hz h => ?_
    cases p with
    | str l =>
      refine iteE (a := some (P.str (l ++ a))) hz fun hk hz => ?_
      cases hz
      exact ⟨l, rfl, hk, (Option.some.inj h).symm⟩
    | int l => first | exact no hz | exact nob hz | cases hz
    | _ => first | exact no hz | exact nob hz | cases hz
  | ref q => exact bindE (o := getL H q) h fun _ _ h => by cases h
  | _ => first | exact no h | exact nob h | cases h
theorem sfL {a b : PySem.Expr} {pos : Pos} {xa xb : E} (eo : EnvOk c env) (hf : freshP c a b = true) (ha : tr c k a = some xa) (hb : tr c k b = some xb) (hv : ev g loc (.bin .add xa xb) H = some r) : SFs X n c env (.BinOp a .Add b pos) loc H r := by
  obtain ⟨s, i, p, y, q, rfl, rfl, h1, h2, h3⟩ := freshP_eq hf
  rw [tr_str ha] at hv
  obtain ⟨j, hs, e⟩ := tr_loc h2 h3 hb
  rw [e] at hv
  refine bindE (o := ev g loc (.loc j) H) hv fun w hw hv => bindE (o := (loc[j]?).join) hw fun u hl hw => ?_
  rw [← Option.some.inj hw] at hv
  obtain ⟨l, e, hk, er⟩ := add_strL hv
  rw [er]
  exact ⟨_, rfl, rfl, sf_addl eo h1 h2 (nd h3) hs ((join_eq hl).trans (congrArg (fun u => some (some u)) e)) hk⟩
theorem sfR {a b : PySem.Expr} {pos : Pos} {xa xb : E} (eo : EnvOk c env) (hf : freshP c b a = true) (ha : tr c k a = some xa) (hb : tr c k b = some xb) (hv : ev g loc (.bin .add xa xb) H = some r) : SFs X n c env (.BinOp a .Add b pos) loc H r := by
  obtain ⟨s, i, p, y, q, rfl, rfl, h1, h2, h3⟩ := freshP_eq hf
  rw [tr_str hb] at hv
  obtain ⟨j, hs, e⟩ := tr_loc h2 h3 ha
  rw [e] at hv
  refine bindE (o := ev g loc (.loc j) H) hv fun w hw hv => bindE (o := (loc[j]?).join) hw fun u hl hw => ?_
  rw [← Option.some.inj hw] at hv
  obtain ⟨l, e, hk, er⟩ := add_strR hv
  rw [er]
  exact ⟨_, rfl, rfl, sf_addr eo h1 h2 (nd h3) hs ((join_eq hl).trans (congrArg (fun u => some (some u)) e)) hk⟩
theorem fresh_sf {e : PySem.Expr} (eo : EnvOk c env) (hf : freshE c e = true) (h : tr c k e = some x) (hv : ev g loc x H = some r) : SFs X n c env e loc H r := by
  cases e with
  | Constant kk i p =>
    obtain ⟨s, hs⟩ := Option.isSome_iff_exists.mp hf
    cases strK_eq hs
    rw [tr_str h] at hv
    exact Option.some.inj hv ▸ ⟨_, rfl, rfl, sf_const rfl⟩
  | BinOp a o b pos =>
    refine andE hf fun ho hf => ?_
    cases isAddO_eq ho
    cases k with
    | zero => first | exact no h | exact nob h | cases h
    | succ k =>
      have h : ((tr c k a).bind fun x => (tr c k b).map fun y => E.bin .add x y) = some x := h
      refine bindE h fun xa ha h => mapE h fun xb hb e => ?_
      rcases Bool.or_eq_true_iff.mp hf with hf | hf
      · exact sfL eo hf ha hb (ev_of e hv)
      · exact sfR eo hf ha hb (ev_of e hv)
  | _ => first | exact no hf | exact nob hf | cases hf
end
end
end Mine
end
section
open PySem PySem.W PyProof.Rows PyProof.V
set_option Elab.async false
set_option maxRecDepth 20000
set_option maxHeartbeats 1000000
namespace Mine
section
variable {X : Wd} {n : Nat} {fa : Nat → Addr} {g : G}
section
variable {k : Nat} {c : Ce} {env : Env} {loc : List (Option V)} {H H' : List O} {v : V} {x : E} {pos : Pos} {es : List PySem.Expr}
theorem opt_sound (ih : SndE X n fa g k) (G : GOk X fa c.gl c.meths c.flds g n) (eo : EnvOk c env) {lo : Option PySem.Expr} {x : Option E} (h : trO (tr c k) lo = some x) {v : Option V} (hv : evo g loc x H = some (v, H')) :
    SB X (n + 1) c env lo loc H v H' := by
  cases lo with
  | none => cases h; cases hv; exact sb_none
  | some e =>
    refine mapE h fun y h1 e => ?_
    cases e
    exact bindE (o := ev g loc y H) hv fun z h2 hv => by cases hv; exact sb_some ((ih G eo h1).1 h2)
theorem evs_len {xs : List E} {vs : List V} (h : evs g loc xs H = some (vs, H')) : vs.length = xs.length := by
  induction xs generalizing H vs with
  | nil => cases h; rfl
  | cons x xs ih => exact bindE (o := ev g loc x H) h fun a _ h => bindE h fun b h2 h => by cases h; exact congrArg (· + 1) (ih h2)
theorem biV_ne {b : BI} {vs : List V} {r : V × List O} (hv : biV b vs H = some r) : vs ≠ [] := by rintro rfl; cases hv
/-- a builtin's plain call -/
theorem bi_sound (eo : EnvOk c env) {y : Str} {b : BI} {px : Pos} {i : String} (hk : c.kind y = some .globalImplicit) (hd : (y == ("__debug__" : Str)) = false) (gv : GVOk X fa y (.bi b i) ∨ GVOk X fa y (.ty b i))
    (hb : ∀ l, biMore b l ↔ l = []) (hp : plainArgs es = true) {vs : List V} {H₁ : List O} (hs : SEs X (n + 1) c env es loc H vs H₁) (hl : vs.length = es.length) (hv : biV b vs H₁ = some (v, H')) : SE X (n + 1) c env (.Call (.Name y px) es [] pos) loc H v H' :=
  se_bi eo hk hd gv hb (fun e => biV_ne hv (List.eq_nil_of_length_eq_zero (hl.trans (by rw [e]; rfl)))) hp hs hv
theorem isIntTy_spec {y : Str} (h : isIntTy c y = true) : (y == ("__debug__" : Str)) = false ∧ c.kind y = some .globalImplicit ∧ ∃ j, c.gl.lookup y = some (.ty .int16 j) :=
  andE h fun h h3 => andE h fun h1 h2 => ⟨nd h1, eq_of_beq h2, by
    cases q : c.gl.lookup y with
    | none => rw [q] at h3; cases h3
    | some z =>
      rw [q] at h3
      cases z with
      | ty b j =>
        cases b with
        | int16 => exact ⟨j, rfl⟩
        | _ => first | exact no h3 | exact nob h3 | cases h3
      | _ => cases h3⟩
theorem star_of {a : PySem.Expr} (hp : plainArgs (a :: es) = true) : isStarE a = false := nt (andE (plain_star hp) fun h _ => h)
theorem arg1 {b : BI} {z1 : V × List O} {z : List V × List O} {r : V × List O} (k1 : some ([z1.1], z1.2) = some z) (hv : biV b z.1 z.2 = some r) : biV b [z1.1] z1.2 = some r := by cases k1; exact hv
noncomputable def CS (X : Wd) (n : Nat) (c : Ce) (env : Env) (g : G) (f : PySem.Expr) (es : List PySem.Expr) (pos : Pos) (x : E) : Prop := ∀ ⦃loc H v H'⦄, ev g loc x H = some (v, H') → SE X (n + 1) c env (.Call f es [] pos) loc H v H'
section
variable (ih : SndE X n fa g k) (G : GOk X fa c.gl c.meths c.flds g n) (eo : EnvOk c env) {y : Str} {px : Pos} (hk : c.kind y = some .globalImplicit) (hd : (y == ("__debug__" : Str)) = false) (hp : plainArgs es = true)
include ih G eo hk hd hp
theorem cs_args {b : BI} (gv : ∃ i, GVOk X fa y (.bi b i) ∨ GVOk X fa y (.ty b i)) (hb : ∀ l, biMore b l ↔ l = []) (h : (trArgs (tr c k) es).map (E.bi b) = some x) : CS X n c env g (.Name y px) es pos x := by
  intro loc H v H' hv
  obtain ⟨i, gv⟩ := gv
  exact mapE h fun xs h1 e => bindE (o := evs g loc xs H) (ev_of e hv) fun z k1 hv => bi_sound eo hk hd gv hb hp (snd_list ih G eo h1 k1) ((evs_len k1).trans (seqO_len h1)) hv
theorem cs_isint {i : String} (hg : c.gl.lookup y = some (.bi .isint i)) (h : trBi c (tr c k) .isint es = some x) : CS X n c env g (.Name y px) es pos x := by
  intro loc H v H' hv
  refine bindE h fun q h1 h => bindE h fun y' h2 h => iteE h fun hc h => mapE h fun a h3 e => ?_
  obtain ⟨py, e2⟩ := nameE_eq h2
  obtain ⟨c1, c2, j, hj⟩ := isIntTy_spec hc
  have e1 := two_eq h1
  rw [e2] at e1
  rw [e1] at hp ⊢
  exact bindE (o := evs g loc [a] H) (ev_of e hv) fun z k1 hv => bindE (o := ev g loc a H) k1 fun z1 k2 k1 => se_isint eo hk hd (G.gv _ _ hg) c2 c1 (G.gv _ _ hj) (star_of hp) ((ih G eo h3).1 k2) (arg1 k1 hv)
theorem cs_int16 {i : String} (hg : c.gl.lookup y = some (.ty .int16 i)) (h : trTy (tr c k) .int16 es = some x) : CS X n c env g (.Name y px) es pos x := by
  intro loc H v H' hv
  refine bindE h fun q h1 h => bindE h fun m h2 h => iteE h fun hc h => mapE h fun a h3 e => ?_
  obtain ⟨k16, p16, e2⟩ := litI_eq h2
  have e1 := two_eq h1
  rw [e2, eq_of_beq hc] at e1
  rw [e1] at hp ⊢
  exact bindE (o := evs g loc [a] H) (ev_of e hv) fun z k1 hv => bindE (o := ev g loc a H) k1 fun z1 k2 k1 => se_int16 eo hk hd (G.gv _ _ hg) (star_of hp) ((ih G eo h3).1 k2) (arg1 k1 hv)
theorem cs_gl {z : GV} (hg : c.gl.lookup y = some z) (h : trGl c (tr c k) z es = some x) : CS X n c env g (.Name y px) es pos x := by
  cases z with
  | defn i =>
    intro loc H v H' hv
    exact mapE h fun xs h1 e => bindE (o := evs g loc xs H) (ev_of e hv) fun z k1 hv => se_cal eo hk hd (G.gv _ _ hg) hp (snd_list ih G eo h1 k1) (CallS.le (G.call _ _ _ _ _ hv))
  | cls at_ =>
    intro loc H v H' hv
    exact mapE h fun xs h1 e => bindE (o := evs g loc xs H) (ev_of e hv) fun z k1 hv => bindE hv fun q k2 hv => bindE hv fun _ k3 hv =>
      se_of hv (se_new G.cls eo hk hd (G.gv _ _ hg) hp (snd_list ih G eo h1 k1) (nn_eq k3 ▸ G.call _ _ _ q.1 q.2 k2))
  | bi b i =>
    cases b with
    | isint => exact cs_isint ih G eo hk hd hp hg h
    | int16 => first | exact no h | exact nob h | cases h
    | _ => exact cs_args ih G eo hk hd hp ⟨i, .inl (G.gv _ _ hg)⟩ (fun _ => Iff.rfl) h
  | ty b i =>
    cases b with
    | int16 => exact cs_int16 ih G eo hk hd hp hg h
    | isint => first | exact no h | exact nob h | cases h
    | _ => exact cs_args ih G eo hk hd hp ⟨i, .inr (G.gv _ _ hg)⟩ (fun _ => Iff.rfl) h
  | _ => first | exact no h | exact nob h | cases h
end
section
variable (ih : SndE X n fa g k) (G : GOk X fa c.gl c.meths c.flds g n) (eo : EnvOk c env) (hp : plainArgs es = true)
include ih G eo hp
theorem cs_name {y : Str} {px : Pos} (h : trCallN c (tr c k) (.Name y px) y es = some x) : CS X n c env g (.Name y px) es pos x := by
  intro loc H v H' hv
  refine iteE h fun hd h => bindE h fun kd hk h => ?_
  have hd := nd hd
  cases kd with
  | «local» =>
    refine bindE h fun e h0 h => bindE h fun a h1 h => mapE h fun b h2 e => ?_
    rw [one_eq h0] at hp ⊢
    exact bindE (o := ev g loc a H) (ev_of e hv) fun z1 k1 hv => bindE hv fun z2 k2 hv => bindE hv fun r hr hv => bindE hv fun K k3 hz => se_of hz (se_app hp (se_bm hr ((ih G eo h1).1 k1)) ((ih G eo h2).1 k2) k3)
  | globalImplicit => exact bindE h fun z hg h => cs_gl ih G eo hk hd hp hg h hv
  | _ => first | exact no h | exact nob h | cases h
variable {o : PySem.Expr} {apos : Pos} (hc : isCallE o = false) (hl : apos.endLine = pos.line)
include hc hl
theorem cs_mth {a : Str} (h : ((c.meths.lookup a).bind fun f => (tr c k o).bind fun o => (trArgs (tr c k) es).map (E.mth f a o)) = some x) : CS X n c env g (.Attribute o a apos) es pos x := by
  intro loc H v H' hv
  exact bindE h fun f hf h => bindE h fun o' h1 h => mapE h fun xs h2 e => bindE (o := ev g loc o' H) (ev_of e hv) fun z k1 hv => bindE hv fun r hr hv => bindE hv fun fs k2 hv => iteE hv fun hnf hv => bindE hv fun q k3 hz =>
    se_mth G.cls (G.meth _ _ hf) hc hl hp (se_ob hr ((ih G eo h1).1 k1)) k2 (Option.isNone_iff_eq_none.mp hnf) (snd_list ih G eo h2 k3) (CallS.le (G.call _ _ _ _ _ hz))
omit ih G eo hp hc hl in
theorem rep_inv {tabs : Nat → List P} {v1 : V} {ly lz : List Nat} {K : List O} {r : V × List O} (hw : smV tabs .replace v1 [.p (.str ly), .p (.str lz)] K = some r) : ∃ l, v1 = .p (.str l) ∧ ok ((l.length + 1) * (lz.length + 1)) = true ∧ ly ≠ [] ∧ some (V.p (.str (joinL lz (splitG ly 0 l))), K) = some r := by
  cases v1 with
  | p p =>
    refine bindE (o := p.str?) hw fun l hpl hw => iteE (a := some (V.p (.str (joinL lz (splitG ly 0 l))), K)) hw fun hk hw => andE hk fun hk1 hk2 => ⟨l, congrArg _ (pstr_eq hpl), hk1, ?_, hw⟩
    rintro rfl
    cases hk2
  | ref r => exact bindE (o := getL K r) hw fun _ _ h => by cases h
  | _ => first | exact no hw | exact nob hw | cases hw
omit ih G eo hp hc hl in
theorem evs2 {x y : E} {loc : List (Option V)} {H : List O} {q : List V × List O} (h : evs g loc [x, y] H = some q) {C : List V → List O → Prop} (k : ∀ a b, ev g loc x H = some a → ev g loc y a.2 = some b → C [a.1, b.1] b.2) : C q.1 q.2 :=
  bindE (o := ev g loc x H) h fun a k1 h => bindE (o := evs g loc [y] a.2) h fun w h2 h => bindE (o := ev g loc y a.2) h2 fun b k2 h2 => by
    cases h
    cases h2
    exact k a b k1 k2
omit ih G eo hp hc hl in
theorem args2 {t : PySem.Expr → Option E} {y z : PySem.Expr} {xs : List E} (h : trArgs t [y, z] = some xs) : ∃ y' z', xs = [y', z'] ∧ t y = some y' ∧ t z = some z' := by
  obtain ⟨y', q1, t1, t2, rfl⟩ := seqO_cons h
  obtain ⟨z', q2, t3, t4, rfl⟩ := seqO_cons t2
  cases t4
  exact ⟨y', z', rfl, t1, t3⟩
omit ih G eo hp hc hl in
theorem two_of {as : List PySem.Expr} (h : (as.length == 2) = true) : ∃ y z, as = [y, z] := by
  match as, h with
  | [y, z], _ => exact ⟨y, z, rfl⟩
theorem cs_rep (hn : nsIn X.K cStatics sharingNotToldKey = some none) (hr : (es.length == 2 && es.all (freshE c)) = true) {o' : E} {xs : List E} (h1 : tr c k o = some o') (h2 : trArgs (tr c k) es = some xs) : CS X n c env g (.Attribute o (smName .replace) apos) es pos (.sm .replace o' xs) := by
  intro loc H v H' hv
  refine andE hr fun hr1 hr2 => ?_
  obtain ⟨y, z, rfl⟩ := two_of hr1
  obtain ⟨y', z', rfl, t1, t3⟩ := args2 h2
  refine andE hr2 fun f1 hr2 => andE hr2 fun f2 _ => ?_
  refine bindE (o := ev g loc o' H) hv fun u k1 hv => iteE hv fun _ hv => bindE hv fun q k2 hw => ?_
  refine evs2 (C := fun vs K => smV g.tabs .replace u.1 vs K = some (v, H') → _) k2 (fun a b k3 k5 hw => ?_) hw
  obtain ⟨ly, e1, e2, g1⟩ := fresh_sf (X := X) (n := n) eo f1 t1 k3
  rw [e2] at k5
  obtain ⟨lz, e3, e4, g2⟩ := fresh_sf (X := X) (n := n) eo f2 t3 k5
  rw [e1, e3, e4] at hw
  obtain ⟨l, e, hk1, hk2, hz⟩ := rep_inv hw
  exact se_of hz (se_replace hn hc hl hp (e ▸ (ih G eo h1).1 (v := u.1) (H' := u.2) k1) g1 g2 hk1 hk2)
theorem cs_attr (hn : nsIn X.K cStatics sharingNotToldKey = some none) {a : Str} (h : trCallM c (tr c k) o a es = some x) : CS X n c env g (.Attribute o a apos) es pos x := by
  intro loc H v H' hv
  unfold trCallM at h
  cases hb : smOf.lookup a with
  | none => rw [hb] at h; exact cs_mth ih G eo hp hc hl h hv
  | some b =>
    rw [hb] at h
    refine iteE h fun hr h => bindE h fun o' h1 h => mapE h fun xs h2 e => ?_
    have hv := ev_of e hv
    cases sm_name hb
    by_cases hbr : b = .replace
    · cases hbr
      exact cs_rep ih G eo hp hc hl hn hr h1 h2 hv
    · refine bindE (o := ev g loc o' H) hv fun z k1 hv => iteE hv fun hrec hv => bindE hv fun q k2 hw => ?_
      refine se_sm G.tabs hbr hc hl hp ((ih G eo h1).1 k1) (snd_list ih G eo h2 k2) hw fun r hr => ?_
      rw [hr] at hrec
      exact Option.isSome_iff_exists.mp hrec
end
theorem call_sound (ih : SndE X n fa g k) (G : GOk X fa c.gl c.meths c.flds g n) (eo : EnvOk c env) (hn : nsIn X.K cStatics sharingNotToldKey = some none) (hp : plainArgs es = true) {f : PySem.Expr} (h : trCall c (tr c k) f es pos = some x) : CS X n c env g f es pos x := by
  intro loc H v H' hv
  cases f with
  | Name y px => exact cs_name ih G eo hp h hv
  | Attribute o a apos => exact iteE h fun hc h => andE hc fun hc hl => cs_attr ih G eo hp (nt hc) (eq_of_beq hl) hn h hv
  | _ => first | exact no h | exact nob h | cases h
end
end
end Mine
end
section
open PySem PySem.W PyProof.Rows PyProof.V
set_option Elab.async false
set_option maxRecDepth 20000
set_option maxHeartbeats 1000000
namespace Mine
section
variable {X : Wd} {n : Nat} {fa : Nat → Addr} {g : G}
section
variable {k : Nat} {c : Ce} {env : Env} {x : E} {pos : Pos}
theorem ident_name {y : Str} {p : Pos} {k : Nat} {z : E} (h : tr c k (.Name y p) = some z) : trName c y = some z := by
  cases k with
  | zero => first | exact no h | exact nob h | cases h
  | succ k => exact pln_E h fun h _ => h
theorem attr_sound (G : GOk X fa c.gl c.meths c.flds g n) (eo : EnvOk c env) {o : PySem.Expr} {a : Str} (h : trAttr c (tr c k) o a = some x) {loc H v H'} (hv : ev g loc x H = some (v, H')) :
    SE X (n + 1) c env (.Attribute o a pos) loc H v H' := by
  refine bindE h fun y h0 h => iteE h fun hd h => bindE h fun kd hk h => ?_
  obtain ⟨px, rfl⟩ := nameE_eq h0
  have hd := nd hd
  cases kd with
  | globalImplicit =>
    refine bindE h fun at_ hg h => mapE h fun p hp e => ?_
    have hg : c.gl.lookup y = some (.cls at_) := by
      cases q : c.gl.lookup y with
      | none => rw [q] at hg; cases hg
      | some z =>
        rw [q] at hg
        cases z with
        | cls w => cases hg; rfl
        | _ => first | exact no hg | exact nob hg | cases hg
    exact se_of (ev_of e hv) (se_cattr eo hk hd (G.gv _ _ hg) hp)
  | «local» =>
    refine iteB h (fun ha h => mapE h fun z h1 e => ?_) fun _ h => iteE h fun hf h => mapE h fun z h1 e => ?_
    · rw [eq_of_beq ha]
      exact bindE (o := ev g loc z H) (ev_of e hv) fun q k1 hv => bindE hv fun r hr hv => bindE hv fun l k2 hz => se_of hz (se_bnd (se_rf hr (name_sound G eo (ident_name h1) k1)) k2)
    · exact bindE (o := ev g loc z H) (ev_of e hv) fun q k1 hv => bindE hv fun u k2 hw => bindE k2 fun r hr k2 => bindE k2 fun fs k3 k2 => mapE k2 fun p k4 e =>
        se_of hw (Option.some.inj e ▸ se_fld G.cls (G.fld _ (List.contains_iff_mem.mp hf)) (se_ob hr (name_sound G eo (ident_name h1) k1)) k3 k4)
  | _ => first | exact no h | exact nob h | cases h
/-- what a comprehension's evaluation says -/
theorem genOf_eq {a : Comprehension} {q : CG} (h : genOf a = some q) : a = ⟨q.tg, q.it, q.ifs, 0⟩ ∧ isSetE q.it = false := by
  obtain ⟨t, it, ifs, w⟩ := a
  refine iteE h fun hk h => andE hk fun h1 h2 => ?_
  cases h
  cases eq_of_beq h1
  exact ⟨rfl, nt h2⟩
theorem comp_inv {t ti : PySem.Expr → Option E} {elt : PySem.Expr} {gs : List Comprehension} {sc : Scope} (h : trComp c t ti elt gs sc = some x) {loc : List (Option V)} {H : List O} {r : V × List O} (hv : ev g loc x H = some r) {C : List Comprehension → V × List O → Prop}
    (k1 : ∀ {q : CG} {fr tg it cs el z1 z2 K}, scOk c sc = true → isSetE q.it = false → c.frame sc = some fr → frOk fr loc = true → tgtOf (c.inner sc) q.tg = some tg → t q.it = some it → trArgs ti q.ifs = some cs → ti elt = some el →
      ev g loc it H = some z1 → itemsOf z1.1 z1.2 = some z2 → cmpL z2.1 z2.2 tg (fun l K => (evC g l cs K).bind fun b => if b.1 then (ev g l el b.2).bind fun v => addTo z1.2.length v.1 v.2 else some b.2) (frOf fr loc) z2.1 (z1.2 ++ [.list []]) = some K → C [⟨q.tg, q.it, q.ifs, 0⟩] (.ref z1.2.length, K.take (z1.2.length + 1)))
    (k2 : ∀ {q w : CG} {fr tg it tg2 it2 cs el z1 z2 K}, scOk c sc = true → isSetE q.it = false → isSetE w.it = false → c.frame sc = some fr → frOk fr loc = true → tgtOf (c.inner sc) q.tg = some tg → t q.it = some it → tgtOf (c.inner sc) w.tg = some tg2 → ti w.it = some it2 → trArgs ti w.ifs = some cs → ti elt = some el →
      ev g loc it H = some z1 → itemsOf z1.1 z1.2 = some z2 → cmpL z2.1 z2.2 tg (fun l K => if tgFree tg2 l then (ev g l it2 K).bind fun x2 => (itemsOf x2.1 x2.2).bind fun q2 => cmpL q2.1 q2.2 tg2 (fun l K => (evC g l cs K).bind fun b => if b.1 then (ev g l el b.2).bind fun v => addTo z1.2.length v.1 v.2 else some b.2) l q2.1 x2.2 else none) (frOf fr loc) z2.1 (z1.2 ++ [.list []]) = some K →
      C [⟨q.tg, q.it, [], 0⟩, ⟨w.tg, w.it, w.ifs, 0⟩] (.ref z1.2.length, K.take (z1.2.length + 1))) : C gs r := by
  refine iteE h fun hs h' => bindE h' fun fr q1 h2 => ?_
  clear h h'
  cases gs with
  | nil => first | exact no h2 | exact nob h2 | cases h2
  | cons a gs =>
    refine bindE h2 fun q ha h => ?_
    clear h2
    obtain ⟨rfl, hset⟩ := genOf_eq ha
    cases gs with
    | nil =>
      refine bindE h fun tg q2 h => bindE h fun it q3 h => bindE h fun cs q4 h => mapE h fun el q5 e => ?_
      cases e
      refine iteE hv fun hfo hv => bindE hv fun z1 p1 hv => bindE hv fun z2 p2 hv => bindE hv fun K p3 hz => ?_
      cases hz
      exact k1 hs hset q1 hfo q2 q3 q4 q5 p1 p2 p3
    | cons b gs =>
      refine bindE h fun d hb h => bindE h fun w hw h => bindE h fun _ h0 h => bindE h fun tg q2 h => bindE h fun it q3 h => bindE h fun tg2 q4 h => bindE h fun it2 q5 h => bindE h fun cs q6 h => mapE h fun el q7 e => ?_
      cases e
      refine iteE hv fun hfo hv => bindE hv fun z1 p1 hv => bindE hv fun z2 p2 hv => bindE hv fun K p3 hz => ?_
      cases hz
      rw [one_eq hb]
      obtain ⟨rfl, hset2⟩ := genOf_eq hw
      rw [nul_eq h0]
      exact k2 hs hset hset2 q1 hfo q2 q3 q4 q5 q6 q7 p1 p2 p3
section
variable (ih : SndE X n fa g k) (G : GOk X fa c.gl c.meths c.flds g n) (eo : EnvOk c env)
include ih G eo
theorem sd_bin {l r : PySem.Expr} {op : Operator} (h : ((bopOf op).bind fun o => (tr c k l).bind fun a => (tr c k r).map fun b => E.bin o a b) = some x) : SD X n c env g (.BinOp l op r pos) x := by
  exact bindE h fun o ho h => bindE h fun a h1 h => mapE h fun b h2 e => sd_of e <| both rfl rfl fun {loc H v H'} hv => bindE (o := ev g loc a H) hv fun z1 k1 hv => bindE hv fun z2 k2 hv => se_bin ho ((ih G eo h1).1 k1) ((ih G eo h2).1 k2) hv
theorem sd_un {e : PySem.Expr} {op : UnaryOp} (h : trUn op (tr c k e) = some x) : SD X n c env g (.UnaryOp op e pos) x := by
  cases op with
  | Not =>
    refine mapE h fun a h1 e => ?_
    cases e
    exact And.intro (fun {loc H v H'} hv => by cases hv) fun {loc H b H'} hv => bindE (o := evT g loc a (ev g loc a H) H) hv fun z1 k1 hv => by cases hv; exact st_not ((ih G eo h1).2 k1)
  | USub =>
    exact mapE h fun a h1 e => sd_of e <| both rfl rfl fun {loc H v H'} hv => bindE (o := ev g loc a H) hv fun z1 k1 hv => bindE hv fun i hi hz => se_of hz (se_neg (se_int hi ((ih G eo h1).1 k1)))
  | _ => first | exact no h | exact nob h | cases h
theorem sd_cmp {l r : PySem.Expr} {op : CmpOp} (h : (if !isSetE r then (tr c k l).bind fun a => (tr c k r).map fun b => E.cmp (copOf op) a b else none) = some x) : SD X n c env g (.Compare l [op] [r] pos) x := by
  refine iteE h fun hs h => bindE h fun a h1 h => mapE h fun b h2 e => ?_
  have hs := nt hs
  cases e
  refine And.intro (fun {loc H v H'} hv => bindE (o := ev g loc a H) hv fun z1 k1 hv => bindE hv fun z2 k2 hv => bindE hv fun b' k3 hv => ?_) fun {loc H v H'} hv => bindE (o := ev g loc (.cmp (copOf op) a b) H) hv fun z k0 hv => bindE (o := ev g loc a H) k0 fun z1 k1 k0 => bindE k0 fun z2 k2 k0 => bindE k0 fun b' k3 k0 => ?_
  · cases hv
    exact se_cmp hs ((ih G eo h1).1 k1) ((ih G eo h2).1 k2) k3
  · cases k0
    cases hv
    exact st_cmp hs ((ih G eo h1).1 k1) ((ih G eo h2).1 k2) k3
theorem sd_bo {es : List PySem.Expr} {op : BoolOp} (h : trBo op (trArgs (tr c k) es) = some x) : SD X n c env g (.BoolOp op es pos) x := by
  cases op with
  | And =>
    refine mapE h fun xs h1 e => ?_
    cases e
    exact And.intro (fun {loc H v H'} hv => by cases hv) fun {loc H b H'} hv _ _ _ _ _ _ _ _ _ R I a0 hQ => wpAny_isTrue_BoolOp (snd_and ih G eo h1 hv R I a0 hQ)
  | Or =>
    refine mapE h fun xs h1 e => ?_
    cases e
    exact And.intro (fun {loc H v H'} hv => by cases hv) fun {loc H b H'} hv _ _ _ _ _ _ _ _ _ R I a0 hQ => wpAny_isTrue_BoolOp (snd_or ih G eo h1 hv R I a0 hQ)
theorem sd_ife {t a b : PySem.Expr} (h : ((tr c k t).bind fun t => (tr c k a).bind fun a => (tr c k b).map fun b => E.ife t a b) = some x) : SD X n c env g (.IfExp t a b pos) x := by
  refine bindE h fun t' h1 h => bindE h fun a' h2 h => mapE h fun b' h3 e => ?_
  cases e
  refine And.intro (fun {loc H v H'} hv => bindE (o := evT g loc t' (ev g loc t' H) H) hv fun z1 k1 hv => ?_) fun {loc H b H'} hv => by cases hv
  obtain ⟨z, H1⟩ := z1
  cases z with
  | true => exact se_ife ((ih G eo h1).2 k1) (fun _ => (ih G eo h2).1 hv) nofun
  | false => exact se_ife ((ih G eo h1).2 k1) nofun fun _ => (ih G eo h3).1 hv
theorem sd_tup {es : List PySem.Expr} {i : Nat} (h : (if plainS es then (trArgs (tr c k) es).map E.tup else none) = some x) : SD X n c env g (.Tuple es i pos) x := by
  exact iteE h fun hst h => mapE h fun xs h1 e => sd_of e <| both rfl rfl fun {loc H v H'} hv => bindE (o := evs g loc xs H) hv fun z1 k1 hv => bindE hv fun ps k2 hv => iteE hv fun hk hv => se_of hv (se_tup hst (snd_list ih G eo h1 k1) k2 hk)
theorem sd_lst {es : List PySem.Expr} (h : (if plainS es then (trArgs (tr c k) es).map E.lst else none) = some x) : SD X n c env g (.List es pos) x := by
  exact iteE h fun hst h => mapE h fun xs h1 e => sd_of e <| both rfl rfl fun {loc H v H'} hv => bindE (o := evs g loc xs H) hv fun z1 k1 hv => bindE hv fun ps k2 hv => iteE hv fun hk hv => se_of hv (se_lst hst (snd_list ih G eo h1 k1) k2 hk)
theorem sd_sub {v i : PySem.Expr} (h : trSub (tr c k) v i = some x) : SD X n c env g (.Subscript v i pos) x := by
  unfold trSub at h
  cases q : slcE i with
  | none =>
    rw [q] at h
    exact bindE h fun a h1 h => mapE h fun b h2 e => sd_of e <| both rfl rfl fun {loc H v H'} hv => bindE (o := ev g loc a H) hv fun z1 k1 hv => bindE hv fun z2 k2 hv => bindE hv fun r k3 hv => se_of hv (se_idx G.tabs (slcE_none q) ((ih G eo h1).1 k1) ((ih G eo h2).1 k2) k3)
  | some w =>
    rw [q] at h
    obtain ⟨p, e⟩ := slcE_eq q
    refine iteE h fun hst h => bindE h fun a h1 h => bindE h fun lo h2 h => mapE h fun hi h3 e2 => ?_
    rw [e, Option.isNone_iff_eq_none.mp hst]
    exact sd_of e2 <| both rfl rfl fun {loc H v H'} hv => bindE (o := ev g loc a H) hv fun z1 k1 hv => bindE hv fun z2 k2 hv => bindE hv fun z3 k3 hv =>
      se_sl ((ih G eo h1).1 k1) (opt_sound ih G eo h2 k2) (opt_sound ih G eo h3 k3) hv
theorem sd_comp {elt : PySem.Expr} {gs : List Comprehension} {sc : Scope} (h : trComp c (tr c k) (tr (c.inner sc) k) elt gs sc = some x) (hx : plainX x = true) : SD X n c env g (.ListComp elt gs sc pos) x := by
  refine both rfl hx fun {loc H v H'} hv => ?_
  refine comp_inv (C := fun gs r => SE X (n + 1) c env (.ListComp elt gs sc pos) loc H r.1 r.2) h hv (fun hs h0 q1 hfo q2 q3 q4 q5 p1 p2 p3 => ?_) (fun hs h0 h00 q1 hfo q2 q3 q4 q5 q6 q7 p1 p2 p3 => ?_)
  · exact se_comp eo hs h0 q1 hfo q2 ((ih G eo q3).1 p1) p2 (fun env' eo' loc H b H' e => snd_tests ih (c := c.inner _) G eo' q4 e) (fun env' eo' loc H v H' e => (ih (c := c.inner _) G eo' q5).1 e) p3
  · exact se_comp2 eo hs h0 h00 q1 hfo q2 q4 ((ih G eo q3).1 p1) p2 (fun env' eo' loc H v H' e => (ih (c := c.inner _) G eo' q5).1 e) (fun env' eo' loc H b H' e => snd_tests ih (c := c.inner _) G eo' q6 e) (fun env' eo' loc H v H' e => (ih (c := c.inner _) G eo' q7).1 e) p3
end
end
theorem tr_sound (hn : nsIn X.K cStatics sharingNotToldKey = some none) (k : Nat) : SndE X n fa g k := by
  induction k with
  | zero => intro c env e x _ _ h; cases h
  | succ k ih =>
    intro c env e x G eo h
    cases e with
    | Constant kk i p =>
      refine mapE h fun p hp e => ?_
      cases e
      exact both rfl rfl fun hv => by cases hv; exact se_const hp
    | Name y p => exact pln_E h fun h hx => both rfl hx fun hv => name_sound G eo h hv
    | BinOp l o r p => exact sd_bin ih G eo h
    | UnaryOp o e p => exact sd_un ih G eo h
    | Compare l os rs p =>
      refine bindE h fun o h0 h => bindE h fun r h1 h => ?_
      rw [one_eq h0, one_eq h1]
      exact sd_cmp ih G eo h
    | BoolOp o es p => exact sd_bo ih G eo h
    | IfExp t a b p => exact sd_ife ih G eo h
    | Tuple es i p => exact sd_tup ih G eo h
    | List es p => exact sd_lst ih G eo h
    | Subscript v i p => exact sd_sub ih G eo h
    | Attribute v a p => exact pln_E h fun h hx => both rfl hx fun hv => attr_sound G eo h hv
    | Call f as ks p =>
      refine bindE h fun _ h0 h => iteE h fun hp h => pln_E h fun h hx => ?_
      rw [nul_eq h0]
      exact both rfl hx fun hv => call_sound ih G eo hn hp h hv
    | ListComp elt gs sc p => exact pln_E h fun h hx => sd_comp ih G eo h hx
    | _ => first | exact no h | exact nob h | cases h
end
end Mine
end
section
open PySem PySem.W PyProof.Rows PyProof.V
set_option Elab.async false
set_option genSizeOf false
set_option maxRecDepth 20000
namespace Mine
inductive FlRel (X : Wd) (imm : List (Addr × Obj)) (ad : List Addr) : Fl → Flow → Prop
  | next : FlRel X imm ad .next .next
  | brk : FlRel X imm ad .brk .brk
  | cont : FlRel X imm ad .cont .cont
  | ret {v : V} {y : Value} : VRel X imm ad v y → FlRel X imm ad (.ret v) (.ret y)
/-- a statement -/
noncomputable def SS (X : Wd) (n : Nat) (c : Ce) (env : Env) (st : Stmt) (loc : List (Option V)) (H : List O) (z : Fl × List (Option V) × List O) : Prop :=
  ∀ ⦃A : Around⦄ ⦃h₀ : Heap⦄ ⦃m : Str → Option Value⦄ ⦃mu ext imm : List (Addr × Obj)⦄ ⦃s : Shared⦄ ⦃Q : Flow → Shared → Prop⦄ ⦃E : Value → Shared → Prop⦄,
    Room A n → X.In h₀ → At X c env h₀ m ext loc mu imm H s →
    (∀ m' mu' imm' f s', At X c env h₀ m' ext z.2.1 mu' imm' z.2.2 s' → Gw mu imm mu' imm' → FlRel X imm' (mu'.map Prod.fst) z.1 f → Q f s') →
    wpAny (model X.prog X.w) A (exec st env) Q E s
/-- a block -/
noncomputable def SX (X : Wd) (n : Nat) (c : Ce) (env : Env) (b : List Stmt) (loc : List (Option V)) (H : List O) (z : Fl × List (Option V) × List O) : Prop :=
  ∀ ⦃A : Around⦄ ⦃h₀ : Heap⦄ ⦃m : Str → Option Value⦄ ⦃mu ext imm : List (Addr × Obj)⦄ ⦃s : Shared⦄ ⦃Q : Flow → Shared → Prop⦄ ⦃E : Value → Shared → Prop⦄,
    Room A n → X.In h₀ → At X c env h₀ m ext loc mu imm H s →
    (∀ m' mu' imm' f s', At X c env h₀ m' ext z.2.1 mu' imm' z.2.2 s' → Gw mu imm mu' imm' → FlRel X imm' (mu'.map Prod.fst) z.1 f → Q f s') →
    wpAny (model X.prog X.w) A (execs b env) Q E s
section
variable {X : Wd} {n : Nat} {c : Ce} {env : Env} {loc loc' : List (Option V)} {H H' H₀ : List O} {A : Around} {h₀ : Heap} {L : Addr} {m : Str → Option Value} {mu ext imm : List (Addr × Obj)} {s : Shared} {E : Value → Shared → Prop}
theorem sx_nil : SX X n c env [] loc H (.next, loc, H) := by
  intro A h₀ m mu ext imm s Q E R I a hQ
  exact wpAny_execs_nil (hQ _ _ _ _ _ a .refl .next)
theorem vb_le : ∀ {loc : List (Option V)} {i : Nat} {v : V}, loc[i]? = some (some v) → vb v ≤ lb loc
  | [], i, v, h => by simp at h
  | none :: r, 0, v, h => by simp at h
  | none :: r, i + 1, v, h => by
    have := vb_le (loc := r) (i := i) (v := v) (by simpa using h)
    simpa [lb] using this
  | some u :: r, 0, v, h => by
    simp at h
    subst h
    exact Nat.le_max_left _ _
  | some u :: r, i + 1, v, h => by
    have := vb_le (loc := r) (i := i) (v := v) (by simpa using h)
    exact Nat.le_trans this (Nat.le_max_right _ _)
theorem VRel.take {X : Wd} {imm : List (Addr × Obj)} {ad : List Addr} {v : V} {y : Value} {k : Nat} (h : VRel X imm ad v y) (hk : vb v ≤ k) : VRel X imm (ad.take k) v y := by
  cases v with
  | p x => exact h
  | ref r => obtain ⟨a, e, q⟩ := h; exact ⟨a, by rw [List.getElem?_take_of_lt (show r < k from hk)]; exact e, q⟩
  | obj r => obtain ⟨a, d, e, q⟩ := h; exact ⟨a, d, by rw [List.getElem?_take_of_lt (show r < k from hk)]; exact e, q⟩
  | bm r => obtain ⟨a, d, e, q⟩ := h; exact ⟨a, d, by rw [List.getElem?_take_of_lt (show r < k from hk)]; exact e, q⟩
  | rng a b => exact h
  | glob g => exact h
  | fix ps => exact h
theorem At.trunc {X c env h₀ m ext loc mu imm H s} (a : At X c env h₀ m ext loc mu imm H s) {k : Nat} (hk : lb loc ≤ k) : At X c env h₀ m ext loc (mu.take k) imm (H.take k) s := by
  refine ⟨a.st.trunc k, a.tk, fun i v x hv hx => ?_⟩
  have hb := Nat.le_trans (vb_le hv) hk
  obtain ⟨p, q⟩ := a.lr i v x hv hx
  rw [List.map_take]
  refine ⟨fun h => ?_, fun h => ?_⟩
  · obtain ⟨y, e, r⟩ := p h
    exact ⟨y, e, r.take hb⟩
  · obtain ⟨r, c, rfl, f, e⟩ := q h
    exact ⟨r, c, rfl, f, by rw [List.getElem?_take_of_lt (show r < k from hb)]; exact e⟩
theorem sx_cons {st : Stmt} {r : List Stmt} {z z' : Fl × List (Option V) × List O} (h : SS X n c env st loc H z) (hn : z.1 = .next → SX X n c env r z.2.1 (gc H.length z.2.1 z.2.2) z') (ho : z.1 ≠ .next → z' = z) : SX X n c env (st :: r) loc H z' := by
  intro A h₀ m mu ext imm s Q E R I a hQ
  refine wpAny_execs_cons (h R I a fun m1 mu1 imm1 f s1 a1 g1 r1 => ?_)
  obtain ⟨f0, l0, H0⟩ := z
  cases r1 with
  | next =>
    have a2 := a1.trunc (k := max H.length (lb l0)) (Nat.le_max_right _ _)
    have g2 : Gw mu imm (mu1.take (max H.length (lb l0))) imm1 := g1.trunc (by rw [a.st.mr.length]; exact Nat.le_max_left _ _)
    exact hn rfl R I a2 fun m2 mu2 imm2 f s2 a3 g3 r2 => hQ _ _ _ _ _ a3 (g2.trans g3) r2
  | brk => rw [ho (fun e => nomatch e)] at hQ; exact hQ _ _ _ _ _ a1 g1 .brk
  | cont => rw [ho (fun e => nomatch e)] at hQ; exact hQ _ _ _ _ _ a1 g1 .cont
  | ret hr => rw [ho (fun e => nomatch e)] at hQ; exact hQ _ _ _ _ _ a1 g1 (.ret hr)
theorem blockKind_fn (eo : EnvOk c env) : env.blockKind = .function := by
  unfold Env.blockKind
  rw [eo.fn']
  rfl
/-- a value that is no comprehension never swaps -/
theorem swaps_no {v : PySem.Expr} (h : isCompE v = false) (t : Option PySem.Expr) (k : Nat) : swapsWith v t k env = pure false := by
  cases v <;> first | rfl | exact no h | exact nob h | cases h
theorem swaps_list (eo : EnvOk c env) {e : PySem.Expr} {g : List Comprehension} {sc : Scope} {x : Str} {p q : Pos} {k : Nat} : swapsWith (.ListComp e g sc p) (some (.Name x q)) k env = pure (used c x q (.ListComp e g sc p)) := by
  unfold used
  rw [← blockKind_fn eo |>.trans eo.fn.symm, ← eo.kind x]
  rfl
theorem ss_asg {t : PySem.Expr} {pos : Pos} {v : PySem.Expr} {tg : Tg} {u : V} {H₁ : List O} (eo : EnvOk c env) (he : assignEach [t] env = [(false, assign t env)]) (hs : swapsWithSole [t] v pos.line env = pure false) (hw : swappedStores [t] v env = pure none) (ht : tgtOf c t = some tg)
    (hv : SE X n c env v loc H u H₁) (hg : tgt tg u loc H₁ = some (loc', H')) : SS X n c env (.Assign [t] v pos) loc H (.next, loc', H') := by
  intro A h₀ m mu ext imm s Q E R I a hQ
  refine wpAny_Assign_stores (hv R I a fun mu1 imm1 y s1 a1 g1 r1 => ?_) hs hw
  rw [he]
  exact sg_tgt eo ht hg R.1 a1 r1 fun m2 mu2 s2 a2 g2 => hQ _ _ _ _ _ a2 (g1.trans g2) .next
/-- two values to two names, stored in the other order -/
theorem ss_asgS {x y : Str} {p q tp pos : Pos} {k : Nat} {v : PySem.Expr} {i j : Nat} {u w : P} {H₁ : List O} (eo : EnvOk c env) (hs : swapsWithSole [.Tuple [.Name x p, .Name y q] k tp] v pos.line env = pure false)
    (hw : swappedStores [.Tuple [.Name x p, .Name y q] k tp] v env = pure (some [x, y])) (hx : c.kind x = some .local) (hy : c.kind y = some .local) (hi : c.slot x = some i) (hj : c.slot y = some j) (hne : x ≠ y)
    (hv : SE X n c env v loc H (.p (.tup [u, w])) H₁) : SS X n c env (.Assign [.Tuple [.Name x p, .Name y q] k tp] v pos) loc H (.next, (loc.set i (some (.p u))).set j (some (.p w)), H₁) := by
  intro A h₀ m mu ext imm s Q E R I a hQ
  refine Assign_Tuple_swapped (hv R I a fun mu1 imm1 y1 s1 a1 g1 r1 => ?_) hs hw
  obtain ⟨tt, vs, kk, rfl, q1, q2⟩ := DatIn.tupV r1
  have hij : i ≠ j := fun e => by
    subst e
    have h1 := idxS_get hi
    have h2 := idxS_get hj
    rw [h1] at h2
    exact hne (Option.some.inj h2)
  cases q2 with
  | cons d1 q2 =>
    cases q2 with
    | cons d2 q2 =>
      cases q2
      rename_i v1 v2
      have hsz : ([v1, v2] : List Value).toArray.size = 2 := rfl
      have ht : s1.heap.IsTuple tt [v1, v2].toArray := ⟨_, (a1.st.nw _ (List.mem_append_right _ (List.mem_append_right _ q1))).1, rfl, kk, rfl⟩
      refine wpAny_unpackItems_tuple (items := [v1, v2].toArray) R.1 ht fun h' hs' => ?_
      have a2 : At X c env h₀ m ext loc mu1 imm1 H₁ { s1 with heap := h' } := ⟨a1.st.ext0 hs' s1.toks, a1.tk, a1.lr⟩
      show wpAny _ _ (assignInOrder [bindName env y, bindName env x] [v2, v1]) _ _ _
      refine wpAny_assignInOrder_more (wpAny_bindName (a2.storeL eo hy hj (v := .p w) d2 fun m3 s3 a3 => ?_))
      refine wpAny_assignInOrder_more (wpAny_bindName (a3.storeL eo hx hi (v := .p u) d1 fun m4 s4 a4 => ?_))
      refine wpAny_assignInOrder_none (hQ m4 mu1 imm1 _ s4 ?_ g1 .next)
      rw [List.set_comm _ _ (Ne.symm hij)] at a4
      exact a4
theorem assignAll_names (eo : EnvOk c env) {v : V} {y : Value} : ∀ {es : List PySem.Expr} {l : List Nat} {loc : List (Option V)} {m : Str → Option Value} {s : Shared}, seqO (es.map (nmSlot c)) = some l → VRel X imm (mu.map Prod.fst) v y → At X c env h₀ m ext loc mu imm H s →
    ∀ {Q : Unit → Shared → Prop}, (∀ m' s', At X c env h₀ m' ext (l.foldl (fun loc i => loc.set i (some v)) loc) mu imm H s' → Q () s') → wpAny (model X.prog X.w) A (assignAll y (es.map fun e => assign e env)) Q E s := by
  intro es
  induction es with
  | nil => exact fun hl ry a Q hQ => by cases hl; exact wpAny_pure (hQ _ _ a)
  | cons e es ih =>
    intro l loc m s hl ry a Q hQ
    obtain ⟨i, q, h1, h2, rfl⟩ := seqO_cons hl
    obtain ⟨x, pp, rfl, hk, hs⟩ := nmSlot_some h1
    cases es with
    | nil =>
      cases h2
      exact wpAny_assign_Name (a.storeL eo hk hs ry fun m' s' a' => hQ _ _ a')
    | cons e2 es => exact wpAny_bind (m := holding [y] (assign (.Name x pp) env y)) (wpAny_holding (wpAny_assign_Name (a.storeL eo hk hs ry fun m' s' a' => ih h2 ry a' hQ)))
theorem ss_asgM {t t2 : PySem.Expr} {ts : List PySem.Expr} {pos : Pos} {v : PySem.Expr} {l : List Nat} {u : V} (eo : EnvOk c env) (hl : seqO ((t :: t2 :: ts).map (nmSlot c)) = some l) (hv : SE X n c env v loc H u H') :
    SS X n c env (.Assign (t :: t2 :: ts) v pos) loc H (.next, l.foldl (fun loc i => loc.set i (some u)) loc, H') := by
  intro A h₀ m mu ext imm s Q E R I a hQ
  have hw : swappedStores (t :: t2 :: ts) v env = pure none := by
    obtain ⟨i, q, h1, h2, _⟩ := seqO_cons hl
    obtain ⟨x, pp, rfl, _, _⟩ := nmSlot_some h1
    rfl
  refine wpAny_Assign_stores (hv R I a fun mu1 imm1 y s1 a1 g1 r1 => ?_) rfl hw
  rw [assignEach_names hl, List.map_map]
  exact assignAll_names eo hl r1 a1 fun m' s' a' => hQ _ _ _ _ _ a' g1 .next
theorem ss_asgI {o i v : PySem.Expr} {p pos : Pos} {H₁ H₂ H₃ : List O} {x : P} {r : Nat} {k : Int} {l : List P} (hs : swapsWith v (some (.Subscript o i p)) pos.line env = pure false) (hv : SE X n c env v loc H (.p x) H₁) (ho : SE X n c env o loc H₁ (.ref r) H₂) (hi : SE X n c env i loc H₂ (.p (.int k)) H₃)
    (hl : getL H₃ r = some l) (h0 : 0 ≤ k) (hk : k < l.length) (hf : oki k = true) : SS X n c env (.Assign [.Subscript o i p] v pos) loc H (.next, loc, H₃.set r (.list (l.set k.toNat x))) := by
  intro A h₀ m mu ext imm s Q E R I a hQ
  have hf := of_oki hf
  refine wpAny_Assign_Subscript (hv R I a fun mu1 imm1 y1 s1 a1 g1 r1 => ho R I a1 fun mu2 imm2 y2 s2 a2 g2 r2 => hi R I a2 fun mu3 imm3 y3 s3 a3 g3 r3 => ?_) hs
  obtain ⟨ad, vs, n', rfl, e1, d1, l1, m1, i1⟩ := a3.st.ref hl (r2.gw g3)
  cases r3
  have U := a3.st.updOf (listOf (vs.set k.toNat y1).toArray n') e1
  obtain ⟨pre, post, q1, q2, c1, c2⟩ := U.split
  have N := a3.st.nw
  rw [q1] at N
  have z := N (ad, listOf vs.toArray n') (List.mem_append.mpr (.inr (.head _)))
  refine ki_setAt z.1 h0 (by lia) (by simp; lia) ?_
  have N' := ki_turn (fun a => a.setIfInBounds k.toNat y1) (its' := (vs.set k.toNat y1).toArray) (n' := n') N c1 c2 (by simp) (by simp)
  rw [← q2] at N'
  have F := a3.st.fr.change (Heap.SameBut.update s3.heap ad (Obj.mapSeq fun a => a.setIfInBounds k.toNat y1)) z.2.1 z.2.2
  have dd : DatAll imm3 (vs.set k.toNat y1) (dats (l.set k.toNat x)) := by
    have : ∀ {vs : List Value} {l : List P} (j : Nat), DatAll imm3 vs (dats l) → DatAll imm3 (vs.set j y1) (dats (l.set j x)) := by
      intro vs l
      induction l generalizing vs with
      | nil => intro j h; cases h; exact .nil
      | cons p l ih =>
        intro j h
        cases h with
        | cons h1 h2 =>
          cases j with
          | zero => exact .cons (r1.mono (g2.trans g3).im (g2.trans g3).ad) h2
          | succ j => exact .cons h1 (ih j h2)
    exact this _ d1
  exact hQ _ _ _ _ _ (a3.step (a3.st.setL e1 F N' dd s3.toks) a3.tk (gw_set e1)) (((g1.trans g2).trans g3).trans (gw_set e1)) .next
theorem ss_asgF {fa : Nat → Addr} {init : Nat} (CO : ClsOk X fa init) {a : Str} (FO : FldOk X a) {o v : PySem.Expr} {p pos : Pos} {H₁ H₂ : List O} {x : P} {r : Nat} {fs : List (Str × P)} (hs : swapsWith v (some (.Attribute o a p)) pos.line env = pure false) (hv : SE X n c env v loc H (.p x) H₁) (ho : SE X n c env o loc H₁ (.obj r) H₂)
    (hf : getF H₂ r = some fs) (hk : fs.length ≤ 100) : SS X n c env (.Assign [.Attribute o a p] v pos) loc H (.next, loc, H₂.set r (.inst (put fs a x))) := by
  intro A h₀ m mu ext imm s Q E R I a0 hQ
  refine plainObj_wpAny_Assign_Attribute (hv R I a0 fun mu1 imm1 y1 s1 a1 g1 r1 => ho R I a1 fun mu2 imm2 y2 s2 a2 g2 r2 => ?_) hs
  obtain ⟨x', d, es, k, rfl, e1, hfr, hi⟩ := a2.st.obj hf r2
  have hl : (W.getL a es).isSome = true := by
    cases q : fs.lookup a with
    | none => rw [(FRel_get hfr).2 q]; rfl
    | some z => obtain ⟨w, hw, _⟩ := (FRel_get hfr).1 z q; rw [hw]; rfl
  have r1' : DatIn imm2 y1 x.dat := r1.mono g2.im g2.ad
  have hfr' := FRel_put r1' a (PyData.keyHash X.w.params a) (s2.toks + 1) hfr
  have hlen : (putL a (PyData.keyHash X.w.params a) (.str a (s2.toks + 1)) y1 es).length ≤ 1000 := by
    rw [FRel_len hfr']; have := put_len fs a x; lia
  refine set_dict a2.st.fr I.k a2.st.nw hi rfl CO.set_ CO.over FO.taker CO.hasDict hl rfl (a2.st.updOf _ e1) hlen fun h' F N => ?_
  have ix : (x', instObj X.C d) ∈ imm2 := by
    obtain ⟨e, he, ho'⟩ := a2.st.mr.get (getF_some hf)
    cases ho' with
    | inst hm _ =>
      rename_i x0 d0 es0 k0
      rw [e1] at he
      cases he
      obtain ⟨xx, dd, q1, q2, q3⟩ := r2
      rw [List.getElem?_map, e1] at q1
      cases q1
      cases q2
      exact q3
  exact hQ _ _ _ _ _ (a2.step (a2.st.upd e1 F N (.inst ix hfr') (s2.toks + 2)) (Nat.le_add_left 1 (s2.toks + 1)) (gw_set e1)) ((g1.trans g2).trans (gw_set e1)) .next
theorem ss_aug {x : Str} {p pos : Pos} {e : PySem.Expr} {i : Nat} {a b r : P} (eo : EnvOk c env) (hk : c.kind x = some .local) (hi : c.slot x = some i) (hl : loc[i]? = some (some (.p a))) (he : SE X n c env e loc H (.p b) H') (hr : addP a b = some r) :
    SS X n c env (.AugAssign (.Name x p) .Add e pos) loc H (.next, loc.set i (some (.p r)), H') := by
  intro A h₀ m mu ext imm s Q E R I a0 hQ
  obtain ⟨y, hy, ry⟩ := (a0.lr i _ x hl (idxS_get hi)).1 ((eo.kind x).trans hk)
  refine wpAny_AugAssign_Name (wpAny_loadName_local eo.fn' ((eo.kind x).trans hk) a0.st.fr.ns hy (he R I a0 fun mu1 imm1 y1 s1 a1 g1 r1 => ?_))
  have ry' := ry.gw g1
  have fin : ∀ (z : Value) k, DatIn imm1 z r.dat → 1 ≤ k → wpAny (model X.prog X.w) A (storeName env x z) (fun _ => Q .next) E { s1 with toks := k } := fun z k hz hk1 =>
    (a1.step (a1.st.tok k) hk1 .refl).storeL eo hk hi (v := .p r) hz fun m2 s2 a2 => hQ _ _ _ _ _ a2 g1 .next
  cases a with
  | int a =>
    refine bindE hr fun c e hz => ?_
    apply pint_E e r1
    intro t2
    apply datInt ry'
    intro t1
    cases hz
    exact iadd_int (fin _ _ (.int _ _) (Nat.le_add_left _ _))
  | str a =>
    refine bindE hr fun c e hz => iteE hz fun h hz => ?_
    have h := of_ok h
    apply pstr_E e r1
    intro t2
    apply datStr ry'
    intro t1
    cases hz
    refine wpAny_with_toks a1.tk (PyProof.Rows.iadd_str (fun t' k hk => fin _ _ (by rw [S_add]; exact .str _ _) hk) (by rw [S_len, S_len, sizeLine_eq]; lia))
  | _ => first | exact no hr | exact nob hr | cases hr
theorem ss_ex {e : PySem.Expr} {pos : Pos} (eo : EnvOk c env) (hs : swapsWith e none pos.line env = pure false) (he : SE X n c env e loc H (.p .none) H') : SS X n c env (.Expr e pos) loc H (.next, loc, H') := by
  intro A h₀ m mu ext imm s Q E R I a hQ
  refine wpAny_Expr (he R I a fun mu1 imm1 y s1 a1 g1 r1 => ?_) eo.inter hs
  cases r1
  exact hQ _ _ _ _ _ a1 g1 .next
theorem ss_if {t : PySem.Expr} {a b : List Stmt} {pos : Pos} {d : Bool} {H₁ : List O} {z : Fl × List (Option V) × List O} (ht : ST X n c env t loc H d H₁) (ha : d = true → SX X n c env a loc H₁ z) (hb : d = false → SX X n c env b loc H₁ z) : SS X n c env (.If t a b pos) loc H z := by
  intro A h₀ m mu ext imm s Q E R I a0 hQ
  refine wpAny_If (ht R I a0 fun mu1 imm1 s1 a1 g1 => ?_)
  cases d with
  | true => exact ha rfl R I a1 fun m2 mu2 imm2 f s2 a2 g2 r2 => hQ _ _ _ _ _ a2 (g1.trans g2) r2
  | false => exact hb rfl R I a1 fun m2 mu2 imm2 f s2 a2 g2 r2 => hQ _ _ _ _ _ a2 (g1.trans g2) r2
theorem ss_ret {e : PySem.Expr} {pos : Pos} {v : V} (he : SE X n c env e loc H v H') : SS X n c env (.Return (some e) pos) loc H (.ret v, loc, H') := by
  intro A h₀ m mu ext imm s Q E R I a hQ
  exact wpAny_Return_some (he R I a fun mu1 imm1 y s1 a1 g1 r1 => hQ _ _ _ _ _ a1 g1 (.ret r1))
theorem ss_brk {pos : Pos} : SS X n c env (.Break pos) loc H (.brk, loc, H) := by
  intro A h₀ m mu ext imm s Q E R I a hQ
  exact wpAny_Break (hQ _ _ _ _ _ a .refl .brk)
theorem ss_cont {pos : Pos} : SS X n c env (.Continue pos) loc H (.cont, loc, H) := by
  intro A h₀ m mu ext imm s Q E R I a hQ
  exact wpAny_Continue (hQ _ _ _ _ _ a .refl .cont)
end
end Mine
end
section
open PySem PySem.W PyProof.Rows PyProof.V
set_option Elab.async false
set_option maxRecDepth 20000
namespace Mine
section
variable {X : Wd} {n : Nat} {c : Ce} {env : Env} {loc loc' : List (Option V)} {H H' H₀ : List O} {A : Around} {h₀ : Heap} {L : Addr} {m : Str → Option Value} {mu ext imm : List (Addr × Obj)} {s : Shared} {E : Value → Shared → Prop}
noncomputable abbrev Zt := Fl × List (Option V) × List O
theorem whl_run {test : PySem.Expr} {body : List Stmt} {tst : List (Option V) → List O → Option (Bool × List O)} {bd : List (Option V) → List O → Option Zt} (Rm : Room A n) (I : X.In h₀)
    (h1 : ∀ {loc H b H'}, tst loc H = some (b, H') → ST X n c env test loc H b H') (h2 : ∀ {loc H z}, bd loc H = some z → SX X n c env body loc H z) {R : Result → Shared → Prop} :
    ∀ (k : Nat) {loc : List (Option V)} {H : List O} {z : Zt} {m : Str → Option Value} {mu imm : List (Addr × Obj)} {s : Shared}, whlL tst bd k loc H = some z → At X c env h₀ m ext loc mu imm H s →
      (∀ m' mu' imm' f s', At X c env h₀ m' ext z.2.1 mu' imm' z.2.2 s' → Gw mu imm mu' imm' → FlRel X imm' (mu'.map Prod.fst) z.1 f → R (.ok f) s') → codeAny (model X.prog X.w) A (.whileLoop test body [] env) R s := by
  intro k
  induction k with
  | zero => intro loc H z m mu imm s hv; cases hv
  | succ k ik =>
    intro loc H z m mu imm s hv a hR
    refine bindE (o := tst loc H) hv fun b k1 hv => ?_
    obtain ⟨b, H1⟩ := b
    refine codeAny_of_tree ?_
    show wpAny _ A ((whileTurn test body [] env).onRaise (fun x => do noteFrame x env; theTreesLotGoes x)) _ _ s
    refine wpAny_noted ?_
    simp only [whileTurn]
    refine wpAny_bind (h1 k1 Rm I a fun mu1 imm1 s1 a1 g1 => ?_)
    cases b with
    | false =>
      cases Option.some.inj hv
      exact wpAny_bind (wpAny_execs_nil (wpAny_pure (hR _ _ _ _ _ a1 g1 .next)))
    | true =>
      refine bindE (o := bd loc H1) hv fun w k2 hv => ?_
      obtain ⟨f0, q⟩ := w
      refine wpAny_bind (h2 k2 Rm I a1 fun m2 mu2 imm2 f s2 a2 g2 r2 => ?_)
      have g := g1.trans g2
      clear k2 a1 k1 g1 g2 a
      cases r2 with
      | next => exact wpAny_pure ⟨rfl, ik hv a2 fun m' mu' imm' f s' a' g' r' => hR _ _ _ _ _ a' (g.trans g') r'⟩
      | cont => exact wpAny_pure ⟨rfl, ik hv a2 fun m' mu' imm' f s' a' g' r' => hR _ _ _ _ _ a' (g.trans g') r'⟩
      | brk => cases Option.some.inj hv; exact wpAny_pure (hR _ _ _ _ _ a2 g .next)
      | ret hr => cases Option.some.inj hv; exact wpAny_pure (hR _ _ _ _ _ a2 g (.ret hr))
theorem ss_whl {test : PySem.Expr} {body : List Stmt} {pos : Pos} {tst : List (Option V) → List O → Option (Bool × List O)} {bd : List (Option V) → List O → Option Zt}
    (h1 : ∀ {loc H b H'}, tst loc H = some (b, H') → ST X n c env test loc H b H') (h2 : ∀ {loc H z}, bd loc H = some z → SX X n c env body loc H z) {k : Nat} {z : Zt} (hv : whlL tst bd k loc H = some z) : SS X n c env (.While test body [] pos) loc H z := by
  intro A h₀ m mu ext imm s Q E R I a hQ
  exact wpAny_While (whl_run R.mark I h1 h2 k hv a hQ)
theorem for_run {t : PySem.Expr} {body : List Stmt} {tg : Tg} {bd : List (Option V) → List O → Option Zt} {It : Addr} {v : V} {ps : List P} {w : Option Nat} (eo : EnvOk c env) (Rm : Room A n) (I : X.In h₀)
    (ht : tgtOf c t = some tg) (hi : itemsOf v H₀ = some (ps, w)) (h2 : ∀ {loc H z}, bd loc H = some z → SX X n c env body loc H z) {R : Result → Shared → Prop} :
    ∀ {rem : List P} {i : Nat} {loc : List (Option V)} {H : List O} {z : Zt} {m : Str → Option Value} {mu imm : List (Addr × Obj)} {o : Obj} {s : Shared}, i + rem.length = ps.length → ps.drop i = rem → forL ps w tg bd rem loc H = some z → At X c env h₀ m ((It, o) :: ext) loc mu imm H s →
      ItR imm (mu.map Prod.fst) v i o →
      (∀ m' mu' imm' f s', At X c env h₀ m' ext z.2.1 mu' imm' z.2.2 s' → Gw mu imm mu' imm' → FlRel X imm' (mu'.map Prod.fst) z.1 f → R (.ok f) s') → codeAny (model X.prog X.w) A (.forLoop t (.ref It) body [] env) R s := by
  intro rem
  induction rem with
  | nil =>
    intro i loc H z m mu imm o s hl hd hv a it hR
    refine iteE hv fun hw hv => ?_
    cases Option.some.inj hv
    refine codeAny_of_tree ?_
    show wpAny _ A ((forTurn t (.ref It) body [] env).onRaise (fun x => do noteFrame x env; theTreesLotGoes x)) _ _ s
    refine wpAny_noted ?_
    simp only [forTurn]
    refine wpAny_bind (wpAny_standAt (wpAny_bind (wpAny_onRaise (it_end hi hw (by simpa using hl) a.st a.tk it Rm.1 fun s' st tk => ?_))))
    exact wpAny_pure ⟨rfl, codeAny_block (wpAny_execs_nil (hR _ _ _ _ _ ⟨st, tk, a.lr⟩ .refl .next))⟩
  | cons x rem ir =>
    intro i loc H z m mu imm o s hl hd hv a it hR
    refine iteE hv fun hw hv => bindE hv fun q h1 hv => bindE hv fun w' k2 hv => ?_
    obtain ⟨f0, l0, H0⟩ := w'
    have hx : ps[i]? = some x := by
      have := congrArg (fun l => l[0]?) hd
      simpa using this
    refine codeAny_of_tree ?_
    show wpAny _ A ((forTurn t (.ref It) body [] env).onRaise (fun x => do noteFrame x env; theTreesLotGoes x)) _ _ s
    refine wpAny_noted ?_
    simp only [forTurn]
    refine wpAny_bind (wpAny_standAt (wpAny_bind (wpAny_onRaise (it_item hi hw hx a.st a.tk it fun y o' s1 st1 tk1 ry it1 => ?_))))
    have a1 : At X c env h₀ m ((It, o') :: ext) loc mu imm H s1 := ⟨st1, tk1, a.lr⟩
    refine wpAny_bind (own_go st1 it1 (wpAny_bind (sg_tgt eo ht (loc' := q.1) (H' := q.2) h1 Rm.1 a1 (v := .p x) ry fun m2 mu2 s2 a2 g2 => wpAny_bind (h2 k2 Rm I a2 fun m3 mu3 imm3 f s3 a3 g3 r3 => ?_))))
    have g := g2.trans g3
    have next : forL ps w tg bd rem l0 H0 = some z → codeAny (model X.prog X.w) A (.forLoop t (.ref It) body [] env) R s3 := fun hv =>
      ir (by rw [List.length_cons] at hl; lia) (by
        have := congrArg (List.drop 1) hd
        simpa [List.drop_drop, Nat.add_comm] using this) hv a3 (it1.mono g.im g.ad) fun m' mu' imm' f s' a' g' r' => hR _ _ _ _ _ a' (g.trans g') r'
    have a3' : At X c env h₀ m3 ext l0 mu3 imm3 H0 s3 := ⟨a3.st.dropE, a3.tk, a3.lr⟩
    clear k2 h1 a a1 a3 it it1 hx hd hl g2 g3
    cases r3 with
    | next => exact wpAny_pure ⟨rfl, next hv⟩
    | cont => exact wpAny_pure ⟨rfl, next hv⟩
    | brk => cases Option.some.inj hv; exact wpAny_pure (hR _ _ _ _ _ a3' g .next)
    | ret hr => cases Option.some.inj hv; exact wpAny_pure (hR _ _ _ _ _ a3' g (.ret hr))
theorem ss_for {t it : PySem.Expr} {body : List Stmt} {pos : Pos} {tg : Tg} {bd : List (Option V) → List O → Option Zt} {v : V} {ps : List P} {w : Option Nat} {H₁ : List O} {z : Zt} (eo : EnvOk c env) (hset : isSetE it = false)
    (ht : tgtOf c t = some tg) (hit : SE X n c env it loc H v H₁) (hi : itemsOf v H₁ = some (ps, w)) (h2 : ∀ {loc H z}, bd loc H = some z → SX X n c env body loc H z) (hv : forL ps w tg bd ps loc H₁ = some z) : SS X n c env (.For t it body [] pos) loc H z := by
  intro A h₀ m mu ext imm s Q E R I a hQ
  refine wpAny_For (hit R I a fun mu1 imm1 y1 s1 a1 g1 r1 => it_iter hi a1.st r1 fun It o h' t2 it2 => ?_) (notSet hset env)
  have a2 : At X c env h₀ m ((It, o) :: ext) loc mu1 imm1 H₁ { s1 with heap := h' } := ⟨t2, a1.tk, a1.lr⟩
  exact for_run eo R I ht hi h2 (i := 0) (by simp) rfl hv a2 it2 fun m' mu' imm' f s' a' g' r' => hQ _ _ _ _ _ a' (g1.trans g') r'

/-- a comprehension whose list goes straight to a name -/
noncomputable def CU (X : Wd) (n : Nat) (c : Ce) (env : Env) (e : PySem.Expr) (loc : List (Option V)) (H : List O) (r : Nat) (H' : List O) : Prop :=
  ∀ ⦃A : Around⦄ ⦃h₀ : Heap⦄ ⦃m : Str → Option Value⦄ ⦃mu ext imm : List (Addr × Obj)⦄ ⦃s : Shared⦄ ⦃Q : Unit → Shared → Prop⦄ ⦃E : Value → Shared → Prop⦄ (u : Value → Sem Unit),
    Room A n → X.In h₀ → At X c env h₀ m ext loc mu imm H s →
    (∀ D C oC mC mu' imm' s', At X c env h₀ m ((C, oC) :: ext) loc mu' imm' H' s' → (∀ s'' : Shared, s''.heap.get? C = some oC → s''.heap.Ns C mC) → (mu'.map Prod.fst)[r]? = some D → Gw mu imm mu' imm' →
      wpAny (model X.prog X.w) A (u (.ref D)) (fun _ s'' => ∃ m, s''.heap.Ns C m ∧ ∀ h', Heap.SameBut C s''.heap h' → Q () { s'' with heap := h' }) E s') →
    wpAny (model X.prog X.w) A (evalThenUse e env u) Q E s
theorem cu_comp {elt target iter : PySem.Expr} {ifs : List PySem.Expr} {scope : Scope} {pos : Pos} {fr : List (Option Nat)} {v : V} {ps : List P} {w : Option Nat} {tg : Tg} {K H₁ : List O} {tests : List (Option V) → List O → Option (Bool × List O)} {emit : List (Option V) → List O → Option (V × List O)}
    (eo : EnvOk c env) (hsc : scOk c scope = true) (hset : isSetE iter = false) (hfr : c.frame scope = some fr) (hfo : frOk fr loc = true) (ht : tgtOf (c.inner scope) target = some tg) (hit : SE X n c env iter loc H v H₁) (hi : itemsOf v H₁ = some (ps, w))
    (h1 : ∀ env, EnvOk (c.inner scope) env → ∀ loc H b H', tests loc H = some (b, H') → STs X n (c.inner scope) env ifs loc H b H') (h2 : ∀ env, EnvOk (c.inner scope) env → ∀ loc H v H', emit loc H = some (v, H') → SE X n (c.inner scope) env elt loc H v H')
    (hv : cmpL ps w tg (fun l K => (tests l K).bind fun b => if b.1 then (emit l b.2).bind fun v => addTo H₁.length v.1 v.2 else some b.2) (frOf fr loc) ps (H₁ ++ [.list []]) = some K) :
    CU X n c env (.ListComp elt [⟨target, iter, ifs, 0⟩] scope pos) loc H H₁.length (K.take (H₁.length + 1)) := by
  intro A h₀ m mu ext imm s Q E u R I a hQ
  have so := scOk_of hsc
  obtain ⟨cl, hc1, hc2⟩ := closure_of (free_cells eo so hfr hfo a.lr)
  show wpAny _ _ (comprehension (.ListComp elt [⟨target, iter, ifs, 0⟩] scope pos) scope env (firstIterPos [⟨target, iter, ifs, 0⟩] pos) (newList []) false (eval iter env) (some u) >>= fun _ => pure ()) _ _ _
  refine wpAny_bind ?_
  refine wpAny_comprehension_free (g := ⟨target, iter, ifs, 0⟩) (gs := []) rfl (notSet hset env) hc1 so.fn (fun x hx e => lookup_nodup so.nd (by rw [← e]; exact hx)) ?_
  refine hit R I a fun mu1 imm1 y1 s1 a1 g1 r1 => it_iter hi a1.st r1 fun It o h' t2 it2 => ?_
  have a2 : At X c env h₀ m ((It, o) :: ext) loc mu1 imm1 H₁ { s1 with heap := h' } := ⟨t2, a1.tk, a1.lr⟩
  refine comp_run (RR := fun acc C r s' => compPost (model X.prog X.w) A E (some u) (fun v s' => wpAny (model X.prog X.w) A (pure ()) Q E s') acc C r s') (inner := inner1 ifs elt) eo so hfr hc2 ht hi R I (fun _ _ => turn1 _ _ _ _ _ _ _ _ _) (fun C D eo' => ins_one (h1 _ eo') (h2 _ eo')) hv a2 it2 fun D C oC mC mu' imm' s' a' hns hD g' => ?_
  exact wpAny_mono (hQ D C oC mC mu' imm' s' a' hns hD (g1.trans g')) (fun _ s'' ⟨m, q1, q2⟩ => ⟨m, q1, fun h' hs => wpAny_pure (q2 h' hs)⟩) fun _ _ q => q
theorem cu_comp2 {elt t1 i1 t2 i2 : PySem.Expr} {ifs : List PySem.Expr} {scope : Scope} {pos : Pos} {fr : List (Option Nat)} {v : V} {ps : List P} {w : Option Nat} {tg tg2 : Tg} {K H₁ : List O} {tests : List (Option V) → List O → Option (Bool × List O)} {src emit : List (Option V) → List O → Option (V × List O)}
    (eo : EnvOk c env) (hsc : scOk c scope = true) (hset : isSetE i1 = false) (hset2 : isSetE i2 = false) (hfr : c.frame scope = some fr) (hfo : frOk fr loc = true) (ht : tgtOf (c.inner scope) t1 = some tg) (ht2 : tgtOf (c.inner scope) t2 = some tg2) (hit : SE X n c env i1 loc H v H₁) (hi : itemsOf v H₁ = some (ps, w))
    (h0 : ∀ env, EnvOk (c.inner scope) env → ∀ loc H v H', src loc H = some (v, H') → SE X n (c.inner scope) env i2 loc H v H')
    (h1 : ∀ env, EnvOk (c.inner scope) env → ∀ loc H b H', tests loc H = some (b, H') → STs X n (c.inner scope) env ifs loc H b H') (h2 : ∀ env, EnvOk (c.inner scope) env → ∀ loc H v H', emit loc H = some (v, H') → SE X n (c.inner scope) env elt loc H v H')
    (hv : cmpL ps w tg (fun l K => if tgFree tg2 l then (src l K).bind fun x2 => (itemsOf x2.1 x2.2).bind fun q2 => cmpL q2.1 q2.2 tg2 (fun l K => (tests l K).bind fun b => if b.1 then (emit l b.2).bind fun v => addTo H₁.length v.1 v.2 else some b.2) l q2.1 x2.2 else none) (frOf fr loc) ps (H₁ ++ [.list []]) = some K) :
    CU X n c env (.ListComp elt [⟨t1, i1, [], 0⟩, ⟨t2, i2, ifs, 0⟩] scope pos) loc H H₁.length (K.take (H₁.length + 1)) := by
  intro A h₀ m mu ext imm s Q E u R I a hQ
  have so := scOk_of hsc
  obtain ⟨cl, hc1, hc2⟩ := closure_of (free_cells eo so hfr hfo a.lr)
  show wpAny _ _ (comprehension (.ListComp elt [⟨t1, i1, [], 0⟩, ⟨t2, i2, ifs, 0⟩] scope pos) scope env (firstIterPos [⟨t1, i1, [], 0⟩, ⟨t2, i2, ifs, 0⟩] pos) (newList []) false (eval i1 env) (some u) >>= fun _ => pure ()) _ _ _
  refine wpAny_bind ?_
  refine wpAny_comprehension_free (g := ⟨t1, i1, [], 0⟩) (gs := [⟨t2, i2, ifs, 0⟩]) rfl (notSet hset env) hc1 so.fn (fun x hx e => lookup_nodup so.nd (by rw [← e]; exact hx)) ?_
  refine hit R I a fun mu1 imm1 y1 s1 a1 g1 r1 => it_iter hi a1.st r1 fun It o h' t2' it2 => ?_
  have a2 : At X c env h₀ m ((It, o) :: ext) loc mu1 imm1 H₁ { s1 with heap := h' } := ⟨t2', a1.tk, a1.lr⟩
  refine comp_run (RR := fun acc C r s' => compPost (model X.prog X.w) A E (some u) (fun v s' => wpAny (model X.prog X.w) A (pure ()) Q E s') acc C r s') (inner := inner2 i2 _) eo so hfr hc2 ht hi R I (fun _ _ => turn2 _ _ _ _ _ _ _ _ _ _ _) (fun C D eo' => ins_two eo' hset2 ht2 (h0 _ eo') (ins_one (h1 _ eo') (h2 _ eo'))) hv a2 it2 fun D C oC mC mu' imm' s' a' hns hD g' => ?_
  exact wpAny_mono (hQ D C oC mC mu' imm' s' a' hns hD (g1.trans g')) (fun _ s'' ⟨m, q1, q2⟩ => ⟨m, q1, fun h' hs => wpAny_pure (q2 h' hs)⟩) fun _ _ q => q
theorem ss_asgC {x : Str} {p pos : Pos} {e : PySem.Expr} {i r : Nat} (eo : EnvOk c env) (hs : swapsWith e (some (.Name x p)) pos.line env = pure true) (hk : c.kind x = some .local) (hi : c.slot x = some i) (he : CU X n c env e loc H r H') :
    SS X n c env (.Assign [.Name x p] e pos) loc H (.next, loc.set i (some (.ref r)), H') := by
  intro A h₀ m mu ext imm s Q E R I a hQ
  rw [exec_Assign_Name_used _ _ _ _ hs]
  refine wpAny_bind (wpAny_standAt (wpAny_bind (he (assign (.Name x p) env) R I a fun D C oC mC mu' imm' s' a' hns hD g' => ?_)))
  refine wpAny_assign_Name (a'.storeL eo hk hi (v := .ref r) ⟨D, hD, rfl⟩ fun m2 s2 a2 => ?_)
  exact ⟨mC, hns s2 a2.st.getE.1, fun h' hs' => wpAny_pure (hQ _ _ _ _ _ ⟨a2.st.endE hs'.extBut s2.toks, a2.tk, a2.lr⟩ g' .next)⟩
end
end Mine
end
section
open PySem PySem.W PyProof.Rows PyProof.V
set_option Elab.async false
set_option maxRecDepth 20000
set_option maxHeartbeats 1000000
namespace Mine
section
variable {X : Wd} {n : Nat} {fa : Nat → Addr} {g : G}
noncomputable def SSd (X : Wd) (n : Nat) (c : Ce) (env : Env) (g : G) (st : Stmt) (t : T) : Prop := ∀ loc H z, ex g t loc H = some z → SS X (n + 1) c env st loc H z
noncomputable def SndS (X : Wd) (n : Nat) (fa : Nat → Addr) (g : G) (k : Nat) : Prop := ∀ {c : Ce} {env : Env} {st : Stmt} {t : T}, GOk X fa c.gl c.meths c.flds g n → EnvOk c env → trS c k st = some t → SSd X n c env g st t
theorem ex_of {t t₀ : T} {loc : List (Option V)} {H : List O} {z : Fl × List (Option V) × List O} (h : some t₀ = some t) (hv : ex g t loc H = some z) : ex g t₀ loc H = some z := Option.some.inj h ▸ hv
theorem ss_of {c : Ce} {env : Env} {st : Stmt} {loc : List (Option V)} {H : List O} {z z₀ : Fl × List (Option V) × List O} (h : some z₀ = some z) (hv : SS X n c env st loc H z₀) : SS X n c env st loc H z := Option.some.inj h ▸ hv
section
variable {k : Nat} {c : Ce} {env : Env} {t : T} {pos : Pos}
theorem snd_block (ih : SndS X n fa g k) (G : GOk X fa c.gl c.meths c.flds g n) (eo : EnvOk c env) {b : List Stmt} {ts : List T} (h : seqO (b.map (trS c k)) = some ts) {loc H z} (hv : exs g ts loc H = some z) : SX X (n + 1) c env b loc H z := by
  induction b generalizing ts loc H with
  | nil => cases h; cases hv; exact sx_nil
  | cons e b ib =>
    refine bindE h fun x h1 h => mapE h fun q h2 e => ?_
    cases e
    refine bindE (o := ex g x loc H) hv fun w k1 hv => ?_
    obtain ⟨f, l, K⟩ := w
    cases f with
    | next => exact sx_cons (ih G eo h1 _ _ _ k1) (fun _ => ib h2 hv) fun e => absurd rfl e
    | _ => cases hv; exact sx_cons (ih G eo h1 _ _ _ k1) nofun fun _ => rfl
/-- comprehensions, straight to a name -/
theorem used_eq {y : Str} {p : Pos} {e : PySem.Expr} (h : used c y p e = true) : ∃ elt gs sc q, e = .ListComp elt gs sc q := by cases e <;> first | exact ⟨_, _, _, _, rfl⟩ | exact nob h | cases h
theorem cu_sound (hn : nsIn X.K cStatics sharingNotToldKey = some none) (G : GOk X fa c.gl c.meths c.flds g n) (eo : EnvOk c env) {e : PySem.Expr} {x : E} {y : Str} {p : Pos} (hu : used c y p e = true) (h : tr c k e = some x) {loc H r} (hv : ev g loc x H = some r) :
    ∃ i, r.1 = .ref i ∧ CU X (n + 1) c env e loc H i r.2 := by
  obtain ⟨elt, gs, sc, q, rfl⟩ := used_eq hu
  cases k with
  | zero => first | exact no h | exact nob h | cases h
  | succ k =>
    have ih : SndE X n fa g k := tr_sound hn k
    refine pln_E h fun h _ => comp_inv (C := fun gs r => ∃ i, r.1 = .ref i ∧ CU X (n + 1) c env (.ListComp elt gs sc q) loc H i r.2) h hv (fun hs h0 q1 hfo q2 q3 q4 q5 p1 p2 p3 => ⟨_, rfl, ?_⟩) (fun hs h0 h00 q1 hfo q2 q3 q4 q5 q6 q7 p1 p2 p3 => ⟨_, rfl, ?_⟩)
    · exact cu_comp eo hs h0 q1 hfo q2 ((ih G eo q3).1 p1) p2 (fun env' eo' loc H b H' e => snd_tests ih (c := c.inner _) G eo' q4 e) (fun env' eo' loc H v H' e => (ih (c := c.inner _) G eo' q5).1 e) p3
    · exact cu_comp2 eo hs h0 h00 q1 hfo q2 q4 ((ih G eo q3).1 p1) p2 (fun env' eo' loc H v H' e => (ih (c := c.inner _) G eo' q5).1 e) (fun env' eo' loc H b H' e => snd_tests ih (c := c.inner _) G eo' q6 e) (fun env' eo' loc H v H' e => (ih (c := c.inner _) G eo' q7).1 e) p3
theorem not_set_dict {e : PySem.Expr} {x : E} (h : tr c k e = some x) : (∀ a b s p, e ≠ .SetComp a b s p) ∧ ∀ a b d s p, e ≠ .DictComp a b d s p := by
  cases k with
  | zero => first | exact no h | exact nob h | cases h
  | succ k => exact ⟨fun a b s p e => (by cases e; cases h), fun a b d s p e => (by cases e; cases h)⟩
theorem swaps_used (eo : EnvOk c env) {e : PySem.Expr} {x : E} (h : tr c k e = some x) {y : Str} {q : Pos} {j : Nat} : swapsWith e (some (.Name y q)) j env = pure (used c y q e) := by
  obtain ⟨h1, h2⟩ := not_set_dict h
  cases e <;> first | rfl | exact swaps_list eo | exact absurd rfl (h1 _ _ _ _) | exact absurd rfl (h2 _ _ _ _ _)
end
theorem swap_two {c : Ce} {env : Env} (eo : EnvOk c env) {x y : Str} {p q tp vp : Pos} {k vk : Nat} {v1 v2 : PySem.Expr} (hx : c.kind x = some .local) (hy : c.kind y = some .local) (hne : x ≠ y) (hp : p.line = q.line) (hst : [v1, v2].all (fun e => !isStarE e) = true)
    (h1 : [v1, v2].all (foldedForSure 8) = false) (h2 : [v1, v2].all (constantsAlone 8) = false) : swappedStores [.Tuple [.Name x p, .Name y q] k tp] (.Tuple [v1, v2] vk vp) env = pure (some [x, y]) := by
  simp only [List.all_cons, List.all_nil, Bool.and_true, Bool.and_eq_true, Bool.not_eq_true'] at hst
  have e1 := eo.kind x
  have e2 := eo.kind y
  rw [hx] at e1
  rw [hy] at e2
  have e3 : (y == x) = false := by simpa using Ne.symm hne
  have e4 : ([x, y] : List Str).eraseDups.length = 2 := by
    simp only [List.eraseDups, List.eraseDupsBy, List.eraseDupsBy.loop, List.any_cons, List.any_nil, Bool.or_false, e3]
    rfl
  have e7 : ∀ f : PySem.Expr → Bool, (∀ v, f v = isStarE v) → [v1, v2].any f = false := by intro f hf; simp [hf, hst]
  have e5 : ∀ f : PySem.Expr → Option Str, (∀ id pos, f (.Name id pos) = if (env.kindOf id == some NameKind.local && pos.line == p.line) = true then some id else none) → [PySem.Expr.Name x p, PySem.Expr.Name y q].filterMap f = [x, y] := by
    intro f hf
    simp only [List.filterMap_cons, List.filterMap_nil, hf, e1, e2, hp, beq_self_eq_true, Bool.and_self, if_true]
  have e8 : ∀ {b : Bool}, b = false → ¬b = true := fun e h => nob (e.symm.trans h)
  refine (if_neg ?c1).trans ((if_neg (e8 (e7 _ fun v => by cases v <;> rfl))).trans ((if_neg ?c3).trans ((if_neg (e8 h1)).trans ((if_neg (e8 h2)).trans (congrArg (fun l => pure (some l)) (e5 _ fun _ _ => rfl))))))
  case c1 => exact fun h => by rw [blockKind_fn eo] at h; exact nob h
  case c3 => exact fun h => by rw [e5 _ fun _ _ => rfl, e4] at h; exact nob h
theorem tupE_eq {e : PySem.Expr} {vs : List PySem.Expr} (h : tupE e = some vs) : ∃ k p, e = .Tuple vs k p := by cases e <;> first | exact no h | (cases h; exact ⟨_, _, rfl⟩)
theorem swap_none {env : Env} {ts : List PySem.Expr} {k : Nat} {tp : Pos} {v : PySem.Expr} (h : tupE v = none) : swappedStores [.Tuple ts k tp] v env = pure none := by
  cases v <;> first | rfl | exact no h | exact nob h | cases h
theorem nameLine_eq {e : PySem.Expr} {x : Str × Nat} (h : nameLine e = some x) : ∃ p, e = .Name x.1 p ∧ p.line = x.2 := by cases e <;> first | exact no h | (cases h; exact ⟨_, rfl, rfl⟩)
theorem twoNames_spec {c : Ce} {ts : List PySem.Expr} (h : twoNames c ts = true) : ∃ x p y q, ts = [.Name x p, .Name y q] ∧ x ≠ y ∧ p.line = q.line ∧ c.kind x = some .local ∧ c.kind y = some .local := by
  unfold twoNames at h
  cases e : ((two ts).bind fun q => (nameLine q.1).bind fun x => (nameLine q.2).map fun y => (x, y)) with
  | none => rw [e] at h; cases h
  | some w =>
    rw [e] at h
    refine bindE e fun q e0 e => bindE e fun x e1 e => mapE e fun y e2 e => ?_
    cases e
    obtain ⟨p, h1, h2⟩ := nameLine_eq e1
    obtain ⟨p', h3, h4⟩ := nameLine_eq e2
    refine andE h fun h d4 => andE h fun h d3 => andE h fun d1 d2 => ⟨x.1, p, y.1, p', ?_, bne_iff_ne.mp d1, ?_, eq_of_beq d3, eq_of_beq d4⟩
    · rw [two_eq e0, h1, h3]
    · rw [h2, h4, eq_of_beq d2]
theorem tgL_eq {t : Tg} {l : List Nat} (h : tgL t = some l) : t = .tup l := by cases t <;> first | exact no h | (cases h; rfl)
section
variable {k : Nat} {c : Ce} {env : Env} {t : T} {pos : Pos} (hn : nsIn X.K cStatics sharingNotToldKey = some none) (G : GOk X fa c.gl c.meths c.flds g n) (eo : EnvOk c env)
include hn G eo
theorem sa_name {x : Str} {px : Pos} {v : PySem.Expr} (h : asgN c (tr c k) x px v = some t) : SSd X n c env g (.Assign [.Name x px] v pos) t := by
  intro loc H z hv
  refine iteB h (fun hu h => iteE h fun hk h => bindE h fun i hi h => mapE h fun e h1 e' => ?_) fun hu h => bindE h fun tg ht h => mapE h fun e h1 e' => ?_
  · refine bindE (o := ev g loc e H) (ex_of e' hv) fun w k1 hv => bindE hv fun q k2 hz => iteP k2 fun _ k2 => ?_
    obtain ⟨r, e1, cu⟩ := cu_sound hn G eo hu h1 k1
    refine ss_of hz ?_
    rw [← Option.some.inj k2, e1]
    exact ss_asgC eo (by rw [swaps_used eo h1, hu]) (eq_of_beq hk) hi cu
  · exact bindE (o := ev g loc e H) (ex_of e' hv) fun w k1 hv => bindE hv fun q k2 hz => ss_of hz <| ss_asg eo rfl (by rw [show ∀ (t v : PySem.Expr) (l : Nat), swapsWithSole [t] v l env = swapsWith v (some t) l env from fun _ _ _ => rfl, swaps_used eo h1, hu]) rfl ht ((tr_sound hn k G eo h1).1 k1) k2
omit hn G eo in
theorem len2 {α β : Type} {i j : α} {l : List β} (h : ([i, j].length == l.length) = true) : ∃ u w, l = [u, w] := by
  match l, h with
  | [u, w], _ => exact ⟨u, w, rfl⟩
omit hn G eo in
theorem tgt2 {i j : Nat} {v : V} {loc : List (Option V)} {H : List O} {q : List (Option V) × List O} (h : tgt (.tup [i, j]) v loc H = some q) : ∃ u w, v = .p (.tup [u, w]) ∧ some ((loc.set i (some (.p u))).set j (some (.p w)), H) = some q :=
  bindE h fun ps hp h => iteE h fun hk h => andE hk fun t1 _ => by
    obtain ⟨u, w, rfl⟩ := len2 t1
    exact ⟨u, w, tup_eq hp, h⟩
omit hn G eo in
theorem slot_of {x : Str} {p : Pos} {i : Nat} (h : nmSlot c (.Name x p) = some i) : c.slot x = some i := iteP h fun _ h => h
omit hn G eo in
theorem slots2 {x y : Str} {p q tp : Pos} {k : Nat} {tg : Tg} (h : tgtOf c (.Tuple [.Name x p, .Name y q] k tp) = some tg) : ∃ i j, some (.tup [i, j]) = some tg ∧ c.slot x = some i ∧ c.slot y = some j :=
  mapE h fun l hl e => by
    obtain ⟨i, l2, s1, s2, rfl⟩ := seqO_cons hl
    obtain ⟨j, l3, s3, s4, rfl⟩ := seqO_cons s2
    cases s4
    exact ⟨i, j, e, slot_of s1, slot_of s3⟩
omit hn G eo in
theorem two_ex {α : Type} {l : List α} {w : α × α} (h : two l = some w) : ∃ a b, l = [a, b] := ⟨_, _, two_eq h⟩
theorem sa_swap {ts vs : List PySem.Expr} {i0 j0 : Nat} {p0 q0 : Pos} (hc : (twoNames c ts && plainS vs && !(vs.all (foldedForSure 8)) && !(vs.all (constantsAlone 8))) = true) (h : ((two vs).bind fun _ => (tgtOf c (.Tuple ts i0 p0)).bind fun g => (tgL g).bind fun l => (tr c k (.Tuple vs j0 q0)).map fun e => T.asgS l e) = some t) :
    SSd X n c env g (.Assign [.Tuple ts i0 p0] (.Tuple vs j0 q0) pos) t := by
  refine andE hc fun hc c7 => andE hc fun hc c6 => andE hc fun c5 c3 => bindE h fun w hw h => ?_
  obtain ⟨x, p, y, q, rfl, d1, d2, d3, d4⟩ := twoNames_spec c5
  obtain ⟨v1, v2, rfl⟩ := two_ex hw
  refine bindE h fun tg htg h => bindE h fun l hl h => mapE h fun e h1 e' => ?_
  obtain ⟨i, j, et, hi, hj⟩ := slots2 htg
  rw [← Option.some.inj et] at hl
  intro loc H z hv
  refine bindE (o := ev g loc e H) (ex_of e' hv) fun w k1 hv => bindE hv fun r k2 hz => ss_of hz ?_
  rw [← Option.some.inj hl] at k2
  obtain ⟨u1, u2, ew, er⟩ := tgt2 k2
  rw [← Option.some.inj er]
  have k3 : SE X (n + 1) c env _ loc H w.1 w.2 := (tr_sound hn k G eo h1).1 k1
  rw [ew] at k3
  show SS X (n + 1) c env (.Assign [.Tuple [.Name x p, .Name y q] i0 p0] (.Tuple [v1, v2] j0 q0) pos) loc H (.next, (loc.set i (some (.p u1))).set j (some (.p u2)), w.2)
  refine @ss_asgS X (n + 1) c env loc H x y p q p0 pos i0 (.Tuple [v1, v2] j0 q0) i j u1 u2 w.2 eo rfl (swap_two eo d3 d4 d1 d2 c3 (nt c6) (nt c7)) d3 d4 hi hj d1 ?_
  exact k3
theorem sa_tup {ts : List PySem.Expr} {i : Nat} {p : Pos} {v : PySem.Expr} (h : asgT c (tr c k) (.Tuple ts i p) ts v = some t) : SSd X n c env g (.Assign [.Tuple ts i p] v pos) t := by
  unfold asgT at h
  cases e : tupE v with
  | some vs =>
    rw [e] at h
    obtain ⟨j, q, rfl⟩ := tupE_eq e
    exact iteE h fun hc h => sa_swap hn G eo hc h
  | none =>
    rw [e] at h
    intro loc H z hv
    refine iteE h fun hc h => bindE h fun tg ht h => mapE h fun x h1 e' => ?_
    exact bindE (o := ev g loc x H) (ex_of e' hv) fun w k1 hv => bindE hv fun q k2 hz => ss_of hz <| ss_asg eo rfl (swaps_no (env := env) (nt hc) (some (.Tuple ts i p)) pos.line) (swap_none e) ht ((tr_sound hn k G eo h1).1 k1) k2
theorem sa_one {tg v : PySem.Expr} (h : asg1 c (tr c k) tg v = some t) : SSd X n c env g (.Assign [tg] v pos) t := by
  have ie : SndE X n fa g k := tr_sound hn k
  cases tg with
  | Name x px => exact sa_name hn G eo h
  | Tuple ts i p => exact sa_tup hn G eo h
  | Subscript o i p =>
    intro loc H z hv
    refine iteE h fun hc h => andE hc fun _ hc => bindE h fun e h1 h => bindE h fun o h2 h => mapE h fun i h3 e' => ?_
    exact bindE (o := ev g loc e H) (ex_of e' hv) fun x k1 hv => bindE hv fun y k2 hv => bindE hv fun w k3 hv => bindE hv fun a ha hv => bindE hv fun r hr hv => bindE hv fun j hj hv => bindE hv fun l k4 hv => iteE hv fun hk hz => andE hk fun t1 t2 =>
      ss_of hz <| ss_asgI (swaps_no (nt hc) _ _) (se_pl ha ((ie G eo h1).1 k1)) (se_rf hr ((ie G eo h2).1 k2)) (se_int hj ((ie G eo h3).1 k3)) k4 (of_decide_eq_true t2).1 (of_decide_eq_true t2).2 t1
  | Attribute o a p =>
    intro loc H z hv
    refine iteE h fun hc h => andE hc fun hc1 hc2 => bindE h fun e h1 h => mapE h fun o h2 e' => ?_
    exact bindE (o := ev g loc e H) (ex_of e' hv) fun x k1 hv => bindE hv fun y k2 hv => bindE hv fun b hb hv => bindE hv fun r hr hv => bindE hv fun fs k4 hv => iteE hv fun hk hz =>
      ss_of hz <| ss_asgF G.cls (G.fld _ (List.contains_iff_mem.mp hc2)) (swaps_no (nt hc1) _ _) (se_pl hb ((ie G eo h1).1 k1)) (se_ob hr ((ie G eo h2).1 k2)) k4 (of_decide_eq_true hk)
  | _ => first | exact no h | exact nob h | cases h
theorem sa_all {ts : List PySem.Expr} {v : PySem.Expr} (h : asgA c (tr c k) ts v = some t) : SSd X n c env g (.Assign ts v pos) t := by
  cases ts with
  | nil => first | exact no h | exact nob h | cases h
  | cons a ts =>
    cases ts with
    | nil => exact sa_one hn G eo h
    | cons b ts =>
      intro loc H z hv
      refine iteE h fun hc h => bindE h fun l hl h => mapE h fun e h1 e' => ?_
      exact bindE (o := ev g loc e H) (ex_of e' hv) fun x k1 hv => iteE hv fun _ hz => ss_of hz <| ss_asgM eo hl ((tr_sound hn k G eo h1).1 k1)
omit hn G eo in
theorem isAdd_eq {o : BOp} {u : Unit} (h : isAdd o = some u) : o = .add := by cases o <;> first | rfl | exact no h | exact nob h | cases h
theorem sa_aug {tg v : PySem.Expr} {o : Operator} (h : augX c (tr c k) tg o v = some t) : SSd X n c env g (.AugAssign tg o v pos) t := by
  intro loc H z hv
  refine bindE h fun x h0 h => iteE h fun hk h => bindE h fun o' ho h => bindE h fun i hi h => mapE h fun e h1 e' => ?_
  obtain ⟨p, rfl⟩ := nameE_eq h0
  refine bindE (o := (loc[i]?).join) (ex_of e' hv) fun w hl hv => bindE hv fun x k1 hv => bindE hv fun _ h2 hv => bindE hv fun a ha hv => bindE hv fun b hb hv => bindE hv fun r k2 hv => bindE hv fun q k3 hz => iteP k3 fun _ k3 => ss_of hz ?_
  rw [← Option.some.inj k3, (bop_inv ho).trans (congrArg opB (isAdd_eq h2))]
  exact ss_aug eo (eq_of_beq hk) hi ((join_eq hl).trans (by rw [pl_eq ha])) (se_pl hb ((tr_sound hn k G eo h1).1 k1)) k2
end
theorem trS_sound (hn : nsIn X.K cStatics sharingNotToldKey = some none) (k : Nat) : SndS X n fa g k := by
  induction k with
  | zero => intro c env st t _ _ h; cases h
  | succ k ih =>
    intro c env st t G eo h
    have ie : SndE X n fa g k := tr_sound hn k
    cases st with
    | Assign ts v p => exact sa_all hn G eo h
    | AugAssign tg o v p => exact sa_aug hn G eo h
    | Expr v p =>
      intro loc H z hv
      refine iteE h fun hc h => mapE h fun e h1 e' => ?_
      exact bindE (o := ev g loc e H) (ex_of e' hv) fun x k1 hv => bindE hv fun _ h2 hz => ss_of hz <| ss_ex eo (swaps_no (nt hc) _ _) (se_nn h2 ((ie G eo h1).1 k1))
    | If c a b p =>
      intro loc H z hv
      refine bindE h fun t' h1 h => bindE h fun a h2 h => mapE h fun b h3 e' => ?_
      cases e'
      refine bindE (o := evT g loc t' (ev g loc t' H) H) hv fun d k1 hv => ?_
      obtain ⟨d, H1⟩ := d
      cases d with
      | true => exact ss_if ((ie G eo h1).2 k1) (fun _ => snd_block ih G eo h2 hv) nofun
      | false => exact ss_if ((ie G eo h1).2 k1) nofun fun _ => snd_block ih G eo h3 hv
    | While c b e p =>
      intro loc H z hv
      refine bindE h fun _ h0 h => bindE h fun t' h1 h => mapE h fun b h2 e' => ?_
      rw [nul_eq h0]
      exact ss_whl (fun {loc H b H'} e => (ie G eo h1).2 e) (fun {loc H z} e => snd_block ih G eo h2 e) (ex_of e' hv)
    | For tg it b e p =>
      intro loc H z hv
      refine bindE h fun _ h0 h => iteE h fun hc h => bindE h fun tg' ht h => bindE h fun it' h1 h => mapE h fun b h2 e' => ?_
      rw [nul_eq h0]
      exact bindE (o := ev g loc it' H) (ex_of e' hv) fun x k1 hv => bindE hv fun q k2 hv => ss_for (ps := q.1) (w := q.2) eo (nt hc) ht ((ie G eo h1).1 k1) k2 (fun {loc H z} e => snd_block ih G eo h2 e) hv
    | Return o p =>
      intro loc H z hv
      refine bindE h fun e h0 h => mapE h fun x h1 e' => ?_
      rw [h0]
      exact bindE (o := ev g loc x H) (ex_of e' hv) fun y k1 hz => ss_of hz <| ss_ret ((ie G eo h1).1 k1)
    | Break p =>
      intro loc H z hv
      cases h
      cases hv
      exact ss_brk
    | Continue p =>
      intro loc H z hv
      cases h
      cases hv
      exact ss_cont
    | Raise a b p =>
      intro loc H z hv
      cases h
      cases hv
    | _ => first | exact no h | exact nob h | cases h
end
end Mine
end
section
open PySem PySem.W PyProof.Rows PyProof.V
set_option Elab.async false
set_option genSizeOf false
set_option maxRecDepth 20000
namespace Mine
structure FD where
  nm : List Str
  ar : Nat
  dfl : List P
  body : List T
noncomputable def loc0 (F : FD) (vs : List V) : List (Option V) := (vs ++ F.dfl.map V.p).map some ++ List.replicate (F.nm.length - (vs ++ F.dfl.map V.p).length) none
/-- only what comes back is kept -/
noncomputable def tidy (k : Nat) (v : V) (H : List O) : Option (V × List O) := match v with
  | .p x => some (.p x, H.take k)
  | .ref r => if r < k then some (.ref r, H.take k) else (H[r]?).map fun o => (.ref k, H.take k ++ [o])
  | _ => none
noncomputable def runF (g : G) (F : FD) (vs : List V) (H : List O) : Option (V × List O) := if vs.length == F.ar then (exs g F.body (loc0 F vs) H).bind fun z => match z.1 with
    | .ret v => tidy H.length v z.2.2
    | .next => tidy H.length (.p .none) z.2.2
    | _ => none
  else none
structure DefOk (X : Wd) (gl : List (Str × GV)) (ml : List (Str × Nat)) (fl : List Str) (F : FD) (a : Addr) (fd : FuncData) (body : List Stmt) : Prop where
  at_ : ∃ oc od osl, X.K.lookup a = some ⟨oc, od, .func fd, osl⟩
  code : codeIn X.K fd.code fd.qualname = true
  bd : fd.body = .stmts body
  tr : ∃ k, trB ⟨F.nm, fd.scope, gl, ml, fl⟩ k body = some F.body
  kind : fd.scope.kind = .function
  co : fd.scope.isCoroutine = false
  gen : fd.scope.isGenerator = false
  gl : fd.globals = mainGlobals
  bi : fd.builtins = builtinsNs
  cell : ∀ x ∈ fd.scope.names, x.2 ≠ .cell
  nd : F.nm.Nodup
  len : F.ar + F.dfl.length ≤ F.nm.length
  loc : ∀ x ∈ F.nm.take (F.ar + F.dfl.length), fd.scope.names.lookup x = some .local
  bind : ∀ ys : List Value, ys.length = F.ar → ∃ zs, DatAll [] zs (dats F.dfl) ∧ ∀ S, peek X.K S (bindArgs fd ⟨ys, []⟩) = some ((F.nm.take (F.ar + F.dfl.length)).zip (ys ++ zs))
section
variable {X : Wd} {n : Nat} {fa : Nat → Addr} {g : G} {h₀ : Heap} {L : Addr} {m : Str → Option Value} {mu ext imm : List (Addr × Obj)} {H H' : List O} {s : Shared} {A : Around}
theorem St.keepOne (t : St X h₀ L m mu ext imm H s) {k r : Nat} {e : Addr × Obj} {o : O} (hk : k ≤ r) (he : mu[r]? = some e) (ho : H[r]? = some o) : St X h₀ L m (mu.take k ++ [e]) ext imm (H.take k ++ [o]) s := by
  have sl0 : (mu.take k ++ [e]).Sublist mu := by
    conv => rhs; rw [← List.take_append_drop k mu]
    refine (List.Sublist.refl _).append ?_
    rw [List.singleton_sublist]
    exact List.mem_of_getElem? (i := r - k) (by rw [List.getElem?_drop, Nat.add_sub_cancel' hk]; exact he)
  have sl : (mu.take k ++ [e] ++ (ext ++ imm)).Sublist (mu ++ (ext ++ imm)) := sl0.append (List.Sublist.refl _)
  obtain ⟨e', he', ho'⟩ := t.mr.get ho
  rw [he] at he'
  cases he'
  exact ⟨t.fr, news_sub t.nw fun p hp => sl.subset hp, t.nd.sublist (sl.map _), (t.mr.take k).snoc ho', t.g, t.d, t.os⟩
theorem tidy_ok {mu' imm' : List (Addr × Obj)} {v v' : V} {y : Value} {H₁ : List O} (t : St X h₀ L m mu' ext imm' H₁ s) (gw : Gw mu imm mu' imm') (r : VRel X imm' (mu'.map Prod.fst) v y) (hv : tidy mu.length v H₁ = some (v', H')) :
    ∃ mu2, St X h₀ L m mu2 ext imm' H' s ∧ Gw mu imm mu2 imm' ∧ VRel X imm' (mu2.map Prod.fst) v' y := by
  unfold tidy at hv
  split at hv
  · cases hv
    exact ⟨_, t.trunc mu.length, gw.trunc (Nat.le_refl _), r⟩
  · rename_i q
    split at hv
    · rename_i hlt
      cases hv
      obtain ⟨a, h1, h2⟩ := r
      exact ⟨_, t.trunc mu.length, gw.trunc (Nat.le_refl _), a, by rw [List.map_take, List.getElem?_take_of_lt hlt]; exact h1, h2⟩
    · rename_i hge
      obtain ⟨o, ho, e⟩ := Option.map_eq_some_iff.mp hv
      cases e
      obtain ⟨a, h1, h2⟩ := r
      rw [List.getElem?_map] at h1
      obtain ⟨e, he, rfl⟩ := Option.map_eq_some_iff.mp h1
      refine ⟨_, t.keepOne (by lia) he ho, ?_, e.1, ?_, h2⟩
      · have := gw.trunc (k := mu.length) (Nat.le_refl _)
        exact ⟨by rw [List.map_append]; exact this.ad.trans (List.prefix_append _ _), this.im⟩
      · have hl : (mu'.take mu.length).length = mu.length := by
          rw [List.length_take]
          have := gw.ad.length_le
          simp only [List.length_map] at this
          lia
        rw [List.map_append, List.getElem?_append_right (by rw [List.length_map, hl]; exact Nat.le_refl _), List.length_map, hl, Nat.sub_self]
        rfl
  · cases hv
theorem zip_lookup {l : List Str} {ys : List Value} {i : Nat} {x : Str} (hn : l.Nodup) (hx : l[i]? = some x) (hl : l.length = ys.length) : ∃ y, ys[i]? = some y ∧ (l.zip ys).reverse.lookup x = some y := by
  have key : ∀ {p : List (Str × Value)} {x : Str} {y : Value}, (p.map (·.1)).Nodup → (x, y) ∈ p → p.lookup x = some y := by
    intro p x y
    induction p with
    | nil => simp
    | cons a p ih =>
      intro hn hm
      rw [List.map_cons, List.nodup_cons] at hn
      obtain ⟨k, w⟩ := a
      rw [List.lookup_cons]
      rcases List.mem_cons.mp hm with e | hm
      · cases e; simp
      · have : (x == k) = false := by
          cases h : x == k with
          | false => rfl
          | true => rw [eq_of_beq h] at hm; exact absurd (List.mem_map_of_mem hm) hn.1
        rw [this]
        exact ih hn.2 hm
  have hi : i < ys.length := by rw [← hl]; exact (List.getElem?_eq_some_iff.mp hx).1
  refine ⟨ys[i], by simp [hi], key ?_ ?_⟩
  · rw [List.map_reverse, (List.reverse_perm _).nodup_iff, List.map_fst_zip (by lia)]
    exact hn
  · rw [List.mem_reverse]
    refine List.mem_of_getElem? (i := i) ?_
    rw [List.getElem?_zip_eq_some]
    exact ⟨hx, by simp [hi]⟩
theorem VRs.get {imm ad} : ∀ {vs : List V} {ys : List Value} {i : Nat} {v : V} {y : Value}, VRs X imm ad vs ys → vs[i]? = some v → ys[i]? = some y → VRel X imm ad v y
  | _, _, i, v, y, .nil, h, _ => by simp at h
  | _, _, 0, v, y, .cons a r, h, h' => by simp at h h'; subst h h'; exact a
  | _, _, i + 1, v, y, .cons a r, h, h' => VRs.get r (by simpa using h) (by simpa using h')
theorem VRs.ofDats {imm ad} : ∀ {ps : List P} {zs : List Value}, DatAll [] zs (Mine.dats ps) → VRs X imm ad (ps.map V.p) zs
  | [], _, .nil => .nil
  | _ :: _, _, .cons a r => .cons (dat0 a) (VRs.ofDats r)
theorem VRs.len' {imm ad} {vs : List V} {ys : List Value} (h : VRs X imm ad vs ys) : ys.length = vs.length := by
  induction h with
  | nil => rfl
  | cons _ _ ih => simp [ih]
theorem call_ok {gl : List (Str × GV)} {ml : List (Str × Nat)} {fl : List Str} (hn : nsIn X.K cStatics sharingNotToldKey = some none) (G : GOk X fa gl ml fl g n) {F : FD} {a : Addr} {fd : FuncData} {body : List Stmt} (D : DefOk X gl ml fl F a fd body) {vs : List V} {v : V} (hv : runF g F vs H = some (v, H')) :
    CallS X (n + 2) a vs H v H' := by
  intro A h₀ L m mu ext imm s ys R Rm I t tk rs hR
  unfold runF at hv
  split at hv
  rotate_left
  · cases hv
  rename_i har
  have har : vs.length = F.ar := eq_of_beq har
  obtain ⟨z, hz, hv⟩ := Option.bind_eq_some_iff.mp hv
  obtain ⟨oc, od, osl, ho⟩ := D.at_
  obtain ⟨k, htr⟩ := D.tr
  have hys : ys.length = F.ar := by rw [rs.len', har]
  obtain ⟨zs, hzs, hb⟩ := D.bind ys hys
  have KI := I.k.keeps t.fr.keep
  have hzl : zs.length = F.dfl.length := by rw [hzs.length, dats_len]
  have hyz : (ys ++ zs).length = F.ar + F.dfl.length := by rw [List.length_append, hys, hzl]
  have hnl : (F.nm.take (F.ar + F.dfl.length)).length = F.ar + F.dfl.length := by rw [List.length_take]; exact Nat.min_eq_left D.len
  obtain ⟨gd, k1, k2, k3, k4, k5⟩ := ground t.fr t.nw
  have Ig : X.In gd := I.keeps k1
  refine codeAny_call_def (fd := fd) (body := body) (by have := Rm.2.1; lia) (KI _ _ ho) rfl (I.t.nolimit.keeps t.fr.keep) (codeRec_of KI D.code) D.bd (kp_binds KI hb) D.cell (fun x hx => ?_) (fun h₁ hns hk => ?_) D.co D.gen D.kind
  · obtain ⟨x1, x2⟩ := x
    exact D.loc _ (List.of_mem_zip hx).1
  · have F1 : Fr gd s.heap.objs.size h₁ (fun x => ((F.nm.take (F.ar + F.dfl.length)).zip (ys ++ zs)).reverse.lookup x) := ⟨hns, fun b o e => hk b o (k3 b o e), Nat.le_of_eq k2⟩
    have t1 : St X gd s.heap.objs.size (fun x => ((F.nm.take (F.ar + F.dfl.length)).zip (ys ++ zs)).reverse.lookup x) mu ext imm H { s with heap := h₁, toks := s.toks + ((F.nm.take (F.ar + F.dfl.length)).zip (ys ++ zs)).length } :=
      ⟨F1, fun p hp => ⟨hk _ _ (t.nw p hp).1, Nat.ne_of_lt (Heap.lt_size (t.nw p hp).1), k4 p hp⟩, t.nd, t.mr, t.g, t.d, t.os⟩
    have eo : EnvOk ⟨F.nm, fd.scope, gl, ml, fl⟩ (callEnv fd s.heap.objs.size a) := ⟨rfl, D.gl, D.bi, D.kind, D.nd⟩
    have rsz : VRs X imm (mu.map Prod.fst) (vs ++ F.dfl.map V.p) (ys ++ zs) := rs.append (VRs.ofDats hzs)
    have lr : LRel X F.nm (callEnv fd s.heap.objs.size a) (fun x => ((F.nm.take (F.ar + F.dfl.length)).zip (ys ++ zs)).reverse.lookup x) imm (mu.map Prod.fst) (loc0 F vs) := by
      intro i u x hi hx
      have hlt : i < F.ar + F.dfl.length := by
        unfold loc0 at hi
        by_cases hlt : i < F.ar + F.dfl.length
        · exact hlt
        · rw [List.getElem?_append_right (by simp [har]; lia)] at hi
          have := List.mem_of_getElem? hi
          rw [List.mem_replicate] at this
          cases this.2
      have hx' : (F.nm.take (F.ar + F.dfl.length))[i]? = some x := by rw [List.getElem?_take_of_lt hlt]; exact hx
      have hu : (vs ++ F.dfl.map V.p)[i]? = some u := by
        unfold loc0 at hi
        rw [List.getElem?_append_left (by simp [har]; lia), List.getElem?_map] at hi
        obtain ⟨w, h1, h2⟩ := Option.map_eq_some_iff.mp hi
        cases h2; exact h1
      have hloc : (callEnv fd s.heap.objs.size a).kindOf x = some .local := D.loc x (List.mem_of_getElem? hx')
      obtain ⟨y, q1, q2⟩ := zip_lookup (ys := ys ++ zs) (D.nd.sublist (List.take_sublist _ _)) hx' (by rw [hnl, hyz])
      refine ⟨fun _ => ⟨y, q2, rsz.get hu q1⟩, fun h => ?_⟩
      rw [hloc] at h
      rcases h with h | h <;> cases h
    have a1 : At X ⟨F.nm, fd.scope, gl, ml, fl⟩ (callEnv fd s.heap.objs.size a) gd _ ext (loc0 F vs) mu imm H { s with heap := h₁, toks := s.toks + ((F.nm.take (F.ar + F.dfl.length)).zip (ys ++ zs)).length } := ⟨t1, Nat.le_trans tk (Nat.le_add_right _ _), lr⟩
    refine snd_block (trS_sound (X := X) (n := n) (fa := fa) (g := g) hn k) (c := ⟨F.nm, fd.scope, gl, ml, fl⟩) (b := body) G eo htr hz (Rm.deeper _) Ig a1 fun m' mu' imm' f s' a' g' r' => ?_
    obtain ⟨F', N'⟩ := k5 _ _ _ _ a'.st.fr a'.st.nw
    have tO : St X h₀ L m mu' ext imm' z.2.2 s' := ⟨F', N', a'.st.nd, a'.st.mr, a'.st.g, a'.st.d, a'.st.os⟩
    have hmu : mu.length = H.length := t.mr.length
    obtain ⟨z1, z2, z3⟩ := z
    cases r' with
    | next =>
      simp only at hv
      rw [← hmu] at hv
      obtain ⟨mu2, t2, g2, r2⟩ := tidy_ok tO g' (v := .p .none) (y := .none) (show DatIn imm' Value.none P.none.dat from .none) hv
      exact hR _ _ _ _ t2 a'.tk g2 r2
    | brk => first | exact no hv | exact nob hv | cases hv
    | cont => first | exact no hv | exact nob hv | cases hv
    | ret hr =>
      simp only at hv
      rw [← hmu] at hv
      obtain ⟨mu2, t2, g2, r2⟩ := tidy_ok tO g' hr hv
      exact hR _ _ _ _ t2 a'.tk g2 r2
/-- a program's functions, nested as deep as need be -/
structure Pg where
  tabs : Nat → List P
  init : Nat
  defs : Nat → Option FD
noncomputable def Pg.lvl (p : Pg) : Nat → G
  | 0 => ⟨p.tabs, p.init, fun _ _ _ => none⟩
  | k + 1 => ⟨p.tabs, p.init, fun f vs H => (p.defs f).bind fun F => runF (p.lvl k) F vs H⟩
structure PgOk (X : Wd) (fa : Nat → Addr) (gl : List (Str × GV)) (ml : List (Str × Nat)) (fl : List Str) (p : Pg) : Prop where
  book : nsIn X.K cStatics sharingNotToldKey = some none
  fld : ∀ x ∈ fl, FldOk X x
  gv : ∀ x v, gl.lookup x = some v → GVOk X fa x v
  meth : ∀ x f, ml.lookup x = some f → MethOk X fa x f
  cls : ClsOk X fa p.init
  tabs : Tabs X p.tabs
  defs : ∀ f F, p.defs f = some F → ∃ fd body, DefOk X gl ml fl F (fa f) fd body
theorem PgOk.lvl {gl ml fl} {p : Pg} (h : PgOk X fa gl ml fl p) : ∀ k, GOk X fa gl ml fl (p.lvl k) (2 * k)
  | 0 => ⟨h.fld, h.gv, h.meth, h.cls, h.tabs, fun _ _ _ _ _ e => nomatch e⟩
  | k + 1 => ⟨h.fld, h.gv, h.meth, h.cls, h.tabs, fun f vs H v H' e => by
      obtain ⟨F, h1, h2⟩ := Option.bind_eq_some_iff.mp e
      obtain ⟨fd, body, D⟩ := h.defs f F h1
      exact call_ok h.book (h.lvl k) D h2⟩
end
end Mine
end
section
open PySem PySem.W PyProof.Rows
set_option Elab.async false
set_option maxRecDepth 100000
set_option maxHeartbeats 8000000
namespace Mine
noncomputable abbrev pF : Program := PySem.Challenge.pw_ku0010_01
theorem pF_eq : PySem.Challenge.pw_ku0010_01 = pF := rfl
noncomputable abbrev fImp := @PySem.W.Fast.tw10274390034422433532
noncomputable abbrev fStart := @PySem.W.Fast.tw1435165496053646825
noncomputable abbrev fTab := PySem.W.Fast.tw14364793385576792824
noncomputable abbrev fTopGo := @PySem.W.Fast.tw15667345088766844465
noncomputable abbrev fTopRun := @PySem.W.Fast.tw14082659384304107361
noncomputable abbrev fSegRun := @PySem.W.Fast.tw14374325043358763698
noncomputable abbrev fSegRunT := @PySem.W.Fast.tw10110043849684766642
noncomputable abbrev fExecs := @PySem.W.Fast.tw12563942051412417395
noncomputable abbrev fBlock := @PySem.W.Fast.tw1066825118222455980
noncomputable abbrev fDen := @PySem.W.Fast.tw11892475500146522536
noncomputable def w0 (P : Params) : World := ⟨fun _ _ => 0, { P with followText := fun _ => false }⟩
noncomputable def opR (w : World) : Option Shared := fImp fTab (opening pF) w 600 (fStart (opening pF)).1 (fStart (opening pF)).2
noncomputable def he (P : Params) : Heap := (opR (w0 P)).elim ⟨#[], {}⟩ (·.heap)
theorem op_run (w : World) : opR w = some ⟨he w.params, #[], {}, 181, (fStart (opening pF)).1.os⟩ := by kernel_rfl
noncomputable def env0 : Env := { scope := pF.main.scope, locals := mainNs, globals := mainNs, cells := [], code := .ref 13, frame := some 14 }
noncomputable def cE : Code := .body (behindTheImports pF) env0
noncomputable def preR (w : World) (os : OsState) := fTopGo fTab pF w 11 (some (.ref 6)) 12 ⟨he w.params, #[], {}, 181, os⟩ (topStub pF)
noncomputable def ha (P : Params) : Heap := (preR (w0 P) default).elim ⟨#[], {}⟩ (·.1.heap)
theorem pre_run (w : World) (os : OsState) : preR w os = some (⟨ha w.params, #[], {}, 187, os⟩, ⟨fDen fTab cE, cE, ⟨0, 0, 0, 0⟩, [topFrame ⟨0, 0, 0, 0⟩]⟩) := by kernel_rfl
noncomputable def mkT (os : Array Obj) : Nat → Nat → Nat → BT
  | 0, _, _ => .nil
  | f + 1, a, b => (os[b]?).elim .nil fun o => .node o (mkT os f (2 * a) (a + b)) (mkT os f (2 * a) (2 * a + b))
noncomputable def t0 (P : Params) : BT := mkT (ha P).objs 10 1 0
noncomputable def sg (w : World) (os : OsState) (n : Nat) (T : BT) (m k : Nat) (l : List Stmt) (pos : Pos) :=
  fSegRunT fTab pF w 11 (some (.ref 6)) 1 n ⟨T, m, {}, #[], {}, k, os⟩ ⟨(fExecs l env0).wrap doneF deadEnd id id, cE, pos, [topFrame ⟨0, 0, 0, 0⟩]⟩
noncomputable def bd (i k : Nat) : List Stmt := ((behindTheImports pF).drop i).take k
noncomputable def tr' (r : Option (Flow × SharedT × Code × Pos)) : BT := r.elim .nil (·.2.1.tree)
theorem block_run (w : World) (os : OsState) : fSegRun fTab pF w 11 (some (.ref 6)) 1 1 ⟨ha w.params, #[], {}, 187, os⟩ ⟨(fBlock (behindTheImports pF) env0).wrap (fun _ => doneF .next) deadEnd id id, cE, ⟨0, 0, 0, 0⟩, [topFrame ⟨0, 0, 0, 0⟩]⟩ =
    some (.next, (SharedT.mk (t0 w.params) 15 {} #[] {} 187 os).abs, cE, ⟨0, 0, 0, 0⟩) := by kernel_rfl
noncomputable def t1 (P : Params) : BT := tr' (sg (w0 P) default 600 (t0 P) 15 187 (bd 0 5) ⟨0, 0, 0, 0⟩)
theorem row_of {P : World → Prop} (h0 : ∀ w : World, P (w.withFollow "special-get-raises" false)) (h1 : ∀ w : World, P (w.withFollow "special-get-raises" true)) (w : World) : P w := byRow2 _ h0 h1 w
theorem seg1 (w : World) (os : OsState) : sg w os 600 (t0 w.params) 15 187 (bd 0 5) ⟨0, 0, 0, 0⟩ = some (.next, ⟨t1 w.params, 88, {}, #[], {}, 303, os⟩, cE, ⟨67, 0, 67, 2⟩) := by
  refine row_of (P := fun w => sg w os 600 (t0 w.params) 15 187 (bd 0 5) ⟨0, 0, 0, 0⟩ = some (.next, ⟨t1 w.params, 88, {}, #[], {}, 303, os⟩, cE, ⟨67, 0, 67, 2⟩)) (fun w => ?_) (fun w => ?_) w
  · kernel_rfl
  · kernel_rfl
/-! a run cut in two: so many steps first, the rest behind -/
noncomputable def goG {S T F : Type} (E : T → Option F) (C : T → Bool) (N : S → T → Option (S × T)) (k : Nat) : S → T → Option (S × T) :=
  Nat.rec (motive := fun _ => S → T → Option (S × T)) (fun s t => some (s, t)) (fun _ r s t => (E t).elim (bif C t then (N s t).elim none fun p => r p.1 p.2 else none) fun _ => none) k
theorem el_0 {α : Type} {x : α} {C : Prop} (h : Option.none = some x) : C := nomatch h
theorem el_1 {α β γ : Type} {f : α → Option β} {g : α → γ} {r z : γ} {q : β} (hf : ∀ a, f a = some q → g a = r) {x : Option α} : x.elim none f = some q → x.elim z g = r :=
  Option.rec (motive := fun x => x.elim none f = some q → x.elim z g = r) (fun h => el_0 h) hf x
theorem el_2 {α β γ : Type} {u : Option β} {v r : γ} {g : α → γ} {q : β} (hf : u = some q → v = r) {x : Option α} : x.elim u (fun _ => .none) = some q → x.elim v g = r :=
  Option.rec (motive := fun x => x.elim u (fun _ => .none) = some q → x.elim v g = r) hf (fun _ h => el_0 h) x
theorem el_3 {β γ : Type} {u : Option β} {v r z : γ} {q : β} (hf : u = some q → v = r) {b : Bool} : (bif b then u else .none) = some q → (bif b then v else z) = r :=
  Bool.rec (motive := fun b => (bif b then u else .none) = some q → (bif b then v else z) = r) (fun h => el_0 h) hf b
theorem cut_run {S T R F : Type} {E : T → Option F} {C : T → Bool} {N : S → T → Option (S × T)} {G : Nat → S → T → Option R} {D : F → S → T → Option R}
    (hG : ∀ n s t, G (n + 1) s t = (E t).elim (bif C t then (N s t).elim none fun p => G n p.1 p.2 else none) fun f => D f s t)
    {m : Nat} {q : S × T} (k : Nat) : ∀ s t, goG E C N k s t = some q → G (m + k) s t = G m q.1 q.2 := by
  induction k with
  | zero => exact fun s t h => congrArg (fun p => G m p.1 p.2) (Option.some.inj h)
  | succ k ih =>
    intro s t h
    replace h : (E t).elim (bif C t then (N s t).elim none fun p => goG E C N k p.1 p.2 else none) (fun _ => none) = some q := h
    exact (hG (m + k) s t).trans (el_2 (el_3 (el_1 fun (p : S × T) => ih p.1 p.2)) h)
noncomputable def fChk := @PySem.W.Fast.tw6613529449190102663 11 (some (.ref 6))
noncomputable def fStepT := @PySem.W.Fast.tw10156331382660048174 (fDen fTab) pF
noncomputable def fSg (w : World) := fSegRunT fTab pF w 11 (some (.ref 6)) 1
noncomputable def thA (l : List Stmt) (pos : Pos) : Thread := ⟨(fExecs l env0).wrap doneF deadEnd id id, cE, pos, [topFrame ⟨0, 0, 0, 0⟩]⟩
noncomputable def hgo (w : World) := goG (endAt 1) fChk (fStepT w)
theorem fSg_succ (w : World) (n : Nat) (s : SharedT) (t : Thread) : fSg w (n + 1) s t = (endAt 1 t).elim (bif fChk t then (fStepT w s t).elim none fun p => fSg w n p.1 p.2 else none) fun f => some (f, s, t.code, t.pos) := by kernel_rfl
theorem hgo_at {w : World} {n m k : Nat} {s : SharedT} {t : Thread} {q : SharedT × Thread} (h : hgo w k s t = some q) (e : n = m + k) : fSg w n s t = fSg w m q.1 q.2 := by
  subst e; exact cut_run (fSg_succ w) k s t h
theorem sg_eq (w : World) (os : OsState) (n : Nat) (T : BT) (m k : Nat) (l : List Stmt) (pos : Pos) : sg w os n T m k l pos = fSg w n ⟨T, m, {}, #[], {}, k, os⟩ (thA l pos) := rfl
end Mine
end
section
open PySem PySem.W PyProof.Rows
set_option Elab.async false
set_option maxRecDepth 100000
set_option maxHeartbeats 8000000
namespace Mine
noncomputable def hxd (d : Nat) : Nat := bif Nat.ble d 9 then 48 + d else 55 + d
noncomputable def mapN (n : Nat) : List Value := (List.range n).map fun c => .str ⟨⟨[61, hxd (c / 16), hxd (c % 16)]⟩⟩ (309 + 4 * c)
noncomputable def mapV : List Value := mapN 256
noncomputable def listO (l : List Value) (k : Nat) : Obj := { cls := .type "list", data := .seq ⟨l⟩ k }
noncomputable def pushE (P : Params) (nm : List Nat) (tk : Nat) (v : Value) (o : Obj) : Obj := match o.data with
  | .dict es k => { o with data := .dict (es.push ⟨PyData.keyHash P ⟨⟨nm⟩⟩, .str ⟨⟨nm⟩⟩ tk, v⟩) (k + 1) }
  | _ => o
noncomputable def stopO (a : Nat) : Obj := { cls := .type "StopIteration", data := .fields #[.ref a, .none, .none, .none, .bool false, .none] }
noncomputable def tupO : Obj := { cls := .type "tuple", data := .seq #[] }
noncomputable def t5 (P : Params) : BT :=
  (((((((t1 P).set 3 (pushE P [95, 81, 85, 79, 80, 82, 73, 95, 77, 65, 80] 1330 (.ref 90))).ins 88 { cls := .type "range", data := .fields #[.int 0 304, .int 256 303, .int 1 305] }).ins 89
    { cls := .type "range_iterator", data := .fields #[.int 256 0, .int 0 0, .int 1 0] }).ins 90 (listO mapV 256)).ins 91 { cls := .type "dict", data := .dict #[] 2 }).ins 92 tupO).ins 93 (stopO 92)
/-! the comprehension: its head's thread, its state at entry c; 37 steps an entry -/
noncomputable abbrev th5 : Thread := thA (bd 5 1) ⟨67, 0, 67, 2⟩
noncomputable def thL (P : Params) : Thread := (hgo (w0 P) 52 ⟨t1 P, 88, {}, #[], {}, 303, default⟩ th5).elim th5 (·.2)
noncomputable def thM (P : Params) : Thread := ⟨(thL P).cur, (thL P).code, ⟨68, 15, 68, 26⟩, (thL P).stack⟩
noncomputable def tC (P : Params) (c : Nat) (d : Obj) : BT :=
  ((((t1 P).ins 88 { cls := .type "range", data := .fields #[.int 0 304, .int 256 303, .int 1 305] }).ins 89
    { cls := .type "range_iterator", data := .fields #[.int c 0, .int (Int.subNatNat 256 c) 0, .int 1 0] }).ins 90 (listO (mapN c) c)).ins 91 d
noncomputable def d0 : Obj := { cls := .type "dict", data := .dict #[] }
noncomputable def dC (P : Params) (c : Nat) : Obj := { cls := .type "dict", data := .dict #[⟨PyData.keyHash P ⟨⟨[99]⟩⟩, .str ⟨⟨[99]⟩⟩ 307, .int (Int.subNatNat c 1) (302 + 4 * c)⟩] 1 }
noncomputable def sC (P : Params) (os : OsState) (c : Nat) (d : Obj) : SharedT := ⟨tC P c d, 92, {}, #[], {}, 306 + 4 * c, os⟩
noncomputable def p5 (os : OsState) (P : Params) (c : Nat) : SharedT × Thread := bif Nat.beq c 0 then (sC P os 0 d0, thL P) else (sC P os c (dC P c), thM P)
noncomputable def Ch5 (os : OsState) (w : World) (c d : Nat) : Prop := hgo w 1184 (p5 os w.params c).1 (p5 os w.params c).2 = some (p5 os w.params d)
noncomputable def Run5 (os : OsState) (w : World) (n : Nat) (p : SharedT × Thread) : Prop := fSg w n p.1 p.2 = some (.next, ⟨t5 w.params, 94, {}, #[], {}, 1331, os⟩, cE, ⟨68, 0, 68, 11⟩)
theorem ch5 {os : OsState} {w : World} {c d : Nat} (n : Nat) {l : Nat} (h : Ch5 os w c d) (e : l = n + 1184) (r : Run5 os w n (p5 os w.params d)) : Run5 os w l (p5 os w.params c) := (hgo_at h e).trans r
theorem c_0 (w : World) (os : OsState) : Ch5 os w 0 32 := by unfold Ch5; kernel_rfl
theorem c_32 (w : World) (os : OsState) : Ch5 os w 32 64 := by unfold Ch5; kernel_rfl
theorem c_64 (w : World) (os : OsState) : Ch5 os w 64 96 := by unfold Ch5; kernel_rfl
theorem c_96 (w : World) (os : OsState) : Ch5 os w 96 128 := by unfold Ch5; kernel_rfl
theorem c_128 (w : World) (os : OsState) : Ch5 os w 128 160 := by unfold Ch5; kernel_rfl
theorem c_160 (w : World) (os : OsState) : Ch5 os w 160 192 := by unfold Ch5; kernel_rfl
theorem c_192 (w : World) (os : OsState) : Ch5 os w 192 224 := by unfold Ch5; kernel_rfl
theorem c_224 (w : World) (os : OsState) : Ch5 os w 224 256 := by unfold Ch5; kernel_rfl
theorem c_256 (w : World) (os : OsState) (m : Nat) : Run5 os w (m + 76) (p5 os w.params 256) := by unfold Run5; kernel_rfl
theorem s5_f (w : World) (os : OsState) : Run5 os w 9548 (p5 os w.params 0) :=
  ch5 8364 (c_0 w os) rfl (ch5 7180 (c_32 w os) rfl (ch5 5996 (c_64 w os) rfl (ch5 4812 (c_96 w os) rfl (ch5 3628 (c_128 w os) rfl (ch5 2444 (c_160 w os) rfl (ch5 1260 (c_192 w os) rfl (ch5 76 (c_224 w os) rfl (c_256 w os 0))))))))
theorem s5_t (w : World) (os : OsState) : Run5 os w 9558 (p5 os w.params 0) :=
  ch5 8374 (c_0 w os) rfl (ch5 7190 (c_32 w os) rfl (ch5 6006 (c_64 w os) rfl (ch5 4822 (c_96 w os) rfl (ch5 3638 (c_128 w os) rfl (ch5 2454 (c_160 w os) rfl (ch5 1270 (c_192 w os) rfl (ch5 86 (c_224 w os) rfl (c_256 w os 10))))))))
noncomputable abbrev fw (w : World) (a b : Bool) : World := (w.withFollow "comprehension-iter-twice" a).withFollow "special-get-raises" b
noncomputable def Seg5 (os : OsState) (w : World) : Prop := sg w os 9600 (t1 w.params) 88 303 (bd 5 1) ⟨67, 0, 67, 2⟩ = some (.next, ⟨t5 w.params, 94, {}, #[], {}, 1331, os⟩, cE, ⟨68, 0, 68, 11⟩)
noncomputable def Hd5 (os : OsState) (k : Nat) (w : World) : Prop := hgo w k ⟨t1 w.params, 88, {}, #[], {}, 303, os⟩ th5 = some (p5 os w.params 0)
theorem seg5_of {os : OsState} {k m : Nat} {w : World} (h : Hd5 os k w) (e : 9600 = m + k) (g : Run5 os w m (p5 os w.params 0)) : Seg5 os w :=
  (sg_eq w os 9600 _ _ _ _ _).trans ((hgo_at h e).trans g)
theorem h_ff (w : World) (os : OsState) : Hd5 os 52 (fw w false false) := by unfold Hd5; kernel_rfl
theorem seg5_ff (w : World) (os : OsState) : Seg5 os (fw w false false) := seg5_of (h_ff w os) rfl (s5_f _ os)
theorem h_ft (w : World) (os : OsState) : Hd5 os 52 (fw w false true) := by unfold Hd5; kernel_rfl
theorem seg5_ft (w : World) (os : OsState) : Seg5 os (fw w false true) := seg5_of (h_ft w os) rfl (s5_f _ os)
theorem h_tf (w : World) (os : OsState) : Hd5 os 42 (fw w true false) := by unfold Hd5; kernel_rfl
theorem seg5_tf (w : World) (os : OsState) : Seg5 os (fw w true false) := seg5_of (h_tf w os) rfl (s5_t _ os)
theorem h_tt (w : World) (os : OsState) : Hd5 os 42 (fw w true true) := by unfold Hd5; kernel_rfl
theorem seg5_tt (w : World) (os : OsState) : Seg5 os (fw w true true) := seg5_of (h_tt w os) rfl (s5_t _ os)
theorem seg5 (w : World) (os : OsState) : sg w os 9600 (t1 w.params) 88 303 (bd 5 1) ⟨67, 0, 67, 2⟩ = some (.next, ⟨t5 w.params, 94, {}, #[], {}, 1331, os⟩, cE, ⟨68, 0, 68, 11⟩) :=
  byRow2 (P := Seg5 os) "special-get-raises"
    (byRow2 (P := fun u => Seg5 os (u.withFollow "special-get-raises" false)) "comprehension-iter-twice" (fun w => seg5_ff w os) fun w => seg5_tf w os)
    (byRow2 (P := fun u => Seg5 os (u.withFollow "special-get-raises" true)) "comprehension-iter-twice" (fun w => seg5_ft w os) fun w => seg5_tt w os) w
end Mine
end
section
open PySem PySem.W PyProof.Rows
set_option Elab.async false
set_option maxRecDepth 100000
set_option maxHeartbeats 8000000
namespace Mine
noncomputable def t13 (P : Params) : BT := tr' (sg (w0 P) default 200 (t5 P) 94 1331 (bd 6 8) ⟨68, 0, 68, 11⟩)
theorem seg13 (w : World) (os : OsState) : sg w os 200 (t5 w.params) 94 1331 (bd 6 8) ⟨68, 0, 68, 11⟩ = some (.next, ⟨t13 w.params, 98, {}, #[], {}, 1348, os⟩, cE, ⟨76, 0, 76, 8⟩) := by kernel_rfl
noncomputable def updV : List Nat → Nat → List Value → List Value
  | [], _, l => l
  | c :: r, k, l => updV r (k + 3) (l.set c (.str ⟨⟨[c]⟩⟩ k))
noncomputable def rng (a n : Nat) : List Nat := (List.range n).map fun i => a + i
noncomputable def hdrV : List Value := updV ([45, 33, 42, 43, 47] ++ rng 97 26 ++ rng 65 26 ++ rng 48 10) 1357 mapV
noncomputable def bdyV : List Value := updV (rng 32 29 ++ rng 62 65 ++ [9]) 1562 mapV
noncomputable def lastE (v : Value) (o : Obj) : Obj := match o.data with
  | .dict es k => { o with data := .dict (es.pop.push { es.back! with val := v }) k }
  | _ => o
noncomputable def bytesO (n : Int) : Obj := { cls := .type "bytes_iterator", data := .fields #[.none, .int n 0] }
noncomputable def t14 (P : Params) : BT :=
  (((((t13 P).set 3 (pushE P [99] 1356 (.int 57 1553))).set 95 (fun _ => listO hdrV 0)).ins 98 (bytesO 67)).ins 99 tupO).ins 100 (stopO 99)
theorem seg14 (w : World) (os : OsState) : sg w os 3200 (t13 w.params) 98 1348 (bd 14 1) ⟨76, 0, 76, 8⟩ = some (.next, ⟨t14 w.params, 101, {}, #[], {}, 1556, os⟩, cE, ⟨77, 9, 77, 74⟩) := by
  refine row_of (P := fun w => sg w os 3200 (t13 w.params) 98 1348 (bd 14 1) ⟨76, 0, 76, 8⟩ = some (.next, ⟨t14 w.params, 101, {}, #[], {}, 1556, os⟩, cE, ⟨77, 9, 77, 74⟩)) (fun w => ?_) (fun w => ?_) w
  · kernel_rfl
  · kernel_rfl
noncomputable def t15 (P : Params) : BT := tr' (sg (w0 P) default 200 (t14 P) 101 1556 (bd 15 1) ⟨77, 9, 77, 74⟩)
theorem seg15 (w : World) (os : OsState) : sg w os 200 (t14 w.params) 101 1556 (bd 15 1) ⟨77, 9, 77, 74⟩ = some (.next, ⟨t15 w.params, 101, {}, #[], {}, 1559, os⟩, cE, ⟨79, 0, 79, 28⟩) := by kernel_rfl
noncomputable def t16 (P : Params) : BT :=
  (((((t15 P).set 3 (lastE (.int 9 1842))).set 97 (fun _ => listO bdyV 0)).ins 101 (bytesO 95)).ins 102 tupO).ins 103 (stopO 102)
theorem seg16 (w : World) (os : OsState) : sg w os 4400 (t15 w.params) 101 1559 (bd 16 1) ⟨79, 0, 79, 28⟩ = some (.next, ⟨t16 w.params, 104, {}, #[], {}, 1845, os⟩, cE, ⟨80, 9, 80, 110⟩) := by
  refine row_of (P := fun w => sg w os 4400 (t15 w.params) 101 1559 (bd 16 1) ⟨79, 0, 79, 28⟩ = some (.next, ⟨t16 w.params, 104, {}, #[], {}, 1845, os⟩, cE, ⟨80, 9, 80, 110⟩)) (fun w => ?_) (fun w => ?_) w
  · kernel_rfl
  · kernel_rfl
noncomputable def t29 (P : Params) : BT := tr' (sg (w0 P) default 600 (t16 P) 104 1845 (bd 17 13) ⟨80, 9, 80, 110⟩)
theorem seg29 (w : World) (os : OsState) : sg w os 600 (t16 w.params) 104 1845 (bd 17 13) ⟨80, 9, 80, 110⟩ = some (.next, ⟨t29 w.params, 170, {}, #[], {}, 1942, os⟩, cE, ⟨182, 0, 249, 59⟩) := by
  refine row_of (P := fun w => sg w os 600 (t16 w.params) 104 1845 (bd 17 13) ⟨80, 9, 80, 110⟩ = some (.next, ⟨t29 w.params, 170, {}, #[], {}, 1942, os⟩, cE, ⟨182, 0, 249, 59⟩)) (fun w => ?_) (fun w => ?_) w
  · kernel_rfl
  · kernel_rfl
end Mine
end
section
open PySem PySem.W PyProof.Rows
set_option Elab.async false
set_option maxRecDepth 100000
set_option maxHeartbeats 8000000
namespace Mine
theorem e_topGo : @topGo = fTopGo := PySem.W.Fast.te15667345088766844465
theorem e_segRun : @segRun = fSegRun := PySem.W.Fast.te14374325043358763698
theorem e_segRunT : @segRunT = fSegRunT := PySem.W.Fast.te10110043849684766642
theorem e_tab : treeTable = fTab := PySem.W.Fast.te14364793385576792824
theorem e_execs : @execs = fExecs := PySem.W.Fast.te12563942051412417395
theorem e_block : @blockStart = fBlock := PySem.W.Fast.te1066825118222455980
theorem e_den : @denote = fDen := PySem.W.Fast.te11892475500146522536
theorem e_imp : @importEnds = fImp := PySem.W.Fast.te10274390034422433532
theorem e_start : @start = fStart := PySem.W.Fast.te1435165496053646825
noncomputable abbrev stO (h : Heap) (k : Nat) (os : OsState) : Shared := ⟨h, #[], {}, k, os⟩
noncomputable abbrev stT (T : BT) (m k : Nat) (os : OsState) : SharedT := ⟨T, m, {}, #[], {}, k, os⟩
theorem sg_run {w : World} {os : OsState} {n m m' k k' : Nat} {T T' : BT} {l : List Stmt} {pos pos' : Pos} (h : sg w os n T m k l pos = some (.next, stT T' m' k' os, cE, pos')) :
    segRun treeTable pF w 11 (some (.ref 6)) 1 n (stT T m k os).abs (piecesOf l env0 cE pos [topFrame ⟨0, 0, 0, 0⟩]) = some (.next, (stT T' m' k' os).abs, cE, pos') := by
  refine segRun_of ?_
  have e : segRunT treeTable pF w 11 (some (.ref 6)) 1 n (stT T m k os) (piecesOf l env0 cE pos [topFrame ⟨0, 0, 0, 0⟩]) = sg w os n T m k l pos := by
    rw [e_tab, e_segRunT]
    show fSegRunT fTab pF w 11 (some (.ref 6)) 1 n (stT T m k os) ⟨(execs l env0).wrap doneF deadEnd id id, cE, pos, [topFrame ⟨0, 0, 0, 0⟩]⟩ = _
    rw [e_execs]
    rfl
  rw [e]; exact h
theorem body_cut : behindTheImports pF = bd 0 5 ++ (bd 5 1 ++ (bd 6 8 ++ (bd 14 1 ++ (bd 15 1 ++ (bd 16 1 ++ (bd 17 13 ++ [])))))) := by kernel_rfl
noncomputable def h1 (P : Params) : Heap := absHeap (t29 P) 170 {}
theorem fin_run (w : World) (os : OsState) : topRun treeTable pF w 11 (some (.ref 6)) 10 (stT (t29 w.params) 170 1942 os).abs ⟨doneF .next, cE, ⟨182, 0, 249, 59⟩, [topFrame ⟨0, 0, 0, 0⟩]⟩ = some (stO (h1 w.params) 1942 os) := by kernel_rfl
theorem top_run (w : World) (os : OsState) : topRun treeTable pF w 11 (some (.ref 6)) (12 + (1 + (600 + (9600 + (200 + (3200 + (200 + (4400 + (600 + 10))))))))) (stO (he w.params) 181 os) (topStub pF) = some (stO (h1 w.params) 1942 os) := by
  refine go_top (s' := stO (ha w.params) 187 os) (t' := ⟨denote treeTable cE, cE, ⟨0, 0, 0, 0⟩, [topFrame ⟨0, 0, 0, 0⟩]⟩) ?_ ?_
  · rw [e_topGo, e_tab, e_den]
    have h := pre_run w os
    unfold preR at h
    exact h
  · show topRun treeTable pF w 11 (some (.ref 6)) _ _ ⟨denote treeTable (.body (behindTheImports pF) env0), cE, ⟨0, 0, 0, 0⟩, [topFrame ⟨0, 0, 0, 0⟩]⟩ = _
    refine piece_block (s' := (stT (t0 w.params) 15 187 os).abs) (p' := ⟨0, 0, 0, 0⟩) ?_ ?_
    · rw [e_segRun, e_tab]
      show fSegRun fTab pF w 11 (some (.ref 6)) 1 1 _ ⟨(blockStart (behindTheImports pF) env0).wrap (fun _ => doneF .next) deadEnd id id, _, _, _⟩ = _
      rw [e_block]
      exact block_run w os
    · rw [body_cut]
      refine piece_app (sg_run (seg1 w os)) ?_
      refine piece_app (sg_run (seg5 w os)) ?_
      refine piece_app (sg_run (seg13 w os)) ?_
      refine piece_app (sg_run (seg14 w os)) ?_
      refine piece_app (sg_run (seg15 w os)) ?_
      refine piece_app (sg_run (seg16 w os)) ?_
      refine piece_app (sg_run (seg29 w os)) ?_
      exact piece_nil (fin_run w os)
theorem open_run (w : World) : (fencedOpening treeTable pF w 20000).map (fun s => (s.heap, s.gens, s.drawn, s.toks)) = some (he w.params, #[], {}, 181) := by
  refine open_cut (M := 600) (He := he) (ge := #[]) (de := {}) (ke := 181) (fun w => ?_) (by decide) (fun w => ?_) w
  · rw [e_imp, e_tab, e_start]
    have h := op_run w
    unfold opR at h
    exact h
  · kernel_rfl
theorem size_run (w : World) : ((he w.params).isNs mainGlobals && (#[] : Array GenState).size == 0, (he w.params).objs.size, (he w.params).nsMap mainGlobals "__annotations__") = (true, 11, some (.ref 6)) := by kernel_rfl
end Mine
end
section
open PySem PySem.W PyProof.Rows
set_option Elab.async false
set_option maxRecDepth 100000
set_option maxHeartbeats 8000000
namespace Mine
noncomputable def qF : Program := { pF with main := { pF.main with body := bd 29 1 } }
noncomputable def looseL : List Str := [⟨⟨[95, 119, 97, 108, 108]⟩⟩, ⟨⟨[87, 104, 105, 116, 101, 115, 112, 97, 99, 101]⟩⟩, ⟨⟨[67, 82, 76, 70]⟩⟩, ⟨⟨[78, 76]⟩⟩, ⟨⟨[95, 81, 85, 79, 80, 82, 73, 95, 77, 65, 80]⟩⟩, ⟨⟨[95, 81, 85, 79, 80, 82, 73, 95, 72, 69, 65, 68, 69, 82, 95, 77, 65, 80]⟩⟩, ⟨⟨[95, 81, 85, 79, 80, 82, 73, 95, 66, 79, 68, 89, 95, 77, 65, 80]⟩⟩, ⟨⟨[97, 115, 99, 105, 105, 95, 108, 111, 119, 101, 114, 99, 97, 115, 101]⟩⟩, ⟨⟨[97, 115, 99, 105, 105, 95, 117, 112, 112, 101, 114, 99, 97, 115, 101]⟩⟩, ⟨⟨[97, 115, 99, 105, 105, 95, 108, 101, 116, 116, 101, 114, 115]⟩⟩, ⟨⟨[100, 105, 103, 105, 116, 115]⟩⟩, ⟨⟨[104, 101, 120, 100, 105, 103, 105, 116, 115]⟩⟩, ⟨⟨[117, 110, 113, 117, 111, 116, 101]⟩⟩, ⟨⟨[113, 117, 111, 116, 101]⟩⟩, ⟨⟨[95, 81, 85, 79, 80, 82, 73, 95, 66, 79, 68, 89, 95, 69, 78, 67, 79, 68, 69, 95, 77, 65, 80]⟩⟩, ⟨⟨[98, 111, 100, 121, 95, 101, 110, 99, 111, 100, 101]⟩⟩, ⟨⟨[100, 101, 99, 111, 100, 101]⟩⟩, ⟨⟨[95, 108, 97, 119, 95, 110, 117, 109, 98, 101, 114, 115]⟩⟩, ⟨⟨[95, 108, 97, 119, 95, 114, 111, 119, 115]⟩⟩, ⟨⟨[95, 108, 97, 119, 95, 119, 114, 105, 116, 116, 101, 110]⟩⟩, ⟨⟨[95, 108, 97, 119, 95, 99, 111, 108, 117, 109, 110]⟩⟩]
noncomputable def asK : List Addr := [2, 3, 15, 17, 18, 20, 21, 32, 34, 35, 37, 38, 39, 41, 42, 44, 45, 46, 48, 49, 51, 52, 53, 55, 56, 58, 59, 60, 62, 63, 65, 66, 67, 69, 70, 72, 73, 74, 76, 77, 79, 80, 81, 82, 83, 84, 85, 90, 104, 106, 107, 109, 110, 111, 113, 114, 116, 117, 119, 123, 124, 126, 127, 129, 130, 131, 132, 134, 135, 137, 138, 139, 142, 143, 144, 146, 147, 149, 150, 151, 153, 154, 156, 157, 158, 160, 161, 163, 164, 165, 168, 169]
noncomputable def kF (P : Params) : Frag := asK.map fun a => (a, ((t29 P).get a).getD default)
theorem asK_eq (P : Params) : asK = (kF P).map (·.1) := by kernel_rfl
noncomputable def hkF : Hook := kHook kF asK asK_eq
noncomputable def xtF (s : Shared) : Bool := xlAt qF [] s && recOk (RowW.records (OpenRow.toRowW (OpenLaw.row PySem.Challenge.rw_ku0010_01))) s
noncomputable abbrev fSeen := @PySem.W.Fast.tw4187177175401517315
theorem e_seen : @openSeen = fSeen := PySem.W.Fast.te4187177175401517315
theorem look1 (w : World) (os : OsState) : (staticsOk (importedModules pF.main.body) (he w.params) (h1 w.params) && namesBound pF (h1 w.params) && gensDone (stO (h1 w.params) 1942 os) && laidKept (he w.params) (h1 w.params)) = true := by kernel_rfl
theorem look2 (w : World) (os : OsState) : fSeen qF looseL (importedModules pF.main.body) xtF true (stO (h1 w.params) 1942 os) = openGood qF looseL := by kernel_rfl
theorem look3 (w : World) (os : OsState) : Hook.obs hkF (stO (h1 w.params) 1942 os) = Hook.val hkF w := by kernel_rfl
end Mine
end
section
open PySem PySem.W PyProof.Rows
set_option Elab.async false
set_option maxRecDepth 100000
set_option maxHeartbeats 8000000
namespace Mine
theorem look2' (w : World) (os : OsState) : openSeen qF looseL (importedModules pF.main.body) xtF true (stO (h1 w.params) 1942 os) = openGood qF looseL := by
  have h := look2 w os
  rw [← e_seen] at h
  exact h
theorem looks_F (w : World) : (fun os => ((staticsOk (importedModules pF.main.body) (he w.params) (h1 w.params) && namesBound pF (h1 w.params) && gensDone (stO (h1 w.params) 1942 os) && laidKept (he w.params) (h1 w.params)),
        openSeen qF looseL (importedModules pF.main.body) xtF true (stO (h1 w.params) 1942 os), Hook.obs hkF (stO (h1 w.params) 1942 os))) = fun _ => (true, openGood qF looseL, Hook.val hkF w) :=
  funext fun os => looks_pair (look1 w os) (looks_pair (look2' w os) (look3 w os))
theorem left_F : LeftO pF qF looseL xtF (Hook.obs hkF) (Hook.val hkF) 20000 :=
  LeftO.of_pieces (p := pF) (q := qF) (loose := looseL) (Xt := xtF) (Yf := Hook.obs hkF) (Ya := Hook.val hkF) (N := 20000) (g0 := true) (m₀ := 11) (ann := some (.ref 6)) (M := 12 + (1 + (600 + (9600 + (200 + (3200 + (200 + (4400 + (600 + 10)))))))))
    (H₀ := he) (H₁ := h1) (gs₀ := #[]) (gs₁ := #[]) (d₀ := {}) (d₁ := {}) (k₀ := 181) (k₁ := 1942) open_run size_run top_run rfl looks_F
theorem left_P : LeftO PySem.Challenge.pw_ku0010_01 qF looseL xtF (Hook.obs hkF) (Hook.val hkF) 20000 :=
  pF_eq.symm ▸ left_F
end Mine
end
section
open PySem PySem.W PyProof.Rows
set_option Elab.async false
set_option maxRecDepth 100000
set_option maxHeartbeats 8000000
namespace Mine
noncomputable def qOf (p : Program) : Program := { p with main := { p.main with body := ((behindTheImports p).drop 29).take 1 } }
noncomputable def xtOf (q : Program) (s : Shared) : Bool := xlAt q [] s && recOk (RowW.records (OpenRow.toRowW (OpenLaw.row PySem.Challenge.rw_ku0010_01))) s
theorem left_Q : LeftO PySem.Challenge.pw_ku0010_01 (qOf PySem.Challenge.pw_ku0010_01) looseL (xtOf (qOf PySem.Challenge.pw_ku0010_01)) (Hook.obs hkF) (Hook.val hkF) 20000 := by
  have h : LeftO PySem.Challenge.pw_ku0010_01 (qOf pF) looseL (xtOf (qOf pF)) (Hook.obs hkF) (Hook.val hkF) 20000 := left_P
  have e : qOf PySem.Challenge.pw_ku0010_01 = qOf pF := congrArg qOf pF_eq
  rw [e]
  exact h
end Mine
end
section
open PySem PySem.W PyProof.Rows PyProof.V
set_option Elab.async false
set_option maxRecDepth 20000
namespace Mine
noncomputable def pnm_init : List Str := [(Str.ofString "self"), (Str.ofString "ws"), (Str.ofString "S"), (Str.ofString "T"), (Str.ofString "count"), (Str.ofString "b"), (Str.ofString "n"), (Str.ofString "nt"), (Str.ofString "ch")]
noncomputable def pb_init : List T := [.asgF (.loc 0) (Str.ofString "raw") (.loc 1),
  .asgS [2, 3] (.tup [(.lit (.str [32])), (.lit (.str [9]))]),
  .asg (.one 4) (.lst []),
  .asgM [5, 6, 7] (.lit (.int (0))),
  .fore (.one 8) (.fld (.loc 0) (Str.ofString "raw")) [.ifs (.cmp .eq (.loc 8) (.loc 2)) [.asg (.one 6) (.bin .add (.loc 6) (.lit (.int (1)))),
  .asg (.one 5) (.bin .add (.loc 5) (.lit (.int (1))))] [.ifs (.cmp .eq (.loc 8) (.loc 3)) [.asg (.one 6) (.bin .add (.loc 6) (.lit (.int (1)))),
  .asg (.one 7) (.bin .add (.loc 7) (.lit (.int (1)))),
  .ifs (.cmp .ge (.loc 5) (.bi .len [(.loc 4)])) [.asg (.one 4) (.bin .add (.loc 4) (.bin .mul (.lst [(.lit (.int (0)))]) (.bin .add (.bin .sub (.loc 5) (.bi .len [(.loc 4)])) (.lit (.int (1))))))] [],
  .asgI (.loc 4) (.loc 5) (.bin .add (.idx (.loc 4) (.loc 5)) (.lit (.int (1)))),
  .asg (.one 5) (.lit (.int (0)))] [.brk]]],
  .asgF (.loc 0) (Str.ofString "n") (.loc 6),
  .asgF (.loc 0) (Str.ofString "nt") (.loc 7),
  .asgF (.loc 0) (Str.ofString "norm") (.tup [(.bi .tuple [(.loc 4)]), (.loc 5)]),
  .asgF (.loc 0) (Str.ofString "is_simple") (.cmp .le (.bi .len [(.loc 4)]) (.lit (.int (1))))]
noncomputable def pnm_longest_run_of_spaces : List Str := [(Str.ofString "self"), (Str.ofString "count"), (Str.ofString "trailing")]
noncomputable def pb_longest_run_of_spaces : List T := [.asg (.tup [1, 2]) (.fld (.loc 0) (Str.ofString "norm")),
  .ret (.bi .max [(.bin .sub (.bi .len [(.loc 1)]) (.lit (.int (1)))), (.loc 2)])]
noncomputable def pnm_indent_level : List Str := [(Str.ofString "self"), (Str.ofString "tabsize"), (Str.ofString "count"), (Str.ofString "trailing"), (Str.ofString "il"), (Str.ofString "i")]
noncomputable def pb_indent_level : List T := [.asg (.tup [2, 3]) (.fld (.loc 0) (Str.ofString "norm")),
  .asg (.one 4) (.lit (.int (0))),
  .fore (.one 5) (.bi .range [(.loc 1), (.bi .len [(.loc 2)])]) [.asg (.one 4) (.bin .add (.loc 4) (.bin .mul (.bin .fdiv (.loc 5) (.loc 1)) (.idx (.loc 2) (.loc 5))))],
  .ret (.bin .add (.loc 3) (.bin .mul (.loc 1) (.bin .add (.loc 4) (.fld (.loc 0) (Str.ofString "nt")))))]
noncomputable def pnm_equal : List Str := [(Str.ofString "self"), (Str.ofString "other")]
noncomputable def pb_equal : List T := [.ret (.cmp .eq (.fld (.loc 0) (Str.ofString "norm")) (.fld (.loc 1) (Str.ofString "norm")))]
noncomputable def pnm_not_equal_witness : List Str := [(Str.ofString "self"), (Str.ofString "other"), (Str.ofString "n"), (Str.ofString "a"), (Str.ofString "ts")]
noncomputable def pb_not_equal_witness : List T := [.asg (.one 2) (.bin .add (.bi .max [(.mth 11 (Str.ofString "longest_run_of_spaces") (.loc 0) []), (.mth 11 (Str.ofString "longest_run_of_spaces") (.loc 1) [])]) (.lit (.int (1)))),
  .asg (.one 3) (.lst []),
  .fore (.one 4) (.bi .range [(.lit (.int (1))), (.bin .add (.loc 2) (.lit (.int (1))))]) [.ifs (.cmp .ne (.mth 12 (Str.ofString "indent_level") (.loc 0) [(.loc 4)]) (.mth 12 (Str.ofString "indent_level") (.loc 1) [(.loc 4)])) [.ex (.sm .append (.loc 3) [(.tup [(.loc 4), (.mth 12 (Str.ofString "indent_level") (.loc 0) [(.loc 4)]), (.mth 12 (Str.ofString "indent_level") (.loc 1) [(.loc 4)])])])] []],
  .ret (.loc 3)]
noncomputable def pnm_less : List Str := [(Str.ofString "self"), (Str.ofString "other"), (Str.ofString "n"), (Str.ofString "ts")]
noncomputable def pb_less : List T := [.ifs (.cmp .ge (.fld (.loc 0) (Str.ofString "n")) (.fld (.loc 1) (Str.ofString "n"))) [.ret (.lit (.bool false))] [],
  .ifs (.and [(.fld (.loc 0) (Str.ofString "is_simple")), (.fld (.loc 1) (Str.ofString "is_simple"))]) [.ret (.cmp .le (.fld (.loc 0) (Str.ofString "nt")) (.fld (.loc 1) (Str.ofString "nt")))] [],
  .asg (.one 2) (.bin .add (.bi .max [(.mth 11 (Str.ofString "longest_run_of_spaces") (.loc 0) []), (.mth 11 (Str.ofString "longest_run_of_spaces") (.loc 1) [])]) (.lit (.int (1)))),
  .fore (.one 3) (.bi .range [(.lit (.int (2))), (.bin .add (.loc 2) (.lit (.int (1))))]) [.ifs (.cmp .ge (.mth 12 (Str.ofString "indent_level") (.loc 0) [(.loc 3)]) (.mth 12 (Str.ofString "indent_level") (.loc 1) [(.loc 3)])) [.ret (.lit (.bool false))] []],
  .ret (.lit (.bool true))]
noncomputable def pnm_unquote : List Str := [(Str.ofString "s")]
noncomputable def pb_unquote : List T := [.ret (.bi .chr [(.bi .int16 [(.sl (.loc 0) (some (.lit (.int (1)))) (some (.lit (.int (3)))))])])]
noncomputable def pnm_quote : List Str := [(Str.ofString "c")]
noncomputable def pb_quote : List T := [.ret (.idx (.tab 0) (.bi .ord [(.loc 0)]))]
noncomputable def pnm_body_encode : List Str := [(Str.ofString "body"), (Str.ofString "maxlinelen"), (Str.ofString "eol"), (Str.ofString "soft_break"), (Str.ofString "maxlinelen1"), (Str.ofString "encoded_body"), (Str.ofString "append"), (Str.ofString "line"), (Str.ofString "start"), (Str.ofString "laststart"), (Str.ofString "stop"), (Str.ofString "room"), (Str.ofString "q")]
noncomputable def pb_body_encode : List T := [.ifs (.cmp .lt (.loc 1) (.lit (.int (4)))) [.bad] [],
  .ifs (.not (.loc 0)) [.ret (.loc 0)] [],
  .asg (.one 0) (.sm .translate (.loc 0) [(.tab 1)]),
  .asg (.one 3) (.bin .add (.lit (.str [61])) (.loc 2)),
  .asg (.one 4) (.bin .sub (.loc 1) (.lit (.int (1)))),
  .asg (.one 5) (.lst []),
  .asg (.one 6) (.bnd (.loc 5)),
  .fore (.one 7) (.sm .splitlines (.loc 0) []) [.asg (.one 8) (.lit (.int (0))),
  .asg (.one 9) (.bin .sub (.bin .sub (.bi .len [(.loc 7)]) (.lit (.int (1)))) (.loc 1)),
  .whl (.cmp .le (.loc 8) (.loc 9)) [.asg (.one 10) (.bin .add (.loc 8) (.loc 4)),
  .ifs (.cmp .eq (.idx (.loc 7) (.bin .sub (.loc 10) (.lit (.int (2))))) (.lit (.str [61]))) [.ex (.app (.loc 6) (.sl (.loc 7) (some (.loc 8)) (some (.bin .sub (.loc 10) (.lit (.int (1))))))),
  .asg (.one 8) (.bin .sub (.loc 10) (.lit (.int (2))))] [.ifs (.cmp .eq (.idx (.loc 7) (.bin .sub (.loc 10) (.lit (.int (1))))) (.lit (.str [61]))) [.ex (.app (.loc 6) (.sl (.loc 7) (some (.loc 8)) (some (.loc 10)))),
  .asg (.one 8) (.bin .sub (.loc 10) (.lit (.int (1))))] [.ex (.app (.loc 6) (.bin .add (.sl (.loc 7) (some (.loc 8)) (some (.loc 10))) (.lit (.str [61])))),
  .asg (.one 8) (.loc 10)]]],
  .ifs (.and [(.loc 7), (.cmp .inn (.idx (.loc 7) (.neg (.lit (.int (1))))) (.lit (.str [32, 9])))]) [.asg (.one 11) (.bin .sub (.loc 8) (.loc 9)),
  .ifs (.cmp .ge (.loc 11) (.lit (.int (3)))) [.asg (.one 12) (.cal 1 [(.idx (.loc 7) (.neg (.lit (.int (1)))))])] [.ifs (.cmp .eq (.loc 11) (.lit (.int (2)))) [.asg (.one 12) (.bin .add (.idx (.loc 7) (.neg (.lit (.int (1))))) (.loc 3))] [.asg (.one 12) (.bin .add (.loc 3) (.cal 1 [(.idx (.loc 7) (.neg (.lit (.int (1)))))]))]],
  .ex (.app (.loc 6) (.bin .add (.sl (.loc 7) (some (.loc 8)) (some (.neg (.lit (.int (1)))))) (.loc 12)))] [.ex (.app (.loc 6) (.sl (.loc 7) (some (.loc 8)) none))]],
  .ifs (.cmp .inn (.idx (.loc 0) (.neg (.lit (.int (1))))) (.lit (.str [13, 10]))) [.ex (.app (.loc 6) (.lit (.str [])))] [],
  .ret (.sm .join (.loc 2) [(.loc 5)])]
noncomputable def pnm_decode : List Str := [(Str.ofString "encoded"), (Str.ofString "eol"), (Str.ofString "decoded"), (Str.ofString "line"), (Str.ofString "i"), (Str.ofString "n"), (Str.ofString "c")]
noncomputable def pb_decode : List T := [.ifs (.not (.loc 0)) [.ret (.loc 0)] [],
  .asg (.one 2) (.lit (.str [])),
  .fore (.one 3) (.sm .splitlines (.loc 0) []) [.asg (.one 3) (.sm .rstrip (.loc 3) []),
  .ifs (.not (.loc 3)) [.aug 2 .add (.loc 1),
  .cont] [],
  .asg (.one 4) (.lit (.int (0))),
  .asg (.one 5) (.bi .len [(.loc 3)]),
  .whl (.cmp .lt (.loc 4) (.loc 5)) [.asg (.one 6) (.idx (.loc 3) (.loc 4)),
  .ifs (.cmp .ne (.loc 6) (.lit (.str [61]))) [.aug 2 .add (.loc 6),
  .aug 4 .add (.lit (.int (1)))] [.ifs (.cmp .eq (.bin .add (.loc 4) (.lit (.int (1)))) (.loc 5)) [.aug 4 .add (.lit (.int (1))),
  .cont] [.ifs (.and [(.cmp .lt (.bin .add (.loc 4) (.lit (.int (2)))) (.loc 5)), (.cmp .inn (.idx (.loc 3) (.bin .add (.loc 4) (.lit (.int (1))))) (.lit (.str [48, 49, 50, 51, 52, 53, 54, 55, 56, 57, 97, 98, 99, 100, 101, 102, 65, 66, 67, 68, 69, 70]))), (.cmp .inn (.idx (.loc 3) (.bin .add (.loc 4) (.lit (.int (2))))) (.lit (.str [48, 49, 50, 51, 52, 53, 54, 55, 56, 57, 97, 98, 99, 100, 101, 102, 65, 66, 67, 68, 69, 70])))]) [.aug 2 .add (.cal 0 [(.sl (.loc 3) (some (.loc 4)) (some (.bin .add (.loc 4) (.lit (.int (3))))))]),
  .aug 4 .add (.lit (.int (3)))] [.aug 2 .add (.loc 6),
  .aug 4 .add (.lit (.int (1)))]]],
  .ifs (.cmp .eq (.loc 4) (.loc 5)) [.aug 2 .add (.loc 1)] []]],
  .ifs (.and [(.cmp .nin (.idx (.loc 0) (.neg (.lit (.int (1))))) (.lit (.str [13, 10]))), (.sm .endswith (.loc 2) [(.loc 1)])]) [.asg (.one 2) (.sl (.loc 2) none (some (.neg (.bi .len [(.loc 1)]))))] [],
  .ret (.loc 2)]
noncomputable def pnm_lw_numbers : List Str := [(Str.ofString "script"), (Str.ofString "fixed")]
noncomputable def pb_lw_numbers : List T := [.asg (.one 1) (.lst [(.lit (.int (7))), (.lit (.int (4))), (.lit (.int (5))), (.lit (.int (1))), (.lit (.int (12))), (.lit (.int (8))), (.lit (.int (1))), (.lit (.int (3))), (.lit (.int (0))), (.lit (.int (17))), (.lit (.int (5))), (.lit (.int (9)))]),
  .ret (.bin .add (.comp [none] (.bin .mod (.loc 0) (.bin .pow (.lit (.int (10))) (.lit (.int (6))))) (.one 0) (.sl (.loc 0) none (some (.lit (.int (12))))) []) (.sl (.loc 1) (some (.bi .len [(.loc 0)])) none))]
noncomputable def pnm_lw_rows : List Str := [(Str.ofString "parts"), (Str.ofString "size"), (Str.ofString "rows"), (Str.ofString "blanks")]
noncomputable def pb_lw_rows : List T := [.asg (.one 2) (.lst []),
  .fore (.one 3) (.loc 0) [.ex (.sm .extend (.loc 2) [(.bin .mul (.lst [(.tup [(.loc 1), (.lit (.bool true))])]) (.bin .fdiv (.loc 3) (.loc 1)))]),
  .ex (.sm .append (.loc 2) [(.tup [(.bin .mod (.loc 3) (.loc 1)), (.lit (.bool false))])])],
  .ret (.loc 2)]
noncomputable def pnm_lw_written : List Str := [(Str.ofString "blanks"), (Str.ofString "soft")]
noncomputable def pb_lw_written : List T := [.ifs (.loc 1) [.ret (.bin .add (.bin .mul (.lit (.str [32])) (.loc 0)) (.lit (.str [61])))] [],
  .ifs (.cmp .eq (.loc 0) (.lit (.int (0)))) [.ret (.lit (.str []))] [],
  .ret (.bin .add (.bin .mul (.lit (.str [32])) (.bin .sub (.loc 0) (.lit (.int (1))))) (.lit (.str [61, 50, 48])))]
noncomputable def pnm_lw_column : List Str := [(Str.ofString "lead"), (Str.ofString "step"), (Str.ofString "column"), (Str.ofString "sign")]
noncomputable def pb_lw_column : List T := [.asg (.one 2) (.lit (.int (0))),
  .fore (.one 3) (.loc 0) [.ifs (.cmp .eq (.loc 3) (.lit (.str [9]))) [.asg (.one 2) (.bin .sub (.bin .add (.loc 2) (.loc 1)) (.bin .mod (.loc 2) (.loc 1)))] [.asg (.one 2) (.bin .add (.loc 2) (.lit (.int (1))))]],
  .ret (.loc 2)]
noncomputable def pnm_law : List Str := [(Str.ofString "script"), (Str.ofString "numbers"), (Str.ofString "x"), (Str.ofString "parts"), (Str.ofString "size"), (Str.ofString "word"), (Str.ofString "lead"), (Str.ofString "rows"), (Str.ofString "last"), (Str.ofString "letter"), (Str.ofString "wire"), (Str.ofString "blanks"), (Str.ofString "soft"), (Str.ofString "left"), (Str.ofString "sent"), (Str.ofString "told"), (Str.ofString "lost"), (Str.ofString "place"), (Str.ofString "read"), (Str.ofString "old"), (Str.ofString "new"), (Str.ofString "table"), (Str.ofString "step"), (Str.ofString "here"), (Str.ofString "there"), (Str.ofString "one"), (Str.ofString "two"), (Str.ofString "found"), (Str.ofString "more")]
noncomputable def pb_law : List T := [.asg (.one 1) (.cal 4 [(.loc 0)]),
  .asgC 3 (.comp [none] (.bin .mod (.loc 0) (.lit (.int (8)))) (.one 0) (.sl (.loc 1) none (some (.lit (.int (3))))) []),
  .asg (.one 4) (.bin .add (.lit (.int (3))) (.bin .mod (.idx (.loc 1) (.lit (.int (3)))) (.lit (.int (4))))),
  .asg (.one 5) (.idx (.lst [(.lit (.str [105, 102])), (.lit (.str []))]) (.bin .mod (.bin .fdiv (.idx (.loc 1) (.lit (.int (3)))) (.lit (.int (4)))) (.lit (.int (2))))),
  .asg (.one 6) (.bin .add (.bin .add (.bin .add (.bin .add (.bin .mul (.lit (.str [32])) (.idx (.loc 3) (.lit (.int (0))))) (.lit (.str [9]))) (.bin .mul (.lit (.str [32])) (.idx (.loc 3) (.lit (.int (1)))))) (.lit (.str [9]))) (.bin .mul (.lit (.str [32])) (.idx (.loc 3) (.lit (.int (2)))))),
  .asg (.one 7) (.cal 5 [(.loc 3), (.loc 4)]),
  .ifs (.cmp .eq (.loc 5) (.lit (.str []))) [.asg (.one 8) (.cal 6 [(.idx (.idx (.loc 7) (.neg (.lit (.int (1))))) (.lit (.int (0)))), (.lit (.bool false))])] [.asg (.one 8) (.bin .add (.bin .mul (.lit (.str [32])) (.idx (.idx (.loc 7) (.neg (.lit (.int (1))))) (.lit (.int (0))))) (.loc 5))],
  .asg (.one 9) (.cal 2 [(.sm .replace (.bin .add (.loc 6) (.loc 5)) [(.lit (.str [9])), (.lit (.str [10]))]), (.bin .add (.loc 4) (.lit (.int (1))))]),
  .asg (.one 10) (.sm .split (.loc 9) [(.lit (.str [10]))]),
  .ifs (.cmp .ne (.loc 10) (.bin .add (.comp [none, none] (.cal 6 [(.loc 0), (.loc 1)]) (.tup [0, 1]) (.sl (.loc 7) none (some (.neg (.lit (.int (1)))))) []) (.lst [(.loc 8)]))) [.ret (.lit (.bool false))] [],
  .asg (.one 13) (.bi .list [(.bi .range [(.bin .sub (.bi .len [(.loc 7)]) (.lit (.int (1))))])]),
  .asg (.one 14) (.lst []),
  .asg (.one 15) (.lit (.str [])),
  .asg (.one 16) (.lit (.int (0))),
  .fore (.one 2) (.sl (.loc 1) (some (.lit (.int (4)))) none) [.ifs (.cmp .ne (.loc 13) (.lst [])) [.asg (.one 17) (.sm .pop (.loc 13) [(.bin .mod (.loc 2) (.bi .len [(.loc 13)]))]),
  .asg (.tup [11, 12]) (.idx (.loc 7) (.loc 17)),
  .ifs (.not (.loc 12)) [.ex (.sm .append (.loc 14) [(.idx (.loc 10) (.loc 17))]),
  .asg (.one 15) (.bin .add (.bin .add (.loc 15) (.bin .mul (.lit (.str [32])) (.loc 11))) (.lit (.str [9])))] [.ifs (.cmp .eq (.bin .mod (.bin .fdiv (.loc 2) (.lit (.int (8)))) (.lit (.int (3)))) (.lit (.int (0)))) [.ex (.sm .append (.loc 14) [(.sl (.idx (.loc 10) (.loc 17)) none (some (.neg (.lit (.int (1))))))]),
  .asg (.one 15) (.bin .add (.loc 15) (.lit (.str [9]))),
  .asg (.one 16) (.bin .add (.loc 16) (.lit (.int (1))))] [.ex (.sm .append (.loc 14) [(.idx (.loc 10) (.loc 17))]),
  .asg (.one 15) (.bin .add (.loc 15) (.bin .mul (.lit (.str [32])) (.loc 11)))]]] []],
  .asg (.one 15) (.bin .add (.loc 15) (.bin .mul (.lit (.str [32])) (.idx (.idx (.loc 7) (.neg (.lit (.int (1))))) (.lit (.int (0)))))),
  .asg (.one 18) (.cal 3 [(.sm .join (.lit (.str [32, 10])) [(.bin .add (.loc 14) (.lst [(.idx (.loc 10) (.neg (.lit (.int (1)))))]))]), (.lit (.str [9]))]),
  .ifs (.cmp .ne (.loc 18) (.bin .add (.loc 15) (.loc 5))) [.ret (.lit (.bool false))] [],
  .asg (.one 19) (.sm .split (.loc 6) [(.lit (.str [9]))]),
  .asg (.one 20) (.sm .split (.loc 15) [(.lit (.str [9]))]),
  .asg (.one 21) (.lst []),
  .fore (.one 22) (.bi .range [(.lit (.int (1))), (.bin .add (.bi .max [(.comp [none] (.bi .len [(.loc 0)]) (.one 0) (.bin .add (.loc 19) (.loc 20)) [])]) (.lit (.int (2))))]) [.asg (.one 23) (.cal 7 [(.loc 6), (.loc 22)]),
  .ifs (.cmp .eq (.bin .mod (.loc 4) (.loc 22)) (.lit (.int (0)))) [.asg (.one 24) (.bin .sub (.loc 23) (.bin .mul (.bin .sub (.loc 4) (.loc 22)) (.loc 16)))] [.asg (.one 24) (.cal 7 [(.loc 15), (.loc 22)])],
  .ex (.sm .append (.loc 21) [(.tup [(.loc 22), (.loc 23), (.loc 24)])])],
  .asg (.one 25) (.new [(.bin .add (.loc 6) (.loc 5))]),
  .asg (.one 26) (.new [(.loc 18)]),
  .asg (.one 27) (.mth 14 (Str.ofString "not_equal_witness") (.loc 25) [(.loc 26)]),
  .ifs (.cmp .ne (.loc 27) (.comp [none] (.loc 0) (.one 0) (.loc 21) [(.cmp .ne (.idx (.loc 0) (.lit (.int (1)))) (.idx (.loc 0) (.lit (.int (2)))))])) [.ret (.lit (.bool false))] [],
  .ifs (.cmp .ne (.comp2 [none, none] (.loc 1) (.one 0) (.loc 27) (.one 1) (.loc 0) [(.not (.bi .isint [(.loc 1)]))]) (.lst [])) [.ret (.lit (.bool false))] [],
  .ifs (.cmp .isn (.mth 13 (Str.ofString "equal") (.loc 25) [(.loc 26)]) (.cmp .eq (.bi .sorted [(.sl (.loc 19) none (some (.neg (.lit (.int (1))))))]) (.bi .sorted [(.sl (.loc 20) none (some (.neg (.lit (.int (1))))))]))) [.ret (.lit (.bool false))] [],
  .asg (.one 28) (.new [(.bin .add (.bin .add (.loc 15) (.lit (.str [32]))) (.loc 5))]),
  .ifs (.cmp .isn (.mth 13 (Str.ofString "equal") (.loc 25) [(.loc 28)]) (.lit (.bool false))) [.ret (.lit (.bool false))] [],
  .ifs (.cmp .isn (.mth 15 (Str.ofString "less") (.loc 25) [(.loc 28)]) (.cmp .eq (.comp [none] (.loc 0) (.one 0) (.loc 21) [(.cmp .gt (.idx (.loc 0) (.lit (.int (1)))) (.idx (.loc 0) (.lit (.int (2)))))]) (.lst []))) [.ret (.lit (.bool false))] [],
  .ifs (.cmp .isn (.mth 15 (Str.ofString "less") (.loc 26) [(.new [(.bin .add (.bin .add (.loc 6) (.lit (.str [32]))) (.loc 5))])]) (.cmp .eq (.comp [none] (.loc 0) (.one 0) (.loc 21) [(.cmp .lt (.idx (.loc 0) (.lit (.int (1)))) (.idx (.loc 0) (.lit (.int (2)))))]) (.lst []))) [.ret (.lit (.bool false))] [],
  .ifs (.cmp .isn (.mth 15 (Str.ofString "less") (.loc 25) [(.new [(.bin .add (.loc 15) (.lit (.str [120, 32])))])]) (.lit (.bool false))) [.ret (.lit (.bool false))] [],
  .ifs (.cmp .isn (.mth 15 (Str.ofString "less") (.loc 25) [(.new [(.bin .add (.bin .add (.lit (.str [32])) (.loc 6)) (.loc 5))])]) (.lit (.bool false))) [.ret (.lit (.bool false))] [],
  .ret (.cmp .is (.mth 15 (Str.ofString "less") (.loc 25) [(.new [(.bin .add (.bin .add (.lit (.str [9])) (.loc 6)) (.loc 5))])]) (.lit (.bool true)))]


noncomputable def hex2 (n : Nat) : List Nat := [61, hexD (n / 16), hexD (n % 16)]
noncomputable def tabsX : Nat → List P
  | 0 => (List.range 256).map fun n => .str (hex2 n)
  | 1 => (List.range 256).map fun n => if ((32 ≤ n && n ≤ 126 && n != 61) || n == 9 || n == 10 || n == 13) then .str [n] else .str (hex2 n)
  | _ => []
noncomputable def gl1 : List (Str × GV) := [((Str.ofString "unquote"), GV.defn 0),
  ((Str.ofString "quote"), GV.defn 1),
  ((Str.ofString "body_encode"), GV.defn 2),
  ((Str.ofString "decode"), GV.defn 3),
  ((Str.ofString "_law_numbers"), GV.defn 4),
  ((Str.ofString "_law_rows"), GV.defn 5),
  ((Str.ofString "_law_written"), GV.defn 6),
  ((Str.ofString "_law_column"), GV.defn 7),
  ((Str.ofString "Whitespace"), GV.cls [((Str.ofString "S"), .str [32]), ((Str.ofString "T"), .str [9])]),
  ((Str.ofString "_QUOPRI_MAP"), GV.tab 0),
  ((Str.ofString "_QUOPRI_BODY_ENCODE_MAP"), GV.tab 1),
  ((Str.ofString "CRLF"), GV.const (.str [13, 10])),
  ((Str.ofString "NL"), GV.const (.str [10])),
  ((Str.ofString "hexdigits"), GV.const (.str [48, 49, 50, 51, 52, 53, 54, 55, 56, 57, 97, 98, 99, 100, 101, 102, 65, 66, 67, 68, 69, 70])),
  ((Str.ofString "len"), GV.bi BI.len "len"),
  ((Str.ofString "max"), GV.bi BI.max "max"),
  ((Str.ofString "range"), GV.ty BI.range "range"),
  ((Str.ofString "list"), GV.ty BI.list "list"),
  ((Str.ofString "isinstance"), GV.bi BI.isint "isinstance"),
  ((Str.ofString "int"), GV.ty BI.int16 "int"),
  ((Str.ofString "sorted"), GV.bi BI.sorted "sorted"),
  ((Str.ofString "ord"), GV.bi BI.ord "ord"),
  ((Str.ofString "chr"), GV.bi BI.chr "chr"),
  ((Str.ofString "tuple"), GV.ty BI.tuple "tuple")]
noncomputable def ml1 : List (Str × Nat) := [((Str.ofString "longest_run_of_spaces"), 11), ((Str.ofString "indent_level"), 12), ((Str.ofString "equal"), 13), ((Str.ofString "not_equal_witness"), 14), ((Str.ofString "less"), 15)]
noncomputable def fl1 : List Str := [(Str.ofString "raw"), (Str.ofString "n"), (Str.ofString "nt"), (Str.ofString "norm"), (Str.ofString "is_simple")]
noncomputable def pF_unquote : FD := ⟨pnm_unquote, 1, [], pb_unquote⟩
noncomputable def pF_quote : FD := ⟨pnm_quote, 1, [], pb_quote⟩
noncomputable def pF_body_encode : FD := ⟨pnm_body_encode, 2, [.str [10]], pb_body_encode⟩
noncomputable def pF_decode : FD := ⟨pnm_decode, 2, [], pb_decode⟩
noncomputable def pF_lw_numbers : FD := ⟨pnm_lw_numbers, 1, [], pb_lw_numbers⟩
noncomputable def pF_lw_rows : FD := ⟨pnm_lw_rows, 2, [], pb_lw_rows⟩
noncomputable def pF_lw_written : FD := ⟨pnm_lw_written, 2, [], pb_lw_written⟩
noncomputable def pF_lw_column : FD := ⟨pnm_lw_column, 2, [], pb_lw_column⟩
noncomputable def pF_init : FD := ⟨pnm_init, 2, [], pb_init⟩
noncomputable def pF_longest_run_of_spaces : FD := ⟨pnm_longest_run_of_spaces, 1, [], pb_longest_run_of_spaces⟩
noncomputable def pF_indent_level : FD := ⟨pnm_indent_level, 2, [], pb_indent_level⟩
noncomputable def pF_equal : FD := ⟨pnm_equal, 2, [], pb_equal⟩
noncomputable def pF_not_equal_witness : FD := ⟨pnm_not_equal_witness, 2, [], pb_not_equal_witness⟩
noncomputable def pF_less : FD := ⟨pnm_less, 2, [], pb_less⟩
noncomputable def pgDefsL : List (Nat × FD) := [(0, pF_unquote), (1, pF_quote), (2, pF_body_encode), (3, pF_decode), (4, pF_lw_numbers), (5, pF_lw_rows), (6, pF_lw_written), (7, pF_lw_column), (10, pF_init), (11, pF_longest_run_of_spaces), (12, pF_indent_level), (13, pF_equal), (14, pF_not_equal_witness), (15, pF_less)]
noncomputable def pgDefs1 (f : Nat) : Option FD := pgDefsL.lookup f
noncomputable def pg1 : Pg := ⟨tabsX, 10, pgDefs1⟩
end Mine
end
section
open PySem PySem.W PyProof.Rows PyProof.V
set_option Elab.async false
set_option maxRecDepth 100000
set_option maxHeartbeats 4000000
namespace Mine
noncomputable def fdAt (K : Frag) (a : Addr) : FuncData := match K.lookup a with
  | some ⟨_, _, .func fd, _⟩ => fd
  | _ => default
noncomputable def stmtsOf (fd : FuncData) : List Stmt := match fd.body with
  | .stmts b => b
  | _ => []
noncomputable def fa1 : Nat → Addr
  | 0 => 110 | 1 => 117 | 2 => 130 | 3 => 138 | 4 => 143 | 5 => 150 | 6 => 157 | 7 => 164 | 10 => 38 | 11 => 45 | 12 => 52 | 13 => 59 | 14 => 66 | 15 => 73 | _ => 0
/-- all that a list of pairs tells -/
noncomputable def AllP {α β : Type} (q : α → β → Prop) : List (α × β) → Prop
  | [] => True
  | (x, v) :: r => q x v ∧ AllP q r
theorem AllP.of {α β : Type} [BEq α] [LawfulBEq α] {q : α → β → Prop} {x : α} {v : β} {l : List (α × β)} (h : AllP q l) (hv : l.lookup x = some v) : q x v := by
  induction l with
  | nil => exact no hv
  | cons a l ih =>
    rw [List.lookup_cons] at hv
    cases e : x == a.1 with
    | true => rw [e] at hv; cases hv; rw [eq_of_beq e]; exact h.1
    | false => rw [e] at hv; exact ih h.2 hv
/-- what one look tells of a def -/
structure DefLook (X : Wd) (f : Nat) (F : FD) (fd : FuncData) (b : List Stmt) : Prop where
  la : X.K.lookup (fa1 f) = some ⟨.type "function", none, .func fd, #[]⟩
  lb : codeIn X.K fd.code fd.qualname = true
  lc : fd.body = .stmts b
  ld : trB ⟨F.nm, fd.scope, gl1, ml1, fl1⟩ 40 b = some F.body
  le : fd.scope.kind = .function
  lf : fd.scope.isCoroutine = false
  lg : fd.scope.isGenerator = false
  lh : fd.globals = mainGlobals
  li : fd.builtins = builtinsNs
  lj : decide (∀ x ∈ fd.scope.names, x.2 ≠ .cell) = true
  lk : decide F.nm.Nodup = true
  ll : decide (F.ar + F.dfl.length ≤ F.nm.length) = true
  lm : decide (∀ x ∈ F.nm.take (F.ar + F.dfl.length), fd.scope.names.lookup x = some .local) = true
theorem DefLook.ok {X : Wd} {f : Nat} {F : FD} {fd : FuncData} {b : List Stmt} (h : DefLook X f F fd b) (hb : ∀ ys : List Value, ys.length = F.ar → ∃ zs, DatAll [] zs (dats F.dfl) ∧ ∀ S, peek X.K S (bindArgs fd ⟨ys, []⟩) = some ((F.nm.take (F.ar + F.dfl.length)).zip (ys ++ zs))) : ∃ fd body, DefOk X gl1 ml1 fl1 F (fa1 f) fd body :=
  ⟨fd, b, ⟨_, _, _, h.la⟩, h.lb, h.lc, ⟨40, h.ld⟩, h.le, h.lf, h.lg, h.lh, h.li, of_decide_eq_true h.lj, of_decide_eq_true h.lk, of_decide_eq_true h.ll, of_decide_eq_true h.lm, hb⟩
theorem def1 {X : Wd} {f : Nat} {F : FD} {fd : FuncData} {b : List Stmt} (h : DefLook X f F fd b) (ha : F.ar = 1) (hd : F.dfl = []) (hb : ∀ y S, peek X.K S (bindArgs fd ⟨[y], []⟩) = some ((F.nm.take 1).zip [y])) : ∃ fd body, DefOk X gl1 ml1 fl1 F (fa1 f) fd body :=
  h.ok fun ys hy => by
    obtain ⟨y, rfl⟩ := List.length_eq_one_iff.mp (hy.trans ha)
    rw [hd, ha]
    exact ⟨[], .nil, hb y⟩
theorem len_two {ys : List Value} (h : ys.length = 2) : ∃ a b, ys = [a, b] := by
  cases ys with
  | nil => cases h
  | cons a r =>
    obtain ⟨b, rfl⟩ := List.length_eq_one_iff.mp (Nat.succ.inj h)
    exact ⟨a, b, rfl⟩
theorem def2 {X : Wd} {f : Nat} {F : FD} {fd : FuncData} {b : List Stmt} (h : DefLook X f F fd b) (ha : F.ar = 2) {zs : List Value} (hz : DatAll [] zs (dats F.dfl)) (hb : ∀ y z S, peek X.K S (bindArgs fd ⟨[y, z], []⟩) = some ((F.nm.take (2 + F.dfl.length)).zip ([y, z] ++ zs))) : ∃ fd body, DefOk X gl1 ml1 fl1 F (fa1 f) fd body :=
  h.ok fun ys hy => by
    obtain ⟨y, z, rfl⟩ := len_two (hy.trans ha)
    rw [ha]
    exact ⟨zs, hz, hb y z⟩
noncomputable def tb1 : Nat → Option Addr
  | 0 => some 90 | 1 => some 119 | _ => none
noncomputable def wd1 (prog : Program) (w : World) (s : Shared) (loose : List Str) (mg mb : Str → Option Value) : Wd := ⟨prog, w, kF w.params, 83, tb1, s.gens, s.drawn, s.os, (qOf PySem.Challenge.pw_ku0010_01), loose, mg, mb⟩
section
variable {prog : Program} {w : World} {s : Shared} {loose : List Str} {mg mb : Str → Option Value}
theorem d1_all : AllP (fun f F => ∃ fd body, DefOk (wd1 prog w s loose mg mb) gl1 ml1 fl1 F (fa1 f) fd body) pgDefsL :=
  ⟨def1 (fd := fdAt (kF w.params) (fa1 0)) (b := stmtsOf (fdAt (kF w.params) (fa1 0))) ⟨by kernel_rfl, by kernel_rfl, by kernel_rfl, by kernel_rfl, by kernel_rfl, by kernel_rfl, by kernel_rfl, by kernel_rfl, by kernel_rfl, by kernel_rfl, by kernel_rfl, by kernel_rfl, by kernel_rfl⟩ rfl rfl (fun y S => by kernel_rfl),
   def1 (fd := fdAt (kF w.params) (fa1 1)) (b := stmtsOf (fdAt (kF w.params) (fa1 1))) ⟨by kernel_rfl, by kernel_rfl, by kernel_rfl, by kernel_rfl, by kernel_rfl, by kernel_rfl, by kernel_rfl, by kernel_rfl, by kernel_rfl, by kernel_rfl, by kernel_rfl, by kernel_rfl, by kernel_rfl⟩ rfl rfl (fun y S => by kernel_rfl),
   def2 (fd := fdAt (kF w.params) (fa1 2)) (b := stmtsOf (fdAt (kF w.params) (fa1 2))) ⟨by kernel_rfl, by kernel_rfl, by kernel_rfl, by kernel_rfl, by kernel_rfl, by kernel_rfl, by kernel_rfl, by kernel_rfl, by kernel_rfl, by kernel_rfl, by kernel_rfl, by kernel_rfl, by kernel_rfl⟩ rfl (zs := [.str ⟨⟨[10]⟩⟩ 301]) (.cons (by exact .str _ _) .nil) (fun y z S => by kernel_rfl),
   def2 (fd := fdAt (kF w.params) (fa1 3)) (b := stmtsOf (fdAt (kF w.params) (fa1 3))) ⟨by kernel_rfl, by kernel_rfl, by kernel_rfl, by kernel_rfl, by kernel_rfl, by kernel_rfl, by kernel_rfl, by kernel_rfl, by kernel_rfl, by kernel_rfl, by kernel_rfl, by kernel_rfl, by kernel_rfl⟩ rfl (zs := []) .nil (fun y z S => by kernel_rfl),
   def1 (fd := fdAt (kF w.params) (fa1 4)) (b := stmtsOf (fdAt (kF w.params) (fa1 4))) ⟨by kernel_rfl, by kernel_rfl, by kernel_rfl, by kernel_rfl, by kernel_rfl, by kernel_rfl, by kernel_rfl, by kernel_rfl, by kernel_rfl, by kernel_rfl, by kernel_rfl, by kernel_rfl, by kernel_rfl⟩ rfl rfl (fun y S => by kernel_rfl),
   def2 (fd := fdAt (kF w.params) (fa1 5)) (b := stmtsOf (fdAt (kF w.params) (fa1 5))) ⟨by kernel_rfl, by kernel_rfl, by kernel_rfl, by kernel_rfl, by kernel_rfl, by kernel_rfl, by kernel_rfl, by kernel_rfl, by kernel_rfl, by kernel_rfl, by kernel_rfl, by kernel_rfl, by kernel_rfl⟩ rfl (zs := []) .nil (fun y z S => by kernel_rfl),
   def2 (fd := fdAt (kF w.params) (fa1 6)) (b := stmtsOf (fdAt (kF w.params) (fa1 6))) ⟨by kernel_rfl, by kernel_rfl, by kernel_rfl, by kernel_rfl, by kernel_rfl, by kernel_rfl, by kernel_rfl, by kernel_rfl, by kernel_rfl, by kernel_rfl, by kernel_rfl, by kernel_rfl, by kernel_rfl⟩ rfl (zs := []) .nil (fun y z S => by kernel_rfl),
   def2 (fd := fdAt (kF w.params) (fa1 7)) (b := stmtsOf (fdAt (kF w.params) (fa1 7))) ⟨by kernel_rfl, by kernel_rfl, by kernel_rfl, by kernel_rfl, by kernel_rfl, by kernel_rfl, by kernel_rfl, by kernel_rfl, by kernel_rfl, by kernel_rfl, by kernel_rfl, by kernel_rfl, by kernel_rfl⟩ rfl (zs := []) .nil (fun y z S => by kernel_rfl),
   def2 (fd := fdAt (kF w.params) (fa1 10)) (b := stmtsOf (fdAt (kF w.params) (fa1 10))) ⟨by kernel_rfl, by kernel_rfl, by kernel_rfl, by kernel_rfl, by kernel_rfl, by kernel_rfl, by kernel_rfl, by kernel_rfl, by kernel_rfl, by kernel_rfl, by kernel_rfl, by kernel_rfl, by kernel_rfl⟩ rfl (zs := []) .nil (fun y z S => by kernel_rfl),
   def1 (fd := fdAt (kF w.params) (fa1 11)) (b := stmtsOf (fdAt (kF w.params) (fa1 11))) ⟨by kernel_rfl, by kernel_rfl, by kernel_rfl, by kernel_rfl, by kernel_rfl, by kernel_rfl, by kernel_rfl, by kernel_rfl, by kernel_rfl, by kernel_rfl, by kernel_rfl, by kernel_rfl, by kernel_rfl⟩ rfl rfl (fun y S => by kernel_rfl),
   def2 (fd := fdAt (kF w.params) (fa1 12)) (b := stmtsOf (fdAt (kF w.params) (fa1 12))) ⟨by kernel_rfl, by kernel_rfl, by kernel_rfl, by kernel_rfl, by kernel_rfl, by kernel_rfl, by kernel_rfl, by kernel_rfl, by kernel_rfl, by kernel_rfl, by kernel_rfl, by kernel_rfl, by kernel_rfl⟩ rfl (zs := []) .nil (fun y z S => by kernel_rfl),
   def2 (fd := fdAt (kF w.params) (fa1 13)) (b := stmtsOf (fdAt (kF w.params) (fa1 13))) ⟨by kernel_rfl, by kernel_rfl, by kernel_rfl, by kernel_rfl, by kernel_rfl, by kernel_rfl, by kernel_rfl, by kernel_rfl, by kernel_rfl, by kernel_rfl, by kernel_rfl, by kernel_rfl, by kernel_rfl⟩ rfl (zs := []) .nil (fun y z S => by kernel_rfl),
   def2 (fd := fdAt (kF w.params) (fa1 14)) (b := stmtsOf (fdAt (kF w.params) (fa1 14))) ⟨by kernel_rfl, by kernel_rfl, by kernel_rfl, by kernel_rfl, by kernel_rfl, by kernel_rfl, by kernel_rfl, by kernel_rfl, by kernel_rfl, by kernel_rfl, by kernel_rfl, by kernel_rfl, by kernel_rfl⟩ rfl (zs := []) .nil (fun y z S => by kernel_rfl),
   def2 (fd := fdAt (kF w.params) (fa1 15)) (b := stmtsOf (fdAt (kF w.params) (fa1 15))) ⟨by kernel_rfl, by kernel_rfl, by kernel_rfl, by kernel_rfl, by kernel_rfl, by kernel_rfl, by kernel_rfl, by kernel_rfl, by kernel_rfl, by kernel_rfl, by kernel_rfl, by kernel_rfl, by kernel_rfl⟩ rfl (zs := []) .nil (fun y z S => by kernel_rfl),
   trivial⟩
end
end Mine
end
section
open PySem PySem.W PyProof.Rows PyProof.V
set_option Elab.async false
set_option maxRecDepth 100000
set_option maxHeartbeats 4000000
namespace Mine
noncomputable def chk1 (v : Value) (p : P) : Bool := match v with
  | .str s _ => (match p.str? with
    | some l => s.cps.toList == l
    | none => false)
  | _ => false
noncomputable def chkS : List Value → List P → Bool
  | [], ps => ps.isEmpty
  | v :: r, ps => match ps with
    | [] => false
    | p :: q => chk1 v p && chkS r q
theorem chk1_ok {v : Value} {p : P} (h : chk1 v p = true) : DatIn [] v p.dat := by
  cases v with
  | str s t =>
    cases p with
    | str l =>
      have h1 : s.cps.toList = l := eq_of_beq h
      rw [← h1, P.dat, S_of]
      exact .str _ _
    | _ => exact nob h
  | _ => exact nob h
theorem chkS_ok {vs : List Value} : ∀ {ps : List P}, chkS vs ps = true → DatAll [] vs (dats ps) := by
  induction vs with
  | nil =>
    intro ps h
    cases ps with
    | nil => exact .nil
    | cons => exact nob h
  | cons v r ih =>
    intro ps h
    cases ps with
    | nil => exact nob h
    | cons p q => exact andE h fun h1 h2 => .cons (chk1_ok h1) (ih h2)
noncomputable def tabOf (o : Option Obj) : List Value := match o with
  | some ⟨_, _, .seq a _, _⟩ => a.toList
  | _ => []
noncomputable def tabN (o : Option Obj) : Nat := match o with
  | some ⟨_, _, .seq _ n, _⟩ => n
  | _ => 0
theorem chkTab_ok {o : Option Obj} {ps : List P} (h1 : o = some (listOf (tabOf o).toArray (tabN o))) (h : chkS (tabOf o) ps = true) : ∃ vs n, o = some (listOf vs.toArray n) ∧ DatAll [] vs (dats ps) := ⟨_, _, h1, chkS_ok h⟩
section
variable {prog : Program} {w : World} {s : Shared} {loose : List Str} {mg mb : Str → Option Value}
noncomputable def AllL (q : Str → Prop) : List Str → Prop
  | [] => True
  | x :: r => q x ∧ AllL q r
theorem AllL.of {q : Str → Prop} {x : Str} {l : List Str} (h : AllL q l) (hv : x ∈ l) : q x := by
  induction l with
  | nil => cases hv
  | cons a l ih =>
    cases hv with
    | head => exact h.1
    | tail _ hm => exact ih h.2 hm
theorem gv1 : AllP (GVOk (wd1 prog w s loose mg mb) fa1) gl1 := by
  iterate 8 (refine ⟨⟨by kernel_rfl, by kernel_rfl⟩, ?_⟩)
  refine ⟨⟨by kernel_rfl, by kernel_rfl, .type "type", by kernel_rfl, by kernel_rfl, fun n q hn => AllP.of (q := fun (n : Str) (p : P) => ∃ v, findCls (kF w.params) (.ref 83) (.type "type") n = some (.val v) ∧ handedIn v = true ∧ DatIn [] v p.dat) ?_ hn⟩, ?_⟩
  · exact ⟨⟨.str (S [32]) 209, by kernel_rfl, rfl, .str _ _⟩, ⟨.str (S [9]) 210, by kernel_rfl, rfl, .str _ _⟩, trivial⟩
  refine ⟨⟨90, by kernel_rfl, rfl⟩, ⟨119, by kernel_rfl, rfl⟩, ⟨.str (S [13, 10]) 299, by kernel_rfl, .str _ _⟩, ⟨.str (S [10]) 301, by kernel_rfl, .str _ _⟩,
    ⟨.str (S [48, 49, 50, 51, 52, 53, 54, 55, 56, 57, 97, 98, 99, 100, 101, 102, 65, 66, 67, 68, 69, 70]) 1344, by kernel_rfl, .str _ _⟩, ?_⟩
  repeat' (first | exact trivial | refine ⟨⟨by kernel_rfl, by kernel_rfl, by decide, _, rfl⟩, ?_⟩)
theorem tabs1 : Tabs (wd1 prog w s loose mg mb) tabsX := by
  refine ⟨fun g a ha => ?_⟩
  have ha : tb1 g = some a := ha
  match g with
  | 0 => cases ha; exact chkTab_ok (by kernel_rfl) (by kernel_rfl)
  | 1 => cases ha; exact chkTab_ok (by kernel_rfl) (by kernel_rfl)
  | _ + 2 => exact no ha
theorem pgok1 : PgOk (wd1 prog w s loose mg mb) fa1 gl1 ml1 fl1 pg1 := by
  refine ⟨by kernel_rfl, fun x hx => ?_, fun x v hv => AllP.of gv1 hv, fun x f hx => ?_, ?_, tabs1, fun f F hF => AllP.of d1_all hF⟩
  · exact AllL.of (q := FldOk _) (by
      repeat' (first | exact trivial | refine ⟨⟨by kernel_rfl, by kernel_rfl, by kernel_rfl⟩, ?_⟩)) hx
  · exact AllP.of (q := MethOk _ fa1) (by
      repeat' (first | exact trivial | refine ⟨⟨by kernel_rfl, by kernel_rfl, by kernel_rfl, by kernel_rfl⟩, ?_⟩)) hx
  · exact ⟨by kernel_rfl, by kernel_rfl, by kernel_rfl, by kernel_rfl, by kernel_rfl, by kernel_rfl⟩
end
end Mine
end
section
open PySem PySem.W PyProof.Rows PyProof.V
set_option Elab.async false
set_option maxRecDepth 100000
set_option maxHeartbeats 200000
namespace Mine
noncomputable def notInts (o : Obj) : Bool := match o.cls with
  | .type c => c != "list" || (match o.data with
    | .seq its _ => (match its.toList with
      | [] => false
      | .int _ _ :: _ => false
      | _ => true)
    | _ => true)
  | _ => true
theorem notInts_of {vs : List Value} {ns : List Int} (h : IntsAre vs ns) : notInts (listOf vs.toArray 0) = false := by
  cases h with
  | nil => rfl
  | cons _ _ => rfl
theorem notInts1 (p : Params) : (kF p).all (fun x => notInts x.2) = true := by kernel_rfl
theorem mem_lookup_g {α β : Type} [BEq α] [LawfulBEq α] : ∀ {K : List (α × β)} {a : α} {o : β}, K.lookup a = some o → (a, o) ∈ K
  | [], a, o, h => by cases h
  | (b, p) :: r, a, o, h => by
    rw [List.lookup_cons] at h
    split at h
    · rename_i hb; cases h; rw [eq_of_beq hb]; exact .head _
    · exact .tail _ (mem_lookup_g h)
/-- the base without the script's own list -/
theorem base_hide {K : Frag} {h : Heap} {a : Addr} {vs : List Value} {ns : List Int} {p : Program} {loose : List Str} {mg mb : Str → Option Value} (KI : K.In h) (T : TopRead p loose mg mb h) (hk : K.all (fun x => notInts x.2) = true)
    (ha : h.get? a = some (listOf vs.toArray 0)) (hi : IntsAre vs ns) : K.In (hideAll h [a]) ∧ TopRead p loose mg mb (hideAll h [a]) := by
  have get : ∀ b o, b ≠ a → h.get? b = some o → (hideAll h [a]).get? b = some o := fun b o hb e => hideAll_get _ e (by simpa using hb)
  have ns : ∀ b m, h.Ns b m → (hideAll h [a]).Ns b m := fun b m hn => by
    obtain ⟨o, es, ep, ho, hd, r⟩ := hn
    refine ⟨o, es, ep, get b o (fun e => ?_) ho, hd, r⟩
    subst e
    rw [ha] at ho
    cases ho
    cases hd
  refine ⟨fun b o e => get b o (fun q => ?_) (KI b o e), ns _ _ T.g, ns _ _ T.b, ?_, T.builtins, T.free⟩
  · subst q
    have h1 := KI _ _ e
    rw [ha] at h1
    cases h1
    have := List.all_eq_true.mp hk _ (mem_lookup_g e)
    rw [notInts_of hi] at this
    cases this
  · obtain ⟨mc, h1, h2⟩ := T.nolimit
    exact ⟨mc, ns _ _ h1, h2⟩
theorem ints_dats {imm : List (Addr × Obj)} {vs : List Value} {ns : List Int} (h : IntsAre vs ns) : DatAll imm vs (dats (ns.map P.int)) := by
  induction h with
  | nil => exact .nil
  | cons => rename_i ih; exact .cons (.int _ _) ih
theorem finish1 {prog : Program} {w : World} {s : Shared} {loose : List Str} {mg mb : Str → Option Value} {h₁ : Heap} {a : Addr} {vs : List Value} {ns : List Int} {m : Str → Option Value} {sc : Scope} {env : Env} {body : List Stmt} {A : Around} {k : Nat} {Q : Flow → Shared → Prop} {E : Value → Shared → Prop}
    (run : ∃ loc' H', exs (pg1.lvl 2) pb_law (some (.fix (ns.map .int)) :: List.replicate 28 none) [] = some (.ret (.p (.bool true)), loc', H'))
    (KX : (kF w.params).In s.heap) (T : TopRead (qOf PySem.Challenge.pw_ku0010_01) loose mg mb s.heap) (ha : s.heap.get? a = some (listOf vs.toArray 0)) (hi : IntsAre vs ns)
    (F : Fr s.heap s.heap.objs.size h₁ m) (hm : m (Str.ofString "script") = some (.ref a)) (hL : env.locals = s.heap.objs.size) (eo : EnvOk ⟨pnm_law, sc, gl1, ml1, fl1⟩ env) (hkind : sc.names.lookup (Str.ofString "script") = some .local)
    (htr : trB ⟨pnm_law, sc, gl1, ml1, fl1⟩ 40 body = some pb_law) (Rm : Room A 5) (hk : 1 ≤ k)
    (hQ : ∀ s' m', Fr s.heap s.heap.objs.size s'.heap m' → s'.gens = s.gens → s'.os = s.os → Q (.ret (.bool true)) s') :
    wpAny (model prog w) A (execs body env) Q E { s with heap := h₁, toks := k } := by
  obtain ⟨loc', H', hz⟩ := run
  obtain ⟨K', T'⟩ := base_hide KX T (notInts1 _) ha hi
  have I : (wd1 prog w s loose mg mb).In (hideAll s.heap [a]) := ⟨K', T'⟩
  have PO : PgOk (wd1 prog w s loose mg mb) fa1 gl1 ml1 fl1 pg1 := pgok1
  have F' : Fr (hideAll s.heap [a]) s.heap.objs.size h₁ m := ⟨F.ns, fun b o e => F.keep b o (of_hideAll _ e), Nat.le_of_eq (hideAll_size _ _)⟩
  have st : St (wd1 prog w s loose mg mb) (hideAll s.heap [a]) env.locals m [] [] [(a, listOf vs.toArray 0)] [] { s with heap := h₁, toks := k } := by
    rw [hL]
    refine ⟨F', fun p hp => ?_, by simp, .nil, rfl, rfl, rfl⟩
    simp only [List.nil_append, List.mem_cons, List.not_mem_nil, or_false] at hp
    subst hp
    exact ⟨F.keep _ _ ha, Nat.ne_of_lt (Heap.lt_size ha), hideAll_none _ (by simp)⟩
  have lr : LRel (wd1 prog w s loose mg mb) pnm_law env m [(a, listOf vs.toArray 0)] (([] : List (Addr × Obj)).map Prod.fst) (some (.fix (ns.map .int)) :: List.replicate 28 none) := by
    intro i v x hv hx
    cases i with
    | zero =>
      simp only [List.getElem?_cons_zero, Option.some.injEq] at hv
      subst hv
      have hx : x = Str.ofString "script" := by
        have : pnm_law[0]? = some (Str.ofString "script") := rfl
        rw [this] at hx; exact (Option.some.inj hx).symm
      subst hx
      have hkk : env.kindOf (Str.ofString "script") = some .local := (eo.kind _).trans hkind
      refine ⟨fun _ => ⟨.ref a, hm, a, vs, 0, rfl, .head _, ints_dats hi⟩, fun h => ?_⟩
      rw [hkk] at h
      rcases h with h | h <;> cases h
    | succ i =>
      have hv : (List.replicate 28 (none : Option V))[i]? = some (some v) := hv
      have := List.mem_of_getElem? hv
      rw [List.mem_replicate] at this
      cases this.2
  have at_ : At (wd1 prog w s loose mg mb) ⟨pnm_law, sc, gl1, ml1, fl1⟩ env (hideAll s.heap [a]) m [] (some (.fix (ns.map .int)) :: List.replicate 28 none) [] [(a, listOf vs.toArray 0)] [] { s with heap := h₁, toks := k } := ⟨st, hk, lr⟩
  refine snd_block (X := wd1 prog w s loose mg mb) (n := 4) (fa := fa1) (g := pg1.lvl 2) (trS_sound PO.book 40) (c := ⟨pnm_law, sc, gl1, ml1, fl1⟩) (PO.lvl 2) eo htr hz Rm I at_ fun m' mu' imm' f s' a' g' r' => ?_
  cases r' with
  | ret hr =>
    cases hr
    have hmem : (a, listOf vs.toArray 0) ∈ mu' ++ ([] ++ imm') := List.mem_append_right _ (List.mem_append_right _ (g'.im _ (.head _)))
    have e1 := (a'.st.nw _ hmem).1
    refine hQ s' m' ⟨hL ▸ a'.st.fr.ns, fun b o e => ?_, Nat.le_refl _⟩ a'.st.g a'.st.os
    by_cases hb : b = a
    · subst hb; rw [ha] at e; cases e; exact e1
    · exact a'.st.fr.keep b o (hideAll_get _ e (by simpa using hb))
end Mine
end
section
open PySem PySem.W PyProof.Rows PyProof.V
set_option Elab.async false
set_option maxRecDepth 20000
namespace Mine
theorem ev_locE {g loc i H} : ev g loc (.loc i) H = (loc[i]?).join.bind fun v => some (v, H) := rfl
theorem ev_celE {g loc i H} : ev g loc (.cel i) H = (loc[i]?).join.bind fun v => v.rf.bind fun r => (getC H r).bind fun x => some (.p x, H) := rfl
theorem ev_litE {g loc x H} : ev g loc (.lit x) H = some (.p x, H) := rfl
theorem ev_tabE {g loc t H} : ev g loc (.tab t) H = some (.glob t, H) := rfl
theorem ev_binE {g loc o a b H} : ev g loc (.bin o a b) H = (ev g loc a H).bind fun x => (ev g loc b x.2).bind fun y => binV o x.1 y.1 y.2 := rfl
theorem ev_cmpE {g loc o a b H} : ev g loc (.cmp o a b) H = (ev g loc a H).bind fun x => (ev g loc b x.2).bind fun y => (cmpV o x.1 y.1 y.2).bind fun c => some (.p (.bool c), y.2) := rfl
theorem ev_notE {g loc z H} : ev g loc (.not z) H = none := rfl
theorem ev_andE {g loc z H} : ev g loc (.and z) H = none := rfl
theorem ev_orE {g loc z H} : ev g loc (.or z) H = none := rfl
theorem ev_negE {g loc a H} : ev g loc (.neg a) H = (ev g loc a H).bind fun x => x.1.int.bind fun i => some (.p (.int (-i)), x.2) := rfl
theorem ev_ifeE {g loc c a b H} : ev g loc (.ife c a b) H = (evT g loc c (ev g loc c H) H).bind fun t => if t.1 then ev g loc a t.2 else ev g loc b t.2 := rfl
theorem ev_tupE {g loc es H} : ev g loc (.tup es) H = (evs g loc es H).bind fun x => (allP x.1).bind fun ps => if ok ps.length then some (.p (.tup ps), x.2) else none := rfl
theorem ev_lstE {g loc es H} : ev g loc (.lst es) H = (evs g loc es H).bind fun x => (allP x.1).bind fun ps => if ok ps.length then some (.ref x.2.length, x.2 ++ [.list ps]) else none := rfl
theorem ev_idxE {g loc a i H} : ev g loc (.idx a i) H = (ev g loc a H).bind fun x => (ev g loc i x.2).bind fun y => (idxV g.tabs x.1 y.1 y.2).bind fun v => some (v, y.2) := rfl
theorem ev_slE {g loc a lo hi H} : ev g loc (.sl a lo hi) H = (ev g loc a H).bind fun x => (evo g loc lo x.2).bind fun y => (evo g loc hi y.2).bind fun z => slV x.1 y.1 z.1 z.2 := rfl
theorem ev_fldE {g loc a n H} : ev g loc (.fld a n) H = (ev g loc a H).bind fun x => (fldV x.1 n x.2).bind fun v => some (v, x.2) := rfl
theorem ev_calE {g loc f es H} : ev g loc (.cal f es) H = (evs g loc es H).bind fun x => g.call f x.1 x.2 := rfl
theorem ev_newE {g loc es H} : ev g loc (.new es) H = (evs g loc es H).bind fun x => (g.call g.init (.obj x.2.length :: x.1) (x.2 ++ [.inst []])).bind fun y => y.1.nn.bind fun _ => some (.obj x.2.length, y.2) := rfl
theorem ev_mthE {g loc f n a es H} : ev g loc (.mth f n a es) H = (ev g loc a H).bind fun x => x.1.ob.bind fun r => (getF x.2 r).bind fun fs => if (fs.lookup n).isNone then (evs g loc es x.2).bind fun y => g.call f (.obj r :: y.1) y.2 else none := rfl
theorem ev_biE {g loc b es H} : ev g loc (.bi b es) H = (evs g loc es H).bind fun x => biV b x.1 x.2 := rfl
theorem ev_smE {g loc b a es H} : ev g loc (.sm b a es) H = (ev g loc a H).bind fun x => if rcOk x.1 x.2 then (evs g loc es x.2).bind fun y => smV g.tabs b x.1 y.1 y.2 else none := rfl
theorem ev_bndE {g loc a H} : ev g loc (.bnd a) H = (ev g loc a H).bind fun x => x.1.rf.bind fun r => (getL x.2 r).bind fun _ => some (.bm r, x.2) := rfl
theorem ev_appE {g loc a e H} : ev g loc (.app a e) H = (ev g loc a H).bind fun x => (ev g loc e x.2).bind fun y => x.1.bmr.bind fun r => (addTo r y.1 y.2).bind fun K => some (.p .none, K) := rfl
theorem ev_compE {g loc fr elt t it cs H} : ev g loc (.comp fr elt t it cs) H = if frOk fr loc then (ev g loc it H).bind fun x => (itemsOf x.1 x.2).bind fun q =>
      (cmpL q.1 q.2 t (fun l K => (evC g l cs K).bind fun b => if b.1 then (ev g l elt b.2).bind fun v => addTo x.2.length v.1 v.2 else some b.2) (frOf fr loc) q.1 (x.2 ++ [.list []])).bind fun K =>
        some (.ref x.2.length, K.take (x.2.length + 1)) else none := rfl
theorem ev_comp2E {g loc fr elt t it t2 it2 cs H} : ev g loc (.comp2 fr elt t it t2 it2 cs) H = if frOk fr loc then (ev g loc it H).bind fun x => (itemsOf x.1 x.2).bind fun q =>
      (cmpL q.1 q.2 t (fun l K => if tgFree t2 l then (ev g l it2 K).bind fun x2 => (itemsOf x2.1 x2.2).bind fun q2 =>
        cmpL q2.1 q2.2 t2 (fun l K => (evC g l cs K).bind fun b => if b.1 then (ev g l elt b.2).bind fun v => addTo x.2.length v.1 v.2 else some b.2) l q2.1 x2.2 else none) (frOf fr loc) q.1 (x.2 ++ [.list []])).bind fun K =>
        some (.ref x.2.length, K.take (x.2.length + 1)) else none := rfl
theorem evs_nilE {g loc H} : evs g loc [] H = some ([], H) := rfl
theorem evs_consE {g loc e r H} : evs g loc (e :: r) H = (ev g loc e H).bind fun x => (evs g loc r x.2).bind fun y => some (x.1 :: y.1, y.2) := rfl
theorem evo_noneE {g loc H} : evo g loc none H = some (none, H) := rfl
theorem evo_someE {g loc e H} : evo g loc (some e) H = (ev g loc e H).bind fun x => some (some x.1, x.2) := rfl
theorem evT_notE {g loc a w H} : evT g loc (.not a) w H = (evT g loc a (ev g loc a H) H).bind fun b => some (!b.1, b.2) := rfl
theorem evT_andE {g loc es w H} : evT g loc (.and es) w H = evC g loc es H := rfl
theorem evT_orE {g loc es w H} : evT g loc (.or es) w H = evD g loc es H := rfl
theorem evT_ifeE {g loc z0 z1 z2 w H} : evT g loc (.ife z0 z1 z2) w H = none := rfl
theorem evT_locE {g loc i' w H} : evT g loc (.loc i') w H = w.bind fun x => (truV x.1).bind fun b => some (b, x.2) := rfl
theorem evT_celE {g loc i' w H} : evT g loc (.cel i') w H = w.bind fun x => (truV x.1).bind fun b => some (b, x.2) := rfl
theorem evT_litE {g loc x' w H} : evT g loc (.lit x') w H = w.bind fun x => (truV x.1).bind fun b => some (b, x.2) := rfl
theorem evT_tabE {g loc t' w H} : evT g loc (.tab t') w H = w.bind fun x => (truV x.1).bind fun b => some (b, x.2) := rfl
theorem evT_binE {g loc o' a' b' w H} : evT g loc (.bin o' a' b') w H = w.bind fun x => (truV x.1).bind fun b => some (b, x.2) := rfl
theorem evT_cmpE {g loc o' a' b' w H} : evT g loc (.cmp o' a' b') w H = w.bind fun x => (truV x.1).bind fun b => some (b, x.2) := rfl
theorem evT_negE {g loc a' w H} : evT g loc (.neg a') w H = w.bind fun x => (truV x.1).bind fun b => some (b, x.2) := rfl
theorem evT_tupE {g loc es' w H} : evT g loc (.tup es') w H = w.bind fun x => (truV x.1).bind fun b => some (b, x.2) := rfl
theorem evT_lstE {g loc es' w H} : evT g loc (.lst es') w H = w.bind fun x => (truV x.1).bind fun b => some (b, x.2) := rfl
theorem evT_idxE {g loc a' i' w H} : evT g loc (.idx a' i') w H = w.bind fun x => (truV x.1).bind fun b => some (b, x.2) := rfl
theorem evT_slE {g loc a' lo' hi' w H} : evT g loc (.sl a' lo' hi') w H = w.bind fun x => (truV x.1).bind fun b => some (b, x.2) := rfl
theorem evT_fldE {g loc a' n' w H} : evT g loc (.fld a' n') w H = w.bind fun x => (truV x.1).bind fun b => some (b, x.2) := rfl
theorem evT_calE {g loc f' es' w H} : evT g loc (.cal f' es') w H = w.bind fun x => (truV x.1).bind fun b => some (b, x.2) := rfl
theorem evT_newE {g loc es' w H} : evT g loc (.new es') w H = w.bind fun x => (truV x.1).bind fun b => some (b, x.2) := rfl
theorem evT_mthE {g loc f' n' a' es' w H} : evT g loc (.mth f' n' a' es') w H = w.bind fun x => (truV x.1).bind fun b => some (b, x.2) := rfl
theorem evT_biE {g loc b' es' w H} : evT g loc (.bi b' es') w H = w.bind fun x => (truV x.1).bind fun b => some (b, x.2) := rfl
theorem evT_smE {g loc b' a' es' w H} : evT g loc (.sm b' a' es') w H = w.bind fun x => (truV x.1).bind fun b => some (b, x.2) := rfl
theorem evT_bndE {g loc a' w H} : evT g loc (.bnd a') w H = w.bind fun x => (truV x.1).bind fun b => some (b, x.2) := rfl
theorem evT_appE {g loc a' e' w H} : evT g loc (.app a' e') w H = w.bind fun x => (truV x.1).bind fun b => some (b, x.2) := rfl
theorem evT_compE {g loc fr' elt' t' it' cs' w H} : evT g loc (.comp fr' elt' t' it' cs') w H = w.bind fun x => (truV x.1).bind fun b => some (b, x.2) := rfl
theorem evT_comp2E {g loc fr' elt' t' it' t2' it2' cs' w H} : evT g loc (.comp2 fr' elt' t' it' t2' it2' cs') w H = w.bind fun x => (truV x.1).bind fun b => some (b, x.2) := rfl
theorem evC_nilE {g loc H} : evC g loc [] H = some (true, H) := rfl
theorem evC_consE {g loc e r H} : evC g loc (e :: r) H = (evT g loc e (ev g loc e H) H).bind fun b => if b.1 then evC g loc r b.2 else some (false, b.2) := rfl
theorem evD_nilE {g loc H} : evD g loc [] H = some (false, H) := rfl
theorem evD_consE {g loc e r H} : evD g loc (e :: r) H = (evT g loc e (ev g loc e H) H).bind fun b => if b.1 then some (true, b.2) else evD g loc r b.2 := rfl
theorem ex_asgE {g t e loc H} : ex g (.asg t e) loc H = (ev g loc e H).bind fun x => (tgt t x.1 loc x.2).bind fun q => some (.next, q) := rfl
theorem ex_asgSE {g l e loc H} : ex g (.asgS l e) loc H = (ev g loc e H).bind fun x => (tgt (.tup l) x.1 loc x.2).bind fun q => some (.next, q) := rfl
theorem ex_asgME {g l e loc H} : ex g (.asgM l e) loc H = (ev g loc e H).bind fun x => if l.all (· < loc.length) then some (.next, l.foldl (fun loc i => loc.set i (some x.1)) loc, x.2) else none := rfl
theorem ex_asgIE {g a i e loc H} : ex g (.asgI a i e) loc H = (ev g loc e H).bind fun x => (ev g loc a x.2).bind fun y => (ev g loc i y.2).bind fun z => x.1.pl.bind fun x => y.1.rf.bind fun r => z.1.int.bind fun i => (getL z.2 r).bind fun l => if oki i && decide (0 ≤ i ∧ i < l.length) then some (.next, loc, z.2.set r (.list (l.set i.toNat x))) else none := rfl
theorem ex_asgFE {g a n e loc H} : ex g (.asgF a n e) loc H = (ev g loc e H).bind fun x => (ev g loc a x.2).bind fun y => x.1.pl.bind fun x => y.1.ob.bind fun r => (getF y.2 r).bind fun fs => if decide (fs.length ≤ 100) then some (.next, loc, y.2.set r (.inst (put fs n x))) else none := rfl
theorem ex_asgCE {g i e loc H} : ex g (.asgC i e) loc H = (ev g loc e H).bind fun x => (tgt (.one i) x.1 loc x.2).bind fun q => some (.next, q) := rfl
theorem ex_augE {g i o e loc H} : ex g (.aug i o e) loc H = (loc[i]?).join.bind fun v => (ev g loc e H).bind fun x => (isAdd o).bind fun _ => v.pl.bind fun a => x.1.pl.bind fun b => (addP a b).bind fun c => (tgt (.one i) (.p c) loc x.2).bind fun q => some (.next, q) := rfl
theorem ex_exE {g e loc H} : ex g (.ex e) loc H = (ev g loc e H).bind fun x => x.1.nn.bind fun _ => some (.next, loc, x.2) := rfl
theorem ex_ifsE {g c a b loc H} : ex g (.ifs c a b) loc H = (evT g loc c (ev g loc c H) H).bind fun t => if t.1 then exs g a loc t.2 else exs g b loc t.2 := rfl
theorem ex_whlE {g c b loc H} : ex g (.whl c b) loc H = whlL (fun loc H => evT g loc c (ev g loc c H) H) (fun loc H => exs g b loc H) fuel loc H := rfl
theorem ex_foreE {g t it b loc H} : ex g (.fore t it b) loc H = (ev g loc it H).bind fun x => (itemsOf x.1 x.2).bind fun q => forL q.1 q.2 t (fun loc H => exs g b loc H) q.1 loc x.2 := rfl
theorem ex_retE {g e loc H} : ex g (.ret e) loc H = (ev g loc e H).bind fun x => some (.ret x.1, loc, x.2) := rfl
theorem ex_brkE {g  loc H} : ex g (.brk) loc H = some (.brk, loc, H) := rfl
theorem ex_contE {g  loc H} : ex g (.cont) loc H = some (.cont, loc, H) := rfl
theorem ex_badE {g  loc H} : ex g (.bad) loc H = none := rfl
theorem exs_nilE {g loc H} : exs g [] loc H = some (.next, loc, H) := rfl
theorem exs_consE {g t r loc H} : exs g (t :: r) loc H = (ex g t loc H).bind fun z => match z.1 with
    | .next => exs g r z.2.1 (gc H.length z.2.1 z.2.2)
    | _ => some z := rfl
end Mine
end
section
open PySem PySem.W PyProof.Rows PyProof.V
set_option Elab.async false
set_option maxRecDepth 20000
set_option linter.unusedSimpArgs false
namespace Mine
theorem bindS {α β : Type} {o : Option α} {f : α → Option β} {a : α} {z : Option β} (h : o = some a) (k : f a = z) : o.bind f = z := by rw [h]; exact k
theorem mapS {α β : Type} {o : Option α} {f : α → β} {a : α} (h : o = some a) : o.map f = some (f a) := by rw [h]; rfl
theorem exs_nil (g : G) (loc H) : exs g [] loc H = some (.next, loc, H) := rfl
theorem exs_step {g : G} {t : T} {r : List T} {loc H loc' H' H'' z} (h : ex g t loc H = some (.next, loc', H')) (hg : gc H.length loc' H' = H'') (h2 : exs g r loc' H'' = z) : exs g (t :: r) loc H = z := bindS h ((congrArg (exs g r loc') hg).trans h2)
theorem exs_stop {g : G} {t : T} {r : List T} {loc H z} (h : ex g t loc H = some z) (hn : z.1 ≠ .next) : exs g (t :: r) loc H = some z := by
  refine bindS h ?_
  obtain ⟨f, l, K⟩ := z
  cases f with
  | next => exact absurd rfl hn
  | _ => rfl
theorem ex_for {g : G} {t : Tg} {it : E} {b : List T} {loc H v H₁ ps w z} (h1 : ev g loc it H = some (v, H₁)) (h2 : itemsOf v H₁ = some (ps, w)) (h3 : forL ps w t (fun loc H => exs g b loc H) ps loc H₁ = some z) : ex g (.fore t it b) loc H = some z := bindS h1 (bindS h2 h3)
theorem gc_same (loc : List (Option V)) (H : List O) : gc H.length loc H = H := by
  unfold gc
  exact List.take_of_length_le (Nat.le_max_left _ _)
theorem ev_bin {g : G} {L : List (Option V)} {o : BOp} {a b : E} {H H₁ H₂ : List O} {x y : V} {z} (h1 : ev g L a H = some (x, H₁)) (h2 : ev g L b H₁ = some (y, H₂)) (h3 : binV o x y H₂ = some z) : ev g L (.bin o a b) H = some z := bindS h1 (bindS h2 h3)
theorem ev_cmp {g : G} {L : List (Option V)} {o : COp} {a b : E} {H H₁ H₂ : List O} {x y : V} {z : Bool} (h1 : ev g L a H = some (x, H₁)) (h2 : ev g L b H₁ = some (y, H₂)) (h3 : cmpV o x y H₂ = some z) : ev g L (.cmp o a b) H = some (.p (.bool z), H₂) := bindS h1 (bindS h2 (bindS h3 rfl))
theorem evT_cmp {g : G} {L : List (Option V)} {o : COp} {a b : E} {H H₁ H₂ : List O} {x y : V} {z : Bool} (h1 : ev g L a H = some (x, H₁)) (h2 : ev g L b H₁ = some (y, H₂)) (h3 : cmpV o x y H₂ = some z) : evT g L (.cmp o a b) (ev g L (.cmp o a b) H) H = some (z, H₂) := bindS (ev_cmp h1 h2 h3) rfl
theorem evs_nil (g : G) (L : List (Option V)) (H : List O) : evs g L [] H = some ([], H) := rfl
theorem evs_cons {g : G} {L : List (Option V)} {e : E} {r : List E} {H H₁ H₂ : List O} {x : V} {y : List V} (h1 : ev g L e H = some (x, H₁)) (h2 : evs g L r H₁ = some (y, H₂)) : evs g L (e :: r) H = some (x :: y, H₂) := bindS h1 (bindS h2 rfl)
theorem ev_bi {g : G} {L : List (Option V)} {b : BI} {es : List E} {H H₁ : List O} {x : List V} {z} (h1 : evs g L es H = some (x, H₁)) (h2 : biV b x H₁ = some z) : ev g L (.bi b es) H = some z := bindS h1 h2
theorem ev_loc {g : G} {L : List (Option V)} {i : Nat} {H : List O} {v : V} (h : L[i]? = some (some v)) : ev g L (.loc i) H = some (v, H) := bindS (o := (L[i]?).join) (congrArg Option.join h) rfl
theorem ex_asg {g : G} {L L' : List (Option V)} {t : Tg} {e : E} {H H₁ H₂ : List O} {v : V} (h : ev g L e H = some (v, H₁)) (h2 : tgt t v L H₁ = some (L', H₂)) : ex g (.asg t e) L H = some (.next, L', H₂) := bindS h (bindS h2 rfl)
theorem ex_ex {g : G} {L : List (Option V)} {e : E} {H H₁ : List O} (h : ev g L e H = some (.p .none, H₁)) : ex g (.ex e) L H = some (.next, L, H₁) := bindS h rfl
theorem ex_if {g : G} {L : List (Option V)} {c : E} {a b : List T} {H H₁ : List O} {t : Bool} {z} (h : evT g L c (ev g L c H) H = some (t, H₁)) (h2 : exs g (if t then a else b) L H₁ = some z) : ex g (.ifs c a b) L H = some z := bindS h (by cases t <;> exact h2)
theorem ev_fldG {g : G} {L : List (Option V)} {i r : Nat} {H : List O} {fs : List (Str × P)} {x : Str} {p : P} (hi : L[i]? = some (some (.obj r))) (hf : getF H r = some fs) (hx : fs.lookup x = some p) : ev g L (.fld (.loc i) x) H = some (.p p, H) := by
  rw [ev_fldE, ev_loc hi]
  show ((getF H r).bind fun fs => (fs.lookup x).map V.p).bind _ = _
  rw [hf, Option.bind_some, hx]
  rfl
theorem ev_idx {g : G} {L : List (Option V)} {a i : E} {H H₁ H₂ : List O} {x y v : V} (h1 : ev g L a H = some (x, H₁)) (h2 : ev g L i H₁ = some (y, H₂)) (h3 : idxV g.tabs x y H₂ = some v) : ev g L (.idx a i) H = some (v, H₂) := bindS h1 (bindS h2 (bindS h3 rfl))
theorem evo_none (g : G) (L : List (Option V)) (H : List O) : evo g L none H = some (none, H) := rfl
theorem evo_some {g : G} {L : List (Option V)} {e : E} {H H₁ : List O} {x : V} (h : ev g L e H = some (x, H₁)) : evo g L (some e) H = some (some x, H₁) := bindS h rfl
theorem ev_sl {g : G} {L : List (Option V)} {a : E} {lo hi : Option E} {H H₁ H₂ H₃ : List O} {x : V} {y z : Option V} {r} (h1 : ev g L a H = some (x, H₁)) (h2 : evo g L lo H₁ = some (y, H₂)) (h3 : evo g L hi H₂ = some (z, H₃)) (h4 : slV x y z H₃ = some r) : ev g L (.sl a lo hi) H = some r := bindS h1 (bindS h2 (bindS h3 h4))
theorem ev_app {g : G} {L : List (Option V)} {a e : E} {H H₁ H₂ K : List O} {r : Nat} {v : V} (h1 : ev g L a H = some (.bm r, H₁)) (h2 : ev g L e H₁ = some (v, H₂)) (h3 : addTo r v H₂ = some K) : ev g L (.app a e) H = some (.p .none, K) := bindS h1 (bindS h2 (bindS (a := r) rfl (bindS h3 rfl)))
theorem ev_cal {g : G} {L : List (Option V)} {f : Nat} {es : List E} {H H₁ : List O} {vs : List V} {z} (h1 : evs g L es H = some (vs, H₁)) (h2 : g.call f vs H₁ = some z) : ev g L (.cal f es) H = some z := bindS h1 h2
theorem ev_sm {g : G} {L : List (Option V)} {b : SM} {a : E} {es : List E} {H H₁ H₂ : List O} {x : V} {vs : List V} {z} (h1 : ev g L a H = some (x, H₁)) (hr : rcOk x H₁ = true) (h2 : evs g L es H₁ = some (vs, H₂)) (h3 : smV g.tabs b x vs H₂ = some z) : ev g L (.sm b a es) H = some z := bindS h1 ((if_pos hr).trans (bindS h2 h3))
theorem ev_append {g : G} {L : List (Option V)} {i r : Nat} {e : E} {H H₁ : List O} {x : P} {l₀ l : List P} (hi : L[i]? = some (some (.ref r))) (h0 : getL H r = some l₀) (he : ev g L e H = some (.p x, H₁)) (hl : getL H₁ r = some l) (hk : ok l.length = true) :
    ev g L (.sm .append (.loc i) [e]) H = some (.p .none, H₁.set r (.list (l ++ [x]))) := by
  refine ev_sm (ev_loc hi) (by show (getL H r).isSome = true; rw [h0]; rfl) (evs_cons he (evs_nil _ _ _)) ?_
  exact bindS (o := getL H₁ r) hl (if_pos hk)
theorem ex_whl {g : G} {c : E} {b : List T} {loc H z} (h : whlL (fun loc H => evT g loc c (ev g loc c H) H) (fun loc H => exs g b loc H) fuel loc H = some z) : ex g (.whl c b) loc H = some z := h
theorem whl_stop {test : List (Option V) → List O → Option (Bool × List O)} {body} {n : Nat} {loc H H₁} (h : test loc H = some (false, H₁)) : whlL test body (n + 1) loc H = some (.next, loc, H₁) := bindS h rfl
theorem whl_go {test : List (Option V) → List O → Option (Bool × List O)} {body : List (Option V) → List O → Option Zt} {n : Nat} {loc H H₁ loc' H' z} (h : test loc H = some (true, H₁)) (hb : body loc H₁ = some (.next, loc', H') ∨ body loc H₁ = some (.cont, loc', H')) (hr : whlL test body n loc' H' = z) : whlL test body (n + 1) loc H = z := bindS h (hb.elim (fun hb => bindS hb hr) fun hb => bindS hb hr)
theorem ex_aug {g : G} {L L' : List (Option V)} {i : Nat} {e : E} {H H₁ H₂ : List O} {a b c : P} (hi : L[i]? = some (some (.p a))) (he : ev g L e H = some (.p b, H₁)) (hb : binP .add a b = some c) (ht : tgt (.one i) (.p c) L H₁ = some (L', H₂)) : ex g (.aug i .add e) L H = some (.next, L', H₂) := bindS (o := (L[i]?).join) (congrArg Option.join hi) (bindS he (bindS (o := addP a b) hb (bindS ht rfl)))
theorem ex_cont (g : G) (L : List (Option V)) (H : List O) : ex g .cont L H = some (.cont, L, H) := rfl
theorem evT_and {g : G} {L : List (Option V)} {es : List E} {H : List O} {z} (h : evC g L es H = some z) : evT g L (.and es) (ev g L (.and es) H) H = some z := h
theorem evC_nil (g : G) (L : List (Option V)) (H : List O) : evC g L [] H = some (true, H) := rfl
theorem evC_cons {g : G} {L : List (Option V)} {e : E} {r : List E} {H H₁ : List O} {t : Bool} {z} (h : evT g L e (ev g L e H) H = some (t, H₁)) (h2 : (if t then evC g L r H₁ else some (false, H₁)) = some z) : evC g L (e :: r) H = some z := bindS h h2
theorem bnds_int {i : Int} (h : oki i = true) : bnds (some (.p (.int i))) = some (some i) := if_pos h
theorem slV_str {x : List Nat} {lo hi : Option V} {a b : Option Int} {H : List O} (h1 : bnds lo = some a) (h2 : bnds hi = some b) (h : ok x.length = true) : slV (.p (.str x)) lo hi H = some (.p (.str (cut x a b)), H) := by
  rw [slV, h1, h2]
  exact if_pos h
theorem biV_range2 {a b : Int} {H : List O} (h1 : oki a = true) (h2 : oki b = true) : biV .range [.p (.int a), .p (.int b)] H = some (.rng a b, H) := if_pos (by rw [h1, h2]; rfl)
theorem biV_range1 {b : Int} {H : List O} (h : oki b = true) : biV .range [.p (.int b)] H = some (.rng 0 b, H) := if_pos h
theorem biV_chr {i : Int} {H : List O} (h : 0 ≤ i ∧ i < 0x110000) : biV .chr [.p (.int i)] H = some (.p (.str [i.toNat]), H) := if_pos (decide_eq_true h)
theorem ev_mth {g : G} {L : List (Option V)} {f : Nat} {n : Str} {a : E} {es : List E} {H H₁ H₂ : List O} {r : Nat} {fs : List (Str × P)} {vs : List V} {z} (h1 : ev g L a H = some (.obj r, H₁)) (h2 : getF H₁ r = some fs) (h3 : fs.lookup n = none) (h4 : evs g L es H₁ = some (vs, H₂)) (h5 : g.call f (.obj r :: vs) H₂ = some z) : ev g L (.mth f n a es) H = some z := bindS h1 (bindS (o := getF H₁ r) h2 ((if_pos (by rw [h3]; rfl)).trans (bindS h4 h5)))
theorem ev_new {g : G} {L : List (Option V)} {es : List E} {H H₁ K : List O} {vs : List V} (h1 : evs g L es H = some (vs, H₁)) (h2 : g.call g.init (.obj H₁.length :: vs) (H₁ ++ [.inst []]) = some (.p .none, K)) : ev g L (.new es) H = some (.obj H₁.length, K) := bindS h1 (bindS h2 rfl)
theorem ev_m1 {g : G} {L : List (Option V)} {H : List O} : ev g L (.neg (.lit (.int (1)))) H = some (.p (.int (-1)), H) := rfl
theorem ex_asgF {g : G} {L : List (Option V)} {a e : E} {n : Str} {H H₁ H₂ : List O} {x : P} {r : Nat} {fs : List (Str × P)} (he : ev g L e H = some (.p x, H₁)) (ho : ev g L a H₁ = some (.obj r, H₂)) (hf : getF H₂ r = some fs) (hk : fs.length ≤ 100) :
    ex g (.asgF a n e) L H = some (.next, L, H₂.set r (.inst (put fs n x))) := bindS he (bindS ho (bindS (o := getF H₂ r) hf (if_pos (decide_eq_true hk))))
theorem ex_ret {g : G} {L : List (Option V)} {e : E} {H H₁ : List O} {v : V} (h : ev g L e H = some (v, H₁)) : ex g (.ret e) L H = some (.ret v, L, H₁) := bindS h rfl
theorem binP_v {o : BOp} {a b c : P} {H : List O} (h : binP o a b = some c) : binV o (.p a) (.p b) H = some (.p c, H) := bindS (o := binP o a b) h rfl
theorem mulI {a b : Int} {H : List O} (h : oki a = true) : binV .mul (.p (.int a)) (.p (.int b)) H = some (.p (.int (a * b)), H) := binP_v (if_pos h)
theorem fdivI {a b : Int} {H : List O} (h : oki b = true) (h0 : 0 < b) : binV .fdiv (.p (.int a)) (.p (.int b)) H = some (.p (.int (a / b)), H) := binP_v (if_pos (by rw [h, decide_eq_true h0]; rfl))
theorem modI {a b : Int} {H : List O} (h0 : 0 < b) : binV .mod (.p (.int a)) (.p (.int b)) H = some (.p (.int (a % b)), H) := binP_v (if_pos (decide_eq_true h0))
theorem lenT {x : List P} {H : List O} (h : ok x.length = true) : biV .len [.p (.tup x)] H = some (.p (.int x.length), H) := if_pos h
theorem lenS {x : List Nat} {H : List O} (h : ok x.length = true) : biV .len [.p (.str x)] H = some (.p (.int x.length), H) := if_pos h
theorem lenR {r : Nat} {x : List P} {H : List O} (h1 : getL H r = some x) (h : ok x.length = true) : biV .len [.ref r] H = some (.p (.int x.length), H) := by
  show (((getL H r).map List.length).bind fun n => if ok n = true then some (V.p (.int n), H) else none) = _
  rw [h1]
  exact if_pos h
theorem items_rg {a b : Int} {H : List O} (h1 : oki a = true) (h2 : oki b = true) : itemsOf (.rng a b) H = some (rngL a b, none) := if_pos (by rw [h1, h2]; rfl)
theorem items_rf {r : Nat} {x : List P} {H : List O} (h1 : getL H r = some x) : itemsOf (.ref r) H = some (x, some r) := by
  show (getL H r).map _ = _
  rw [h1]
  rfl
theorem idxT {tabs : Nat → List P} {x : List P} {i : Int} {p : P} {H : List O} (h1 : inIdx i x.length = true) (h2 : x[nIdx i x.length]? = some p) : idxV tabs (.p (.tup x)) (.p (.int i)) H = some (.p p) := congrArg (Option.map V.p) ((if_pos h1).trans h2)
theorem idxR {tabs : Nat → List P} {r : Nat} {x : List P} {i : Int} {p : P} {H : List O} (h0 : getL H r = some x) (h1 : inIdx i x.length = true) (h2 : x[nIdx i x.length]? = some p) : idxV tabs (.ref r) (.p (.int i)) H = some (.p p) := by
  show ((getL H r).bind fun x => if inIdx i x.length = true then x[nIdx i x.length]? else none).map V.p = _
  rw [h0]
  exact congrArg (Option.map V.p) ((if_pos h1).trans h2)
theorem tidy_p {x : P} {H : List O} : tidy H.length (.p x) H = some (.p x, H) := by simp [tidy]
noncomputable def isNext (f : Fl) : Bool := match f with
  | .next => true
  | _ => false
theorem ne_next {f : Fl} (h : isNext f = false) : f ≠ .next := fun e => by rw [e] at h; cases h
theorem eq_chr (c d : Nat) : ([c] == [d]) = decide (c = d) := by
  by_cases h : c = d
  · rw [h, decide_eq_true rfl]; exact beq_self_eq_true _
  · rw [decide_eq_false h]; exact beq_eq_false_iff_ne.mpr fun e => h (List.cons.inj e).1
theorem eqc {c d : Nat} {H : List O} : cmpV .eq (.p (.str [c])) (.p (.str [d])) H = some (decide (c = d)) := congrArg some (eq_chr c d)
theorem eqc_t {c d : Nat} {H : List O} (h : c = d) : cmpV .eq (.p (.str [c])) (.p (.str [d])) H = some true := eqc.trans (congrArg some (decide_eq_true h))
theorem eqc_f {c d : Nat} {H : List O} (h : c ≠ d) : cmpV .eq (.p (.str [c])) (.p (.str [d])) H = some false := eqc.trans (congrArg some (decide_eq_false h))
theorem nec_t {c d : Nat} {H : List O} (h : c ≠ d) : cmpV .ne (.p (.str [c])) (.p (.str [d])) H = some true := congrArg (fun b => some (!b)) ((eq_chr c d).trans (decide_eq_false h))
theorem nec_f {c d : Nat} {H : List O} (h : c = d) : cmpV .ne (.p (.str [c])) (.p (.str [d])) H = some false := congrArg (fun b => some (!b)) ((eq_chr c d).trans (decide_eq_true h))
theorem eqi_t {a b : Int} {H : List O} (h : a = b) : cmpV .eq (.p (.int a)) (.p (.int b)) H = some true := congrArg some (beq_iff_eq.mpr h)
theorem eqi_f {a b : Int} {H : List O} (h : a ≠ b) : cmpV .eq (.p (.int a)) (.p (.int b)) H = some false := congrArg some (beq_eq_false_iff_ne.mpr h)
theorem nei_t {a b : Int} {H : List O} (h : a ≠ b) : cmpV .ne (.p (.int a)) (.p (.int b)) H = some true := congrArg (fun b => some (!b)) (beq_eq_false_iff_ne.mpr h)
theorem nei_f {a b : Int} {H : List O} (h : a = b) : cmpV .ne (.p (.int a)) (.p (.int b)) H = some false := congrArg (fun b => some (!b)) (beq_iff_eq.mpr h)
theorem lt_t {a b : Int} {H : List O} (h : a < b) : cmpV .lt (.p (.int a)) (.p (.int b)) H = some true := congrArg some (decide_eq_true h)
theorem lt_f {a b : Int} {H : List O} (h : ¬ a < b) : cmpV .lt (.p (.int a)) (.p (.int b)) H = some false := congrArg some (decide_eq_false h)
theorem ge_t {a b : Int} {H : List O} (h : b ≤ a) : cmpV .ge (.p (.int a)) (.p (.int b)) H = some true := congrArg some (decide_eq_true h)
theorem ge_f {a b : Int} {H : List O} (h : ¬ b ≤ a) : cmpV .ge (.p (.int a)) (.p (.int b)) H = some false := congrArg some (decide_eq_false h)
theorem le_t {a b : Int} {H : List O} (h : a ≤ b) : cmpV .le (.p (.int a)) (.p (.int b)) H = some true := congrArg some (decide_eq_true h)
theorem le_f {a b : Int} {H : List O} (h : ¬ a ≤ b) : cmpV .le (.p (.int a)) (.p (.int b)) H = some false := congrArg some (decide_eq_false h)
theorem lb_pm {o : Option P} {r : List (Option V)} : lb (o.map V.p :: r) = lb r := by
  cases o with
  | none => rfl
  | some _ => exact Nat.zero_max _
theorem lb_q {p : P} {r : List (Option V)} : lb (some (.p p) :: r) = lb r := Nat.zero_max _
theorem lb_rf {n : Nat} {r : List (Option V)} : lb (some (.ref n) :: r) = max (n + 1) (lb r) := rfl
theorem tidy_new {o : O} {H : List O} : tidy H.length (.ref H.length) (H ++ [o]) = some (.ref H.length, H ++ [o]) := by simp [tidy]
theorem oki_one : oki 1 = true := by decide
theorem ex_ifT {g : G} {L : List (Option V)} {c : E} {a b : List T} {H H₁ : List O} {z} (h : evT g L c (ev g L c H) H = some (true, H₁)) (h2 : exs g a L H₁ = some z) : ex g (.ifs c a b) L H = some z := ex_if h h2
theorem ex_ifF {g : G} {L : List (Option V)} {c : E} {a b : List T} {H H₁ : List O} {z} (h : evT g L c (ev g L c H) H = some (false, H₁)) (h2 : exs g b L H₁ = some z) : ex g (.ifs c a b) L H = some z := ex_if h h2
theorem evC_t {g : G} {L : List (Option V)} {e : E} {r : List E} {H H₁ : List O} {z} (h : evT g L e (ev g L e H) H = some (true, H₁)) (h2 : evC g L r H₁ = some z) : evC g L (e :: r) H = some z := evC_cons h h2
theorem evC_f {g : G} {L : List (Option V)} {e : E} {r : List E} {H H₁ : List O} (h : evT g L e (ev g L e H) H = some (false, H₁)) : evC g L (e :: r) H = some (false, H₁) := evC_cons h rfl
theorem exs_one {g : G} {t : T} {loc H} {loc' : List (Option V)} {H' : List O} (h : ex g t loc H = some (.next, loc', H')) (hg : gc H.length loc' H' = H') : exs g [t] loc H = some (.next, loc', H') := exs_step h hg rfl
theorem exs_1 {g : G} {t : T} {loc} {loc' : List (Option V)} {H : List O} (h : ex g t loc H = some (.next, loc', H)) : exs g [t] loc H = some (.next, loc', H) := exs_step h (gc_same _ _) rfl
theorem exs_s {g : G} {t : T} {r : List T} {loc loc' : List (Option V)} {H : List O} {z} (h : ex g t loc H = some (.next, loc', H)) (h2 : exs g r loc' H = z) : exs g (t :: r) loc H = z := exs_step h (gc_same _ _) h2
theorem add_strP {a b : List Nat} (h : a.length + b.length ≤ 1000000) : binP .add (.str a) (.str b) = some (.str (a ++ b)) := if_pos (ok_of h)
theorem addI {a b : Int} {H : List O} : binV .add (.p (.int a)) (.p (.int b)) H = some (.p (.int (a + b)), H) := rfl
theorem subI {a b : Int} {H : List O} : binV .sub (.p (.int a)) (.p (.int b)) H = some (.p (.int (a - b)), H) := rfl
theorem add_strP1 {a : List Nat} {c : Nat} (h : a.length + 1 ≤ 1000000) : binP .add (.str a) (.str [c]) = some (.str (a ++ [c])) := if_pos (ok_of h)
section
variable {all : List P} {w : Option Nat} {t : Tg} {bd : List (Option V) → List O → Option Zt} {x : P} {r : List P} {loc l₂ : List (Option V)} {H H₂ : List O} {q : List (Option V) × List O} {z : Option Zt} {f : Fl}
theorem forL_nil (h : stays w all H = true) : forL all w t bd [] loc H = some (.next, loc, H) := if_pos h
theorem forL_go (hs : stays w all H = true) (ht : tgt t (.p x) loc H = some q) (hb : bd q.1 q.2 = some (f, l₂, H₂)) (hf : f = .next ∨ f = .cont) (h : forL all w t bd r l₂ H₂ = z) : forL all w t bd (x :: r) loc H = z := by
  refine (if_pos hs).trans (bindS ht (bindS hb ?_))
  rcases hf with rfl | rfl <;> exact h
theorem forL_brk {v : List (Option V) × List O} (hs : stays w all H = true) (ht : tgt t (.p x) loc H = some q) (hb : bd q.1 q.2 = some (.brk, v)) : forL all w t bd (x :: r) loc H = some (.next, v) := (if_pos hs).trans (bindS ht (bindS hb rfl))
theorem forL_ret {v : V} {u : List (Option V) × List O} (hs : stays w all H = true) (ht : tgt t (.p x) loc H = some q) (hb : bd q.1 q.2 = some (.ret v, u)) : forL all w t bd (x :: r) loc H = some (.ret v, u) := (if_pos hs).trans (bindS ht (bindS hb rfl))
theorem orFl {b : Option Zt} {u : List (Option V) × List O} (h : b = some (.next, u) ∨ b = some (.cont, u)) : ∃ f, (f = .next ∨ f = .cont) ∧ b = some (f, u) := h.elim (fun h => ⟨_, .inl rfl, h⟩) fun h => ⟨_, .inr rfl, h⟩
end
end Mine
end
section
open PySem PySem.W PyProof.Rows PyProof.V
set_option Elab.async false
set_option maxRecDepth 20000
set_option linter.unusedSimpArgs false
namespace Mine
/-- a loop over items, state by state -/
theorem forL_fold {σ : Type} {all : List P} {t : Tg} {bd : List (Option V) → List O → Option Zt} (L : σ → List (Option V)) (Hh : σ → List O) (f : σ → P → σ) (G : σ → Prop) {w : Option Nat} (hw : ∀ s, G s → stays w all (Hh s) = true) :
    ∀ {items : List P} {s : σ}, G s → (∀ s x, x ∈ items → G s → G (f s x) ∧ ∃ q, tgt t (.p x) (L s) (Hh s) = some q ∧ (bd q.1 q.2 = some (.next, L (f s x), Hh (f s x)) ∨ bd q.1 q.2 = some (.cont, L (f s x), Hh (f s x)))) →
    forL all w t bd items (L s) (Hh s) = some (.next, L (items.foldl f s), Hh (items.foldl f s)) := by
  intro items
  induction items with
  | nil => exact fun hs _ => forL_nil (hw _ hs)
  | cons x r ih =>
    intro s hs h
    obtain ⟨h1, q, h2, h3⟩ := h s x (.head _) hs
    obtain ⟨fl, hf, h3⟩ := orFl h3
    exact forL_go (hw s hs) h2 h3 hf (ih h1 fun s x hx => h s x (.tail _ hx))
theorem runF_ret {g : G} {F : FD} {vs : List V} {H : List O} {v v' : V} {loc' : List (Option V)} {H' K : List O} (ha : vs.length = F.ar) (h : exs g F.body (loc0 F vs) H = some (.ret v, loc', H')) (ht : tidy H.length v H' = some (v', K)) : runF g F vs H = some (v', K) := by
  unfold runF
  simp [ha, h, ht]
/-- columns -/
noncomputable def colS (d : Int) (c : Int) (s : Nat) : Int := if s = 9 then c + d - c % d else c + 1
noncomputable def col (d : Int) (l : List Nat) : Int := l.foldl (colS d) 0
theorem run_column {g : G} {l : List Nat} {d : Int} {H : List O} (hd : 0 < d) : runF g pF_lw_column [.p (.str l), .p (.int d)] H = some (.p (.int (col d l)), H) := by
  let L : Int × Option V → List (Option V) := fun s => [some (.p (.str l)), some (.p (.int d)), some (.p (.int s.1)), s.2]
  let f : Int × Option V → P → Int × Option V := fun s x => match x with | .str [c] => (colS d s.1 c, some (.p (.str [c]))) | _ => s
  have fold : ∀ (l : List Nat) (s : Int × Option V), ((l.map fun c => P.str [c]).foldl f s).1 = l.foldl (colS d) s.1 := by
    intro l
    induction l with
    | nil => intro s; rfl
    | cons c l ih => intro s; simp only [List.map_cons, List.foldl_cons]; rw [ih]
  refine runF_ret (v := .p (.int (col d l))) rfl (loc' := L ((l.map fun c => P.str [c]).foldl f (0, none))) (H' := H) ?_ tidy_p
  refine exs_step (loc' := L (0, none)) (H' := H) rfl (gc_same _ _) ?_
  refine exs_step (loc' := L ((l.map fun c => P.str [c]).foldl f (0, none))) (H' := H) (ex_for rfl rfl ?_) (gc_same _ _) ?_
  · refine forL_fold L (fun _ => H) f (fun _ => True) (fun _ _ => rfl) trivial fun s x hx _ => ?_
    obtain ⟨c, hc, rfl⟩ := List.mem_map.mp hx
    refine ⟨trivial, ([some (.p (.str l)), some (.p (.int d)), some (.p (.int s.1)), some (.p (.str [c]))], H), rfl, .inl ?_⟩
    by_cases h9 : c = 9
    · refine exs_step (ex_if (t := true) (evT_cmp (ev_loc rfl) rfl (eqc_t h9)) (exs_step (ex_asg (ev_bin (ev_bin (ev_loc rfl) (ev_loc rfl) rfl) (ev_bin (ev_loc rfl) (ev_loc rfl) (modI hd)) rfl) rfl) (gc_same _ _) rfl)) (gc_same _ _) ?_
      rw [h9]
      rfl
    · refine exs_step (ex_if (t := false) (evT_cmp (ev_loc rfl) rfl (eqc_f h9)) (exs_step (ex_asg (ev_bin (ev_loc rfl) rfl rfl) rfl) (gc_same _ _) rfl)) (gc_same _ _) ?_
      have e : colS d s.1 c = s.1 + 1 := if_neg h9
      simp only [f, e]
      rfl
  · exact exs_stop (ex_ret ((ev_loc rfl).trans (by rw [show (((l.map fun c => P.str [c]).foldl f (0, none)).1) = col d l from fold _ _]))) (ne_next rfl)
end Mine
end
section
open PySem PySem.W PyProof.Rows PyProof.V
set_option Elab.async false
set_option maxRecDepth 20000
set_option linter.unusedSimpArgs false
namespace Mine
theorem getL_last (H : List O) (x : List P) : getL (H ++ [.list x]) H.length = some x := by simp [getL]
theorem getL_app {H : List O} {r : Nat} {x : List P} (h : getL H r = some x) (K : List O) : getL (H ++ K) r = some x := by
  have h1 := getL_some h
  have hlt := (List.getElem?_eq_some_iff.mp h1).1
  unfold getL
  rw [List.getElem?_append_left hlt, h1]
theorem getL_lt {H : List O} {r : Nat} {x : List P} (h : getL H r = some x) : r < H.length := (List.getElem?_eq_some_iff.mp (getL_some h)).1
theorem set_last (H : List O) (o o' : O) : (H ++ [o]).set H.length o' = H ++ [o'] := by
  rw [List.set_append_right _ _ (Nat.le_refl _)]; simp
theorem take_last (H : List O) (o : O) : (H ++ [o]).take (H.length + 1) = H ++ [o] := List.take_of_length_le (by simp)
theorem stays_app {w : Option Nat} {all : List P} {H : List O} (h : stays w all H = true) (K : List O) : stays w all (H ++ K) = true := by
  cases w with
  | none => rfl
  | some r =>
    have h1 := stays_ref h
    unfold stays
    simp only [getL_app h1]
    exact (beqs_iff _ _).mpr rfl
theorem stays_of {r : Nat} {all : List P} {H : List O} (h : getL H r = some all) : stays (some r) all H = true := by
  unfold stays
  simp only [h]
  exact (beqs_iff _ _).mpr rfl
/-- a comprehension's loop: what each item gives -/
theorem cmpL_run {all : List P} {w : Option Nat} {t : Tg} {turn : List (Option V) → List O → Option (List O)} {H : List O} (f : P → Option P) (Gd : List (Option V) → Prop) (hw : stays w all H = true) :
    ∀ {items : List P} {acc : List P} {loc : List (Option V)}, Gd loc → acc.length + items.length ≤ 1000000 →
      (∀ x ∈ items, ∀ loc acc, Gd loc → acc.length < 1000000 → ∃ loc', Gd loc' ∧ tgt t (.p x) loc (H ++ [.list acc]) = some (loc', H ++ [.list acc]) ∧ turn loc' (H ++ [.list acc]) = some (H ++ [.list (acc ++ (f x).toList)])) →
      cmpL all w t turn loc items (H ++ [.list acc]) = some (H ++ [.list (acc ++ items.filterMap f)])
  | [], acc, loc, _, _, _ => by simp [cmpL, stays_app hw]
  | x :: r, acc, loc, hl, hn, h => by
    obtain ⟨loc', h1, h2, h3⟩ := h x (.head _) loc acc hl (by simp at hn; lia)
    have hlen : (acc ++ (f x).toList).length + r.length ≤ 1000000 := by
      simp only [List.length_append, List.length_cons] at hn ⊢
      cases f x <;> simp <;> (first | exact Nat.le_of_lt ‹_› | lia)
    have ih := cmpL_run (all := all) (w := w) (t := t) (turn := turn) f Gd hw (items := r) (acc := acc ++ (f x).toList) h1 hlen (fun x hx => h x (.tail _ hx))
    simp only [cmpL, stays_app hw, if_true, h2, Option.bind_some, h3, ih]
    congr 2
    cases hf : f x <;> simp [hf]
theorem addTo_last {H : List O} {acc : List P} {x : P} (h : acc.length < 1000000) : addTo H.length (.p x) (H ++ [.list acc]) = some (H ++ [.list (acc ++ [x])]) := by
  simp only [addTo, getL_last, Option.bind_some, set_last, pl_mk]
  rw [if_pos (ok_of (Nat.le_of_lt h))]

/-- the numbers -/
noncomputable def fixed1 : List Int := [7, 4, 5, 1, 12, 8, 1, 3, 0, 17, 5, 9]
noncomputable def numbers1 (ns : List Int) : List Int := (ns.take 12).map (· % 1000000) ++ fixed1.drop ns.length
theorem getL_sh (H K : List O) (k : Nat) : getL (H ++ K) (H.length + k) = getL K k := by
  unfold getL
  rw [List.getElem?_append_right (Nat.le_add_right _ _), Nat.add_sub_cancel_left]
theorem getL_sh0 (H K : List O) : getL (H ++ K) H.length = getL K 0 := getL_sh H K 0
theorem set_sh (H K : List O) (k : Nat) (o : O) : (H ++ K).set (H.length + k) o = H ++ K.set k o := by
  rw [List.set_append_right _ _ (Nat.le_add_right _ _), Nat.add_sub_cancel_left]
theorem set_sh0 (H K : List O) (o : O) : (H ++ K).set H.length o = H ++ K.set 0 o := set_sh H K 0 o
theorem take_sh (H K : List O) (k : Nat) : (H ++ K).take (H.length + k) = H ++ K.take k := by
  rw [List.take_append, List.take_of_length_le (Nat.le_add_right _ _), Nat.add_sub_cancel_left]
theorem take_sh0 (H K : List O) : (H ++ K).take H.length = H := by simp
theorem len_sh (H K : List O) : (H ++ K).length = H.length + K.length := List.length_append
theorem cut_take {α : Type} (l : List α) (k : Nat) : cut l none (some (k : Int)) = l.take k := by
  unfold cut clip
  have : ¬ ((k : Int) < 0) := by lia
  simp only [Option.map_some, Option.getD_some, Option.map_none, Option.getD_none, if_neg this, Int.toNat_natCast, List.drop_zero, Nat.sub_zero]
  by_cases h : k ≤ l.length
  · rw [Nat.min_eq_left h]
  · rw [Nat.min_eq_right (by lia), List.take_of_length_le (Nat.le_refl _), List.take_of_length_le (by lia)]
theorem fm_ints (f : Int → Int) (l : List Int) : (l.map P.int).filterMap (fun p => match p with | P.int i => some (P.int (f i)) | _ => none) = (l.map f).map P.int := by
  induction l with
  | nil => rfl
  | cons a l ih => simp [ih]
theorem cut_drop {α : Type} (l : List α) (k : Nat) : cut l (some (k : Int)) none = l.drop k := by
  unfold cut clip
  have : ¬ ((k : Int) < 0) := by lia
  simp only [Option.map_some, Option.getD_some, Option.map_none, Option.getD_none, if_neg this, Int.toNat_natCast]
  rw [List.take_of_length_le (by simp)]
  by_cases h : k ≤ l.length
  · rw [Nat.min_eq_left h]
  · rw [Nat.min_eq_right (by lia), List.drop_of_length_le (Nat.le_refl _), List.drop_of_length_le (by lia)]
theorem run_numbers1 {g : G} {ns : List Int} {H : List O} (hn : ns.length ≤ 63) : runF g pF_lw_numbers [.fix (ns.map .int)] H = some (.ref H.length, H ++ [.list ((numbers1 ns).map .int)]) := by
  let fx : List P := fixed1.map .int
  let L : List (Option V) := [some (.fix (ns.map .int)), some (.ref H.length)]
  let sl : List P := (ns.take 12).map .int
  let mp : List P := ((ns.take 12).map (· % 1000000)).map .int
  let ct : List P := (fixed1.drop ns.length).map .int
  have htk : (ns.map P.int).take 12 = sl := by simp only [sl, List.map_take]
  have hmp : sl.filterMap (fun p => match p with | P.int i => some (P.int (i % 1000000)) | _ => none) = mp := fm_ints (· % 1000000) _
  have hct : fx.drop ns.length = ct := by simp only [fx, ct, List.map_drop]
  have hsl : sl.length ≤ 12 := by simp [sl]; lia
  refine runF_ret (v := .ref (H.length + 4)) rfl (loc' := L) (H' := H ++ [.list fx, .list sl, .list mp, .list ct, .list (mp ++ ct)]) ?_ (by
    simp [tidy, numbers1, mp, ct])
  refine exs_step (loc' := L) (H' := H ++ [.list fx]) rfl (H'' := H ++ [.list fx]) (by simp [gc, lb, vb, L, take_sh]) ?_
  refine exs_stop ?_ (by simp)
  have hit : ev g L (.sl (.loc 0) none (some (.lit (.int (12))))) (H ++ [.list fx]) = some (.ref (H.length + 1), H ++ [.list fx, .list sl]) := by
    have h1 := cut_take (ns.map P.int) 12
    simp only [Int.cast_ofNat_Int] at h1
    rw [htk] at h1
    simp [ev_locE, ev_litE, ev_slE, evo_noneE, evo_someE, slV, bnds, getL, L, h1, oki, ok, Option.bind_some, int_mk, slA, Option.join_some]
    exact Nat.le_trans ‹_› (by decide)
  have hrun := cmpL_run (all := sl) (w := some (H.length + 1)) (t := .one 0) (turn := fun l K => (evC g l [] K).bind fun b => if b.1 then (ev g l (.bin .mod (.loc 0) (.bin .pow (.lit (.int (10))) (.lit (.int (6))))) b.2).bind fun v => addTo (H ++ [O.list fx, O.list sl]).length v.1 v.2 else some b.2)
    (H := H ++ [O.list fx, O.list sl]) (f := fun p => match p with | P.int i => some (.int (i % 1000000)) | _ => none) (Gd := fun l => l.length = 1) (stays_of (by rw [getL_sh]; rfl)) (items := sl) (acc := []) (loc := [none]) rfl (by simp; exact Nat.le_trans ‹_› (by decide)) (by
      intro x hx loc acc hl ha
      obtain ⟨i, hi, rfl⟩ := List.mem_map.mp hx
      obtain ⟨o, rfl⟩ := List.length_eq_one_iff.mp hl
      refine ⟨[some (.p (.int i))], rfl, rfl, ?_⟩
      have := addTo_last (H := H ++ [O.list fx, O.list sl]) (x := .int (i % 1000000)) ha
      simp only [evC_nilE, ev_locE, ev_litE, ev_binE, binV, binP, Option.bind_some, List.getElem?_cons_zero, if_true, beq_self_eq_true, Bool.and_self, modP, pint_mk, binR, pl_mk, Option.join_some]
      rw [if_pos (by decide)]
      exact this)
  rw [hmp, List.nil_append] at hrun
  have e1 : ev g L (.comp [none] (.bin .mod (.loc 0) (.bin .pow (.lit (.int (10))) (.lit (.int (6))))) (.one 0) (.sl (.loc 0) none (some (.lit (.int (12))))) []) (H ++ [.list fx]) = some (.ref (H.length + 2), H ++ [.list fx, .list sl, .list mp]) := by
    rw [ev_compE]
    rw [if_pos (by rfl), hit]
    simp only [Option.bind_some, itemsOf]
    rw [getL_sh]
    simp only [getL, List.getElem?_cons_succ, List.getElem?_cons_zero, Option.map_some, Option.bind_some]
    rw [show frOf [none] L = [none] from rfl, hrun]
    simp only [Option.bind_some]
    rw [List.take_of_length_le (by simp)]
    simp [List.append_assoc]
  have e2 : ev g L (.sl (.loc 1) (some (.bi .len [(.loc 0)])) none) (H ++ [.list fx, .list sl, .list mp]) = some (.ref (H.length + 3), H ++ [.list fx, .list sl, .list mp, .list ct]) := by
    have h1 := cut_drop fx ns.length
    rw [hct] at h1
    have hfx : ok fx.length = true := by decide
    have hnl : ok (ns.map P.int).length = true := ok_of (by rw [List.length_map]; exact Nat.le_trans ‹_› (by decide))
    have hki : oki ((ns.map P.int).length : Int) = true := oki_of (by rw [List.length_map]; lia)
    simp only [ev_locE, ev_slE, ev_biE, evo_noneE, evo_someE, evs_nilE, evs_consE, L, List.getElem?_cons_succ, List.getElem?_cons_zero, Option.bind_some, biV, hnl, if_true, slV, bnds, hki, getL_sh0, slA, int_mk, biA, lenV, lenP, nul_mk, Option.join_some]
    simp only [getL, List.getElem?_cons_zero, Option.bind_some, hfx, if_true, len_sh, List.length_cons, List.length_nil, List.append_assoc, List.cons_append, List.nil_append, List.length_map, h1]
  show ((ev g L (.bin .add _ _) (H ++ [.list fx])).bind fun x => some (Fl.ret x.1, L, x.2)) = _
  have e3 : ev g L (.bin .add (.comp [none] (.bin .mod (.loc 0) (.bin .pow (.lit (.int (10))) (.lit (.int (6))))) (.one 0) (.sl (.loc 0) none (some (.lit (.int (12))))) []) (.sl (.loc 1) (some (.bi .len [(.loc 0)])) none)) (H ++ [.list fx]) = some (.ref (H.length + 4), H ++ [.list fx, .list sl, .list mp, .list ct, .list (mp ++ ct)]) := by
    have hmc : ok (mp.length + ct.length) = true := ok_of (by simp [mp, ct, fixed1]; omega)
    rw [ev_binE, e1]
    simp only [Option.bind_some, e2, binV, getL_sh, binR, lst_mk]
    simp only [getL, List.getElem?_cons_succ, List.getElem?_cons_zero, Option.bind_some, hmc, if_true, len_sh, List.length_cons, List.length_nil, List.append_assoc, List.cons_append, List.nil_append]
  rw [e3]
  rfl
end Mine
end
section
open PySem PySem.W PyProof.Rows PyProof.V
set_option Elab.async false
set_option maxRecDepth 20000
set_option linter.unusedSimpArgs false
namespace Mine
theorem ok_0 : ok 0 = true := rfl
theorem ok_1 : ok 1 = true := rfl
theorem ok_2 : ok 2 = true := rfl
theorem ok_3 : ok 3 = true := rfl
theorem ok_4 : ok 4 = true := rfl
theorem getL_cons0 (x : List P) (K : List O) : getL (.list x :: K) 0 = some x := rfl
theorem getL_consS (o : O) (K : List O) (k : Nat) : getL (o :: K) (k + 1) = getL K k := rfl
/-- a loop over items; what holds may speak of the items that are left -/
theorem forL_fold2 {σ : Type} {all : List P} {t : Tg} {bd : List (Option V) → List O → Option Zt} (L : σ → List (Option V)) (Hh : σ → List O) (f : σ → P → σ) (G : List P → σ → Prop) {w : Option Nat} (hw : ∀ l s, G l s → stays w all (Hh s) = true)
    (h : ∀ s x r, G (x :: r) s → G r (f s x) ∧ ∃ q, tgt t (.p x) (L s) (Hh s) = some q ∧ (bd q.1 q.2 = some (.next, L (f s x), Hh (f s x)) ∨ bd q.1 q.2 = some (.cont, L (f s x), Hh (f s x)))) :
    ∀ {items : List P} {s : σ}, G items s → forL all w t bd items (L s) (Hh s) = some (.next, L (items.foldl f s), Hh (items.foldl f s)) := by
  intro items
  induction items with
  | nil => exact fun hs => forL_nil (hw _ _ hs)
  | cons x r ih =>
    intro s hs
    obtain ⟨h1, q, h2, h3⟩ := h s x r hs
    obtain ⟨fl, hf, h3⟩ := orFl h3
    exact forL_go (hw _ s hs) h2 h3 hf (ih h1)
noncomputable abbrev bl (n : Nat) : List Nat := List.replicate n 32
theorem rep_bl (n : Nat) : rep n [32] = bl n := List.flatten_replicate_singleton
theorem rep_one {α : Type} (n : Nat) (x : α) : rep n [x] = List.replicate n x := List.flatten_replicate_singleton
noncomputable def written (b : Nat) (s : Bool) : List Nat := if s then bl b ++ [61] else if b = 0 then [] else bl (b - 1) ++ [61, 50, 48]
theorem oki_nat {n : Nat} (h : n ≤ 1000000) : oki (n : Int) = true := oki_of (by lia)
theorem add_strV {a b : List Nat} {H : List O} (h : a.length + b.length ≤ 1000000) : binV .add (.p (.str a)) (.p (.str b)) H = some (.p (.str (a ++ b)), H) := binP_v (if_pos (ok_of h))
theorem mul_blV {b : Nat} {H : List O} (h : b ≤ 1000000) : binV .mul (.p (.str [32])) (.p (.int (b : Int))) H = some (.p (.str (bl b)), H) := by
  have e : binP .mul (.str [32]) (.int (b : Int)) = some (.str (rep (b : Int).toNat [32])) := by
    refine if_pos ?_
    show (oki (b : Int) && ok (1 * (b : Int).toNat)) = true
    rw [oki_nat h, Int.toNat_natCast, Nat.one_mul, ok_of h]
    rfl
  exact (binP_v e).trans (by rw [Int.toNat_natCast, rep_bl])
theorem run_written {g : G} {b : Nat} {s : Bool} {H : List O} (hb : b ≤ 1000) : runF g pF_lw_written [.p (.int b), .p (.bool s)] H = some (.p (.str (written b s)), H) := by
  have hl : ∀ n, (bl n).length = n := fun n => List.length_replicate
  refine runF_ret (v := .p (.str (written b s))) rfl (loc' := [some (.p (.int b)), some (.p (.bool s))]) (H' := H) ?_ tidy_p
  cases s with
  | true => exact exs_stop (ex_if (t := true) rfl (exs_stop (ex_ret (ev_bin (ev_bin rfl (ev_loc rfl) (mul_blV (Nat.le_trans hb (by decide)))) rfl (add_strV (by rw [hl]; exact Nat.add_le_add hb (Nat.le_of_ble_eq_true (rfl : Nat.ble 1 999000 = true)))))) (ne_next rfl))) (ne_next rfl)
  | false =>
    refine exs_step (loc' := [some (.p (.int b)), some (.p (.bool false))]) (H' := H) rfl (gc_same _ _) ?_
    by_cases h0 : b = 0
    · subst h0
      exact exs_stop (ex_if (t := true) (evT_cmp (ev_loc rfl) rfl (eqi_t rfl)) (exs_stop (ex_ret rfl) (ne_next rfl))) (ne_next rfl)
    · have e : written b false = bl (b - 1) ++ [61, 50, 48] := if_neg h0
      have e1 : ((b : Int) - 1) = ((b - 1 : Nat) : Int) := by lia
      rw [e]
      refine exs_step (loc' := [some (.p (.int b)), some (.p (.bool false))]) (ex_if (t := false) (evT_cmp (ev_loc rfl) rfl (eqi_f (by lia))) rfl) (gc_same _ _) (exs_stop (ex_ret (ev_bin (ev_bin rfl (ev_bin (ev_loc rfl) rfl rfl) (x := .p (.str [32])) (y := .p (.int (b - 1 : Int))) ?_) rfl (add_strV (a := bl (b - 1)) (by rw [hl]; show b - 1 + 3 ≤ 1000000; lia)))) (ne_next rfl))
      rw [e1]
      exact mul_blV (by lia)
noncomputable def rowP (x : Nat × Bool) : P := .tup [.int x.1, .bool x.2]
noncomputable def rowsOf (size b : Nat) : List (Nat × Bool) := List.replicate (b / size) (size, true) ++ [(b % size, false)]
theorem gc_eq {n k : Nat} {loc : List (Option V)} {H : List O} (h : max n (lb loc) = k) : gc n loc H = H.take k := by unfold gc; rw [h]
noncomputable abbrev pN (b : Nat) : P := .int (b : Int)
theorem run_rows {g : G} {parts : List Nat} {size r : Nat} {H : List O} (hr : getL H r = some (parts.map pN)) (hs : 0 < size) (hs2 : size ≤ 1000) (hp : ∀ b ∈ parts, b ≤ 1000) (hl : parts.length ≤ 10) :
    runF g pF_lw_rows [.ref r, .p (.int size)] H = some (.ref H.length, H ++ [.list ((parts.flatMap (rowsOf size)).map rowP)]) := by
  have hrl := getL_lt hr
  let L : List (Nat × Bool) × Option P → List (Option V) := fun s => [some (.ref r), some (.p (.int size)), some (.ref H.length), s.2.map V.p]
  let Hh : List (Nat × Bool) × Option P → List O := fun s => H ++ [.list (s.1.map rowP)]
  let f : List (Nat × Bool) × Option P → P → List (Nat × Bool) × Option P := fun s x => match x with | .int b => (s.1 ++ rowsOf size b.toNat, some (.int b)) | _ => s
  have fold : ∀ (parts : List Nat) (s : List (Nat × Bool) × Option P), ((parts.map pN).foldl f s).1 = s.1 ++ parts.flatMap (rowsOf size) := by
    intro parts
    induction parts with
    | nil => intro s; simp
    | cons b l ih => intro s; rw [List.map_cons, List.foldl_cons, ih]; simp [f]
  let fin := (parts.map pN).foldl f ([], none)
  have hgl : ∀ K : List O, getL (H ++ K) r = some (parts.map pN) := fun K => getL_app hr K
  have hlb : ∀ (s : List (Nat × Bool) × Option P), lb (L s) = H.length + 1 := by
    rintro ⟨a, o⟩
    cases o <;> simp [lb, vb, L] <;> lia
  have hgc : ∀ (s : List (Nat × Bool) × Option P) (K : List O) (n : Nat), n ≤ H.length + 1 → gc n (L s) (H ++ K) = H ++ K.take 1 := by
    intro s K n hn
    rw [gc_eq (k := H.length + 1) (by rw [hlb]; lia), take_sh]
  refine runF_ret (v := .ref H.length) rfl (loc' := L fin) (H' := Hh fin) ?_ (by
    simp [tidy, Hh, fin, fold])
  refine exs_step (loc' := L ([], none)) (H' := Hh ([], none)) rfl (H'' := Hh ([], none)) (hgc _ _ _ (Nat.le_succ _)) ?_
  refine exs_step (loc' := L fin) (H' := Hh fin) (ex_for (v := .ref r) (H₁ := Hh ([], none)) rfl (items_rf (hgl _)) ?_) (H'' := Hh fin) (hgc _ _ _ (by simp [Hh])) ?_
  · refine forL_fold2 L Hh f (fun l s => (∃ ps : List Nat, l = ps.map pN ∧ ∀ b ∈ ps, b ≤ 1000) ∧ s.1.length + 1001 * l.length ≤ 20000) (fun l s _ => stays_of (hgl _)) ?_ (s := ([], none)) ⟨⟨parts, rfl, hp⟩, by simp; lia⟩
    rintro s x rr ⟨⟨ps, hps, hb⟩, hlen⟩
    match ps, hps with
    | b :: ps, hps =>
      simp only [List.map_cons, List.cons.injEq] at hps
      obtain ⟨rfl, rfl⟩ := hps
      have hb1 := hb b (.head _)
      have hdiv : b / size ≤ 1000 := Nat.le_trans (Nat.div_le_self _ _) hb1
      have hrl2 : (rowsOf size b).length = b / size + 1 := by simp [rowsOf]
      refine ⟨⟨⟨ps, rfl, fun c hc => hb c (.tail _ hc)⟩, ?_⟩, (L (s.1, some (pN b)), Hh s), rfl, .inl ?_⟩
      · simp only [f, List.length_append, Int.toNat_natCast, hrl2, List.length_cons, List.length_map] at hlen ⊢
        lia
      · have q1 : oki ((size : Int)) = true := oki_nat (by lia)
        have hs' : (0 : Int) < (size : Int) := by lia
        have q3 : ((b : Int) / (size : Int)).toNat = b / size := by rw [← Int.natCast_ediv]; rfl
        have q2 : oki ((b : Int) / (size : Int)) = true := by rw [← Int.natCast_ediv]; exact oki_nat (by lia)
        let rep1 : List P := List.replicate (b / size) (rowP (size, true))
        simp only [List.length_cons, List.length_map] at hlen
        have hg2 : ∀ (x : List P) (K : List O), getL (H ++ .list x :: K) H.length = some x := fun x K => getL_sh0 H _
        have hlr : (s.1.map rowP).length = s.1.length := List.length_map _
        have hrp : rep1.length = b / size := List.length_replicate
        let K0 : List O := H ++ [.list (s.1.map rowP)]
        let K1 : List O := K0 ++ [.list [rowP (size, true)]]
        let K2 : List O := K1 ++ [.list rep1]
        have l0 : K0.length = H.length + 1 := List.length_append
        have l1 : K1.length = H.length + 1 + 1 := List.length_append.trans (by rw [l0]; rfl)
        have e2 : K2 = H ++ [.list (s.1.map rowP), .list [rowP (size, true)], .list rep1] := by simp only [K2, K1, K0, List.append_assoc]; rfl
        have m1 : binV .mul (.ref K0.length) (.p (.int ((b : Int) / (size : Int)))) K1 = some (.ref K1.length, K2) := by
          refine bindS (o := getL K1 K0.length) (getL_sh0 K0 _) ((if_pos ?_).trans (by rw [q3, rep_one]))
          rw [q2, q3, ok_of (show [rowP (size, true)].length * (b / size) ≤ 1000000 by rw [List.length_singleton]; lia)]
          rfl
        have x1 : smV g.tabs .extend (.ref H.length) [.ref K1.length] K2 = some (.p .none, H ++ [.list (s.1.map rowP ++ rep1), .list [rowP (size, true)], .list rep1]) := by
          refine bindS (o := getL K2 H.length) (by rw [e2]; exact hg2 _ _) (bindS (o := getL K2 K1.length) (getL_sh0 K1 _) ((if_pos ?_).trans (by rw [e2, set_sh0]; rfl)))
          rw [hlr, hrp, ok_of (show s.1.length + b / size ≤ 1000000 by lia), beq_eq_false_iff_ne.mpr (show H.length ≠ K1.length by rw [l1]; lia)]
          rfl
        refine exs_step (loc' := L (s.1, some (pN b))) (H' := H ++ [.list (s.1.map rowP ++ rep1), .list [rowP (size, true)], .list rep1]) (ex_ex (ev_sm (x := .ref H.length) (ev_loc rfl) (by show (getL K0 H.length).isSome = true; rw [hg2]; rfl) (evs_cons (ev_bin (x := .ref K0.length) (H₁ := K1) rfl (ev_bin (ev_loc rfl) (ev_loc rfl) (fdivI q1 hs')) m1) (evs_nil _ _ _)) x1)) (H'' := H ++ [.list (s.1.map rowP ++ rep1)]) (hgc _ _ _ (Nat.le_of_eq l0)) ?_
        refine exs_step (loc' := L (f s (pN b))) (H' := Hh (f s (pN b))) ((ex_ex (ev_append rfl (hg2 _ _) (x := rowP (b % size, false)) (by
          refine ev_tupE.trans ?_
          exact bindS (evs_cons (ev_bin (ev_loc rfl) (ev_loc rfl) (modI hs')) (evs_cons (x := .p (.bool false)) rfl (evs_nil _ _ _))) rfl) (hg2 _ _) (ok_of (by rw [List.length_append, hlr, hrp]; lia)))).trans ?_) (H'' := Hh (f s (pN b))) (hgc _ _ _ (by simp)) rfl
        rw [set_sh0]
        simp [Hh, L, f, rowsOf, rep1, List.map_replicate]
  · exact exs_stop (ex_ret (ev_loc rfl)) (ne_next rfl)
end Mine
end
section
open PySem PySem.W PyProof.Rows PyProof.V
set_option Elab.async false
set_option maxRecDepth 20000
set_option linter.unusedSimpArgs false
namespace Mine
/-- what a Whitespace bears -/
structure Ws where
  raw : List Nat
  n : Int
  nt : Int
  cnt : List Int
  b : Int
noncomputable def Ws.norm (w : Ws) : P := .tup [.tup (w.cnt.map P.int), .int w.b]
noncomputable def Ws.fs (w : Ws) : List (Str × P) := [(Str.ofString "raw", .str w.raw), (Str.ofString "n", .int w.n), (Str.ofString "nt", .int w.nt), (Str.ofString "norm", w.norm), (Str.ofString "is_simple", .bool (decide (w.cnt.length ≤ 1)))]
theorem ws_raw (w : Ws) : w.fs.lookup (Str.ofString "raw") = some (.str w.raw) := rfl
theorem ws_n (w : Ws) : w.fs.lookup (Str.ofString "n") = some (.int w.n) := rfl
theorem ws_nt (w : Ws) : w.fs.lookup (Str.ofString "nt") = some (.int w.nt) := rfl
theorem ws_norm (w : Ws) : w.fs.lookup (Str.ofString "norm") = some w.norm := rfl
theorem ws_simple (w : Ws) : w.fs.lookup (Str.ofString "is_simple") = some (.bool (decide (w.cnt.length ≤ 1))) := rfl
/-- H bears a Whitespace at r -/
noncomputable def At1 (H : List O) (r : Nat) (w : Ws) : Prop := H[r]? = some (.inst w.fs)
theorem At1.f {H : List O} {r : Nat} {w : Ws} (h : At1 H r w) : getF H r = some w.fs := by unfold getF; rw [h]
theorem At1.app {H : List O} {r : Nat} {w : Ws} (h : At1 H r w) (K : List O) : At1 (H ++ K) r w := by
  unfold At1 at *
  rw [List.getElem?_append_left (List.getElem?_eq_some_iff.mp h).1]; exact h
noncomputable def Ws.long (w : Ws) : Int := max ((w.cnt.length : Int) - 1) w.b
theorem run_long {g : G} {w : Ws} {r : Nat} {H : List O} (h : At1 H r w) (hl : w.cnt.length ≤ 1000) : runF g pF_longest_run_of_spaces [.obj r] H = some (.p (.int w.long), H) := by
  have hk : ok w.cnt.length = true := ok_of (by exact Nat.le_trans ‹_› (by decide))
  refine runF_ret (v := .p (.int w.long)) rfl (loc' := [some (.obj r), some (.p (.tup (w.cnt.map P.int))), some (.p (.int w.b))]) (H' := H) ?_ tidy_p
  refine exs_step (ex_asg (v := .p w.norm) (ev_fldG rfl h.f rfl) rfl) (gc_same _ _) (exs_stop (ex_ret (ev_bi (evs_cons (ev_bin (ev_bi (evs_cons (ev_loc rfl) (evs_nil _ _ _)) (lenT (by rw [List.length_map]; exact hk))) rfl rfl) (evs_cons (ev_loc rfl) (evs_nil _ _ _))) ?_)) (ne_next rfl))
  rw [List.length_map]
  rfl
noncomputable def ilF (cnt : List Int) (ts : Int) (il i : Int) : Int := il + i / ts * cnt.getD i.toNat 0
noncomputable def rngI (a b : Int) : List Int := (List.range (b - a).toNat).map fun (k : Nat) => a + k
theorem rngL_eq (a b : Int) : rngL a b = (rngI a b).map P.int := by simp [rngL, rngI]
noncomputable def Ws.ind (w : Ws) (ts : Int) : Int := w.b + ts * ((rngI ts w.cnt.length).foldl (ilF w.cnt ts) 0 + w.nt)
theorem run_ind {g : G} {w : Ws} {r : Nat} {ts : Int} {H : List O} (h : At1 H r w) (hl : w.cnt.length ≤ 1000) (h0 : 0 < ts) (h1 : ts ≤ 1000) : runF g pF_indent_level [.obj r, .p (.int ts)] H = some (.p (.int (w.ind ts)), H) := by
  have hk : ok w.cnt.length = true := ok_of (by exact Nat.le_trans ‹_› (by decide))
  have ht : oki ts = true := oki_of (by lia)
  have hcl : oki (w.cnt.length : Int) = true := oki_nat (by exact Nat.le_trans ‹_› (by decide))
  let L : Int × Option P → List (Option V) := fun s => [some (.obj r), some (.p (.int ts)), some (.p (.tup (w.cnt.map P.int))), some (.p (.int w.b)), some (.p (.int s.1)), s.2.map V.p]
  let f : Int × Option P → P → Int × Option P := fun s x => match x with | .int i => (ilF w.cnt ts s.1 i, some (.int i)) | _ => s
  have fold : ∀ (l : List Int) (s : Int × Option P), ((l.map P.int).foldl f s).1 = l.foldl (ilF w.cnt ts) s.1 := by
    intro l
    induction l with
    | nil => intro s; rfl
    | cons c l ih => intro s; simp only [List.map_cons, List.foldl_cons]; rw [ih]
  let fin := ((rngI ts w.cnt.length).map P.int).foldl f (0, none)
  have hlen : (w.cnt.map P.int).length = w.cnt.length := List.length_map _
  refine runF_ret (v := .p (.int (w.ind ts))) rfl (loc' := L fin) (H' := H) ?_ tidy_p
  refine exs_step (loc' := [some (.obj r), some (.p (.int ts)), some (.p (.tup (w.cnt.map P.int))), some (.p (.int w.b)), none, none]) (ex_asg (v := .p w.norm) (ev_fldG rfl h.f rfl) rfl) (gc_same _ _) ?_
  refine exs_step (loc' := L (0, none)) (H' := H) rfl (gc_same _ _) ?_
  refine exs_step (loc' := L fin) (H' := H) (ex_for (v := .rng ts w.cnt.length) (H₁ := H) (ps := rngL ts w.cnt.length) (w := none) (ev_bi (evs_cons (ev_loc rfl) (evs_cons (ev_bi (evs_cons (ev_loc rfl) (evs_nil _ _ _)) (lenT (by rw [hlen]; exact hk))) (evs_nil _ _ _))) (by rw [hlen]; exact biV_range2 ht hcl)) (items_rg ht hcl) ?_) (gc_same _ _) ?_
  · rw [rngL_eq]
    refine forL_fold2 L (fun _ => H) f (fun l s => ∃ is : List Int, l = is.map P.int ∧ ∀ i ∈ is, ts ≤ i ∧ i < w.cnt.length) (fun _ _ _ => rfl) ?_ (s := (0, none)) ⟨_, rfl, fun i hi => ?_⟩
    · rintro s x rr ⟨is, he, hi⟩
      match is, he with
      | i :: is, he =>
        simp only [List.map_cons, List.cons.injEq] at he
        obtain ⟨rfl, rfl⟩ := he
        obtain ⟨a1, a2⟩ := hi i (.head _)
        refine ⟨⟨is, rfl, fun j hj => hi j (.tail _ hj)⟩, (L (s.1, some (.int i)), H), rfl, .inl ?_⟩
        have q1 : oki i = true := oki_of (by lia)
        have q2 : oki (i / ts) = true := oki_of ⟨by have := Int.ediv_nonneg (show 0 ≤ i by lia) (show 0 ≤ ts by lia); lia, by have := Int.ediv_le_self ts (show 0 ≤ i by lia); lia⟩
        have q3 : ¬ i < 0 := by lia
        have q4 : i.toNat < w.cnt.length := by lia
        refine exs_step (loc' := L (f s (.int i))) (H' := H) ?_ (gc_same _ _) rfl
        refine ex_asg (ev_bin (ev_loc rfl) (ev_bin (ev_bin (ev_loc rfl) (ev_loc rfl) (fdivI ht h0)) (ev_idx (ev_loc rfl) (ev_loc rfl) (idxT (p := .int (w.cnt.getD i.toNat 0)) ?_ ?_)) (mulI q2)) rfl) rfl
        · rw [hlen]
          show (oki i && _) = true
          rw [q1, decide_eq_true (show 0 ≤ i ∧ i < (w.cnt.length : Int) from ⟨by lia, a2⟩)]
          rfl
        · unfold nIdx
          rw [if_neg q3, List.getElem?_map, List.getD_eq_getElem?_getD, List.getElem?_eq_getElem q4]
          rfl
    · simp only [rngI, List.mem_map, List.mem_range] at hi
      obtain ⟨k, hk, rfl⟩ := hi
      lia
  · have e : w.ind ts = w.b + ts * (fin.1 + w.nt) := by unfold Ws.ind; rw [show fin.1 = _ from fold _ _]
    rw [e]
    exact exs_stop (ex_ret (ev_bin (ev_loc rfl) (ev_bin (ev_loc rfl) (ev_bin (ev_loc rfl) (ev_fldG rfl h.f rfl) rfl) (mulI ht)) rfl)) (ne_next rfl)
theorem okAt_ints (l : List Int) (n : Nat) : (l.map P.int).all (P.okAt n) = true := by
  simp [List.all_eq_true, okAt_int]
theorem run_equal {g : G} {w u : Ws} {r q : Nat} {H : List O} (h : At1 H r w) (k : At1 H q u) : runF g pF_equal [.obj r, .obj q] H = some (.p (.bool (w.norm.beq u.norm)), H) := by
  refine runF_ret (v := .p (.bool (w.norm.beq u.norm))) rfl (loc' := [some (.obj r), some (.obj q)]) (H' := H) ?_ (by simp [tidy])
  refine exs_stop ?_ (by simp)
  have o1 : ∀ w : Ws, w.norm.okAt 7 = true := fun w => by
    unfold Ws.norm
    simp only [okAt_tup, okAt_int, List.all_cons, List.all_nil, Bool.and_true, okAt_ints]
  have e1 : eqP w.norm u.norm = some (w.norm.beq u.norm) := by
    have h1 := o1 w
    have h2 := o1 u
    unfold Ws.norm at h1 h2 ⊢
    unfold eqP
    simp only [ptup_mk, Option.bind_some, h1, h2, Bool.and_self, if_true]
  simp [ex_retE, ev_locE, ev_cmpE, ev_fldE, loc0, pF_equal, pnm_equal, fldV, h.f, k.f, ws_norm, cmpV, e1, cmpP, cmpR, cmpN, Option.bind_some, Option.map_some, ob_mk, Option.join_some]
end Mine
end
section
open PySem PySem.W PyProof.Rows PyProof.V
set_option Elab.async false
set_option maxRecDepth 20000
set_option linter.unusedSimpArgs false
namespace Mine
theorem lvl_call {k f : Nat} {F : FD} {vs : List V} {H : List O} {z} (hF : pgDefs1 f = some F) (h : runF (pg1.lvl k) F vs H = some z) : (pg1.lvl (k + 1)).call f vs H = some z := by
  show (pgDefs1 f).bind (fun F => runF (pg1.lvl k) F vs H) = some z
  rw [hF]; exact h
noncomputable def witP (w u : Ws) (ts : Int) : P := .tup [.int ts, .int (w.ind ts), .int (u.ind ts)]
noncomputable def topN (w u : Ws) : Int := max w.long u.long + 1
noncomputable def wits (w u : Ws) (c : Int → Bool) : List P := ((rngI 1 (topN w u + 1)).filter c).map (witP w u)
theorem fs_ind (w : Ws) : w.fs.lookup (Str.ofString "indent_level") = none := rfl
theorem fs_long (w : Ws) : w.fs.lookup (Str.ofString "longest_run_of_spaces") = none := rfl
theorem ev_long {k : Nat} {w : Ws} {r i : Nat} {L : List (Option V)} {H : List O} (hi : L[i]? = some (some (.obj r))) (h : At1 H r w) (hl : w.cnt.length ≤ 1000) : ev (pg1.lvl (k + 1)) L (.mth 11 (Str.ofString "longest_run_of_spaces") (.loc i) []) H = some (.p (.int w.long), H) := by
  simp only [ev_locE, ev_mthE, evs_nilE, hi, Option.bind_some, h.f, fs_long, Option.isNone_none, if_true, Option.join_some, ob_mk]
  exact lvl_call rfl (run_long h hl)
theorem ev_ind {k : Nat} {w : Ws} {r i j : Nat} {ts : Int} {L : List (Option V)} {H : List O} (hi : L[i]? = some (some (.obj r))) (hj : L[j]? = some (some (.p (.int ts)))) (h : At1 H r w) (hl : w.cnt.length ≤ 1000) (h0 : 0 < ts) (h1 : ts ≤ 1000) :
    ev (pg1.lvl (k + 1)) L (.mth 12 (Str.ofString "indent_level") (.loc i) [(.loc j)]) H = some (.p (.int (w.ind ts)), H) := by
  simp only [ev_locE, ev_mthE, evs_nilE, evs_consE, hi, hj, Option.bind_some, h.f, fs_ind, Option.isNone_none, if_true, Option.join_some, ob_mk]
  exact lvl_call rfl (run_ind h hl h0 h1)
theorem topN_ge {w u : Ws} (hc : 1 ≤ w.cnt.length) : 1 ≤ topN w u :=
  Int.add_le_add_right (Int.le_trans (Int.le_trans (show (0 : Int) ≤ (w.cnt.length : Int) - 1 by lia) (Int.le_max_left _ _)) (Int.le_max_left w.long u.long)) 1
theorem long_le {w : Ws} (hl : w.cnt.length ≤ 900) (hb : w.b ≤ 900) : w.long ≤ 900 := Int.max_le.mpr ⟨by lia, hb⟩
theorem topN_le {w u : Ws} (hl : w.cnt.length ≤ 900) (hl' : u.cnt.length ≤ 900) (hb : w.b ≤ 900) (hb' : u.b ≤ 900) : topN w u ≤ 901 :=
  Int.add_le_add_right (Int.max_le.mpr ⟨long_le hl hb, long_le hl' hb'⟩) 1
theorem run_neq {k : Nat} {w u : Ws} {r q : Nat} {H : List O} (h : At1 H r w) (h' : At1 H q u) (hl : w.cnt.length ≤ 900) (hl' : u.cnt.length ≤ 900) (hb : w.b ≤ 900) (hb' : u.b ≤ 900) (hc : 1 ≤ w.cnt.length) :
    runF (pg1.lvl (k + 1)) pF_not_equal_witness [.obj r, .obj q] H = some (.ref H.length, H ++ [.list (wits w u fun ts => !(w.ind ts == u.ind ts))]) := by
  have hrl : r < H.length := (List.getElem?_eq_some_iff.mp h).1
  have hql : q < H.length := (List.getElem?_eq_some_iff.mp h').1
  have hn1 : 1 ≤ topN w u := topN_ge hc
  have hn2 : topN w u ≤ 901 := topN_le hl hl' hb hb'
  let c : Int → Bool := fun ts => !(w.ind ts == u.ind ts)
  let L : List P × Option P → List (Option V) := fun s => [some (.obj r), some (.obj q), some (.p (.int (topN w u))), some (.ref H.length), s.2.map V.p]
  let Hh : List P × Option P → List O := fun s => H ++ [.list s.1]
  let f : List P × Option P → P → List P × Option P := fun s x => match x with | .int ts => (s.1 ++ (if c ts then [witP w u ts] else []), some (.int ts)) | _ => s
  have fold : ∀ (l : List Int) (s : List P × Option P), ((l.map P.int).foldl f s).1 = s.1 ++ (l.filter c).map (witP w u) := by
    intro l
    induction l with
    | nil => intro s; simp
    | cons a l ih =>
      intro s
      rw [List.map_cons, List.foldl_cons, ih]
      simp only [f, List.filter_cons]
      split <;> simp
  let fin := ((rngI 1 (topN w u + 1)).map P.int).foldl f ([], none)
  have hlb : ∀ (s : List P × Option P), lb (L s) = H.length + 1 := by
    intro s
    show max (r + 1) (max (q + 1) (lb (some (.p _) :: some (.ref H.length) :: [s.2.map V.p]))) = _
    rw [lb_q, lb_rf, lb_pm, show lb [] = 0 from rfl, Nat.max_zero, Nat.max_eq_right (Nat.succ_le_succ (Nat.le_of_lt hql)), Nat.max_eq_right (Nat.succ_le_succ (Nat.le_of_lt hrl))]
  have hgc : ∀ (s : List P × Option P) (K : List O) (n : Nat), n ≤ H.length + 1 → gc n (L s) (H ++ K) = H ++ K.take 1 := by
    intro s K n hn
    rw [gc_eq (k := H.length + 1) (by rw [hlb]; lia), take_sh]
  refine runF_ret (v := .ref H.length) rfl (loc' := L fin) (H' := Hh fin) ?_ (tidy_new.trans (by rw [show fin.1 = _ from fold _ _]; rfl))
  refine exs_step (loc' := [some (.obj r), some (.obj q), some (.p (.int (topN w u))), none, none]) (H' := H) ?_ (gc_same _ _) ?_
  · exact ex_asg (ev_bin (ev_bi (evs_cons (ev_long rfl h (by lia)) (evs_cons (ev_long rfl h' (by lia)) (evs_nil _ _ _))) rfl) rfl rfl) rfl
  refine exs_step (loc' := L ([], none)) (H' := Hh ([], none)) rfl (H'' := Hh ([], none)) (hgc _ _ _ (Nat.le_succ _)) ?_
  have ho1 : oki (topN w u + 1) = true := oki_of (by lia)
  refine exs_step (loc' := L fin) (H' := Hh fin) (ex_for (v := .rng 1 (topN w u + 1)) (H₁ := Hh ([], none)) (ps := rngL 1 (topN w u + 1)) (w := none) ?_ ?_ ?_) (H'' := Hh fin) (hgc _ _ _ (by simp [Hh])) ?_
  · exact ev_bi (evs_cons rfl (evs_cons (ev_bin (ev_loc rfl) rfl rfl) (evs_nil _ _ _))) (biV_range2 oki_one ho1)
  · exact items_rg oki_one ho1
  · rw [rngL_eq]
    refine forL_fold2 L Hh f (fun l s => (∃ is : List Int, l = is.map P.int ∧ ∀ i ∈ is, 1 ≤ i ∧ i ≤ 901) ∧ s.1.length + l.length ≤ 2000) (fun _ _ _ => rfl) ?_ (s := ([], none)) ⟨⟨_, rfl, fun i hi => ?_⟩, ?_⟩
    · rintro s x rr ⟨⟨is, he, hi⟩, hlen⟩
      match is, he with
      | i :: is, he =>
        simp only [List.map_cons, List.cons.injEq] at he
        obtain ⟨rfl, rfl⟩ := he
        obtain ⟨a1, a2⟩ := hi i (.head _)
        simp only [List.length_cons] at hlen
        refine ⟨⟨⟨is, rfl, fun j hj => hi j (.tail _ hj)⟩, ?_⟩, (L (s.1, some (.int i)), Hh s), rfl, .inl ?_⟩
        · simp only [f, List.length_append]
          split <;> simp at hlen ⊢ <;> lia
        · have i1 := ev_ind (k := k) (L := L (s.1, some (.int i))) (H := Hh s) (i := 0) (j := 4) (ts := i) rfl rfl (h.app _) (by lia) (by lia) (by lia)
          have i2 := ev_ind (k := k) (L := L (s.1, some (.int i))) (H := Hh s) (i := 1) (j := 4) (ts := i) rfl rfl (h'.app _) (by lia) (by lia) (by lia)
          refine exs_step (loc' := L (f s (.int i))) (H' := Hh (f s (.int i))) (ex_if (t := c i) (evT_cmp i1 i2 rfl) ?_) (H'' := Hh (f s (.int i))) (hgc _ _ _ (by simp [Hh])) rfl
          cases hc : c i with
          | false =>
            simp only [Bool.false_eq_true, if_false]
            show some _ = some _
            simp [f, hc, L, Hh]
          | true =>
            simp only [if_true]
            have hlen' : ok s.1.length = true := ok_of (by simp at hlen; lia)
            have e1 : ev (pg1.lvl (k + 1)) (L (s.1, some (.int i))) (.tup [(.loc 4), (.mth 12 (Str.ofString "indent_level") (.loc 0) [(.loc 4)]), (.mth 12 (Str.ofString "indent_level") (.loc 1) [(.loc 4)])]) (Hh s) = some (.p (witP w u i), Hh s) := by
              rw [ev_tupE, evs_cons (ev_loc rfl) (evs_cons i1 (evs_cons i2 (evs_nil _ _ _)))]
              rfl
            refine exs_step (loc' := L (f s (.int i))) (H' := Hh (f s (.int i))) ?_ (H'' := Hh (f s (.int i))) (hgc _ _ _ (by simp [Hh])) rfl
            refine (ex_ex (ev_append rfl (getL_last _ _) e1 (getL_last _ _) hlen')).trans ?_
            simp only [Hh, set_last, f, hc, if_true, L]
    · simp only [rngI, List.mem_map, List.mem_range] at hi
      obtain ⟨k, hk, rfl⟩ := hi
      lia
    · simp [rngI]; lia
  · exact exs_stop (ex_ret (ev_loc rfl)) (ne_next rfl)
end Mine
end
section
open PySem PySem.W PyProof.Rows PyProof.V
set_option Elab.async false
set_option maxRecDepth 20000
set_option linter.unusedSimpArgs false
namespace Mine
theorem ev_fld {g : G} {L : List (Option V)} {i r : Nat} {H : List O} {w : Ws} {x : Str} {p : P} (hi : L[i]? = some (some (.obj r))) (h : At1 H r w) (hx : w.fs.lookup x = some p) : ev g L (.fld (.loc i) x) H = some (.p p, H) := by
  simp only [ev_locE, ev_fldE, hi, Option.bind_some, fldV, h.f, hx, Option.map_some, ob_mk, Option.join_some]
/-- a loop that leaves the function at the first item of a kind -/
theorem forL_find {all : List P} {t : Tg} {bd : List (Option V) → List O → Option Zt} (L : Option P → List (Option V)) (H : List O) (c : P → Bool) (v : V)
    (h : ∀ o x, x ∈ all → tgt t (.p x) (L o) H = some (L (some x), H) ∧ bd (L (some x)) H = some (if c x then .ret v else .next, L (some x), H)) :
    ∀ {items : List P} (o : Option P), (∀ x ∈ items, x ∈ all) → ∃ o', forL all none t bd items (L o) H = some (if items.any c then .ret v else .next, L o', H) := by
  intro items
  induction items with
  | nil => exact fun o _ => ⟨o, forL_nil rfl⟩
  | cons x r ih =>
    intro o hs
    obtain ⟨h1, h2⟩ := h o x (hs x (.head _))
    rw [List.any_cons]
    cases hc : c x with
    | true => rw [hc] at h2; exact ⟨some x, forL_ret rfl h1 h2⟩
    | false =>
      rw [hc] at h2
      obtain ⟨o', ih⟩ := ih (some x) fun y hy => hs y (.tail _ hy)
      exact ⟨o', forL_go rfl h1 h2 (.inl rfl) ih⟩
theorem ex_for_ret {g : G} {t : Tg} {it : E} {b : List T} {loc H v H₁ ps w z} (h1 : ev g loc it H = some (v, H₁)) (h2 : itemsOf v H₁ = some (ps, w)) (h3 : forL ps w t (fun loc H => exs g b loc H) ps loc H₁ = some z) : ex g (.fore t it b) loc H = some z := ex_for h1 h2 h3
noncomputable def Ws.simple (w : Ws) : Bool := decide (w.cnt.length ≤ 1)
noncomputable def lessB (w u : Ws) : Bool := if u.n ≤ w.n then false else if w.simple && u.simple then decide (w.nt ≤ u.nt) else (rngI 2 (topN w u + 1)).all fun ts => decide (w.ind ts < u.ind ts)
theorem run_less {k : Nat} {w u : Ws} {r q : Nat} {H : List O} (h : At1 H r w) (h' : At1 H q u) (hl : w.cnt.length ≤ 900) (hl' : u.cnt.length ≤ 900) (hb : w.b ≤ 900) (hb' : u.b ≤ 900) (hc : 1 ≤ w.cnt.length) :
    runF (pg1.lvl (k + 1)) pF_less [.obj r, .obj q] H = some (.p (.bool (lessB w u)), H) := by
  have hn1 : 1 ≤ topN w u := topN_ge hc
  have hn2 : topN w u ≤ 901 := topN_le hl hl' hb hb'
  let L0 : List (Option V) := [some (.obj r), some (.obj q), none, none]
  suffices hs : ∃ loc', exs (pg1.lvl (k + 1)) pb_less L0 H = some (.ret (.p (.bool (lessB w u))), loc', H) by
    obtain ⟨loc', hs⟩ := hs
    exact runF_ret (v := .p (.bool (lessB w u))) rfl hs tidy_p
  unfold lessB
  by_cases c1 : u.n ≤ w.n
  · rw [if_pos c1]
    exact ⟨L0, exs_stop (ex_ifT (evT_cmp (ev_fld rfl h (ws_n w)) (ev_fld rfl h' (ws_n u)) (ge_t c1)) (exs_stop (ex_ret rfl) (ne_next rfl))) (ne_next rfl)⟩
  · have s1 : ex (pg1.lvl (k + 1)) (.ifs (.cmp .ge (.fld (.loc 0) (Str.ofString "n")) (.fld (.loc 1) (Str.ofString "n"))) [.ret (.lit (.bool false))] []) L0 H = some (.next, L0, H) := by
      exact ex_ifF (evT_cmp (ev_fld rfl h (ws_n w)) (ev_fld rfl h' (ws_n u)) (ge_f c1)) rfl
    have a1 : evT (pg1.lvl (k + 1)) L0 (.and [(.fld (.loc 0) (Str.ofString "is_simple")), (.fld (.loc 1) (Str.ofString "is_simple"))]) (ev (pg1.lvl (k + 1)) L0 (.and [(.fld (.loc 0) (Str.ofString "is_simple")), (.fld (.loc 1) (Str.ofString "is_simple"))]) H) H = some (w.simple && u.simple, H) := by
      have f1 := ev_fld (g := pg1.lvl (k + 1)) (L := L0) (i := 0) rfl h (ws_simple w)
      have f2 := ev_fld (g := pg1.lvl (k + 1)) (L := L0) (i := 1) rfl h' (ws_simple u)
      simp only [evT_andE, evT_fldE, evC_nilE, evC_consE, f1, f2, Option.bind_some, truV, truP]
      unfold Ws.simple
      by_cases d1 : w.cnt.length ≤ 1 <;> by_cases d2 : u.cnt.length ≤ 1 <;> simp [d1, d2]
    rw [if_neg c1]
    by_cases c2 : (w.simple && u.simple) = true
    · refine ⟨L0, exs_step s1 (gc_same _ _) (exs_stop (ex_ifT (by rw [a1, c2]) ?_) (ne_next rfl))⟩
      refine (exs_stop (ex_ret (ev_cmp (ev_fld rfl h (ws_nt w)) (ev_fld rfl h' (ws_nt u)) (z := decide (w.nt ≤ u.nt)) rfl)) (ne_next rfl)).trans ?_
      rw [if_pos c2]
    · have c2 : (w.simple && u.simple) = false := by simpa using c2
      rw [c2]
      simp only [Bool.false_eq_true, if_false]
      have s2 : ex (pg1.lvl (k + 1)) (.ifs (.and [(.fld (.loc 0) (Str.ofString "is_simple")), (.fld (.loc 1) (Str.ofString "is_simple"))]) [.ret (.cmp .le (.fld (.loc 0) (Str.ofString "nt")) (.fld (.loc 1) (Str.ofString "nt")))] []) L0 H = some (.next, L0, H) := ex_ifF (by rw [a1, c2]) rfl
      let L : Option P → List (Option V) := fun o => [some (.obj r), some (.obj q), some (.p (.int (topN w u))), o.map V.p]
      have s3 : ex (pg1.lvl (k + 1)) (.asg (.one 2) (.bin .add (.bi .max [(.mth 11 (Str.ofString "longest_run_of_spaces") (.loc 0) []), (.mth 11 (Str.ofString "longest_run_of_spaces") (.loc 1) [])]) (.lit (.int (1))))) L0 H = some (.next, L none, H) :=
        ex_asg (ev_bin (ev_bi (evs_cons (ev_long rfl h (by exact Nat.le_trans ‹_› (by decide))) (evs_cons (ev_long rfl h' (by exact Nat.le_trans ‹_› (by decide))) (evs_nil _ _ _))) rfl) rfl rfl) rfl
      have ho1 : oki (topN w u + 1) = true := oki_of (by lia)
      have ho2 : oki 2 = true := by decide
      let cc : P → Bool := fun x => match x with | .int ts => !decide (w.ind ts < u.ind ts) | _ => false
      obtain ⟨o', hf⟩ := forL_find (all := rngL 2 (topN w u + 1)) (t := .one 3) (bd := fun loc H => exs (pg1.lvl (k + 1)) [.ifs (.cmp .ge (.mth 12 (Str.ofString "indent_level") (.loc 0) [(.loc 3)]) (.mth 12 (Str.ofString "indent_level") (.loc 1) [(.loc 3)])) [.ret (.lit (.bool false))] []] loc H) L H cc (.p (.bool false)) (by
        intro o x hx
        rw [rngL_eq] at hx
        obtain ⟨i, hi, rfl⟩ := List.mem_map.mp hx
        have hb : 2 ≤ i ∧ i ≤ 901 := by
          simp only [rngI, List.mem_map, List.mem_range] at hi
          obtain ⟨k, hk, rfl⟩ := hi
          lia
        refine ⟨rfl, ?_⟩
        have i1 := ev_ind (k := k) (L := L (some (.int i))) (H := H) (i := 0) (j := 3) (ts := i) rfl rfl h (by exact Nat.le_trans ‹_› (by decide)) (by lia) (by lia)
        have i2 := ev_ind (k := k) (L := L (some (.int i))) (H := H) (i := 1) (j := 3) (ts := i) rfl rfl h' (by exact Nat.le_trans ‹_› (by decide)) (by lia) (by lia)
        by_cases hlt : w.ind i < u.ind i
        · have e := ex_if (g := pg1.lvl (k + 1)) (a := [.ret (.lit (.bool false))]) (b := []) (t := false) (evT_cmp i1 i2 (o := .ge) (z := false) (ge_f (Int.not_le.mpr hlt))) rfl
          rw [exs_step e (gc_same _ _) rfl]
          simp [cc, hlt, exs_nilE]
        · have e := ex_if (g := pg1.lvl (k + 1)) (a := [.ret (.lit (.bool false))]) (b := []) (t := true) (evT_cmp i1 i2 (o := .ge) (z := true) (ge_t (Int.not_lt.mp hlt))) (z := (.ret (.p (.bool false)), L (some (.int i)), H)) rfl
          rw [exs_stop e (ne_next rfl)]
          simp [cc, hlt]) (items := rngL 2 (topN w u + 1)) none (fun _ hx => hx)
      have hany : (rngL 2 (topN w u + 1)).any cc = !((rngI 2 (topN w u + 1)).all fun ts => decide (w.ind ts < u.ind ts)) := by
        rw [rngL_eq]
        generalize rngI 2 (topN w u + 1) = l
        induction l with
        | nil => rfl
        | cons a l ih => simp only [List.map_cons, List.any_cons, List.all_cons, ih, Bool.not_and, cc]
      rw [hany] at hf
      have s4 := ex_for (g := pg1.lvl (k + 1)) (it := .bi .range [(.lit (.int (2))), (.bin .add (.loc 2) (.lit (.int (1))))]) (loc := L none) (H := H) (v := .rng 2 (topN w u + 1)) (H₁ := H) (w := none) (ev_bi (evs_cons rfl (evs_cons (ev_bin (ev_loc rfl) rfl rfl) (evs_nil _ _ _))) (by simp [biV, ho1, ho2, biA, rngV, one_mk, int_mk, Option.bind_some])) (by simp [itemsOf, ho1, ho2]) hf
      refine ⟨L o', exs_step s1 (gc_same _ _) (exs_step s2 (gc_same _ _) (exs_step s3 (gc_same _ _) ?_))⟩
      cases hall : (rngI 2 (topN w u + 1)).all fun ts => decide (w.ind ts < u.ind ts) with
      | true =>
        rw [hall] at s4
        exact exs_step s4 (gc_same _ _) (exs_stop rfl (ne_next rfl))
      | false =>
        rw [hall] at s4
        exact exs_stop s4 (ne_next rfl)
end Mine
end
section
open PySem PySem.W PyProof.Rows PyProof.V
set_option Elab.async false
set_option maxRecDepth 20000
set_option linter.unusedSimpArgs false
namespace Mine
structure Is where
  cnt : List Int
  b : Nat
  n : Nat
  nt : Nat
noncomputable def pad (c : List Int) (b : Nat) : List Int := if c.length ≤ b then c ++ List.replicate (b - c.length + 1) 0 else c
noncomputable def bump (c : List Int) (b : Nat) : List Int := (pad c b).set b ((pad c b).getD b 0 + 1)
noncomputable def scan : List Nat → Is → Is
  | [], s => s
  | c :: r, s => if c = 32 then scan r ⟨s.cnt, s.b + 1, s.n + 1, s.nt⟩ else if c = 9 then scan r ⟨bump s.cnt s.b, 0, s.n + 1, s.nt + 1⟩ else s
noncomputable def wsOf (l : List Nat) : Ws := let s := scan l ⟨[], 0, 0, 0⟩; ⟨l, s.n, s.nt, s.cnt, s.b⟩
theorem gc_top {n : Nat} {loc : List (Option V)} {H : List O} (h : H.length ≤ lb loc) : gc n loc H = H := by
  unfold gc
  exact List.take_of_length_le (Nat.le_trans h (Nat.le_max_right _ _))
noncomputable def Lc (r : Nat) (ws : List Nat) (k : Nat) (s : Is) (o : Option P) : List (Option V) := [some (.obj r), some (.p (.str ws)), some (.p (.str [32])), some (.p (.str [9])), some (.ref k), some (.p (pN s.b)), some (.p (pN s.n)), some (.p (pN s.nt)), o.map V.p]
theorem lb_lc {r : Nat} {ws : List Nat} {k : Nat} {s : Is} {o : Option P} : lb (Lc r ws k s o) = max (r + 1) (k + 1) := by
  unfold Lc; simp only [lb, lb_pm, vb, Nat.max_zero, Nat.zero_max]
theorem lb_Lc {r : Nat} {ws : List Nat} {k : Nat} {s : Is} {o : Option P} (h : r ≤ k) : lb (Lc r ws k s o) = k + 1 := by
  rw [lb_lc]; lia
theorem pad_len {c : List Int} {b : Nat} : b < (pad c b).length := by
  unfold pad
  split
  · simp; lia
  · lia
noncomputable def initB : List T := [.ifs (.cmp .eq (.loc 8) (.loc 2)) [.asg (.one 6) (.bin .add (.loc 6) (.lit (.int (1)))),
  .asg (.one 5) (.bin .add (.loc 5) (.lit (.int (1))))] [.ifs (.cmp .eq (.loc 8) (.loc 3)) [.asg (.one 6) (.bin .add (.loc 6) (.lit (.int (1)))),
  .asg (.one 7) (.bin .add (.loc 7) (.lit (.int (1)))),
  .ifs (.cmp .ge (.loc 5) (.bi .len [(.loc 4)])) [.asg (.one 4) (.bin .add (.loc 4) (.bin .mul (.lst [(.lit (.int (0)))]) (.bin .add (.bin .sub (.loc 5) (.bi .len [(.loc 4)])) (.lit (.int (1))))))] [],
  .asgI (.loc 4) (.loc 5) (.bin .add (.idx (.loc 4) (.loc 5)) (.lit (.int (1)))),
  .asg (.one 5) (.lit (.int (0)))] [.brk]]]
theorem getL_shA (B J : List O) (x : List P) : getL (B ++ (J ++ [.list x])) (B.length + J.length) = some x := by
  rw [getL_sh]; exact getL_last _ _
theorem pad_step {g : G} {r : Nat} {ws : List Nat} {B J : List O} {s : Is} {o : Option P} (hl : s.cnt.length ≤ 901) (hb : s.b ≤ 900) :
    ∃ J', ex g (.ifs (.cmp .ge (.loc 5) (.bi .len [(.loc 4)])) [.asg (.one 4) (.bin .add (.loc 4) (.bin .mul (.lst [(.lit (.int (0)))]) (.bin .add (.bin .sub (.loc 5) (.bi .len [(.loc 4)])) (.lit (.int (1))))))] []) (Lc r ws (B.length + J.length) s o) (B ++ (J ++ [.list (s.cnt.map P.int)])) =
      some (.next, Lc r ws (B.length + J'.length) ⟨pad s.cnt s.b, s.b, s.n, s.nt⟩ o, B ++ (J' ++ [.list ((pad s.cnt s.b).map P.int)])) := by
  have hk : ok s.cnt.length = true := ok_of (by exact Nat.le_trans ‹_› (by decide))
  have hlen : ∀ (K : List O), ev g (Lc r ws (B.length + J.length) s o) (.bi .len [(.loc 4)]) (B ++ (J ++ .list (s.cnt.map P.int) :: K)) = some (.p (.int s.cnt.length), B ++ (J ++ .list (s.cnt.map P.int) :: K)) := fun K => by
    refine ev_bi (evs_cons (ev_loc rfl) (evs_nil _ _ _)) ?_
    have : getL (B ++ (J ++ .list (s.cnt.map P.int) :: K)) (B.length + J.length) = some (s.cnt.map P.int) := by
      rw [getL_sh, getL_sh0]; rfl
    simp only [biV, this, Option.bind_some, List.length_map, hk, if_true, biA, lenV, nul_mk, Option.map_some]
  by_cases hc : s.cnt.length ≤ s.b
  · have hp : pad s.cnt s.b = s.cnt ++ List.replicate (s.b - s.cnt.length + 1) 0 := by unfold pad; rw [if_pos hc]
    refine ⟨J ++ [.list (s.cnt.map P.int), .list [.int 0], .list (List.replicate (s.b - s.cnt.length + 1) (.int 0))], ?_⟩
    refine ex_ifT (evT_cmp (ev_loc rfl) (hlen []) (z := true) (by simp [cmpV, hc, cmpP, cmpI, pint_mk, Option.bind_some])) ?_
    have q1 : ((s.b : Int) - (s.cnt.length : Int) + 1).toNat = s.b - s.cnt.length + 1 := by lia
    have q2 : oki ((s.b : Int) - (s.cnt.length : Int) + 1) = true := oki_of (by lia)
    have q3 : ok (s.b - s.cnt.length + 1) = true := ok_of (by lia)
    have q4 : ok (s.cnt.length + (s.b - s.cnt.length + 1)) = true := ok_of (by lia)
    have e1 : ev g (Lc r ws (B.length + J.length) s o) (.bin .mul (.lst [(.lit (.int (0)))]) (.bin .add (.bin .sub (.loc 5) (.bi .len [(.loc 4)])) (.lit (.int (1))))) (B ++ (J ++ [.list (s.cnt.map P.int)])) = some (.ref (B.length + J.length + 2), B ++ (J ++ [.list (s.cnt.map P.int), .list [.int 0], .list (List.replicate (s.b - s.cnt.length + 1) (.int 0))])) := by
      have e0 : ev g (Lc r ws (B.length + J.length) s o) (.lst [(.lit (.int (0)))]) (B ++ (J ++ [.list (s.cnt.map P.int)])) = some (.ref (B.length + J.length + 1), B ++ (J ++ [.list (s.cnt.map P.int), .list [.int 0]])) := by
        simp [ev_litE, ev_lstE, evs_nilE, evs_consE, allP, ok_1, Option.bind_some]
        lia
      refine ev_bin e0 (ev_bin (ev_bin (ev_loc rfl) (hlen _) rfl) rfl rfl) ?_
      have : getL (B ++ (J ++ [.list (s.cnt.map P.int), .list [.int 0]])) (B.length + J.length + 1) = some [.int 0] := by
        rw [Nat.add_assoc, getL_sh, getL_sh]; rfl
      simp only [binV, this, Option.bind_some, q1, q2, List.length_cons, List.length_nil, Nat.zero_add, Nat.one_mul, q3, Bool.and_self, List.isEmpty_cons, Bool.not_false, if_true, rep_one, binR, int_mk]
      simp
      lia
    refine exs_step (loc' := Lc r ws (B.length + J.length + 3) ⟨pad s.cnt s.b, s.b, s.n, s.nt⟩ o) (ex_asg (ev_bin (ev_loc rfl) e1 (z := (.ref (B.length + J.length + 3), B ++ (J ++ [.list (s.cnt.map P.int), .list [.int 0], .list (List.replicate (s.b - s.cnt.length + 1) (.int 0)), .list ((pad s.cnt s.b).map P.int)]))) ?_) rfl) (gc_top ?_) ?_
    · have a1 : getL (B ++ (J ++ [.list (s.cnt.map P.int), .list [.int 0], .list (List.replicate (s.b - s.cnt.length + 1) (.int 0))])) (B.length + J.length) = some (s.cnt.map P.int) := by
        rw [getL_sh, getL_sh0]; rfl
      have a2 : getL (B ++ (J ++ [.list (s.cnt.map P.int), .list [.int 0], .list (List.replicate (s.b - s.cnt.length + 1) (.int 0))])) (B.length + J.length + 2) = some (List.replicate (s.b - s.cnt.length + 1) (.int 0)) := by
        rw [Nat.add_assoc, getL_sh, getL_sh]; rfl
      simp only [binV, a1, a2, Option.bind_some, List.length_map, List.length_replicate, q4, if_true, binR, lst_mk]
      simp [hp]
      lia
    · cases o <;> simp [lb, vb, Lc] <;> lia
    · simp [exs_nilE, Nat.add_assoc]
  · have hp : pad s.cnt s.b = s.cnt := by unfold pad; rw [if_neg hc]
    refine ⟨J, ?_⟩
    rw [hp]
    exact ex_ifF (evT_cmp (ev_loc rfl) (hlen []) (ge_f (by lia))) rfl
theorem init_loop {g : G} {r : Nat} {ws : List Nat} {B : List O} {all : List P} (hr : r < B.length) : ∀ (l : List Nat) (s : Is) (J : List O) (o : Option P), s.cnt.length ≤ 901 → s.b + l.length ≤ 900 →
    ∃ J' o', forL all none (.one 8) (fun loc H => exs g initB loc H) (l.map fun c => .str [c]) (Lc r ws (B.length + J.length) s o) (B ++ (J ++ [.list (s.cnt.map P.int)])) =
      some (.next, Lc r ws (B.length + J'.length) (scan l s) o', B ++ (J' ++ [.list ((scan l s).cnt.map P.int)])) := by
  intro l
  induction l with
  | nil => exact fun s J o _ _ => ⟨J, o, forL_nil rfl⟩
  | cons c l ih =>
    intro s J o hl hb
    rw [List.length_cons] at hb
    have htg : tgt (.one 8) (.p (.str [c])) (Lc r ws (B.length + J.length) s o) (B ++ (J ++ [.list (s.cnt.map P.int)])) = some (Lc r ws (B.length + J.length) s (some (.str [c])), B ++ (J ++ [.list (s.cnt.map P.int)])) := rfl
    have len1 : ∀ (J : List O) (x : O), (B ++ (J ++ [x])).length = B.length + J.length + 1 := fun J x => by simp; lia
    have hgc : ∀ (J : List O) (x : O) (s : Is) (o : Option P) (n : Nat), gc n (Lc r ws (B.length + J.length) s o) (B ++ (J ++ [x])) = B ++ (J ++ [x]) := fun J x s o n => gc_top (by rw [len1, lb_Lc (by lia)]; exact Nat.le_refl _)
    by_cases h1 : c = 32
    · subst h1
      obtain ⟨J', o', h⟩ := ih ⟨s.cnt, s.b + 1, s.n + 1, s.nt⟩ J (some (.str [32])) hl (by simp; lia)
      refine ⟨J', o', ?_⟩
      have e : exs g initB (Lc r ws (B.length + J.length) s (some (.str [32]))) (B ++ (J ++ [.list (s.cnt.map P.int)])) = some (.next, Lc r ws (B.length + J.length) ⟨s.cnt, s.b + 1, s.n + 1, s.nt⟩ (some (.str [32])), B ++ (J ++ [.list (s.cnt.map P.int)])) := by
        refine exs_step (ex_ifT (evT_cmp (ev_loc rfl) (ev_loc rfl) (z := true) rfl) ?_) (hgc _ _ _ _ _) rfl
        refine exs_step (loc' := Lc r ws (B.length + J.length) ⟨s.cnt, s.b, s.n + 1, s.nt⟩ (some (.str [32]))) (ex_asg (ev_bin (ev_loc rfl) rfl rfl) rfl) (hgc _ _ _ _ _) ?_
        exact exs_step (loc' := Lc r ws (B.length + J.length) ⟨s.cnt, s.b + 1, s.n + 1, s.nt⟩ (some (.str [32]))) (ex_asg (ev_bin (ev_loc rfl) rfl rfl) rfl) (hgc _ _ _ _ _) rfl
      exact forL_go rfl htg e (.inl rfl) h
    · by_cases h2 : c = 9
      · subst h2
        obtain ⟨J1, hp⟩ := pad_step (g := g) (r := r) (ws := ws) (B := B) (J := J) (s := ⟨s.cnt, s.b, s.n + 1, s.nt + 1⟩) (o := some (.str [9])) hl (by simp; lia)
        simp only at hp
        have hpl := pad_len (c := s.cnt) (b := s.b)
        have hbl : (bump s.cnt s.b).length ≤ 901 := by
          unfold bump
          rw [List.length_set]
          unfold pad
          split
          · simp; lia
          · omega
        obtain ⟨J', o', h⟩ := ih ⟨bump s.cnt s.b, 0, s.n + 1, s.nt + 1⟩ J1 (some (.str [9])) hbl (by simp; lia)
        refine ⟨J', o', ?_⟩
        have hob : oki (s.b : Int) = true := oki_nat (by lia)
        have e : exs g initB (Lc r ws (B.length + J.length) s (some (.str [9]))) (B ++ (J ++ [.list (s.cnt.map P.int)])) = some (.next, Lc r ws (B.length + J1.length) ⟨bump s.cnt s.b, 0, s.n + 1, s.nt + 1⟩ (some (.str [9])), B ++ (J1 ++ [.list ((bump s.cnt s.b).map P.int)])) := by
          refine exs_step (ex_ifF (evT_cmp (ev_loc rfl) (ev_loc rfl) (z := false) rfl) ?_) (hgc _ _ _ _ _) rfl
          refine exs_step (ex_ifT (evT_cmp (ev_loc rfl) (ev_loc rfl) (z := true) rfl) ?_) (hgc _ _ _ _ _) rfl
          refine exs_step (loc' := Lc r ws (B.length + J.length) ⟨s.cnt, s.b, s.n + 1, s.nt⟩ (some (.str [9]))) (ex_asg (ev_bin (ev_loc rfl) rfl rfl) rfl) (hgc _ _ _ _ _) ?_
          refine exs_step (loc' := Lc r ws (B.length + J.length) ⟨s.cnt, s.b, s.n + 1, s.nt + 1⟩ (some (.str [9]))) (ex_asg (ev_bin (ev_loc rfl) rfl rfl) rfl) (hgc _ _ _ _ _) ?_
          refine exs_step hp (hgc _ _ _ _ _) ?_
          have hg : getL (B ++ (J1 ++ [.list ((pad s.cnt s.b).map P.int)])) (B.length + J1.length) = some ((pad s.cnt s.b).map P.int) := getL_shA _ _ _
          have e1 : ev g (Lc r ws (B.length + J1.length) ⟨pad s.cnt s.b, s.b, s.n + 1, s.nt + 1⟩ (some (.str [9]))) (.bin .add (.idx (.loc 4) (.loc 5)) (.lit (.int (1)))) (B ++ (J1 ++ [.list ((pad s.cnt s.b).map P.int)])) = some (.p (.int ((pad s.cnt s.b).getD s.b 0 + 1)), B ++ (J1 ++ [.list ((pad s.cnt s.b).map P.int)])) := by
            refine ev_bin (x := .p (.int ((pad s.cnt s.b).getD s.b 0))) ?_ rfl rfl
            have e0 : idxV g.tabs (.ref (B.length + J1.length)) (.p (pN s.b)) (B ++ (J1 ++ [.list ((pad s.cnt s.b).map P.int)])) = some (.p (.int ((pad s.cnt s.b).getD s.b 0))) := by
              simp only [idxV, hg, Option.bind_some, idxA, int_mk]
              have h3 : inIdx (s.b : Int) ((pad s.cnt s.b).map P.int).length = true := by simp [inIdx, hob, hpl]
              have h4 : nIdx (s.b : Int) ((pad s.cnt s.b).map P.int).length = s.b := by unfold nIdx; rw [if_neg (by lia)]; rfl
              rw [h3, h4]
              simp [hpl]
            rw [ev_idxE, ev_loc rfl]
            simp only [Option.bind_some]
            rw [ev_loc rfl]
            simp only [Option.bind_some, e0]
          have e2 : ex g (.asgI (.loc 4) (.loc 5) (.bin .add (.idx (.loc 4) (.loc 5)) (.lit (.int (1))))) (Lc r ws (B.length + J1.length) ⟨pad s.cnt s.b, s.b, s.n + 1, s.nt + 1⟩ (some (.str [9]))) (B ++ (J1 ++ [.list ((pad s.cnt s.b).map P.int)])) =
              some (.next, Lc r ws (B.length + J1.length) ⟨bump s.cnt s.b, s.b, s.n + 1, s.nt + 1⟩ (some (.str [9])), B ++ (J1 ++ [.list ((bump s.cnt s.b).map P.int)])) := by
            rw [ex_asgIE, e1]
            simp only [Option.bind_some]
            rw [ev_loc (v := .ref (B.length + J1.length)) rfl]
            simp only [Option.bind_some]
            rw [ev_loc (v := .p (pN s.b)) rfl]
            simp only [pl_mk, rf_mk, pN, int_mk, Option.bind_some, hg, show oki (s.b : Int) = true from hob, Bool.true_and]
            rw [if_pos (by simp [hpl])]
            rw [set_sh, set_last]
            simp [bump, List.map_set, Lc]
          refine exs_step e2 (hgc _ _ _ _ _) ?_
          exact exs_step (loc' := Lc r ws (B.length + J1.length) ⟨bump s.cnt s.b, 0, s.n + 1, s.nt + 1⟩ (some (.str [9]))) rfl (hgc _ _ _ _ _) rfl
        exact forL_go rfl htg e (.inl rfl) h
      · refine ⟨J, some (.str [c]), ?_⟩
        have e : exs g initB (Lc r ws (B.length + J.length) s (some (.str [c]))) (B ++ (J ++ [.list (s.cnt.map P.int)])) = some (.brk, Lc r ws (B.length + J.length) s (some (.str [c])), B ++ (J ++ [.list (s.cnt.map P.int)])) := by
          refine exs_stop (ex_ifF (evT_cmp (ev_loc rfl) (ev_loc rfl) (z := false) (by simp [cmpV, eqP, h1, cmpP, pstr_mk, Option.bind_some])) ?_) (by simp)
          refine exs_stop (ex_ifF (evT_cmp (ev_loc rfl) (ev_loc rfl) (z := false) (by simp [cmpV, eqP, h2, cmpP, pstr_mk, Option.bind_some])) ?_) (by simp)
          rfl
        rw [scan, if_neg h1, if_neg h2]
        exact forL_brk rfl htg e
end Mine
end
section
open PySem PySem.W PyProof.Rows PyProof.V
set_option Elab.async false
set_option maxRecDepth 20000
set_option linter.unusedSimpArgs false
namespace Mine
theorem pad_le {c : List Int} {b : Nat} (h : c.length ≤ 901) (hb : b ≤ 900) : (pad c b).length ≤ 901 := by
  unfold pad
  split
  · simp; lia
  · exact h
theorem scan_le : ∀ (l : List Nat) (s : Is), s.cnt.length ≤ 901 → s.b + l.length ≤ 900 → (scan l s).cnt.length ≤ 901 ∧ (scan l s).b ≤ 900
  | [], s, h, hb => ⟨h, by simp at hb; simpa [scan] using hb⟩
  | c :: l, s, h, hb => by
    simp only [List.length_cons] at hb
    unfold scan
    split
    · exact scan_le l _ h (by simp; lia)
    · split
      · refine scan_le l _ ?_ (by simp; lia)
        unfold bump
        rw [List.length_set]
        exact pad_le h (by lia)
      · exact ⟨h, by lia⟩
theorem getF_mid (H0 K : List O) (f : List (Str × P)) : getF ((H0 ++ [.inst f]) ++ K) H0.length = some f := by
  unfold getF
  simp
theorem set_mid (H0 K : List O) (o o' : O) : ((H0 ++ [o]) ++ K).set H0.length o' = (H0 ++ [o']) ++ K := by
  rw [List.append_assoc, set_sh0]; simp
theorem run_init {g : G} {ws : List Nat} {H0 : List O} (hl : ws.length ≤ 900) : runF g pF_init [.obj H0.length, .p (.str ws)] (H0 ++ [.inst []]) = some (.p .none, H0 ++ [.inst (wsOf ws).fs]) := by
  let B : List O := H0 ++ [.inst [(Str.ofString "raw", .str ws)]]
  have hB : B.length = H0.length + 1 := by simp [B]
  let s0 : Is := ⟨[], 0, 0, 0⟩
  obtain ⟨J, o, hf⟩ := init_loop (g := g) (r := H0.length) (ws := ws) (B := B) (all := ws.map fun c => .str [c]) (by lia) ws s0 [] none (by simp [s0]) (by simp [s0]; omega)
  obtain ⟨b1, b2⟩ := scan_le ws s0 (by simp [s0]) (by simp [s0]; omega)
  let s := scan ws s0
  let Bf : List (Str × P) → List O := fun f => (H0 ++ [.inst f]) ++ (J ++ [.list (s.cnt.map P.int)])
  have hgc : ∀ (f : List (Str × P)) (n : Nat), gc n (Lc H0.length ws (B.length + J.length) s o) (Bf f) = Bf f := fun f n => gc_top (by rw [lb_Lc (by lia)]; simp [Bf, hB]; lia)
  suffices hs : ∃ loc', exs g pb_init (loc0 pF_init [.obj H0.length, .p (.str ws)]) (H0 ++ [.inst []]) = some (.next, loc', Bf (wsOf ws).fs) by
    obtain ⟨loc', hs⟩ := hs
    have ha : ([V.obj H0.length, V.p (P.str ws)].length == pF_init.ar) = true := rfl
    unfold runF
    rw [if_pos ha, show pF_init.body = pb_init from rfl, hs]
    simp [tidy, Bf, take_sh]
  let L2 : List (Option V) := [some (.obj H0.length), some (.p (.str ws)), some (.p (.str [32])), some (.p (.str [9])), none, none, none, none, none]
  let L1 : List (Option V) := [some (.obj H0.length), some (.p (.str ws)), none, none, none, none, none, none, none]
  let L3 : List (Option V) := [some (.obj H0.length), some (.p (.str ws)), some (.p (.str [32])), some (.p (.str [9])), some (.ref B.length), none, none, none, none]
  let Lf := Lc H0.length ws (B.length + J.length) s o
  have hraw : getF B H0.length = some [(Str.ofString "raw", .str ws)] := by simp [B, getF]
  have hnorm : P.tup [.tup (s.cnt.map P.int), .int (s.b : Int)] = (wsOf ws).norm := rfl
  have ht : ev g Lf (.bi .tuple [(.loc 4)]) (Bf (put (put [(Str.ofString "raw", .str ws)] (Str.ofString "n") (pN s.n)) (Str.ofString "nt") (pN s.nt))) = some (.p (.tup (s.cnt.map P.int)), Bf (put (put [(Str.ofString "raw", .str ws)] (Str.ofString "n") (pN s.n)) (Str.ofString "nt") (pN s.nt))) := by
    refine ev_bi (evs_cons (ev_loc rfl) (evs_nil _ _ _)) ?_
    have : ∀ f, getL (Bf f) (B.length + J.length) = some (s.cnt.map P.int) := fun f => by
      have e : Bf f = (H0 ++ [.inst f]) ++ (J ++ [.list (s.cnt.map P.int)]) := rfl
      rw [e, show B.length = (H0 ++ [O.inst f]).length by simp [hB]]
      exact getL_shA _ _ _
    have hd : decide ((s.cnt.map P.int).length ≤ 16384) = true := by rw [List.length_map]; exact decide_eq_true (Nat.le_trans b1 (by decide))
    simp only [biV, this, Option.bind_some, hd, if_true, biA, nul_mk, lst_mk]
  refine ⟨Lf, ?_⟩
  refine exs_step (loc' := L1) (H' := B) ?_ (H'' := B) ?_ ?_
  · refine (ex_asgF (ev_loc rfl) (ev_loc rfl) (r := H0.length) (fs := []) (by simp [getF]) (by simp)).trans ?_
    rw [set_last]
    rfl
  · exact gc_top (by simp [lb, vb, L1, hB])
  refine exs_step (loc' := L2) (H' := B) rfl (gc_same _ _) ?_
  refine exs_step (loc' := L3) (H' := B ++ [.list []]) rfl (H'' := B ++ [.list []]) (gc_top (by simp [lb, vb, L3]; lia)) ?_
  refine exs_step (loc' := Lc H0.length ws B.length s0 none) (H' := B ++ [.list []]) rfl (gc_same _ _) ?_
  refine exs_step (loc' := Lf) (H' := Bf [(Str.ofString "raw", .str ws)]) (ex_for (v := .p (.str ws)) (H₁ := B ++ [.list []]) (w := none) (ps := ws.map fun c => .str [c]) ?_ rfl ?_) (hgc _ _) ?_
  · have : getF (B ++ [.list []]) H0.length = some [(Str.ofString "raw", .str ws)] := getF_mid H0 [.list []] _
    simp only [ev_locE, ev_fldE, Lc, List.getElem?_cons_zero, Option.bind_some, fldV, this, ob_mk, Option.join_some]
    rfl
  · exact hf
  refine exs_step (loc' := Lf) (H' := Bf (put [(Str.ofString "raw", .str ws)] (Str.ofString "n") (pN s.n))) ?_ (hgc _ _) ?_
  · refine (ex_asgF (ev_loc rfl) (ev_loc rfl) (r := H0.length) (getF_mid _ _ _) (by simp)).trans ?_
    rw [set_mid]
  refine exs_step (loc' := Lf) (H' := Bf (put (put [(Str.ofString "raw", .str ws)] (Str.ofString "n") (pN s.n)) (Str.ofString "nt") (pN s.nt))) ?_ (hgc _ _) ?_
  · refine (ex_asgF (ev_loc rfl) (ev_loc rfl) (r := H0.length) (getF_mid _ _ _) (Nat.le_trans (put_len _ _ _) (by simp))).trans ?_
    rw [set_mid]
  refine exs_step (loc' := Lf) (H' := Bf (put (put (put [(Str.ofString "raw", .str ws)] (Str.ofString "n") (pN s.n)) (Str.ofString "nt") (pN s.nt)) (Str.ofString "norm") (wsOf ws).norm)) ?_ (hgc _ _) ?_
  · refine (ex_asgF (x := (wsOf ws).norm) (H₁ := Bf (put (put [(Str.ofString "raw", .str ws)] (Str.ofString "n") (pN s.n)) (Str.ofString "nt") (pN s.nt))) ?_ (ev_loc rfl) (r := H0.length) (getF_mid _ _ _) (Nat.le_trans (put_len _ _ _) (Nat.succ_le_succ (Nat.le_trans (put_len _ _ _) (by simp))))).trans ?_
    · rw [ev_tupE, evs_cons ht (evs_cons (ev_loc rfl) (evs_nil _ _ _))]
      rfl
    · rw [set_mid]
  refine exs_step (loc' := Lf) (H' := Bf (wsOf ws).fs) ?_ (hgc _ _) rfl
  have hk : ok s.cnt.length = true := ok_of (Nat.le_trans b1 (by decide))
  have hgl : ∀ f, getL (Bf f) (B.length + J.length) = some (s.cnt.map P.int) := fun f => by
    have e : Bf f = (H0 ++ [.inst f]) ++ (J ++ [.list (s.cnt.map P.int)]) := rfl
    rw [e, show B.length = (H0 ++ [O.inst f]).length by simp [hB]]
    exact getL_shA _ _ _
  refine (ex_asgF (x := .bool (decide (s.cnt.length ≤ 1))) (H₁ := Bf (put (put (put [(Str.ofString "raw", .str ws)] (Str.ofString "n") (pN s.n)) (Str.ofString "nt") (pN s.nt)) (Str.ofString "norm") (wsOf ws).norm)) (ev_cmp (ev_bi (x := [.ref (B.length + J.length)]) (z := (.p (.int s.cnt.length), _)) (evs_cons (ev_loc rfl) (evs_nil _ _ _)) ?_) rfl ?_) (ev_loc rfl) (r := H0.length) (getF_mid _ _ _) (Nat.le_trans (put_len _ _ _) (Nat.succ_le_succ (Nat.le_trans (put_len _ _ _) (Nat.succ_le_succ (Nat.le_trans (put_len _ _ _) (by simp))))))).trans ?_
  · simp only [biV, hgl, Option.bind_some, List.length_map, hk, if_true, biA, lenV, nul_mk, Option.map_some]
  · simp [cmpV, cmpP, cmpI, pint_mk, Option.bind_some]
    omega
  · rw [set_mid]
    rfl
end Mine
end
section
open PySem PySem.W PyProof.Rows PyProof.V
set_option Elab.async false
set_option maxRecDepth 20000
set_option linter.unusedSimpArgs false
namespace Mine
theorem lvl_tabs (k : Nat) : (pg1.lvl k).tabs = tabsX := by cases k <;> rfl
theorem run_quote {k : Nat} {H : List O} : runF (pg1.lvl k) pF_quote [.p (.str [32])] H = some (.p (.str [61, 50, 48]), H) := by
  refine runF_ret (v := .p (.str [61, 50, 48])) rfl (loc' := [some (.p (.str [32]))]) (H' := H) ?_ (by simp [tidy])
  refine exs_stop ?_ (by simp)
  have e : ev (pg1.lvl k) [some (.p (.str [32]))] (.idx (.tab 0) (.bi .ord [(.loc 0)])) H = some (.p (.str [61, 50, 48]), H) := by
    rw [ev_idxE]
    have e1 : ev (pg1.lvl k) [some (.p (.str [32]))] (.bi .ord [(.loc 0)]) H = some (.p (.int 32), H) := ev_bi (evs_cons (ev_loc rfl) (evs_nil _ _ _)) rfl
    simp only [ev_tabE, ev_biE, Option.bind_some] at e1 ⊢
    rw [e1, lvl_tabs]
    rfl
  show ((ev (pg1.lvl k) [some (.p (.str [32]))] (.idx (.tab 0) (.bi .ord [(.loc 0)])) H).bind fun x => some (Fl.ret x.1, _, x.2)) = _
  rw [e]
  rfl
end Mine
end
section
open PySem PySem.W PyProof.Rows PyProof.V
set_option Elab.async false
set_option maxRecDepth 20000
set_option linter.unusedSimpArgs false
namespace Mine
/-- cuts of texts within bounds -/
theorem cut_nat {α : Type} (l : List α) {a b : Nat} (ha : a ≤ l.length) (hb : b ≤ l.length) : cut l (some (a : Int)) (some (b : Int)) = (l.drop a).take (b - a) := by
  unfold cut clip
  have h1 : ¬ ((a : Int) < 0) := by lia
  have h2 : ¬ ((b : Int) < 0) := by lia
  simp only [Option.map_some, Option.getD_some, if_neg h1, if_neg h2, Int.toNat_natCast, Nat.min_eq_left ha, Nat.min_eq_left hb]
end Mine
end
section
open PySem PySem.W PyProof.Rows PyProof.V
set_option Elab.async false
set_option maxRecDepth 20000
set_option linter.unusedSimpArgs false
namespace Mine
noncomputable def Lb (bt : List Nat) (size : Nat) (eol : List Nat) (n : Nat) (line : List Nat) (st la : Int) (o1 o2 o3 : Option P) : List (Option V) :=
  [some (.p (.str bt)), some (.p (.int ((size : Int) + 1))), some (.p (.str eol)), some (.p (.str (61 :: eol))), some (.p (.int (size : Int))), some (.ref n), some (.bm n), some (.p (.str line)), some (.p (.int st)), some (.p (.int la)), o1.map V.p, o2.map V.p, o3.map V.p]
noncomputable def whB : List T := [.asg (.one 10) (.bin .add (.loc 8) (.loc 4)),
  .ifs (.cmp .eq (.idx (.loc 7) (.bin .sub (.loc 10) (.lit (.int (2))))) (.lit (.str [61]))) [.ex (.app (.loc 6) (.sl (.loc 7) (some (.loc 8)) (some (.bin .sub (.loc 10) (.lit (.int (1))))))),
  .asg (.one 8) (.bin .sub (.loc 10) (.lit (.int (2))))] [.ifs (.cmp .eq (.idx (.loc 7) (.bin .sub (.loc 10) (.lit (.int (1))))) (.lit (.str [61]))) [.ex (.app (.loc 6) (.sl (.loc 7) (some (.loc 8)) (some (.loc 10)))),
  .asg (.one 8) (.bin .sub (.loc 10) (.lit (.int (1))))] [.ex (.app (.loc 6) (.bin .add (.sl (.loc 7) (some (.loc 8)) (some (.loc 10))) (.lit (.str [61])))),
  .asg (.one 8) (.loc 10)]]]
end Mine
end
section
open PySem PySem.W PyProof.Rows PyProof.V
set_option Elab.async false
set_option maxRecDepth 20000
set_option linter.unusedSimpArgs false
namespace Mine
theorem cut_3 {l : List Nat} {i : Nat} (h : i + 3 ≤ l.length) : cut l (some (i : Int)) (some ((i + 3 : Nat) : Int)) = (l.drop i).take 3 := by
  rw [cut_nat l (by lia) h, show i + 3 - i = 3 by lia]
theorem hexV_tab15 : ((List.range 103).all fun a => decide ((hexV a).getD 0 ≤ 15)) = true := by decide +kernel
theorem hexV_le {a x : Nat} (h : hexV a = some x) : x ≤ 15 := by
  by_cases ha : a < 103
  · have := of_decide_eq_true (List.all_eq_true.mp hexV_tab15 a (List.mem_range.mpr ha))
    rw [h] at this
    exact this
  · rw [hexV_big (Nat.le_of_not_lt ha)] at h
    cases h
theorem run_unquote {g : G} {a b x y : Nat} {H : List O} (ha : hexV a = some x) (hb : hexV b = some y) : runF g pF_unquote [.p (.str [61, a, b])] H = some (.p (.str [16 * x + y]), H) := by
  have xl := hexV_le ha
  have yl := hexV_le hb
  refine runF_ret (v := .p (.str [16 * x + y])) rfl (loc' := [some (.p (.str [61, a, b]))]) (H' := H) ?_ (by simp [tidy])
  refine exs_stop ?_ (by simp)
  have e1 : ev g [some (.p (.str [61, a, b]))] (.sl (.loc 0) (some (.lit (.int (1)))) (some (.lit (.int (3))))) H = some (.p (.str [a, b]), H) := by
    refine ev_sl (ev_loc rfl) (evo_some rfl) (evo_some rfl) ?_
    rfl
  have e2 : ev g [some (.p (.str [61, a, b]))] (.bi .int16 [(.sl (.loc 0) (some (.lit (.int (1)))) (some (.lit (.int (3)))))]) H = some (.p (.int ((16 * x + y : Nat) : Int)), H) := by
    refine ev_bi (evs_cons e1 (evs_nil _ _ _)) ?_
    simp only [biV, ha, hb, Option.bind_some, biA, nul_mk, two_mk, str_mk]
  have e3 : ev g [some (.p (.str [61, a, b]))] (.bi .chr [(.bi .int16 [(.sl (.loc 0) (some (.lit (.int (1)))) (some (.lit (.int (3)))))])]) H = some (.p (.str [16 * x + y]), H) := by
    refine ev_bi (evs_cons e2 (evs_nil _ _ _)) (biV_chr ?_)
    lia
  show ((ev g [some (.p (.str [61, a, b]))] _ H).bind fun x => some (Fl.ret x.1, _, x.2)) = _
  rw [e3]
  rfl
/-- what decode says of a row, from a place on -/
noncomputable def decS (eol : List Nat) : List Nat → List Nat
  | [] => []
  | c :: r => if c = 61 then match r with
      | [] => []
      | [b] => 61 :: decS eol [b]
      | a :: b :: q => match hexV a, hexV b with
        | some x, some y => (16 * x + y) :: (if q = [] then eol else decS eol q)
        | _, _ => 61 :: decS eol (a :: b :: q)
    else c :: (if r = [] then eol else decS eol r)
noncomputable def Ld (enc eol d line : List Nat) (i : Nat) (c : Option P) : List (Option V) := [some (.p (.str enc)), some (.p (.str eol)), some (.p (.str d)), some (.p (.str line)), some (.p (pN i)), some (.p (pN line.length)), c.map V.p]
noncomputable def hexDs : List Nat := [48, 49, 50, 51, 52, 53, 54, 55, 56, 57, 97, 98, 99, 100, 101, 102, 65, 66, 67, 68, 69, 70]
noncomputable def whD : List T := [.asg (.one 6) (.idx (.loc 3) (.loc 4)),
  .ifs (.cmp .ne (.loc 6) (.lit (.str [61]))) [.aug 2 .add (.loc 6),
  .aug 4 .add (.lit (.int (1)))] [.ifs (.cmp .eq (.bin .add (.loc 4) (.lit (.int (1)))) (.loc 5)) [.aug 4 .add (.lit (.int (1))),
  .cont] [.ifs (.and [(.cmp .lt (.bin .add (.loc 4) (.lit (.int (2)))) (.loc 5)), (.cmp .inn (.idx (.loc 3) (.bin .add (.loc 4) (.lit (.int (1))))) (.lit (.str hexDs))), (.cmp .inn (.idx (.loc 3) (.bin .add (.loc 4) (.lit (.int (2))))) (.lit (.str hexDs)))]) [.aug 2 .add (.cal 0 [(.sl (.loc 3) (some (.loc 4)) (some (.bin .add (.loc 4) (.lit (.int (3))))))]),
  .aug 4 .add (.lit (.int (3)))] [.aug 2 .add (.loc 6),
  .aug 4 .add (.lit (.int (1)))]]],
  .ifs (.cmp .eq (.loc 4) (.loc 5)) [.aug 2 .add (.loc 1)] []]
theorem hexDs_tab : ((List.range 103).all fun a => hexDs.contains a == (hexV a).isSome) = true := by decide +kernel
theorem hexDs_le : (hexDs.all fun a => decide (a < 103)) = true := by decide +kernel
theorem hexDs_iff (a : Nat) : hexDs.contains a = (hexV a).isSome := by
  by_cases h : a < 103
  · exact eq_of_beq (List.all_eq_true.mp hexDs_tab a (List.mem_range.mpr h))
  · rw [hexV_big (Nat.le_of_not_lt h)]
    exact Bool.eq_false_iff.mpr fun e => h (of_decide_eq_true (List.all_eq_true.mp hexDs_le a (List.contains_iff_mem.mp e)))
theorem idx_str {tabs : Nat → List P} {line : List Nat} {i c : Nat} {H : List O} (hc : line[i]? = some c) (hl : line.length ≤ 1000) : idxV tabs (.p (.str line)) (.p (.int (i : Int))) H = some (.p (.str [c])) := by
  have hlt := (List.getElem?_eq_some_iff.mp hc).1
  have i1 : inIdx (i : Int) line.length = true := by
    have : oki (i : Int) = true := oki_nat (by lia)
    simp [inIdx, this, hlt]
  have i2 : nIdx (i : Int) line.length = i := by unfold nIdx; rw [if_neg (by lia)]; rfl
  simp only [idxV, i1, if_true, i2, hc, Option.map_some, idxA, idxP, int_mk, Option.bind_some]
/-- the last statement of a turn -/
theorem tail_turn {g : G} {enc eol d line : List Nat} {j : Nat} {c : Option P} {H : List O} (hd : d.length + eol.length ≤ 1000000) :
    exs g [.ifs (.cmp .eq (.loc 4) (.loc 5)) [.aug 2 .add (.loc 1)] []] (Ld enc eol d line j c) H = some (.next, Ld enc eol (d ++ if j = line.length then eol else []) line j c, H) := by
  by_cases hj : j = line.length
  · rw [if_pos hj]
    refine exs_step (loc' := Ld enc eol (d ++ eol) line j c) (ex_ifT (evT_cmp (ev_loc rfl) (ev_loc rfl) (eqi_t (by rw [hj]))) ?_) (gc_same _ _) rfl
    exact exs_step (ex_aug rfl (ev_loc rfl) (c := .str (d ++ eol)) (add_strP hd) rfl) (gc_same _ _) rfl
  · rw [if_neg hj, List.append_nil]
    exact exs_step (ex_ifF (evT_cmp (ev_loc rfl) (ev_loc rfl) (eqi_f (by lia))) rfl) (gc_same _ _) rfl
noncomputable def twoB (b : Nat) : List Nat → Bool
  | [] => false
  | b2 :: _ => (hexV b).isSome && (hexV b2).isSome
theorem dec_turn {g : G} (hq : ∀ a b x y K, hexV a = some x → hexV b = some y → g.call 0 [.p (.str [61, a, b])] K = some (.p (.str [16 * x + y]), K)) {enc eol d line : List Nat} {i c : Nat} {r : List Nat} {c0 : Option P} {H : List O}
    (hl : line.length ≤ 1000) (hd : d.length + eol.length ≤ 900000) (hr : line.drop i = c :: r) :
    ∃ (j : Nat) (c' : Option P) (d' : List Nat) (f : Fl), (f = .next ∨ f = .cont) ∧ exs g whD (Ld enc eol d line i c0) H = some (f, Ld enc eol d' line j c', H) ∧ i < j ∧ j ≤ line.length ∧ d' ++ decS eol (line.drop j) = d ++ decS eol (c :: r) ∧ d'.length ≤ d.length + eol.length + 1 := by
  have hlen : i + (r.length + 1) = line.length := by
    have := congrArg List.length hr
    simp at this
    lia
  have at0 : line[i]? = some c := by have := congrArg (·[0]?) hr; simpa using this
  have atk : ∀ k, line[i + 1 + k]? = r[k]? := fun k => by
    have := congrArg (·[k + 1]?) hr
    simp only [List.getElem?_drop, List.getElem?_cons_succ] at this
    rw [← this]; congr 1; lia
  have dropk : ∀ k, line.drop (i + 1 + k) = r.drop k := fun k => by
    rw [show i + 1 + k = i + (k + 1) by lia, ← List.drop_drop, hr]; rfl
  have s1 : ex g (.asg (.one 6) (.idx (.loc 3) (.loc 4))) (Ld enc eol d line i c0) H = some (.next, Ld enc eol d line i (some (.str [c])), H) :=
    ex_asg (ev_idx (ev_loc rfl) (ev_loc rfl) (idx_str at0 hl)) rfl
  let L1 := Ld enc eol d line i (some (.str [c]))
  by_cases h61 : c = 61
  · subst h61
    have b1 : evT g L1 (.cmp .ne (.loc 6) (.lit (.str [61]))) (ev g L1 (.cmp .ne (.loc 6) (.lit (.str [61]))) H) H = some (false, H) := evT_cmp (ev_loc rfl) rfl (z := false) rfl
    match r, hr, hlen, atk, dropk with
    | [], hr, hlen, atk, dropk =>
      refine ⟨i + 1, some (.str [61]), d, .cont, .inr rfl, ?_, by lia, by simp at hlen; lia, ?_, by lia⟩
      · refine exs_step s1 (gc_same _ _) (exs_stop (ex_ifF b1 ?_) (ne_next rfl))
        refine exs_stop (ex_ifT (evT_cmp (ev_bin (ev_loc rfl) rfl addI) (ev_loc rfl) (eqi_t (by rw [List.length_nil] at hlen; lia))) ?_) (by simp)
        exact exs_step (loc' := Ld enc eol d line (i + 1) (some (.str [61]))) (ex_aug rfl rfl rfl rfl) (gc_same _ _) (exs_stop rfl (ne_next rfl))
      · rw [List.drop_eq_nil_of_le (by simp at hlen; lia)]; simp [decS]
    | b :: q, hr, hlen, atk, dropk =>
      simp only [List.length_cons] at hlen
      have bE : evT g L1 (.cmp .eq (.bin .add (.loc 4) (.lit (.int (1)))) (.loc 5)) (ev g L1 (.cmp .eq (.bin .add (.loc 4) (.lit (.int (1)))) (.loc 5)) H) H = some (false, H) :=
        evT_cmp (ev_bin (ev_loc rfl) rfl addI) (ev_loc rfl) (eqi_f (by lia))
      have at1 : line[i + 1]? = some b := atk 0
      have plain : exs g [.aug 2 .add (.loc 6), .aug 4 .add (.lit (.int (1)))] L1 H = some (.next, Ld enc eol (d ++ [61]) line (i + 1) (some (.str [61])), H) :=
        exs_step (loc' := Ld enc eol (d ++ [61]) line i (some (.str [61]))) (ex_aug rfl (ev_loc rfl) (c := .str (d ++ [61])) (add_strP1 (by lia)) rfl) (gc_same _ _) (exs_step (ex_aug rfl rfl rfl rfl) (gc_same _ _) rfl)
      have b3 : ∃ t, evT g L1 (.and [(.cmp .lt (.bin .add (.loc 4) (.lit (.int (2)))) (.loc 5)), (.cmp .inn (.idx (.loc 3) (.bin .add (.loc 4) (.lit (.int (1))))) (.lit (.str hexDs))), (.cmp .inn (.idx (.loc 3) (.bin .add (.loc 4) (.lit (.int (2))))) (.lit (.str hexDs)))]) (ev g L1 (.and [(.cmp .lt (.bin .add (.loc 4) (.lit (.int (2)))) (.loc 5)), (.cmp .inn (.idx (.loc 3) (.bin .add (.loc 4) (.lit (.int (1))))) (.lit (.str hexDs))), (.cmp .inn (.idx (.loc 3) (.bin .add (.loc 4) (.lit (.int (2))))) (.lit (.str hexDs)))]) H) H = some (t, H) ∧
          t = twoB b q := by
        rcases q with _ | ⟨b2, q⟩
        · refine ⟨false, evT_and (evC_f (evT_cmp (ev_bin (ev_loc rfl) rfl addI) (ev_loc rfl) (lt_f (by rw [List.length_nil] at hlen; lia)))), rfl⟩
        · have at2 : line[i + 2]? = some b2 := atk 1
          refine ⟨_, evT_and (evC_t (evT_cmp (ev_bin (ev_loc rfl) rfl addI) (ev_loc rfl) (lt_t (by rw [List.length_cons] at hlen; lia))) ?_), rfl⟩
          refine evC_cons (t := (hexV b).isSome) (evT_cmp (ev_idx (ev_loc rfl) (ev_bin (ev_loc rfl) rfl addI) (v := .p (.str [b])) (idx_str at1 hl)) rfl (z := (hexV b).isSome) (by simp only [cmpV, hexDs_iff, cmpP, cmpIn, pstr_mk, one_mk, Option.bind_some])) ?_
          cases hb : (hexV b).isSome with
          | false => simp [twoB, hb]
          | true =>
            refine evC_cons (t := (hexV b2).isSome) (evT_cmp (ev_idx (ev_loc rfl) (ev_bin (ev_loc rfl) rfl addI) (v := .p (.str [b2])) (idx_str at2 hl)) rfl (z := (hexV b2).isSome) (by simp only [cmpV, hexDs_iff, cmpP, cmpIn, pstr_mk, one_mk, Option.bind_some])) ?_
            cases hb2 : (hexV b2).isSome <;> simp [twoB, hb, hb2, evC_nilE]
      obtain ⟨t, b3, ht⟩ := b3
      by_cases htt : t = true
      · rcases q with _ | ⟨b2, q⟩
        · rw [ht] at htt; cases htt
        · rw [htt] at ht b3
          simp only [List.length_cons] at hlen
          have ht := ht.symm
          simp only [twoB, Bool.and_eq_true, Option.isSome_iff_exists] at ht
          obtain ⟨⟨x, hx⟩, y, hy⟩ := ht
          have k3 : (if i + 3 = line.length then eol else []) ++ decS eol (line.drop (i + 3)) = if q = [] then eol else decS eol q := by
            have := dropk 2
            rw [show i + 1 + 2 = i + 3 by lia] at this
            rw [this]
            show _ ++ decS eol q = _
            cases q with
            | nil => rw [if_pos (by simp at hlen; lia)]; simp [decS]
            | cons z q => rw [if_neg (by simp at hlen; lia)]; simp
          have e3 : (line.drop i).take 3 = [61, b, b2] := by rw [hr]; rfl
          have s2 : ex g (.aug 2 .add (.cal 0 [(.sl (.loc 3) (some (.loc 4)) (some (.bin .add (.loc 4) (.lit (.int (3))))))])) L1 H = some (.next, Ld enc eol (d ++ [16 * x + y]) line i (some (.str [61])), H) := by
            refine ex_aug (a := .str d) rfl (ev_cal (evs_cons (x := .p (.str [61, b, b2])) (ev_sl (ev_loc rfl) (evo_some (ev_loc rfl)) (evo_some (ev_bin (ev_loc rfl) rfl addI)) ?_) (evs_nil _ _ _)) (hq _ _ _ _ H hx hy)) (c := .str (d ++ [16 * x + y])) (add_strP1 (by lia)) rfl
            have o1 : oki (i : Int) = true := oki_nat (by lia)
            have o2 : oki ((i + 3 : Nat) : Int) = true := oki_nat (by lia)
            have e := cut_3 (l := line) (i := i) (by lia)
            rw [e3] at e
            have o3 : ok line.length = true := ok_of (by lia)
            have o2' : oki ((i : Int) + 3) = true := o2
            rw [slV_str (bnds_int o1) (bnds_int o2') o3]
            rw [show ((i : Int) + 3) = ((i + 3 : Nat) : Int) by lia, e]
          refine ⟨i + 3, some (.str [61]), (d ++ [16 * x + y]) ++ (if i + 3 = line.length then eol else []), .next, .inl rfl, ?_, by lia, by lia, ?_, ?_⟩
          · refine exs_step s1 (gc_same _ _) (exs_step (loc' := Ld enc eol (d ++ [16 * x + y]) line (i + 3) (some (.str [61]))) (ex_ifF b1 ?_) (gc_same _ _) (tail_turn (by simp; lia)))
            refine exs_step (ex_ifF bE ?_) (gc_same _ _) rfl
            refine exs_step (ex_ifT b3 ?_) (gc_same _ _) rfl
            exact exs_step s2 (gc_same _ _) (exs_step (ex_aug rfl rfl rfl rfl) (gc_same _ _) rfl)
          · rw [List.append_assoc, k3]
            simp [decS, hx, hy]
          · simp only [List.length_append, List.length_cons, List.length_nil]
            split <;> simp <;> lia
      · have htf : t = false := by simpa using htt
        rw [htf] at ht b3
        refine ⟨i + 1, some (.str [61]), (d ++ [61]) ++ (if i + 1 = line.length then eol else []), .next, .inl rfl, ?_, by lia, by lia, ?_, ?_⟩
        · refine exs_step s1 (gc_same _ _) (exs_step (loc' := Ld enc eol (d ++ [61]) line (i + 1) (some (.str [61]))) (ex_ifF b1 ?_) (gc_same _ _) (tail_turn (by simp; lia)))
          refine exs_step (ex_ifF bE ?_) (gc_same _ _) rfl
          refine exs_step (ex_ifF b3 ?_) (gc_same _ _) rfl
          exact plain
        · rw [if_neg (by lia), List.append_nil, show line.drop (i + 1) = b :: q from dropk 0, List.append_assoc]
          congr 1
          rcases q with _ | ⟨b2, q⟩
          · simp [decS]
          · have : ¬ ((∃ x, hexV b = some x) ∧ ∃ y, hexV b2 = some y) := by
              rintro ⟨⟨x, hx⟩, y, hy⟩
              simp [twoB, hx, hy] at ht
            conv => rhs; unfold decS
            simp only [if_true]
            cases hx : hexV b with
            | none => rfl
            | some x =>
              cases hy : hexV b2 with
              | none => rfl
              | some y => exact absurd ⟨⟨x, hx⟩, y, hy⟩ this
        · rw [if_neg (by lia)]; simp
  · refine ⟨i + 1, some (.str [c]), (d ++ [c]) ++ (if i + 1 = line.length then eol else []), .next, .inl rfl, ?_, by lia, by lia, ?_, ?_⟩
    · refine exs_step s1 (gc_same _ _) (exs_step (loc' := Ld enc eol (d ++ [c]) line (i + 1) (some (.str [c]))) (ex_ifT (evT_cmp (ev_loc rfl) rfl (nec_t h61)) ?_) (gc_same _ _) (tail_turn (by simp; lia)))
      exact exs_step (loc' := Ld enc eol (d ++ [c]) line i (some (.str [c]))) (ex_aug rfl (ev_loc rfl) (c := .str (d ++ [c])) (add_strP1 (by lia)) rfl) (gc_same _ _) (exs_step (ex_aug rfl rfl rfl rfl) (gc_same _ _) rfl)
    · have e1 : line.drop (i + 1) = r := dropk 0
      rw [e1, List.append_assoc, List.append_assoc]
      congr 1
      conv => rhs; unfold decS
      rw [if_neg h61]
      cases r with
      | nil => rw [if_pos (by simp at hlen; lia)]; simp [decS]
      | cons z q => rw [if_neg (by simp at hlen; lia)]; simp
    · simp only [List.length_append, List.length_cons, List.length_nil]
      split <;> simp <;> lia
end Mine
end
section
open PySem PySem.W PyProof.Rows PyProof.V
set_option Elab.async false
set_option maxRecDepth 20000
set_option linter.unusedSimpArgs false
namespace Mine
theorem decS_len (eol : List Nat) : ∀ (n : Nat) (l : List Nat), l.length ≤ n → (decS eol l).length ≤ l.length + eol.length
  | _, [], _ => by simp [decS]
  | 0, a :: r, h => by simp at h
  | n + 1, c :: r, h => by
    simp only [List.length_cons] at h
    have ih := fun q (hq : q.length ≤ n) => decS_len eol n q hq
    unfold decS
    split
    · match r, h with
      | [], _ => simp
      | [b], h => have := ih [b] (by simpa using h); simp at this ⊢; lia
      | a :: b :: q, h =>
        simp only [List.length_cons] at h ⊢
        have i1 := ih (a :: b :: q) (by simp; exact Nat.lt_of_succ_lt_succ ‹_›)
        have i2 := ih q (by lia)
        simp only [List.length_cons] at i1
        split
        · split <;> simp <;> lia
        · simp; lia
    · have := ih r (by exact Nat.le_of_lt_succ ‹_›)
      split <;> simp <;> lia
theorem dec_while {g : G} (hq : ∀ a b x y K, hexV a = some x → hexV b = some y → g.call 0 [.p (.str [61, a, b])] K = some (.p (.str [16 * x + y]), K)) {enc eol line : List Nat} {H : List O} (hl : line.length ≤ 1000) (he : eol.length ≤ 5) :
    ∀ (m i n : Nat) (d : List Nat) (c0 : Option P), line.length - i ≤ m → i ≤ line.length → d.length + 6 * (line.length - i) ≤ 800000 →
    ∃ c1, whlL (fun loc H => evT g loc (.cmp .lt (.loc 4) (.loc 5)) (ev g loc (.cmp .lt (.loc 4) (.loc 5)) H) H) (fun loc H => exs g whD loc H) (m + n + 1) (Ld enc eol d line i c0) H =
      some (.next, Ld enc eol (d ++ decS eol (line.drop i)) line line.length c1, H) := by
  intro m
  induction m with
  | zero =>
    intro i n d c0 hm hi hd
    have h : i = line.length := by lia
    refine ⟨c0, (whl_stop (evT_cmp (ev_loc rfl) (ev_loc rfl) (lt_f (by lia)))).trans ?_⟩
    rw [h, List.drop_length]
    simp [decS]
  | succ m im =>
    intro i n d c0 hm hi hd
    rw [Nat.add_right_comm m 1 n]
    by_cases h : i = line.length
    · refine ⟨c0, (whl_stop (evT_cmp (ev_loc rfl) (ev_loc rfl) (lt_f (by lia)))).trans ?_⟩
      rw [h, List.drop_length]
      simp [decS]
    · obtain ⟨j, c', d', f, hf, h1, h2, h3, h4, h5⟩ := dec_turn (g := g) hq (enc := enc) (eol := eol) (d := d) (line := line) (i := i) (c0 := c0) (H := H) hl (by lia) (List.drop_eq_getElem_cons (show i < line.length by lia))
      obtain ⟨c1, ih⟩ := im j n d' c' (by lia) h3 (by lia)
      refine ⟨c1, whl_go (evT_cmp (ev_loc rfl) (ev_loc rfl) (lt_t (by lia))) ?_ (ih.trans ?_)⟩
      · rcases hf with rfl | rfl
        · exact .inl h1
        · exact .inr h1
      · rw [h4, ← List.drop_eq_getElem_cons (show i < line.length by exact Nat.lt_of_lt_of_le ‹_› ‹_›)]
noncomputable def decR (eol line : List Nat) : List Nat := if rstr line = [] then eol else decS eol (rstr line)
theorem rstr_le (l : List Nat) : (rstr l).length ≤ l.length := by
  unfold rstr
  rw [List.length_reverse]
  exact Nat.le_trans (List.dropWhile_sublist _).length_le (by simp)
theorem decR_len (eol line : List Nat) : (decR eol line).length ≤ line.length + eol.length := by
  unfold decR
  split
  · exact Nat.le_add_left _ _
  · have h1 := decS_len eol _ (rstr line) (Nat.le_refl _)
    have h2 := rstr_le line
    lia
noncomputable def Ldd (enc eol d : List Nat) (o3 o4 o5 o6 : Option P) : List (Option V) := [some (.p (.str enc)), some (.p (.str eol)), some (.p (.str d)), o3.map V.p, o4.map V.p, o5.map V.p, o6.map V.p]
noncomputable def lnD : List T := [.asg (.one 3) (.sm .rstrip (.loc 3) []),
  .ifs (.not (.loc 3)) [.aug 2 .add (.loc 1),
  .cont] [],
  .asg (.one 4) (.lit (.int (0))),
  .asg (.one 5) (.bi .len [(.loc 3)]),
  .whl (.cmp .lt (.loc 4) (.loc 5)) whD]
theorem evT_not {g : G} {L : List (Option V)} {i : Nat} {H : List O} {l : List Nat} (hi : L[i]? = some (some (.p (.str l)))) (hl : l.length ≤ 100000) : evT g L (.not (.loc i)) (ev g L (.not (.loc i)) H) H = some (l.isEmpty, H) := by
  simp only [evT_notE, evT_locE, ev_locE, ev_notE, hi, Option.bind_some, truV, ok_of (show l.length ≤ 1000000 by exact Nat.le_trans ‹_› (by decide)), if_true, Bool.not_not, truP, Option.join_some]
theorem dec_line {g : G} (hq : ∀ a b x y K, hexV a = some x → hexV b = some y → g.call 0 [.p (.str [61, a, b])] K = some (.p (.str [16 * x + y]), K)) {enc eol line d : List Nat} {H : List O} {o4 o5 o6 : Option P} (hl : line.length ≤ 1000) (he : eol.length ≤ 5) (ha : asc line = true) (hd : d.length + 6 * (line.length + 1) ≤ 800000) :
    ∃ o3' o4' o5' o6' f, (f = .next ∨ f = .cont) ∧ exs g lnD (Ldd enc eol d (some (.str line)) o4 o5 o6) H = some (f, Ldd enc eol (d ++ decR eol line) o3' o4' o5' o6', H) := by
  have hr := rstr_le line
  have s1 : ex g (.asg (.one 3) (.sm .rstrip (.loc 3) [])) (Ldd enc eol d (some (.str line)) o4 o5 o6) H = some (.next, Ldd enc eol d (some (.str (rstr line))) o4 o5 o6, H) := by
    refine ex_asg (ev_sm (ev_loc rfl) rfl (evs_nil _ _ _) (z := (.p (.str (rstr line)), H)) ?_) rfl
    simp only [smV, ok_of (show line.length ≤ 1000000 by exact Nat.le_trans ‹_› (by decide)), ha, Bool.and_self, if_true, smT, nul_mk, pstr_mk, Option.bind_some]
  by_cases h0 : rstr line = []
  · refine ⟨some (.str (rstr line)), o4, o5, o6, .cont, .inr rfl, exs_step s1 (gc_same _ _) (exs_stop (ex_ifT (H₁ := H) ((evT_not rfl (by lia)).trans (by simp [h0])) ?_) (by simp))⟩
    refine exs_step (loc' := Ldd enc eol (d ++ decR eol line) (some (.str (rstr line))) o4 o5 o6) (ex_aug rfl (ev_loc rfl) (c := .str (d ++ eol)) (by simp [binP, addP, pstr_mk, Option.bind_some]; exact ok_of (by lia)) ?_) (gc_same _ _) (exs_stop rfl (by simp))
    simp only [decR, h0, if_true]
    rfl
  · obtain ⟨c1, hw⟩ := dec_while (g := g) hq (enc := enc) (eol := eol) (line := rstr line) (H := H) (by exact Nat.le_trans ‹_› ‹_›) he (rstr line).length 0 (fuel - (rstr line).length - 1) d o6 (by exact Nat.sub_le _ _) (by exact Nat.zero_le _) (by lia)
    rw [show (rstr line).length + (fuel - (rstr line).length - 1) + 1 = fuel by have : fuel = 100000 := rfl; lia] at hw
    refine ⟨some (.str (rstr line)), some (pN (rstr line).length), some (pN (rstr line).length), c1, .next, .inl rfl, exs_step s1 (gc_same _ _) (exs_step (ex_ifF ((evT_not rfl (by lia)).trans (by simp [h0])) rfl) (gc_same _ _) (exs_step (loc' := Ldd enc eol d (some (.str (rstr line))) (some (.int 0)) o5 o6) rfl (gc_same _ _) (exs_step (loc' := Ld enc eol d (rstr line) 0 o6) ?_ (gc_same _ _) (exs_step (ex_whl hw) (gc_same _ _) ?_))))⟩
    · refine ex_asg (ev_bi (evs_cons (ev_loc rfl) (evs_nil _ _ _)) (z := (.p (pN (rstr line).length), H)) ?_) rfl
      simp only [biV, ok_of (show (rstr line).length ≤ 1000000 by lia), if_true, biA, lenV, lenP, nul_mk, Option.bind_some]
    · simp only [decR, h0, if_false, List.drop_zero]
      rfl
theorem dec_lines {g : G} (hq : ∀ a b x y K, hexV a = some x → hexV b = some y → g.call 0 [.p (.str [61, a, b])] K = some (.p (.str [16 * x + y]), K)) {enc eol : List Nat} {H : List O} {all : List P} {w : Option Nat} (hw : stays w all H = true) (he : eol.length ≤ 5) :
    ∀ (ls : List (List Nat)) (d : List Nat) (o3 o4 o5 o6 : Option P), (∀ l ∈ ls, l.length ≤ 1000 ∧ asc l = true) → d.length + 20 * (ls.map fun l => l.length + 1).sum ≤ 700000 →
    ∃ o3' o4' o5' o6', forL all w (.one 3) (fun loc H => exs g lnD loc H) (ls.map P.str) (Ldd enc eol d o3 o4 o5 o6) H = some (.next, Ldd enc eol (d ++ ls.flatMap (decR eol)) o3' o4' o5' o6', H) := by
  intro ls
  induction ls with
  | nil => exact fun d o3 o4 o5 o6 _ _ => ⟨o3, o4, o5, o6, by rw [List.flatMap_nil, List.append_nil]; exact forL_nil hw⟩
  | cons l ls ih =>
    intro d o3 o4 o5 o6 h hd
    obtain ⟨h1, h2⟩ := h l (.head _)
    rw [List.map_cons, List.sum_cons] at hd
    obtain ⟨a3, a4, a5, a6, f, hf, he1⟩ := dec_line (g := g) hq (enc := enc) (eol := eol) (line := l) (d := d) (H := H) (o4 := o4) (o5 := o5) (o6 := o6) h1 he h2 (by lia)
    have hlen := decR_len eol l
    obtain ⟨b3, b4, b5, b6, ih⟩ := ih (d ++ decR eol l) a3 a4 a5 a6 (fun x hx => h x (.tail _ hx)) (by rw [List.length_append]; lia)
    refine ⟨b3, b4, b5, b6, ?_⟩
    rw [List.flatMap_cons, ← List.append_assoc]
    exact forL_go hw (q := (Ldd enc eol d (some (.str l)) o4 o5 o6, H)) rfl he1 hf ih
theorem lns_w : ∀ (n : Nat) (l : List Nat), l.length ≤ n → ((lns l).map fun x => x.length + 1).sum ≤ 2 * l.length ∧ ∀ x ∈ lns l, x.length ≤ l.length ∧ ∀ c ∈ x, c ∈ l
  | _, [], _ => by simp [lns]
  | 0, a :: r, h => by simp at h
  | n + 1, a :: r, h => by
    simp only [List.length_cons] at h
    obtain ⟨i1, i2⟩ := lns_w n r (by exact Nat.le_of_lt_succ ‹_›)
    cases ha : isNl a with
    | true =>
      by_cases hc : (a == 13 && r[0]? == some 10) = true
      · simp only [Bool.and_eq_true, beq_iff_eq] at hc
        obtain ⟨rfl, hr⟩ := hc
        match r, hr with
        | b :: q, hr =>
          have : b = 10 := by simpa using hr
          subst this
          obtain ⟨j1, j2⟩ := lns_w n q (by simp at h; exact Nat.le_of_lt ‹_›)
          have e : lns (13 :: 10 :: q) = [] :: lns q := by simp [lns]
          rw [e]
          refine ⟨by simp at j1 ⊢; lia, fun x hx => ?_⟩
          rcases List.mem_cons.mp hx with rfl | hx
          · simp
          · obtain ⟨k1, k2⟩ := j2 x hx
            exact ⟨by simp; lia, fun c hc => .tail _ (.tail _ (k2 c hc))⟩
      · rw [lns_brk ha (Bool.eq_false_iff.mpr hc)]
        refine ⟨by simp at i1 ⊢; lia, fun x hx => ?_⟩
        rcases List.mem_cons.mp hx with rfl | hx
        · simp
        · obtain ⟨k1, k2⟩ := i2 x hx
          exact ⟨by simp; exact Nat.le_succ_of_le ‹_›, fun c hc => .tail _ (k2 c hc)⟩
    | false =>
      rw [lns_sign ha]
      unfold app
      rw [if_neg (by simp)]
      cases hl : lns r with
      | nil => simp; exact Nat.le_add_left _ _
      | cons x q =>
        rw [hl] at i1 i2
        refine ⟨by simp at i1 ⊢; lia, fun y hy => ?_⟩
        rcases List.mem_cons.mp hy with rfl | hy
        · obtain ⟨k1, k2⟩ := i2 x (.head _)
          refine ⟨by simp; omega, fun c hc => ?_⟩
          rcases List.mem_append.mp hc with hc | hc
          · simp at hc; subst hc; exact .head _
          · exact .tail _ (k2 c hc)
        · obtain ⟨k1, k2⟩ := i2 y (.tail _ hy)
          exact ⟨by simp; exact Nat.le_succ_of_le ‹_›, fun c hc => .tail _ (k2 c hc)⟩
/-- decode -/
noncomputable def decA (eol enc : List Nat) : List Nat :=
  let d := (lns enc).flatMap (decR eol)
  if !(enc.getLast? == some 13 || enc.getLast? == some 10) && sfx d eol then d.take (d.length - eol.length) else d
theorem decA_len {eol enc : List Nat} (he : eol.length ≤ 5) (hl : enc.length ≤ 1000) : ((lns enc).flatMap (decR eol)).length ≤ 20000 := by
  obtain ⟨h1, _⟩ := lns_w _ enc (Nat.le_refl _)
  have key : ∀ ls : List (List Nat), (ls.flatMap (decR eol)).length ≤ 5 * (ls.map fun x => x.length + 1).sum := by
    intro ls
    induction ls with
    | nil => simp
    | cons a r ih =>
      have := decR_len eol a
      simp only [List.flatMap_cons, List.length_append, List.map_cons, List.sum_cons]
      lia
  have := key (lns enc)
  lia
theorem run_decode {g : G} (hq : ∀ a b x y K, hexV a = some x → hexV b = some y → g.call 0 [.p (.str [61, a, b])] K = some (.p (.str [16 * x + y]), K)) {enc eol : List Nat} {H : List O} (h0 : enc ≠ []) (hl : enc.length ≤ 1000) (ha : asc enc = true) (he : eol.length ≤ 5) (he0 : eol ≠ []) :
    runF g pF_decode [.p (.str enc), .p (.str eol)] H = some (.p (.str (decA eol enc)), H) := by
  let d := (lns enc).flatMap (decR eol)
  have hdl : d.length ≤ 20000 := decA_len he hl
  obtain ⟨w1, w2⟩ := lns_w _ enc (Nat.le_refl _)
  let Hl := H ++ [O.list ((lns enc).map P.str)]
  obtain ⟨a3, a4, a5, a6, hloop⟩ := dec_lines (g := g) hq (enc := enc) (eol := eol) (H := Hl) (all := (lns enc).map P.str) (w := some H.length) (stays_of (getL_last _ _)) he (lns enc) [] none none none none (fun l hx => ⟨by have := (w2 l hx).1; exact Nat.le_trans ‹_› ‹_›, List.all_eq_true.mpr fun c hc => List.all_eq_true.mp ha c ((w2 l hx).2 c hc)⟩) (by simp; lia)
  rw [List.nil_append] at hloop
  suffices hs : ∃ loc', exs g pb_decode (loc0 pF_decode [.p (.str enc), .p (.str eol)]) H = some (.ret (.p (.str (decA eol enc))), loc', H) by
    obtain ⟨loc', hs⟩ := hs
    exact runF_ret (v := .p (.str (decA eol enc))) rfl hs (by simp [tidy])
  let L0 : List (Option V) := [some (.p (.str enc)), some (.p (.str eol)), none, none, none, none, none]
  have t1 : ex g (.ifs (.not (.loc 0)) [.ret (.loc 0)] []) L0 H = some (.next, L0, H) := ex_ifF ((evT_not rfl (by exact Nat.le_trans ‹_› (by decide))).trans (by simp [h0])) rfl
  have t3 : ex g (.fore (.one 3) (.sm .splitlines (.loc 0) []) lnD) (Ldd enc eol [] none none none none) H = some (.next, Ldd enc eol d a3 a4 a5 a6, Hl) := by
    refine ex_for (v := .ref H.length) (H₁ := Hl) (ps := (lns enc).map P.str) (w := some H.length) (ev_sm (ev_loc rfl) rfl (evs_nil _ _ _) ?_) ?_ hloop
    · simp only [smV, ok_of (show enc.length ≤ 1000000 by exact Nat.le_trans ‹_› (by decide)), ha, Bool.and_self, if_true, smT, nul_mk, pstr_mk, Option.bind_some]
      rfl
    · simp only [itemsOf, Hl, getL_last, Option.map_some]
  have hlb : lb (Ldd enc eol d a3 a4 a5 a6) = 0 := by
    cases a3 <;> cases a4 <;> cases a5 <;> cases a6 <;> simp [lb, vb, Ldd]
  have g3 : gc H.length (Ldd enc eol d a3 a4 a5 a6) Hl = H := by
    rw [gc_eq (k := H.length) (by rw [hlb]; lia)]
    exact take_sh0 _ _
  obtain ⟨z, hz⟩ : ∃ z, enc.getLast? = some z := ⟨enc.getLast h0, List.getLast?_eq_some_getLast h0⟩
  have ez : ev g (Ldd enc eol d a3 a4 a5 a6) (.idx (.loc 0) (.neg (.lit (.int (1))))) H = some (.p (.str [z]), H) := by
    refine ev_idx (ev_loc rfl) (y := .p (.int (-1))) rfl ?_
    have hpos : 0 < enc.length := List.length_pos_iff.mpr h0
    have i1 : inIdx (-1) enc.length = true := by
      simp [inIdx, oki]
      lia
    have i2 : nIdx (-1) enc.length = enc.length - 1 := by unfold nIdx; rw [if_pos (by exact Int.natCast_nonneg _)]; lia
    have i3 : enc[enc.length - 1]? = some z := by rw [← hz, List.getLast?_eq_getElem?]
    simp only [idxV, i1, if_true, i2, i3, Option.map_some, idxA, idxP, int_mk, Option.bind_some]
  have c1 : evT g (Ldd enc eol d a3 a4 a5 a6) (.and [(.cmp .nin (.idx (.loc 0) (.neg (.lit (.int (1))))) (.lit (.str [13, 10]))), (.sm .endswith (.loc 2) [(.loc 1)])]) (ev g (Ldd enc eol d a3 a4 a5 a6) (.and [(.cmp .nin (.idx (.loc 0) (.neg (.lit (.int (1))))) (.lit (.str [13, 10]))), (.sm .endswith (.loc 2) [(.loc 1)])]) H) H =
      some ((!(enc.getLast? == some 13 || enc.getLast? == some 10) && sfx d eol), H) := by
    refine evT_and (evC_cons (t := !(enc.getLast? == some 13 || enc.getLast? == some 10)) (evT_cmp ez rfl ?_) ?_)
    · rw [hz]
      simp only [cmpV, cmpP, cmpIn, pstr_mk, one_mk, Option.bind_some]
      by_cases q1 : z = 13 <;> by_cases q2 : z = 10 <;> simp [q1, q2]
    · cases hcb : !(enc.getLast? == some 13 || enc.getLast? == some 10) with
      | false => rfl
      | true =>
        simp only [if_true, Bool.true_and]
        refine evC_cons (t := sfx d eol) (H₁ := H) ?_ ?_
        · have : ev g (Ldd enc eol d a3 a4 a5 a6) (.sm .endswith (.loc 2) [(.loc 1)]) H = some (.p (.bool (sfx d eol)), H) := ev_sm (ev_loc rfl) rfl (evs_cons (ev_loc rfl) (evs_nil _ _ _)) rfl
          simp only [evT_smE, this, Option.bind_some, truV, truP]
        · cases sfx d eol <;> rfl
  have fin : ∃ loc', exs g [.ifs (.and [(.cmp .nin (.idx (.loc 0) (.neg (.lit (.int (1))))) (.lit (.str [13, 10]))), (.sm .endswith (.loc 2) [(.loc 1)])]) [.asg (.one 2) (.sl (.loc 2) none (some (.neg (.bi .len [(.loc 1)]))))] [], .ret (.loc 2)] (Ldd enc eol d a3 a4 a5 a6) H = some (.ret (.p (.str (decA eol enc))), loc', H) := by
    have hdA : decA eol enc = if (!(enc.getLast? == some 13 || enc.getLast? == some 10) && sfx d eol) then d.take (d.length - eol.length) else d := rfl
    rw [hdA]
    cases hc : (!(enc.getLast? == some 13 || enc.getLast? == some 10) && sfx d eol) with
    | false =>
      rw [hc] at c1
      exact ⟨_, exs_step (ex_ifF c1 rfl) (gc_same _ _) (exs_stop rfl (by simp))⟩
    | true =>
      rw [hc] at c1
      refine ⟨Ldd enc eol (d.take (d.length - eol.length)) a3 a4 a5 a6, exs_step (loc' := Ldd enc eol (d.take (d.length - eol.length)) a3 a4 a5 a6) (ex_ifT c1 ?_) (gc_same _ _) (exs_stop rfl (by simp))⟩
      have hpos : 0 < eol.length := List.length_pos_iff.mpr he0
      refine exs_step (ex_asg (ev_sl (ev_loc rfl) (evo_none _ _ _) (evo_some (x := .p (.int (-(eol.length : Int)))) (H₁ := H) ?_) (r := (.p (.str (d.take (d.length - eol.length))), H)) ?_) rfl) (gc_same _ _) rfl
      · have e1 : ev g (Ldd enc eol d a3 a4 a5 a6) (.bi .len [(.loc 1)]) H = some (.p (.int eol.length), H) := ev_bi (evs_cons (ev_loc rfl) (evs_nil _ _ _)) (by simp only [biV, ok_of (show eol.length ≤ 1000000 by exact Nat.le_trans ‹_› (by decide)), if_true, biA, lenV, lenP, nul_mk, Option.bind_some])
        simp only [ev_negE, ev_biE] at e1 ⊢
        rw [e1]
        rfl
      · have o1 : oki (-(eol.length : Int)) = true := oki_of (by lia)
        simp only [slV, bnds, o1, if_true, Option.bind_some, ok_of (show d.length ≤ 1000000 by exact Nat.le_trans ‹_› (by decide)), pstr_mk, int_mk]
        congr 3
        unfold cut clip
        simp only [Option.map_some, Option.map_none, Option.getD_some, Option.getD_none, List.drop_zero, Nat.sub_zero]
        rw [if_pos (by lia), show (-(eol.length : Int) + (d.length : Int)).toNat = d.length - eol.length by lia]
  obtain ⟨loc', fin⟩ := fin
  exact ⟨loc', exs_step t1 (gc_same _ _) (exs_step (loc' := Ldd enc eol [] none none none none) rfl (gc_same _ _) (exs_step t3 g3 fin))⟩
end Mine
end
section
open PySem PySem.W PyProof.Rows PyProof.V
set_option Elab.async false
set_option maxRecDepth 20000
set_option linter.unusedSimpArgs false
namespace Mine
noncomputable abbrev Hb (H : List O) (acc : List P) (K : List O) : List O := H ++ O.list acc :: K
theorem Hb_get (H : List O) (acc : List P) (K : List O) : getL (Hb H acc K) H.length = some acc := by simp [getL]
theorem Hb_set (H : List O) (acc acc' : List P) (K : List O) : (Hb H acc K).set H.length (.list acc') = Hb H acc' K := by
  rw [List.set_append_right _ _ (Nat.le_refl _)]; simp
theorem Hb_gc {H : List O} {acc acc' : List P} {K : List O} {loc : List (Option V)} : gc (Hb H acc K).length loc (Hb H acc' K) = Hb H acc' K := by
  unfold gc
  refine List.take_of_length_le (Nat.le_trans ?_ (Nat.le_max_left _ _))
  simp
theorem Hb_add {H : List O} {acc : List P} {K : List O} {x : P} (h : acc.length ≤ 900000) : addTo H.length (.p x) (Hb H acc K) = some (Hb H (acc ++ [x]) K) := by
  simp only [addTo, Hb_get, Option.bind_some, Hb_set, pl_mk]
  rw [if_pos (ok_of (by exact Nat.le_trans ‹_› (by decide)))]
noncomputable def stepW (size : Nat) (r : List Nat) : Nat × List Nat := if r[size - 2]? = some 61 then (size - 2, r.take (size - 1)) else if r[size - 1]? = some 61 then (size - 1, r.take size) else (size, r.take size ++ [61])
noncomputable def encW (size : Nat) : Nat → List Nat → List (List Nat) × List Nat
  | 0, r => ([], r)
  | f + 1, r => if size + 2 ≤ r.length then ((stepW size r).2 :: (encW size f (r.drop (stepW size r).1)).1, (encW size f (r.drop (stepW size r).1)).2) else ([], r)
theorem stepW_le {size : Nat} {r : List Nat} (h3 : 3 ≤ size) : 1 ≤ (stepW size r).1 ∧ (stepW size r).1 ≤ size := by
  unfold stepW
  split
  · simp; lia
  · split <;> simp <;> (first | exact Nat.zero_lt_of_lt ‹_› | omega)
theorem encW_suffix {size : Nat} : ∀ (f : Nat) (r : List Nat), (encW size f r).2 <:+ r
  | 0, r => List.suffix_refl _
  | f + 1, r => by
    unfold encW
    split
    · exact (encW_suffix f _).trans (List.drop_suffix _ _)
    · exact List.suffix_refl _
noncomputable def Lb2 (bt : List Nat) (size : Nat) (eol : List Nat) (n : Nat) (o7 o8 o9 o10 o11 o12 : Option P) : List (Option V) :=
  [some (.p (.str bt)), some (.p (.int ((size : Int) + 1))), some (.p (.str eol)), some (.p (.str (61 :: eol))), some (.p (.int (size : Int))), some (.ref n), some (.bm n), o7.map V.p, o8.map V.p, o9.map V.p, o10.map V.p, o11.map V.p, o12.map V.p]
theorem wh_turn2 {g : G} {bt : List Nat} {size : Nat} {eol : List Nat} {line : List Nat} {s : Nat} {la : Int} {o1 o2 o3 : Option P} {H K : List O} {acc : List P} (h3 : 3 ≤ size) (hs : s + size + 2 ≤ line.length) (hl : line.length ≤ 1000) (ha : acc.length ≤ 5000) :
    exs g whB (Lb bt size eol H.length line s la o1 o2 o3) (Hb H acc K) = some (.next, Lb bt size eol H.length line ((s + (stepW size (line.drop s)).1 : Nat) : Int) la (some (pN (s + size))) o2 o3, Hb H (acc ++ [.str (stepW size (line.drop s)).2]) K) := by
  have q0 : ((s : Int) + (size : Int)) = ((s + size : Nat) : Int) := by push_cast; rfl
  have okl : ok line.length = true := ok_of (by exact Nat.le_trans ‹_› (by decide))
  have okr : ok (size + 1) = true := ok_of (by lia)
  have okn : ∀ k : Nat, k ≤ 1000 → oki (k : Int) = true := fun k h => oki_nat (by exact Nat.le_trans ‹_› (by decide))
  have cutN : ∀ k : Nat, s + k ≤ line.length → ∀ K : List O, slV (.p (.str line)) (some (.p (.int (s : Int)))) (some (.p (.int ((s + k : Nat) : Int)))) K = some (.p (.str ((line.drop s).take k)), K) := fun k hk K => by
    have e := cut_nat line (a := s) (b := s + k) (by exact Nat.le_trans (Nat.le_add_right _ _) ‹_›) hk
    rw [show s + k - s = k by lia] at e
    simp only [slV, bnds, okn s (by lia), okn (s + k) (by exact Nat.le_trans ‹_› ‹_›), if_true, Option.bind_some, okl, e, pstr_mk, int_mk]
  have at_ : ∀ k, k < size → ∃ c, (line.drop s)[k]? = some c ∧ line[s + k]? = some c := fun k hk => by
    refine ⟨line[s + k]'(by lia), ?_, ?_⟩
    · rw [List.getElem?_drop]; exact List.getElem?_eq_getElem (by lia)
    · exact List.getElem?_eq_getElem (by lia)
  obtain ⟨c2, d2, i2⟩ := at_ (size - 2) (by omega)
  obtain ⟨c1, d1, i1⟩ := at_ (size - 1) (by omega)
  let L1 := Lb bt size eol H.length line s la (some (pN (s + size))) o2 o3
  have s1 : ex g (.asg (.one 10) (.bin .add (.loc 8) (.loc 4))) (Lb bt size eol H.length line s la o1 o2 o3) (Hb H acc K) = some (.next, L1, Hb H acc K) :=
    ex_asg (ev_bin (ev_loc rfl) (ev_loc rfl) (z := (.p (pN (s + size)), _)) (by simp [binV, binP, addP, pint_mk, Option.bind_some, pl_mk])) rfl
  have x2 : ev g L1 (.idx (.loc 7) (.bin .sub (.loc 10) (.lit (.int (2))))) (Hb H acc K) = some (.p (.str [c2]), Hb H acc K) := by
    refine ev_idx (ev_loc rfl) (ev_bin (ev_loc rfl) rfl rfl) ?_
    rw [show ((s + size : Nat) : Int) - 2 = ((s + (size - 2) : Nat) : Int) by lia]
    exact idx_str i2 hl
  have x1 : ev g L1 (.idx (.loc 7) (.bin .sub (.loc 10) (.lit (.int (1))))) (Hb H acc K) = some (.p (.str [c1]), Hb H acc K) := by
    refine ev_idx (ev_loc rfl) (ev_bin (ev_loc rfl) rfl rfl) ?_
    rw [show ((s + size : Nat) : Int) - 1 = ((s + (size - 1) : Nat) : Int) by lia]
    exact idx_str i1 hl
  have b2 : evT g L1 (.cmp .eq (.idx (.loc 7) (.bin .sub (.loc 10) (.lit (.int (2))))) (.lit (.str [61]))) (ev g L1 (.cmp .eq (.idx (.loc 7) (.bin .sub (.loc 10) (.lit (.int (2))))) (.lit (.str [61]))) (Hb H acc K)) (Hb H acc K) = some (decide (c2 = 61), Hb H acc K) :=
    evT_cmp x2 rfl (by simp only [cmpV, eqP, cmpP, pstr_mk, Option.bind_some]; by_cases h : c2 = 61 <;> simp [h])
  have b1 : evT g L1 (.cmp .eq (.idx (.loc 7) (.bin .sub (.loc 10) (.lit (.int (1))))) (.lit (.str [61]))) (ev g L1 (.cmp .eq (.idx (.loc 7) (.bin .sub (.loc 10) (.lit (.int (1))))) (.lit (.str [61]))) (Hb H acc K)) (Hb H acc K) = some (decide (c1 = 61), Hb H acc K) :=
    evT_cmp x1 rfl (by simp only [cmpV, eqP, cmpP, pstr_mk, Option.bind_some]; by_cases h : c1 = 61 <;> simp [h])
  refine exs_step s1 Hb_gc ?_
  by_cases e2 : c2 = 61
  · have hst : stepW size (line.drop s) = (size - 2, (line.drop s).take (size - 1)) := by unfold stepW; rw [d2, e2, if_pos rfl]
    rw [hst]
    refine exs_step (ex_ifT (by rw [b2, decide_eq_true e2]) ?_) Hb_gc rfl
    refine exs_step (loc' := L1) (ex_ex (ev_app (ev_loc rfl) (ev_sl (ev_loc rfl) (evo_some (ev_loc rfl)) (evo_some (ev_bin (ev_loc rfl) rfl rfl)) (r := (.p (.str ((line.drop s).take (size - 1))), _)) ?_) (Hb_add (acc := acc) (by exact Nat.le_trans ‹_› (by decide))))) Hb_gc ?_
    · rw [show ((s + size : Nat) : Int) - 1 = ((s + (size - 1) : Nat) : Int) by lia]
      exact cutN _ (by lia) _
    · refine exs_step (ex_asg (ev_bin (ev_loc rfl) rfl rfl) rfl) Hb_gc ?_
      rw [show ((s + size : Nat) : Int) - 2 = ((s + (size - 2) : Nat) : Int) by lia]
      rfl
  · have f2 : (line.drop s)[size - 2]? ≠ some 61 := by rw [d2]; intro h; cases h; exact e2 rfl
    refine exs_step (ex_ifF (by rw [b2, decide_eq_false e2]) ?_) Hb_gc rfl
    by_cases e1 : c1 = 61
    · have hst : stepW size (line.drop s) = (size - 1, (line.drop s).take size) := by unfold stepW; rw [if_neg f2, d1, e1, if_pos rfl]
      rw [hst]
      refine exs_step (ex_ifT (by rw [b1, decide_eq_true e1]) ?_) Hb_gc rfl
      refine exs_step (loc' := L1) (ex_ex (ev_app (ev_loc rfl) (ev_sl (ev_loc rfl) (evo_some (ev_loc rfl)) (evo_some (ev_loc rfl)) (r := (.p (.str ((line.drop s).take size)), _)) (cutN _ (by exact Nat.le_trans (Nat.le_add_right _ _) ‹_›) _)) (Hb_add (acc := acc) (by exact Nat.le_trans ‹_› (by decide))))) Hb_gc ?_
      refine exs_step (ex_asg (ev_bin (ev_loc rfl) rfl rfl) rfl) Hb_gc ?_
      rw [show ((s + size : Nat) : Int) - 1 = ((s + (size - 1) : Nat) : Int) by lia]
      rfl
    · have f1 : (line.drop s)[size - 1]? ≠ some 61 := by rw [d1]; intro h; cases h; exact e1 rfl
      have hst : stepW size (line.drop s) = (size, (line.drop s).take size ++ [61]) := by unfold stepW; rw [if_neg f2, if_neg f1]
      rw [hst]
      refine exs_step (ex_ifF (by rw [b1, decide_eq_false e1]) ?_) Hb_gc rfl
      have tl : ((line.drop s).take size).length = size := by simp; lia
      refine exs_step (loc' := L1) (ex_ex (ev_app (ev_loc rfl) (ev_bin (ev_sl (ev_loc rfl) (evo_some (ev_loc rfl)) (evo_some (ev_loc rfl)) (r := (.p (.str ((line.drop s).take size)), _)) (cutN _ (by exact Nat.le_trans (Nat.le_add_right _ _) ‹_›) _)) rfl (z := (.p (.str ((line.drop s).take size ++ [61])), _)) (by simp [binV, binP, tl, okr, addP, pstr_mk, Option.bind_some, pl_mk])) (Hb_add (acc := acc) (by exact Nat.le_trans ‹_› (by decide))))) Hb_gc ?_
      exact exs_step (ex_asg (ev_loc rfl) rfl) Hb_gc rfl
theorem wh_run2 {g : G} {bt : List Nat} {size : Nat} {eol : List Nat} {line : List Nat} {o2 o3 : Option P} {H K : List O} (h3 : 3 ≤ size) (hz : size ≤ 500) (hl : line.length ≤ 1000) :
    ∀ (f s n : Nat) (acc : List P) (o1 : Option P), line.length - s ≤ f → s ≤ line.length → acc.length + (line.length - s) ≤ 5000 →
    ∃ o1', whlL (fun loc H => evT g loc (.cmp .le (.loc 8) (.loc 9)) (ev g loc (.cmp .le (.loc 8) (.loc 9)) H) H) (fun loc H => exs g whB loc H) (f + n + 1) (Lb bt size eol H.length line (s : Int) ((line.length : Int) - 1 - ((size : Int) + 1)) o1 o2 o3) (Hb H acc K) =
      some (.next, Lb bt size eol H.length line ((line.length - (encW size f (line.drop s)).2.length : Nat) : Int) ((line.length : Int) - 1 - ((size : Int) + 1)) o1' o2 o3, Hb H (acc ++ (encW size f (line.drop s)).1.map P.str) K) := by
  intro f
  have stop : ∀ (f s n : Nat) (acc : List P) (o1 : Option P), s ≤ line.length → ¬ s + size + 2 ≤ line.length → ∃ o1', whlL (fun loc H => evT g loc (.cmp .le (.loc 8) (.loc 9)) (ev g loc (.cmp .le (.loc 8) (.loc 9)) H) H) (fun loc H => exs g whB loc H) (n + 1) (Lb bt size eol H.length line (s : Int) ((line.length : Int) - 1 - ((size : Int) + 1)) o1 o2 o3) (Hb H acc K) =
      some (.next, Lb bt size eol H.length line ((line.length - (encW size f (line.drop s)).2.length : Nat) : Int) ((line.length : Int) - 1 - ((size : Int) + 1)) o1' o2 o3, Hb H (acc ++ (encW size f (line.drop s)).1.map P.str) K) := fun f s n acc o1 hs hc => by
    refine ⟨o1, (whl_stop (evT_cmp (ev_loc rfl) (ev_loc rfl) (le_f (by lia)))).trans ?_⟩
    have dl : (line.drop s).length = line.length - s := List.length_drop
    have e : encW size f (line.drop s) = ([], line.drop s) := by
      cases f with
      | zero => rfl
      | succ f => rw [encW, if_neg (by omega)]
    rw [e, dl, show line.length - (line.length - s) = s by lia, List.map_nil, List.append_nil]
  induction f with
  | zero => exact fun s n acc o1 hf hs ha => stop _ _ _ _ _ hs (by lia)
  | succ f iw =>
    intro s n acc o1 hf hs ha
    rw [Nat.add_right_comm f 1 n]
    by_cases hc : s + size + 2 ≤ line.length
    · have dl : (line.drop s).length = line.length - s := List.length_drop
      have st := stepW_le (size := size) (r := line.drop s) h3
      obtain ⟨o1', ih⟩ := iw (s + (stepW size (line.drop s)).1) n (acc ++ [.str (stepW size (line.drop s)).2]) (some (pN (s + size))) (by lia) (by lia) (by rw [List.length_append, List.length_singleton]; lia)
      refine ⟨o1', whl_go (evT_cmp (ev_loc rfl) (ev_loc rfl) (le_t (by lia))) (.inl (wh_turn2 h3 hc hl (by exact Nat.le_trans (Nat.le_add_right _ _) ‹_›))) (ih.trans ?_)⟩
      have e : encW size (f + 1) (line.drop s) = ((stepW size (line.drop s)).2 :: (encW size f ((line.drop s).drop (stepW size (line.drop s)).1)).1, (encW size f ((line.drop s).drop (stepW size (line.drop s)).1)).2) := by
        rw [encW, if_pos (by lia)]
      rw [e, List.drop_drop, List.append_assoc]
      rfl
    · exact stop _ _ _ _ _ hs hc
/-- a line's last element -/
noncomputable def tailL (size : Nat) (eol r line : List Nat) : List Nat := if line.getLast? = some 32 then r.take (r.length - 1) ++ (if r.length + 1 ≤ size then [61, 50, 48] else if r.length = size then 32 :: 61 :: eol else 61 :: eol ++ [61, 50, 48]) else r
noncomputable def encL (size : Nat) (eol line : List Nat) : List (List Nat) := (encW size line.length line).1 ++ [tailL size eol (encW size line.length line).2 line]
theorem encW_rest {size : Nat} (h3 : 3 ≤ size) : ∀ (f : Nat) (r : List Nat), r.length ≤ f → (encW size f r).2.length ≤ size + 1 ∧ (r ≠ [] → (encW size f r).2 ≠ []) ∧ (encW size f r).1.length + (encW size f r).2.length ≤ r.length
  | 0, r, h => by
    have : r = [] := List.length_eq_zero_iff.mp (by lia)
    subst this
    simp [encW]
  | f + 1, r, h => by
    unfold encW
    split
    · rename_i hc
      have st := stepW_le (size := size) (r := r) h3
      obtain ⟨a, b, c⟩ := encW_rest (size := size) h3 f (r.drop (stepW size r).1) (by simp; lia)
      refine ⟨a, fun _ => b (fun h0 => ?_), ?_⟩
      · have := congrArg List.length h0
        simp at this
        lia
      · simp at c ⊢; lia
    · rename_i hc
      refine ⟨by simp; exact Nat.le_of_not_lt ‹_›, fun h0 => h0, by simp⟩
noncomputable def lnE : List T := [.asg (.one 8) (.lit (.int (0))),
  .asg (.one 9) (.bin .sub (.bin .sub (.bi .len [(.loc 7)]) (.lit (.int (1)))) (.loc 1)),
  .whl (.cmp .le (.loc 8) (.loc 9)) whB,
  .ifs (.and [(.loc 7), (.cmp .inn (.idx (.loc 7) (.neg (.lit (.int (1))))) (.lit (.str [32, 9])))]) [.asg (.one 11) (.bin .sub (.loc 8) (.loc 9)),
  .ifs (.cmp .ge (.loc 11) (.lit (.int (3)))) [.asg (.one 12) (.cal 1 [(.idx (.loc 7) (.neg (.lit (.int (1)))))])] [.ifs (.cmp .eq (.loc 11) (.lit (.int (2)))) [.asg (.one 12) (.bin .add (.idx (.loc 7) (.neg (.lit (.int (1))))) (.loc 3))] [.asg (.one 12) (.bin .add (.loc 3) (.cal 1 [(.idx (.loc 7) (.neg (.lit (.int (1)))))]))]],
  .ex (.app (.loc 6) (.bin .add (.sl (.loc 7) (some (.loc 8)) (some (.neg (.lit (.int (1)))))) (.loc 12)))] [.ex (.app (.loc 6) (.sl (.loc 7) (some (.loc 8)) none))]]
theorem ev_last {g : G} {L : List (Option V)} {i : Nat} {H : List O} {l : List Nat} {z : Nat} (hi : L[i]? = some (some (.p (.str l)))) (hz : l.getLast? = some z) (hl : l.length ≤ 1000) : ev g L (.idx (.loc i) (.neg (.lit (.int (1))))) H = some (.p (.str [z]), H) := by
  refine ev_idx (ev_loc hi) (y := .p (.int (-1))) rfl ?_
  have hpos : 0 < l.length := List.length_pos_iff.mpr (by rintro rfl; cases hz)
  have i1 : inIdx (-1) l.length = true := by
    simp [inIdx, oki]
    lia
  have i2 : nIdx (-1) l.length = l.length - 1 := by unfold nIdx; rw [if_pos (by exact Int.natCast_nonneg _)]; lia
  have i3 : l[l.length - 1]? = some z := by rw [← hz, List.getLast?_eq_getElem?]
  simp only [idxV, i1, if_true, i2, i3, Option.map_some, idxA, idxP, int_mk, Option.bind_some]
theorem enc_line {g : G} (hq : ∀ K, g.call 1 [.p (.str [32])] K = some (.p (.str [61, 50, 48]), K)) {bt : List Nat} {size : Nat} {eol : List Nat} {line : List Nat} {o8 o9 o10 o11 o12 : Option P} {H K : List O} {acc : List P} (h3 : 3 ≤ size) (hz : size ≤ 500) (hl : line.length ≤ 1000) (he : eol.length ≤ 5) (h9 : 9 ∉ line) (ha : acc.length + line.length ≤ 4000) :
    ∃ o8' o9' o10' o11' o12', exs g lnE (Lb2 bt size eol H.length (some (.str line)) o8 o9 o10 o11 o12) (Hb H acc K) = some (.next, Lb2 bt size eol H.length (some (.str line)) o8' o9' o10' o11' o12', Hb H (acc ++ (encL size eol line).map P.str) K) := by
  have okl : ok line.length = true := ok_of (by exact Nat.le_trans ‹_› (by decide))
  have s1 : ex g (.asg (.one 8) (.lit (.int (0)))) (Lb2 bt size eol H.length (some (.str line)) o8 o9 o10 o11 o12) (Hb H acc K) = some (.next, Lb2 bt size eol H.length (some (.str line)) (some (.int 0)) o9 o10 o11 o12, Hb H acc K) := rfl
  have s2 : ex g (.asg (.one 9) (.bin .sub (.bin .sub (.bi .len [(.loc 7)]) (.lit (.int (1)))) (.loc 1))) (Lb2 bt size eol H.length (some (.str line)) (some (.int 0)) o9 o10 o11 o12) (Hb H acc K) = some (.next, Lb bt size eol H.length line ((0 : Nat) : Int) ((line.length : Int) - 1 - ((size : Int) + 1)) o10 o11 o12, Hb H acc K) :=
    ex_asg (ev_bin (ev_bin (ev_bi (evs_cons (ev_loc rfl) (evs_nil _ _ _)) (z := (.p (.int line.length), _)) (by simp only [biV, okl, if_true, biA, lenV, lenP, nul_mk, Option.bind_some])) rfl rfl) (ev_loc rfl) rfl) rfl
  obtain ⟨o10', hw⟩ := wh_run2 (g := g) (bt := bt) (size := size) (eol := eol) (line := line) (o2 := o11) (o3 := o12) (H := H) (K := K) h3 hz hl line.length 0 (fuel - line.length - 1) acc o10 (by exact Nat.sub_le _ _) (by exact Nat.zero_le _) (by exact Nat.le_trans ‹_› (by decide))
  rw [show line.length + (fuel - line.length - 1) + 1 = fuel by have : fuel = 100000 := rfl; lia] at hw
  rw [List.drop_zero] at hw
  obtain ⟨r1, r2, r4⟩ := encW_rest (size := size) h3 line.length line (Nat.le_refl _)
  have r3 := encW_suffix (size := size) line.length line
  have rl : (encW size line.length line).2.length ≤ line.length := r3.length_le
  let r := (encW size line.length line).2
  let acc1 := acc ++ (encW size line.length line).1.map P.str
  have hacc1 : acc1.length ≤ 900000 := by simp [acc1]; lia
  have rl' : r.length ≤ line.length := rl
  have r1' : r.length ≤ size + 1 := r1
  let s := line.length - r.length
  have hdrop : line.drop s = r := (List.suffix_iff_eq_drop.mp r3).symm
  let la : Int := (line.length : Int) - 1 - ((size : Int) + 1)
  let L3 := Lb bt size eol H.length line ((s : Nat) : Int) la o10' o11 o12
  have oks : oki ((s : Nat) : Int) = true := oki_nat (by lia)
  have hend : ∀ x, tailL size eol r line = x → acc1 ++ [.str x] = acc ++ (encL size eol line).map P.str := fun x hx => by
    simp only [acc1, encL, List.map_append, List.map_cons, List.map_nil, List.append_assoc]
    rw [← hx]
  have plainE : line.getLast? ≠ some 32 → exs g [.ex (.app (.loc 6) (.sl (.loc 7) (some (.loc 8)) none))] L3 (Hb H acc1 K) = some (.next, L3, Hb H (acc ++ (encL size eol line).map P.str) K) := fun hne => by
    rw [← hend r (by unfold tailL; rw [if_neg hne])]
    refine exs_step (ex_ex (ev_app (ev_loc rfl) (ev_sl (ev_loc rfl) (evo_some (ev_loc rfl)) (evo_none _ _ _) (r := (.p (.str r), _)) ?_) (Hb_add (acc := acc1) hacc1))) Hb_gc rfl
    simp only [slV, bnds, oks, if_true, Option.bind_some, okl, pstr_mk, int_mk]
    rw [cut_drop, hdrop]
  refine ?_
  by_cases h0 : line = []
  · refine ⟨some (.int (s : Int)), some (.int la), o10', o11, o12, exs_step s1 Hb_gc (exs_step s2 Hb_gc (exs_step (ex_whl hw) Hb_gc (exs_step (ex_ifF ?_ (plainE (by rw [h0]; simp))) Hb_gc ?_)))⟩
    · refine evT_and (evC_cons (t := false) (H₁ := Hb H acc1 K) ?_ rfl)
      subst h0
      rfl
    · rfl
  · obtain ⟨z, hzl⟩ : ∃ z, line.getLast? = some z := ⟨line.getLast h0, List.getLast?_eq_some_getLast h0⟩
    have z9 : z ≠ 9 := fun h => h9 (h ▸ List.mem_of_getLast? hzl)
    have elast : ∀ K', ev g L3 (.idx (.loc 7) (.neg (.lit (.int (1))))) K' = some (.p (.str [z]), K') := fun K' => ev_last rfl hzl hl
    have tst : evT g L3 (.and [(.loc 7), (.cmp .inn (.idx (.loc 7) (.neg (.lit (.int (1))))) (.lit (.str [32, 9])))]) (ev g L3 (.and [(.loc 7), (.cmp .inn (.idx (.loc 7) (.neg (.lit (.int (1))))) (.lit (.str [32, 9])))]) (Hb H acc1 K)) (Hb H acc1 K) = some (decide (z = 32), Hb H acc1 K) := by
      refine evT_and (evC_cons (t := true) (H₁ := Hb H acc1 K) ?_ ?_)
      · have : ev g L3 (.loc 7) (Hb H acc1 K) = some (.p (.str line), Hb H acc1 K) := ev_loc rfl
        simp only [evT_locE, this, Option.bind_some, truV, okl, if_true, truP]
        cases line with
        | nil => exact absurd rfl h0
        | cons _ _ => rfl
      · simp only [if_true]
        refine evC_cons (t := decide (z = 32)) (evT_cmp (elast _) rfl ?_) ?_
        · by_cases h : z = 32 <;> simp [cmpV, h, z9, cmpP, cmpIn, pstr_mk, one_mk, Option.bind_some]
        · by_cases h : z = 32 <;> simp [h, evC_nilE]
    by_cases h32 : z = 32
    · subst h32
      have rne : r ≠ [] := r2 h0
      have rpos : 0 < r.length := List.length_pos_iff.mpr rne
      let rm : Int := (s : Int) - la
      have hrm : rm = (size : Int) + 2 - (r.length : Int) := by simp only [rm, la, s]; lia
      let L4 := Lb bt size eol H.length line ((s : Nat) : Int) la o10' (some (.int rm)) o12
      have s5 : ex g (.asg (.one 11) (.bin .sub (.loc 8) (.loc 9))) L3 (Hb H acc1 K) = some (.next, L4, Hb H acc1 K) := ex_asg (ev_bin (ev_loc rfl) (ev_loc rfl) rfl) rfl
      let q : List Nat := if r.length + 1 ≤ size then [61, 50, 48] else if r.length = size then 32 :: 61 :: eol else 61 :: eol ++ [61, 50, 48]
      have hql : q.length ≤ 20 := by
        simp only [q]
        split
        · simp
        · split <;> simp <;> exact Nat.le_trans ‹_› (by decide)
      let L5 := Lb bt size eol H.length line ((s : Nat) : Int) la o10' (some (.int rm)) (some (.str q))
      have elast4 : ∀ K', ev g L4 (.idx (.loc 7) (.neg (.lit (.int (1))))) K' = some (.p (.str [32]), K') := fun K' => ev_last rfl hzl hl
      have s6 : ex g (.ifs (.cmp .ge (.loc 11) (.lit (.int (3)))) [.asg (.one 12) (.cal 1 [(.idx (.loc 7) (.neg (.lit (.int (1)))))])] [.ifs (.cmp .eq (.loc 11) (.lit (.int (2)))) [.asg (.one 12) (.bin .add (.idx (.loc 7) (.neg (.lit (.int (1))))) (.loc 3))] [.asg (.one 12) (.bin .add (.loc 3) (.cal 1 [(.idx (.loc 7) (.neg (.lit (.int (1)))))]))]]) L4 (Hb H acc1 K) = some (.next, L5, Hb H acc1 K) := by
        by_cases q1 : r.length + 1 ≤ size
        · refine ex_ifT (evT_cmp (ev_loc rfl) rfl (ge_t (by lia))) ?_
          refine exs_step (loc' := L5) (ex_asg (ev_cal (evs_cons (elast4 _) (evs_nil _ _ _)) (hq _)) ?_) Hb_gc rfl
          simp only [L5, q, if_pos q1]
          rfl
        · refine ex_ifF (evT_cmp (ev_loc rfl) rfl (ge_f (by lia))) ?_
          by_cases q2 : r.length = size
          · refine exs_step (loc' := L5) (ex_ifT (evT_cmp (ev_loc rfl) rfl (eqi_t (by lia))) ?_) Hb_gc rfl
            refine exs_step (loc' := L5) (ex_asg (ev_bin (elast4 _) (ev_loc rfl) (z := (.p (.str (32 :: 61 :: eol)), Hb H acc1 K)) (add_strV (by simp; lia))) ?_) Hb_gc rfl
            simp only [L5, q, if_neg q1, if_pos q2]
            rfl
          · refine exs_step (loc' := L5) (ex_ifF (evT_cmp (ev_loc rfl) rfl (eqi_f (by lia))) ?_) Hb_gc rfl
            refine exs_step (loc' := L5) (ex_asg (ev_bin (ev_loc rfl) (ev_cal (evs_cons (elast4 _) (evs_nil _ _ _)) (hq _)) (z := (.p (.str (61 :: eol ++ [61, 50, 48])), Hb H acc1 K)) (add_strV (by simp; exact Nat.le_trans ‹_› (by decide)))) ?_) Hb_gc rfl
            simp only [L5, q, if_neg q1, if_neg q2]
            rfl
      have s7 : ex g (.ex (.app (.loc 6) (.bin .add (.sl (.loc 7) (some (.loc 8)) (some (.neg (.lit (.int (1)))))) (.loc 12)))) L5 (Hb H acc1 K) = some (.next, L5, Hb H (acc ++ (encL size eol line).map P.str) K) := by
        rw [← hend (r.take (r.length - 1) ++ q) (by unfold tailL; rw [if_pos hzl])]
        refine ex_ex (ev_app (ev_loc rfl) (ev_bin (ev_sl (ev_loc rfl) (evo_some (ev_loc rfl)) (evo_some (x := .p (.int (-1))) rfl) (r := (.p (.str (r.take (r.length - 1))), Hb H acc1 K)) ?_) (ev_loc rfl) (z := (.p (.str (r.take (r.length - 1) ++ q)), Hb H acc1 K)) ?_) (Hb_add (acc := acc1) hacc1))
        · have om : oki (-1) = true := by decide
          simp only [slV, bnds, oks, om, if_true, Option.bind_some, okl, pstr_mk, int_mk]
          congr 3
          unfold cut clip
          simp only [Option.map_some, Option.getD_some]
          rw [if_neg (show ¬ ((s : Int) < 0) by lia), if_pos (show (-1 : Int) < 0 by decide), Int.toNat_natCast, Nat.min_eq_left (show s ≤ line.length by exact Nat.sub_le _ _), hdrop, show ((-1 : Int) + (line.length : Int)).toNat - s = r.length - 1 by simp only [s]; lia]
        · exact add_strV (by simp; omega)
      exact ⟨some (.int (s : Int)), some (.int la), o10', some (.int rm), some (.str q), exs_step s1 Hb_gc (exs_step s2 Hb_gc (exs_step (ex_whl hw) Hb_gc (exs_step (ex_ifT (by rw [tst]; simp) (exs_step s5 Hb_gc (exs_step s6 Hb_gc (exs_step s7 Hb_gc rfl)))) Hb_gc rfl)))⟩
    · exact ⟨some (.int (s : Int)), some (.int la), o10', o11, o12, exs_step s1 Hb_gc (exs_step s2 Hb_gc (exs_step (ex_whl hw) Hb_gc (exs_step (ex_ifF (by rw [tst, decide_eq_false h32]) (plainE (by rw [hzl]; intro h; cases h; exact h32 rfl))) Hb_gc rfl)))⟩
end Mine
end
section
open PySem PySem.W PyProof.Rows PyProof.V
set_option Elab.async false
set_option maxRecDepth 20000
set_option linter.unusedSimpArgs false
namespace Mine
noncomputable def trC (n : Nat) : List Nat := if ((32 ≤ n && n ≤ 126 && n != 61) || n == 9 || n == 10 || n == 13) then [n] else hex2 n
theorem tabsX1 : tabsX 1 = ((List.range 256).map trC).map P.str := by
  simp only [tabsX, List.map_map]
  refine List.map_congr_left fun n _ => ?_
  simp only [Function.comp_apply, trC]
  split <;> rfl
theorem pStrs_str (l : List (List Nat)) : pStrs (l.map P.str) = some l := by
  induction l with
  | nil => rfl
  | cons a r ih => simp only [List.map_cons, pStrs, ih, Option.map_some]
theorem trC_all : ((List.range 256).all fun n => (trC n).all (fun c => decide (c < 128)) && !(trC n).isEmpty && decide ((trC n).length ≤ 3) && (n == 9 || !(trC n).contains 9)) = true := by decide +kernel
theorem trC_ok {n : Nat} (h : n < 256) : (∀ c ∈ trC n, c < 128) ∧ trC n ≠ [] ∧ (trC n).length ≤ 3 ∧ (n ≠ 9 → 9 ∉ trC n) := by
  have := List.all_eq_true.mp trC_all n (List.mem_range.mpr h)
  simp only [Bool.and_eq_true, List.all_eq_true, decide_eq_true_eq, Bool.not_eq_true', List.isEmpty_eq_false_iff, Bool.or_eq_true, beq_iff_eq] at this
  obtain ⟨⟨⟨h1, h2⟩, h3⟩, h4⟩ := this
  refine ⟨h1, h2, h3, fun h9 hm => ?_⟩
  rcases h4 with h4 | h4
  · exact h9 h4
  · rw [List.contains_eq_mem, decide_eq_false_iff_not] at h4
    exact h4 hm
theorem sm_translate {l : List Nat} {H : List O} (hl : l.length ≤ 1000) (hc : ∀ c ∈ l, c < 256) : smV tabsX .translate (.p (.str l)) [.glob 1] H = some (.p (.str (l.flatMap trC)), H) := by
  have e : pStrs (tabsX 1) = some ((List.range 256).map trC) := by rw [tabsX1, pStrs_str]
  simp only [smV, e, Option.bind_some, smT, one_mk, gl_mk, pstr_mk]
  rw [if_pos]
  · congr 3
    have key : ∀ l : List Nat, (∀ c ∈ l, c < 256) → (l.flatMap fun c => ((List.range 256).map trC).getD c []) = l.flatMap trC := by
      intro l
      induction l with
      | nil => intro _; rfl
      | cons a r ih =>
        intro h
        have ha := h a (.head _)
        rw [List.flatMap_cons, List.flatMap_cons, ih fun c hc => h c (.tail _ hc)]
        congr 1
        simp [ha]
    exact congrArg P.str (key l hc)
  · simp only [Bool.and_eq_true, List.all_eq_true, decide_eq_true_eq]
    refine ⟨⟨ok_of (by simp; exact Nat.le_trans ‹_› (by decide)), fun c hcm => by simp; exact hc c hcm⟩, fun x hx => ?_⟩
    obtain ⟨n, hn, rfl⟩ := List.mem_map.mp hx
    obtain ⟨_, h2, h3, _⟩ := trC_ok (List.mem_range.mp hn)
    refine ⟨by simpa using h2, by exact Nat.le_trans ‹_› (by decide)⟩
theorem encW_rows {size : Nat} (h3 : 3 ≤ size) : ∀ (f : Nat) (r : List Nat), ∀ x ∈ (encW size f r).1, x.length ≤ size + 1
  | 0, r, x, h => by simp [encW] at h
  | f + 1, r, x, h => by
    unfold encW at h
    split at h
    · rcases List.mem_cons.mp h with rfl | h
      · unfold stepW
        split
        · simp; omega
        · split <;> simp <;> lia
      · exact encW_rows h3 f _ x h
    · simp at h
theorem encL_rows {size : Nat} {eol line : List Nat} (h3 : 3 ≤ size) (he : eol.length ≤ 5) : (∀ x ∈ encL size eol line, x.length ≤ size + 20) ∧ (encL size eol line).length ≤ line.length + 1 := by
  obtain ⟨r1, r2, r4⟩ := encW_rest (size := size) h3 line.length line (Nat.le_refl _)
  refine ⟨fun x hx => ?_, by simp [encL]; lia⟩
  rcases List.mem_append.mp hx with hx | hx
  · have := encW_rows h3 _ _ x hx; lia
  · simp only [List.mem_singleton] at hx
    subst hx
    unfold tailL
    split
    · split
      · simp; lia
      · split <;> simp <;> lia
    · lia
theorem enc_lines {g : G} (hq : ∀ K, g.call 1 [.p (.str [32])] K = some (.p (.str [61, 50, 48]), K)) {bt : List Nat} {size : Nat} {eol : List Nat} {H : List O} {all : List P} (h3 : 3 ≤ size) (hz : size ≤ 500) (he : eol.length ≤ 5) :
    ∀ (ls : List (List Nat)) (acc : List P) (o7 o8 o9 o10 o11 o12 : Option P), (∀ l ∈ ls, l.length ≤ 1000 ∧ 9 ∉ l) → acc.length + (ls.map fun l => l.length + 1).sum ≤ 3000 →
    ∃ o7' o8' o9' o10' o11' o12', forL all (some (H.length + 1)) (.one 7) (fun loc H => exs g lnE loc H) (ls.map P.str) (Lb2 bt size eol H.length o7 o8 o9 o10 o11 o12) (Hb H acc [.list all]) =
      some (.next, Lb2 bt size eol H.length o7' o8' o9' o10' o11' o12', Hb H (acc ++ (ls.flatMap (encL size eol)).map P.str) [.list all]) := by
  have hw : ∀ acc, stays (some (H.length + 1)) all (Hb H acc [.list all]) = true := fun acc => stays_of (by rw [getL_sh]; rfl)
  intro ls
  induction ls with
  | nil => exact fun acc o7 o8 o9 o10 o11 o12 _ _ => ⟨o7, o8, o9, o10, o11, o12, by rw [List.flatMap_nil, List.map_nil, List.append_nil]; exact forL_nil (hw _)⟩
  | cons l ls ih =>
    intro acc o7 o8 o9 o10 o11 o12 h hd
    obtain ⟨h1, h2⟩ := h l (.head _)
    rw [List.map_cons, List.sum_cons] at hd
    obtain ⟨a8, a9, a10, a11, a12, he1⟩ := enc_line (g := g) hq (bt := bt) (size := size) (eol := eol) (line := l) (o8 := o8) (o9 := o9) (o10 := o10) (o11 := o11) (o12 := o12) (H := H) (K := [.list all]) (acc := acc) h3 hz h1 he h2 (by lia)
    have hlen := (encL_rows (size := size) (eol := eol) (line := l) h3 he).2
    obtain ⟨b7, b8, b9, b10, b11, b12, ih⟩ := ih (acc ++ (encL size eol l).map P.str) (some (.str l)) a8 a9 a10 a11 a12 (fun x hx => h x (.tail _ hx)) (by rw [List.length_append, List.length_map]; lia)
    refine ⟨b7, b8, b9, b10, b11, b12, ?_⟩
    rw [List.flatMap_cons, List.map_append, ← List.append_assoc]
    exact forL_go (hw acc) (q := (Lb2 bt size eol H.length (some (.str l)) o8 o9 o10 o11 o12, Hb H acc [.list all])) rfl he1 (.inl rfl) ih
/-- body_encode -/
noncomputable def bodyA (size : Nat) (eol T : List Nat) : List Nat := joinL eol ((lns T).flatMap (encL size eol) ++ if T.getLast? = some 13 ∨ T.getLast? = some 10 then [[]] else [])
theorem sum_le {l : List (List Nat)} {k : Nat} (h : ∀ x ∈ l, x.length ≤ k) : (l.map List.length).sum ≤ l.length * k := by
  induction l with
  | nil => simp
  | cons a r ih =>
    have h1 := h a (.head _)
    have h2 := ih fun x hx => h x (.tail _ hx)
    simp only [List.map_cons, List.sum_cons, List.length_cons, Nat.succ_mul]
    lia
theorem run_body {g : G} (hq : ∀ K, g.call 1 [.p (.str [32])] K = some (.p (.str [61, 50, 48]), K)) (ht : g.tabs = tabsX) {body : List Nat} {size : Nat} {eol : List Nat} {H : List O} (h3 : 3 ≤ size) (hz : size ≤ 300) (he : eol.length ≤ 5) (h0 : body ≠ []) (hc : ∀ c ∈ body, c < 256 ∧ c ≠ 9) (hl : body.length ≤ 200) :
    ∃ loc' K, exs g pb_body_encode [some (.p (.str body)), some (.p (.int ((size : Int) + 1))), some (.p (.str eol)), none, none, none, none, none, none, none, none, none, none] H = some (.ret (.p (.str (bodyA size eol (body.flatMap trC)))), loc', H ++ K) := by
  generalize hT : body.flatMap trC = T
  have hTl : T.length ≤ 600 := by
    rw [← hT]
    have key : ∀ b : List Nat, (∀ c ∈ b, c < 256) → (b.flatMap trC).length ≤ 3 * b.length := by
      intro b
      induction b with
      | nil => simp
      | cons a r ih =>
        intro h
        have h1 := (trC_ok (h a (.head _))).2.2.1
        have h2 := ih fun c hc => h c (.tail _ hc)
        simp only [List.flatMap_cons, List.length_append, List.length_cons]
        lia
    have := key body fun c h => (hc c h).1
    lia
  have hTa : asc T = true := by
    rw [← hT]
    refine List.all_eq_true.mpr fun c hcm => ?_
    obtain ⟨n, hn, hcn⟩ := List.mem_flatMap.mp hcm
    exact decide_eq_true ((trC_ok (hc n hn).1).1 c hcn)
  have hT9 : 9 ∉ T := by
    rw [← hT]
    intro hcm
    obtain ⟨n, hn, hcn⟩ := List.mem_flatMap.mp hcm
    exact (trC_ok (hc n hn).1).2.2.2 (hc n hn).2 hcn
  have hT0 : T ≠ [] := by
    rw [← hT]
    cases body with
    | nil => exact absurd rfl h0
    | cons a r =>
      intro h
      simp only [List.flatMap_cons, List.append_eq_nil_iff] at h
      exact (trC_ok (hc a (.head _)).1).2.1 h.1
  obtain ⟨w1, w2⟩ := lns_w _ T (Nat.le_refl _)
  let all := (lns T).map P.str
  obtain ⟨a7, a8, a9, a10, a11, a12, hloop⟩ := enc_lines (g := g) hq (bt := T) (size := size) (eol := eol) (H := H) (all := all) h3 (by exact Nat.le_trans ‹_› (by decide)) he (lns T) [] none none none none none none (fun l hx => ⟨by have := (w2 l hx).1; lia, fun h => hT9 ((w2 l hx).2 9 h)⟩) (by simp; lia)
  rw [List.nil_append] at hloop
  let rows := (lns T).flatMap (encL size eol)
  have hrl : rows.length ≤ 1200 := by
    have key : ∀ ls : List (List Nat), (ls.flatMap (encL size eol)).length ≤ (ls.map fun x => x.length + 1).sum := by
      intro ls
      induction ls with
      | nil => simp
      | cons a r ih =>
        have := (encL_rows (size := size) (eol := eol) (line := a) h3 he).2
        simp only [List.flatMap_cons, List.length_append, List.map_cons, List.sum_cons]
        lia
    have := key (lns T)
    simp only [rows]
    lia
  have hrs : (rows.map List.length).sum ≤ rows.length * 320 := by
    refine sum_le fun x hx => ?_
    obtain ⟨l, _, hxl⟩ := List.mem_flatMap.mp hx
    have := (encL_rows (size := size) (eol := eol) (line := l) h3 he).1 x hxl
    lia
  let LL : Nat → List (Option V) := fun k => [some (.p (.str T)), some (.p (.int ((size : Int) + 1))), some (.p (.str eol)), if 1 ≤ k then some (.p (.str (61 :: eol))) else none, if 2 ≤ k then some (.p (.int (size : Int))) else none, if 3 ≤ k then some (.ref H.length) else none, if 4 ≤ k then some (.bm H.length) else none, none, none, none, none, none, none]
  let Li : List (Option V) := [some (.p (.str body)), some (.p (.int ((size : Int) + 1))), some (.p (.str eol)), none, none, none, none, none, none, none, none, none, none]
  have t1 : ex g (.ifs (.cmp .lt (.loc 1) (.lit (.int (4)))) [.bad] []) Li H = some (.next, Li, H) := ex_ifF (evT_cmp (ev_loc rfl) rfl (lt_f (by lia))) rfl
  have t2 : ex g (.ifs (.not (.loc 0)) [.ret (.loc 0)] []) Li H = some (.next, Li, H) := ex_ifF ((evT_not rfl (by exact Nat.le_trans ‹_› (by decide))).trans (by simp [h0])) rfl
  have t3 : ex g (.asg (.one 0) (.sm .translate (.loc 0) [(.tab 1)])) Li H = some (.next, LL 0, H) := by
    refine ex_asg (ev_sm (ev_loc rfl) rfl (evs_cons (x := .glob 1) rfl (evs_nil _ _ _)) (z := (.p (.str T), H)) ?_) rfl
    rw [ht, sm_translate (by exact Nat.le_trans ‹_› (by decide)) fun c h => (hc c h).1, hT]
  have t4 : ex g (.asg (.one 3) (.bin .add (.lit (.str [61])) (.loc 2))) (LL 0) H = some (.next, LL 1, H) := ex_asg (ev_bin rfl (ev_loc rfl) (add_strV (by simp; lia))) rfl
  have t5 : ex g (.asg (.one 4) (.bin .sub (.loc 1) (.lit (.int (1))))) (LL 1) H = some (.next, LL 2, H) := by
    refine ex_asg (ev_bin (ev_loc rfl) rfl (z := (.p (.int (size : Int)), H)) ?_) rfl
    simp only [binV, binP, Option.bind_some, pint_mk, pl_mk]
    congr 4
    lia
  have t6 : ex g (.asg (.one 5) (.lst [])) (LL 2) H = some (.next, LL 3, Hb H [] []) := rfl
  have t7 : ex g (.asg (.one 6) (.bnd (.loc 5))) (LL 3) (Hb H [] []) = some (.next, LL 4, Hb H [] []) := by
    refine ex_asg (v := .bm H.length) (H₁ := Hb H [] []) ?_ rfl
    simp only [ev_locE, ev_bndE, LL, List.getElem?_cons_succ, List.getElem?_cons_zero, Option.bind_some, Nat.le_refl, if_true, Hb_get, Option.join_some, rf_mk]
  have t8 : ex g (.fore (.one 7) (.sm .splitlines (.loc 0) []) lnE) (LL 4) (Hb H [] []) = some (.next, Lb2 T size eol H.length a7 a8 a9 a10 a11 a12, Hb H (rows.map P.str) [.list all]) := by
    refine ex_for (v := .ref (H.length + 1)) (H₁ := Hb H [] [.list all]) (ps := all) (w := some (H.length + 1)) (ev_sm (ev_loc rfl) rfl (evs_nil _ _ _) ?_) ?_ hloop
    · simp only [smV, ok_of (show T.length ≤ 1000000 by exact Nat.le_trans ‹_› (by decide)), hTa, Bool.and_self, if_true, smT, nul_mk, pstr_mk, Option.bind_some]
      simp [all]
    · simp only [itemsOf]
      rw [getL_sh]
      rfl
  have hlb : lb (Lb2 T size eol H.length a7 a8 a9 a10 a11 a12) = H.length + 1 := by
    simp only [Lb2, lb_q, lb_pm, lb, vb, Nat.max_self, Nat.max_zero, Nat.zero_max]
  have g8 : gc (Hb H [] []).length (Lb2 T size eol H.length a7 a8 a9 a10 a11 a12) (Hb H (rows.map P.str) [.list all]) = Hb H (rows.map P.str) [] := by
    rw [gc_eq (k := H.length + 1) (by rw [hlb]; simp), take_sh]
    rfl
  obtain ⟨z, hzl⟩ : ∃ z, T.getLast? = some z := ⟨T.getLast hT0, List.getLast?_eq_some_getLast hT0⟩
  let ext : List (List Nat) := if T.getLast? = some 13 ∨ T.getLast? = some 10 then [[]] else []
  have t9 : ex g (.ifs (.cmp .inn (.idx (.loc 0) (.neg (.lit (.int (1))))) (.lit (.str [13, 10]))) [.ex (.app (.loc 6) (.lit (.str [])))] []) (Lb2 T size eol H.length a7 a8 a9 a10 a11 a12) (Hb H (rows.map P.str) []) = some (.next, Lb2 T size eol H.length a7 a8 a9 a10 a11 a12, Hb H ((rows ++ ext).map P.str) []) := by
    by_cases hz : z = 13 ∨ z = 10
    · refine ex_ifT (evT_cmp (ev_last rfl hzl (by exact Nat.le_trans ‹_› (by decide))) rfl (z := true) (by rcases hz with rfl | rfl <;> rfl)) ?_
      have e : (rows ++ ext).map P.str = rows.map P.str ++ [.str []] := by
        simp only [ext, hzl]
        rw [if_pos (by simpa using hz)]
        simp
      rw [e]
      exact exs_step (ex_ex (ev_app (ev_loc rfl) rfl (Hb_add (by rw [List.length_map]; exact Nat.le_trans ‹_› (by decide))))) Hb_gc rfl
    · refine ex_ifF (evT_cmp (ev_last rfl hzl (by exact Nat.le_trans ‹_› (by decide))) rfl (z := false) (by simp [cmpV, cmpP, cmpIn, pstr_mk, one_mk, Option.bind_some]; lia)) ?_
      have e : (rows ++ ext).map P.str = rows.map P.str := by
        simp only [ext, hzl]
        rw [if_neg (by simpa using hz)]
        simp
      rw [e]
      rfl
  have t10 : ex g (.ret (.sm .join (.loc 2) [(.loc 5)])) (Lb2 T size eol H.length a7 a8 a9 a10 a11 a12) (Hb H ((rows ++ ext).map P.str) []) = some (.ret (.p (.str (bodyA size eol T))), Lb2 T size eol H.length a7 a8 a9 a10 a11 a12, Hb H ((rows ++ ext).map P.str) []) := by
    have he2 : ext.length ≤ 1 ∧ (ext.map List.length).sum = 0 := by
      simp only [ext]
      split <;> simp
    have e : ev g (Lb2 T size eol H.length a7 a8 a9 a10 a11 a12) (.sm .join (.loc 2) [(.loc 5)]) (Hb H ((rows ++ ext).map P.str) []) = some (.p (.str (bodyA size eol T)), Hb H ((rows ++ ext).map P.str) []) := by
      refine ev_sm (ev_loc rfl) rfl (evs_cons (ev_loc rfl) (evs_nil _ _ _)) ?_
      simp only [smV, Hb_get, Option.bind_some, pStrs_str, smT, one_mk, lst_mk, pstr_mk]
      rw [if_pos]
      · rfl
      · refine ok_of ?_
        rw [List.map_append, List.sum_append, List.length_append]
        have h1 : (rows.length + ext.length) * eol.length ≤ (rows.length + ext.length) * 5 := Nat.mul_le_mul_left _ he
        lia
    simp only [ex_retE, e, Option.bind_some]
  exact ⟨_, [.list ((rows ++ ext).map P.str)], exs_step t1 (gc_same _ _) (exs_step t2 (gc_same _ _) (exs_step t3 (gc_same _ _) (exs_step t4 (gc_same _ _) (exs_step t5 (gc_same _ _) (exs_step t6 (H'' := Hb H [] []) (gc_top (by simp [LL, lb, vb])) (exs_step t7 (gc_same _ _) (exs_step t8 g8 (exs_step t9 Hb_gc (exs_stop t10 (by simp))))))))))⟩
end Mine
end
section
open PySem PySem.W PyProof.Rows PyProof.V
set_option Elab.async false
set_option maxRecDepth 20000
set_option linter.unusedSimpArgs false
namespace Mine
noncomputable def st0 : T := .asg (.one 1) (.cal 4 [(.loc 0)])
noncomputable def st1 : T := .asgC 3 (.comp [none] (.bin .mod (.loc 0) (.lit (.int (8)))) (.one 0) (.sl (.loc 1) none (some (.lit (.int (3))))) [])
noncomputable def st2 : T := .asg (.one 4) (.bin .add (.lit (.int (3))) (.bin .mod (.idx (.loc 1) (.lit (.int (3)))) (.lit (.int (4)))))
noncomputable def st3 : T := .asg (.one 5) (.idx (.lst [(.lit (.str [105, 102])), (.lit (.str []))]) (.bin .mod (.bin .fdiv (.idx (.loc 1) (.lit (.int (3)))) (.lit (.int (4)))) (.lit (.int (2)))))
noncomputable def st4 : T := .asg (.one 6) (.bin .add (.bin .add (.bin .add (.bin .add (.bin .mul (.lit (.str [32])) (.idx (.loc 3) (.lit (.int (0))))) (.lit (.str [9]))) (.bin .mul (.lit (.str [32])) (.idx (.loc 3) (.lit (.int (1)))))) (.lit (.str [9]))) (.bin .mul (.lit (.str [32])) (.idx (.loc 3) (.lit (.int (2))))))
noncomputable def st5 : T := .asg (.one 7) (.cal 5 [(.loc 3), (.loc 4)])
noncomputable def st6 : T := .ifs (.cmp .eq (.loc 5) (.lit (.str []))) [.asg (.one 8) (.cal 6 [(.idx (.idx (.loc 7) (.neg (.lit (.int (1))))) (.lit (.int (0)))), (.lit (.bool false))])] [.asg (.one 8) (.bin .add (.bin .mul (.lit (.str [32])) (.idx (.idx (.loc 7) (.neg (.lit (.int (1))))) (.lit (.int (0))))) (.loc 5))]
noncomputable def st7 : T := .asg (.one 9) (.cal 2 [(.sm .replace (.bin .add (.loc 6) (.loc 5)) [(.lit (.str [9])), (.lit (.str [10]))]), (.bin .add (.loc 4) (.lit (.int (1))))])
noncomputable def st8 : T := .asg (.one 10) (.sm .split (.loc 9) [(.lit (.str [10]))])
noncomputable def st9 : T := .ifs (.cmp .ne (.loc 10) (.bin .add (.comp [none, none] (.cal 6 [(.loc 0), (.loc 1)]) (.tup [0, 1]) (.sl (.loc 7) none (some (.neg (.lit (.int (1)))))) []) (.lst [(.loc 8)]))) [.ret (.lit (.bool false))] []
noncomputable def st10 : T := .asg (.one 13) (.bi .list [(.bi .range [(.bin .sub (.bi .len [(.loc 7)]) (.lit (.int (1))))])])
noncomputable def st11 : T := .asg (.one 14) (.lst [])
noncomputable def st12 : T := .asg (.one 15) (.lit (.str []))
noncomputable def st13 : T := .asg (.one 16) (.lit (.int (0)))
noncomputable def st14 : T := .fore (.one 2) (.sl (.loc 1) (some (.lit (.int (4)))) none) [.ifs (.cmp .ne (.loc 13) (.lst [])) [.asg (.one 17) (.sm .pop (.loc 13) [(.bin .mod (.loc 2) (.bi .len [(.loc 13)]))]),
  .asg (.tup [11, 12]) (.idx (.loc 7) (.loc 17)),
  .ifs (.not (.loc 12)) [.ex (.sm .append (.loc 14) [(.idx (.loc 10) (.loc 17))]),
  .asg (.one 15) (.bin .add (.bin .add (.loc 15) (.bin .mul (.lit (.str [32])) (.loc 11))) (.lit (.str [9])))] [.ifs (.cmp .eq (.bin .mod (.bin .fdiv (.loc 2) (.lit (.int (8)))) (.lit (.int (3)))) (.lit (.int (0)))) [.ex (.sm .append (.loc 14) [(.sl (.idx (.loc 10) (.loc 17)) none (some (.neg (.lit (.int (1))))))]),
  .asg (.one 15) (.bin .add (.loc 15) (.lit (.str [9]))),
  .asg (.one 16) (.bin .add (.loc 16) (.lit (.int (1))))] [.ex (.sm .append (.loc 14) [(.idx (.loc 10) (.loc 17))]),
  .asg (.one 15) (.bin .add (.loc 15) (.bin .mul (.lit (.str [32])) (.loc 11)))]]] []]
noncomputable def st15 : T := .asg (.one 15) (.bin .add (.loc 15) (.bin .mul (.lit (.str [32])) (.idx (.idx (.loc 7) (.neg (.lit (.int (1))))) (.lit (.int (0))))))
noncomputable def st16 : T := .asg (.one 18) (.cal 3 [(.sm .join (.lit (.str [32, 10])) [(.bin .add (.loc 14) (.lst [(.idx (.loc 10) (.neg (.lit (.int (1)))))]))]), (.lit (.str [9]))])
noncomputable def st17 : T := .ifs (.cmp .ne (.loc 18) (.bin .add (.loc 15) (.loc 5))) [.ret (.lit (.bool false))] []
noncomputable def st18 : T := .asg (.one 19) (.sm .split (.loc 6) [(.lit (.str [9]))])
noncomputable def st19 : T := .asg (.one 20) (.sm .split (.loc 15) [(.lit (.str [9]))])
noncomputable def st20 : T := .asg (.one 21) (.lst [])
noncomputable def st21 : T := .fore (.one 22) (.bi .range [(.lit (.int (1))), (.bin .add (.bi .max [(.comp [none] (.bi .len [(.loc 0)]) (.one 0) (.bin .add (.loc 19) (.loc 20)) [])]) (.lit (.int (2))))]) [.asg (.one 23) (.cal 7 [(.loc 6), (.loc 22)]),
  .ifs (.cmp .eq (.bin .mod (.loc 4) (.loc 22)) (.lit (.int (0)))) [.asg (.one 24) (.bin .sub (.loc 23) (.bin .mul (.bin .sub (.loc 4) (.loc 22)) (.loc 16)))] [.asg (.one 24) (.cal 7 [(.loc 15), (.loc 22)])],
  .ex (.sm .append (.loc 21) [(.tup [(.loc 22), (.loc 23), (.loc 24)])])]
noncomputable def st22 : T := .asg (.one 25) (.new [(.bin .add (.loc 6) (.loc 5))])
noncomputable def st23 : T := .asg (.one 26) (.new [(.loc 18)])
noncomputable def st24 : T := .asg (.one 27) (.mth 14 (Str.ofString "not_equal_witness") (.loc 25) [(.loc 26)])
noncomputable def st25 : T := .ifs (.cmp .ne (.loc 27) (.comp [none] (.loc 0) (.one 0) (.loc 21) [(.cmp .ne (.idx (.loc 0) (.lit (.int (1)))) (.idx (.loc 0) (.lit (.int (2)))))])) [.ret (.lit (.bool false))] []
noncomputable def st26 : T := .ifs (.cmp .ne (.comp2 [none, none] (.loc 1) (.one 0) (.loc 27) (.one 1) (.loc 0) [(.not (.bi .isint [(.loc 1)]))]) (.lst [])) [.ret (.lit (.bool false))] []
noncomputable def st27 : T := .ifs (.cmp .isn (.mth 13 (Str.ofString "equal") (.loc 25) [(.loc 26)]) (.cmp .eq (.bi .sorted [(.sl (.loc 19) none (some (.neg (.lit (.int (1))))))]) (.bi .sorted [(.sl (.loc 20) none (some (.neg (.lit (.int (1))))))]))) [.ret (.lit (.bool false))] []
noncomputable def st28 : T := .asg (.one 28) (.new [(.bin .add (.bin .add (.loc 15) (.lit (.str [32]))) (.loc 5))])
noncomputable def st29 : T := .ifs (.cmp .isn (.mth 13 (Str.ofString "equal") (.loc 25) [(.loc 28)]) (.lit (.bool false))) [.ret (.lit (.bool false))] []
noncomputable def st30 : T := .ifs (.cmp .isn (.mth 15 (Str.ofString "less") (.loc 25) [(.loc 28)]) (.cmp .eq (.comp [none] (.loc 0) (.one 0) (.loc 21) [(.cmp .gt (.idx (.loc 0) (.lit (.int (1)))) (.idx (.loc 0) (.lit (.int (2)))))]) (.lst []))) [.ret (.lit (.bool false))] []
noncomputable def st31 : T := .ifs (.cmp .isn (.mth 15 (Str.ofString "less") (.loc 26) [(.new [(.bin .add (.bin .add (.loc 6) (.lit (.str [32]))) (.loc 5))])]) (.cmp .eq (.comp [none] (.loc 0) (.one 0) (.loc 21) [(.cmp .lt (.idx (.loc 0) (.lit (.int (1)))) (.idx (.loc 0) (.lit (.int (2)))))]) (.lst []))) [.ret (.lit (.bool false))] []
noncomputable def st32 : T := .ifs (.cmp .isn (.mth 15 (Str.ofString "less") (.loc 25) [(.new [(.bin .add (.loc 15) (.lit (.str [120, 32])))])]) (.lit (.bool false))) [.ret (.lit (.bool false))] []
noncomputable def st33 : T := .ifs (.cmp .isn (.mth 15 (Str.ofString "less") (.loc 25) [(.new [(.bin .add (.bin .add (.lit (.str [32])) (.loc 6)) (.loc 5))])]) (.lit (.bool false))) [.ret (.lit (.bool false))] []
noncomputable def st34 : T := .ret (.cmp .is (.mth 15 (Str.ofString "less") (.loc 25) [(.new [(.bin .add (.bin .add (.lit (.str [9])) (.loc 6)) (.loc 5))])]) (.lit (.bool true)))
theorem pb_law_eq : pb_law = [st0, st1, st2, st3, st4, st5, st6, st7, st8, st9, st10, st11, st12, st13, st14, st15, st16, st17, st18, st19, st20, st21, st22, st23, st24, st25, st26, st27, st28, st29, st30, st31, st32, st33, st34] := rfl
theorem exs_app {g : G} : ∀ {A B : List T} {L₀ : List (Option V)} {H₀ : List O} {L H z}, exs g A L₀ H₀ = some (.next, L, H) → exs g B L H = z → exs g (A ++ B) L₀ H₀ = z
  | [], B, L₀, H₀, L, H, z, h, h2 => by
    simp only [exs_nilE, Option.some.injEq, Prod.mk.injEq, true_and] at h
    rw [List.nil_append, h.1, h.2]; exact h2
  | t :: r, B, L₀, H₀, L, H, z, h, h2 => by
    simp only [exs_consE] at h
    obtain ⟨y, hy, h⟩ := Option.bind_eq_some_iff.mp h
    obtain ⟨f, l, K⟩ := y
    cases f with
    | next =>
      simp only [List.cons_append, exs_consE, hy, Option.bind_some]
      exact exs_app (A := r) h h2
    | _ => simp at h
theorem cut_m1 {α : Type} (l : List α) : cut l none (some (-1)) = l.dropLast := by
  unfold cut clip
  simp only [Option.map_none, Option.getD_none, Option.map_some, Option.getD_some, List.drop_zero, Nat.sub_zero]
  rw [if_pos (by decide), List.dropLast_eq_take]
  congr 1
  lia
theorem oki_m1 : oki (-1) = true := by decide
theorem idx_last {tabs : Nat → List P} {H : List O} {r : Nat} {l : List P} {x : P} (h : getL H r = some l) (hx : l.getLast? = some x) : idxV tabs (.ref r) (.p (.int (-1))) H = some (.p x) := by
  have hpos : 0 < l.length := List.length_pos_iff.mpr (by rintro rfl; cases hx)
  have i1 : inIdx (-1) l.length = true := by
    simp [inIdx, oki]
    lia
  have i2 : nIdx (-1) l.length = l.length - 1 := by unfold nIdx; rw [if_pos (by lia)]; lia
  have i3 : l[l.length - 1]? = some x := by rw [← hx, List.getLast?_eq_getElem?]
  simp only [idxV, h, Option.bind_some, i1, if_true, i2, i3, Option.map_some, idxA, int_mk]
theorem idx_list {tabs : Nat → List P} {H : List O} {r i : Nat} {l : List P} {x : P} (h : getL H r = some l) (hx : l[i]? = some x) (hi : i ≤ 1000000) : idxV tabs (.ref r) (.p (.int (i : Int))) H = some (.p x) := by
  have hlt := (List.getElem?_eq_some_iff.mp hx).1
  have i1 : inIdx (i : Int) l.length = true := by
    have : oki (i : Int) = true := oki_nat hi
    simp [inIdx, this, hlt]
  have i2 : nIdx (i : Int) l.length = i := by unfold nIdx; rw [if_neg (by lia)]; rfl
  simp only [idxV, h, Option.bind_some, i1, if_true, i2, hx, Option.map_some, idxA, int_mk]
theorem modV {a b : Nat} {H : List O} (h : 0 < b) : binV .mod (.p (pN a)) (.p (pN b)) H = some (.p (pN (a % b)), H) := by
  have : (0 : Int) < (b : Int) := by lia
  simp only [binV, binP, this, decide_true, if_true, Option.bind_some, modP, pint_mk, pl_mk]
  rfl
theorem fdivV {a b : Nat} {H : List O} (h : 0 < b) (hb : b ≤ 1000000) : binV .fdiv (.p (pN a)) (.p (pN b)) H = some (.p (pN (a / b)), H) := by
  have : (0 : Int) < (b : Int) := by lia
  simp only [binV, binP, this, oki_nat hb, decide_true, Bool.and_self, if_true, Option.bind_some, pint_mk, pl_mk]
  rfl
theorem addN {a b : Nat} {H : List O} : binV .add (.p (pN a)) (.p (pN b)) H = some (.p (pN (a + b)), H) := rfl
theorem numbers1_nat {ns : List Int} : ∃ xs : List Nat, numbers1 ns = xs.map (fun n : Nat => (n : Int)) ∧ xs.length = 12 ∧ ∀ x ∈ xs, x < 1000000 := by
  have h : ∀ x ∈ numbers1 ns, 0 ≤ x ∧ x < 1000000 := by
    intro x hx
    unfold numbers1 at hx
    rcases List.mem_append.mp hx with hx | hx
    · obtain ⟨y, _, rfl⟩ := List.mem_map.mp hx
      exact ⟨Int.emod_nonneg _ (by decide), Int.emod_lt_of_pos _ (by decide)⟩
    · have := List.mem_of_mem_drop hx
      exact of_decide_eq_true (List.all_eq_true.mp (show (fixed1.all fun x => decide (0 ≤ x ∧ x < 1000000)) = true by decide) x this)
  have hl : (numbers1 ns).length = 12 := by
    simp [numbers1, fixed1]
    omega
  refine ⟨(numbers1 ns).map Int.toNat, ?_, by simpa using hl, ?_⟩
  · rw [List.map_map]
    conv => lhs; rw [← List.map_id (numbers1 ns)]
    refine List.map_congr_left fun x hx => ?_
    have := h x hx
    simp
    lia
  · intro x hx
    obtain ⟨y, hy, rfl⟩ := List.mem_map.mp hx
    have := h y hy
    lia
end Mine
end
section
open PySem PySem.W PyProof.Rows PyProof.V
set_option Elab.async false
set_option maxRecDepth 20000
set_option linter.unusedSimpArgs false
namespace Mine
noncomputable def lead1 (p0 p1 p2 : Nat) : List Nat := bl p0 ++ [9] ++ bl p1 ++ [9] ++ bl p2
noncomputable def rows1 (size p0 p1 p2 : Nat) : List (Nat × Bool) := [p0, p1, p2].flatMap (rowsOf size)
noncomputable def last1 (size p2 : Nat) (wd : List Nat) : List Nat := if wd = [] then written (p2 % size) false else bl (p2 % size) ++ wd
noncomputable def body1 (p0 p1 p2 : Nat) (wd : List Nat) : List Nat := joinL [10] (splitG [9] 0 (lead1 p0 p1 p2 ++ wd))
noncomputable def letter1 (size p0 p1 p2 : Nat) (wd : List Nat) : List Nat := bodyA size [10] ((body1 p0 p1 p2 wd).flatMap trC)
noncomputable def wire1 (size p0 p1 p2 : Nat) (wd : List Nat) : List (List Nat) := (rows1 size p0 p1 p2).dropLast.map (fun r => written r.1 r.2) ++ [last1 size p2 wd]
noncomputable def word1 (x : Nat) : List Nat := if x / 4 % 2 = 0 then [105, 102] else []
/-- a comprehension without conditions -/
theorem ev_comp {g : G} {L : List (Option V)} {fr : List (Option Nat)} {elt it : E} {t : Tg} {H H₁ : List O} {v : V} {items : List P} {w : Option Nat} (f : P → Option P) (Gd : List (Option V) → Prop) (hfr : frOk fr L = true) (hit : ev g L it H = some (v, H₁)) (hi : itemsOf v H₁ = some (items, w)) (hw : stays w items H₁ = true) (h0 : Gd (frOf fr L)) (hn : items.length ≤ 1000000) {cs : List E}
    (h : ∀ x ∈ items, ∀ loc acc, Gd loc → acc.length < 1000000 → ∃ loc', Gd loc' ∧ tgt t (.p x) loc (H₁ ++ [.list acc]) = some (loc', H₁ ++ [.list acc]) ∧ ((evC g loc' cs (H₁ ++ [.list acc])).bind fun b => if b.1 then (ev g loc' elt b.2).bind fun v => addTo H₁.length v.1 v.2 else some b.2) = some (H₁ ++ [.list (acc ++ (f x).toList)])) :
    ev g L (.comp fr elt t it cs) H = some (.ref H₁.length, H₁ ++ [.list (items.filterMap f)]) := by
  have hrun := cmpL_run (all := items) (w := w) (t := t) (turn := fun l K => (evC g l cs K).bind fun b => if b.1 then (ev g l elt b.2).bind fun v => addTo H₁.length v.1 v.2 else some b.2) (H := H₁) f Gd hw (items := items) (acc := []) (loc := frOf fr L) h0 (by simpa using hn) h
  rw [ev_compE, if_pos hfr, hit]
  simp only [Option.bind_some, hi]
  rw [hrun]
  simp only [Option.bind_some, List.nil_append]
  rw [List.take_of_length_le (by simp)]
theorem ev_comp0 {g : G} {L : List (Option V)} {fr : List (Option Nat)} {elt it : E} {t : Tg} {H H₁ : List O} {v : V} {items : List P} {w : Option Nat} (f : P → P) (Gd : List (Option V) → Prop) (hfr : frOk fr L = true) (hit : ev g L it H = some (v, H₁)) (hi : itemsOf v H₁ = some (items, w)) (hw : stays w items H₁ = true) (h0 : Gd (frOf fr L)) (hn : items.length ≤ 1000000)
    (h : ∀ x ∈ items, ∀ loc K, Gd loc → ∃ loc', Gd loc' ∧ tgt t (.p x) loc K = some (loc', K) ∧ ev g loc' elt K = some (.p (f x), K)) :
    ev g L (.comp fr elt t it []) H = some (.ref H₁.length, H₁ ++ [.list (items.map f)]) := by
  have := ev_comp (g := g) (L := L) (fr := fr) (elt := elt) (it := it) (t := t) (H := H) (cs := []) (fun x => some (f x)) Gd hfr hit hi hw h0 hn (fun x hx loc acc hl ha => by
    obtain ⟨loc', h1, h2, h3⟩ := h x hx loc (H₁ ++ [.list acc]) hl
    refine ⟨loc', h1, h2, ?_⟩
    simp only [evC_nilE, Option.bind_some, if_true, h3, addTo_last ha]
    rfl)
  rw [this, List.filterMap_eq_map']
noncomputable def LA (ns : List Int) (o5 o6 o8 o9 : Option (List Nat)) (o1 o3 o7 o10 : Option Nat) (o4 : Option Nat) : List (Option V) :=
  [some (.fix (ns.map .int)), o1.map V.ref, none, o3.map V.ref, o4.map (fun n => V.p (pN n)), o5.map (fun l => V.p (.str l)), o6.map (fun l => V.p (.str l)), o7.map V.ref, o8.map (fun l => V.p (.str l)), o9.map (fun l => V.p (.str l)), o10.map V.ref, none, none, none, none, none, none, none, none, none, none, none, none, none, none, none, none, none, none]
theorem partA1 {ns : List Int} (hn : ns.length ≤ 63) {x0 x1 x2 x3 : Nat} {r : List Nat} (hx : numbers1 ns = (x0 :: x1 :: x2 :: x3 :: r).map fun n : Nat => (n : Int)) {k : Nat} :
    exs (pg1.lvl (k + 2)) [st0, st1, st2, st3, st4] (some (.fix (ns.map .int)) :: List.replicate 28 none) [] = some (.next, LA ns (some (word1 x3)) (some (lead1 (x0 % 8) (x1 % 8) (x2 % 8))) none none (some 0) (some 2) none none (some (3 + x3 % 4)), [.list ((x0 :: x1 :: x2 :: x3 :: r).map pN), .list [pN x0, pN x1, pN x2], .list [pN (x0 % 8), pN (x1 % 8), pN (x2 % 8)]]) := by
  let g := pg1.lvl (k + 2)
  let num : List P := (x0 :: x1 :: x2 :: x3 :: r).map pN
  have hnum : (numbers1 ns).map P.int = num := by rw [hx, List.map_map]; rfl
  have hnl : num.length ≤ 1000 := by rw [← hnum]; simp [numbers1, fixed1]; omega
  let L0 : List (Option V) := some (.fix (ns.map .int)) :: List.replicate 28 none
  have s0 : ex g st0 L0 [] = some (.next, LA ns none none none none (some 0) none none none none, [.list num]) := by
    refine ex_asg (ev_cal (evs_cons (ev_loc rfl) (evs_nil _ _ _)) (lvl_call rfl (run_numbers1 hn))) ?_
    rw [hnum]
    rfl
  have s1 : ex g st1 (LA ns none none none none (some 0) none none none none) [.list num] = some (.next, LA ns none none none none (some 0) (some 2) none none none, [.list num, .list [pN x0, pN x1, pN x2], .list [pN (x0 % 8), pN (x1 % 8), pN (x2 % 8)]]) := by
    have hit : ev g (LA ns none none none none (some 0) none none none none) (.sl (.loc 1) none (some (.lit (.int (3))))) [.list num] = some (.ref 1, [.list num, .list [pN x0, pN x1, pN x2]]) := by
      refine ev_sl (ev_loc rfl) (evo_none _ _ _) (evo_some rfl) ?_
      have o3 : oki 3 = true := by decide
      have := cut_take num 3
      simp only [slV, bnds, o3, if_true, Option.bind_some, getL, List.getElem?_cons_zero, ok_of (show num.length ≤ 1000000 by exact Nat.le_trans ‹_› (by decide)), slA, int_mk]
      rw [show (3 : Int) = ((3 : Nat) : Int) from rfl, this]
      rfl
    have e := ev_comp0 (g := g) (fr := [none]) (t := .one 0) (elt := .bin .mod (.loc 0) (.lit (.int (8)))) (w := some 1) (fun p => match p with | .int i => .int (i % 8) | _ => p) (fun l => l.length = 1) (by rfl) hit rfl (stays_of rfl) rfl (by simp) (by
      intro x hx loc K hl
      obtain ⟨o, rfl⟩ := List.length_eq_one_iff.mp hl
      refine ⟨[some (.p x)], rfl, rfl, ?_⟩
      simp only [List.mem_cons, List.not_mem_nil, or_false] at hx
      rcases hx with rfl | rfl | rfl <;> exact ev_bin (ev_loc rfl) rfl rfl)
    show (ev g _ _ _).bind _ = _
    rw [e]
    rfl
  have s2 : ex g st2 (LA ns none none none none (some 0) (some 2) none none none) [.list num, .list [pN x0, pN x1, pN x2], .list [pN (x0 % 8), pN (x1 % 8), pN (x2 % 8)]] = some (.next, LA ns none none none none (some 0) (some 2) none none (some (3 + x3 % 4)), [.list num, .list [pN x0, pN x1, pN x2], .list [pN (x0 % 8), pN (x1 % 8), pN (x2 % 8)]]) := by
    refine ex_asg (ev_bin rfl (ev_bin (ev_idx (ev_loc rfl) rfl (idx_list (i := 3) (x := pN x3) rfl rfl (by decide))) rfl (modV (b := 4) (by decide))) (addN (a := 3))) ?_
    rfl
  have s3 : ex g st3 (LA ns none none none none (some 0) (some 2) none none (some (3 + x3 % 4))) [.list num, .list [pN x0, pN x1, pN x2], .list [pN (x0 % 8), pN (x1 % 8), pN (x2 % 8)]] = some (.next, LA ns (some (word1 x3)) none none none (some 0) (some 2) none none (some (3 + x3 % 4)), [.list num, .list [pN x0, pN x1, pN x2], .list [pN (x0 % 8), pN (x1 % 8), pN (x2 % 8)], .list [.str [105, 102], .str []]]) := by
    have hw : [P.str [105, 102], P.str []][x3 / 4 % 2]? = some (.str (word1 x3)) := by
      unfold word1
      have : x3 / 4 % 2 = 0 ∨ x3 / 4 % 2 = 1 := by lia
      rcases this with h | h <;> rw [h] <;> rfl
    refine ex_asg (ev_idx (x := .ref 3) (H₁ := [.list num, .list [pN x0, pN x1, pN x2], .list [pN (x0 % 8), pN (x1 % 8), pN (x2 % 8)], .list [.str [105, 102], .str []]]) rfl (ev_bin (ev_bin (ev_idx (ev_loc rfl) rfl (idx_list (i := 3) (x := pN x3) rfl rfl (by decide))) rfl (fdivV (b := 4) (by decide) (by decide))) rfl (modV (b := 2) (by decide))) (idx_list rfl hw (by lia))) ?_
    rfl
  have s4 : ex g st4 (LA ns (some (word1 x3)) none none none (some 0) (some 2) none none (some (3 + x3 % 4))) [.list num, .list [pN x0, pN x1, pN x2], .list [pN (x0 % 8), pN (x1 % 8), pN (x2 % 8)]] = some (.next, LA ns (some (word1 x3)) (some (lead1 (x0 % 8) (x1 % 8) (x2 % 8))) none none (some 0) (some 2) none none (some (3 + x3 % 4)), [.list num, .list [pN x0, pN x1, pN x2], .list [pN (x0 % 8), pN (x1 % 8), pN (x2 % 8)]]) := by
    have b0 : x0 % 8 < 8 := Nat.mod_lt _ (by decide)
    have b1 : x1 % 8 < 8 := Nat.mod_lt _ (by decide)
    have b2 : x2 % 8 < 8 := Nat.mod_lt _ (by decide)
    refine ex_asg (ev_bin (ev_bin (ev_bin (ev_bin (ev_bin rfl (ev_idx (ev_loc rfl) rfl (idx_list (i := 0) (x := pN (x0 % 8)) rfl rfl (by decide))) (mul_blV (by exact Nat.le_of_lt (Nat.lt_of_lt_of_le ‹_› (by decide))))) rfl (add_strV (by simp; exact Nat.le_of_lt (Nat.lt_of_lt_of_le ‹_› (by decide))))) (ev_bin rfl (ev_idx (ev_loc rfl) rfl (idx_list (i := 1) (x := pN (x1 % 8)) rfl rfl (by decide))) (mul_blV (by exact Nat.le_of_lt (Nat.lt_of_lt_of_le ‹_› (by decide))))) (add_strV (by simp; lia))) rfl (add_strV (by simp; lia))) (ev_bin rfl (ev_idx (ev_loc rfl) rfl (idx_list (i := 2) (x := pN (x2 % 8)) rfl rfl (by decide))) (mul_blV (by exact Nat.le_of_lt (Nat.lt_of_lt_of_le ‹_› (by decide))))) (add_strV (by simp; lia))) ?_
    rfl
  exact exs_step s0 (gc_top (by simp [LA, lb, vb])) (exs_step s1 (gc_top (by simp [LA, lb, vb])) (exs_step s2 (gc_same _ _) (exs_step s3 (by simp [gc, LA, lb, vb]) (exs_step s4 (gc_same _ _) rfl))))
end Mine
end
section
open PySem PySem.W PyProof.Rows PyProof.V
set_option Elab.async false
set_option maxRecDepth 20000
set_option linter.unusedSimpArgs false
namespace Mine
theorem split_hit (c : Nat) (r : List Nat) : splitG [c] 0 (c :: r) = [] :: splitG [c] 0 r := by
  rw [splitG, if_pos (by simp)]; rfl
theorem split_miss {c a : Nat} {r : List Nat} (h : a ≠ c) : splitG [c] 0 (a :: r) = match splitG [c] 0 r with | [] => [[a]] | x :: q => (a :: x) :: q := by
  rw [splitG, if_neg (by simp; exact fun h' => h h'.symm)] <;> (cases splitG [c] 0 r <;> rfl)
theorem split_cons {c : Nat} : ∀ {a r : List Nat}, c ∉ a → splitG [c] 0 (a ++ c :: r) = a :: splitG [c] 0 r
  | [], r, _ => split_hit c r
  | x :: a, r, h => by
    rw [List.cons_append, split_miss (a := x) (fun e => h (by subst e; exact .head _)), split_cons (a := a) fun hm => h (.tail _ hm)]
theorem split_end {c : Nat} : ∀ {a : List Nat}, c ∉ a → splitG [c] 0 a = [a]
  | [], _ => rfl
  | x :: a, h => by
    rw [split_miss (a := x) (fun e => h (by subst e; exact .head _)), split_end (a := a) fun hm => h (.tail _ hm)]
theorem join_cons {s a : List Nat} {r : List (List Nat)} (h : r ≠ []) : joinL s (a :: r) = a ++ s ++ joinL s r := by
  cases r with
  | nil => exact absurd rfl h
  | cons b r => rfl
theorem split_join {c : Nat} : ∀ {ls : List (List Nat)}, ls ≠ [] → (∀ l ∈ ls, c ∉ l) → splitG [c] 0 (joinL [c] ls) = ls
  | [], h, _ => absurd rfl h
  | [a], _, h => split_end (h a (.head _))
  | a :: b :: r, _, h => by
    rw [join_cons (by simp), List.append_assoc, List.singleton_append, split_cons (h a (.head _)), split_join (by simp) fun l hl => h l (.tail _ hl)]
theorem join_app {s : List Nat} : ∀ {A B : List (List Nat)}, A ≠ [] → B ≠ [] → joinL s (A ++ B) = joinL s A ++ s ++ joinL s B
  | [], B, h, _ => absurd rfl h
  | [a], B, _, hB => by rw [List.singleton_append, join_cons hB]; rfl
  | a :: b :: r, B, _, hB => by
    rw [List.cons_append, join_cons (by simp), join_cons (by simp), join_app (A := b :: r) (by simp) hB]
    simp
theorem bl_mem {c n : Nat} (h : c ∈ bl n) : c = 32 := (List.mem_replicate.mp h).2
noncomputable def okW (wd : List Nat) : Prop := wd = [105, 102] ∨ wd = []
theorem okW_word (x : Nat) : okW (word1 x) := by unfold word1 okW; split <;> simp
theorem okW_mem {wd : List Nat} (h : okW wd) {c : Nat} (hc : c ∈ wd) : c = 105 ∨ c = 102 := by
  rcases h with rfl | rfl
  · simpa using hc
  · cases hc
theorem body1_eq {p0 p1 p2 : Nat} {wd : List Nat} (hw : okW wd) : body1 p0 p1 p2 wd = bl p0 ++ 10 :: (bl p1 ++ 10 :: (bl p2 ++ wd)) := by
  have n9 : ∀ n, 9 ∉ bl n := fun n h => by have := bl_mem h; contradiction
  have n9w : 9 ∉ bl p2 ++ wd := fun h => by
    rcases List.mem_append.mp h with h | h
    · exact n9 _ h
    · have := okW_mem hw h; contradiction
  have e : lead1 p0 p1 p2 ++ wd = bl p0 ++ 9 :: (bl p1 ++ 9 :: (bl p2 ++ wd)) := by simp [lead1]
  unfold body1
  rw [e, split_cons (n9 _), split_cons (n9 _), split_end n9w]
  simp [joinL]
theorem trC_id : ∀ l : List Nat, (∀ c ∈ l, c = 32 ∨ c = 10 ∨ c = 105 ∨ c = 102) → l.flatMap trC = l := by
  intro l
  induction l with
  | nil => intro _; rfl
  | cons a r ih =>
    intro h
    rw [List.flatMap_cons, ih fun c hc => h c (.tail _ hc)]
    have := h a (.head _)
    have e : trC a = [a] := by rcases this with rfl | rfl | rfl | rfl <;> rfl
    rw [e]; rfl
theorem lns_end : ∀ {l : List Nat}, l ≠ [] → (∀ c ∈ l, isNl c = false) → lns l = [l]
  | [], h, _ => absurd rfl h
  | [a], _, h => by rw [lns_sign (h a (.head _))]; rfl
  | a :: b :: r, _, h => by
    rw [lns_sign (h a (.head _)), lns_end (l := b :: r) (by simp) fun c hc => h c (.tail _ hc)]
    rfl
theorem lns_10 : ∀ {l r : List Nat}, (∀ c ∈ l, isNl c = false) → lns (l ++ 10 :: r) = l :: lns r
  | [], r, _ => lns_brk rfl (by simp)
  | a :: l, r, h => by
    rw [List.cons_append, lns_sign (h a (.head _)), lns_10 fun c hc => h c (.tail _ hc)]
    rfl
theorem nl_bl (n : Nat) : ∀ c ∈ bl n, isNl c = false := fun c h => by rw [bl_mem h]; rfl
theorem enc_ok : ((List.range 7).all fun size => decide (size < 3) || (List.range 8).all fun b =>
    (joinL [10] (encL size [10] (bl b)) == joinL [10] ((rowsOf size b).map fun r => written r.1 r.2)) &&
    (joinL [10] (encL size [10] (bl b ++ [105, 102])) == joinL [10] ((rowsOf size b).dropLast.map (fun r => written r.1 r.2) ++ [bl (b % size) ++ [105, 102]]))) = true := by decide +kernel
theorem enc_bl {size b : Nat} (h3 : 3 ≤ size) (h6 : size ≤ 6) (hb : b < 8) : joinL [10] (encL size [10] (bl b)) = joinL [10] ((rowsOf size b).map fun r => written r.1 r.2) ∧
    joinL [10] (encL size [10] (bl b ++ [105, 102])) = joinL [10] ((rowsOf size b).dropLast.map (fun r => written r.1 r.2) ++ [bl (b % size) ++ [105, 102]]) := by
  have h := List.all_eq_true.mp enc_ok size (List.mem_range.mpr (by exact Nat.lt_succ_of_le ‹_›))
  rw [decide_eq_false (by lia), Bool.false_or] at h
  have h := List.all_eq_true.mp h b (List.mem_range.mpr hb)
  simp only [Bool.and_eq_true, beq_iff_eq] at h
  exact h
theorem encL_ne (size : Nat) (eol line : List Nat) : encL size eol line ≠ [] := by unfold encL; simp
theorem rowsOf_drop (size b : Nat) : (rowsOf size b).dropLast = List.replicate (b / size) (size, true) := by unfold rowsOf; simp
theorem rowsOf_ne (size b : Nat) : rowsOf size b ≠ [] := by unfold rowsOf; simp
theorem enc_last {size p2 : Nat} {wd : List Nat} (hw : okW wd) (h3 : 3 ≤ size) (h6 : size ≤ 6) (hb : p2 < 8) : joinL [10] (encL size [10] (bl p2 ++ wd)) = joinL [10] ((rowsOf size p2).dropLast.map (fun r => written r.1 r.2) ++ [last1 size p2 wd]) := by
  obtain ⟨e1, e2⟩ := enc_bl h3 h6 hb
  unfold last1
  rcases hw with rfl | rfl
  · rw [e2, if_neg (by simp)]
  · rw [List.append_nil, e1, if_pos rfl, rowsOf_drop]
    simp [rowsOf]
theorem getLast_app {a b : List Nat} (h : b ≠ []) : (a ++ b).getLast? = b.getLast? := by
  rw [List.getLast?_append, List.getLast?_eq_some_getLast h]; rfl
theorem getLast_cons {x : Nat} {b : List Nat} (h : b ≠ []) : (x :: b).getLast? = b.getLast? := getLast_app (a := [x]) h
theorem wire1_eq (size p0 p1 p2 : Nat) (wd : List Nat) : wire1 size p0 p1 p2 wd = (rowsOf size p0).map (fun r => written r.1 r.2) ++ ((rowsOf size p1).map (fun r => written r.1 r.2) ++ ((rowsOf size p2).dropLast.map (fun r => written r.1 r.2) ++ [last1 size p2 wd])) := by
  unfold wire1 rows1
  simp only [List.flatMap_cons, List.flatMap_nil, List.append_nil]
  rw [List.dropLast_append_of_ne_nil (by simp [rowsOf_ne]), List.dropLast_append_of_ne_nil (rowsOf_ne _ _), List.map_append, List.map_append, List.append_assoc, List.append_assoc]
theorem letter_eq {size p0 p1 p2 : Nat} {wd : List Nat} (hw : okW wd) (h3 : 3 ≤ size) (h6 : size ≤ 6) (b0 : p0 < 8) (b1 : p1 < 8) (b2 : p2 < 8) : letter1 size p0 p1 p2 wd = joinL [10] (wire1 size p0 p1 p2 wd) := by
  have hT : (body1 p0 p1 p2 wd).flatMap trC = bl p0 ++ 10 :: (bl p1 ++ 10 :: (bl p2 ++ wd)) := by
    rw [trC_id _ ?_, body1_eq hw]
    intro c hc
    rw [body1_eq hw] at hc
    simp only [List.mem_append, List.mem_cons] at hc
    rcases hc with h | rfl | h | rfl | h | h
    · exact .inl (bl_mem h)
    · lia
    · exact .inl (bl_mem h)
    · lia
    · exact .inl (bl_mem h)
    · have := okW_mem hw h; lia
  have hrows : ((lns (bl p0 ++ 10 :: (bl p1 ++ 10 :: (bl p2 ++ wd)))).flatMap (encL size [10]) ++ if (bl p0 ++ 10 :: (bl p1 ++ 10 :: (bl p2 ++ wd))).getLast? = some 13 ∨ (bl p0 ++ 10 :: (bl p1 ++ 10 :: (bl p2 ++ wd))).getLast? = some 10 then [[]] else []) = encL size [10] (bl p0) ++ (encL size [10] (bl p1) ++ encL size [10] (bl p2 ++ wd)) := by
    rw [lns_10 (nl_bl _), lns_10 (nl_bl _)]
    by_cases h0 : bl p2 ++ wd = []
    · rw [h0]
      rw [getLast_app (by simp), getLast_cons (by simp), getLast_app (by simp)]
      simp [lns]
      rfl
    · have hnl : ∀ c ∈ bl p2 ++ wd, isNl c = false := fun c hc => by
        rcases List.mem_append.mp hc with h | h
        · exact nl_bl _ c h
        · rcases okW_mem hw h with rfl | rfl <;> rfl
      rw [lns_end h0 hnl, if_neg]
      · simp
      · have hg : (bl p0 ++ 10 :: (bl p1 ++ 10 :: (bl p2 ++ wd))).getLast? = (bl p2 ++ wd).getLast? := by
          rw [getLast_app (by simp), getLast_cons (by simp), getLast_app (by simp), getLast_cons h0]
        rw [hg]
        rintro (h | h)
        · have := hnl _ (List.mem_of_getLast? h); cases this
        · have := hnl _ (List.mem_of_getLast? h); cases this
  unfold letter1 bodyA
  rw [hT, hrows, join_app (encL_ne _ _ _) (by simp [encL_ne]), join_app (encL_ne _ _ _) (encL_ne _ _ _), (enc_bl h3 h6 b0).1, (enc_bl h3 h6 b1).1, enc_last hw h3 h6 b2]
  rw [wire1_eq, join_app (A := (rowsOf size p0).map fun r => written r.1 r.2) (by simp [rowsOf_ne]) (by simp), join_app (A := (rowsOf size p1).map fun r => written r.1 r.2) (by simp [rowsOf_ne]) (by simp)]
theorem written_no {b : Nat} {s : Bool} {c : Nat} (h : c ∈ written b s) : c = 32 ∨ c = 61 ∨ c = 50 ∨ c = 48 := by
  unfold written at h
  split at h
  · rcases List.mem_append.mp h with h | h
    · exact .inl (bl_mem h)
    · simp at h; lia
  · split at h
    · cases h
    · rcases List.mem_append.mp h with h | h
      · exact .inl (bl_mem h)
      · simp at h; lia
theorem last_no {size p2 : Nat} {wd : List Nat} (hw : okW wd) {c : Nat} (h : c ∈ last1 size p2 wd) : c = 32 ∨ c = 61 ∨ c = 50 ∨ c = 48 ∨ c = 105 ∨ c = 102 := by
  unfold last1 at h
  split at h
  · have := written_no h; lia
  · rcases List.mem_append.mp h with h | h
    · exact .inl (bl_mem h)
    · have := okW_mem hw h; lia
theorem wire_no {size p0 p1 p2 : Nat} {wd : List Nat} (hw : okW wd) {l : List Nat} (hl : l ∈ wire1 size p0 p1 p2 wd) {c : Nat} (h : c ∈ l) : c = 32 ∨ c = 61 ∨ c = 50 ∨ c = 48 ∨ c = 105 ∨ c = 102 := by
  rcases List.mem_append.mp hl with hl | hl
  · obtain ⟨r, _, rfl⟩ := List.mem_map.mp hl
    have := written_no h; lia
  · simp at hl; subst hl; exact last_no hw h
theorem wire_eq {size p0 p1 p2 : Nat} {wd : List Nat} (hw : okW wd) (h3 : 3 ≤ size) (h6 : size ≤ 6) (b0 : p0 < 8) (b1 : p1 < 8) (b2 : p2 < 8) : splitG [10] 0 (letter1 size p0 p1 p2 wd) = wire1 size p0 p1 p2 wd := by
  rw [letter_eq hw h3 h6 b0 b1 b2, split_join (by simp [wire1])]
  intro l hl h
  have := wire_no hw hl h
  contradiction
end Mine
end
section
open PySem PySem.W PyProof.Rows PyProof.V
set_option Elab.async false
set_option maxRecDepth 20000
set_option linter.unusedSimpArgs false
namespace Mine
theorem run_be {k : Nat} {body : List Nat} {size : Nat} {H : List O} (h3 : 3 ≤ size) (hz : size ≤ 300) (h0 : body ≠ []) (hc : ∀ c ∈ body, c < 256 ∧ c ≠ 9) (hl : body.length ≤ 200) :
    runF (pg1.lvl (k + 1)) pF_body_encode [.p (.str body), .p (.int ((size : Int) + 1))] H = some (.p (.str (bodyA size [10] (body.flatMap trC))), H) := by
  obtain ⟨loc', K, h⟩ := run_body (g := pg1.lvl (k + 1)) (fun K => lvl_call (f := 1) rfl run_quote) (lvl_tabs _) (body := body) (size := size) (eol := [10]) (H := H) h3 hz (by decide) h0 hc hl
  exact runF_ret (v := .p (.str (bodyA size [10] (body.flatMap trC)))) rfl h (by simp [tidy])
theorem okAt_strs {ls : List (List Nat)} {n : Nat} (h : ∀ l ∈ ls, ∀ c ∈ l, c < 0x110000) : (ls.map P.str).all (P.okAt n) = true := by
  rw [List.all_eq_true]
  intro x hx
  obtain ⟨l, hl, rfl⟩ := List.mem_map.mp hx
  simp only [okAt_str, List.all_eq_true, decide_eq_true_eq]
  exact h l hl
theorem beqs_refl (l : List P) : beqs l l = true := (beqs_iff l l).mpr rfl
theorem cmp_neV {H : List O} {r q : Nat} {x y : List P} (h1 : getL H r = some x) (h2 : getL H q = some y) (k1 : x.all (P.okAt 7) = true) (k2 : y.all (P.okAt 7) = true) : cmpV .ne (.ref r) (.ref q) H = some (!beqs x y) := by
  simp only [cmpV, h1, h2, Option.bind_some, k1, k2, Bool.and_self, if_true, cmpR, lst_mk]
theorem cmp_eqV {H : List O} {r q : Nat} {x y : List P} (h1 : getL H r = some x) (h2 : getL H q = some y) (k1 : x.all (P.okAt 7) = true) (k2 : y.all (P.okAt 7) = true) : cmpV .eq (.ref r) (.ref q) H = some (beqs x y) := by
  simp only [cmpV, h1, h2, Option.bind_some, k1, k2, Bool.and_self, if_true, cmpR, lst_mk]
theorem rowsOf_len {size b : Nat} (h3 : 3 ≤ size) (hb : b < 8) : (rowsOf size b).length ≤ 3 := by
  have : b / size ≤ 2 := by
    have := Nat.div_le_div_left h3 (show 0 < 3 by decide) (a := b)
    lia
  simp [rowsOf]; omega
theorem rows1_eq (size p0 p1 p2 : Nat) : rows1 size p0 p1 p2 = rowsOf size p0 ++ (rowsOf size p1 ++ rowsOf size p2) := by simp [rows1]
theorem rows1_len {size p0 p1 p2 : Nat} (h3 : 3 ≤ size) (b0 : p0 < 8) (b1 : p1 < 8) (b2 : p2 < 8) : (rows1 size p0 p1 p2).length ≤ 9 := by
  have a0 := rowsOf_len h3 b0
  have a1 := rowsOf_len h3 b1
  have a2 := rowsOf_len h3 b2
  simp [rows1_eq]; lia
theorem rows1_last {size p0 p1 p2 : Nat} : (rows1 size p0 p1 p2).getLast? = some (p2 % size, false) := by
  have : rows1 size p0 p1 p2 = (rowsOf size p0 ++ (rowsOf size p1 ++ List.replicate (p2 / size) (size, true))) ++ [(p2 % size, false)] := by simp [rows1_eq, rowsOf]
  rw [this, List.getLast?_append]; rfl
theorem rows1_mem {size p0 p1 p2 : Nat} (h6 : size ≤ 6) (h3 : 3 ≤ size) {r : Nat × Bool} (h : r ∈ rows1 size p0 p1 p2) : r.1 ≤ 6 ∧ (r.2 = true → r.1 = size) ∧ (r.2 = false → r.1 < size) := by
  have key : ∀ b, r ∈ rowsOf size b → r.1 ≤ 6 ∧ (r.2 = true → r.1 = size) ∧ (r.2 = false → r.1 < size) := by
    intro b hb
    have := Nat.mod_lt b (show 0 < size by lia)
    rcases List.mem_append.mp hb with hb | hb
    · obtain ⟨_, rfl⟩ := List.mem_replicate.mp hb
      exact ⟨h6, fun _ => rfl, fun h => Bool.noConfusion h⟩
    · simp at hb; subst hb
      exact ⟨by show b % size ≤ 6; lia, fun h => Bool.noConfusion h, fun _ => this⟩
  rw [rows1_eq] at h
  rcases List.mem_append.mp h with h | h
  · exact key _ h
  · rcases List.mem_append.mp h with h | h
    · exact key _ h
    · exact key _ h
theorem lead1_len {p0 p1 p2 : Nat} : (lead1 p0 p1 p2).length = p0 + p1 + p2 + 2 := by simp [lead1]; lia
theorem okW_len {wd : List Nat} (h : okW wd) : wd.length ≤ 2 := by rcases h with rfl | rfl <;> simp
theorem lenTwo {α : Type} {l : List α} (h : l.length = 2) : ∃ a b, l = [a, b] := by
  cases l with
  | nil => cases h
  | cons a r =>
    obtain ⟨b, rfl⟩ := List.length_eq_one_iff.mp (Nat.succ.inj h)
    exact ⟨a, b, rfl⟩
/-- a row's text, as the letter has it -/
noncomputable def wrP (p : P) : P := ((p.tup?.bind two).bind fun q => q.1.int?.bind fun b => q.2.bool?.map fun s => P.str (written b.toNat s)).getD p
theorem partA2 {ns : List Int} {p0 p1 p2 size : Nat} {wd : List Nat} {num sl : List P} {k : Nat} (hw : okW wd) (h3 : 3 ≤ size) (h6 : size ≤ 6) (b0 : p0 < 8) (b1 : p1 < 8) (b2 : p2 < 8) :
    exs (pg1.lvl (k + 2)) [st5, st6, st7, st8, st9] (LA ns (some wd) (some (lead1 p0 p1 p2)) none none (some 0) (some 2) none none (some size)) [.list num, .list sl, .list [pN p0, pN p1, pN p2]] =
      some (.next, LA ns (some wd) (some (lead1 p0 p1 p2)) (some (last1 size p2 wd)) (some (letter1 size p0 p1 p2 wd)) (some 0) (some 2) (some 3) (some 4) (some size), [.list num, .list sl, .list [pN p0, pN p1, pN p2], .list ((rows1 size p0 p1 p2).map rowP), .list ((wire1 size p0 p1 p2 wd).map P.str)]) := by
  let g := pg1.lvl (k + 2)
  let rows := rows1 size p0 p1 p2
  have hrl : rows.length ≤ 9 := rows1_len h3 b0 b1 b2
  have hlast : (rows.map rowP).getLast? = some (rowP (p2 % size, false)) := by rw [List.getLast?_map, rows1_last]; rfl
  have hp2 : p2 % size ≤ 6 := by have := Nat.mod_lt p2 (show 0 < size by lia); lia
  let H3 : List O := [.list num, .list sl, .list [pN p0, pN p1, pN p2]]
  let H4 : List O := [.list num, .list sl, .list [pN p0, pN p1, pN p2], .list (rows.map rowP)]
  have wl := okW_len hw
  have s5 : ex g st5 (LA ns (some wd) (some (lead1 p0 p1 p2)) none none (some 0) (some 2) none none (some size)) H3 = some (.next, LA ns (some wd) (some (lead1 p0 p1 p2)) none none (some 0) (some 2) (some 3) none (some size), H4) := by
    refine ex_asg (ev_cal (evs_cons (ev_loc rfl) (evs_cons (ev_loc rfl) (evs_nil _ _ _))) (lvl_call rfl (run_rows (parts := [p0, p1, p2]) rfl (by lia) (by exact Nat.le_trans ‹_› (by decide)) (fun b hb => ?_) (by simp)))) rfl
    simp at hb
    lia
  have hln : ∀ L : List (Option V), L[7]? = some (some (.ref 3)) → ev g L (.idx (.idx (.loc 7) (.neg (.lit (.int (1))))) (.lit (.int (0)))) H4 = some (.p (pN (p2 % size)), H4) := fun L hL =>
    ev_idx (ev_idx (ev_loc hL) ev_m1 (idx_last rfl hlast)) rfl rfl
  have s6 : ex g st6 (LA ns (some wd) (some (lead1 p0 p1 p2)) none none (some 0) (some 2) (some 3) none (some size)) H4 = some (.next, LA ns (some wd) (some (lead1 p0 p1 p2)) (some (last1 size p2 wd)) none (some 0) (some 2) (some 3) none (some size), H4) := by
    by_cases h0 : wd = []
    · refine ex_ifT (evT_cmp (ev_loc rfl) rfl (z := true) (by simp [cmpV, eqP, h0, cmpP, pstr_mk, Option.bind_some])) ?_
      refine exs_step (ex_asg (ev_cal (evs_cons (hln _ rfl) (evs_cons rfl (evs_nil _ _ _))) (lvl_call rfl (run_written (s := false) (by exact Nat.le_trans ‹_› (by decide))))) rfl) (gc_same _ _) ?_
      unfold last1
      rw [if_pos h0]
      rfl
    · refine ex_ifF (evT_cmp (ev_loc rfl) rfl (z := false) (by simp [cmpV, eqP, h0, cmpP, pstr_mk, Option.bind_some])) ?_
      refine exs_step (ex_asg (ev_bin (ev_bin rfl (hln _ rfl) (mul_blV (by exact Nat.le_trans ‹_› (by decide)))) (ev_loc rfl) (add_strV (by simp; lia))) rfl) (gc_same _ _) ?_
      unfold last1
      rw [if_neg h0]
      rfl
  have s7 : ex g st7 (LA ns (some wd) (some (lead1 p0 p1 p2)) (some (last1 size p2 wd)) none (some 0) (some 2) (some 3) none (some size)) H4 = some (.next, LA ns (some wd) (some (lead1 p0 p1 p2)) (some (last1 size p2 wd)) (some (letter1 size p0 p1 p2 wd)) (some 0) (some 2) (some 3) none (some size), H4) := by
    have hbody := body1_eq (p0 := p0) (p1 := p1) (p2 := p2) hw
    have hrep : ev g (LA ns (some wd) (some (lead1 p0 p1 p2)) (some (last1 size p2 wd)) none (some 0) (some 2) (some 3) none (some size)) (.sm .replace (.bin .add (.loc 6) (.loc 5)) [(.lit (.str [9])), (.lit (.str [10]))]) H4 = some (.p (.str (body1 p0 p1 p2 wd)), H4) := by
      refine ev_sm (ev_bin (ev_loc rfl) (ev_loc rfl) (add_strV (by rw [lead1_len]; lia))) rfl (evs_cons rfl (evs_cons rfl (evs_nil _ _ _))) ?_
      have : ok (((lead1 p0 p1 p2 ++ wd).length + 1) * 2) = true := ok_of (by rw [List.length_append, lead1_len]; lia)
      simp only [smV, List.length_cons, List.length_nil, Nat.zero_add, Nat.reduceAdd, this, List.isEmpty_cons, Bool.not_false, Bool.and_self, if_true, smT, two_mk, str_mk, pstr_mk, Option.bind_some]
      rfl
    refine ex_asg (ev_cal (evs_cons hrep (evs_cons (ev_bin (ev_loc rfl) rfl rfl) (evs_nil _ _ _))) (lvl_call rfl (run_be h3 (by exact Nat.le_trans ‹_› (by decide)) ?_ ?_ ?_))) rfl
    · rw [hbody]; simp
    · intro c hc
      rw [hbody] at hc
      simp only [List.mem_append, List.mem_cons] at hc
      rcases hc with h | rfl | h | rfl | h | h
      · have := bl_mem h; lia
      · lia
      · have := bl_mem h; lia
      · lia
      · have := bl_mem h; lia
      · have := okW_mem hw h; lia
    · rw [hbody]; simp; lia
  have hwire := wire_eq (p0 := p0) (p1 := p1) (p2 := p2) hw h3 h6 b0 b1 b2
  let L8 := LA ns (some wd) (some (lead1 p0 p1 p2)) (some (last1 size p2 wd)) (some (letter1 size p0 p1 p2 wd)) (some 0) (some 2) (some 3) (some 4) (some size)
  let H5 : List O := [.list num, .list sl, .list [pN p0, pN p1, pN p2], .list (rows.map rowP), .list ((wire1 size p0 p1 p2 wd).map P.str)]
  have hwl : ∀ l ∈ wire1 size p0 p1 p2 wd, l.length ≤ 20 := by
    intro l hl
    rcases List.mem_append.mp hl with hl | hl
    · obtain ⟨r, hr, rfl⟩ := List.mem_map.mp hl
      have := (rows1_mem h6 h3 ((List.dropLast_sublist _).subset hr)).1
      unfold written
      split
      · simp; exact Nat.le_trans ‹_› (by decide)
      · split <;> simp; exact Nat.le_trans ‹_› (by decide)
    · simp at hl; subst hl
      unfold last1 written
      simp only [Bool.false_eq_true, if_false]
      split
      · split <;> simp; exact Nat.le_trans ‹_› (by decide)
      · simp; lia
  have hlet : (letter1 size p0 p1 p2 wd).length ≤ 1000 := by
    have hjl : ∀ ls : List (List Nat), (∀ l ∈ ls, l.length ≤ 20) → (joinL [10] ls).length ≤ 21 * ls.length := by
      intro ls
      induction ls with
      | nil => simp [joinL]
      | cons a r ih =>
        intro h
        have h1 := h a (.head _)
        have h2 := ih fun l hl => h l (.tail _ hl)
        cases r with
        | nil => simp [joinL]; exact Nat.le_trans ‹_› (by decide)
        | cons b r => rw [join_cons (by simp)]; simp only [List.length_append, List.length_cons, List.length_nil] at h2 ⊢; lia
    rw [letter_eq hw h3 h6 b0 b1 b2]
    have := hjl _ hwl
    have h9 : (wire1 size p0 p1 p2 wd).length ≤ 10 := by
      unfold wire1
      have : (rows1 size p0 p1 p2).length ≤ 9 := hrl
      simp; exact Nat.le_trans ‹_› (by decide)
    lia
  have s8 : ex g st8 (LA ns (some wd) (some (lead1 p0 p1 p2)) (some (last1 size p2 wd)) (some (letter1 size p0 p1 p2 wd)) (some 0) (some 2) (some 3) none (some size)) H4 = some (.next, L8, H5) := by
    refine ex_asg (ev_sm (ev_loc rfl) rfl (evs_cons rfl (evs_nil _ _ _)) (z := (.ref 4, H5)) ?_) rfl
    simp only [smV, ok_of (show (letter1 size p0 p1 p2 wd).length ≤ 1000000 by exact Nat.le_trans ‹_› (by decide)), List.isEmpty_cons, Bool.not_false, Bool.and_self, if_true, hwire, smT, one_mk, str_mk, pstr_mk, Option.bind_some]
    rfl
  have s9 : ∃ K, ex g st9 L8 H5 = some (.next, L8, H5 ++ K) := by
    let rd : List P := rows.dropLast.map rowP
    let wr : List P := rows.dropLast.map fun r => P.str (written r.1 r.2)
    have hrd : rd.length ≤ 9 := by simp [rd]; exact Nat.le_trans ‹_› (by decide)
    have h1 : ev g L8 (.sl (.loc 7) none (some (.neg (.lit (.int (1)))))) H5 = some (.ref 5, H5 ++ [.list rd]) := by
      refine ev_sl (ev_loc rfl) (evo_none _ _ _) (evo_some ev_m1) ?_
      have hg : getL H5 3 = some (rows.map rowP) := rfl
      simp only [slV, bnds, oki_m1, if_true, Option.bind_some, hg, ok_of (show (rows.map rowP).length ≤ 1000000 by rw [List.length_map]; exact Nat.le_trans ‹_› (by decide)), cut_m1, slA, int_mk]
      simp [rd, List.map_dropLast, H5]
    have h2 := ev_comp0 (g := g) (L := L8) (fr := [none, none]) (t := .tup [0, 1]) (elt := .cal 6 [(.loc 0), (.loc 1)]) (w := some 5) (items := rd) wrP (fun l => l.length = 2) (by rfl) h1 rfl (stays_of rfl) rfl (by exact Nat.le_trans ‹_› (by decide)) (by
      intro x hx loc K hl
      obtain ⟨r, hr, rfl⟩ := List.mem_map.mp hx
      obtain ⟨a, b, rfl⟩ := lenTwo hl
      have := (rows1_mem h6 h3 ((List.dropLast_sublist _).subset hr)).1
      refine ⟨[some (.p (.int r.1)), some (.p (.bool r.2))], rfl, rfl, ?_⟩
      exact ev_cal (evs_cons (ev_loc rfl) (evs_cons (ev_loc rfl) (evs_nil _ _ _))) (lvl_call rfl (run_written (by exact Nat.le_trans ‹_› (by decide)))))
    have hwr : rd.map wrP = wr := by
      simp only [rd, wr, List.map_map]
      rfl
    rw [hwr] at h2
    have hlst : ev g L8 (.lst [(.loc 8)]) (H5 ++ [.list rd] ++ [.list wr]) = some (.ref 7, H5 ++ [.list rd] ++ [.list wr] ++ [.list [.str (last1 size p2 wd)]]) := rfl
    have hw2 : (wire1 size p0 p1 p2 wd).map P.str = wr ++ [.str (last1 size p2 wd)] := by simp [wire1, wr, rows, Function.comp_def]
    have hadd : ev g L8 (.bin .add (.comp [none, none] (.cal 6 [(.loc 0), (.loc 1)]) (.tup [0, 1]) (.sl (.loc 7) none (some (.neg (.lit (.int (1)))))) []) (.lst [(.loc 8)])) H5 = some (.ref 8, H5 ++ ([.list rd] ++ [.list wr] ++ [.list [.str (last1 size p2 wd)]] ++ [.list (wr ++ [.str (last1 size p2 wd)])])) := by
      refine ev_bin h2 hlst ?_
      have g1 : getL (H5 ++ [.list rd] ++ [.list wr] ++ [.list [.str (last1 size p2 wd)]]) 6 = some wr := rfl
      have g2 : getL (H5 ++ [.list rd] ++ [.list wr] ++ [.list [.str (last1 size p2 wd)]]) 7 = some [.str (last1 size p2 wd)] := rfl
      have okk : ok (wr.length + [P.str (last1 size p2 wd)].length) = true := ok_of (by simp [wr]; exact Nat.le_trans ‹_› (by decide))
      show binV .add (.ref 6) (.ref 7) _ = _
      simp only [binV, g1, g2, Option.bind_some, okk, if_true, binR, lst_mk]
      rfl
    refine ⟨_, ex_ifF (evT_cmp (ev_loc rfl) hadd (z := false) ?_) rfl⟩
    have g1 : getL (H5 ++ ([.list rd] ++ [.list wr] ++ [.list [.str (last1 size p2 wd)]] ++ [.list (wr ++ [.str (last1 size p2 wd)])])) 4 = some ((wire1 size p0 p1 p2 wd).map P.str) := rfl
    have g2 : getL (H5 ++ ([.list rd] ++ [.list wr] ++ [.list [.str (last1 size p2 wd)]] ++ [.list (wr ++ [.str (last1 size p2 wd)])])) 8 = some ((wire1 size p0 p1 p2 wd).map P.str) := by rw [hw2]; rfl
    have hk : ((wire1 size p0 p1 p2 wd).map P.str).all (P.okAt 7) = true := okAt_strs fun l hl c hc => by have := wire_no hw hl hc; lia
    exact (cmp_neV g1 g2 hk hk).trans (by rw [beqs_refl]; rfl)
  obtain ⟨K, s9⟩ := s9
  exact exs_step s5 (gc_top (by simp [LA, lb, vb, H4])) (exs_step s6 (gc_same _ _) (exs_step s7 (gc_same _ _) (exs_step s8 (gc_top (by simp [L8, LA, lb, vb, H5])) (exs_step s9 (H'' := H5) (by simp [gc, L8, LA, lb, vb, H5]) rfl))))
end Mine
end
section
open PySem PySem.W PyProof.Rows PyProof.V
set_option Elab.async false
set_option maxRecDepth 20000
set_option linter.unusedSimpArgs false
namespace Mine
structure PS where
  left : List Nat
  sent : List (List Nat)
  told : List Nat
  lost : Nat
noncomputable def stepP (rows : List (Nat × Bool)) (wire : List (List Nat)) (s : PS) (x : Nat) : PS :=
  if s.left = [] then s else
    if (rows.getD (s.left.getD (x % s.left.length) 0) (0, false)).2 = false then
      ⟨s.left.eraseIdx (x % s.left.length), s.sent ++ [wire.getD (s.left.getD (x % s.left.length) 0) []], s.told ++ bl (rows.getD (s.left.getD (x % s.left.length) 0) (0, false)).1 ++ [9], s.lost⟩
    else if x / 8 % 3 = 0 then ⟨s.left.eraseIdx (x % s.left.length), s.sent ++ [(wire.getD (s.left.getD (x % s.left.length) 0) []).dropLast], s.told ++ [9], s.lost + 1⟩
    else ⟨s.left.eraseIdx (x % s.left.length), s.sent ++ [wire.getD (s.left.getD (x % s.left.length) 0) []], s.told ++ bl (rows.getD (s.left.getD (x % s.left.length) 0) (0, false)).1, s.lost⟩
noncomputable def LB (ns : List Int) (wd lead last letter : List Nat) (size : Nat) (o2 o11 o12 : Option P) (told : List Nat) (lost : Nat) (o17 : Option P) : List (Option V) :=
  [some (.fix (ns.map .int)), some (.ref 0), o2.map V.p, some (.ref 2), some (.p (pN size)), some (.p (.str wd)), some (.p (.str lead)), some (.ref 3), some (.p (.str last)), some (.p (.str letter)), some (.ref 4), o11.map V.p, o12.map V.p, some (.ref 5), some (.ref 6), some (.p (.str told)), some (.p (pN lost)), o17.map V.p, none, none, none, none, none, none, none, none, none, none, none]
noncomputable def HB (num sl pt : List P) (rows : List (Nat × Bool)) (wire : List (List Nat)) (left : List Nat) (sent : List (List Nat)) (t : List O) : List O :=
  .list num :: .list sl :: .list pt :: .list (rows.map rowP) :: .list (wire.map P.str) :: .list (left.map pN) :: .list (sent.map P.str) :: t
noncomputable def bodyB : List T := [.ifs (.cmp .ne (.loc 13) (.lst [])) [.asg (.one 17) (.sm .pop (.loc 13) [(.bin .mod (.loc 2) (.bi .len [(.loc 13)]))]),
  .asg (.tup [11, 12]) (.idx (.loc 7) (.loc 17)),
  .ifs (.not (.loc 12)) [.ex (.sm .append (.loc 14) [(.idx (.loc 10) (.loc 17))]),
  .asg (.one 15) (.bin .add (.bin .add (.loc 15) (.bin .mul (.lit (.str [32])) (.loc 11))) (.lit (.str [9])))] [.ifs (.cmp .eq (.bin .mod (.bin .fdiv (.loc 2) (.lit (.int (8)))) (.lit (.int (3)))) (.lit (.int (0)))) [.ex (.sm .append (.loc 14) [(.sl (.idx (.loc 10) (.loc 17)) none (some (.neg (.lit (.int (1))))))]),
  .asg (.one 15) (.bin .add (.loc 15) (.lit (.str [9]))),
  .asg (.one 16) (.bin .add (.loc 16) (.lit (.int (1))))] [.ex (.sm .append (.loc 14) [(.idx (.loc 10) (.loc 17))]),
  .asg (.one 15) (.bin .add (.loc 15) (.bin .mul (.lit (.str [32])) (.loc 11)))]]] []]
theorem map_erase {α β : Type} (f : α → β) : ∀ (l : List α) (i : Nat), (l.map f).eraseIdx i = (l.eraseIdx i).map f
  | [], _ => by simp
  | a :: r, 0 => by simp
  | a :: r, i + 1 => by simp [map_erase f r i]
theorem all_ints_ok (l : List Nat) : (l.map pN).all (P.okAt 7) = true := by simp [List.all_eq_true, okAt_int]
section
variable {ns : List Int} {wd lead last letter : List Nat} {size : Nat} {num sl pt : List P} {rows : List (Nat × Bool)} {wire : List (List Nat)}
theorem lb_LB {o2 o11 o12 : Option P} {told : List Nat} {lost : Nat} {o17 : Option P} : lb (LB ns wd lead last letter size o2 o11 o12 told lost o17) = 7 := by
  unfold LB; simp only [lb, lb_pm, vb, Nat.max_zero, Nat.zero_max]; rfl
/-- a heap of a length that the statement finds -/
theorem gcB {n : Nat} {o2 o11 o12 : Option P} {told : List Nat} {lost : Nat} {o17 : Option P} {left : List Nat} {sent : List (List Nat)} {t t' : List O} (hn : 7 ≤ n) (ht : t'.take (n - 7) = t) : gc n (LB ns wd lead last letter size o2 o11 o12 told lost o17) (HB num sl pt rows wire left sent t') = HB num sl pt rows wire left sent t := by
  rw [gc_eq (k := n) (by rw [lb_LB]; lia)]
  obtain ⟨m, rfl⟩ : ∃ m, n = m + 7 := ⟨n - 7, by omega⟩
  rw [show m + 7 - 7 = m by lia] at ht
  simp [HB, ht]
theorem HB_len {left : List Nat} {sent : List (List Nat)} {t : List O} : (HB num sl pt rows wire left sent t).length = t.length + 7 := by simp [HB]
theorem turnB {g : G} {s : PS} {x : Nat} {o11 o12 o17 : Option P} {rest : O} (hl : ∀ i ∈ s.left, ∃ r w, rows[i]? = some r ∧ wire[i]? = some w ∧ r.1 ≤ 6 ∧ w.length ≤ 20 ∧ i ≤ 1000) (hll : s.left.length ≤ 1000) (hs : s.sent.length ≤ 1000) (ht : s.told.length ≤ 1000) (_hx : x < 1000000) :
    ∃ o11' o12' o17', exs g bodyB (LB ns wd lead last letter size (some (pN x)) o11 o12 s.told s.lost o17) (HB num sl pt rows wire s.left s.sent [rest]) =
      some (.next, LB ns wd lead last letter size (some (pN x)) o11' o12' (stepP rows wire s x).told (stepP rows wire s x).lost o17', HB num sl pt rows wire (stepP rows wire s x).left (stepP rows wire s x).sent [rest]) := by
  let L0 := LB ns wd lead last letter size (some (pN x)) o11 o12 s.told s.lost o17
  have hlst : ev g L0 (.lst []) (HB num sl pt rows wire s.left s.sent [rest]) = some (.ref 8, HB num sl pt rows wire s.left s.sent [rest, .list []]) := rfl
  have c1 : evT g L0 (.cmp .ne (.loc 13) (.lst [])) (ev g L0 (.cmp .ne (.loc 13) (.lst [])) (HB num sl pt rows wire s.left s.sent [rest])) (HB num sl pt rows wire s.left s.sent [rest]) = some (!beqs (s.left.map pN) [], HB num sl pt rows wire s.left s.sent [rest, .list []]) :=
    evT_cmp (ev_loc rfl) hlst (cmp_neV rfl rfl (all_ints_ok _) rfl)
  by_cases h0 : s.left = []
  · have e : stepP rows wire s x = s := by unfold stepP; rw [if_pos h0]
    rw [e]
    refine ⟨o11, o12, o17, exs_step (ex_ifF (by rw [c1, h0, List.map_nil, beqs_refl]; rfl) rfl) (gcB (by rw [HB_len]; simp) (by rw [HB_len]; rfl)) rfl⟩
  · have hpos : 0 < s.left.length := List.length_pos_iff.mpr h0
    have hb : beqs (s.left.map pN) [] = false := Bool.eq_false_iff.mpr fun e => h0 (List.map_eq_nil_iff.mp ((beqs_iff _ _).mp e))
    rw [hb] at c1
    have hk : x % s.left.length < s.left.length := Nat.mod_lt _ hpos
    obtain ⟨p, hp⟩ : ∃ p, s.left[x % s.left.length]? = some p := ⟨_, List.getElem?_eq_getElem hk⟩
    obtain ⟨r, w, hr, hw, hr6, hw20, hp1⟩ := hl p (List.mem_of_getElem? hp)
    have d1 : s.left.getD (x % s.left.length) 0 = p := by rw [List.getD_eq_getElem?_getD, hp]; rfl
    have d2 : rows.getD p (0, false) = r := by rw [List.getD_eq_getElem?_getD, hr]; rfl
    have d3 : wire.getD p [] = w := by rw [List.getD_eq_getElem?_getD, hw]; rfl
    have estep : stepP rows wire s x = if r.2 = false then ⟨s.left.eraseIdx (x % s.left.length), s.sent ++ [w], s.told ++ bl r.1 ++ [9], s.lost⟩
        else if x / 8 % 3 = 0 then ⟨s.left.eraseIdx (x % s.left.length), s.sent ++ [w.dropLast], s.told ++ [9], s.lost + 1⟩
        else ⟨s.left.eraseIdx (x % s.left.length), s.sent ++ [w], s.told ++ bl r.1, s.lost⟩ := by
      unfold stepP
      rw [if_neg h0, d1, d2, d3]
    let left' := s.left.eraseIdx (x % s.left.length)
    let t2 : List O := [rest, .list []]
    let L1 := LB ns wd lead last letter size (some (pN x)) o11 o12 s.told s.lost (some (pN p))
    have s1 : ex g (.asg (.one 17) (.sm .pop (.loc 13) [(.bin .mod (.loc 2) (.bi .len [(.loc 13)]))])) L0 (HB num sl pt rows wire s.left s.sent t2) = some (.next, L1, HB num sl pt rows wire left' s.sent t2) := by
      have hg : getL (HB num sl pt rows wire s.left s.sent t2) 5 = some (s.left.map pN) := rfl
      have okl : ok (s.left.map pN).length = true := ok_of (by rw [List.length_map]; exact Nat.le_trans ‹_› (by decide))
      have elen : ev g L0 (.bi .len [(.loc 13)]) (HB num sl pt rows wire s.left s.sent t2) = some (.p (pN s.left.length), HB num sl pt rows wire s.left s.sent t2) := by
        refine ev_bi (evs_cons (x := .ref 5) (ev_loc rfl) (evs_nil _ _ _)) ?_
        simp only [biV, hg, Option.bind_some, List.length_map, ok_of (show s.left.length ≤ 1000000 by exact Nat.le_trans ‹_› (by decide)), if_true, biA, lenV, nul_mk, Option.map_some]
      refine ex_asg (ev_sm (x := .ref 5) (ev_loc rfl) (by show (getL (HB num sl pt rows wire s.left s.sent t2) 5).isSome = true; rw [hg]; rfl) (evs_cons (ev_bin (ev_loc rfl) elen (modV hpos)) (evs_nil _ _ _)) (z := (.p (pN p), HB num sl pt rows wire left' s.sent t2)) ?_) rfl
      have ec : (ok (s.left.map pN).length && decide ((0 : Int) ≤ ((x % s.left.length : Nat) : Int) ∧ ((x % s.left.length : Nat) : Int) < (s.left.map pN).length)) = true := by
        rw [okl, Bool.true_and, decide_eq_true_eq, List.length_map]
        lia
      simp only [smV, hg, Option.bind_some, ec, if_true, Int.toNat_natCast, List.getElem?_map, hp, Option.map_some, smR, one_mk, int_mk]
      rw [map_erase]
      rfl
    let L2 := LB ns wd lead last letter size (some (pN x)) (some (pN r.1)) (some (.bool r.2)) s.told s.lost (some (pN p))
    have s2 : ex g (.asg (.tup [11, 12]) (.idx (.loc 7) (.loc 17))) L1 (HB num sl pt rows wire left' s.sent t2) = some (.next, L2, HB num sl pt rows wire left' s.sent t2) := by
      refine ex_asg (ev_idx (ev_loc rfl) (ev_loc rfl) (idx_list (l := rows.map rowP) (x := rowP r) rfl (by rw [List.getElem?_map, hr]; rfl) (by exact Nat.le_trans ‹_› (by decide)))) rfl
    have ew : ∀ (L : List (Option V)) (H : List O), L[10]? = some (some (.ref 4)) → L[17]? = some (some (.p (pN p))) → getL H 4 = some (wire.map P.str) → ev g L (.idx (.loc 10) (.loc 17)) H = some (.p (.str w), H) := fun L H h1 h2 h3 =>
      ev_idx (ev_loc h1) (ev_loc h2) (idx_list h3 (by rw [List.getElem?_map, hw]; rfl) (by exact Nat.le_trans ‹_› (by decide)))
    have c3 : evT g L2 (.not (.loc 12)) (ev g L2 (.not (.loc 12)) (HB num sl pt rows wire left' s.sent t2)) (HB num sl pt rows wire left' s.sent t2) = some (!r.2, HB num sl pt rows wire left' s.sent t2) := by
      simp only [evT_notE, evT_locE, ev_locE, ev_notE, L2, LB, List.getElem?_cons_succ, List.getElem?_cons_zero, Option.map_some, Option.bind_some, truV, truP, Option.join_some]
    have oks : ok (s.sent.map P.str).length = true := ok_of (by rw [List.length_map]; exact Nat.le_trans ‹_› (by decide))
    have app : ∀ (L : List (Option V)) (e : E) (v : List Nat), L[14]? = some (some (.ref 6)) → ev g L e (HB num sl pt rows wire left' s.sent t2) = some (.p (.str v), HB num sl pt rows wire left' s.sent t2) → ex g (.ex (.sm .append (.loc 14) [e])) L (HB num sl pt rows wire left' s.sent t2) = some (.next, L, HB num sl pt rows wire left' (s.sent ++ [v]) t2) := fun L e v h1 h2 => by
      refine (ex_ex (ev_append h1 (l₀ := s.sent.map P.str) rfl h2 (l := s.sent.map P.str) rfl oks)).trans ?_
      simp [HB]
    have g2 : ∀ {sent' : List (List Nat)} {told' : List Nat} {lost' : Nat} {o11 o12 o17 : Option P} {lf : List Nat} {sn : List (List Nat)}, gc (HB num sl pt rows wire lf sn t2).length (LB ns wd lead last letter size (some (pN x)) o11 o12 told' lost' o17) (HB num sl pt rows wire left' sent' t2) = HB num sl pt rows wire left' sent' t2 := gcB (by rw [HB_len]; simp) (by rw [HB_len]; rfl)
    have outer : ∀ {told' : List Nat} {lost' : Nat} {sent' : List (List Nat)} {o11 o12 o17 : Option P}, gc (HB num sl pt rows wire s.left s.sent [rest]).length (LB ns wd lead last letter size (some (pN x)) o11 o12 told' lost' o17) (HB num sl pt rows wire left' sent' t2) = HB num sl pt rows wire left' sent' [rest] := gcB (by rw [HB_len]; simp) (by rw [HB_len]; rfl)
    have fin : ∀ (told' : List Nat) (lost' : Nat) (sent' : List (List Nat)), stepP rows wire s x = ⟨left', sent', told', lost'⟩ →
        ex g (.ifs (.not (.loc 12)) [.ex (.sm .append (.loc 14) [(.idx (.loc 10) (.loc 17))]), .asg (.one 15) (.bin .add (.bin .add (.loc 15) (.bin .mul (.lit (.str [32])) (.loc 11))) (.lit (.str [9])))] [.ifs (.cmp .eq (.bin .mod (.bin .fdiv (.loc 2) (.lit (.int (8)))) (.lit (.int (3)))) (.lit (.int (0)))) [.ex (.sm .append (.loc 14) [(.sl (.idx (.loc 10) (.loc 17)) none (some (.neg (.lit (.int (1))))))]),
          .asg (.one 15) (.bin .add (.loc 15) (.lit (.str [9]))),
          .asg (.one 16) (.bin .add (.loc 16) (.lit (.int (1))))] [.ex (.sm .append (.loc 14) [(.idx (.loc 10) (.loc 17))]),
          .asg (.one 15) (.bin .add (.loc 15) (.bin .mul (.lit (.str [32])) (.loc 11)))]]) L2 (HB num sl pt rows wire left' s.sent t2) = some (.next, LB ns wd lead last letter size (some (pN x)) (some (pN r.1)) (some (.bool r.2)) told' lost' (some (pN p)), HB num sl pt rows wire left' sent' t2) →
        ∃ o11' o12' o17', exs g bodyB L0 (HB num sl pt rows wire s.left s.sent [rest]) =
          some (.next, LB ns wd lead last letter size (some (pN x)) o11' o12' (stepP rows wire s x).told (stepP rows wire s x).lost o17', HB num sl pt rows wire (stepP rows wire s x).left (stepP rows wire s x).sent [rest]) := by
      intro told' lost' sent' he h3
      rw [he]
      refine ⟨some (pN r.1), some (.bool r.2), some (pN p), exs_step (ex_ifT c1 ?_) outer rfl⟩
      exact exs_step s1 g2 (exs_step s2 g2 (exs_step h3 g2 rfl))
    cases hr2 : r.2 with
    | false =>
      refine fin _ _ _ (by rw [estep, if_pos hr2]) ?_
      refine ex_ifT (by rw [c3, hr2]; rfl) ?_
      refine exs_step (app _ _ _ rfl (ew _ _ rfl rfl rfl)) g2 (exs_step (ex_asg (ev_bin (ev_bin (ev_loc rfl) (ev_bin rfl (ev_loc rfl) (mul_blV (by exact Nat.le_trans ‹_› (by decide)))) (add_strV (by simp; lia))) rfl (add_strV (by simp; lia))) rfl) g2 ?_)
      rfl
    | true =>
      have c4 : evT g L2 (.cmp .eq (.bin .mod (.bin .fdiv (.loc 2) (.lit (.int (8)))) (.lit (.int (3)))) (.lit (.int (0)))) (ev g L2 (.cmp .eq (.bin .mod (.bin .fdiv (.loc 2) (.lit (.int (8)))) (.lit (.int (3)))) (.lit (.int (0)))) (HB num sl pt rows wire left' s.sent t2)) (HB num sl pt rows wire left' s.sent t2) = some (decide (x / 8 % 3 = 0), HB num sl pt rows wire left' s.sent t2) := by
        refine evT_cmp (ev_bin (ev_bin (ev_loc rfl) rfl (fdivV (b := 8) (by decide) (by decide))) rfl (modV (b := 3) (by decide))) rfl ?_
        simp only [cmpV, eqP, cmpP, pint_mk, Option.bind_some]
        congr 1
        rw [Bool.eq_iff_iff, beq_iff_eq, decide_eq_true_eq]
        lia
      by_cases h3 : x / 8 % 3 = 0
      · refine fin _ _ _ (by rw [estep, if_neg (by rw [hr2]; simp), if_pos h3]) ?_
        refine ex_ifF (by rw [c3, hr2]; rfl) ?_
        refine exs_step (ex_ifT (by rw [c4, decide_eq_true h3]) ?_) g2 rfl
        refine exs_step (app _ _ w.dropLast rfl (ev_sl (ew _ _ rfl rfl rfl) (evo_none _ _ _) (evo_some ev_m1) ?_)) g2 (exs_step (loc' := LB ns wd lead last letter size (some (pN x)) (some (pN r.1)) (some (.bool r.2)) (s.told ++ [9]) s.lost (some (pN p))) (ex_asg (ev_bin (ev_loc rfl) rfl (add_strV (by simp; exact Nat.le_trans ‹_› (by decide)))) rfl) g2 (exs_step (ex_asg (ev_bin (ev_loc rfl) rfl (addN (b := 1))) rfl) g2 ?_))
        · simp only [slV, bnds, oki_m1, if_true, Option.bind_some, ok_of (show w.length ≤ 1000000 by exact Nat.le_trans ‹_› (by decide)), cut_m1, pstr_mk, int_mk]
        · rfl
      · refine fin _ _ _ (by rw [estep, if_neg (by rw [hr2]; simp), if_neg h3]) ?_
        refine ex_ifF (by rw [c3, hr2]; rfl) ?_
        refine exs_step (ex_ifF (by rw [c4, decide_eq_false h3]) ?_) g2 rfl
        refine exs_step (app _ _ _ rfl (ew _ _ rfl rfl rfl)) g2 (exs_step (ex_asg (ev_bin (ev_loc rfl) (ev_bin rfl (ev_loc rfl) (mul_blV (by exact Nat.le_trans ‹_› (by decide)))) (add_strV (by simp; lia))) rfl) g2 ?_)
        rfl
end
end Mine
end
section
open PySem PySem.W PyProof.Rows PyProof.V
set_option Elab.async false
set_option maxRecDepth 20000
set_option linter.unusedSimpArgs false
namespace Mine
section
variable {ns : List Int} {wd lead last letter : List Nat} {size : Nat} {num sl pt : List P} {rows : List (Nat × Bool)} {wire : List (List Nat)}
noncomputable def InvB (rows : List (Nat × Bool)) (wire : List (List Nat)) (s : PS) (m : Nat) : Prop :=
  (∀ i ∈ s.left, ∃ r w, rows[i]? = some r ∧ wire[i]? = some w ∧ r.1 ≤ 6 ∧ w.length ≤ 20 ∧ i ≤ 1000) ∧ s.left.length ≤ 1000 ∧ s.sent.length + m ≤ 100 ∧ s.told.length + 8 * m ≤ 500 ∧ s.lost + m ≤ 100
theorem InvB.step {s : PS} {x m : Nat} (h : InvB rows wire s (m + 1)) : InvB rows wire (stepP rows wire s x) m := by
  obtain ⟨h1, h2, h3, h4, h5⟩ := h
  by_cases h0 : s.left = []
  · have e : stepP rows wire s x = s := by unfold stepP; rw [if_pos h0]
    rw [e]
    exact ⟨h1, h2, by lia, by lia, by lia⟩
  · have hpos : 0 < s.left.length := List.length_pos_iff.mpr h0
    have hk : x % s.left.length < s.left.length := Nat.mod_lt _ hpos
    obtain ⟨p, hp⟩ : ∃ p, s.left[x % s.left.length]? = some p := ⟨_, List.getElem?_eq_getElem hk⟩
    obtain ⟨r, w, hr, hw, hr6, hw20, hp1⟩ := h1 p (List.mem_of_getElem? hp)
    have d1 : s.left.getD (x % s.left.length) 0 = p := by rw [List.getD_eq_getElem?_getD, hp]; rfl
    have d2 : rows.getD p (0, false) = r := by rw [List.getD_eq_getElem?_getD, hr]; rfl
    have hle := List.length_eraseIdx_le s.left (x % s.left.length)
    have hsub : ∀ i ∈ s.left.eraseIdx (x % s.left.length), i ∈ s.left := fun i hi => (List.eraseIdx_sublist _ _).subset hi
    unfold stepP
    rw [if_neg h0, d1, d2]
    split
    · exact ⟨fun i hi => h1 i (hsub i hi), by simp only; lia, by simp; lia, by simp; lia, by simp only; lia⟩
    · split
      · exact ⟨fun i hi => h1 i (hsub i hi), by simp only; lia, by simp; lia, by simp; lia, by simp only; lia⟩
      · exact ⟨fun i hi => h1 i (hsub i hi), by simp only; lia, by simp; lia, by simp; lia, by simp only; lia⟩
theorem loopB {g : G} {all : List P} : ∀ (items : List Nat) (s : PS) (o2 o11 o12 o17 : Option P), InvB rows wire s items.length → (∀ x ∈ items, x < 1000000) →
    ∃ o2' o11' o12' o17', forL all (some 7) (.one 2) (fun loc H => exs g bodyB loc H) (items.map pN) (LB ns wd lead last letter size o2 o11 o12 s.told s.lost o17) (HB num sl pt rows wire s.left s.sent [.list all]) =
      some (.next, LB ns wd lead last letter size o2' o11' o12' (items.foldl (stepP rows wire) s).told (items.foldl (stepP rows wire) s).lost o17', HB num sl pt rows wire (items.foldl (stepP rows wire) s).left (items.foldl (stepP rows wire) s).sent [.list all]) := by
  have hw : ∀ s : PS, stays (some 7) all (HB num sl pt rows wire s.left s.sent [.list all]) = true := fun s => stays_of rfl
  intro items
  induction items with
  | nil => exact fun s o2 o11 o12 o17 _ _ => ⟨o2, o11, o12, o17, forL_nil (hw s)⟩
  | cons x r ih =>
    intro s o2 o11 o12 o17 h hx
    obtain ⟨a11, a12, a17, h1⟩ := turnB (g := g) (ns := ns) (wd := wd) (lead := lead) (last := last) (letter := letter) (size := size) (num := num) (sl := sl) (pt := pt) (rows := rows) (wire := wire) (s := s) (x := x) (o11 := o11) (o12 := o12) (o17 := o17) (rest := .list all) h.1 h.2.1 (by have := h.2.2.1; lia) (by have := h.2.2.2.1; lia) (hx x (.head _))
    obtain ⟨b2, b11, b12, b17, ih⟩ := ih (stepP rows wire s x) (some (pN x)) a11 a12 a17 h.step fun y hy => hx y (.tail _ hy)
    exact ⟨b2, b11, b12, b17, forL_go (hw s) (q := (LB ns wd lead last letter size (some (pN x)) o11 o12 s.told s.lost o17, HB num sl pt rows wire s.left s.sent [.list all])) rfl h1 (.inl rfl) ih⟩
noncomputable def LB2 (ns : List Int) (wd lead last letter : List Nat) (size : Nat) (o13 o14 : Option Nat) (o15 : Option (List Nat)) (o16 : Option Nat) : List (Option V) :=
  [some (.fix (ns.map .int)), some (.ref 0), none, some (.ref 2), some (.p (pN size)), some (.p (.str wd)), some (.p (.str lead)), some (.ref 3), some (.p (.str last)), some (.p (.str letter)), some (.ref 4), none, none, o13.map V.ref, o14.map V.ref, o15.map (fun l => V.p (.str l)), o16.map (fun n => V.p (pN n)), none, none, none, none, none, none, none, none, none, none, none, none]
noncomputable def HA (num sl pt : List P) (rows : List (Nat × Bool)) (wire : List (List Nat)) (t : List O) : List O := .list num :: .list sl :: .list pt :: .list (rows.map rowP) :: .list (wire.map P.str) :: t
theorem rngL_nat (n : Nat) : rngL 0 (n : Int) = (List.range n).map pN := by
  unfold rngL
  rw [show ((n : Int) - 0).toNat = n by lia]
  refine List.map_congr_left fun k _ => ?_
  simp
/-- the end of the loop's state -/
noncomputable def runP (rows : List (Nat × Bool)) (wire : List (List Nat)) (xs : List Nat) : PS := xs.foldl (stepP rows wire) ⟨List.range (rows.length - 1), [], [], 0⟩
theorem partB {g : G} {xs : List Nat} {lb0 : Nat} (hn : num = xs.map pN) (hx : ∀ x ∈ xs, x < 1000000) (hxl : xs.length ≤ 12) (hr0 : 0 < rows.length) (hrl : rows.length ≤ 100) (hI : InvB rows wire ⟨List.range (rows.length - 1), [], [], 0⟩ 8) (hlast : rows.getLast? = some (lb0, false)) (hlb : lb0 ≤ 100) :
    ∃ o2 o11 o12 o17, exs g [st10, st11, st12, st13, st14, st15] (LB2 ns wd lead last letter size none none none none) (HA num sl pt rows wire []) =
      some (.next, LB ns wd lead last letter size o2 o11 o12 ((runP rows wire (xs.drop 4)).told ++ bl lb0) (runP rows wire (xs.drop 4)).lost o17, HB num sl pt rows wire (runP rows wire (xs.drop 4)).left (runP rows wire (xs.drop 4)).sent []) := by
  subst hn
  let s0 : PS := ⟨List.range (rows.length - 1), [], [], 0⟩
  have hg : getL (HA (xs.map pN) sl pt rows wire []) 3 = some (rows.map rowP) := rfl
  have s10 : ex g st10 (LB2 ns wd lead last letter size none none none none) (HA (xs.map pN) sl pt rows wire []) = some (.next, LB2 ns wd lead last letter size (some 5) none none none, HA (xs.map pN) sl pt rows wire [.list (s0.left.map pN)]) := by
    have e1 : ev g (LB2 ns wd lead last letter size none none none none) (.bi .range [(.bin .sub (.bi .len [(.loc 7)]) (.lit (.int (1))))]) (HA (xs.map pN) sl pt rows wire []) = some (.rng 0 ((rows.length - 1 : Nat) : Int), HA (xs.map pN) sl pt rows wire []) := by
      have elen : ev g (LB2 ns wd lead last letter size none none none none) (.bi .len [(.loc 7)]) (HA (xs.map pN) sl pt rows wire []) = some (.p (pN rows.length), HA (xs.map pN) sl pt rows wire []) := by
        refine ev_bi (evs_cons (x := .ref 3) (ev_loc rfl) (evs_nil _ _ _)) ?_
        simp only [biV, hg, Option.bind_some, List.length_map, ok_of (show rows.length ≤ 1000000 by exact Nat.le_trans ‹_› (by decide)), if_true, biA, lenV, nul_mk, Option.map_some]
      have esub : ev g (LB2 ns wd lead last letter size none none none none) (.bin .sub (.bi .len [(.loc 7)]) (.lit (.int (1)))) (HA (xs.map pN) sl pt rows wire []) = some (.p (pN (rows.length - 1)), HA (xs.map pN) sl pt rows wire []) := by
        refine ev_bin elen rfl ?_
        simp only [binV, binP, Option.bind_some, pint_mk, pl_mk]
        rw [show (rows.length : Int) - 1 = ((rows.length - 1 : Nat) : Int) by lia]
      refine ev_bi (evs_cons esub (evs_nil _ _ _)) ?_
      simp only [biV, oki_nat (show rows.length - 1 ≤ 1000000 by lia), if_true, biA, rngV, int_mk, Option.bind_some]
    refine ex_asg (ev_bi (evs_cons e1 (evs_nil _ _ _)) (z := (.ref 5, HA (xs.map pN) sl pt rows wire [.list (s0.left.map pN)])) ?_) rfl
    have o0 : oki 0 = true := by decide
    simp only [biV, o0, oki_nat (show rows.length - 1 ≤ 1000000 by lia), Int.sub_zero, Int.toNat_natCast, ok_of (show rows.length - 1 ≤ 1000000 by lia), Bool.and_self, if_true, rngL_nat, biA, nul_mk, rg_mk, Option.bind_some]
    rfl
  have s11 : ex g st11 (LB2 ns wd lead last letter size (some 5) none none none) (HA (xs.map pN) sl pt rows wire [.list (s0.left.map pN)]) = some (.next, LB2 ns wd lead last letter size (some 5) (some 6) none none, HB (xs.map pN) sl pt rows wire s0.left s0.sent []) := rfl
  have s12 : ex g st12 (LB2 ns wd lead last letter size (some 5) (some 6) none none) (HB (xs.map pN) sl pt rows wire s0.left s0.sent []) = some (.next, LB2 ns wd lead last letter size (some 5) (some 6) (some []) none, HB (xs.map pN) sl pt rows wire s0.left s0.sent []) := rfl
  have s13 : ex g st13 (LB2 ns wd lead last letter size (some 5) (some 6) (some []) none) (HB (xs.map pN) sl pt rows wire s0.left s0.sent []) = some (.next, LB ns wd lead last letter size none none none s0.told s0.lost none, HB (xs.map pN) sl pt rows wire s0.left s0.sent []) := rfl
  let all : List P := (xs.drop 4).map pN
  obtain ⟨o2, o11, o12, o17, hloop⟩ := loopB (g := g) (ns := ns) (wd := wd) (lead := lead) (last := last) (letter := letter) (size := size) (num := xs.map pN) (sl := sl) (pt := pt) (rows := rows) (wire := wire) (all := all) (xs.drop 4) s0 none none none none (by
    obtain ⟨h1, h2, h3, h4, h5⟩ := hI
    have : (xs.drop 4).length ≤ 8 := by simp; omega
    exact ⟨h1, h2, by simp only at h3; simp only [s0]; lia, by simp only at h4; simp only [s0]; lia, by simp only at h5; simp only [s0]; lia⟩) (fun x hxm => hx x (List.mem_of_mem_drop hxm))
  have s14 : ex g st14 (LB ns wd lead last letter size none none none s0.told s0.lost none) (HB (xs.map pN) sl pt rows wire s0.left s0.sent []) = some (.next, LB ns wd lead last letter size o2 o11 o12 (runP rows wire (xs.drop 4)).told (runP rows wire (xs.drop 4)).lost o17, HB (xs.map pN) sl pt rows wire (runP rows wire (xs.drop 4)).left (runP rows wire (xs.drop 4)).sent [.list all]) := by
    refine ex_for (v := .ref 7) (H₁ := HB (xs.map pN) sl pt rows wire s0.left s0.sent [.list all]) (ps := all) (w := some 7) (ev_sl (x := .ref 0) (ev_loc rfl) (evo_some (x := .p (.int 4)) rfl) (evo_none _ _ _) ?_) rfl hloop
    have o4 : oki 4 = true := by decide
    have hg0 : getL (HB (xs.map pN) sl pt rows wire s0.left s0.sent []) 0 = some (xs.map pN) := rfl
    have hc := cut_drop (xs.map pN) 4
    simp only [slV, bnds, o4, if_true, Option.bind_some, hg0, ok_of (show (xs.map pN).length ≤ 1000000 by rw [List.length_map]; exact Nat.le_trans ‹_› (by decide)), slA, int_mk]
    rw [show (4 : Int) = ((4 : Nat) : Int) from rfl, hc]
    simp only [all, List.map_drop]
    rfl
  have hlst : (rows.map rowP).getLast? = some (rowP (lb0, false)) := by rw [List.getLast?_map, hlast]; rfl
  have hfin : ∀ (xs : List Nat) (s : PS) (m : Nat), InvB rows wire s (xs.length + m) → InvB rows wire (xs.foldl (stepP rows wire) s) m := by
    intro xs
    induction xs with
    | nil => intro s m h; simpa using h
    | cons a r ih => intro s m h; exact ih _ m (InvB.step (by rw [List.length_cons, Nat.add_right_comm] at h; exact h))
  have htl : (runP rows wire (xs.drop 4)).told.length ≤ 500 := by
    have hm : (xs.drop 4).length ≤ 8 := by simp; omega
    have := hfin (xs.drop 4) s0 (8 - (xs.drop 4).length) (by rw [Nat.add_sub_cancel' hm]; exact hI)
    have := this.2.2.2.1
    show (List.foldl (stepP rows wire) s0 (xs.drop 4)).told.length ≤ 500
    lia
  have s15 : ex g st15 (LB ns wd lead last letter size o2 o11 o12 (runP rows wire (xs.drop 4)).told (runP rows wire (xs.drop 4)).lost o17) (HB (xs.map pN) sl pt rows wire (runP rows wire (xs.drop 4)).left (runP rows wire (xs.drop 4)).sent []) = some (.next, LB ns wd lead last letter size o2 o11 o12 ((runP rows wire (xs.drop 4)).told ++ bl lb0) (runP rows wire (xs.drop 4)).lost o17, HB (xs.map pN) sl pt rows wire (runP rows wire (xs.drop 4)).left (runP rows wire (xs.drop 4)).sent []) :=
    ex_asg (ev_bin (ev_loc rfl) (ev_bin rfl (ev_idx (ev_idx (x := .ref 3) (ev_loc rfl) ev_m1 (idx_last rfl hlst)) rfl rfl) (mul_blV (by exact Nat.le_trans ‹_› (by decide)))) (add_strV (by simp; lia))) rfl
  exact ⟨o2, o11, o12, o17, exs_step s10 (gc_top (by simp [LB2, lb, vb, HA])) (exs_step s11 (gc_top (by simp [LB2, lb, vb, HB])) (exs_step s12 (gc_same _ _) (exs_step s13 (gc_same _ _) (exs_step s14 (gcB (by rw [HB_len]; simp) (by rw [HB_len]; rfl)) (exs_step s15 (gc_same _ _) rfl)))))⟩
end
end Mine
end
section
open PySem PySem.W PyProof.Rows PyProof.V
set_option Elab.async false
set_option maxRecDepth 20000
set_option linter.unusedSimpArgs false
namespace Mine
structure CX where
  ns : List Int
  wd : List Nat
  lead : List Nat
  last : List Nat
  letter : List Nat
  size : Nat
  o2 : Option P
  o11 : Option P
  o12 : Option P
  told : List Nat
  lost : Nat
  o17 : Option P
noncomputable def CX.L (c : CX) (o18 : Option (List Nat)) (o19 o20 o21 : Option Nat) (o22 o23 o24 : Option P) (o25 o26 o27 o28 : Option Nat) : List (Option V) :=
  [some (.fix (c.ns.map .int)), some (.ref 0), c.o2.map V.p, some (.ref 2), some (.p (pN c.size)), some (.p (.str c.wd)), some (.p (.str c.lead)), some (.ref 3), some (.p (.str c.last)), some (.p (.str c.letter)), some (.ref 4), c.o11.map V.p, c.o12.map V.p, some (.ref 5), some (.ref 6), some (.p (.str c.told)), some (.p (pN c.lost)), c.o17.map V.p, o18.map (fun l => V.p (.str l)), o19.map V.ref, o20.map V.ref, o21.map V.ref, o22.map V.p, o23.map V.p, o24.map V.p, o25.map V.obj, o26.map V.obj, o27.map V.ref, o28.map V.obj]
structure HX where
  num : List P
  sl : List P
  pt : List P
  rows : List (Nat × Bool)
  wire : List (List Nat)
  left : List Nat
  sent : List (List Nat)
noncomputable def HX.H (h : HX) (t : List O) : List O := HB h.num h.sl h.pt h.rows h.wire h.left h.sent t
noncomputable def upO (o : Option Nat) : Nat := (o.map (· + 1)).getD 0
theorem lb_rm {o : Option Nat} {r : List (Option V)} : lb (o.map V.ref :: r) = max (upO o) (lb r) := by cases o <;> first | rfl | exact (Nat.zero_max _).symm
theorem lb_om {o : Option Nat} {r : List (Option V)} : lb (o.map V.obj :: r) = max (upO o) (lb r) := by cases o <;> first | rfl | exact (Nat.zero_max _).symm
theorem lb_sm {o : Option (List Nat)} {r : List (Option V)} : lb (o.map (fun l => V.p (.str l)) :: r) = lb r := by cases o <;> first | rfl | exact Nat.zero_max _
theorem lb_fx {n : List P} {r : List (Option V)} : lb (some (.fix n) :: r) = lb r := Nat.zero_max _
theorem lb_CX {c : CX} {o18 : Option (List Nat)} {o19 o20 o21 : Option Nat} {o22 o23 o24 : Option P} {o25 o26 o27 o28 : Option Nat} : lb (c.L o18 o19 o20 o21 o22 o23 o24 o25 o26 o27 o28) =
    max 1 (max 3 (max 4 (max 5 (max 6 (max 7 (max (upO o19) (max (upO o20) (max (upO o21) (max (upO o25) (max (upO o26) (max (upO o27) (max (upO o28) 0)))))))))))) := by
  unfold CX.L
  simp only [lb_pm, lb_q, lb_rm, lb_om, lb_sm, lb_rf, lb_fx]
  rfl
theorem lb_le {c : CX} {o18 : Option (List Nat)} {o22 o23 o24 : Option P} : lb (c.L o18 none none none o22 o23 o24 none none none none) = 7 := lb_CX
/-- the statement's temporaries go -/
theorem gcX {h : HX} {n : Nat} {loc : List (Option V)} {t t' : List O} (hn : max n (lb loc) = t.length + 7) (ht : t <+: t') : gc n loc (h.H t') = h.H t := by
  rw [gc_eq hn]
  obtain ⟨r, rfl⟩ := ht
  simp [HX.H, HB]
theorem HX_len {h : HX} {t : List O} : (h.H t).length = t.length + 7 := HB_len
noncomputable def strsP (l : List (List Nat)) : List P := l.map P.str
theorem smv_split {g : Nat → List P} {l : List Nat} {c : Nat} {H : List O} (hl : l.length ≤ 1000000) : smV g .split (.p (.str l)) [.p (.str [c])] H = some (.ref H.length, H ++ [.list (strsP (splitG [c] 0 l))]) := by
  simp only [smV, ok_of hl, List.isEmpty_cons, Bool.not_false, Bool.and_self, if_true, smT, one_mk, str_mk, pstr_mk, Option.bind_some]
  rfl
theorem partC {c : CX} {h : HX} {k : Nat} {wl : List Nat} (hw : h.wire.getLast? = some wl) (hwl : wl.length ≤ 100) (hs : h.sent.length ≤ 100) (hs2 : ∀ l ∈ h.sent, l.length ≤ 20) (h0 : joinL [32, 10] (h.sent ++ [wl]) ≠ []) (hl : (joinL [32, 10] (h.sent ++ [wl])).length ≤ 1000) (ha : asc (joinL [32, 10] (h.sent ++ [wl])) = true)
    (hread : decA [9] (joinL [32, 10] (h.sent ++ [wl])) = c.told ++ c.wd) (ht : c.told.length ≤ 900) (hwd : c.wd.length ≤ 2) (hld : c.lead.length ≤ 900) :
    exs (pg1.lvl (k + 2)) [st16, st17, st18, st19, st20] (c.L none none none none none none none none none none none) (h.H []) =
      some (.next, c.L (some (c.told ++ c.wd)) (some 7) (some 8) (some 9) none none none none none none none, h.H [.list (strsP (splitG [9] 0 c.lead)), .list (strsP (splitG [9] 0 c.told)), .list []]) := by
  let g := pg1.lvl (k + 2)
  let L0 := c.L none none none none none none none none none none none
  have s16 : ex g st16 L0 (h.H []) = some (.next, c.L (some (c.told ++ c.wd)) none none none none none none none none none none, h.H [.list [.str wl], .list (strsP (h.sent ++ [wl]))]) := by
    have hwp : (strsP h.wire).getLast? = some (.str wl) := by unfold strsP; rw [List.getLast?_map, hw]; rfl
    have e1 : ev g L0 (.lst [(.idx (.loc 10) (.neg (.lit (.int (1)))))]) (h.H []) = some (.ref 7, h.H [.list [.str wl]]) := by
      have e0 : ev g L0 (.idx (.loc 10) (.neg (.lit (.int (1))))) (h.H []) = some (.p (.str wl), h.H []) := ev_idx (x := .ref 4) (ev_loc rfl) ev_m1 (idx_last rfl hwp)
      rw [ev_lstE, evs_cons e0 (evs_nil _ _ _)]
      rfl
    have e2 : ev g L0 (.bin .add (.loc 14) (.lst [(.idx (.loc 10) (.neg (.lit (.int (1)))))])) (h.H []) = some (.ref 8, h.H [.list [.str wl], .list (strsP (h.sent ++ [wl]))]) := by
      refine ev_bin (x := .ref 6) (ev_loc rfl) e1 ?_
      have g1 : getL (h.H [.list [.str wl]]) 6 = some (strsP h.sent) := rfl
      have g2 : getL (h.H [.list [.str wl]]) 7 = some [.str wl] := rfl
      have okk : ok ((strsP h.sent).length + [P.str wl].length) = true := ok_of (by simp [strsP]; exact Nat.le_trans ‹_› (by decide))
      simp only [binV, g1, g2, Option.bind_some, okk, if_true, binR, lst_mk]
      simp [HX.H, HB, strsP]
    have e3 : ev g L0 (.sm .join (.lit (.str [32, 10])) [(.bin .add (.loc 14) (.lst [(.idx (.loc 10) (.neg (.lit (.int (1)))))]))]) (h.H []) = some (.p (.str (joinL [32, 10] (h.sent ++ [wl]))), h.H [.list [.str wl], .list (strsP (h.sent ++ [wl]))]) := by
      refine ev_sm rfl rfl (evs_cons e2 (evs_nil _ _ _)) ?_
      have g1 : getL (h.H [.list [.str wl], .list (strsP (h.sent ++ [wl]))]) 8 = some ((h.sent ++ [wl]).map P.str) := rfl
      simp only [smV, g1, Option.bind_some, pStrs_str, smT, one_mk, lst_mk, pstr_mk]
      rw [if_pos]
      refine ok_of ?_
      have := sum_le (l := h.sent ++ [wl]) (k := 100) (fun x hx => by
        rcases List.mem_append.mp hx with hx | hx
        · have := hs2 x hx; exact Nat.le_trans ‹_› (by decide)
        · simp at hx; subst hx; omega)
      have e : (h.sent ++ [wl]).length ≤ 101 := by simp; omega
      have e2 : (h.sent ++ [wl]).length * 100 ≤ 101 * 100 := Nat.mul_le_mul_right _ e
      simp only [List.length_cons, List.length_nil]
      lia
    refine ex_asg (ev_cal (evs_cons e3 (evs_cons rfl (evs_nil _ _ _))) (lvl_call rfl (run_decode (fun a b x y K hx hy => lvl_call (f := 0) rfl (run_unquote hx hy)) h0 hl ha (by decide) (by decide)))) ?_
    rw [hread]
    rfl
  have s17 : ex g st17 (c.L (some (c.told ++ c.wd)) none none none none none none none none none none) (h.H []) = some (.next, c.L (some (c.told ++ c.wd)) none none none none none none none none none none, h.H []) := by
    refine ex_if (t := false) (evT_cmp (ev_loc rfl) (ev_bin (ev_loc rfl) (ev_loc rfl) (add_strV (by lia))) (z := false) ?_) rfl
    simp [cmpV, eqP, cmpP, pstr_mk, Option.bind_some, Option.map_some]
  have s18 : ex g st18 (c.L (some (c.told ++ c.wd)) none none none none none none none none none none) (h.H []) = some (.next, c.L (some (c.told ++ c.wd)) (some 7) none none none none none none none none none, h.H [.list (strsP (splitG [9] 0 c.lead))]) :=
    ex_asg (ev_sm (ev_loc rfl) rfl (evs_cons rfl (evs_nil _ _ _)) (smv_split (by exact Nat.le_trans ‹_› (by decide)))) rfl
  have s19 : ex g st19 (c.L (some (c.told ++ c.wd)) (some 7) none none none none none none none none none) (h.H [.list (strsP (splitG [9] 0 c.lead))]) = some (.next, c.L (some (c.told ++ c.wd)) (some 7) (some 8) none none none none none none none none, h.H [.list (strsP (splitG [9] 0 c.lead)), .list (strsP (splitG [9] 0 c.told))]) :=
    ex_asg (ev_sm (ev_loc rfl) rfl (evs_cons rfl (evs_nil _ _ _)) (smv_split (by exact Nat.le_trans ‹_› (by decide)))) rfl
  have s20 : ex g st20 (c.L (some (c.told ++ c.wd)) (some 7) (some 8) none none none none none none none none) (h.H [.list (strsP (splitG [9] 0 c.lead)), .list (strsP (splitG [9] 0 c.told))]) = some (.next, c.L (some (c.told ++ c.wd)) (some 7) (some 8) (some 9) none none none none none none none, h.H [.list (strsP (splitG [9] 0 c.lead)), .list (strsP (splitG [9] 0 c.told)), .list []]) := rfl
  have lb0 : ∀ o18, lb (c.L o18 none none none none none none none none none none) = 7 := fun o18 => lb_le
  have top : ∀ {n : Nat} {o18 : Option (List Nat)} {o19 o20 o21 : Option Nat} {t : List O}, (o21 = some 9 ∧ t.length = 3) ∨ (o21 = none ∧ o20 = some 8 ∧ t.length = 2) ∨ (o21 = none ∧ o20 = none ∧ o19 = some 7 ∧ t.length = 1) → gc n (c.L o18 o19 o20 o21 none none none none none none none) (h.H t) = h.H t := by
    intro n o18 o19 o20 o21 t hc
    refine gc_top ?_
    rw [HX_len]
    have : ∀ (i : Nat) (v : V) (l : List (Option V)), l[i]? = some (some v) → vb v ≤ lb l := by
      intro i
      induction i with
      | zero => intro v l h; cases l with
        | nil => cases h
        | cons a r => simp at h; subst h; exact Nat.le_max_left _ _
      | succ i ih => intro v l h; cases l with
        | nil => cases h
        | cons a r =>
          have := ih v r (by simpa using h)
          cases a with
          | none => exact this
          | some a => exact Nat.le_trans this (Nat.le_max_right _ _)
    rcases hc with ⟨rfl, ht⟩ | ⟨rfl, rfl, ht⟩ | ⟨rfl, rfl, rfl, ht⟩
    · have := this 21 (.ref 9) (c.L o18 o19 o20 (some 9) none none none none none none none) rfl
      simp only [vb] at this; lia
    · have := this 20 (.ref 8) (c.L o18 o19 (some 8) none none none none none none none none) rfl
      simp only [vb] at this; lia
    · have := this 19 (.ref 7) (c.L o18 (some 7) none none none none none none none none none) rfl
      simp only [vb] at this; lia
  exact exs_step s16 (gcX (t := []) (by rw [lb0, HX_len]; rfl) (List.nil_prefix)) (exs_step s17 (gc_same _ _) (exs_step s18 (top (.inr (.inr ⟨rfl, rfl, rfl, rfl⟩))) (exs_step s19 (top (.inr (.inl ⟨rfl, rfl, rfl⟩))) (exs_step s20 (top (.inl ⟨rfl, rfl⟩)) rfl))))
end Mine
end
section
open PySem PySem.W PyProof.Rows PyProof.V
set_option Elab.async false
set_option maxRecDepth 20000
set_option linter.unusedSimpArgs false
namespace Mine
noncomputable def maxN : List Nat → Nat
  | [] => 0
  | a :: r => max a (maxN r)
theorem maxI_nat : ∀ {l : List Nat}, l ≠ [] → maxI (l.map fun n : Nat => (n : Int)) = (maxN l : Nat)
  | [], h => absurd rfl h
  | [a], _ => by simp [maxI, maxN]
  | a :: b :: r, _ => by
    have ih := maxI_nat (l := b :: r) (by simp)
    simp only [List.map_cons] at ih ⊢
    show max (a : Int) (maxI _) = ((max a (maxN (b :: r)) : Nat) : Int)
    rw [ih]
    omega
theorem pInts_nat (l : List Nat) : pInts (l.map pN) = some (l.map fun n : Nat => (n : Int)) := by
  induction l with
  | nil => rfl
  | cons a r ih => simp only [List.map_cons, pInts, ih, Option.map_some]
noncomputable def thereD (size lost : Nat) (lead told : List Nat) (d : Nat) : Int := if size % d = 0 then col (d : Int) lead - ((size : Int) - (d : Int)) * (lost : Int) else col (d : Int) told
noncomputable def trow (size lost : Nat) (lead told : List Nat) (d : Nat) : P := .tup [pN d, .int (col (d : Int) lead), .int (thereD size lost lead told d)]
noncomputable def lens1 (lead told : List Nat) : List Nat := (splitG [9] 0 lead ++ splitG [9] 0 told).map List.length
noncomputable def topM (lead told : List Nat) : Nat := maxN (lens1 lead told) + 1
noncomputable def table1 (size lost : Nat) (lead told : List Nat) : List P := (List.range (topM lead told)).map fun k => trow size lost lead told (1 + k)
noncomputable def bodyD : List T := [.asg (.one 23) (.cal 7 [(.loc 6), (.loc 22)]),
  .ifs (.cmp .eq (.bin .mod (.loc 4) (.loc 22)) (.lit (.int (0)))) [.asg (.one 24) (.bin .sub (.loc 23) (.bin .mul (.bin .sub (.loc 4) (.loc 22)) (.loc 16)))] [.asg (.one 24) (.cal 7 [(.loc 15), (.loc 22)])],
  .ex (.sm .append (.loc 21) [(.tup [(.loc 22), (.loc 23), (.loc 24)])])]
theorem loopD {c : CX} {h : HX} {k : Nat} {o18 : Option (List Nat)} {old new : O} {tmp : List O} {all : List P} (hz : c.size ≤ 1000) : ∀ (ds : List Nat) (acc : List P) (o22 o23 o24 : Option P), (∀ d ∈ ds, 1 ≤ d ∧ d ≤ 1000) → acc.length + ds.length ≤ 5000 →
    ∃ o22' o23' o24', forL all none (.one 22) (fun loc H => exs (pg1.lvl (k + 1)) bodyD loc H) (ds.map pN) (c.L o18 (some 7) (some 8) (some 9) o22 o23 o24 none none none none) (h.H (old :: new :: .list acc :: tmp)) =
      some (.next, c.L o18 (some 7) (some 8) (some 9) o22' o23' o24' none none none none, h.H (old :: new :: .list (acc ++ ds.map (trow c.size c.lost c.lead c.told)) :: tmp)) := by
  intro ds
  induction ds with
  | nil => exact fun acc o22 o23 o24 _ _ => ⟨o22, o23, o24, by rw [List.map_nil, List.map_nil, List.append_nil]; exact forL_nil rfl⟩
  | cons d ds ih =>
    intro acc o22 o23 o24 hd hl
    obtain ⟨d1, d2⟩ := hd d (.head _)
    obtain ⟨b22, b23, b24, ih⟩ := ih (acc ++ [trow c.size c.lost c.lead c.told d]) (some (pN d)) (some (.int (col (d : Int) c.lead))) (some (.int (thereD c.size c.lost c.lead c.told d))) (fun x hx => hd x (.tail _ hx)) (by simp at hl ⊢; lia)
    refine ⟨b22, b23, b24, ?_⟩
    let Ht := h.H (old :: new :: .list acc :: tmp)
    have htg : tgt (.one 22) (.p (pN d)) (c.L o18 (some 7) (some 8) (some 9) o22 o23 o24 none none none none) Ht = some (c.L o18 (some 7) (some 8) (some 9) (some (pN d)) o23 o24 none none none none, Ht) := rfl
    have hcol : ∀ l, (pg1.lvl (k + 1)).call 7 [.p (.str l), .p (pN d)] Ht = some (.p (.int (col (d : Int) l)), Ht) := fun l => lvl_call (f := 7) rfl (run_column (by lia))
    have s1 : ex (pg1.lvl (k + 1)) (.asg (.one 23) (.cal 7 [(.loc 6), (.loc 22)])) (c.L o18 (some 7) (some 8) (some 9) (some (pN d)) o23 o24 none none none none) Ht = some (.next, c.L o18 (some 7) (some 8) (some 9) (some (pN d)) (some (.int (col (d : Int) c.lead))) o24 none none none none, Ht) :=
      ex_asg (ev_cal (evs_cons (ev_loc rfl) (evs_cons (ev_loc rfl) (evs_nil _ _ _))) (hcol _)) rfl
    have s2 : ex (pg1.lvl (k + 1)) (.ifs (.cmp .eq (.bin .mod (.loc 4) (.loc 22)) (.lit (.int (0)))) [.asg (.one 24) (.bin .sub (.loc 23) (.bin .mul (.bin .sub (.loc 4) (.loc 22)) (.loc 16)))] [.asg (.one 24) (.cal 7 [(.loc 15), (.loc 22)])]) (c.L o18 (some 7) (some 8) (some 9) (some (pN d)) (some (.int (col (d : Int) c.lead))) o24 none none none none) Ht = some (.next, c.L o18 (some 7) (some 8) (some 9) (some (pN d)) (some (.int (col (d : Int) c.lead))) (some (.int (thereD c.size c.lost c.lead c.told d))) none none none none, Ht) := by
      have cond : ∀ L : List (Option V), L[4]? = some (some (.p (pN c.size))) → L[22]? = some (some (.p (pN d))) → evT (pg1.lvl (k + 1)) L (.cmp .eq (.bin .mod (.loc 4) (.loc 22)) (.lit (.int (0)))) (ev (pg1.lvl (k + 1)) L (.cmp .eq (.bin .mod (.loc 4) (.loc 22)) (.lit (.int (0)))) Ht) Ht = some (decide (c.size % d = 0), Ht) := fun L h1 h2 => by
        refine evT_cmp (ev_bin (ev_loc h1) (ev_loc h2) (modV (by lia))) rfl ?_
        simp only [cmpV, eqP, cmpP, pint_mk, Option.bind_some]
        congr 1
        rw [Bool.eq_iff_iff, beq_iff_eq, decide_eq_true_eq]
        lia
      by_cases hm : c.size % d = 0
      · refine ex_ifT (by rw [cond _ rfl rfl, decide_eq_true hm]) ?_
        have ok9 : oki ((c.size : Int) - (d : Int)) = true := oki_of (by lia)
        refine exs_step (ex_asg (ev_bin (ev_loc rfl) (ev_bin (ev_bin (ev_loc rfl) (ev_loc rfl) rfl) (ev_loc rfl) (z := (.p (.int (((c.size : Int) - (d : Int)) * (c.lost : Int))), Ht)) (by simp only [binV, binP, ok9, if_true, Option.bind_some, mulP, pint_mk, pl_mk])) rfl) rfl) (gc_same _ _) ?_
        unfold thereD
        rw [if_pos hm]
        rfl
      · refine ex_ifF (by rw [cond _ rfl rfl, decide_eq_false hm]) ?_
        refine exs_step (ex_asg (ev_cal (evs_cons (ev_loc rfl) (evs_cons (ev_loc rfl) (evs_nil _ _ _))) (hcol _)) rfl) (gc_same _ _) ?_
        unfold thereD
        rw [if_neg hm]
        rfl
    let L3 := c.L o18 (some 7) (some 8) (some 9) (some (pN d)) (some (.int (col (d : Int) c.lead))) (some (.int (thereD c.size c.lost c.lead c.told d))) none none none none
    have s3 : ex (pg1.lvl (k + 1)) (.ex (.sm .append (.loc 21) [(.tup [(.loc 22), (.loc 23), (.loc 24)])])) L3 Ht = some (.next, L3, h.H (old :: new :: .list (acc ++ [trow c.size c.lost c.lead c.told d]) :: tmp)) := by
      have et : ev (pg1.lvl (k + 1)) L3 (.tup [(.loc 22), (.loc 23), (.loc 24)]) Ht = some (.p (trow c.size c.lost c.lead c.told d), Ht) := by
        rw [ev_tupE, evs_cons (ev_loc (v := .p (pN d)) rfl) (evs_cons (ev_loc (v := .p (.int (col (d : Int) c.lead))) rfl) (evs_cons (ev_loc (v := .p (.int (thereD c.size c.lost c.lead c.told d))) rfl) (evs_nil _ _ _)))]
        rfl
      refine (ex_ex (ev_append (r := 9) rfl (l₀ := acc) rfl et (l := acc) rfl (ok_of (by simp at hl; lia)))).trans ?_
      rfl
    have gl : ∀ {L : List (Option V)} {acc' : List P}, gc Ht.length L (h.H (old :: new :: .list acc' :: tmp)) = h.H (old :: new :: .list acc' :: tmp) := fun {L acc'} => by
      unfold gc
      refine List.take_of_length_le (Nat.le_trans ?_ (Nat.le_max_left _ _))
      simp [Ht, HX_len]
    have hb : exs (pg1.lvl (k + 1)) bodyD (c.L o18 (some 7) (some 8) (some 9) (some (pN d)) o23 o24 none none none none) Ht = some (.next, L3, h.H (old :: new :: .list (acc ++ [trow c.size c.lost c.lead c.told d]) :: tmp)) :=
      exs_step s1 gl (exs_step s2 gl (exs_step s3 gl rfl))
    rw [List.append_assoc] at ih
    exact forL_go rfl htg hb (.inl rfl) ih
theorem partD {c : CX} {h : HX} {k : Nat} {o18 : Option (List Nat)} (hz : c.size ≤ 1000) (hM : topM c.lead c.told ≤ 900) (hn : (splitG [9] 0 c.lead ++ splitG [9] 0 c.told).length ≤ 2000) (hne : splitG [9] 0 c.lead ≠ []) (hlen : ∀ l ∈ splitG [9] 0 c.lead ++ splitG [9] 0 c.told, l.length ≤ 1000) :
    ∃ o22 o23 o24, exs (pg1.lvl (k + 1)) [st21] (c.L o18 (some 7) (some 8) (some 9) none none none none none none none) (h.H [.list (strsP (splitG [9] 0 c.lead)), .list (strsP (splitG [9] 0 c.told)), .list []]) =
      some (.next, c.L o18 (some 7) (some 8) (some 9) o22 o23 o24 none none none none, h.H [.list (strsP (splitG [9] 0 c.lead)), .list (strsP (splitG [9] 0 c.told)), .list (table1 c.size c.lost c.lead c.told)]) := by
  let g := pg1.lvl (k + 1)
  let sp := splitG [9] 0 c.lead ++ splitG [9] 0 c.told
  let old : O := .list (strsP (splitG [9] 0 c.lead))
  let new : O := .list (strsP (splitG [9] 0 c.told))
  let L0 := c.L o18 (some 7) (some 8) (some 9) none none none none none none none
  let tmp : List O := [.list (strsP sp), .list ((lens1 c.lead c.told).map pN)]
  obtain ⟨o22, o23, o24, hloop⟩ := loopD (c := c) (h := h) (k := k) (o18 := o18) (old := old) (new := new) (tmp := tmp) (all := (List.range (topM c.lead c.told)).map fun j => pN (1 + j)) hz ((List.range (topM c.lead c.told)).map (1 + ·)) [] none none none (fun d hd => by
    obtain ⟨j, hj, rfl⟩ := List.mem_map.mp hd
    have := List.mem_range.mp hj
    lia) (by simp; exact Nat.le_trans ‹_› (by decide))
  refine ⟨o22, o23, o24, ?_⟩
  have e1 : ev g L0 (.bin .add (.loc 19) (.loc 20)) (h.H [old, new, .list []]) = some (.ref 10, h.H [old, new, .list [], .list (strsP sp)]) := by
    refine ev_bin (x := .ref 7) (y := .ref 8) (ev_loc rfl) (ev_loc rfl) ?_
    have g1 : getL (h.H [old, new, .list []]) 7 = some (strsP (splitG [9] 0 c.lead)) := rfl
    have g2 : getL (h.H [old, new, .list []]) 8 = some (strsP (splitG [9] 0 c.told)) := rfl
    have okk : ok ((strsP (splitG [9] 0 c.lead)).length + (strsP (splitG [9] 0 c.told)).length) = true := ok_of (by simp only [strsP, List.length_map, List.length_append] at hn ⊢; exact Nat.le_trans ‹_› (by decide))
    simp only [binV, g1, g2, Option.bind_some, okk, if_true, binR, lst_mk]
    simp [HX.H, HB, strsP, sp]
  have e2 : ev g L0 (.comp [none] (.bi .len [(.loc 0)]) (.one 0) (.bin .add (.loc 19) (.loc 20)) []) (h.H [old, new, .list []]) = some (.ref 11, h.H (old :: new :: .list [] :: tmp)) := by
    have := ev_comp0 (g := g) (L := L0) (fr := [none]) (t := .one 0) (elt := .bi .len [(.loc 0)]) (w := some 10) (items := strsP sp) (fun p => match p with | .str l => pN l.length | p => p) (fun l => l.length = 1) (by rfl) e1 rfl (stays_of rfl) rfl (by have : sp.length ≤ 2000 := hn; simp only [strsP, List.length_map]; exact Nat.le_trans ‹_› (by decide)) (by
      intro x hx loc K hl
      obtain ⟨o, rfl⟩ := List.length_eq_one_iff.mp hl
      obtain ⟨l, hl, rfl⟩ := List.mem_map.mp hx
      refine ⟨[some (.p (.str l))], rfl, rfl, ?_⟩
      refine ev_bi (evs_cons (ev_loc rfl) (evs_nil _ _ _)) ?_
      simp only [biV, ok_of (show l.length ≤ 1000000 by have := hlen l hl; exact Nat.le_trans ‹_› (by decide)), if_true, biA, lenV, lenP, nul_mk, Option.bind_some])
    refine this.trans ?_
    have e : ((strsP sp).map fun p => match p with | .str l => pN l.length | p => p) = (lens1 c.lead c.told).map pN := by
      simp only [strsP, lens1, List.map_map, sp]
      rfl
    rw [e]
    rfl
  have e3 : ev g L0 (.bi .max [(.comp [none] (.bi .len [(.loc 0)]) (.one 0) (.bin .add (.loc 19) (.loc 20)) [])]) (h.H [old, new, .list []]) = some (.p (pN (maxN (lens1 c.lead c.told))), h.H (old :: new :: .list [] :: tmp)) := by
    refine ev_bi (evs_cons e2 (evs_nil _ _ _)) ?_
    have hl0 : lens1 c.lead c.told ≠ [] := by simp [lens1, hne]
    have g1 : getL (h.H (old :: new :: .list [] :: tmp)) 11 = some ((lens1 c.lead c.told).map pN) := rfl
    simp only [biV, g1, Option.bind_some, pInts_nat, biA, maxV, lst_mk]
    rw [if_neg (by simp [hl0]), maxI_nat hl0]
  have hr : rngL 1 ((maxN (lens1 c.lead c.told) + 2 : Nat) : Int) = ((List.range (topM c.lead c.told)).map (1 + ·)).map pN := by
    unfold rngL
    rw [show (((maxN (lens1 c.lead c.told) + 2 : Nat) : Int) - 1).toNat = topM c.lead c.told by unfold topM; lia, List.map_map]
    refine List.map_congr_left fun j _ => ?_
    simp
  have hM' : maxN (lens1 c.lead c.told) + 1 ≤ 900 := hM
  have s21 : ex g st21 L0 (h.H [old, new, .list []]) = some (.next, c.L o18 (some 7) (some 8) (some 9) o22 o23 o24 none none none none, h.H (old :: new :: .list (table1 c.size c.lost c.lead c.told) :: tmp)) := by
    have o1 : oki 1 = true := by decide
    have o2 := oki_nat (show maxN (lens1 c.lead c.told) + 2 ≤ 1000000 by lia)
    refine ex_for (v := .rng 1 ((maxN (lens1 c.lead c.told) + 2 : Nat) : Int)) (H₁ := h.H (old :: new :: .list [] :: tmp)) (ps := ((List.range (topM c.lead c.told)).map (1 + ·)).map pN) (w := none) (ev_bi (evs_cons rfl (evs_cons (ev_bin e3 rfl (addN (b := 2))) (evs_nil _ _ _))) ?_) ?_ ?_
    · exact biV_range2 o1 o2
    · simp only [itemsOf, o1, o2, Bool.and_self, if_true, hr]
    · have : (List.range (topM c.lead c.told)).map (fun j => pN (1 + j)) = ((List.range (topM c.lead c.told)).map (1 + ·)).map pN := by rw [List.map_map]; rfl
      rw [this] at hloop
      refine hloop.trans ?_
      rw [List.nil_append, List.map_map]
      rfl
  exact exs_step s21 (gcX (t := [old, new, .list (table1 c.size c.lost c.lead c.told)]) (by rw [lb_CX, HX_len]; rfl) ⟨tmp, rfl⟩) rfl
end Mine
end
section
open PySem PySem.W PyProof.Rows PyProof.V
set_option Elab.async false
set_option maxRecDepth 20000
set_option linter.unusedSimpArgs false
namespace Mine
noncomputable abbrev Tr := Int × Int × Int
noncomputable def tp (r : Tr) : P := .tup [.int r.1, .int r.2.1, .int r.2.2]
theorem tp_ok (l : List Tr) : (l.map tp).all (P.okAt 7) = true := by
  rw [List.all_eq_true]
  intro x hx
  obtain ⟨r, _, rfl⟩ := List.mem_map.mp hx
  rfl
noncomputable def tab1 (size lost : Nat) (lead told : List Nat) : List Tr := (List.range (topM lead told)).map fun k => (((1 + k : Nat) : Int), col ((1 + k : Nat) : Int) lead, thereD size lost lead told (1 + k))
theorem table1_tab (size lost : Nat) (lead told : List Nat) : table1 size lost lead told = (tab1 size lost lead told).map tp := by
  unfold table1 tab1
  rw [List.map_map]
  rfl
noncomputable def witT (w u : Ws) (c : Int → Bool) : List Tr := ((rngI 1 (topN w u + 1)).filter c).map fun ts => (ts, w.ind ts, u.ind ts)
theorem wits_T (w u : Ws) (c : Int → Bool) : wits w u c = (witT w u c).map tp := by
  unfold wits witT
  rw [List.map_map]
  rfl
noncomputable def cOp (o : COp) (a b : Int) : Bool := (cmpP o (.int a) (.int b)).getD false
noncomputable def okOp (o : COp) : Prop := o = .ne ∨ o = .gt ∨ o = .lt
theorem cmp_op {o : COp} (h : okOp o) (a b : Int) (H : List O) : cmpV o (.p (.int a)) (.p (.int b)) H = some (cOp o a b) := by
  rcases h with rfl | rfl | rfl <;> rfl
noncomputable def keepR (o : COp) (p : P) : Option P := (p.tup?.bind fun l => l.tail?.bind two).bind fun q => q.1.int?.bind fun b => q.2.int?.bind fun c => if cOp o b c then some p else none
theorem cOp_gt (a b : Int) : cOp .gt a b = decide (b < a) := rfl
theorem cOp_lt (a b : Int) : cOp .lt a b = decide (a < b) := rfl
theorem keep_tp (o : COp) (a b c : Int) : keepR o (tp (a, b, c)) = if cOp o b c then some (tp (a, b, c)) else none := rfl
/-- rows of the table of a kind -/
theorem ev_rows {g : G} {L : List (Option V)} {H : List O} {r i : Nat} {tab : List Tr} {o : COp} (ho : okOp o) (hi : L[i]? = some (some (.ref r))) (hr : getL H r = some (tab.map tp)) (hn : tab.length ≤ 100000) :
    ev g L (.comp [none] (.loc 0) (.one 0) (.loc i) [(.cmp o (.idx (.loc 0) (.lit (.int (1)))) (.idx (.loc 0) (.lit (.int (2)))))]) H = some (.ref H.length, H ++ [.list ((tab.filter fun x => cOp o x.2.1 x.2.2).map tp)]) := by
  have h := ev_comp (g := g) (L := L) (fr := [none]) (elt := .loc 0) (it := .loc i) (t := .one 0) (H := H) (H₁ := H) (v := .ref r) (items := tab.map tp) (w := some r) (cs := [(.cmp o (.idx (.loc 0) (.lit (.int (1)))) (.idx (.loc 0) (.lit (.int (2)))))])
    (keepR o) (fun l => l.length = 1) rfl (ev_loc hi) (by simp only [itemsOf, hr, Option.map_some]) (stays_of hr) rfl (by rw [List.length_map]; exact Nat.le_trans ‹_› (by decide)) (by
      intro x hx loc acc hl ha
      obtain ⟨u, rfl⟩ := List.length_eq_one_iff.mp hl
      obtain ⟨⟨a, b, c⟩, hm, rfl⟩ := List.mem_map.mp hx
      refine ⟨[some (.p (tp (a, b, c)))], rfl, rfl, ?_⟩
      have i1 : ev g [some (.p (tp (a, b, c)))] (.idx (.loc 0) (.lit (.int (1)))) (H ++ [.list acc]) = some (.p (.int b), H ++ [.list acc]) := rfl
      have i2 : ev g [some (.p (tp (a, b, c)))] (.idx (.loc 0) (.lit (.int (2)))) (H ++ [.list acc]) = some (.p (.int c), H ++ [.list acc]) := rfl
      have hc := evT_cmp i1 i2 (cmp_op ho b c _)
      have hC : evC g [some (.p (tp (a, b, c)))] [(.cmp o (.idx (.loc 0) (.lit (.int (1)))) (.idx (.loc 0) (.lit (.int (2)))))] (H ++ [O.list acc]) = some (cOp o b c, H ++ [O.list acc]) := evC_cons hc (by cases cOp o b c <;> rfl)
      rw [hC, keep_tp]
      cases hcc : cOp o b c with
      | true =>
        simp only [if_true, ev_locE, List.getElem?_cons_zero, Option.bind_some, addTo_last ha, Option.join_some]
        rfl
      | false =>
        simp)
  rw [h]
  congr 4
  refine congrArg O.list ?_
  clear hr h
  induction tab with
  | nil => rfl
  | cons a r ih =>
    have ih := ih (by simp at hn; exact Nat.le_trans ‹_› (by decide))
    obtain ⟨a, b, c⟩ := a
    rw [List.map_cons, List.filterMap_cons, List.filter_cons, keep_tp]
    show _ = List.map tp (if cOp o b c = true then _ else _)
    cases hc : cOp o b c with
    | true => exact congrArg (tp (a, b, c) :: ·) ih
    | false => exact ih
theorem ev_ws {k : Nat} {L : List (Option V)} {e : E} {H H₁ : List O} {s : List Nat} (h : ev (pg1.lvl (k + 1)) L e H = some (.p (.str s), H₁)) (hl : s.length ≤ 900) : ev (pg1.lvl (k + 1)) L (.new [e]) H = some (.obj H₁.length, H₁ ++ [.inst (wsOf s).fs]) :=
  ev_new (evs_cons h (evs_nil _ _ _)) (lvl_call (f := 10) rfl (run_init hl))
theorem fs_neq (w : Ws) : w.fs.lookup (Str.ofString "not_equal_witness") = none := rfl
theorem fs_equal (w : Ws) : w.fs.lookup (Str.ofString "equal") = none := rfl
theorem fs_less (w : Ws) : w.fs.lookup (Str.ofString "less") = none := rfl
structure OkW (w : Ws) : Prop where
  c1 : 1 ≤ w.cnt.length
  c2 : w.cnt.length ≤ 900
  b : w.b ≤ 900
theorem ev_neqV {k : Nat} {L : List (Option V)} {H : List O} {i j r q : Nat} {w u : Ws} (hi : L[i]? = some (some (.obj r))) (hj : L[j]? = some (some (.obj q))) (h1 : At1 H r w) (h2 : At1 H q u) (o1 : OkW w) (o2 : OkW u) :
    ev (pg1.lvl (k + 2)) L (.mth 14 (Str.ofString "not_equal_witness") (.loc i) [(.loc j)]) H = some (.ref H.length, H ++ [.list ((witT w u fun ts => !(w.ind ts == u.ind ts)).map tp)]) := by
  rw [← wits_T]
  exact ev_mth (ev_loc hi) h1.f (fs_neq w) (evs_cons (ev_loc hj) (evs_nil _ _ _)) (lvl_call (f := 14) rfl (run_neq h1 h2 o1.c2 o2.c2 o1.b o2.b o1.c1))
theorem ev_equalV {k : Nat} {L : List (Option V)} {H : List O} {i j r q : Nat} {w u : Ws} (hi : L[i]? = some (some (.obj r))) (hj : L[j]? = some (some (.obj q))) (h1 : At1 H r w) (h2 : At1 H q u) :
    ev (pg1.lvl (k + 1)) L (.mth 13 (Str.ofString "equal") (.loc i) [(.loc j)]) H = some (.p (.bool (w.norm.beq u.norm)), H) :=
  ev_mth (ev_loc hi) h1.f (fs_equal w) (evs_cons (ev_loc hj) (evs_nil _ _ _)) (lvl_call (f := 13) rfl (run_equal h1 h2))
theorem ev_lessV {k : Nat} {L : List (Option V)} {H H₁ : List O} {i r q : Nat} {e : E} {w u : Ws} (hi : L[i]? = some (some (.obj r))) (h0 : At1 H r w) (he : ev (pg1.lvl (k + 2)) L e H = some (.obj q, H₁)) (h1 : At1 H₁ r w) (h2 : At1 H₁ q u) (o1 : OkW w) (o2 : OkW u) :
    ev (pg1.lvl (k + 2)) L (.mth 15 (Str.ofString "less") (.loc i) [e]) H = some (.p (.bool (lessB w u)), H₁) :=
  ev_mth (ev_loc hi) h0.f (fs_less w) (evs_cons he (evs_nil _ _ _)) (lvl_call (f := 15) rfl (run_less h1 h2 o1.c2 o2.c2 o1.b o2.b o1.c1))
theorem isn_V (a b : Bool) (H : List O) : cmpV .isn (.p (.bool a)) (.p (.bool b)) H = some (!(a == b)) := rfl
/-- all ints -/
theorem ev_ints {g : G} {L : List (Option V)} {H : List O} {r i : Nat} {tab : List Tr} (hi : L[i]? = some (some (.ref r))) (hr : getL H r = some (tab.map tp)) (hn : tab.length ≤ 100000) :
    ev g L (.comp2 [none, none] (.loc 1) (.one 0) (.loc i) (.one 1) (.loc 0) [(.not (.bi .isint [(.loc 1)]))]) H = some (.ref H.length, H ++ [.list []]) := by
  have hrun := cmpL_run (all := tab.map tp) (w := some r) (t := .one 0) (turn := fun l K => if tgFree (.one 1) l then (ev g l (.loc 0) K).bind fun x2 => (itemsOf x2.1 x2.2).bind fun q2 =>
        cmpL q2.1 q2.2 (.one 1) (fun l K => (evC g l [(.not (.bi .isint [(.loc 1)]))] K).bind fun b => if b.1 then (ev g l (.loc 1) b.2).bind fun v => addTo H.length v.1 v.2 else some b.2) l q2.1 x2.2 else none)
    (H := H) (fun _ => none) (fun l => ∃ u, l = [u, none]) (stays_of hr) (items := tab.map tp) (acc := []) (loc := [none, none]) ⟨none, rfl⟩ (by rw [List.length_nil, List.length_map]; lia) (by
      intro x hx loc acc hl ha
      obtain ⟨u, rfl⟩ := hl
      obtain ⟨⟨a, b, c⟩, hm, rfl⟩ := List.mem_map.mp hx
      refine ⟨[some (.p (tp (a, b, c))), none], ⟨_, rfl⟩, rfl, ?_⟩
      rw [show (acc ++ (none : Option P).toList) = acc by simp]
      rfl)
  rw [ev_comp2E, if_pos (show frOk [none, none] L = true from rfl), ev_loc hi]
  have hio : itemsOf (.ref r) H = some (tab.map tp, some r) := by simp only [itemsOf, hr, Option.map_some]
  simp only [Option.bind_some, hio]
  rw [show frOf [none, none] L = [none, none] from rfl]
  have hfm : (tab.map tp).filterMap (fun _ => (none : Option P)) = [] := by simp
  rw [hfm, List.append_nil] at hrun
  rw [hrun]
  simp only [Option.bind_some]
  rw [List.take_of_length_le (by simp)]
end Mine
end
section
open PySem PySem.W PyProof.Rows PyProof.V
set_option Elab.async false
set_option maxRecDepth 20000
set_option linter.unusedSimpArgs false
namespace Mine
/-- what is left to show, with no program in sight -/
structure Plain1 (size lost : Nat) (lead told wd : List Nat) : Prop where
  w1 : OkW (wsOf (lead ++ wd))
  w2 : OkW (wsOf (told ++ wd))
  w3 : OkW (wsOf (told ++ [32] ++ wd))
  w4 : OkW (wsOf (lead ++ [32] ++ wd))
  w5 : OkW (wsOf (told ++ [120, 32]))
  w6 : OkW (wsOf ([32] ++ lead ++ wd))
  w7 : OkW (wsOf ([9] ++ lead ++ wd))
  e1 : witT (wsOf (lead ++ wd)) (wsOf (told ++ wd)) (fun ts => !((wsOf (lead ++ wd)).ind ts == (wsOf (told ++ wd)).ind ts)) = (tab1 size lost lead told).filter fun x => cOp .ne x.2.1 x.2.2
  e2 : (wsOf (lead ++ wd)).norm.beq (wsOf (told ++ wd)).norm = beqs ((srt (splitG [9] 0 lead).dropLast).map P.str) ((srt (splitG [9] 0 told).dropLast).map P.str)
  e3 : (wsOf (lead ++ wd)).norm.beq (wsOf (told ++ [32] ++ wd)).norm = false
  e4 : lessB (wsOf (lead ++ wd)) (wsOf (told ++ [32] ++ wd)) = ((tab1 size lost lead told).filter fun x => cOp .gt x.2.1 x.2.2).isEmpty
  e5 : lessB (wsOf (told ++ wd)) (wsOf (lead ++ [32] ++ wd)) = ((tab1 size lost lead told).filter fun x => cOp .lt x.2.1 x.2.2).isEmpty
  e6 : lessB (wsOf (lead ++ wd)) (wsOf (told ++ [120, 32])) = false
  e7 : lessB (wsOf (lead ++ wd)) (wsOf ([32] ++ lead ++ wd)) = false
  e8 : lessB (wsOf (lead ++ wd)) (wsOf ([9] ++ lead ++ wd)) = true
  n1 : 2 ≤ (splitG [9] 0 lead).dropLast.length ∧ (splitG [9] 0 lead).length ≤ 60
  n2 : 2 ≤ (splitG [9] 0 told).dropLast.length ∧ (splitG [9] 0 told).length ≤ 60
  l1 : lead.length ≤ 800
  l2 : told.length ≤ 800
  l3 : wd.length ≤ 2
  tt : (tab1 size lost lead told).length ≤ 1000
  a1 : ∀ c ∈ lead, c < 128
  a2 : ∀ c ∈ told, c < 128
theorem beqs_nil (l : List Tr) : beqs (l.map tp) [] = l.isEmpty := by rw [Bool.eq_iff_iff, beqs_iff]; simp
theorem split_mem {c : Nat} : ∀ {l : List Nat} {x : List Nat}, x ∈ splitG [c] 0 l → ∀ a ∈ x, a ∈ l
  | [], x, h, a, ha => by simp [splitG] at h; subst h; cases ha
  | b :: r, x, h, a, ha => by
    by_cases hb : b = c
    · subst hb
      rw [split_hit] at h
      rcases List.mem_cons.mp h with rfl | h
      · cases ha
      · exact .tail _ (split_mem h a ha)
    · rw [split_miss hb] at h
      obtain ⟨y, q, e⟩ := splitG_ne [c] r 0
      rw [e] at h
      rcases List.mem_cons.mp h with rfl | h
      · rcases List.mem_cons.mp ha with rfl | ha
        · exact .head _
        · exact .tail _ (split_mem (x := y) (by rw [e]; exact .head _) a ha)
      · exact .tail _ (split_mem (by rw [e]; exact .tail _ h) a ha)
theorem HX_app {h : HX} {t r : List O} : h.H t ++ r = h.H (t ++ r) := rfl
theorem ev_empty {g : G} {L : List (Option V)} {h : HX} {T : List O} {r i : Nat} {tab : List Tr} {o : COp} (ho : okOp o) (hi : L[i]? = some (some (.ref r))) (hg : getL (h.H T) r = some (tab.map tp)) (tl : tab.length ≤ 100000) :
    ∃ K, ev g L (.cmp .eq (.comp [none] (.loc 0) (.one 0) (.loc i) [(.cmp o (.idx (.loc 0) (.lit (.int (1)))) (.idx (.loc 0) (.lit (.int (2)))))]) (.lst [])) (h.H T) = some (.p (.bool (tab.filter fun x => cOp o x.2.1 x.2.2).isEmpty), h.H (T ++ K)) := by
  have a1 := ev_rows (g := g) (L := L) (H := h.H T) ho hi hg tl
  generalize hF : (tab.filter fun x => cOp o x.2.1 x.2.2) = F at a1 ⊢
  have a2 : ev g L (.lst []) (h.H T ++ [O.list (F.map tp)]) = some (.ref (h.H T ++ [O.list (F.map tp)]).length, h.H T ++ [O.list (F.map tp)] ++ [O.list []]) := by
    simp [ev_lstE, evs_nilE, allP, ok_0, Option.bind_some]
  refine ⟨[.list (F.map tp), .list []], (ev_cmp a1 a2 (cmp_eqV (x := F.map tp) (y := []) (getL_app (getL_last _ _) _) (getL_last _ _) (tp_ok _) rfl)).trans ?_⟩
  rw [beqs_nil, HX_app, HX_app, List.append_assoc]
  rfl
set_option maxHeartbeats 1000000 in
theorem partE {c : CX} {h : HX} {k : Nat} {o22 o23 o24 : Option P} (F : Plain1 c.size c.lost c.lead c.told c.wd) :
    ∃ L' H', exs (pg1.lvl (k + 2)) [st22, st23, st24, st25, st26, st27, st28, st29, st30, st31, st32, st33, st34] (c.L (some (c.told ++ c.wd)) (some 7) (some 8) (some 9) o22 o23 o24 none none none none) (h.H [.list (strsP (splitG [9] 0 c.lead)), .list (strsP (splitG [9] 0 c.told)), .list (table1 c.size c.lost c.lead c.told)]) = some (.ret (.p (.bool true)), L', H') := by
  let g := pg1.lvl (k + 2)
  let old : O := .list (strsP (splitG [9] 0 c.lead))
  let new : O := .list (strsP (splitG [9] 0 c.told))
  let tab := tab1 c.size c.lost c.lead c.told
  let tb : O := .list (tab.map tp)
  have htb : O.list (table1 c.size c.lost c.lead c.told) = tb := by rw [table1_tab]
  rw [htb]
  let W1 := wsOf (c.lead ++ c.wd)
  let W2 := wsOf (c.told ++ c.wd)
  let W3 := wsOf (c.told ++ [32] ++ c.wd)
  have l1 := F.l1
  have l2 := F.l2
  have l3 := F.l3
  have okN : ∀ x, okOp x → True := fun _ _ => trivial
  let rd := some (c.told ++ c.wd)
  let L0 := c.L rd (some 7) (some 8) (some 9) o22 o23 o24 none none none none
  let L1 := c.L rd (some 7) (some 8) (some 9) o22 o23 o24 (some 10) none none none
  let L2 := c.L rd (some 7) (some 8) (some 9) o22 o23 o24 (some 10) (some 11) none none
  let L3 := c.L rd (some 7) (some 8) (some 9) o22 o23 o24 (some 10) (some 11) (some 12) none
  let L4 := c.L rd (some 7) (some 8) (some 9) o22 o23 o24 (some 10) (some 11) (some 12) (some 13)
  let fnd := tab.filter fun x => cOp .ne x.2.1 x.2.2
  let H0 := h.H [old, new, tb]
  let H1 := h.H [old, new, tb, .inst W1.fs]
  let H2 := h.H [old, new, tb, .inst W1.fs, .inst W2.fs]
  let H3 := h.H [old, new, tb, .inst W1.fs, .inst W2.fs, .list (fnd.map tp)]
  let H4 := h.H [old, new, tb, .inst W1.fs, .inst W2.fs, .list (fnd.map tp), .inst W3.fs]
  have tl : tab.length ≤ 100000 := Nat.le_trans F.tt (by decide)
  have fl : fnd.length ≤ 100000 := Nat.le_trans (List.length_filter_le _ _) tl
  have gr : ∀ {L : List (Option V)} {t t' : List O} {n : Nat}, n = t.length + 7 → lb L ≤ n → t <+: t' → gc n L (h.H t') = h.H t := fun {L t t' n} hn hl hp => gcX (by lia) hp
  have lb3 : lb L3 = 13 := lb_CX
  have lb4 : lb L4 = 14 := lb_CX
  have s22 : ex g st22 L0 H0 = some (.next, L1, H1) := ex_asg (ev_ws (ev_bin (ev_loc rfl) (ev_loc rfl) (add_strV (by lia))) (by rw [List.length_append]; lia)) rfl
  have s23 : ex g st23 L1 H1 = some (.next, L2, H2) := ex_asg (ev_ws (s := c.told ++ c.wd) (ev_loc rfl) (by rw [List.length_append]; lia)) rfl
  have s24 : ex g st24 L2 H2 = some (.next, L3, H3) := by
    have e := ev_neqV (k := k) (L := L2) (H := H2) (i := 25) (j := 26) (r := 10) (q := 11) (w := W1) (u := W2) rfl rfl rfl rfl F.w1 F.w2
    have e1 : witT W1 W2 (fun ts => !(W1.ind ts == W2.ind ts)) = fnd := F.e1
    rw [e1] at e
    exact ex_asg e rfl
  have s25 : ∃ K, ex g st25 L3 H3 = some (.next, L3, h.H ([old, new, tb, .inst W1.fs, .inst W2.fs, .list (fnd.map tp)] ++ K)) := by
    refine ⟨[.list (fnd.map tp)], ex_ifF (evT_cmp (x := .ref 12) (y := .ref 13) (H₂ := h.H ([old, new, tb, .inst W1.fs, .inst W2.fs, .list (fnd.map tp)] ++ [.list (fnd.map tp)])) (ev_loc rfl) (ev_rows (.inl rfl) rfl (tab := tab) rfl tl) (z := false) ?_) rfl⟩
    refine (cmp_neV (x := fnd.map tp) (y := fnd.map tp) rfl rfl (tp_ok _) (tp_ok _)).trans ?_
    rw [beqs_refl]
    rfl
  obtain ⟨K25, s25⟩ := s25
  have s26 : ∃ K, ex g st26 L3 H3 = some (.next, L3, h.H ([old, new, tb, .inst W1.fs, .inst W2.fs, .list (fnd.map tp)] ++ K)) := by
    refine ⟨[.list [], .list []], ex_ifF (evT_cmp (x := .ref 13) (y := .ref 14) (ev_ints rfl (tab := fnd) rfl fl) rfl (z := false) ((cmp_neV (x := []) (y := []) rfl rfl rfl rfl).trans (by rw [beqs_refl]; rfl))) rfl⟩
  obtain ⟨K26, s26⟩ := s26
  have s27 : ∃ K, ex g st27 L3 H3 = some (.next, L3, h.H ([old, new, tb, .inst W1.fs, .inst W2.fs, .list (fnd.map tp)] ++ K)) := by
    let oD := (splitG [9] 0 c.lead).dropLast
    let nD := (splitG [9] 0 c.told).dropLast
    let T0 : List O := [old, new, tb, .inst W1.fs, .inst W2.fs, .list (fnd.map tp)]
    have n1 := F.n1
    have n2 := F.n2
    have sortE : ∀ (i r : Nat) (sp : List (List Nat)) (T : List O), L3[i]? = some (some (.ref r)) → getL (h.H T) r = some (strsP sp) → 2 ≤ sp.dropLast.length ∧ sp.length ≤ 60 → ev g L3 (.bi .sorted [(.sl (.loc i) none (some (.neg (.lit (.int (1))))))]) (h.H T) = some (.ref (T.length + 8), h.H (T ++ [.list (strsP sp.dropLast), .list ((srt sp.dropLast).map P.str)])) := by
      intro i r sp T hi hr hn
      have a1 : ev g L3 (.sl (.loc i) none (some (.neg (.lit (.int (1)))))) (h.H T) = some (.ref (T.length + 7), h.H (T ++ [.list (strsP sp.dropLast)])) := by
        refine ev_sl (x := .ref r) (ev_loc hi) (evo_none _ _ _) (evo_some ev_m1) ?_
        simp only [slV, bnds, oki_m1, if_true, Option.bind_some, hr, ok_of (show (strsP sp).length ≤ 1000000 by simp only [strsP, List.length_map]; lia), cut_m1, HX_len, slA, int_mk]
        simp [strsP, HX.H, HB, List.map_dropLast]
      refine ev_bi (evs_cons a1 (evs_nil _ _ _)) ?_
      have hg : getL (h.H (T ++ [.list (strsP sp.dropLast)])) (T.length + 7) = some (strsP sp.dropLast) := by
        have e : h.H (T ++ [.list (strsP sp.dropLast)]) = h.H T ++ [.list (strsP sp.dropLast)] := by simp [HX.H, HB]
        rw [e, show T.length + 7 = (h.H T).length by rw [HX_len], getL_last]
      have hd : decide (2 ≤ sp.dropLast.length ∧ sp.dropLast.length < 64) = true := decide_eq_true ⟨hn.1, by rw [List.length_dropLast]; lia⟩
      simp only [biV, hg, Option.bind_some, biA, nul_mk, lst_mk]
      rw [show pStrs (strsP sp.dropLast) = some sp.dropLast from pStrs_str _]
      simp only [Option.bind_some, hd, if_true, HX_len]
      simp [HX.H, HB]
    have eo := sortE 19 7 (splitG [9] 0 c.lead) T0 rfl rfl n1
    have en := sortE 20 8 (splitG [9] 0 c.told) (T0 ++ [.list (strsP oD), .list ((srt oD).map P.str)]) rfl rfl n2
    let T9 : List O := T0 ++ [.list (strsP oD), .list ((srt oD).map P.str)] ++ [.list (strsP nD), .list ((srt nD).map P.str)]
    have k1 : ∀ (l : List (List Nat)), (∀ x ∈ l, ∀ a ∈ x, a < 128) → ((srt l).map P.str).all (P.okAt 7) = true := fun l hl => okAt_strs fun x hx a ha => by
      have := hl x ((List.mergeSort_perm l leS).mem_iff.mp hx) a ha
      lia
    have ce : ev g L3 (.cmp .eq (.bi .sorted [(.sl (.loc 19) none (some (.neg (.lit (.int (1))))))]) (.bi .sorted [(.sl (.loc 20) none (some (.neg (.lit (.int (1))))))])) (h.H T0) = some (.p (.bool (beqs ((srt oD).map P.str) ((srt nD).map P.str))), h.H T9) := by
      refine ev_cmp eo en (cmp_eqV rfl rfl (k1 _ ?_) (k1 _ ?_))
      · intro x hx a ha
        exact F.a1 a (split_mem ((List.dropLast_sublist _).subset hx) a ha)
      · intro x hx a ha
        exact F.a2 a (split_mem ((List.dropLast_sublist _).subset hx) a ha)
    refine ⟨[.list (strsP oD), .list ((srt oD).map P.str), .list (strsP nD), .list ((srt nD).map P.str)], ex_ifF (evT_cmp (ev_equalV (k := k + 1) (r := 10) (q := 11) (w := W1) (u := W2) rfl rfl rfl rfl) ce (z := false) ?_) rfl⟩
    rw [isn_V]
    have e2 : W1.norm.beq W2.norm = beqs ((srt oD).map P.str) ((srt nD).map P.str) := F.e2
    rw [e2]
    simp
  obtain ⟨K27, s27⟩ := s27
  have s28 : ex g st28 L3 H3 = some (.next, L4, H4) := ex_asg (ev_ws (ev_bin (ev_bin (ev_loc rfl) rfl (add_strV (a := c.told) (b := [32]) (by simp; lia))) (ev_loc rfl) (add_strV (a := c.told ++ [32]) (b := c.wd) (by simp; lia))) (by simp; lia)) rfl
  have s29 : ex g st29 L4 H4 = some (.next, L4, H4) := by
    refine ex_ifF (evT_cmp (ev_equalV (k := k + 1) (r := 10) (q := 13) (w := W1) (u := W3) rfl rfl rfl rfl) rfl (z := false) ?_) rfl
    rw [isn_V, show W1.norm.beq W3.norm = false from F.e3]
    rfl
  let T4 : List O := [old, new, tb, .inst W1.fs, .inst W2.fs, .list (fnd.map tp), .inst W3.fs]
  have emp : ∀ (o : COp) (T : List O), okOp o → getL (h.H (T4 ++ T)) 9 = some (tab.map tp) → ∃ K, ev g L4 (.cmp .eq (.comp [none] (.loc 0) (.one 0) (.loc 21) [(.cmp o (.idx (.loc 0) (.lit (.int (1)))) (.idx (.loc 0) (.lit (.int (2)))))]) (.lst [])) (h.H (T4 ++ T)) = some (.p (.bool (tab.filter fun x => cOp o x.2.1 x.2.2).isEmpty), h.H (T4 ++ K)) := by
    intro o T ho hg
    obtain ⟨K, hk⟩ := ev_empty (g := g) (L := L4) (h := h) (T := T4 ++ T) (tab := tab) (i := 21) ho rfl hg tl
    exact ⟨T ++ K, by rw [← List.append_assoc]; exact hk⟩
  have s30 : ∃ K, ex g st30 L4 H4 = some (.next, L4, h.H (T4 ++ K)) := by
    obtain ⟨K, hk⟩ := emp .gt [] (.inr (.inl rfl)) rfl
    refine ⟨K, ex_ifF (evT_cmp (ev_lessV (k := k) (r := 10) (q := 13) (w := W1) (u := W3) rfl rfl (ev_loc rfl) rfl rfl F.w1 F.w3) hk (z := false) ?_) rfl⟩
    rw [isn_V, show lessB W1 W3 = (tab.filter fun x => cOp .gt x.2.1 x.2.2).isEmpty from F.e4]
    simp
  obtain ⟨K30, s30⟩ := s30
  have s31 : ∃ K, ex g st31 L4 H4 = some (.next, L4, h.H (T4 ++ K)) := by
    let W4 := wsOf (c.lead ++ [32] ++ c.wd)
    have hW4 : ev g L4 (.new [(.bin .add (.bin .add (.loc 6) (.lit (.str [32]))) (.loc 5))]) H4 = some (.obj 14, h.H (T4 ++ [O.inst W4.fs])) := ev_ws (k := k + 1) (H₁ := H4) (ev_bin (ev_bin (ev_loc rfl) rfl (add_strV (a := c.lead) (b := [32]) (by simp; lia))) (ev_loc rfl) (add_strV (a := c.lead ++ [32]) (b := c.wd) (by simp; lia))) (by simp; lia)
    obtain ⟨K, hk⟩ := emp .lt [.inst W4.fs] (.inr (.inr rfl)) rfl
    refine ⟨K, ex_ifF (evT_cmp (ev_lessV (k := k) (r := 11) (q := 14) (w := W2) (u := W4) (H₁ := h.H (T4 ++ [O.inst W4.fs])) rfl rfl hW4 rfl rfl F.w2 F.w4) hk (z := false) ?_) rfl⟩
    rw [isn_V, show lessB W2 W4 = (tab.filter fun x => cOp .lt x.2.1 x.2.2).isEmpty from F.e5]
    simp
  obtain ⟨K31, s31⟩ := s31
  have s32 : ∃ K, ex g st32 L4 H4 = some (.next, L4, h.H (T4 ++ K)) := by
    let W5 := wsOf (c.told ++ [120, 32])
    have hW5 : ev g L4 (.new [(.bin .add (.loc 15) (.lit (.str [120, 32])))]) H4 = some (.obj 14, h.H (T4 ++ [O.inst W5.fs])) := ev_ws (k := k + 1) (H₁ := H4) (ev_bin (ev_loc rfl) rfl (add_strV (a := c.told) (b := [120, 32]) (by simp; lia))) (by simp; lia)
    refine ⟨[.inst W5.fs], ex_ifF (evT_cmp (ev_lessV (k := k) (r := 10) (q := 14) (w := W1) (u := W5) (H₁ := h.H (T4 ++ [O.inst W5.fs])) rfl rfl hW5 rfl rfl F.w1 F.w5) rfl (z := false) ?_) rfl⟩
    rw [isn_V, show lessB W1 W5 = false from F.e6]
    rfl
  obtain ⟨K32, s32⟩ := s32
  have s33 : ∃ K, ex g st33 L4 H4 = some (.next, L4, h.H (T4 ++ K)) := by
    let W6 := wsOf ([32] ++ c.lead ++ c.wd)
    have hW6 : ev g L4 (.new [(.bin .add (.bin .add (.lit (.str [32])) (.loc 6)) (.loc 5))]) H4 = some (.obj 14, h.H (T4 ++ [O.inst W6.fs])) := ev_ws (k := k + 1) (H₁ := H4) (ev_bin (ev_bin rfl (ev_loc rfl) (add_strV (a := [32]) (b := c.lead) (by simp; lia))) (ev_loc rfl) (add_strV (a := [32] ++ c.lead) (b := c.wd) (by simp; lia))) (by simp; lia)
    refine ⟨[.inst W6.fs], ex_ifF (evT_cmp (ev_lessV (k := k) (r := 10) (q := 14) (w := W1) (u := W6) (H₁ := h.H (T4 ++ [O.inst W6.fs])) rfl rfl hW6 rfl rfl F.w1 F.w6) rfl (z := false) ?_) rfl⟩
    rw [isn_V, show lessB W1 W6 = false from F.e7]
    rfl
  obtain ⟨K33, s33⟩ := s33
  have s34 : ∃ K, ex g st34 L4 H4 = some (.ret (.p (.bool true)), L4, h.H (T4 ++ K)) := by
    let W7 := wsOf ([9] ++ c.lead ++ c.wd)
    have hW7 : ev g L4 (.new [(.bin .add (.bin .add (.lit (.str [9])) (.loc 6)) (.loc 5))]) H4 = some (.obj 14, h.H (T4 ++ [O.inst W7.fs])) := ev_ws (k := k + 1) (H₁ := H4) (ev_bin (ev_bin rfl (ev_loc rfl) (add_strV (a := [9]) (b := c.lead) (by simp; lia))) (ev_loc rfl) (add_strV (a := [9] ++ c.lead) (b := c.wd) (by simp; lia))) (by simp; lia)
    refine ⟨[.inst W7.fs], ?_⟩
    have e : ev g L4 (.mth 15 (Str.ofString "less") (.loc 25) [(.new [(.bin .add (.bin .add (.lit (.str [9])) (.loc 6)) (.loc 5))])]) H4 = some (.p (.bool true), h.H (T4 ++ [.inst W7.fs])) := by
      have := ev_lessV (k := k) (L := L4) (i := 25) (r := 10) (q := 14) (w := W1) (u := W7) (H := H4) (H₁ := h.H (T4 ++ [O.inst W7.fs])) rfl rfl hW7 rfl rfl F.w1 F.w7
      rw [show lessB W1 W7 = true from F.e8] at this
      exact this
    have e' : ev g L4 (.cmp .is (.mth 15 (Str.ofString "less") (.loc 25) [(.new [(.bin .add (.bin .add (.lit (.str [9])) (.loc 6)) (.loc 5))])]) (.lit (.bool true))) H4 = some (.p (.bool true), h.H (T4 ++ [.inst W7.fs])) := ev_cmp e rfl rfl
    show (ev g L4 _ H4).bind _ = _
    rw [e']
    rfl
  obtain ⟨K34, s34⟩ := s34
  have top : ∀ {n : Nat} {L : List (Option V)} {t : List O}, t.length + 7 ≤ lb L → gc n L (h.H t) = h.H t := fun {n L t} hl => gc_top (by rw [HX_len]; exact hl)
  have lb1 : lb L1 = 11 := lb_CX
  have lb2 : lb L2 = 12 := lb_CX
  refine ⟨L4, h.H (T4 ++ K34), ?_⟩
  refine exs_step s22 (top (by rw [lb1]; simp)) (exs_step s23 (top (by rw [lb2]; simp)) (exs_step s24 (top (by rw [lb3]; simp)) ?_))
  have p3 : ∀ K : List O, gc H3.length L3 (h.H ([old, new, tb, .inst W1.fs, .inst W2.fs, .list (fnd.map tp)] ++ K)) = H3 := fun K => gr (by rw [HX_len]) (by rw [lb3, HX_len]; simp) ⟨K, rfl⟩
  have p4 : ∀ K : List O, gc H4.length L4 (h.H (T4 ++ K)) = H4 := fun K => gr (by rw [HX_len]) (by rw [lb4, HX_len]; simp) ⟨K, rfl⟩
  refine exs_step s25 (p3 _) (exs_step s26 (p3 _) (exs_step s27 (p3 _) (exs_step s28 (top (by rw [lb4]; simp)) ?_)))
  exact exs_step s29 (gc_same _ _) (exs_step s30 (p4 _) (exs_step s31 (p4 _) (exs_step s32 (p4 _) (exs_step s33 (p4 _) (exs_stop s34 (by simp))))))
end Mine
end
section
open PySem PySem.W PyProof.Rows PyProof.V
set_option Elab.async false
set_option maxRecDepth 20000
set_option linter.unusedSimpArgs false
namespace Mine
/-- a lead: runs of blanks, each closed by a tab, and blanks behind -/
noncomputable def mk (rs : List Nat) (c : Nat) : List Nat := rs.flatMap (fun a => bl a ++ [9]) ++ bl c
theorem mk_nil (c : Nat) : mk [] c = bl c := rfl
theorem mk_cons (a : Nat) (rs : List Nat) (c : Nat) : mk (a :: rs) c = bl a ++ 9 :: mk rs c := by simp [mk]
theorem bl_succ (n : Nat) : bl (n + 1) = 32 :: bl n := rfl
theorem bl_snoc (n : Nat) : bl n ++ [32] = bl (n + 1) := (List.replicate_succ' ..).symm
theorem mk_snoc (rs : List Nat) (c : Nat) : mk rs c ++ [32] = mk rs (c + 1) := by
  unfold mk; rw [List.append_assoc, bl_snoc]
theorem exists_mk : ∀ l : List Nat, (∀ x ∈ l, x = 32 ∨ x = 9) → ∃ rs c, l = mk rs c
  | [], _ => ⟨[], 0, rfl⟩
  | x :: l, h => by
    obtain ⟨rs, c, e⟩ := exists_mk l fun y hy => h y (.tail _ hy)
    rcases h x (.head _) with rfl | rfl
    · cases rs with
      | nil => exact ⟨[], c + 1, by rw [e]; rfl⟩
      | cons a r => exact ⟨(a + 1) :: r, c, by rw [e, mk_cons, mk_cons]; rfl⟩
    · exact ⟨0 :: rs, c, by rw [e, mk_cons]; rfl⟩
noncomputable def sumR (f : Nat → Nat) : List Nat → Nat
  | [] => 0
  | a :: r => f a + sumR f r
theorem mk_len : ∀ (rs : List Nat) (c : Nat), (mk rs c).length = sumR (· + 1) rs + c
  | [], c => by simp [mk, sumR]
  | a :: r, c => by rw [mk_cons, List.length_append, List.length_cons, mk_len r c]; simp [sumR]; lia
/-- the column at a step -/
noncomputable def I (rs : List Nat) (c d : Nat) : Nat := sumR (fun a => (a / d + 1) * d) rs + c
theorem col_bl (d : Int) : ∀ (n : Nat) (z : Int), (bl n).foldl (colS d) z = z + n
  | 0, z => by simp
  | n + 1, z => by
    rw [bl_succ, List.foldl_cons, col_bl d n]
    simp only [colS, Nat.reduceEqDiff, if_false]
    lia
theorem col_mk (d : Nat) (hd : 0 < d) : ∀ (rs : List Nat) (c m : Nat), (mk rs c).foldl (colS d) ((m * d : Nat) : Int) = ((m * d + I rs c d : Nat) : Int)
  | [], c, m => by rw [mk_nil, col_bl]; simp [I, sumR]
  | a :: r, c, m => by
    rw [mk_cons, List.foldl_append, col_bl, List.foldl_cons]
    have e : colS (d : Int) (((m * d : Nat) : Int) + (a : Int)) 9 = (((m + (a / d + 1)) * d : Nat) : Int) := by
      simp only [colS, if_true]
      have h1 : ((m * d : Nat) : Int) + (a : Int) = ((m * d + a : Nat) : Int) := by push_cast; rfl
      have h2 : (m * d + a) % d = a % d := by rw [Nat.add_comm, Nat.mul_comm]; exact Nat.add_mul_mod_self_left _ _ _
      rw [h1, ← Int.natCast_emod, h2]
      have h3 := Nat.div_add_mod a d
      have h4 : (m + (a / d + 1)) * d = m * d + (d * (a / d) + d) := by rw [Nat.add_mul, Nat.add_mul, Nat.one_mul, Nat.mul_comm (a / d) d]
      rw [h4]
      have h5 : a % d ≤ a := Nat.mod_le _ _
      omega
    rw [e, col_mk d hd r c (m + (a / d + 1))]
    congr 1
    simp only [I, sumR]
    rw [Nat.add_mul]
    lia
theorem col_I (d : Nat) (hd : 0 < d) (rs : List Nat) (c : Nat) : col (d : Int) (mk rs c) = (I rs c d : Nat) := by
  have := col_mk d hd rs c 0
  simpa [col] using this
/-! the scan -/
theorem scan_bl : ∀ (n : Nat) (r : List Nat) (s : Is), scan (bl n ++ r) s = scan r ⟨s.cnt, s.b + n, s.n + n, s.nt⟩
  | 0, r, s => rfl
  | n + 1, r, s => by
    rw [bl_succ, List.cons_append, scan, if_pos rfl, scan_bl n]
    congr 1
    simp only [Is.mk.injEq]
    refine ⟨?_, ?_, ?_, ?_⟩ <;> first | trivial | lia
noncomputable def stopW (w : List Nat) : Prop := ∀ c r, w = c :: r → c ≠ 32 ∧ c ≠ 9
theorem scan_stop {w : List Nat} (h : stopW w) (s : Is) : scan w s = s := by
  cases w with
  | nil => rfl
  | cons c r =>
    obtain ⟨h1, h2⟩ := h c r rfl
    rw [scan, if_neg h1, if_neg h2]
noncomputable def cntR (rs : List Nat) : List Int := rs.foldl bump []
theorem scan_mk {w : List Nat} (h : stopW w) : ∀ (rs : List Nat) (c : Nat) (s : Is), s.b = 0 → scan (mk rs c ++ w) s = ⟨rs.foldl bump s.cnt, c, s.n + (sumR (· + 1) rs + c), s.nt + rs.length⟩
  | [], c, s, hb => by
    rw [mk_nil, scan_bl, scan_stop h]
    simp only [List.foldl_nil, Is.mk.injEq, sumR, List.length_nil]
    refine ⟨?_, ?_, ?_, ?_⟩ <;> first | trivial | lia
  | a :: r, c, s, hb => by
    rw [mk_cons, List.append_assoc, scan_bl, List.cons_append, scan, if_neg (by decide), if_pos rfl]
    rw [scan_mk h r c ⟨bump s.cnt (s.b + a), 0, s.n + a + 1, s.nt + 1⟩ rfl]
    simp only [Is.mk.injEq, List.foldl_cons, List.length_cons, sumR, hb, Nat.zero_add]
    refine ⟨trivial, trivial, by lia, by lia⟩
theorem ws_mk {w : List Nat} (h : stopW w) (rs : List Nat) (c : Nat) : wsOf (mk rs c ++ w) = ⟨mk rs c ++ w, ((sumR (· + 1) rs + c : Nat) : Int), (rs.length : Int), cntR rs, (c : Int)⟩ := by
  unfold wsOf
  simp only [scan_mk h rs c ⟨[], 0, 0, 0⟩ rfl, Nat.zero_add]
  rfl
/-! the counts -/
theorem pad_get (c : List Int) (b i : Nat) : (pad c b).getD i 0 = c.getD i 0 := by
  unfold pad
  split
  · simp only [List.getD_eq_getElem?_getD]
    by_cases h : i < c.length
    · rw [List.getElem?_append_left h]
    · rw [List.getElem?_append_right (by exact Nat.le_of_not_lt ‹_›), List.getElem?_eq_none (by exact Nat.le_of_not_lt ‹_› : c.length ≤ i)]
      rw [List.getElem?_replicate]
      split <;> rfl
  · rfl
theorem pad_length (c : List Int) (b : Nat) : (pad c b).length = max c.length (b + 1) := by
  unfold pad
  split
  · simp; lia
  · lia
theorem bump_length (c : List Int) (b : Nat) : (bump c b).length = max c.length (b + 1) := by
  unfold bump; rw [List.length_set, pad_length]
theorem bump_get (c : List Int) (b i : Nat) : (bump c b).getD i 0 = c.getD i 0 + (if i = b then 1 else 0) := by
  unfold bump
  have hp := pad_get c b
  have hl := pad_length c b
  rw [List.getD_eq_getElem?_getD, List.getElem?_set]
  by_cases h : b = i
  · subst h
    rw [if_pos rfl, if_pos (by lia), if_pos rfl, ← hp b]
    rfl
  · rw [if_neg h, if_neg (by lia), ← List.getD_eq_getElem?_getD, hp]
    lia
theorem cnt_get : ∀ (rs : List Nat) (c : List Int) (i : Nat), (rs.foldl bump c).getD i 0 = c.getD i 0 + (rs.count i : Nat)
  | [], c, i => by simp
  | a :: r, c, i => by
    rw [List.foldl_cons, cnt_get r, bump_get, List.count_cons]
    by_cases h : i = a
    · subst h; simp; lia
    · have : ¬ (a == i) = true := by simp; lia
      simp [h, this]
theorem cnt_length : ∀ (rs : List Nat) (c : List Int), (rs.foldl bump c).length = if rs = [] then c.length else max c.length (maxN rs + 1)
  | [], c => by simp
  | a :: r, c => by
    rw [List.foldl_cons, cnt_length r, bump_length, if_neg (List.cons_ne_nil a r)]
    by_cases h : r = []
    · subst h; simp [maxN]
    · rw [if_neg h, maxN, Nat.max_assoc, Nat.add_max_add_right]
theorem cntR_get (rs : List Nat) (i : Nat) : (cntR rs).getD i 0 = (rs.count i : Nat) := by
  unfold cntR; rw [cnt_get]; simp
theorem cntR_len {rs : List Nat} (h : rs ≠ []) : (cntR rs).length = maxN rs + 1 := by
  unfold cntR; rw [cnt_length, if_neg h]; simp
theorem maxN_le : ∀ {l : List Nat} {a : Nat}, a ∈ l → a ≤ maxN l
  | b :: r, a, h => by
    rcases List.mem_cons.mp h with rfl | h
    · exact Nat.le_max_left _ _
    · exact Nat.le_trans (maxN_le h) (Nat.le_max_right _ _)
theorem maxN_sup : ∀ {l : List Nat} {k : Nat}, (∀ a ∈ l, a ≤ k) → maxN l ≤ k
  | [], k, _ => Nat.zero_le _
  | b :: r, k, h => Nat.max_le.mpr ⟨h b (.head _), maxN_sup fun a ha => h a (.tail _ ha)⟩
theorem cntR_eq {rs qs : List Nat} (h : rs ≠ []) (h' : qs ≠ []) : cntR rs = cntR qs ↔ rs.Perm qs := by
  constructor
  · intro e
    rw [List.perm_iff_count]
    intro a
    have h1 := cntR_get rs a
    rw [e, cntR_get] at h1
    lia
  · intro p
    have hm : maxN rs = maxN qs := Nat.le_antisymm (maxN_sup fun a ha => maxN_le (p.mem_iff.mp ha)) (maxN_sup fun a ha => maxN_le (p.mem_iff.mpr ha))
    apply List.ext_getElem?
    intro i
    have hl : (cntR rs).length = (cntR qs).length := by rw [cntR_len h, cntR_len h', hm]
    by_cases hi : i < (cntR rs).length
    · have a1 := cntR_get rs i
      have a2 := cntR_get qs i
      rw [List.getD_eq_getElem?_getD, List.getElem?_eq_getElem hi] at a1
      rw [List.getD_eq_getElem?_getD, List.getElem?_eq_getElem (by lia)] at a2
      rw [List.getElem?_eq_getElem hi, List.getElem?_eq_getElem (by lia)]
      simp only [Option.getD_some] at a1 a2
      rw [a1, a2, List.perm_iff_count.mp p]
    · rw [List.getElem?_eq_none (by exact Nat.le_of_not_lt ‹_›), List.getElem?_eq_none (by lia)]
/-! indent_level -/
noncomputable def sumZ (f : Nat → Int) : Nat → Int
  | 0 => 0
  | n + 1 => sumZ f n + f n
theorem sumZ_congr {f g : Nat → Int} : ∀ {n : Nat}, (∀ i, i < n → f i = g i) → sumZ f n = sumZ g n
  | 0, _ => rfl
  | n + 1, h => by rw [sumZ, sumZ, sumZ_congr fun i hi => h i (by exact Nat.le_succ_of_le ‹_›), h n (by exact Nat.le_refl _)]
theorem foldl_range (f : Nat → Int) : ∀ (n : Nat) (z : Int), (List.range n).foldl (fun z k => z + f k) z = z + sumZ f n
  | 0, z => by simp [sumZ]
  | n + 1, z => by
    rw [List.range_succ, List.foldl_append, foldl_range f n]
    simp only [List.foldl_cons, List.foldl_nil, sumZ]
    lia
theorem sumZ_shift (f : Nat → Int) (t : Nat) : ∀ n, (∀ i, i < t → f i = 0) → sumZ (fun k => f (t + k)) (n - t) = sumZ f n := by
  intro n h0
  have hz : ∀ m, m ≤ t → sumZ f m = 0 := by
    intro m
    induction m with
    | zero => intro _; rfl
    | succ m ih => intro hm; rw [sumZ, ih (by exact Nat.le_of_lt ‹_›), h0 m (by assumption)]; rfl
  induction n with
  | zero => simp [sumZ]
  | succ n ih =>
    by_cases h : n < t
    · rw [show n + 1 - t = 0 by omega, hz _ (by assumption)]; rfl
    · rw [show n + 1 - t = (n - t) + 1 by lia, sumZ, sumZ, ih, show t + (n - t) = n by lia]
theorem sum_count (f : Nat → Nat) : ∀ (rs : List Nat) (n : Nat), (∀ a ∈ rs, a < n) → sumZ (fun i => (f i : Int) * (rs.count i : Nat)) n = ((sumR f rs : Nat) : Int)
  | [], n, _ => by
    have : ∀ n, sumZ (fun i => (f i : Int) * (([] : List Nat).count i : Nat)) n = 0 := by
      intro n
      induction n with
      | zero => rfl
      | succ n ih => rw [sumZ, ih]; simp
    rw [this]; rfl
  | a :: r, n, h => by
    have ih := sum_count f r n fun x hx => h x (.tail _ hx)
    have ha := h a (.head _)
    have key : ∀ n, sumZ (fun i => (f i : Int) * ((a :: r).count i : Nat)) n = sumZ (fun i => (f i : Int) * (r.count i : Nat)) n + (if a < n then (f a : Int) else 0) := by
      intro n
      induction n with
      | zero => simp [sumZ]
      | succ n ihn =>
        rw [sumZ, sumZ, ihn, List.count_cons]
        by_cases hn : a = n
        · subst hn
          rw [if_neg (Nat.lt_irrefl _), if_pos (Nat.lt_succ_self _)]
          simp only [beq_self_eq_true, if_true]
          push_cast
          rw [Int.mul_add, Int.mul_one]
          lia
        · have : ¬ (a == n) = true := by simpa using hn
          simp only [this]
          by_cases hlt : a < n
          · rw [if_pos hlt, if_pos (show a < n + 1 by exact Nat.le_succ_of_le ‹_›)]; simp; lia
          · rw [if_neg hlt, if_neg (show ¬ a < n + 1 by lia)]; simp
    rw [key, if_pos ha, ih]
    simp only [sumR]
    lia
theorem sumR_mul (d : Nat) : ∀ rs : List Nat, sumR (fun a => (a / d + 1) * d) rs = d * (sumR (· / d) rs + rs.length)
  | [] => by simp [sumR]
  | a :: r => by
    simp only [sumR, sumR_mul d r, List.length_cons]
    rw [← Nat.mul_comm d, ← Nat.mul_add]
    congr 1
    lia
theorem ind_mk {w : List Nat} (h : stopW w) {rs : List Nat} (hr : rs ≠ []) (c d : Nat) (hd : 0 < d) : (wsOf (mk rs c ++ w)).ind (d : Int) = (I rs c d : Nat) := by
  rw [ws_mk h]
  unfold Ws.ind
  simp only
  have e : (rngI (d : Int) ((cntR rs).length : Int)).foldl (ilF (cntR rs) (d : Int)) 0 = ((sumR (· / d) rs : Nat) : Int) := by
    unfold rngI
    rw [List.foldl_map]
    have e1 : (List.range (((cntR rs).length : Int) - (d : Int)).toNat).foldl (fun z k => ilF (cntR rs) (d : Int) z ((d : Int) + (k : Nat))) 0 = (List.range ((cntR rs).length - d)).foldl (fun z k => z + (fun i : Nat => ((i / d : Nat) : Int) * (rs.count i : Nat)) (d + k)) 0 := by
      rw [show (((cntR rs).length : Int) - (d : Int)).toNat = (cntR rs).length - d by lia]
      congr 1
      funext z k
      unfold ilF
      have h1 : (d : Int) + (k : Nat) = ((d + k : Nat) : Int) := by push_cast; rfl
      rw [h1, Int.toNat_natCast, cntR_get]
      rfl
    rw [e1, foldl_range, sumZ_shift (fun i : Nat => ((i / d : Nat) : Int) * (rs.count i : Nat)) d (cntR rs).length (fun i hi => by rw [Nat.div_eq_of_lt hi]; simp), sum_count (· / d) rs _ (fun a ha => by rw [cntR_len hr]; have := maxN_le ha; exact Nat.lt_succ_of_le ‹_›)]
    lia
  rw [e]
  unfold I
  rw [sumR_mul]
  push_cast
  lia
end Mine
end
section
open PySem PySem.W PyProof.Rows PyProof.V
set_option Elab.async false
set_option maxRecDepth 20000
set_option linter.unusedSimpArgs false
set_option linter.unusedVariables false
namespace Mine
theorem split_mk : ∀ (rs : List Nat) (c : Nat), splitG [9] 0 (mk rs c) = rs.map bl ++ [bl c]
  | [], c => split_end fun h => by have := bl_mem h; contradiction
  | a :: r, c => by
    rw [mk_cons, split_cons (fun h => by have := bl_mem h; contradiction), split_mk r c]
    rfl
theorem maxN_app : ∀ (a b : List Nat), maxN (a ++ b) = max (maxN a) (maxN b)
  | [], b => by simp [maxN]
  | x :: a, b => by rw [List.cons_append, maxN, maxN_app a b, maxN, Nat.max_assoc]
theorem len_bl (rs : List Nat) : rs.map (List.length ∘ bl) = rs := by
  induction rs with
  | nil => rfl
  | cons a r ih => simp [ih]
theorem topM_mk (rs qs : List Nat) (c e : Nat) : topM (mk rs c) (mk qs e) = max (max (maxN rs) c) (max (maxN qs) e) + 1 := by
  unfold topM lens1
  rw [split_mk, split_mk]
  simp only [List.map_append, List.map_map, len_bl, List.map_cons, List.map_nil, List.length_replicate, maxN_app, maxN, Nat.max_zero]
theorem okWs_mk {w : List Nat} (h : stopW w) {rs : List Nat} (hr : rs ≠ []) {c : Nat} (hm : maxN rs ≤ 800) (hc : c ≤ 800) : OkW (wsOf (mk rs c ++ w)) := by
  rw [ws_mk h]
  refine ⟨?_, ?_, ?_⟩
  · show 1 ≤ (cntR rs).length
    rw [cntR_len hr]; exact Nat.succ_pos _
  · show (cntR rs).length ≤ 900
    rw [cntR_len hr]; exact Nat.lt_of_le_of_lt ‹_› (by decide)
  · show (c : Int) ≤ 900
    lia
theorem maxN_mk_le (rs : List Nat) (c : Nat) : maxN rs ≤ (mk rs c).length ∧ c ≤ (mk rs c).length := by
  rw [mk_len]
  refine ⟨?_, by exact Nat.le_add_left _ _⟩
  induction rs with
  | nil => simp [maxN]
  | cons a r ih => simp only [maxN, sumR]; lia
theorem long_mk {w : List Nat} (h : stopW w) {rs : List Nat} (hr : rs ≠ []) (c : Nat) : (wsOf (mk rs c ++ w)).long = ((max (maxN rs) c : Nat) : Int) := by
  rw [ws_mk h]
  unfold Ws.long
  simp only
  rw [cntR_len hr]
  lia
theorem topN_mk {w v : List Nat} (h : stopW w) (h' : stopW v) {rs qs : List Nat} (hr : rs ≠ []) (hq : qs ≠ []) (c e : Nat) : topN (wsOf (mk rs c ++ w)) (wsOf (mk qs e ++ v)) = ((max (max (maxN rs) c) (max (maxN qs) e) + 1 : Nat) : Int) := by
  unfold topN
  rw [long_mk h hr, long_mk h' hq]
  omega
theorem rngI_nat (a n : Nat) : rngI (a : Int) ((a + n : Nat) : Int) = (List.range n).map fun k => ((a + k : Nat) : Int) := by
  unfold rngI
  rw [show (((a + n : Nat) : Int) - (a : Int)).toNat = n by lia]
  refine List.map_congr_left fun k _ => ?_
  push_cast; rfl
noncomputable def tabI (rs : List Nat) (c : Nat) (qs : List Nat) (e M : Nat) : List Tr := (List.range M).map fun k => (((1 + k : Nat) : Int), ((I rs c (1 + k) : Nat) : Int), ((I qs e (1 + k) : Nat) : Int))
theorem simple_mk {w : List Nat} (h : stopW w) {rs : List Nat} (hr : rs ≠ []) (c : Nat) : (wsOf (mk rs c ++ w)).simple = decide (maxN rs = 0) := by
  rw [ws_mk h]
  unfold Ws.simple
  simp only
  rw [cntR_len hr, Bool.eq_iff_iff, decide_eq_true_eq, decide_eq_true_eq]
  lia
theorem less_iff {w v : List Nat} (h : stopW w) (h' : stopW v) {rs qs : List Nat} (hr : rs ≠ []) (hq : qs ≠ []) (c e : Nat) :
    lessB (wsOf (mk rs c ++ w)) (wsOf (mk qs e ++ v)) = true ↔ I rs c 1 < I qs e 1 ∧ ((maxN rs = 0 ∧ maxN qs = 0 ∧ rs.length ≤ qs.length) ∨ (¬ (maxN rs = 0 ∧ maxN qs = 0) ∧ ∀ ts, 2 ≤ ts → ts ≤ max (max (maxN rs) c) (max (maxN qs) e) + 1 → I rs c ts < I qs e ts)) := by
  have I1 : ∀ (rs : List Nat) c, I rs c 1 = sumR (· + 1) rs + c := by
    intro rs c
    unfold I
    congr 1
    induction rs with
    | nil => rfl
    | cons a r ih => simp only [sumR, Nat.div_one, Nat.mul_one]
  unfold lessB
  have n1 : (wsOf (mk rs c ++ w)).n = ((I rs c 1 : Nat) : Int) := by rw [ws_mk h, I1]
  have n2 : (wsOf (mk qs e ++ v)).n = ((I qs e 1 : Nat) : Int) := by rw [ws_mk h', I1]
  have t1 : (wsOf (mk rs c ++ w)).nt = (rs.length : Int) := by rw [ws_mk h]
  have t2 : (wsOf (mk qs e ++ v)).nt = (qs.length : Int) := by rw [ws_mk h']
  rw [n1, n2, t1, t2, simple_mk h hr, simple_mk h' hq, topN_mk h h' hr hq]
  by_cases hn : I rs c 1 < I qs e 1
  · rw [if_neg (by lia)]
    by_cases hs : maxN rs = 0 ∧ maxN qs = 0
    · rw [if_pos (by rw [hs.1, hs.2]; rfl), decide_eq_true_eq]
      constructor
      · intro hl; exact ⟨hn, .inl ⟨hs.1, hs.2, by lia⟩⟩
      · rintro ⟨_, ⟨_, _, hl⟩ | ⟨hns, _⟩⟩
        · lia
        · exact absurd hs hns
    · have hsb : ¬ ((decide (maxN rs = 0) && decide (maxN qs = 0)) = true) := by
        simp only [Bool.and_eq_true, decide_eq_true_eq]; exact hs
      rw [if_neg hsb]
      generalize hM : max (max (maxN rs) c) (max (maxN qs) e) = M
      have hr2 : rngI 2 (((M + 1 : Nat) : Int) + 1) = (List.range M).map fun k => ((2 + k : Nat) : Int) := by
        have := rngI_nat 2 M
        rw [← this]
        congr 1
        push_cast; lia
      rw [hr2, List.all_eq_true]
      constructor
      · intro ha
        refine ⟨hn, .inr ⟨hs, fun ts h2 hT => ?_⟩⟩
        have := ha ((2 + (ts - 2) : Nat) : Int) (List.mem_map.mpr ⟨ts - 2, List.mem_range.mpr (by lia), rfl⟩)
        rw [show 2 + (ts - 2) = ts by lia, ind_mk h hr c ts (by exact Nat.zero_lt_of_lt ‹_›), ind_mk h' hq e ts (by exact Nat.zero_lt_of_lt ‹_›), decide_eq_true_eq] at this
        lia
      · rintro ⟨_, ⟨h1, h2, _⟩ | ⟨_, ha⟩⟩ x hx
        · exact absurd ⟨h1, h2⟩ hs
        · obtain ⟨k, hk, rfl⟩ := List.mem_map.mp hx
          have hk := List.mem_range.mp hk
          rw [ind_mk h hr c (2 + k) (by lia), ind_mk h' hq e (2 + k) (by lia), decide_eq_true_eq]
          have := ha (2 + k) (by exact Nat.le_add_right _ _) (by lia)
          lia
  · rw [if_pos (by lia)]
    constructor
    · intro hf; cases hf
    · rintro ⟨hl, _⟩; exact absurd hl hn
theorem I_succ (rs : List Nat) (c d : Nat) : I rs (c + 1) d = I rs c d + 1 := by unfold I; lia
/-- beyond all runs -/
theorem I_far {rs : List Nat} {d : Nat} (h : maxN rs < d) (c : Nat) : I rs c d = rs.length * d + c := by
  unfold I
  congr 1
  induction rs with
  | nil => simp [sumR]
  | cons a r ih =>
    simp only [maxN] at h
    simp only [sumR, List.length_cons]
    have h1 := ih (by lia)
    have h2 : (r.length + 1) * d = r.length * d + d := Nat.succ_mul _ _
    have h3 : (a / d + 1) * d = d := by rw [Nat.div_eq_of_lt (by lia)]; lia
    rw [h1, h2, h3]
    lia
theorem empty_iff {rs qs : List Nat} {c e M : Nat} (f : Int → Int → Bool) : ((tabI rs c qs e M).filter fun x => f x.2.1 x.2.2).isEmpty = true ↔ ∀ d, 1 ≤ d → d ≤ M → f ((I rs c d : Nat) : Int) ((I qs e d : Nat) : Int) = false := by
  rw [List.isEmpty_iff, List.filter_eq_nil_iff]
  constructor
  · intro h d h1 h2
    have := h (((1 + (d - 1) : Nat) : Int), ((I rs c (1 + (d - 1)) : Nat) : Int), ((I qs e (1 + (d - 1)) : Nat) : Int)) (List.mem_map.mpr ⟨d - 1, List.mem_range.mpr (by omega), rfl⟩)
    rw [show 1 + (d - 1) = d by lia] at this
    simpa using this
  · intro h x hx
    obtain ⟨k, hk, rfl⟩ := List.mem_map.mp hx
    have := h (1 + k) (by exact Nat.le_add_right _ _) (by have := List.mem_range.mp hk; lia)
    simp [this]
theorem bl_inj {a b : Nat} (h : bl a = bl b) : a = b := by
  have := congrArg List.length h
  simpa using this
theorem sort_iff (a b : List (List Nat)) : beqs ((srt a).map P.str) ((srt b).map P.str) = true ↔ a.Perm b := by
  rw [beqs_iff]
  constructor
  · intro h
    have h2 : srt a = srt b := by
      have inj : ∀ x y : List (List Nat), x.map P.str = y.map P.str → x = y := by
        intro x
        induction x with
        | nil => intro y h; cases y <;> simp_all
        | cons p x ih => intro y h; cases y with
          | nil => simp at h
          | cons q y => simp only [List.map_cons, List.cons.injEq, P.str.injEq] at h; rw [h.1, ih y h.2]
      exact inj _ _ h
    exact (List.mergeSort_perm a leS).symm.trans ((by rw [show a.mergeSort leS = b.mergeSort leS from h2]) : (a.mergeSort leS).Perm (b.mergeSort leS)) |>.trans (List.mergeSort_perm b leS)
  · intro p
    congr 1
    refine List.Perm.eq_of_pairwise (le := fun a b => leS a b = true) (fun a b _ _ h1 h2 => leS_anti a b h1 h2) (List.pairwise_mergeSort leS_trans leS_total a) (List.pairwise_mergeSort leS_trans leS_total b) ?_
    exact (List.mergeSort_perm a leS).trans (p.trans (List.mergeSort_perm b leS).symm)
theorem perm_bl {rs qs : List Nat} : (rs.map bl).Perm (qs.map bl) ↔ rs.Perm qs := by
  constructor
  · intro h
    have := h.map List.length
    rwa [List.map_map, List.map_map, len_bl, len_bl] at this
  · exact fun h => h.map bl
theorem norm_iff {w v : List Nat} (h : stopW w) (h' : stopW v) {rs qs : List Nat} (hr : rs ≠ []) (hq : qs ≠ []) (c e : Nat) : (wsOf (mk rs c ++ w)).norm.beq (wsOf (mk qs e ++ v)).norm = true ↔ rs.Perm qs ∧ c = e := by
  rw [beq_iff, ws_mk h, ws_mk h']
  unfold Ws.norm
  simp only [P.tup.injEq, List.cons.injEq, P.int.injEq, and_true]
  have inj : ∀ x y : List Int, x.map P.int = y.map P.int ↔ x = y := by
    intro x y
    constructor
    · intro h
      have : ∀ x y : List Int, x.map P.int = y.map P.int → x = y := by
        intro x
        induction x with
        | nil => intro y h; cases y <;> simp_all
        | cons p x ih => intro y h; cases y with
          | nil => simp at h
          | cons q y => simp only [List.map_cons, List.cons.injEq, P.int.injEq] at h; rw [h.1, ih y h.2]
      exact this x y h
    · rintro rfl; rfl
  rw [inj, cntR_eq hr hq]
  constructor
  · rintro ⟨a, b⟩; exact ⟨a, by lia⟩
  · rintro ⟨a, b⟩; exact ⟨a, by lia⟩
theorem sumR_perm (f : Nat → Nat) {rs qs : List Nat} (h : rs.Perm qs) : sumR f rs = sumR f qs := by
  induction h with
  | nil => rfl
  | cons x _ ih => simp only [sumR, ih]
  | swap x y l => simp only [sumR]; lia
  | trans _ _ ih1 ih2 => exact ih1.trans ih2
theorem stopW_ok {wd : List Nat} (h : okW wd) : stopW wd := by
  rcases h with rfl | rfl
  · intro c r e; cases e; exact ⟨by decide, by decide⟩
  · intro c r e; cases e
theorem filter_tab {rs qs : List Nat} {c e M : Nat} {w v : List Nat} (h : stopW w) (h' : stopW v) (hr : rs ≠ []) (hq : qs ≠ []) (f : Int → Int → Bool) (hM : M = max (max (maxN rs) c) (max (maxN qs) e) + 1) :
    witT (wsOf (mk rs c ++ w)) (wsOf (mk qs e ++ v)) (fun ts => f ((wsOf (mk rs c ++ w)).ind ts) ((wsOf (mk qs e ++ v)).ind ts)) = (tabI rs c qs e M).filter fun x => f x.2.1 x.2.2 := by
  unfold witT tabI
  rw [topN_mk h h' hr hq, ← hM]
  have hr2 : rngI 1 ((M : Nat) + 1 : Int) = (List.range M).map fun k => ((1 + k : Nat) : Int) := by
    have := rngI_nat 1 M
    rw [← this]
    congr 1
    push_cast; lia
  rw [hr2]
  generalize List.range M = l
  induction l with
  | nil => rfl
  | cons k l ih =>
    simp only [List.map_cons, List.filter_cons]
    rw [ind_mk h hr c (1 + k) (by exact Nat.le_add_right _ _), ind_mk h' hq e (1 + k) (by exact Nat.le_add_right _ _)]
    split
    · rw [List.map_cons, ih, ind_mk h hr c (1 + k) (by exact Nat.le_add_right _ _), ind_mk h' hq e (1 + k) (by exact Nat.le_add_right _ _)]
    · exact ih
theorem mx {a b c d : Nat} (h1 : a ≤ c) (h2 : b ≤ d) : max a b ≤ max c d := Nat.max_le.mpr ⟨Nat.le_trans h1 (Nat.le_max_left _ _), Nat.le_trans h2 (Nat.le_max_right _ _)⟩
theorem mx1 (a b : Nat) : max a b ≤ max a (b + 1) ∧ max a (b + 1) ≤ max a b + 1 := ⟨mx (Nat.le_refl _) (Nat.le_succ _), Nat.max_le.mpr ⟨Nat.le_succ_of_le (Nat.le_max_left _ _), Nat.succ_le_succ (Nat.le_max_right _ _)⟩⟩
theorem mx_up {a b b' : Nat} (h : b ≤ b' ∧ b' ≤ b + 1) : max a b ≤ max a b' ∧ max a b' ≤ max a b + 1 := ⟨mx (Nat.le_refl _) h.1, Nat.max_le.mpr ⟨Nat.le_succ_of_le (Nat.le_max_left _ _), Nat.le_trans h.2 (Nat.succ_le_succ (Nat.le_max_right _ _))⟩⟩
theorem max_up (a r e : Nat) : max a (max r e) + 1 ≤ max a (max r (e + 1)) + 1 ∧ max a (max r (e + 1)) + 1 ≤ max a (max r e) + 1 + 1 :=
  ⟨Nat.succ_le_succ (mx_up (mx1 r e)).1, Nat.succ_le_succ (mx_up (mx1 r e)).2⟩
theorem max_up2 (a r c e : Nat) : max (max a c) (max r e) + 1 ≤ max (max r e) (max a (c + 1)) + 1 ∧ max (max r e) (max a (c + 1)) + 1 ≤ max (max a c) (max r e) + 1 + 1 := by
  rw [Nat.max_comm (max a c)]
  exact max_up _ _ _
theorem plain1 {size lost p0 p1 c : Nat} {rs : List Nat} {e : Nat} {wd : List Nat} (hw : okW wd) (h3 : 3 ≤ size) (hA : rs.length = 2 + lost) (hB : ∀ d, 0 < d → size % d = 0 → I rs e d + (size - d) * lost = I [p0, p1] c d)
    (hp : p0 < 8) (hp1 : p1 < 8) (hc : c < 8) (hl : lost ≤ 20) : Plain1 size lost (mk [p0, p1] c) (mk rs e) wd := by
  have sw := stopW_ok hw
  have hr : rs ≠ [] := by intro h; rw [h] at hA; simp at hA; lia
  have hq : ([p0, p1] : List Nat) ≠ [] := by simp
  have I1 : ∀ (rs : List Nat) c, I rs c 1 = (mk rs c).length := by
    intro rs c
    rw [mk_len]
    unfold I
    congr 1
    induction rs with
    | nil => rfl
    | cons a r ih => simp only [sumR, Nat.div_one, Nat.mul_one]
  have hB1 := hB 1 (by decide) (Nat.mod_one _)
  have lenL : (mk [p0, p1] c).length = p0 + p1 + c + 2 := by rw [mk_len]; simp [sumR]; lia
  have lenT : (mk rs e).length + (size - 1) * lost = p0 + p1 + c + 2 := by rw [← I1, hB1, I1, lenL]
  have lenT2 : (mk rs e).length ≤ 30 := by lia
  have mT := maxN_mk_le rs e
  have mL := maxN_mk_le [p0, p1] c
  have hlost : I [p0, p1] c 1 ≤ I rs e 1 → lost = 0 := by
    intro h
    rcases Nat.eq_zero_or_pos lost with h0 | h0
    · exact h0
    · have : 1 * 1 ≤ (size - 1) * lost := Nat.mul_le_mul (by lia) h0
      lia
  have hsame : lost = 0 → I rs e 1 = I [p0, p1] c 1 := by
    intro h
    rw [h, Nat.mul_zero] at hB1
    omega
  -- the table
  let M := max (max (maxN [p0, p1]) c) (max (maxN rs) e) + 1
  have htop : topM (mk [p0, p1] c) (mk rs e) = M := topM_mk _ _ _ _
  have htab : tab1 size lost (mk [p0, p1] c) (mk rs e) = tabI [p0, p1] c rs e M := by
    unfold tab1 tabI
    rw [htop]
    refine List.map_congr_left fun k _ => ?_
    have h1 : col ((1 + k : Nat) : Int) (mk [p0, p1] c) = ((I [p0, p1] c (1 + k) : Nat) : Int) := col_I _ (by exact Nat.le_add_right _ _) _ _
    have h2 : thereD size lost (mk [p0, p1] c) (mk rs e) (1 + k) = ((I rs e (1 + k) : Nat) : Int) := by
      unfold thereD
      split
      · rename_i hd
        have hb := hB (1 + k) (by exact Nat.le_add_right _ _) hd
        have hle : 1 + k ≤ size := Nat.le_of_dvd (by exact Nat.zero_lt_of_lt ‹_›) (Nat.dvd_of_mod_eq_zero hd)
        rw [h1, ← hb]
        have : ((size : Int) - ((1 + k : Nat) : Int)) * (lost : Int) = (((size - (1 + k)) * lost : Nat) : Int) := by
          rw [show ((size : Int) - ((1 + k : Nat) : Int)) = ((size - (1 + k) : Nat) : Int) by omega]
          push_cast; rfl
        rw [this]
        push_cast
        lia
      · exact col_I _ (by exact Nat.le_add_right _ _) _ _
    rw [h1, h2]
  have eM : maxN rs < M ∧ maxN [p0, p1] < M ∧ c < M ∧ e < M :=
    ⟨Nat.lt_succ_of_le (Nat.le_trans (Nat.le_max_left _ _) (Nat.le_max_right _ _)), Nat.lt_succ_of_le (Nat.le_trans (Nat.le_max_left _ _) (Nat.le_max_left _ _)), Nat.lt_succ_of_le (Nat.le_trans (Nat.le_max_right _ _) (Nat.le_max_left _ _)), Nat.lt_succ_of_le (Nat.le_trans (Nat.le_max_right _ _) (Nat.le_max_right _ _))⟩
  obtain ⟨u1, u1'⟩ := max_up (max (maxN [p0, p1]) c) (maxN rs) e
  obtain ⟨u2, u2'⟩ := max_up2 (maxN [p0, p1]) (maxN rs) c e
  have permC : [p0, p1].Perm rs → c = e := by
    intro p
    have h1 := p.length_eq
    have : lost = 0 := by simp at h1; lia
    have h2 := hsame this
    have h4 := sumR_perm (fun a => (a / 1 + 1) * 1) p
    unfold I at h2
    lia
  have a1 : mk rs e ++ [32] ++ wd = mk rs (e + 1) ++ wd := by rw [mk_snoc]
  have a2 : mk [p0, p1] c ++ [32] ++ wd = mk [p0, p1] (c + 1) ++ wd := by rw [mk_snoc]
  have a3 : [32] ++ mk [p0, p1] c ++ wd = mk [p0 + 1, p1] c ++ wd := by rw [mk_cons p0, mk_cons (p0 + 1)]; rfl
  have a4 : [9] ++ mk [p0, p1] c ++ wd = mk [0, p0, p1] c ++ wd := by rw [mk_cons 0]; rfl
  have sx : stopW [120, 32] := by intro c r e; cases e; exact ⟨by decide, by decide⟩
  refine ⟨okWs_mk sw hq (by lia) (by exact Nat.le_of_lt (Nat.lt_of_lt_of_le ‹_› (by decide))), okWs_mk sw hr (by lia) (by lia), by rw [a1]; exact okWs_mk sw hr (by lia) (by lia), by rw [a2]; exact okWs_mk sw hq (by lia) (by exact Nat.lt_of_lt_of_le ‹_› (by decide)), okWs_mk sx hr (by lia) (by lia), by rw [a3]; exact okWs_mk sw (by simp) (by simp [maxN]; lia) (by exact Nat.le_of_lt (Nat.lt_of_lt_of_le ‹_› (by decide))), by rw [a4]; exact okWs_mk sw (by simp) (by simp [maxN]; lia) (by exact Nat.le_of_lt (Nat.lt_of_lt_of_le ‹_› (by decide))), ?e1, ?e2, ?e3, ?e4, ?e5, ?e6, ?e7, ?e8, ?n1, ?n2, by lia, by exact Nat.le_trans ‹_› (by decide), by have := okW_len hw; omega, ?tt, ?c1, ?c2⟩
  case e1 =>
    rw [htab]
    exact filter_tab sw sw hq hr (fun a b => !(a == b)) rfl
  case e2 =>
    rw [Bool.eq_iff_iff, norm_iff sw sw hq hr, split_mk, split_mk, List.dropLast_concat, List.dropLast_concat, sort_iff, perm_bl]
    exact ⟨fun h => h.1, fun h => ⟨h, permC h⟩⟩
  case e3 =>
    rw [a1, ← Bool.not_eq_true, norm_iff sw sw hq hr]
    rintro ⟨h1, h2⟩
    have := permC h1
    lia
  case e4 =>
    rw [a1, htab, Bool.eq_iff_iff, less_iff sw sw hq hr, empty_iff]
    have I2 : ∀ d, I rs (e + 1) d = I rs e d + 1 := fun d => I_succ rs e d
    simp only [I2]
    constructor
    · rintro ⟨hlt, hcase⟩ d d1 dM
      have l0 := hlost (by exact Nat.le_of_lt_succ ‹_›)
      have hs := hsame l0
      simp only [cOp_gt, cOp_lt, decide_eq_false_iff_not]
      rcases hcase with ⟨m1, m2, _⟩ | ⟨_, ha⟩
      · have f1 := I_far (rs := rs) (d := d) (by lia) e
        have f2 := I_far (rs := [p0, p1]) (d := d) (by lia) c
        have f3 := I_far (rs := rs) (d := 1) (by lia) e
        have f4 := I_far (rs := [p0, p1]) (d := 1) (by lia) c
        have hl2 : rs.length = [p0, p1].length := by simp; lia
        rw [hl2] at f1 f3
        lia
      · by_cases hd1 : d = 1
        · subst hd1; lia
        · have := ha d (by lia) (Nat.le_trans dM u1)
          lia
    · intro hall
      simp only [cOp_gt, cOp_lt, decide_eq_false_iff_not] at hall
      have h1 := hall 1 (by exact Nat.le_refl _) (by exact Nat.succ_pos _)
      have l0 := hlost (by lia)
      have hs := hsame l0
      refine ⟨by lia, ?_⟩
      by_cases hsim : maxN [p0, p1] = 0 ∧ maxN rs = 0
      · exact .inl ⟨hsim.1, hsim.2, by simp; lia⟩
      · refine .inr ⟨hsim, fun ts h2 hT => ?_⟩
        by_cases hts : ts ≤ M
        · have := hall ts (by exact Nat.le_of_lt ‹_›) hts
          lia
        · have hts : ts = M + 1 := Nat.le_antisymm (Nat.le_trans hT u1') (Nat.lt_of_not_le hts)
          have hM := hall M (by exact Nat.succ_pos _) (Nat.le_refl _)
          have f1 := I_far (rs := rs) (d := M) (by lia) e
          have f2 := I_far (rs := [p0, p1]) (d := M) (by lia) c
          have f3 := I_far (rs := rs) (d := ts) (by lia) e
          have f4 := I_far (rs := [p0, p1]) (d := ts) (by lia) c
          have hl2 : rs.length = [p0, p1].length := by simp; lia
          rw [hl2] at f1 f3
          omega
  case e5 =>
    rw [a2, htab, Bool.eq_iff_iff, less_iff sw sw hr hq, empty_iff]
    have I2 : ∀ d, I [p0, p1] (c + 1) d = I [p0, p1] c d + 1 := fun d => I_succ _ _ d
    simp only [I2]
    constructor
    · rintro ⟨hlt, hcase⟩ d d1 dM
      simp only [cOp_gt, cOp_lt, decide_eq_false_iff_not]
      rcases hcase with ⟨m1, m2, hle⟩ | ⟨_, ha⟩
      · have l0 : lost = 0 := by simp at hle; lia
        have hs := hsame l0
        have f1 := I_far (rs := rs) (d := d) (by lia) e
        have f2 := I_far (rs := [p0, p1]) (d := d) (by lia) c
        have f3 := I_far (rs := rs) (d := 1) (by lia) e
        have f4 := I_far (rs := [p0, p1]) (d := 1) (by lia) c
        have hl2 : rs.length = [p0, p1].length := by simp; lia
        rw [hl2] at f1 f3
        lia
      · by_cases hd1 : d = 1
        · subst hd1; lia
        · have := ha d (by lia) (Nat.le_trans dM u2)
          lia
    · intro hall
      simp only [cOp_gt, cOp_lt, decide_eq_false_iff_not] at hall
      have hM := hall M (by exact Nat.succ_pos _) (Nat.le_refl _)
      have f1 := I_far (rs := rs) (d := M) (by lia) e
      have f2 := I_far (rs := [p0, p1]) (d := M) (by lia) c
      have l0 : lost = 0 := by
        rcases Nat.eq_zero_or_pos lost with h0 | h0
        · exact h0
        · exfalso
          have g1 : (2 + lost) * M = 2 * M + lost * M := Nat.add_mul _ _ _
          have g2 : 1 * M ≤ lost * M := Nat.mul_le_mul_right _ h0
          rw [hA, g1] at f1
          simp only [List.length_cons, List.length_nil] at f2
          lia
      have hs := hsame l0
      refine ⟨by lia, ?_⟩
      by_cases hsim : maxN rs = 0 ∧ maxN [p0, p1] = 0
      · exact .inl ⟨hsim.1, hsim.2, by simp; lia⟩
      · refine .inr ⟨hsim, fun ts h2 hT => ?_⟩
        by_cases hts : ts ≤ M
        · have := hall ts (by exact Nat.le_of_lt ‹_›) hts
          lia
        · have hts : ts = M + 1 := Nat.le_antisymm (Nat.le_trans hT u2') (Nat.lt_of_not_le hts)
          have f3 := I_far (rs := rs) (d := ts) (by lia) e
          have f4 := I_far (rs := [p0, p1]) (d := ts) (by lia) c
          have hl2 : rs.length = [p0, p1].length := by simp; lia
          rw [hl2] at f1 f3
          omega
  case e6 =>
    rw [← Bool.not_eq_true, less_iff sw sx hq hr]
    rintro ⟨h, _⟩
    lia
  case e7 =>
    rw [a3, ← Bool.not_eq_true, less_iff sw sw hq (by simp)]
    rintro ⟨_, ⟨_, h, _⟩ | ⟨_, ha⟩⟩
    · simp only [maxN] at h; lia
    · have := ha (p0 + 2) (by exact Nat.le_add_left _ _) (Nat.succ_le_succ (Nat.le_trans (Nat.le_trans (Nat.le_max_left (p0 + 1) _) (Nat.le_max_left _ _)) (Nat.le_max_right _ _)))
      have z1 : p0 / (p0 + 2) = 0 := Nat.div_eq_of_lt (by lia)
      have z2 : (p0 + 1) / (p0 + 2) = 0 := Nat.div_eq_of_lt (by exact Nat.le_refl _)
      simp only [I, sumR, z1, z2] at this
      lia
  case e8 =>
    rw [a4, less_iff sw sw hq (by simp)]
    have hI : ∀ d, I [0, p0, p1] c d = I [p0, p1] c d + d := fun d => by
      simp only [I, sumR, Nat.zero_div]
      lia
    refine ⟨by rw [hI]; exact Nat.le_refl _, ?_⟩
    by_cases hs : maxN [p0, p1] = 0 ∧ maxN [0, p0, p1] = 0
    · exact .inl ⟨hs.1, hs.2, by simp⟩
    · exact .inr ⟨hs, fun ts h2 _ => by rw [hI]; lia⟩
  case n1 =>
    rw [split_mk, List.dropLast_concat]
    simp
  case n2 =>
    rw [split_mk, List.dropLast_concat]
    simp only [List.length_map, List.length_append, List.length_cons, List.length_nil]
    lia
  case tt =>
    rw [htab]
    simp only [tabI, List.length_map, List.length_range]
    exact Nat.succ_le_succ (Nat.max_le.mpr ⟨Nat.max_le.mpr ⟨by lia, by exact Nat.le_of_lt (Nat.lt_of_lt_of_le ‹_› (by decide))⟩, Nat.max_le.mpr ⟨by lia, by lia⟩⟩)
  case c1 =>
    intro x hx
    unfold mk at hx
    rcases List.mem_append.mp hx with h | h
    · obtain ⟨a, _, h⟩ := List.mem_flatMap.mp h
      rcases List.mem_append.mp h with h | h
      · have := bl_mem h; lia
      · simp at h; lia
    · have := bl_mem h; lia
  case c2 =>
    intro x hx
    unfold mk at hx
    rcases List.mem_append.mp hx with h | h
    · obtain ⟨a, _, h⟩ := List.mem_flatMap.mp h
      rcases List.mem_append.mp h with h | h
      · have := bl_mem h; lia
      · simp at h; lia
    · have := bl_mem h; lia
end Mine
end
section
open PySem PySem.W PyProof.Rows PyProof.V
set_option Elab.async false
set_option maxRecDepth 20000
set_option linter.unusedSimpArgs false
set_option linter.unusedVariables false
namespace Mine
theorem col_app (d : Int) (a b : List Nat) : col d (a ++ b) = b.foldl (colS d) (col d a) := List.foldl_append ..
theorem sumR_erase (f : Nat → Nat) : ∀ (l : List Nat) (k p : Nat), l[k]? = some p → sumR f l = f p + sumR f (l.eraseIdx k)
  | [], k, p, h => by simp at h
  | a :: r, 0, p, h => by simp at h; subst h; rfl
  | a :: r, k + 1, p, h => by
    have := sumR_erase f r k p (by simpa using h)
    simp only [List.eraseIdx_cons_succ, sumR]
    lia
/-- what a row adds to the column at a step -/
noncomputable def fD (size d : Nat) (r : Nat × Bool) : Nat := if r.2 then size else (r.1 / d + 1) * d
noncomputable def gT (r : Nat × Bool) : Nat := if r.2 then 0 else 1
structure InvL (size : Nat) (rows : List (Nat × Bool)) (n : Nat) (T : Nat → Nat) (T9 : Nat) (s : PS) : Prop where
  left : ∀ i ∈ s.left, i < n
  cols : ∀ d, 0 < d → size % d = 0 → ∃ C, col (d : Int) s.told = (C : Nat) ∧ C % d = 0 ∧ C + sumR (fun i => fD size d (rows.getD i (0, false))) s.left + (size - d) * s.lost = T d
  tabs : s.told.count 9 + sumR (fun i => gT (rows.getD i (0, false))) s.left = T9 + s.lost
  signs : ∀ x ∈ s.told, x = 32 ∨ x = 9
  dec : s.sent.flatMap (fun w => decR [9] (w ++ [32])) = s.told
  sent : ∀ w ∈ s.sent, w.length ≤ 20 ∧ ∀ x ∈ w, x = 32 ∨ x = 61 ∨ x = 50 ∨ x = 48
  len : s.sent.length + s.left.length = n
theorem dec_facts : ((List.range 7).all fun b => (decR [9] (written b false ++ [32]) == bl b ++ [9]) && (decR [9] (written b true ++ [32]) == bl b) && (decR [9] ((written b true).dropLast ++ [32]) == [9])) = true := by decide +kernel
theorem dec_fact {b : Nat} (h : b ≤ 6) : decR [9] (written b false ++ [32]) = bl b ++ [9] ∧ decR [9] (written b true ++ [32]) = bl b ∧ decR [9] ((written b true).dropLast ++ [32]) = [9] := by
  have := List.all_eq_true.mp dec_facts b (List.mem_range.mpr (by exact Nat.lt_succ_of_le ‹_›))
  simp only [Bool.and_eq_true, beq_iff_eq] at this
  exact ⟨this.1.1, this.1.2, this.2⟩
theorem count_bl (n : Nat) : (bl n).count 9 = 0 := List.count_eq_zero.mpr fun h => by have := bl_mem h; contradiction
theorem written_len {b : Nat} (s : Bool) (h : b ≤ 6) : (written b s).length ≤ 20 := by
  unfold written
  split
  · simp; exact Nat.le_trans ‹_› (by decide)
  · split <;> simp; exact Nat.le_trans ‹_› (by decide)
theorem colS_tab (d C b : Nat) (hd : 0 < d) (hC : C % d = 0) : colS (d : Int) ((C : Int) + (b : Int)) 9 = ((C + (b / d + 1) * d : Nat) : Int) := by
  simp only [colS, if_true]
  have h1 : (C : Int) + (b : Int) = ((C + b : Nat) : Int) := by push_cast; rfl
  have h2 : (C + b) % d = b % d := by rw [Nat.add_mod, hC, Nat.zero_add, Nat.mod_mod]
  rw [h1, ← Int.natCast_emod, h2]
  have h3 := Nat.div_add_mod b d
  have h4 : (b / d + 1) * d = d * (b / d) + d := by rw [Nat.add_mul, Nat.one_mul, Nat.mul_comm]
  rw [h4]
  have h5 : b % d ≤ b := Nat.mod_le _ _
  lia
theorem InvL.step {size : Nat} {rows : List (Nat × Bool)} {wire : List (List Nat)} {n : Nat} {T : Nat → Nat} {T9 : Nat} {s : PS} (hI : InvL size rows n T T9 s) (h6 : size ≤ 6) (h3 : 3 ≤ size) (hr : ∀ i, i < n → ∃ r, rows[i]? = some r ∧ wire[i]? = some (written r.1 r.2) ∧ r.1 ≤ 6 ∧ (r.2 = true → r.1 = size)) (x : Nat) :
    InvL size rows n T T9 (stepP rows wire s x) ∧ (stepP rows wire s x).left.length = s.left.length - 1 := by
  by_cases h0 : s.left = []
  · have e : stepP rows wire s x = s := by unfold stepP; rw [if_pos h0]
    rw [e]
    exact ⟨hI, by rw [h0]; rfl⟩
  · have hpos : 0 < s.left.length := List.length_pos_iff.mpr h0
    have hk : x % s.left.length < s.left.length := Nat.mod_lt _ hpos
    obtain ⟨p, hp⟩ : ∃ p, s.left[x % s.left.length]? = some p := ⟨_, List.getElem?_eq_getElem hk⟩
    have hpn := hI.left p (List.mem_of_getElem? hp)
    obtain ⟨r, hrr, hw, hr6, hrs⟩ := hr p hpn
    have d1 : s.left.getD (x % s.left.length) 0 = p := by rw [List.getD_eq_getElem?_getD, hp]; rfl
    have d2 : rows.getD p (0, false) = r := by rw [List.getD_eq_getElem?_getD, hrr]; rfl
    have d3 : wire.getD p [] = written r.1 r.2 := by rw [List.getD_eq_getElem?_getD, hw]; rfl
    generalize hkk : x % s.left.length = k at *
    have hle : (s.left.eraseIdx k).length = s.left.length - 1 := List.length_eraseIdx_of_lt hk
    have hsub : ∀ i ∈ s.left.eraseIdx k, i < n := fun i hi => hI.left i ((List.eraseIdx_sublist _ _).subset hi)
    have sF : ∀ f : Nat → Nat, sumR f s.left = f p + sumR f (s.left.eraseIdx k) := fun f => sumR_erase f _ _ _ hp
    obtain ⟨q1, q2, q3⟩ := dec_fact hr6
    have hlen := hI.len
    obtain ⟨b, sf⟩ := r
    simp only at hr6 hrs q1 q2 q3
    cases sf with
    | false =>
      have e : stepP rows wire s x = ⟨s.left.eraseIdx k, s.sent ++ [written b false], s.told ++ bl b ++ [9], s.lost⟩ := by
        unfold stepP
        rw [if_neg h0, hkk, d1, d2, d3, if_pos rfl]
      rw [e]
      refine ⟨⟨hsub, fun d hd hm => ?_, ?_, ?_, ?_, ?_, ?_⟩, hle⟩
      · obtain ⟨C, c1, c2, c3⟩ := hI.cols d hd hm
        have hf : fD size d (b, false) = (b / d + 1) * d := rfl
        rw [sF, d2, hf] at c3
        refine ⟨C + (b / d + 1) * d, ?_, ?_, ?_⟩
        · simp only
          rw [List.append_assoc, col_app, List.foldl_append, c1, col_bl]
          exact colS_tab d C b hd c2
        · rw [Nat.add_mod, c2, Nat.mul_mod_left]; simp
        · simp only; lia
      · have := hI.tabs
        have hg : gT (b, false) = 1 := rfl
        rw [sF, d2, hg] at this
        simp only [List.count_append, count_bl, show ([9] : List Nat).count 9 = 1 from rfl]
        lia
      · intro y hy
        rcases List.mem_append.mp hy with hy | hy
        · rcases List.mem_append.mp hy with hy | hy
          · exact hI.signs y hy
          · exact .inl (bl_mem hy)
        · exact .inr (by simpa using hy)
      · simp only [List.flatMap_append, hI.dec, List.flatMap_cons, List.flatMap_nil, List.append_nil, q1, List.append_assoc]
      · intro w hw'
        rcases List.mem_append.mp hw' with hw' | hw'
        · exact hI.sent w hw'
        · simp at hw'; subst hw'
          exact ⟨written_len _ hr6, fun y hy => written_no hy⟩
      · simp; lia
    | true =>
      have hb : b = size := hrs rfl
      subst hb
      by_cases hx3 : x / 8 % 3 = 0
      · have e : stepP rows wire s x = ⟨s.left.eraseIdx k, s.sent ++ [(written b true).dropLast], s.told ++ [9], s.lost + 1⟩ := by
          unfold stepP
          rw [if_neg h0, hkk, d1, d2, d3, if_neg (by simp), if_pos hx3]
        rw [e]
        refine ⟨⟨hsub, fun d hd hm => ?_, ?_, ?_, ?_, ?_, ?_⟩, hle⟩
        · obtain ⟨C, c1, c2, c3⟩ := hI.cols d hd hm
          have hf : fD b d (b, true) = b := rfl
          rw [sF, d2, hf] at c3
          have hdl : d ≤ b := Nat.le_of_dvd (by exact Nat.zero_lt_of_lt ‹_›) (Nat.dvd_of_mod_eq_zero hm)
          refine ⟨C + d, ?_, ?_, ?_⟩
          · simp only
            rw [col_app, c1]
            have := colS_tab d C 0 hd c2
            simpa using this
          · rw [Nat.add_mod, c2, Nat.mod_self]; simp
          · have : (b - d) * (s.lost + 1) = (b - d) * s.lost + (b - d) := Nat.mul_succ _ _
            simp only
            rw [this]
            lia
        · have := hI.tabs
          have hg : gT (b, true) = 0 := rfl
          rw [sF, d2, hg] at this
          simp only [List.count_append, show ([9] : List Nat).count 9 = 1 from rfl]
          lia
        · intro y hy
          rcases List.mem_append.mp hy with hy | hy
          · exact hI.signs y hy
          · exact .inr (by simpa using hy)
        · simp only [List.flatMap_append, hI.dec, List.flatMap_cons, List.flatMap_nil, List.append_nil, q3]
        · intro w hw'
          rcases List.mem_append.mp hw' with hw' | hw'
          · exact hI.sent w hw'
          · simp at hw'; subst hw'
            refine ⟨by have := written_len true hr6; simp; exact Nat.le_succ_of_le ‹_›, fun y hy => written_no ((List.dropLast_sublist _).subset hy)⟩
        · simp; lia
      · have e : stepP rows wire s x = ⟨s.left.eraseIdx k, s.sent ++ [written b true], s.told ++ bl b, s.lost⟩ := by
          unfold stepP
          rw [if_neg h0, hkk, d1, d2, d3, if_neg (by simp), if_neg hx3]
        rw [e]
        refine ⟨⟨hsub, fun d hd hm => ?_, ?_, ?_, ?_, ?_, ?_⟩, hle⟩
        · obtain ⟨C, c1, c2, c3⟩ := hI.cols d hd hm
          have hf : fD b d (b, true) = b := rfl
          rw [sF, d2, hf] at c3
          refine ⟨C + b, ?_, ?_, ?_⟩
          · simp only
            rw [col_app, c1, col_bl]
            push_cast; rfl
          · rw [Nat.add_mod, c2, hm]; simp
          · simp only; lia
        · have := hI.tabs
          have hg : gT (b, true) = 0 := rfl
          rw [sF, d2, hg] at this
          simp only [List.count_append, count_bl]
          lia
        · intro y hy
          rcases List.mem_append.mp hy with hy | hy
          · exact hI.signs y hy
          · exact .inl (bl_mem hy)
        · simp only [List.flatMap_append, hI.dec, List.flatMap_cons, List.flatMap_nil, List.append_nil, q2]
        · intro w hw'
          rcases List.mem_append.mp hw' with hw' | hw'
          · exact hI.sent w hw'
          · simp at hw'; subst hw'
            exact ⟨written_len _ hr6, fun y hy => written_no hy⟩
        · simp; lia
theorem InvL.run {size : Nat} {rows : List (Nat × Bool)} {wire : List (List Nat)} {n : Nat} {T : Nat → Nat} {T9 : Nat} (h6 : size ≤ 6) (h3 : 3 ≤ size) (hr : ∀ i, i < n → ∃ r, rows[i]? = some r ∧ wire[i]? = some (written r.1 r.2) ∧ r.1 ≤ 6 ∧ (r.2 = true → r.1 = size)) :
    ∀ (xs : List Nat) (s : PS), InvL size rows n T T9 s → InvL size rows n T T9 (xs.foldl (stepP rows wire) s) ∧ (xs.foldl (stepP rows wire) s).left.length = s.left.length - xs.length
  | [], s, h => ⟨h, by simp⟩
  | x :: xs, s, h => by
    obtain ⟨a, b⟩ := h.step h6 h3 hr x
    obtain ⟨c, d⟩ := InvL.run h6 h3 hr xs _ a
    exact ⟨c, by rw [List.foldl_cons, d, b, List.length_cons]; lia⟩
end Mine
end
section
open PySem PySem.W PyProof.Rows PyProof.V
set_option Elab.async false
set_option maxRecDepth 20000
set_option linter.unusedSimpArgs false
set_option linter.unusedVariables false
namespace Mine
noncomputable def sumB (f : Nat × Bool → Nat) : List (Nat × Bool) → Nat
  | [] => 0
  | a :: r => f a + sumB f r
theorem sumB_app (f : Nat × Bool → Nat) : ∀ a b, sumB f (a ++ b) = sumB f a + sumB f b
  | [], b => by simp [sumB]
  | x :: a, b => by rw [List.cons_append, sumB, sumB_app f a b, sumB]; lia
theorem sumB_rep (f : Nat × Bool → Nat) (x : Nat × Bool) : ∀ n, sumB f (List.replicate n x) = n * f x
  | 0 => by simp [sumB]
  | n + 1 => by rw [List.replicate_succ, sumB, sumB_rep f x n, Nat.succ_mul]; lia
theorem sumR_map (g : Nat → Nat) (h : Nat → Nat) : ∀ l, sumR g (l.map h) = sumR (fun i => g (h i)) l
  | [] => rfl
  | a :: r => by simp only [List.map_cons, sumR, sumR_map g h r]
theorem sumR_congr {f g : Nat → Nat} : ∀ {l : List Nat}, (∀ i ∈ l, f i = g i) → sumR f l = sumR g l
  | [], _ => rfl
  | a :: r, h => by simp only [sumR]; rw [h a (.head _), sumR_congr fun i hi => h i (.tail _ hi)]
theorem sumR_range (f : Nat × Bool → Nat) (z : Nat × Bool) : ∀ l : List (Nat × Bool), sumR (fun i => f (l.getD i z)) (List.range l.length) = sumB f l
  | [] => rfl
  | a :: r => by
    rw [List.length_cons, List.range_succ_eq_map, sumR, sumR_map, sumB]
    congr 1
    rw [← sumR_range f z r]
    rfl
theorem sumB_rowsOf {size d : Nat} (hs : 0 < size) (hd : 0 < d) (hm : size % d = 0) (b : Nat) : sumB (fD size d) (rowsOf size b) = (b / d + 1) * d := by
  unfold rowsOf
  rw [sumB_app, sumB_rep]
  simp only [sumB, fD, if_true, Bool.false_eq_true, if_false]
  obtain ⟨m, rfl⟩ := Nat.dvd_of_mod_eq_zero hm
  have h1 := Nat.div_add_mod b (d * m)
  have h2 : b / d = m * (b / (d * m)) + (b % (d * m)) / d := by
    conv => lhs; rw [← h1]
    rw [Nat.mul_assoc, Nat.mul_add_div hd]
  rw [h2]
  simp only [Nat.add_mul, Nat.one_mul, Nat.add_zero]
  have h3 : b / (d * m) * (d * m) = m * (b / (d * m)) * d := by
    rw [Nat.mul_comm d m, ← Nat.mul_assoc, Nat.mul_comm (b / (m * d)) m]
  rw [h3]
  lia
theorem gT_rowsOf (size b : Nat) : sumB gT (rowsOf size b) = 1 := by
  unfold rowsOf
  rw [sumB_app, sumB_rep]
  simp [sumB, gT]
theorem rows_drop (size p0 p1 p2 : Nat) : (rows1 size p0 p1 p2).dropLast = rowsOf size p0 ++ (rowsOf size p1 ++ List.replicate (p2 / size) (size, true)) := by
  rw [rows1_eq, List.dropLast_append_of_ne_nil (by simp [rowsOf_ne]), List.dropLast_append_of_ne_nil (rowsOf_ne _ _), rowsOf_drop]
section
variable {size p0 p1 p2 : Nat} {wd : List Nat}
theorem rows_at (h6 : size ≤ 6) (h3 : 3 ≤ size) {i : Nat} (hi : i < (rows1 size p0 p1 p2).length - 1) :
    ∃ r, (rows1 size p0 p1 p2)[i]? = some r ∧ (wire1 size p0 p1 p2 wd)[i]? = some (written r.1 r.2) ∧ r.1 ≤ 6 ∧ (r.2 = true → r.1 = size) ∧ (rows1 size p0 p1 p2).dropLast[i]? = some r := by
  have hd : i < (rows1 size p0 p1 p2).dropLast.length := by rw [List.length_dropLast]; exact hi
  refine ⟨(rows1 size p0 p1 p2).dropLast[i], ?_, ?_, ?_, ?_, List.getElem?_eq_getElem hd⟩
  · rw [List.getElem_dropLast]; exact List.getElem?_eq_getElem _
  · unfold wire1
    rw [List.getElem?_append_left (by rw [List.length_map]; exact hd), List.getElem?_map, List.getElem?_eq_getElem hd]
    rfl
  · exact (rows1_mem h6 h3 ((List.dropLast_sublist _).subset (List.getElem_mem hd))).1
  · exact (rows1_mem h6 h3 ((List.dropLast_sublist _).subset (List.getElem_mem hd))).2.1
theorem rows_len3 : 3 ≤ (rows1 size p0 p1 p2).length := by
  have h : ∀ b, 1 ≤ (rowsOf size b).length := fun b => List.length_pos_iff.mpr (rowsOf_ne size b)
  have a0 := h p0
  have a1 := h p1
  have a2 := h p2
  rw [rows1_eq, List.length_append, List.length_append]
  lia
noncomputable def Tof (size p0 p1 p2 d : Nat) : Nat := sumR (fun i => fD size d ((rows1 size p0 p1 p2).getD i (0, false))) (List.range ((rows1 size p0 p1 p2).length - 1))
theorem sum_drop (f : Nat × Bool → Nat) (l : List (Nat × Bool)) : sumR (fun i => f (l.getD i (0, false))) (List.range (l.length - 1)) = sumB f l.dropLast := by
  rw [← sumR_range f (0, false) l.dropLast, List.length_dropLast]
  refine sumR_congr fun i hi => ?_
  have hi := List.mem_range.mp hi
  congr 1
  rw [List.getD_eq_getElem?_getD, List.getD_eq_getElem?_getD, List.getElem?_dropLast, if_pos hi]
theorem Tof_eq (h3 : 3 ≤ size) {d : Nat} (hd : 0 < d) (hm : size % d = 0) : Tof size p0 p1 p2 d + p2 % size = I [p0, p1] p2 d := by
  unfold Tof
  rw [sum_drop, rows_drop, sumB_app, sumB_app, sumB_rowsOf (by exact Nat.zero_lt_of_lt ‹_›) hd hm, sumB_rowsOf (by exact Nat.zero_lt_of_lt ‹_›) hd hm, sumB_rep]
  simp only [I, sumR, fD, if_true]
  have := Nat.div_add_mod p2 size
  rw [Nat.mul_comm (p2 / size) size]
  lia
theorem tabs_eq : sumR (fun i => gT ((rows1 size p0 p1 p2).getD i (0, false))) (List.range ((rows1 size p0 p1 p2).length - 1)) = 2 := by
  rw [sum_drop, rows_drop, sumB_app, sumB_app, gT_rowsOf, gT_rowsOf, sumB_rep]
  simp [gT]
theorem inv0 : InvL size (rows1 size p0 p1 p2) ((rows1 size p0 p1 p2).length - 1) (Tof size p0 p1 p2) 2 ⟨List.range ((rows1 size p0 p1 p2).length - 1), [], [], 0⟩ := by
  refine ⟨fun i hi => List.mem_range.mp hi, fun d hd hm => ⟨0, rfl, Nat.zero_mod _, ?_⟩, ?_, ?_, rfl, ?_, ?_⟩
  · simp only [Nat.mul_zero, Nat.add_zero, Nat.zero_add]; rfl
  · simp only [tabs_eq]; rfl
  · intro x hx; cases hx
  · intro x hx; cases hx
  · simp
theorem inv0B (h6 : size ≤ 6) (h3 : 3 ≤ size) (b0 : p0 < 8) (b1 : p1 < 8) (b2 : p2 < 8) : InvB (rows1 size p0 p1 p2) (wire1 size p0 p1 p2 wd) ⟨List.range ((rows1 size p0 p1 p2).length - 1), [], [], 0⟩ 8 := by
  have hl := rows1_len h3 b0 b1 b2
  refine ⟨fun i hi => ?_, by simp; exact Nat.le_trans ‹_› (by decide), by simp, by simp, by simp⟩
  have hi := List.mem_range.mp hi
  obtain ⟨r, h1, h2, h4, _, _⟩ := rows_at (wd := wd) h6 h3 hi
  exact ⟨r, _, h1, h2, h4, written_len _ h4, by omega⟩
end
/-! decode of what is sent -/
theorem lns_sent {wl : List Nat} (hw : ∀ c ∈ wl, isNl c = false) : ∀ (sent : List (List Nat)), (∀ w ∈ sent, ∀ c ∈ w, isNl c = false) → lns (joinL [32, 10] (sent ++ [wl])) = sent.map (· ++ [32]) ++ (if wl = [] then [] else [wl])
  | [], _ => by
    show lns wl = _
    split
    · rename_i h; subst h; rfl
    · rename_i h; exact lns_end h hw
  | w :: r, h => by
    rw [List.cons_append, join_cons (by simp)]
    have e : w ++ [32, 10] ++ joinL [32, 10] (r ++ [wl]) = (w ++ [32]) ++ 10 :: joinL [32, 10] (r ++ [wl]) := by simp
    rw [e, lns_10, lns_sent hw r fun x hx => h x (.tail _ hx)]
    · rfl
    · intro c hc
      rcases List.mem_append.mp hc with hc | hc
      · exact h w (.head _) c hc
      · simp at hc; subst hc; rfl
theorem last_facts : ((List.range 7).all fun b => (b == 0 || decR [9] (written b false) == bl b ++ [9]) && (decR [9] (bl b ++ [105, 102]) == bl b ++ [105, 102] ++ [9])) = true := by decide +kernel
theorem last_fact {size p2 : Nat} {wd : List Nat} (hw : okW wd) (hb : p2 % size ≤ 6) (hne : last1 size p2 wd ≠ []) : decR [9] (last1 size p2 wd) = bl (p2 % size) ++ wd ++ [9] := by
  have := List.all_eq_true.mp last_facts (p2 % size) (List.mem_range.mpr (by exact Nat.lt_succ_of_le ‹_›))
  simp only [Bool.and_eq_true, beq_iff_eq, Bool.or_eq_true] at this
  rcases hw with rfl | rfl
  · unfold last1
    rw [if_neg (by simp), this.2]
  · unfold last1 at hne ⊢
    rw [if_pos rfl] at hne ⊢
    rcases this.1 with h | h
    · rw [h] at hne; exact absurd rfl hne
    · rw [h]; simp
theorem join_last {wl : List Nat} (h : wl ≠ []) : ∀ sent : List (List Nat), (joinL [32, 10] (sent ++ [wl])).getLast? = wl.getLast?
  | [] => rfl
  | w :: r => by
    rw [List.cons_append, join_cons (by simp)]
    have hne : joinL [32, 10] (r ++ [wl]) ≠ [] := by
      intro h0
      have := join_last h r
      rw [h0, List.getLast?_eq_some_getLast h] at this
      cases this
    rw [getLast_app hne, join_last h r]
theorem join_last0 : ∀ sent : List (List Nat), sent ≠ [] → (joinL [32, 10] (sent ++ [[]])).getLast? = some 10
  | [], h => absurd rfl h
  | [w], _ => by simp [joinL]
  | w :: v :: r, _ => by
    rw [List.cons_append, join_cons (by simp)]
    have ih := join_last0 (v :: r) (by simp)
    have hne : joinL [32, 10] ((v :: r) ++ [[]]) ≠ [] := by
      intro h0; rw [h0] at ih; cases ih
    rw [getLast_app hne, ih]
theorem read_eq {size p2 : Nat} {wd : List Nat} (hw : okW wd) (hb : p2 % size ≤ 6) {sent : List (List Nat)} {told : List Nat} (hs0 : sent ≠ []) (hs : ∀ w ∈ sent, ∀ x ∈ w, x = 32 ∨ x = 61 ∨ x = 50 ∨ x = 48) (hd : sent.flatMap (fun w => decR [9] (w ++ [32])) = told) :
    decA [9] (joinL [32, 10] (sent ++ [last1 size p2 wd])) = told ++ bl (p2 % size) ++ wd := by
  have nlS : ∀ w ∈ sent, ∀ c ∈ w, isNl c = false := fun w hw c hc => by
    rcases hs w hw c hc with rfl | rfl | rfl | rfl <;> rfl
  have nlL : ∀ c ∈ last1 size p2 wd, isNl c = false := fun c hc => by
    rcases last_no hw hc with rfl | rfl | rfl | rfl | rfl | rfl <;> rfl
  unfold decA
  rw [lns_sent nlL sent nlS, List.flatMap_append, List.flatMap_map, hd]
  by_cases h0 : last1 size p2 wd = []
  · rw [if_pos h0, h0, join_last0 sent hs0]
    have hb0 : p2 % size = 0 ∧ wd = [] := by
      unfold last1 at h0
      split at h0
      · rename_i hwd
        refine ⟨?_, hwd⟩
        unfold written at h0
        simp only [Bool.false_eq_true, if_false] at h0
        split at h0
        · assumption
        · simp at h0
      · rename_i hwd
        simp only [List.append_eq_nil_iff] at h0
        exact absurd h0.2 hwd
    rw [hb0.1, hb0.2]
    simp
  · rw [if_neg h0, join_last h0 sent]
    have hlast : ∀ z, (last1 size p2 wd).getLast? = some z → z ≠ 13 ∧ z ≠ 10 := fun z hz => by
      have := last_no hw (List.mem_of_getLast? hz)
      lia
    obtain ⟨z, hz⟩ : ∃ z, (last1 size p2 wd).getLast? = some z := ⟨_, List.getLast?_eq_some_getLast h0⟩
    obtain ⟨z1, z2⟩ := hlast z hz
    simp only [List.flatMap_cons, List.flatMap_nil, List.append_nil, last_fact hw hb h0, hz]
    have hc : (!(some z == some 13 || some z == some 10) && sfx (told ++ (bl (p2 % size) ++ wd ++ [9])) [9]) = true := by
      have h1 : sfx (told ++ (bl (p2 % size) ++ wd ++ [9])) [9] = true := by
        unfold sfx
        rw [List.isSuffixOf_iff_suffix]
        exact ⟨told ++ (bl (p2 % size) ++ wd), by simp⟩
      rw [h1]
      simp [z1, z2]
    rw [hc]
    simp only [if_true]
    have e : told ++ (bl (p2 % size) ++ wd ++ [9]) = (told ++ bl (p2 % size) ++ wd) ++ [9] := by simp
    rw [e, List.length_append]
    show ((told ++ bl (p2 % size) ++ wd) ++ [9]).take ((told ++ bl (p2 % size) ++ wd).length + 1 - 1) = _
    rw [Nat.add_sub_cancel, List.take_left]
theorem join_bound : ∀ (ls : List (List Nat)) (k : Nat), (∀ l ∈ ls, l.length ≤ k) → (joinL [32, 10] ls).length ≤ (k + 2) * ls.length
  | [], k, _ => by simp [joinL]
  | [a], k, h => by have := h a (.head _); simp [joinL]; lia
  | a :: b :: r, k, h => by
    rw [join_cons (by simp)]
    have h1 := h a (.head _)
    have h2 := join_bound (b :: r) k fun l hl => h l (.tail _ hl)
    have h3 : (k + 2) * (a :: b :: r).length = (k + 2) * (b :: r).length + (k + 2) := Nat.mul_succ _ _
    simp only [List.length_append, List.length_cons, List.length_nil] at h2 h3 ⊢
    lia
theorem join_mem {c : Nat} : ∀ (ls : List (List Nat)), c ∈ joinL [32, 10] ls → c = 32 ∨ c = 10 ∨ ∃ l ∈ ls, c ∈ l
  | [], h => by cases h
  | [a], h => .inr (.inr ⟨a, .head _, h⟩)
  | a :: b :: r, h => by
    rw [join_cons (by simp)] at h
    rcases List.mem_append.mp h with h | h
    · rcases List.mem_append.mp h with h | h
      · exact .inr (.inr ⟨a, .head _, h⟩)
      · simp at h; lia
    · rcases join_mem (b :: r) h with h | h | ⟨l, hl, h⟩
      · exact .inl h
      · exact .inr (.inl h)
      · exact .inr (.inr ⟨l, .tail _ hl, h⟩)
end Mine
end
section
open PySem PySem.W PyProof.Rows PyProof.V
set_option Elab.async false
set_option maxRecDepth 20000
set_option linter.unusedSimpArgs false
set_option linter.unusedVariables false
namespace Mine
theorem pb_split : pb_law = [st0, st1, st2, st3, st4] ++ ([st5, st6, st7, st8, st9] ++ ([st10, st11, st12, st13, st14, st15] ++ ([st16, st17, st18, st19, st20] ++ ([st21] ++ [st22, st23, st24, st25, st26, st27, st28, st29, st30, st31, st32, st33, st34])))) := rfl
theorem count_mk (rs : List Nat) (c : Nat) : (mk rs c).count 9 = rs.length := by
  induction rs with
  | nil => rw [mk_nil]; exact count_bl c
  | cons a r ih => rw [mk_cons, List.count_append, count_bl, List.count_cons, ih]; simp
theorem law1_run (ns : List Int) (h : ns.length ≤ 63) : ∃ loc' H', exs (pg1.lvl 2) pb_law (some (.fix (ns.map .int)) :: List.replicate 28 none) [] = some (.ret (.p (.bool true)), loc', H') := by
  obtain ⟨xs, hxs, hxl, hxb⟩ := numbers1_nat (ns := ns)
  match xs, hxs, hxl, hxb with
  | x0 :: x1 :: x2 :: x3 :: r, hxs, hxl, hxb =>
  have hrl : r.length = 8 := by simpa using hxl
  let p0 := x0 % 8
  let p1 := x1 % 8
  let p2 := x2 % 8
  let size := 3 + x3 % 4
  let wd := word1 x3
  have b0 : p0 < 8 := Nat.mod_lt _ (by decide)
  have b1 : p1 < 8 := Nat.mod_lt _ (by decide)
  have b2 : p2 < 8 := Nat.mod_lt _ (by decide)
  have h3 : 3 ≤ size := Nat.le_add_right _ _
  have h6 : size ≤ 6 := by have := Nat.mod_lt x3 (show 0 < 4 by decide); simp only [size]; lia
  have hw : okW wd := okW_word x3
  let rows := rows1 size p0 p1 p2
  let wire := wire1 size p0 p1 p2 wd
  have hrows9 : rows.length ≤ 9 := rows1_len h3 b0 b1 b2
  have hrows3 : 3 ≤ rows.length := rows_len3
  let lb0 := p2 % size
  have hlb6 : lb0 ≤ 6 := by have := Nat.mod_lt p2 (show 0 < size by lia); simp only [lb0]; lia
  let num : List P := (x0 :: x1 :: x2 :: x3 :: r).map pN
  let sl : List P := [pN x0, pN x1, pN x2]
  let pt : List P := [pN p0, pN p1, pN p2]
  let fin := runP rows wire r
  -- the loop's end
  have hat : ∀ i, i < rows.length - 1 → ∃ q, rows[i]? = some q ∧ wire[i]? = some (written q.1 q.2) ∧ q.1 ≤ 6 ∧ (q.2 = true → q.1 = size) := fun i hi => by
    obtain ⟨q, a1, a2, a3, a4, _⟩ := rows_at (wd := wd) h6 h3 hi
    exact ⟨q, a1, a2, a3, a4⟩
  obtain ⟨hI, hleft⟩ := InvL.run h6 h3 hat r _ (inv0 (size := size) (p0 := p0) (p1 := p1) (p2 := p2))
  have hI : InvL size rows (rows.length - 1) (Tof size p0 p1 p2) 2 fin := hI
  have hl0 : fin.left = [] := by
    apply List.length_eq_zero_iff.mp
    have : fin.left.length = (List.range (rows.length - 1)).length - r.length := hleft
    rw [this, List.length_range]; lia
  have hsl : fin.sent.length = rows.length - 1 := by have := hI.len; rw [hl0] at this; simpa using this
  have hs0 : fin.sent ≠ [] := by intro h0; rw [h0] at hsl; simp at hsl; lia
  let told := fin.told ++ bl lb0
  obtain ⟨qs, e, htold⟩ := exists_mk told (fun x hx => by
    rcases List.mem_append.mp hx with hx | hx
    · exact hI.signs x hx
    · exact .inl (bl_mem hx))
  have hA : qs.length = 2 + fin.lost := by
    have h1 := hI.tabs
    rw [hl0] at h1
    have h2 : told.count 9 = fin.told.count 9 := by simp only [told]; rw [List.count_append, count_bl]; rfl
    rw [← count_mk qs e, ← htold, h2]
    simpa [sumR] using h1
  have hB : ∀ d, 0 < d → size % d = 0 → I qs e d + (size - d) * fin.lost = I [p0, p1] p2 d := by
    intro d hd hm
    obtain ⟨C, c1, c2, c3⟩ := hI.cols d hd hm
    rw [hl0] at c3
    have h1 : col (d : Int) told = ((C + lb0 : Nat) : Int) := by
      simp only [told]
      rw [col_app, c1, col_bl]
      push_cast; rfl
    rw [htold, col_I d hd] at h1
    have h2 := Tof_eq (p0 := p0) (p1 := p1) (p2 := p2) h3 hd hm
    simp only [sumR] at c3
    simp only [lb0] at h1
    lia
  have hlost : fin.lost ≤ 20 := by
    have := hB 1 (by decide) (Nat.mod_one _)
    have h1 : I [p0, p1] p2 1 ≤ 30 := by simp [I, sumR]; lia
    have h2 : 2 * fin.lost ≤ (size - 1) * fin.lost := Nat.mul_le_mul_right _ (by lia)
    lia
  have hlead : lead1 p0 p1 p2 = mk [p0, p1] p2 := by simp [lead1, mk]
  have F : Plain1 size fin.lost (lead1 p0 p1 p2) told wd := by
    rw [hlead, htold]
    exact plain1 hw h3 hA hB b0 b1 b2 hlost
  have hread : decA [9] (joinL [32, 10] (fin.sent ++ [last1 size p2 wd])) = told ++ wd := read_eq hw hlb6 hs0 (fun w hw' => (hI.sent w hw').2) hI.dec
  have hmem : ∀ l ∈ fin.sent ++ [last1 size p2 wd], l.length ≤ 20 ∧ ∀ x ∈ l, x < 128 := by
    intro l hl
    rcases List.mem_append.mp hl with hl | hl
    · obtain ⟨a, b⟩ := hI.sent l hl
      exact ⟨a, fun x hx => by have := b x hx; lia⟩
    · simp at hl; subst hl
      refine ⟨?_, fun x hx => by have := last_no hw hx; lia⟩
      unfold last1
      split
      · exact written_len _ hlb6
      · have := okW_len hw; simp; lia
  have hjl : (joinL [32, 10] (fin.sent ++ [last1 size p2 wd])).length ≤ 1000 := by
    have h1 := join_bound (fin.sent ++ [last1 size p2 wd]) 20 fun l hl => (hmem l hl).1
    have h2 : (fin.sent ++ [last1 size p2 wd]).length ≤ 9 := by rw [List.length_append, hsl]; simp; lia
    have h4 : (20 + 2) * (fin.sent ++ [last1 size p2 wd]).length ≤ 22 * 9 := Nat.mul_le_mul_left _ h2
    lia
  have hja : asc (joinL [32, 10] (fin.sent ++ [last1 size p2 wd])) = true := by
    refine List.all_eq_true.mpr fun c hc => ?_
    rw [decide_eq_true_eq]
    rcases join_mem _ hc with h | h | ⟨l, hl, h⟩
    · lia
    · lia
    · exact (hmem l hl).2 c h
  have hj0 : joinL [32, 10] (fin.sent ++ [last1 size p2 wd]) ≠ [] := by
    obtain ⟨w, v, hwv⟩ := List.exists_cons_of_ne_nil hs0
    rw [hwv, List.cons_append, join_cons (by simp)]
    simp
  have A1 := partA1 (ns := ns) h hxs (k := 0)
  have A2 := partA2 (ns := ns) (p0 := p0) (p1 := p1) (p2 := p2) (size := size) (wd := wd) (num := num) (sl := sl) (k := 0) hw h3 h6 b0 b1 b2
  obtain ⟨o2, o11, o12, o17, B⟩ := partB (g := pg1.lvl 2) (ns := ns) (wd := wd) (lead := lead1 p0 p1 p2) (last := last1 size p2 wd) (letter := letter1 size p0 p1 p2 wd) (size := size) (num := num) (sl := sl) (pt := pt) (rows := rows) (wire := wire) (xs := x0 :: x1 :: x2 :: x3 :: r) (lb0 := lb0) rfl hxb (by lia) (by lia) (by lia) (inv0B h6 h3 b0 b1 b2) rows1_last (by lia)
  let c : CX := ⟨ns, wd, lead1 p0 p1 p2, last1 size p2 wd, letter1 size p0 p1 p2 wd, size, o2, o11, o12, told, fin.lost, o17⟩
  let hx : HX := ⟨num, sl, pt, rows, wire, fin.left, fin.sent⟩
  have C := partC (c := c) (h := hx) (k := 0) (wl := last1 size p2 wd) (by simp [hx, wire, wire1]) (by have := (hmem _ (List.mem_append_right _ (List.mem_singleton.mpr rfl))).1; lia) (by show fin.sent.length ≤ 100; lia) (fun l hl => (hI.sent l hl).1) hj0 hjl hja hread (by have : told.length ≤ 800 := F.l2; show told.length ≤ 900; lia) (okW_len hw) (by have := F.l1; show (lead1 p0 p1 p2).length ≤ 900; lia)
  have hsp : splitG [9] 0 (lead1 p0 p1 p2) = [p0, p1].map bl ++ [bl p2] := by rw [hlead, split_mk]
  have hspt : splitG [9] 0 told = qs.map bl ++ [bl e] := by rw [htold, split_mk]
  have hmx := maxN_mk_le qs e
  have htl : told.length ≤ 800 := F.l2
  obtain ⟨o22, o23, o24, D⟩ := partD (c := c) (h := hx) (k := 1) (o18 := some (told ++ wd)) (by show size ≤ 1000; lia) (by
      show topM (lead1 p0 p1 p2) told ≤ 900
      have h1 := F.tt
      have h2 : (tab1 size fin.lost (lead1 p0 p1 p2) told).length = topM (lead1 p0 p1 p2) told := by simp [tab1]
      have h4 : topM (lead1 p0 p1 p2) told ≤ 900 := by
        rw [hlead, htold, topM_mk]
        rw [← htold] at hmx
        simp only [maxN]
        lia
      exact h4) (by
      show (splitG [9] 0 (lead1 p0 p1 p2) ++ splitG [9] 0 told).length ≤ 2000
      have := F.n1.2
      have := F.n2.2
      rw [List.length_append]; lia) (by show splitG [9] 0 (lead1 p0 p1 p2) ≠ []; rw [hsp]; simp) (by
      show ∀ l ∈ splitG [9] 0 (lead1 p0 p1 p2) ++ splitG [9] 0 told, l.length ≤ 1000
      intro l hl
      rw [hsp, hspt] at hl
      rw [← htold] at hmx
      simp only [List.map_cons, List.map_nil, List.mem_append, List.mem_cons, List.not_mem_nil, or_false, List.mem_map] at hl
      rcases hl with ((rfl | rfl) | rfl) | (⟨a, ha, rfl⟩ | rfl)
      · simp; lia
      · simp; lia
      · simp; lia
      · have := maxN_le ha; simp; lia
      · simp; lia)
  obtain ⟨L', H', E⟩ := partE (c := c) (h := hx) (k := 0) (o22 := o22) (o23 := o23) (o24 := o24) F
  refine ⟨L', H', ?_⟩
  rw [pb_split]
  exact exs_app A1 (exs_app A2 (exs_app B (exs_app C (exs_app D E))))
end Mine
end
section
open PySem PySem.W PyProof.Rows PyProof.V
set_option Elab.async false
set_option maxRecDepth 100000
set_option maxHeartbeats 400000
namespace Mine
theorem well_list {P : Params} {h : Heap} {v : Value} {d : WData} (w : Well P h v d) : ∀ {a : Addr} {xs : List WData}, v = .ref a → d = .list xs → ∃ vs : List Value, h.get? a = some (listOf vs.toArray 0) := by
  have nl : ∀ {d : WData} {xs : List WData} {C : Prop}, Nat.beq d.ctorIdx (WData.list []).ctorIdx = false → d = .list xs → C := fun h e => nob (h.symm.trans (congrArg (fun d : WData => Nat.beq d.ctorIdx (WData.list []).ctorIdx) e))
  refine @Well.casesOn P h (fun v d _ => ∀ {a : Addr} {xs : List WData}, v = .ref a → d = .list xs → ∃ vs : List Value, h.get? a = some (listOf vs.toArray 0)) v d w ?_ ?_ ?_ ?_ ?_ ?_ ?_ (fun hg _ _ _ e _ => Value.ref.inj e ▸ ⟨_, hg⟩) ?_ ?_ ?_ ?_ ?_
  all_goals (intros; exact nl rfl ‹_›)
theorem list_at {P : Params} {h : Heap} {a : Addr} {ns : List Int} {vs : List Value} (h1 : Well P h (.ref a) (ofPy (.list (ns.map PyData.int)))) (hL : h.IsList a vs.toArray) : h.get? a = some (listOf vs.toArray 0) := by
  obtain ⟨o, ho, hc, n, ho'⟩ := hL
  obtain ⟨vs', hg⟩ := well_list h1 rfl rfl
  have e := ho'
  rw [← Option.some.inj (hg.symm.trans ho)] at e
  rw [← (Data.seq.inj e).1]
  exact hg
theorem room1 {env : Env} : Room (callerA.deeper env) 5 := ⟨rfl, by rw [depth_deeper]; decide +kernel, by rw [Around.deeper_units]; decide +kernel⟩
theorem law1_holds : PySem.Challenge.rw_ku0010_01.Holds := by
  w_on
  refine holds_law (by kernel_rfl) fun said => ?_
  refine holds_open (q := qOf PySem.Challenge.pw_ku0010_01) (loose := looseL) (Xt := xtOf (qOf PySem.Challenge.pw_ku0010_01)) (XP := XL (qOf PySem.Challenge.pw_ku0010_01) []) (Yf := Hook.obs hkF) (Ya := Hook.val hkF) (YP := Hook.says hkF) (N := 20000)
    left_Q (Hook.of hkF) (Hook.keeps hkF) (fun s e => xl_of s (Bool.and_eq_true_iff.mp e).1) XL.keeps (by rfl) (by rfl) (by rfl) (fun s e => recFacts_of (Bool.and_eq_true_iff.mp e).2) (by rfl) (by first | assumption | decide +kernel) (by decide +kernel) ⟨rfl, rfl, rfl, rfl, rfl, by decide +kernel⟩ ?hw ?hc
  case hw => w_witness2
  case hc =>
    intro w s₀ s₁ mg mb G Y fa o pm cd doc dV kV ho hd hcd hD hmg hg args vals as hpre hlay hrd hwl hlo
    have KX := kIn_of Y
    have X := (Ground.X G).1
    have V := (Ground.X G).2
    refine Ground.open G ?_
    intro T B D TE TW
    try (refine guard_noD D (by decide +kernel) ?_; clear D)
    obtain ⟨_, _, M⟩ := bmod_of_top T
    have TA := at_of_top T
    try (obtain ⟨_, _, he, B0⟩ := based_of_top T rfl hmg ho hd; have he' : cd = _ := he; subst he'; clear he)
    clear hmg
    wrow_args hpre hlay hrd hwl hlo
    all_goals (
      first | refine callC_kw (enter_call ?_) | refine enter_call ?_ | refine callC_kw (enter_callW ?_) | refine enter_callW ?_ | w_how
      w_top on
      try refine codeAny_mono ?_ (fun _ _ g => GoodW.toG g)
      have K0 := below_caller (Top.heap T)
      w_call any ho hd hcd hD T F
      clear hd TA
      k_drop
      skip)
    refine finish1 ?run KX (topRead_of ‹Top _ _ _ _ _ _›) (list_at ‹Well _ _ _ _› ‹Heap.IsList _ _ _›) ‹IntsAre _ _› ‹Fr _ _ _ _› rfl rfl ⟨rfl, rfl, rfl, rfl, show pnm_law.Nodup by decide⟩ rfl (by kernel_rfl) room1 (Nat.le_add_left _ _) ?_
    case run => exact law1_run _ (by lia)
    intro s' m' F' hg' hos'
    refine goodW_bool F' (hg'.trans hg) (raisesW_false ?_) ?_ hos'
    · wrow_none_raised
    · wrow_post
end Mine
end
theorem PySem.Challenge.cw_ku0010_01_holds : PySem.Challenge.rw_ku0010_01.Holds :=
  Mine.law1_holds

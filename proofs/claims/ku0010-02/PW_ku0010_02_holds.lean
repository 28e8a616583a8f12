import PyProof.Rows.All
import Wide.All
import OpenK.AllK
import Wide.FinOn
import KE.KxPercent
import KE.KIntText
import PyProof.MeetsSeq2
import Lean
import PySem.Challenge.RW_ku0010_02
set_option Elab.async false
section
open PySem PySem.W PyProof.Rows
set_option Elab.async false
set_option genSizeOf false
set_option maxRecDepth 20000
namespace Mine

theorem no {α : Type} {x : α} {C : Prop} (h : Option.none = some x) : C := nomatch h
theorem nob {C : Prop} (h : false = true) : C := nomatch h
/-! plain data -/
inductive P where
  | none | bool (b : Bool) | int (i : Int) | str (l : List Nat) | tup (ps : List P)

noncomputable def S (l : List Nat) : Str := ⟨l.toArray⟩
@[simp] theorem S_cps (l : List Nat) : (S l).cps = l.toArray := rfl
@[simp] theorem S_len (l : List Nat) : (S l).length = l.length := by show l.toArray.size = _; simp
theorem S_inj {a b : List Nat} (h : S a = S b) : a = b := by
  have := congrArg (fun x => x.cps.toList) h
  simpa using this
theorem S_of (x : Str) : S x.cps.toList = x := by cases x; rfl

mutual
noncomputable def P.dat : P → Dat
  | .none => .none
  | .bool b => .bool b
  | .int i => .int i
  | .str l => .str (S l)
  | .tup ps => .tuple (dats ps)
noncomputable def dats : List P → List Dat
  | [] => []
  | p :: r => p.dat :: dats r
end
theorem dats_eq (ps : List P) : dats ps = ps.map P.dat := by
  induction ps with
  | nil => rfl
  | cons p r ih => simp [dats, ih]

noncomputable def P.beq (a b : P) : Bool := @decide (a = b) (Classical.propDecidable _)
noncomputable def beqs (a b : List P) : Bool := @decide (a = b) (Classical.propDecidable _)
theorem beq_iff (a b : P) : a.beq b = true ↔ a = b := @decide_eq_true_iff _ (Classical.propDecidable _)
theorem beqs_iff (a b : List P) : beqs a b = true ↔ a = b := @decide_eq_true_iff _ (Classical.propDecidable _)
mutual
theorem dat_inj : ∀ a b : P, a.dat = b.dat → a = b
  | .none, b, h => by cases b <;> simp_all [P.dat]
  | .bool a, b, h => by cases b <;> simp_all [P.dat]
  | .int a, b, h => by cases b <;> simp_all [P.dat]
  | .str a, b, h => by
      cases b with
      | str b => simp only [P.dat, Dat.str.injEq] at h; rw [S_inj h]
      | _ => simp [P.dat] at h
  | .tup a, b, h => by
      cases b with
      | tup b => simp only [P.dat, Dat.tuple.injEq] at h; rw [dats_inj a b h]
      | _ => simp [P.dat] at h
theorem dats_inj : ∀ a b : List P, dats a = dats b → a = b
  | [], b, h => by cases b <;> simp_all [dats]
  | a :: r, b, h => by
      cases b with
      | nil => simp [dats] at h
      | cons b q => simp only [dats, List.cons.injEq] at h; rw [dat_inj a b h.1, dats_inj r q h.2]
end
/-- no bools within, and not too deep: what the kit's == wants -/
noncomputable def P.leaf (f : List P → Bool) (p : P) : Bool := match p with
  | .none => true
  | .int _ => true
  | .str l => l.all (· < 0x110000)
  | .tup ps => f ps
  | .bool _ => false
noncomputable def P.okAt (n : Nat) : P → Bool := Nat.rec (motive := fun _ => P → Bool) (P.leaf fun _ => false) (fun _ f => P.leaf fun ps => ps.all f) n
theorem okAt_int (n : Nat) (i : Int) : (P.int i).okAt n = true := by cases n <;> rfl
theorem okAt_str (n : Nat) (l : List Nat) : (P.str l).okAt n = l.all (· < 0x110000) := by cases n <;> rfl
theorem okAt_tup (n : Nat) (ps : List P) : (P.tup ps).okAt (n + 1) = ps.all (P.okAt n) := rfl
theorem okAt_kqd : ∀ (n : Nat) (p : P), p.okAt n = true → kqdOk n p.dat = true := by
  intro n
  induction n with
  | zero => intro p h; cases p <;> first | rfl | exact nob h | exact (List.all_toArray ..).trans h
  | succ n ih =>
    intro p h
    cases p with
    | tup ps =>
      show (dats ps).all (kqdOk n) = true
      rw [dats_eq, List.all_map]
      exact List.all_eq_true.mpr fun q hq => ih q (List.all_eq_true.mp h q hq)
    | _ => first | rfl | exact nob h | exact (List.all_toArray ..).trans h

/-! abstract values, objects -/
inductive V where
  | p (x : P) | ref (r : Nat) | obj (r : Nat) | bm (r : Nat) | rng (a b : Int) | glob (g : Nat) | fix (ps : List P)
inductive O where
  | list (ps : List P) | inst (fs : List (Str × P)) | cell (x : Option P)

section
set_option genInjectivity false
/-- what never changes: the program, the world, the written part of the heap, the class -/
structure Wd where
  prog : Program
  w : World
  K : Frag
  C : Addr
  T : Nat → Option Addr
  g : Array GenState
  d : Drawn
  os : OsState
  p : Program
  loose : List Str
  mg : Str → Option Value
  mb : Str → Option Value

end
structure Wd.In (X : Wd) (h : Heap) : Prop where
  k : X.K.In h
  t : TopRead X.p X.loose X.mg X.mb h
theorem Wd.In.keeps {X : Wd} {h h' : Heap} (I : X.In h) (k : ∀ b o, h.get? b = some o → h'.get? b = some o) : X.In h' :=
  ⟨I.k.keeps k, ⟨I.t.g.keeps k, I.t.b.keeps k, I.t.nolimit.keeps k, I.t.builtins, I.t.free⟩⟩

noncomputable abbrev bmObj (a : Addr) : Obj := { cls := .type "builtin_function_or_method", data := .fields #[.builtin "list.append", .ref a] }
noncomputable abbrev rngObj (a b : Int) (t u v : Tok) : Obj := { cls := .type "range", dict := none, data := .fields #[.int a t, .int b u, .int 1 v], slots := #[] }
noncomputable abbrev cellObj (v : Option Value) : Obj := { cls := .type "cell", data := .cell v }
noncomputable abbrev tupObj (vs : List Value) (n : Nat) : Obj := { cls := .type "tuple", data := .seq vs.toArray n }

noncomputable def VRel (X : Wd) (imm : List (Addr × Obj)) (ad : List Addr) : V → Value → Prop
  | .p x, v => DatIn imm v x.dat
  | .ref r, v => ∃ a, ad[r]? = some a ∧ v = .ref a
  | .obj r, v => ∃ x d, ad[r]? = some d ∧ v = .ref x ∧ (x, instObj X.C d) ∈ imm
  | .bm r, v => ∃ b a, ad[r]? = some a ∧ v = .ref b ∧ (b, bmObj a) ∈ imm
  | .rng a b, v => ∃ r t u w, v = .ref r ∧ (r, rngObj a b t u w) ∈ imm
  | .glob g, v => ∃ a, X.T g = some a ∧ v = .ref a
  | .fix ps, v => ∃ a vs n, v = .ref a ∧ (a, listOf vs.toArray n) ∈ imm ∧ DatAll imm vs (dats ps)

inductive FRel (imm : List (Addr × Obj)) : List DictEntry → List (Str × P) → Prop
  | nil : FRel imm [] []
  | cons {h : Int} {n : Str} {t : Tok} {v : Value} {x : P} {es fs} : DatIn imm v x.dat → FRel imm es fs → FRel imm (⟨h, .str n t, v⟩ :: es) ((n, x) :: fs)

inductive ORel (X : Wd) (imm : List (Addr × Obj)) : Addr × Obj → O → Prop
  | list {a : Addr} {vs : List Value} {n : Nat} {ps : List P} : DatAll imm vs (dats ps) → ORel X imm (a, listOf vs.toArray n) (.list ps)
  | inst {x d : Addr} {es : List DictEntry} {n : Nat} {fs : List (Str × P)} : (x, instObj X.C d) ∈ imm → FRel imm es fs → ORel X imm (d, dictOf es n) (.inst fs)
  | cellN {c : Addr} {o : Obj} : o.data = .cell none → ORel X imm (c, o) (.cell none)
  | cellS {c : Addr} {o : Obj} {v : Value} {x : P} : o.data = .cell (some v) → DatIn imm v x.dat → ORel X imm (c, o) (.cell (some x))

inductive MRel (X : Wd) (imm : List (Addr × Obj)) : List (Addr × Obj) → List O → Prop
  | nil : MRel X imm [] []
  | cons {e o es os} : ORel X imm e o → MRel X imm es os → MRel X imm (e :: es) (o :: os)

section
variable {X : Wd} {imm imm' : List (Addr × Obj)} {ad ad' : List Addr}
theorem FRel.mono (hs : ∀ p ∈ imm, p ∈ imm') {es fs} (h : FRel imm es fs) : FRel imm' es fs := by
  induction h with
  | nil => exact .nil
  | cons a _ ih => exact .cons (a.mono hs) ih
theorem ORel.mono (hs : ∀ p ∈ imm, p ∈ imm') {e o} (h : ORel X imm e o) : ORel X imm' e o := by
  cases h with
  | list a => exact .list (a.mono hs)
  | inst a b => exact .inst (hs _ a) (b.mono hs)
  | cellN a => exact .cellN a
  | cellS a b => exact .cellS a (b.mono hs)
theorem MRel.mono (hs : ∀ p ∈ imm, p ∈ imm') {es os} (h : MRel X imm es os) : MRel X imm' es os := by
  induction h with
  | nil => exact .nil
  | cons a _ ih => exact .cons (a.mono hs) ih
theorem MRel.length {es os} (h : MRel X imm es os) : es.length = os.length := by
  induction h with
  | nil => rfl
  | cons _ _ ih => simp [ih]
theorem MRel.get {es os} (h : MRel X imm es os) {r : Nat} {o : O} (ho : os[r]? = some o) : ∃ e, es[r]? = some e ∧ ORel X imm e o := by
  induction h generalizing r with
  | nil => simp at ho
  | cons a _ ih =>
    cases r with
    | zero => simp at ho; subst ho; exact ⟨_, rfl, a⟩
    | succ r => simpa using ih (by simpa using ho)
theorem MRel.snoc {es os e o} (h : MRel X imm es os) (k : ORel X imm e o) : MRel X imm (es ++ [e]) (os ++ [o]) := by
  induction h with
  | nil => exact .cons k .nil
  | cons a _ ih => exact .cons a ih
theorem MRel.set {es os e o} (h : MRel X imm es os) (k : ORel X imm e o) (r : Nat) : MRel X imm (es.set r e) (os.set r o) := by
  induction h generalizing r with
  | nil => exact .nil
  | cons a b ih =>
    cases r with
    | zero => exact .cons k b
    | succ r => exact .cons a (ih r)
theorem VRel.mono (hs : ∀ p ∈ imm, p ∈ imm') (ha : ad <+: ad') {v : V} {x : Value} (h : VRel X imm ad v x) : VRel X imm' ad' v x := by
  obtain ⟨t, rfl⟩ := ha
  have key : ∀ {r a}, ad[r]? = some a → (ad ++ t)[r]? = some a := fun {r a} e => by
    rw [List.getElem?_append_left (List.getElem?_eq_some_iff.mp e).1]; exact e
  cases v with
  | p x => exact DatIn.mono hs h
  | ref r => obtain ⟨a, e, q⟩ := h; exact ⟨a, key e, q⟩
  | obj r => obtain ⟨a, d, e, q, m⟩ := h; exact ⟨a, d, key e, q, hs _ m⟩
  | bm r => obtain ⟨a, d, e, q, m⟩ := h; exact ⟨a, d, key e, q, hs _ m⟩
  | rng a b => obtain ⟨r, t, u, w, q, m⟩ := h; exact ⟨r, t, u, w, q, hs _ m⟩
  | glob g => exact h
  | fix ps => obtain ⟨a, vs, n, q, m, d⟩ := h; exact ⟨a, vs, n, q, hs _ m, d.mono hs⟩
end

/-! the state -/
structure St (X : Wd) (h₀ : Heap) (L : Addr) (m : Str → Option Value) (mu ext imm : List (Addr × Obj)) (H : List O) (s : Shared) : Prop where
  fr : Fr h₀ L s.heap m
  nw : News h₀ L s.heap (mu ++ (ext ++ imm))
  nd : ((mu ++ (ext ++ imm)).map Prod.fst).Nodup
  mr : MRel X imm mu H
  g : s.gens = X.g
  d : s.drawn = X.d
  os : s.os = X.os

theorem news_sub {h₀ h : Heap} {L : Addr} {l l' : List (Addr × Obj)} (N : News h₀ L h l) (hs : ∀ p ∈ l', p ∈ l) : News h₀ L h l' := fun p hp => N p (hs p hp)

/-- the locals -/
noncomputable def LRel (X : Wd) (nm : List Str) (env : Env) (m : Str → Option Value) (imm : List (Addr × Obj)) (ad : List Addr) (loc : List (Option V)) : Prop :=
  ∀ (i : Nat) (v : V) (x : Str), loc[i]? = some (some v) → nm[i]? = some x →
    (env.kindOf x = some .local → ∃ y, m x = some y ∧ VRel X imm ad v y) ∧
    (env.kindOf x = some .cell ∨ env.kindOf x = some .free → ∃ r c, v = .ref r ∧ env.cells.lookup x = some c ∧ ad[r]? = some c)

structure Gw (mu imm mu' imm' : List (Addr × Obj)) : Prop where
  ad : mu.map Prod.fst <+: mu'.map Prod.fst
  im : ∀ p ∈ imm, p ∈ imm'
theorem Gw.refl {mu imm : List (Addr × Obj)} : Gw mu imm mu imm := ⟨List.prefix_refl _, fun _ h => h⟩
theorem Gw.trans {a b c d e f : List (Addr × Obj)} (x : Gw a b c d) (y : Gw c d e f) : Gw a b e f := ⟨x.ad.trans y.ad, fun p h => y.im p (x.im p h)⟩
theorem LRel.gw {X : Wd} {nm env m imm imm' mu mu' loc} (h : LRel X nm env m imm (mu.map Prod.fst) loc) (g : Gw mu imm mu' imm') : LRel X nm env m imm' (mu'.map Prod.fst) loc := by
  intro i v x hv hx
  obtain ⟨a, b⟩ := h i v x hv hx
  refine ⟨fun k => ?_, fun k => ?_⟩
  · obtain ⟨y, e, r⟩ := a k
    exact ⟨y, e, r.mono g.im g.ad⟩
  · obtain ⟨r, c, e, f, q⟩ := b k
    refine ⟨r, c, e, f, ?_⟩
    obtain ⟨t, ht⟩ := g.ad
    rw [← ht, List.getElem?_append_left (List.getElem?_eq_some_iff.mp q).1]; exact q
theorem VRel.gw {X : Wd} {imm imm' mu mu' v y} (h : VRel X imm (mu.map Prod.fst) v y) (g : Gw mu imm mu' imm') : VRel X imm' (mu'.map Prod.fst) v y := h.mono g.im g.ad

section
variable {X : Wd} {h₀ : Heap} {L : Addr} {m : Str → Option Value} {mu ext imm : List (Addr × Obj)} {H : List O} {s : Shared}
theorem St.lt (t : St X h₀ L m mu ext imm H s) : ∀ p ∈ mu ++ (ext ++ imm), p.1 < s.heap.objs.size := fun p hp => Heap.lt_size (t.nw p hp).1
/-- tokens alone -/
theorem St.tok (t : St X h₀ L m mu ext imm H s) (k : Nat) : St X h₀ L m mu ext imm H { s with toks := k } := ⟨t.fr, t.nw, t.nd, t.mr, t.g, t.d, t.os⟩
/-- a heap that the rule hands back, the ledger as it was -/
theorem St.heap (t : St X h₀ L m mu ext imm H s) {h' : Heap} (F : Fr h₀ L h' m) (N : News h₀ L h' (mu ++ (ext ++ imm))) (k : Nat) : St X h₀ L m mu ext imm H { s with heap := h', toks := k } :=
  ⟨F, N, t.nd, t.mr, t.g, t.d, t.os⟩
theorem St.keeps (t : St X h₀ L m mu ext imm H s) {h' : Heap} (k : ∀ b o, s.heap.get? b = some o → h'.get? b = some o) (n : Nat) : St X h₀ L m mu ext imm H { s with heap := h', toks := n } :=
  t.heap (t.fr.after k) (fun p hp => ⟨k _ _ (t.nw p hp).1, (t.nw p hp).2⟩) n
theorem St.addI (t : St X h₀ L m mu ext imm H s) {h' : Heap} {a : Addr} {o : Obj} (F : Fr h₀ L h' m) (N : News h₀ L h' ((a, o) :: (mu ++ (ext ++ imm)))) (ha : ∀ p ∈ mu ++ (ext ++ imm), p.1 < a) (k : Nat) :
    St X h₀ L m mu ext ((a, o) :: imm) H { s with heap := h', toks := k } := by
  have e : ∀ p, p ∈ mu ++ (ext ++ (a, o) :: imm) ↔ p ∈ (a, o) :: (mu ++ (ext ++ imm)) := by
    intro p; simp only [List.mem_append, List.mem_cons]; constructor <;> (intro h; rcases h with h | h | h | h <;> simp [h])
  refine ⟨F, news_sub N fun p hp => (e p).mp hp, ?_, t.mr.mono fun p hp => .tail _ hp, t.g, t.d, t.os⟩
  have pm : (mu ++ (ext ++ (a, o) :: imm)).Perm ((a, o) :: (mu ++ (ext ++ imm))) := by
    rw [← List.append_assoc, ← List.append_assoc]; exact List.perm_middle
  rw [(pm.map Prod.fst).nodup_iff, List.map_cons, List.nodup_cons]
  refine ⟨fun hm => ?_, t.nd⟩
  obtain ⟨p, hp, q⟩ := List.mem_map.mp hm
  exact absurd (ha p hp) (by rw [q]; exact Nat.lt_irrefl _)
theorem St.addMn (t : St X h₀ L m mu ext imm H s) {h' : Heap} {a : Addr} {o : Obj} {b : O} (F : Fr h₀ L h' m) (N : News h₀ L h' ((a, o) :: (mu ++ (ext ++ imm)))) (ha : ∀ p ∈ mu ++ (ext ++ imm), p.1 ≠ a) (r : ORel X imm (a, o) b) (k : Nat) :
    St X h₀ L m (mu ++ [(a, o)]) ext imm (H ++ [b]) { s with heap := h', toks := k } := by
  have e : ∀ p, p ∈ (mu ++ [(a, o)]) ++ (ext ++ imm) ↔ p ∈ (a, o) :: (mu ++ (ext ++ imm)) := by
    intro p
    simp only [List.mem_append, List.mem_cons, List.not_mem_nil, or_false]
    constructor
    · rintro ((h | h) | h | h) <;> simp [h]
    · rintro (h | h | h | h) <;> simp [h]
  refine ⟨F, news_sub N fun p hp => (e p).mp hp, ?_, t.mr.snoc r, t.g, t.d, t.os⟩
  have pm : ((mu ++ [(a, o)]) ++ (ext ++ imm)).Perm ((a, o) :: (mu ++ (ext ++ imm))) := by
    rw [List.append_assoc]; exact List.perm_middle
  rw [(pm.map Prod.fst).nodup_iff, List.map_cons, List.nodup_cons]
  refine ⟨fun hm => ?_, t.nd⟩
  obtain ⟨p, hp, q⟩ := List.mem_map.mp hm
  exact ha p hp q
theorem St.addM (t : St X h₀ L m mu ext imm H s) {h' : Heap} {a : Addr} {o : Obj} {b : O} (F : Fr h₀ L h' m) (N : News h₀ L h' ((a, o) :: (mu ++ (ext ++ imm)))) (ha : ∀ p ∈ mu ++ (ext ++ imm), p.1 < a) (r : ORel X imm (a, o) b) (k : Nat) :
    St X h₀ L m (mu ++ [(a, o)]) ext imm (H ++ [b]) { s with heap := h', toks := k } := t.addMn F N (fun p hp => Nat.ne_of_lt (ha p hp)) r k
theorem gw_imm {a : Addr × Obj} : Gw mu imm mu (a :: imm) := ⟨List.prefix_refl _, fun _ h => .tail _ h⟩
theorem gw_mu {a : Addr × Obj} : Gw mu imm (mu ++ [a]) imm := ⟨by rw [List.map_append]; exact List.prefix_append _ _, fun _ h => h⟩
theorem mem_set_of {α : Type} {l : List α} {r : Nat} {x y : α} (h : l[r]? = some x) : ∃ a b, l = a ++ x :: b ∧ l.set r y = a ++ y :: b := by
  induction l generalizing r with
  | nil => simp at h
  | cons z l ih =>
    cases r with
    | zero => simp at h; subst h; exact ⟨[], l, rfl, rfl⟩
    | succ r =>
      obtain ⟨a, b, h1, h2⟩ := ih (by simpa using h)
      exact ⟨z :: a, b, by rw [h1]; rfl, by rw [List.set_cons_succ, h2]; rfl⟩
theorem map_fst_set {l : List (Addr × Obj)} {r : Nat} {a : Addr} {o o' : Obj} (h : l[r]? = some (a, o)) : (l.set r (a, o')).map Prod.fst = l.map Prod.fst := by
  obtain ⟨p, q, h1, h2⟩ := mem_set_of (y := (a, o')) h
  rw [h2, h1]; simp
/-- the shape in which the kit wants a change of one entry -/
theorem St.updOf (t : St X h₀ L m mu ext imm H s) {r : Nat} {a : Addr} {o : Obj} (o' : Obj) (h : mu[r]? = some (a, o)) : Upd a o o' (mu ++ (ext ++ imm)) (mu.set r (a, o') ++ (ext ++ imm)) := by
  have nd := t.nd
  obtain ⟨p, q, h1, h2⟩ := mem_set_of (y := (a, o')) h
  rw [h2]
  subst h1
  clear h h2 t
  have rest : ∀ (p l : List (Addr × Obj)), ((p ++ (a, o) :: l).map Prod.fst).Nodup → Upd a o o' (p ++ (a, o) :: l) (p ++ (a, o') :: l) := by
    intro p l
    induction p with
    | nil =>
      intro nd
      simp only [List.nil_append, List.map_cons, List.nodup_cons] at nd
      exact .head fun x hx e => nd.1 (List.mem_map.mpr ⟨x, hx, e⟩)
    | cons x p ih =>
      intro nd
      simp only [List.cons_append, List.map_cons, List.nodup_cons] at nd
      refine .tail (fun e => nd.1 (List.mem_map.mpr ⟨(a, o), by simp, e.symm⟩)) (ih nd.2)
  have := rest p (q ++ (ext ++ imm)) (by simpa using nd)
  simpa using this
theorem St.upd (t : St X h₀ L m mu ext imm H s) {r : Nat} {a : Addr} {o o' : Obj} {b : O} {h' : Heap} (h : mu[r]? = some (a, o)) (F : Fr h₀ L h' m) (N : News h₀ L h' (mu.set r (a, o') ++ (ext ++ imm))) (k : ORel X imm (a, o') b) (n : Nat) :
    St X h₀ L m (mu.set r (a, o')) ext imm (H.set r b) { s with heap := h', toks := n } := by
  refine ⟨F, N, ?_, t.mr.set k r, t.g, t.d, t.os⟩
  rw [List.map_append, map_fst_set h, ← List.map_append]
  exact t.nd
theorem gw_set {r : Nat} {a : Addr} {o o' : Obj} (h : mu[r]? = some (a, o)) : Gw mu imm (mu.set r (a, o')) imm := ⟨by rw [map_fst_set h]; exact List.prefix_refl _, fun _ h => h⟩
end

/-! room on the stacks -/
noncomputable def Room (A : Around) (n : Nat) : Prop := A.handled = none ∧ A.depth + n + 2 < recursionLimit ∧ A.units + 100 * (n + 1) < cLine
theorem Room.deeper {A : Around} {n : Nat} (h : Room A (n + 1)) (env : Env) : Room (A.deeper env) n := by
  obtain ⟨a, b, c⟩ := h
  exact ⟨a, by rw [depth_deeper]; lia, by rw [Around.deeper_units]; lia⟩
theorem Room.le {A : Around} {n k : Nat} (h : Room A n) (hk : k ≤ n) : Room A k := by
  obtain ⟨a, b, c⟩ := h
  exact ⟨a, by lia, by lia⟩
end Mine
end
section
open PySem PySem.W PyProof.Rows
set_option Elab.async false
set_option genSizeOf false
set_option maxRecDepth 20000
namespace Mine

section
set_option genInjectivity false
inductive BOp where
  | add | sub | mul | fdiv | mod | pow
inductive COp where
  | eq | ne | lt | le | gt | ge | inn | nin | is | isn
inductive BI where
  | len | max | range | list | isint | sorted | ord | chr | int16 | tuple
inductive SM where
  | translate | splitlines | rstrip | endswith | replace | split | join | append | extend | pop
inductive Tg where
  | one (i : Nat) | cel (i : Nat) | tup (l : List Nat)

inductive E where
  | loc (i : Nat) | cel (i : Nat) | lit (x : P) | tab (g : Nat)
  | bin (o : BOp) (a b : E) | cmp (o : COp) (a b : E) | neg (a : E) | not (a : E) | and (es : List E) | or (es : List E)
  | ife (c a b : E)
  | tup (es : List E) | lst (es : List E)
  | idx (a i : E) | sl (a : E) (lo hi : Option E)
  | fld (a : E) (n : Str)
  | cal (f : Nat) (es : List E) | new (es : List E) | mth (f : Nat) (n : Str) (a : E) (es : List E)
  | bi (b : BI) (es : List E) | sm (b : SM) (a : E) (es : List E) | bnd (a : E) | app (a x : E)
  | comp (fr : List (Option Nat)) (elt : E) (t : Tg) (it : E) (cs : List E)
  | comp2 (fr : List (Option Nat)) (elt : E) (t : Tg) (it : E) (t2 : Tg) (it2 : E) (cs : List E)
inductive T where
  | asg (t : Tg) (e : E) | asgS (l : List Nat) (e : E) | asgM (l : List Nat) (e : E) | asgI (a i e : E) | asgF (a : E) (n : Str) (e : E) | asgC (i : Nat) (e : E)
  | aug (i : Nat) (o : BOp) (e : E) | ex (e : E) | ifs (c : E) (a b : List T) | whl (c : E) (b : List T) | fore (t : Tg) (it : E) (b : List T)
  | ret (e : E) | brk | cont | bad
end
inductive Fl where
  | next | brk | cont | ret (v : V)

/-- a size that the model bears -/
noncomputable def ok (n : Nat) : Bool := decide (n ≤ 1000000)
theorem ok_of {n : Nat} (h : n ≤ 1000000) : ok n = true := decide_eq_true h
theorem of_ok {n : Nat} (h : ok n = true) : n ≤ 1000000 := of_decide_eq_true h
noncomputable def oki (i : Int) : Bool := decide (-1000000000 ≤ i ∧ i ≤ 1000000000)
theorem oki_of {i : Int} (h : -1000000000 ≤ i ∧ i ≤ 1000000000) : oki i = true := decide_eq_true h
theorem of_oki {i : Int} (h : oki i = true) : -1000000000 ≤ i ∧ i ≤ 1000000000 := of_decide_eq_true h

noncomputable def rep (n : Nat) (l : List α) : List α := (List.replicate n l).flatten
noncomputable def hexD (n : Nat) : Nat := if n < 10 then 48 + n else 55 + n
noncomputable def hexV (c : Nat) : Option Nat := if 48 ≤ c ∧ c ≤ 57 then some (c - 48) else if 65 ≤ c ∧ c ≤ 70 then some (c - 55) else if 97 ≤ c ∧ c ≤ 102 then some (c - 87) else none

/-! readings of data: one step each -/
noncomputable def P.int? (p : P) : Option Int := match p with
  | .int i => some i
  | _ => Option.none
noncomputable def P.str? (p : P) : Option (List Nat) := match p with
  | .str i => some i
  | _ => Option.none
noncomputable def V.pl (v : V) : Option P := match v with
  | .p x => some x
  | _ => none
noncomputable def V.rf (v : V) : Option Nat := match v with
  | .ref r => some r
  | _ => none
noncomputable def V.int (v : V) : Option Int := v.pl.bind P.int?
noncomputable def V.str (v : V) : Option (List Nat) := v.pl.bind P.str?
noncomputable def nul (l : List α) : Option Unit := match l with
  | [] => some ()
  | _ => none
noncomputable def one (l : List α) : Option α := match l with
  | [] => none
  | a :: r => (nul r).map fun _ => a
noncomputable def two (l : List α) : Option (α × α) := match l with
  | [] => none
  | a :: r => (one r).map fun b => (a, b)
theorem int_mk (i : Int) : (V.p (.int i)).int = some i := rfl
theorem str_mk (l : List Nat) : (V.p (.str l)).str = some l := rfl
theorem rf_mk (r : Nat) : (V.ref r).rf = some r := rfl
theorem pl_mk (x : P) : (V.p x).pl = some x := rfl
theorem pint_mk (i : Int) : (P.int i).int? = some i := rfl
theorem pstr_mk (i : List Nat) : (P.str i).str? = some i := rfl
theorem nul_mk : nul ([] : List α) = some () := rfl
theorem one_mk (a : α) : one [a] = some a := rfl
theorem two_mk (a b : α) : two [a, b] = some (a, b) := rfl

noncomputable def addP (p q : P) : Option P := match p with
  | .int a => q.int?.bind fun b => some (.int (a + b))
  | .str a => q.str?.bind fun b => if ok (a.length + b.length) then some (.str (a ++ b)) else none
  | _ => none
noncomputable def mulP (p q : P) : Option P := match p with
  | .int a => q.int?.bind fun b => if oki a then some (.int (a * b)) else none
  | .str a => q.int?.bind fun b => if oki b && ok (a.length * b.toNat) then some (.str (rep b.toNat a)) else none
  | _ => none
noncomputable def modP (p q : P) : Option P := match p with
  | .int a => q.int?.bind fun b => if decide (0 < b) then some (.int (a % b)) else none
  | .str a => q.int?.bind fun b => if a == [61, 37, 48, 50, 88] && decide (0 ≤ b ∧ b < 256) then some (.str [61, hexD (b.toNat / 16), hexD (b.toNat % 16)]) else none
  | _ => none
noncomputable def binP (o : BOp) (p q : P) : Option P := match o with
  | .add => addP p q
  | .sub => p.int?.bind fun a => q.int?.bind fun b => some (.int (a - b))
  | .mul => mulP p q
  | .fdiv => p.int?.bind fun a => q.int?.bind fun b => if oki b && decide (0 < b) then some (.int (a / b)) else none
  | .mod => modP p q
  | .pow => p.int?.bind fun a => q.int?.bind fun b => if a == 10 && b == 6 then some (.int 1000000) else none

noncomputable def getL (H : List O) (r : Nat) : Option (List P) := match H[r]? with
  | some (.list ps) => some ps
  | _ => none
noncomputable def O.cel (o : O) : Option P := match o with
  | .cell x => x
  | _ => none
noncomputable def getC (H : List O) (r : Nat) : Option P := (H[r]?).bind O.cel
noncomputable def getF (H : List O) (r : Nat) : Option (List (Str × P)) := match H[r]? with
  | some (.inst fs) => some fs
  | _ => none

noncomputable def V.lst (v : V) (H : List O) : Option (List P) := v.rf.bind (getL H)
theorem lst_mk (r : Nat) (H : List O) : (V.ref r).lst H = getL H r := rfl
noncomputable def binR (o : BOp) (r : Nat) (b : V) (H : List O) : Option (V × List O) := match o with
  | .add => (getL H r).bind fun x => (b.lst H).bind fun y => if ok (x.length + y.length) then some (.ref H.length, H ++ [.list (x ++ y)]) else none
  | .mul => (getL H r).bind fun x => b.int.bind fun n => if oki n && ok (x.length * n.toNat) && !x.isEmpty then some (.ref H.length, H ++ [.list (rep n.toNat x)]) else none
  | _ => none
noncomputable def binV (o : BOp) (a b : V) (H : List O) : Option (V × List O) := match a with
  | .p x => b.pl.bind fun y => (binP o x y).bind fun c => some (.p c, H)
  | .ref r => binR o r b H
  | _ => none

noncomputable def P.tup? (p : P) : Option (List P) := match p with
  | .tup i => some i
  | _ => Option.none
noncomputable def P.bool? (p : P) : Option Bool := match p with
  | .bool i => some i
  | _ => Option.none
theorem ptup_mk (i : List P) : (P.tup i).tup? = some i := rfl
theorem pbool_mk (i : Bool) : (P.bool i).bool? = some i := rfl
noncomputable def eqP (a b : P) : Option Bool := match a with
  | .int a => b.int?.bind fun b => some (a == b)
  | .str a => b.str?.bind fun b => some (a == b)
  | .tup a => b.tup?.bind fun b => if (P.tup a).okAt 7 && (P.tup b).okAt 7 then some ((P.tup a).beq (.tup b)) else none
  | _ => none
noncomputable def cmpI (f : Int → Int → Bool) (a b : P) : Option Bool := a.int?.bind fun a => b.int?.bind fun b => some (f a b)
noncomputable def cmpIn (f : Bool → Bool) (a b : P) : Option Bool := a.str?.bind fun x => (one x).bind fun c => b.str?.bind fun l => some (f (l.contains c))
noncomputable def cmpB (f : Bool → Bool) (a b : P) : Option Bool := a.bool?.bind fun a => b.bool?.bind fun b => some (f (a == b))
noncomputable def cmpP (o : COp) (a b : P) : Option Bool := match o with
  | .eq => eqP a b
  | .ne => (eqP a b).map (!·)
  | .lt => cmpI (fun a b => decide (a < b)) a b
  | .le => cmpI (fun a b => decide (a ≤ b)) a b
  | .gt => cmpI (fun a b => decide (b < a)) a b
  | .ge => cmpI (fun a b => decide (b ≤ a)) a b
  | .inn => cmpIn (fun x => x) a b
  | .nin => cmpIn (fun x => !x) a b
  | .is => cmpB (fun x => x) a b
  | .isn => cmpB (fun x => !x) a b
noncomputable def cmpR (o : COp) (x y : List P) : Option Bool := if x.all (P.okAt 7) && y.all (P.okAt 7) then (match o with
  | .eq => some (beqs x y)
  | .ne => some (!beqs x y)
  | _ => none) else none
noncomputable def cmpN (o : COp) (a : P) (y : List P) : Option Bool := match o with
  | .nin => a.str?.bind fun l => if y.all (P.okAt 7) && (P.str l).okAt 7 then some (!y.any (P.beq (.str l))) else none
  | _ => none
noncomputable def cmpV (o : COp) (a b : V) (H : List O) : Option Bool := match a with
  | .p a => match b with
    | .p b => cmpP o a b
    | .ref q => (getL H q).bind fun y => cmpN o a y
    | _ => none
  | .ref r => (getL H r).bind fun x => (b.lst H).bind fun y => cmpR o x y
  | _ => none

noncomputable def truP (x : P) : Option Bool := match x with
  | .bool b => some b
  | .str l => if ok l.length then some (!l.isEmpty) else none
  | _ => none
noncomputable def truV (v : V) : Option Bool := match v with
  | .p x => truP x
  | _ => none

noncomputable def nIdx (i : Int) (n : Nat) : Nat := if i < 0 then (i + n).toNat else i.toNat
noncomputable def inIdx (i : Int) (n : Nat) : Bool := oki i && (decide (0 ≤ i ∧ i < n) || decide (i < 0 ∧ -(n : Int) ≤ i))
noncomputable def idxP (x : P) (i : Int) : Option P := match x with
  | .tup x => if inIdx i x.length then x[nIdx i x.length]? else none
  | .str x => if inIdx i x.length then (x[nIdx i x.length]?).map fun c => .str [c] else none
  | _ => none
noncomputable def idxA (tabs : Nat → List P) (a : V) (i : Int) (H : List O) : Option P := match a with
  | .ref r => (getL H r).bind fun x => if inIdx i x.length then x[nIdx i x.length]? else none
  | .p x => idxP x i
  | .glob g => if inIdx i (tabs g).length then (tabs g)[nIdx i (tabs g).length]? else none
  | _ => none
noncomputable def idxV (tabs : Nat → List P) (a i : V) (H : List O) : Option V := i.int.bind fun i => (idxA tabs a i H).map .p

noncomputable def clip (i : Int) (n : Nat) : Nat := if i < 0 then (i + n).toNat else min i.toNat n
noncomputable def cut (l : List α) (lo hi : Option Int) : List α := (l.drop ((lo.map (clip · l.length)).getD 0)).take ((hi.map (clip · l.length)).getD l.length - (lo.map (clip · l.length)).getD 0)
noncomputable def bnds (o : Option V) : Option (Option Int) := match o with
  | none => some none
  | some v => v.int.bind fun i => if oki i then some (some i) else none
noncomputable def slA (x : List P) (lo hi : Option Int) (H : List O) : Option (V × List O) := if ok x.length then some (.ref H.length, H ++ [.list (cut x lo hi)]) else none
noncomputable def slV (a : V) (lo hi : Option V) (H : List O) : Option (V × List O) := (bnds lo).bind fun lo => (bnds hi).bind fun hi => match a with
  | .ref r => (getL H r).bind fun x => slA x lo hi H
  | .p x => x.str?.bind fun x => if ok x.length then some (.p (.str (cut x lo hi)), H) else none
  | .fix x => slA x lo hi H
  | _ => none

noncomputable def pInts : List P → Option (List Int)
  | [] => some []
  | .int i :: r => (pInts r).map (i :: ·)
  | _ => none
noncomputable def pStrs : List P → Option (List (List Nat))
  | [] => some []
  | .str i :: r => (pStrs r).map (i :: ·)
  | _ => none
noncomputable def allP : List V → Option (List P)
  | [] => some []
  | .p x :: r => (allP r).map (x :: ·)
  | _ => none
noncomputable def maxI : List Int → Int
  | [] => 0
  | [a] => a
  | a :: r => max a (maxI r)
noncomputable def rngL (a b : Int) : List P := (List.range (b - a).toNat).map fun (k : Nat) => .int (a + k)
/-- the order of texts -/
noncomputable def leS : List Nat → List Nat → Bool
  | [], _ => true
  | _ :: _, [] => false
  | a :: r, b :: q => decide (a < b) || (a == b && leS r q)
noncomputable def srt (l : List (List Nat)) : List (List Nat) := l.mergeSort leS

noncomputable def lenP (x : P) : Option Nat := match x with
  | .str l => some l.length
  | .tup l => some l.length
  | _ => none
noncomputable def lenV (v : V) (H : List O) : Option Nat := match v with
  | .p x => lenP x
  | .ref r => (getL H r).map List.length
  | .fix x => some x.length
  | _ => none
noncomputable def V.rg (v : V) : Option (Int × Int) := match v with
  | .rng a b => some (a, b)
  | _ => none
theorem rg_mk (a b : Int) : (V.rng a b).rg = some (a, b) := rfl
noncomputable def maxV (v : V) (r : List V) (H : List O) : Option (V × List O) := match r with
  | [] => (v.lst H).bind fun x => (pInts x).bind fun x => if x.isEmpty then none else some (.p (.int (maxI x)), H)
  | _ :: _ => (one r).bind fun w => v.int.bind fun a => w.int.bind fun b => some (.p (.int (max a b)), H)
noncomputable def rngV (v : V) (r : List V) (H : List O) : Option (V × List O) := match r with
  | [] => v.int.bind fun b => if oki b then some (.rng 0 b, H) else none
  | _ :: _ => (one r).bind fun w => v.int.bind fun a => w.int.bind fun b => if oki a && oki b then some (.rng a b, H) else none
noncomputable def biA (b : BI) (v : V) (r : List V) (H : List O) : Option (V × List O) := match b with
  | .len => (nul r).bind fun _ => (lenV v H).bind fun n => if ok n then some (.p (.int n), H) else none
  | .max => maxV v r H
  | .range => rngV v r H
  | .list => (nul r).bind fun _ => v.rg.bind fun q => if oki q.1 && oki q.2 && ok (q.2 - q.1).toNat then some (.ref H.length, H ++ [.list (rngL q.1 q.2)]) else none
  | .isint => (nul r).bind fun _ => v.int.bind fun _ => some (.p (.bool true), H)
  | .sorted => (nul r).bind fun _ => (v.lst H).bind fun x => (pStrs x).bind fun x => if decide (2 ≤ x.length ∧ x.length < 64) then some (.ref H.length, H ++ [.list ((srt x).map .str)]) else none
  | .ord => (nul r).bind fun _ => v.str.bind fun l => (one l).bind fun c => some (.p (.int c), H)
  | .chr => (nul r).bind fun _ => v.int.bind fun i => if decide (0 ≤ i ∧ i < 0x110000) then some (.p (.str [i.toNat]), H) else none
  | .int16 => (nul r).bind fun _ => v.str.bind fun l => (two l).bind fun q => (hexV q.1).bind fun x => (hexV q.2).bind fun y => some (.p (.int (16 * x + y : Nat)), H)
  | .tuple => (nul r).bind fun _ => (v.lst H).bind fun x => if decide (x.length ≤ 16384) then some (.p (.tup x), H) else none
noncomputable def biV (b : BI) (vs : List V) (H : List O) : Option (V × List O) := match vs with
  | [] => none
  | v :: r => biA b v r H

/-- texts -/
noncomputable def splitOn (c : Nat) : List Nat → List (List Nat)
  | [] => [[]]
  | a :: r => if a = c then [] :: splitOn c r else match splitOn c r with
    | [] => [[a]]
    | x :: q => (a :: x) :: q
/-- cut at each place where y stands, from the left; the first number says how many signs of a found y are still to pass -/
noncomputable def splitG (y : List Nat) : Nat → List Nat → List (List Nat)
  | _, [] => [[]]
  | k + 1, _ :: r => splitG y k r
  | 0, a :: r => if y.isPrefixOf (a :: r) then [] :: splitG y (y.length - 1) r else match splitG y 0 r with
    | [] => [[a]]
    | x :: q => (a :: x) :: q
noncomputable def joinL (s : List Nat) : List (List Nat) → List Nat
  | [] => []
  | [a] => a
  | a :: r => a ++ s ++ joinL s r
noncomputable def isSp (c : Nat) : Bool := decide (9 ≤ c ∧ c ≤ 13) || decide (28 ≤ c ∧ c ≤ 32)
noncomputable def rstr (l : List Nat) : List Nat := (l.reverse.dropWhile isSp).reverse
noncomputable def isNl (c : Nat) : Bool := decide (10 ≤ c ∧ c ≤ 13) || decide (28 ≤ c ∧ c ≤ 30)
/-- splitlines of texts below 128: \r\n is one end -/
noncomputable def lns : List Nat → List (List Nat)
  | [] => []
  | 13 :: 10 :: r => [] :: lns r
  | a :: r => if isNl a then [] :: lns r else match r with
    | [] => [[a]]
    | _ => match lns r with
      | [] => [[a]]
      | x :: q => (a :: x) :: q
noncomputable def asc (l : List Nat) : Bool := l.all (· < 128)
noncomputable def sfx (l y : List Nat) : Bool := y.isSuffixOf l

noncomputable def V.gl (v : V) : Option Nat := match v with
  | .glob g => some g
  | _ => none
theorem gl_mk (g : Nat) : (V.glob g).gl = some g := rfl
/-- methods of texts -/
noncomputable def smT (tabs : Nat → List P) (b : SM) (l : List Nat) (vs : List V) (H : List O) : Option (V × List O) := match b with
  | .translate => (one vs).bind fun v => v.gl.bind fun g => (pStrs (tabs g)).bind fun t => if ok (l.length + t.length) && l.all (fun c => decide (c < t.length)) && t.all (fun x => !x.isEmpty && decide (x.length ≤ 4)) then some (.p (.str (l.flatMap fun c => t.getD c [])), H) else none
  | .splitlines => (nul vs).bind fun _ => if ok l.length && asc l then some (.ref H.length, H ++ [.list ((lns l).map .str)]) else none
  | .rstrip => (nul vs).bind fun _ => if ok l.length && asc l then some (.p (.str (rstr l)), H) else none
  | .endswith => (one vs).bind fun v => v.str.bind fun y => some (.p (.bool (sfx l y)), H)
  | .replace => (two vs).bind fun q => q.1.str.bind fun y => q.2.str.bind fun z => if ok ((l.length + 1) * (z.length + 1)) && !y.isEmpty then some (.p (.str (joinL z (splitG y 0 l))), H) else none
  | .split => (one vs).bind fun v => v.str.bind fun y => if ok l.length && !y.isEmpty then some (.ref H.length, H ++ [.list ((splitG y 0 l).map .str)]) else none
  | .join => (one vs).bind fun v => (v.lst H).bind fun x => (pStrs x).bind fun x => if ok ((x.map List.length).sum + x.length * l.length) then some (.p (.str (joinL l x)), H) else none
  | _ => none
/-- methods of lists -/
noncomputable def smR (b : SM) (r : Nat) (l : List P) (v : V) (H : List O) : Option (V × List O) := match b with
  | .append => v.pl.bind fun x => if ok l.length then some (.p .none, H.set r (.list (l ++ [x]))) else none
  | .extend => v.rf.bind fun q => (getL H q).bind fun y => if ok (l.length + y.length) && !(r == q) then some (.p .none, H.set r (.list (l ++ y))) else none
  | .pop => v.int.bind fun i => if ok l.length && decide (0 ≤ i ∧ i < l.length) then (l[i.toNat]?).bind fun x => some (.p x, H.set r (.list (l.eraseIdx i.toNat))) else none
  | _ => none
noncomputable def smV (tabs : Nat → List P) (b : SM) (a : V) (vs : List V) (H : List O) : Option (V × List O) := match a with
  | .p x => x.str?.bind fun l => smT tabs b l vs H
  | .ref r => (getL H r).bind fun l => (one vs).bind fun v => smR b r l v H
  | _ => none

noncomputable def V.ob (v : V) : Option Nat := match v with
  | .obj r => some r
  | _ => none
noncomputable def V.bmr (v : V) : Option Nat := match v with
  | .bm r => some r
  | _ => none
noncomputable def P.nn (p : P) : Option Unit := match p with
  | .none => some ()
  | _ => Option.none
noncomputable def V.nn (v : V) : Option Unit := v.pl.bind P.nn
noncomputable def V.tup (v : V) : Option (List P) := v.pl.bind P.tup?
theorem ob_mk (r : Nat) : (V.obj r).ob = some r := rfl
theorem bmr_mk (r : Nat) : (V.bm r).bmr = some r := rfl
theorem nn_mk : (V.p .none).nn = some () := rfl
theorem tup_mk (l : List P) : (V.p (.tup l)).tup = some l := rfl
noncomputable def fldV (a : V) (n : Str) (H : List O) : Option V := a.ob.bind fun r => (getF H r).bind fun fs => (fs.lookup n).map .p
noncomputable def put (fs : List (Str × P)) (n : Str) (x : P) : List (Str × P) := match fs with
  | [] => [(n, x)]
  | (k, y) :: r => if k == n then (k, x) :: r else (k, y) :: put r n x

noncomputable def setC (H : List O) (r : Nat) (x : P) (o : O) : Option (List O) := match o with
  | .cell _ => some (H.set r (.cell (some x)))
  | _ => none
noncomputable def tgt (t : Tg) (v : V) (loc : List (Option V)) (H : List O) : Option (List (Option V) × List O) := match t with
  | .one i => if i < loc.length then some (loc.set i (some v), H) else none
  | .cel i => (loc[i]?).join.bind fun u => u.rf.bind fun r => v.pl.bind fun x => (H[r]?).bind fun o => (setC H r x o).bind fun K => some (loc, K)
  | .tup l => v.tup.bind fun ps => if l.length == ps.length && l.all (· < loc.length) then some ((l.zip ps).foldl (fun loc x => loc.set x.1 (some (.p x.2))) loc, H) else none

/-- what a loop goes over: the items, and the list that must stay -/
noncomputable def itemsOf (v : V) (H : List O) : Option (List P × Option Nat) := match v with
  | .ref r => (getL H r).map fun x => (x, some r)
  | .rng a b => if oki a && oki b then some (rngL a b, none) else none
  | .p (.str l) => some (l.map fun c => .str [c], none)
  | .p (.tup ps) => some (ps, none)
  | _ => none
noncomputable def stays (w : Option Nat) (ps : List P) (H : List O) : Bool := match w with
  | none => true
  | some r => match getL H r with
    | some qs => beqs ps qs
    | none => false

noncomputable def forL (all : List P) (w : Option Nat) (t : Tg) (body : List (Option V) → List O → Option (Fl × List (Option V) × List O)) : List P → List (Option V) → List O → Option (Fl × List (Option V) × List O)
  | [], loc, H => if stays w all H then some (.next, loc, H) else none
  | x :: r, loc, H => if stays w all H then (tgt t (.p x) loc H).bind fun q => (body q.1 q.2).bind fun z => match z.1 with
      | .next | .cont => forL all w t body r z.2.1 z.2.2
      | .brk => some (.next, z.2)
      | .ret v => some (.ret v, z.2)
    else none
noncomputable def whlL (test : List (Option V) → List O → Option (Bool × List O)) (body : List (Option V) → List O → Option (Fl × List (Option V) × List O)) : Nat → List (Option V) → List O → Option (Fl × List (Option V) × List O)
  | 0, _, _ => none
  | n + 1, loc, H => (test loc H).bind fun b => if b.1 then (body loc b.2).bind fun z => match z.1 with
      | .next | .cont => whlL test body n z.2.1 z.2.2
      | .brk => some (.next, z.2)
      | .ret v => some (.ret v, z.2)
    else some (.next, loc, b.2)
/-- a comprehension's turns; acc is the list at place a -/
noncomputable def cmpL (all : List P) (w : Option Nat) (t : Tg) (turn : List (Option V) → List O → Option (List O)) (loc : List (Option V)) : List P → List O → Option (List O)
  | [], H => if stays w all H then some H else none
  | x :: r, H => if stays w all H then (tgt t (.p x) loc H).bind fun q => (turn q.1 q.2).bind fun z => cmpL all w t turn q.1 r z else none
noncomputable def addTo (a : Nat) (v : V) (H : List O) : Option (List O) := v.pl.bind fun x => (getL H a).bind fun l => if ok l.length then some (H.set a (.list (l ++ [x]))) else none
noncomputable def tgFree (t : Tg) (loc : List (Option V)) : Bool := match t with
  | .one i => match loc[i]? with
    | some (some _) => false
    | _ => true
  | .cel _ => false
  | .tup l => l.all fun i => match loc[i]? with
    | some (some _) => false
    | _ => true
noncomputable def frOk (fr : List (Option Nat)) (loc : List (Option V)) : Bool := fr.all fun x => match x with
  | none => true
  | some j => match loc[j]? with
    | some (some (.ref _)) => true
    | _ => false
noncomputable def frOf (fr : List (Option Nat)) (loc : List (Option V)) : List (Option V) := fr.map fun x => x.bind fun j => (loc[j]?).join

noncomputable def rcOk : V → List O → Bool
  | .ref r, H => (getL H r).isSome
  | _, _ => true
structure G where
  tabs : Nat → List P
  init : Nat
  call : Nat → List V → List O → Option (V × List O)

mutual
noncomputable def ev (g : G) (loc : List (Option V)) : E → List O → Option (V × List O)
  | .loc i, H => (loc[i]?).join.bind fun v => some (v, H)
  | .cel i, H => (loc[i]?).join.bind fun v => v.rf.bind fun r => (getC H r).bind fun x => some (.p x, H)
  | .lit x, H => some (.p x, H)
  | .tab t, H => some (.glob t, H)
  | .bin o a b, H => (ev g loc a H).bind fun x => (ev g loc b x.2).bind fun y => binV o x.1 y.1 y.2
  | .cmp o a b, H => (ev g loc a H).bind fun x => (ev g loc b x.2).bind fun y => (cmpV o x.1 y.1 y.2).bind fun c => some (.p (.bool c), y.2)
  | .not _, _ => none
  | .and _, _ => none
  | .or _, _ => none
  | .neg a, H => (ev g loc a H).bind fun x => x.1.int.bind fun i => some (.p (.int (-i)), x.2)
  | .ife c a b, H => (evT g loc c (ev g loc c H) H).bind fun t => if t.1 then ev g loc a t.2 else ev g loc b t.2
  | .tup es, H => (evs g loc es H).bind fun x => (allP x.1).bind fun ps => if ok ps.length then some (.p (.tup ps), x.2) else none
  | .lst es, H => (evs g loc es H).bind fun x => (allP x.1).bind fun ps => if ok ps.length then some (.ref x.2.length, x.2 ++ [.list ps]) else none
  | .idx a i, H => (ev g loc a H).bind fun x => (ev g loc i x.2).bind fun y => (idxV g.tabs x.1 y.1 y.2).bind fun v => some (v, y.2)
  | .sl a lo hi, H => (ev g loc a H).bind fun x => (evo g loc lo x.2).bind fun y => (evo g loc hi y.2).bind fun z => slV x.1 y.1 z.1 z.2
  | .fld a n, H => (ev g loc a H).bind fun x => (fldV x.1 n x.2).bind fun v => some (v, x.2)
  | .cal f es, H => (evs g loc es H).bind fun x => g.call f x.1 x.2
  | .new es, H => (evs g loc es H).bind fun x => (g.call g.init (.obj x.2.length :: x.1) (x.2 ++ [.inst []])).bind fun y => y.1.nn.bind fun _ => some (.obj x.2.length, y.2)
  | .mth f n a es, H => (ev g loc a H).bind fun x => x.1.ob.bind fun r => (getF x.2 r).bind fun fs => if (fs.lookup n).isNone then (evs g loc es x.2).bind fun y => g.call f (.obj r :: y.1) y.2 else none
  | .bi b es, H => (evs g loc es H).bind fun x => biV b x.1 x.2
  | .sm b a es, H => (ev g loc a H).bind fun x => if rcOk x.1 x.2 then (evs g loc es x.2).bind fun y => smV g.tabs b x.1 y.1 y.2 else none
  | .bnd a, H => (ev g loc a H).bind fun x => x.1.rf.bind fun r => (getL x.2 r).bind fun _ => some (.bm r, x.2)
  | .app a e, H => (ev g loc a H).bind fun x => (ev g loc e x.2).bind fun y => x.1.bmr.bind fun r => (addTo r y.1 y.2).bind fun K => some (.p .none, K)
  | .comp fr elt t it cs, H => if frOk fr loc then (ev g loc it H).bind fun x => (itemsOf x.1 x.2).bind fun q =>
      (cmpL q.1 q.2 t (fun l K => (evC g l cs K).bind fun b => if b.1 then (ev g l elt b.2).bind fun v => addTo x.2.length v.1 v.2 else some b.2) (frOf fr loc) q.1 (x.2 ++ [.list []])).bind fun K =>
        some (.ref x.2.length, K.take (x.2.length + 1)) else none
  | .comp2 fr elt t it t2 it2 cs, H => if frOk fr loc then (ev g loc it H).bind fun x => (itemsOf x.1 x.2).bind fun q =>
      (cmpL q.1 q.2 t (fun l K => if tgFree t2 l then (ev g l it2 K).bind fun x2 => (itemsOf x2.1 x2.2).bind fun q2 =>
        cmpL q2.1 q2.2 t2 (fun l K => (evC g l cs K).bind fun b => if b.1 then (ev g l elt b.2).bind fun v => addTo x.2.length v.1 v.2 else some b.2) l q2.1 x2.2 else none) (frOf fr loc) q.1 (x.2 ++ [.list []])).bind fun K =>
        some (.ref x.2.length, K.take (x.2.length + 1)) else none
termination_by structural e => e
noncomputable def evs (g : G) (loc : List (Option V)) : List E → List O → Option (List V × List O)
  | [], H => some ([], H)
  | e :: r, H => (ev g loc e H).bind fun x => (evs g loc r x.2).bind fun y => some (x.1 :: y.1, y.2)
termination_by structural e => e
noncomputable def evo (g : G) (loc : List (Option V)) : Option E → List O → Option (Option V × List O)
  | none, H => some (none, H)
  | some e, H => (ev g loc e H).bind fun x => some (some x.1, x.2)
termination_by structural e => e
noncomputable def evT (g : G) (loc : List (Option V)) : E → Option (V × List O) → List O → Option (Bool × List O)
  | .not a, _, H => (evT g loc a (ev g loc a H) H).bind fun b => some (!b.1, b.2)
  | .and es, _, H => evC g loc es H
  | .or es, _, H => evD g loc es H
  | .ife _ _ _, _, _ => none
  | _, w, _ => w.bind fun x => (truV x.1).bind fun b => some (b, x.2)
termination_by structural e => e
noncomputable def evC (g : G) (loc : List (Option V)) : List E → List O → Option (Bool × List O)
  | [], H => some (true, H)
  | e :: r, H => (evT g loc e (ev g loc e H) H).bind fun b => if b.1 then evC g loc r b.2 else some (false, b.2)
termination_by structural e => e
noncomputable def evD (g : G) (loc : List (Option V)) : List E → List O → Option (Bool × List O)
  | [], H => some (false, H)
  | e :: r, H => (evT g loc e (ev g loc e H) H).bind fun b => if b.1 then some (true, b.2) else evD g loc r b.2
termination_by structural e => e
end

noncomputable def isAdd (o : BOp) : Option Unit := match o with
  | .add => some ()
  | _ => none
theorem isAdd_mk : isAdd .add = some () := rfl
noncomputable def fuel : Nat := 100000
/-- how far the locals reach into the heap -/
noncomputable def vb : V → Nat
  | .ref r => r + 1
  | .obj r => r + 1
  | .bm r => r + 1
  | _ => 0
noncomputable def lb : List (Option V) → Nat
  | [] => 0
  | none :: r => lb r
  | some v :: r => max (vb v) (lb r)
noncomputable def gc (n : Nat) (loc : List (Option V)) (H : List O) : List O := H.take (max n (lb loc))
mutual
noncomputable def ex (g : G) : T → List (Option V) → List O → Option (Fl × List (Option V) × List O)
  | .asg t e, loc, H => (ev g loc e H).bind fun x => (tgt t x.1 loc x.2).bind fun q => some (.next, q)
  | .asgS l e, loc, H => (ev g loc e H).bind fun x => (tgt (.tup l) x.1 loc x.2).bind fun q => some (.next, q)
  | .asgM l e, loc, H => (ev g loc e H).bind fun x => if l.all (· < loc.length) then some (.next, l.foldl (fun loc i => loc.set i (some x.1)) loc, x.2) else none
  | .asgI a i e, loc, H => (ev g loc e H).bind fun x => (ev g loc a x.2).bind fun y => (ev g loc i y.2).bind fun z => x.1.pl.bind fun x => y.1.rf.bind fun r => z.1.int.bind fun i => (getL z.2 r).bind fun l => if oki i && decide (0 ≤ i ∧ i < l.length) then some (.next, loc, z.2.set r (.list (l.set i.toNat x))) else none
  | .asgF a n e, loc, H => (ev g loc e H).bind fun x => (ev g loc a x.2).bind fun y => x.1.pl.bind fun x => y.1.ob.bind fun r => (getF y.2 r).bind fun fs => if decide (fs.length ≤ 100) then some (.next, loc, y.2.set r (.inst (put fs n x))) else none
  | .asgC i e, loc, H => (ev g loc e H).bind fun x => (tgt (.one i) x.1 loc x.2).bind fun q => some (.next, q)
  | .aug i o e, loc, H => (loc[i]?).join.bind fun v => (ev g loc e H).bind fun x => (isAdd o).bind fun _ => v.pl.bind fun a => x.1.pl.bind fun b => (addP a b).bind fun c => (tgt (.one i) (.p c) loc x.2).bind fun q => some (.next, q)
  | .ex e, loc, H => (ev g loc e H).bind fun x => x.1.nn.bind fun _ => some (.next, loc, x.2)
  | .ifs c a b, loc, H => (evT g loc c (ev g loc c H) H).bind fun t => if t.1 then exs g a loc t.2 else exs g b loc t.2
  | .whl c b, loc, H => whlL (fun loc H => evT g loc c (ev g loc c H) H) (fun loc H => exs g b loc H) fuel loc H
  | .fore t it b, loc, H => (ev g loc it H).bind fun x => (itemsOf x.1 x.2).bind fun q => forL q.1 q.2 t (fun loc H => exs g b loc H) q.1 loc x.2
  | .ret e, loc, H => (ev g loc e H).bind fun x => some (.ret x.1, loc, x.2)
  | .brk, loc, H => some (.brk, loc, H)
  | .cont, loc, H => some (.cont, loc, H)
  | .bad, _, _ => none
termination_by structural t => t
noncomputable def exs (g : G) : List T → List (Option V) → List O → Option (Fl × List (Option V) × List O)
  | [], loc, H => some (.next, loc, H)
  | t :: r, loc, H => (ex g t loc H).bind fun z => match z.1 with
    | .next => exs g r z.2.1 (gc H.length z.2.1 z.2.2)
    | _ => some z
termination_by structural t => t
end
end Mine
end
section
open PySem PySem.W PyProof.Rows
set_option Elab.async false
set_option genSizeOf false
set_option genInjectivity false
set_option maxRecDepth 20000
namespace Mine

/-- what a global name stands for -/
inductive GV where
  | defn (f : Nat) | cls (attrs : List (Str × P)) | bi (b : BI) (i : String) | ty (b : BI) (i : String) | const (x : P) | tab (g : Nat)
structure Ce where
  nm : List Str
  sc : Scope
  gl : List (Str × GV)
  meths : List (Str × Nat)
  flds : List Str

noncomputable def idxS (x : Str) : List Str → Option Nat
  | [] => none
  | y :: r => if x == y then some 0 else (idxS x r).map (· + 1)
noncomputable def Ce.kind (c : Ce) (x : Str) : Option NameKind := c.sc.names.lookup x
noncomputable def Ce.slot (c : Ce) (x : Str) : Option Nat := idxS x c.nm

noncomputable def litOf : Const → Option P
  | .none => some .none
  | .bool b => some (.bool b)
  | .int i => some (.int i)
  | .str s => some (.str s.cps.toList)
  | _ => none
noncomputable def bopOf : Operator → Option BOp
  | .Add => some .add | .Sub => some .sub | .Mult => some .mul | .FloorDiv => some .fdiv | .Mod => some .mod | .Pow => some .pow
  | _ => none
noncomputable def copOf : CmpOp → COp
  | .Eq => .eq | .NotEq => .ne | .Lt => .lt | .LtE => .le | .Gt => .gt | .GtE => .ge | .Is => .is | .IsNot => .isn | .In => .inn | .NotIn => .nin
noncomputable def smOf : List (Str × SM) := [("translate", .translate), ("splitlines", .splitlines), ("rstrip", .rstrip), ("endswith", .endswith), ("replace", .replace), ("split", .split), ("join", .join), ("append", .append), ("extend", .extend), ("pop", .pop)]

noncomputable def isSetE (e : PySem.Expr) : Bool := e.ctorIdx == 7
noncomputable def isSliceE (e : PySem.Expr) : Bool := e.ctorIdx == 26
noncomputable def isStarE (e : PySem.Expr) : Bool := e.ctorIdx == 22
noncomputable def isCallE (e : PySem.Expr) : Bool := e.ctorIdx == 16
noncomputable def isCompE (e : PySem.Expr) : Bool := e.ctorIdx == 8 || e.ctorIdx == 9 || e.ctorIdx == 10
noncomputable def isTupE (e : PySem.Expr) : Bool := e.ctorIdx == 25
noncomputable def nameE : PySem.Expr → Option Str
  | .Name x _ => some x
  | _ => none

/-- the comprehension's own scope: a free name that is the block's cell is its cell -/
noncomputable def effSc (scope outer : Scope) : Scope := { scope with names := scope.names.map fun (n, k) => if (k == .free && outer.kind == .function && outer.names.lookup n == some .cell) then (n, .cell) else (n, k) }
noncomputable def compNm (sc : Scope) : List Str := (sc.names.filter fun x => (x.2 == .local || x.2 == .cell || x.2 == .free) && x.1 != (".0" : Str)).map (·.1)
noncomputable def Ce.inner (c : Ce) (scope : Scope) : Ce := { c with nm := compNm scope, sc := effSc scope c.sc }
noncomputable def seqO {α : Type} : List (Option α) → Option (List α)
  | [] => some []
  | x :: r => x.bind fun a => (seqO r).map (a :: ·)
/-- slot by slot: fresh, or the block's own -/
noncomputable def Ce.frame (c : Ce) (scope : Scope) : Option (List (Option Nat)) := seqO ((scope.names.filter fun x => (x.2 == .local || x.2 == .cell || x.2 == .free) && x.1 != (".0" : Str)).map fun x => if x.2 == .local then some none else if x.2 == .free && c.kind x.1 == some .cell then (c.slot x.1).map some else none)
noncomputable def ndup : List Str → Bool
  | [] => true
  | x :: r => !r.contains x && ndup r
/-- what the comprehension's scope must be -/
noncomputable def scOk (c : Ce) (scope : Scope) : Bool := scope.kind == .function && c.sc.kind == .function && ndup (scope.names.map (·.1)) && scope.names.all fun x => x.2 != .cell && (x.2 != .free || c.kind x.1 == some .cell) && (x.1 != (".0" : Str) || x.2 == .local)
noncomputable def nmSlot (c : Ce) (e : PySem.Expr) : Option Nat := (nameE e).bind fun x => if c.kind x == some .local then c.slot x else none
noncomputable def tgtN (c : Ce) (x : Str) : Option Tg := (c.kind x).bind fun k => match k with
  | .local => (c.slot x).map .one
  | .cell => (c.slot x).map .cel
  | _ => none
noncomputable def tgtOf (c : Ce) (e : PySem.Expr) : Option Tg := match e with
  | .Name x _ => tgtN c x
  | .Tuple es _ _ => (seqO (es.map (nmSlot c))).map .tup
  | _ => none

/-- does the call keep to the plain form: no star, few -/
noncomputable def plainArgs (as : List PySem.Expr) : Bool := as.all (fun e => !isStarE e) && decide (as.length ≤ 4)

/-- a text that the expression makes anew -/
noncomputable def strK (k : Const) : Option Str := match k with
  | .str s => some s
  | _ => none
noncomputable def constE (e : PySem.Expr) : Option Const := match e with
  | .Constant k _ _ => some k
  | _ => none
noncomputable def litS (e : PySem.Expr) : Option Str := (constE e).bind strK
noncomputable def isAddO (o : Operator) : Bool := match o with
  | .Add => true
  | _ => false
noncomputable def locN (c : Ce) (e : PySem.Expr) : Bool := match nameE e with
  | some x => c.kind x == some .local && x != ("__debug__" : Str)
  | none => false
noncomputable def freshP (c : Ce) (a b : PySem.Expr) : Bool := match litS a with
  | some s => s.length != 0 && locN c b
  | none => false
noncomputable def freshE (c : Ce) (e : PySem.Expr) : Bool := match e with
  | .Constant k _ _ => (strK k).isSome
  | .BinOp a o b _ => isAddO o && (freshP c a b || freshP c b a)
  | _ => false
noncomputable def isRep : SM → Bool
  | .replace => true
  | _ => false
/-- the name of the type int, told by the globals -/
noncomputable def intGV (o : Option GV) : Bool := match o with
  | some (.ty b _) => (match b with | .int16 => true | _ => false)
  | _ => false
noncomputable def isIntTy (c : Ce) (y : Str) : Bool := y != ("__debug__" : Str) && c.kind y == some .globalImplicit && intGV (c.gl.lookup y)
noncomputable def intK (k : Const) : Option Int := match k with
  | .int i => some i
  | _ => none
noncomputable def litI (e : PySem.Expr) : Option Int := (constE e).bind intK
/-- an expression whose truth is its value's -/
noncomputable def plainX (x : E) : Bool := match x with
  | .not _ => false
  | .and _ => false
  | .or _ => false
  | .ife _ _ _ => false
  | _ => true
noncomputable def pln (o : Option E) : Option E := o.bind fun x => if plainX x then some x else none
/-- what stands in a name's place -/
noncomputable def glX (v : GV) : Option E := match v with
  | .const p => some (.lit p)
  | .tab g => some (.tab g)
  | _ => none
noncomputable def trName (c : Ce) (x : Str) : Option E := if x != ("__debug__" : Str) then (c.kind x).bind fun k => match k with
  | .local => (c.slot x).map .loc
  | .cell => (c.slot x).map .cel
  | .globalImplicit => (c.gl.lookup x).bind glX
  | _ => none else none
noncomputable def trUn (o : UnaryOp) (x : Option E) : Option E := match o with
  | .Not => x.map .not
  | .USub => x.map .neg
  | _ => none
noncomputable def trBo (o : BoolOp) (l : Option (List E)) : Option E := match o with
  | .And => l.map .and
  | .Or => l.map .or
section
variable (c : Ce) (t ti : PySem.Expr → Option E)
noncomputable def trO (o : Option PySem.Expr) : Option (Option E) := match o with
  | none => some none
  | some e => (t e).map some
noncomputable def slcE (e : PySem.Expr) : Option (Option PySem.Expr × Option PySem.Expr × Option PySem.Expr) := match e with
  | .Slice lo hi st _ => some (lo, hi, st)
  | _ => none
noncomputable def trSub (v i : PySem.Expr) : Option E := match slcE i with
  | some q => if q.2.2.isNone then (t v).bind fun a => (trO t q.1).bind fun lo => (trO t q.2.1).map fun hi => .sl a lo hi else none
  | none => (t v).bind fun a => (t i).map fun i => .idx a i
noncomputable def clsGV (o : Option GV) : Option (List (Str × P)) := match o with
  | some (.cls at_) => some at_
  | _ => none
noncomputable def trAttr (v : PySem.Expr) (a : Str) : Option E := (nameE v).bind fun x => if x != ("__debug__" : Str) then (c.kind x).bind fun k => match k with
  | .globalImplicit => (clsGV (c.gl.lookup x)).bind fun at_ => (at_.lookup a).map .lit
  | .local => if a == ("append" : Str) then (t v).map .bnd else if c.flds.contains a then (t v).map (.fld · a) else none
  | _ => none else none
noncomputable def trArgs (as : List PySem.Expr) : Option (List E) := seqO (as.map t)
noncomputable def trBi (b : BI) (as : List PySem.Expr) : Option E := match b with
  | .isint => (two as).bind fun q => (nameE q.2).bind fun y => if isIntTy c y then (t q.1).map fun a => .bi .isint [a] else none
  | .int16 => none
  | b => (trArgs t as).map (.bi b)
noncomputable def trTy (b : BI) (as : List PySem.Expr) : Option E := match b with
  | .int16 => (two as).bind fun q => (litI q.2).bind fun k => if k == 16 then (t q.1).map fun a => .bi .int16 [a] else none
  | .isint => none
  | b => (trArgs t as).map (.bi b)
noncomputable def trGl (v : GV) (as : List PySem.Expr) : Option E := match v with
  | .defn i => (trArgs t as).map (.cal i)
  | .cls _ => (trArgs t as).map .new
  | .bi b _ => trBi c t b as
  | .ty b _ => trTy t b as
  | _ => none
noncomputable def trCallN (f : PySem.Expr) (x : Str) (as : List PySem.Expr) : Option E := if x != ("__debug__" : Str) then (c.kind x).bind fun k => match k with
  | .local => (one as).bind fun e => (t f).bind fun a => (t e).map fun b => .app a b
  | .globalImplicit => (c.gl.lookup x).bind fun v => trGl c t v as
  | _ => none else none
noncomputable def trCallM (o : PySem.Expr) (a : Str) (as : List PySem.Expr) : Option E := match smOf.lookup a with
  | some b => if !isRep b || (as.length == 2 && as.all (freshE c)) then (t o).bind fun o => (trArgs t as).map (.sm b o) else none
  | none => (c.meths.lookup a).bind fun f => (t o).bind fun o => (trArgs t as).map (.mth f a o)
noncomputable def trCall (f : PySem.Expr) (as : List PySem.Expr) (pos : Pos) : Option E := match f with
  | .Name x _ => trCallN c t f x as
  | .Attribute o a apos => if !isCallE o && apos.endLine == pos.line then trCallM c t o a as else none
  | _ => none
structure CG where
  tg : PySem.Expr
  it : PySem.Expr
  ifs : List PySem.Expr
noncomputable def genOf (g : Comprehension) : Option CG := match g with
  | ⟨t, it, ifs, a⟩ => if a == 0 && !isSetE it then some ⟨t, it, ifs⟩ else none
noncomputable def trComp1 (elt : PySem.Expr) (sc : Scope) (fr : List (Option Nat)) (q : CG) : Option E :=
  (tgtOf (c.inner sc) q.tg).bind fun tg => (t q.it).bind fun it => (trArgs ti q.ifs).bind fun cs => (ti elt).map fun elt => .comp fr elt tg it cs
noncomputable def trComp2 (elt : PySem.Expr) (sc : Scope) (fr : List (Option Nat)) (q r : CG) : Option E :=
  (nul q.ifs).bind fun _ => (tgtOf (c.inner sc) q.tg).bind fun tg => (t q.it).bind fun it => (tgtOf (c.inner sc) r.tg).bind fun tg2 => (ti r.it).bind fun it2 => (trArgs ti r.ifs).bind fun cs => (ti elt).map fun elt => .comp2 fr elt tg it tg2 it2 cs
noncomputable def trComp (elt : PySem.Expr) (gs : List Comprehension) (sc : Scope) : Option E := if scOk c sc then (c.frame sc).bind fun fr => match gs with
  | [] => none
  | a :: r => (genOf a).bind fun q => match r with
    | [] => trComp1 c t ti elt sc fr q
    | _ :: _ => (one r).bind fun b => (genOf b).bind fun w => trComp2 c t ti elt sc fr q w else none
end
noncomputable def plainS (es : List PySem.Expr) : Bool := es.all (fun e => !isStarE e)
noncomputable def tr (c : Ce) : Nat → PySem.Expr → Option E
  | 0, _ => none
  | n + 1, e => match e with
    | .Constant k _ _ => (litOf k).map .lit
    | .Name x _ => pln (trName c x)
    | .BinOp l o r _ => (bopOf o).bind fun o => (tr c n l).bind fun a => (tr c n r).map fun b => .bin o a b
    | .UnaryOp o x _ => trUn o (tr c n x)
    | .Compare l os rs _ => (one os).bind fun o => (one rs).bind fun r => if !isSetE r then (tr c n l).bind fun a => (tr c n r).map fun b => .cmp (copOf o) a b else none
    | .BoolOp o es _ => trBo o (trArgs (tr c n) es)
    | .IfExp t a b _ => (tr c n t).bind fun t => (tr c n a).bind fun a => (tr c n b).map fun b => .ife t a b
    | .Tuple es _ _ => if plainS es then (trArgs (tr c n) es).map .tup else none
    | .List es _ => if plainS es then (trArgs (tr c n) es).map .lst else none
    | .Subscript v i _ => trSub (tr c n) v i
    | .Attribute v a _ => pln (trAttr c (tr c n) v a)
    | .Call f as ks pos => (nul ks).bind fun _ => if plainArgs as then pln (trCall c (tr c n) f as pos) else none
    | .ListComp elt gs sc _ => pln (trComp c (tr c n) (tr (c.inner sc) n) elt gs sc)
    | _ => none

/-- is a comprehension that is bound to a name made in the name's place -/
noncomputable def used (c : Ce) (x : Str) (pos : Pos) : PySem.Expr → Bool
  | .ListComp _ _ s p => c.sc.kind == .function && c.kind x == some .local && pos.line == p.line && !(s.names.any fun (n, k) => n == x && (k == .local || k == .cell))
  | _ => false
noncomputable def nameLine : PySem.Expr → Option (Str × Nat)
  | .Name x p => some (x, p.line)
  | _ => none

/-- two names of one line, both of the frame -/
noncomputable def twoNames (c : Ce) (ts : List PySem.Expr) : Bool := match (two ts).bind fun q => (nameLine q.1).bind fun x => (nameLine q.2).map fun y => (x, y) with
  | some (x, y) => x.1 != y.1 && x.2 == y.2 && c.kind x.1 == some .local && c.kind y.1 == some .local
  | none => false
noncomputable def tupE (e : PySem.Expr) : Option (List PySem.Expr) := match e with
  | .Tuple vs _ _ => some vs
  | _ => none
noncomputable def tgL (t : Tg) : Option (List Nat) := match t with
  | .tup l => some l
  | _ => none
section
variable (c : Ce) (t : PySem.Expr → Option E)
noncomputable def asgN (x : Str) (px : Pos) (v : PySem.Expr) : Option T :=
  if used c x px v then (if c.kind x == some .local then (c.slot x).bind fun i => (t v).map fun e => .asgC i e else none)
  else (tgtOf c (.Name x px)).bind fun g => (t v).map fun e => .asg g e
noncomputable def asgT (tg : PySem.Expr) (ts : List PySem.Expr) (v : PySem.Expr) : Option T := match tupE v with
  | some vs => if twoNames c ts && plainS vs && !(vs.all (foldedForSure 8)) && !(vs.all (constantsAlone 8)) then (two vs).bind fun _ => (tgtOf c tg).bind fun g => (tgL g).bind fun l => (t v).map fun e => .asgS l e else none
  | none => if !isCompE v then (tgtOf c tg).bind fun g => (t v).map fun e => .asg g e else none
noncomputable def asg1 (tg v : PySem.Expr) : Option T := match tg with
  | .Name x px => asgN c t x px v
  | .Tuple ts _ _ => asgT c t tg ts v
  | .Subscript o i _ => if !isSliceE i && !isCompE v then (t v).bind fun e => (t o).bind fun o => (t i).map fun i => .asgI o i e else none
  | .Attribute o a _ => if !isCompE v && c.flds.contains a then (t v).bind fun e => (t o).map fun o => .asgF o a e else none
  | _ => none
noncomputable def asgA (ts : List PySem.Expr) (v : PySem.Expr) : Option T := match ts with
  | [] => none
  | a :: r => match r with
    | [] => asg1 c t a v
    | _ :: _ => if !isCompE v then (seqO (ts.map (nmSlot c))).bind fun l => (t v).map fun e => .asgM l e else none
noncomputable def augX (tg : PySem.Expr) (o : Operator) (v : PySem.Expr) : Option T := (nameE tg).bind fun x => if c.kind x == some .local then (bopOf o).bind fun o => (c.slot x).bind fun i => (t v).map fun e => .aug i o e else none
end
noncomputable def trS (c : Ce) : Nat → Stmt → Option T
  | 0, _ => none
  | n + 1, s => match s with
    | .Assign ts v _ => asgA c (tr c n) ts v
    | .AugAssign tg o v _ => augX c (tr c n) tg o v
    | .Expr v _ => if !isCompE v then (tr c n v).map .ex else none
    | .If t a b _ => (tr c n t).bind fun t => (seqO (a.map (trS c n))).bind fun a => (seqO (b.map (trS c n))).map fun b => .ifs t a b
    | .While t b e _ => (nul e).bind fun _ => (tr c n t).bind fun t => (seqO (b.map (trS c n))).map fun b => .whl t b
    | .For t it b e _ => (nul e).bind fun _ => if !isSetE it then (tgtOf c t).bind fun t => (tr c n it).bind fun it => (seqO (b.map (trS c n))).map fun b => .fore t it b else none
    | .Return o _ => o.bind fun e => (tr c n e).map .ret
    | .Break _ => some .brk
    | .Continue _ => some .cont
    | .Raise _ _ _ => some .bad
    | _ => none
noncomputable def trB (c : Ce) (n : Nat) (b : List Stmt) : Option (List T) := seqO (b.map (trS c n))
end Mine
end
section
open PySem PySem.W PyProof.Rows PyProof.V PySem.Calls Builtin Builtin.Str
set_option Elab.async false
set_option maxRecDepth 100000
namespace Mine
noncomputable abbrev fHex : PySem.Str := ⟨#[61, 37, 48, 50, 88]⟩
noncomputable def pctF : Percent := { zero := true, width := some 2, type := 88 }
theorem pct_digits_nat : ∀ n : Nat, n < 256 → (percentField pctF true (percentInt pctF (decide ((n : Int) < 0)) ((Nat.toDigits 16 (n : Int).natAbs).map Char.toNat))).getD (percentInt pctF (decide ((n : Int) < 0)) ((Nat.toDigits 16 (n : Int).natAbs).map Char.toNat)) = [hexD ((n : Nat) / 16), hexD ((n : Nat) % 16)] := by decide +kernel
theorem pct_digits (i : Int) (h0 : 0 ≤ i) (h1 : i < 256) : (percentField pctF true (percentInt pctF (decide (i < 0)) ((Nat.toDigits 16 i.natAbs).map Char.toNat))).getD (percentInt pctF (decide (i < 0)) ((Nat.toDigits 16 i.natAbs).map Char.toNat)) = [hexD (i.toNat / 16), hexD (i.toNat % 16)] := by
  obtain ⟨n, rfl⟩ := Int.eq_ofNat_of_zero_le h0
  exact pct_digits_nat n (by lia)
theorem meets_hex (i : Int) (h0 : 0 ≤ i) (h1 : i < 256) (t u : Tok) : Meets («str.__mod__» ⟨[.str fHex t, .int i u], []⟩) (fun _ R s => ∀ t' k, R (.ok (.ret (.str (S [61, hexD (i.toNat / 16), hexD (i.toNat % 16)]) t'))) { s with toks := k }) := by
  apply KPc.meets_of
  intro _ _ _ _ _ _ hQ
  rw [KPc.entry_is]
  unfold Builtin.Str.percentFormat
  refine wpAny_bind (wpAny_isInstance (typeIs_int _ _ _) F.sub_int_tuple ?_)
  refine wpAny_bind (wpAny_of_eq (a := none) rfl ?_)
  refine wpAny_bind (wpAny_of_eq (KPc.fills _ _) ?_)
  kpc_if
  refine wpAny_bind (wpAny_pure ?_)
  refine wpAny_bind ?_
  rw [KPc.range_list]
  refine KPc.start ?_
  intro w0 g0
  refine KPc.turn ?_
  kpc_check
  repeat kpc_if
  refine wpAny_pure ?_
  kpc_piece
  refine KPc.turn ?_
  kpc_check
  repeat kpc_if
  refine wpAny_bind ?_
  refine wpAny_holding ?_
  kpc_if
  kpc_if
  refine wpAny_bind (wpAny_of_eq (a := i) rfl ?_)
  repeat kpc_if
  refine wpAny_bind (wpAny_pure ?_)
  refine wpAny_pure ?_
  have hd := pct_digits i h0 h1
  generalize hT : percentInt pctF (decide (i < 0)) ((Nat.toDigits 16 i.natAbs).map Char.toNat) = T at hd
  have key : ∀ (T : List Nat), (percentField pctF true T).getD T = [hexD (i.toNat / 16), hexD (i.toNat % 16)] → percentInt pctF (decide (i < 0)) ((Nat.toDigits 16 i.natAbs).map Char.toNat) = T → ∀ (w1 : Writer), KPc.Good w1 (PySem.Str.ofString "=") (0 + (PySem.Str.ofString "=").length) →
      ∃ w2, KPc.Good w2 (PySem.Str.ofString "=" ++ S [hexD (i.toNat / 16), hexD (i.toNat % 16)]) (0 + (PySem.Str.ofString "=").length + 2) ∧ (match percentField pctF true (percentInt pctF (decide (i < 0)) ((Nat.toDigits 16 i.natAbs).map Char.toNat)) with
        | none => (pure (ForInStep.yield (([] : List Value), w1.add ⟨(percentInt pctF (decide (i < 0)) ((Nat.toDigits 16 i.natAbs).map Char.toNat)).toArray⟩ (if ([] : List Nat).isEmpty then none else none), ([] : List Nat))) : Sem (ForInStep (List Value × Writer × List Nat)))
        | some laid => pure (ForInStep.yield (([] : List Value), w1.add ⟨laid.toArray⟩, ([] : List Nat)))) = pure (ForInStep.yield (([] : List Value), w2, ([] : List Nat))) := by
    intro T hd hT w1 g1
    rw [hT]
    have fin : ∀ (x : List Nat) (o : Option Value), o = none → x = [hexD (i.toNat / 16), hexD (i.toNat % 16)] → KPc.Good (w1.add ⟨x.toArray⟩ o) (PySem.Str.ofString "=" ++ S [hexD (i.toNat / 16), hexD (i.toNat % 16)]) (0 + (PySem.Str.ofString "=").length + 2) := by
      intro x o ho hx
      subst hx
      exact KPc.good_add g1 (KPc.obj_none ho)
    cases hp : percentField pctF true T with
    | none =>
      rw [hp] at hd
      exact ⟨_, fin _ _ (by simp) hd, rfl⟩
    | some laid =>
      rw [hp] at hd
      exact ⟨_, fin _ _ rfl hd, rfl⟩
  obtain ⟨w2, g2, e2⟩ := key T hd hT _ ‹KPc.Good _ (PySem.Str.ofString "=") _›
  refine wpAny_of_eq e2 ?_
  refine KPc.turn ?_
  kpc_check
  kpc_if
  refine wpAny_pure ?_
  kpc_if
  refine KPc.finish_ok g2 (by decide +kernel) rfl ?_
  intro t' k
  exact hQ t' k
end Mine
end
section
open PySem PySem.W PyProof.Rows PyProof.V
set_option Elab.async false
set_option genSizeOf false
set_option maxRecDepth 20000
namespace Mine

theorem S_add (a b : List Nat) : S a ++ S b = S (a ++ b) := by
  show Str.append (S a) (S b) = _
  unfold Str.append S
  simp
theorem foldl_app {α : Type} (l : List (Array α)) (z : Array α) : (l.foldl (fun x y => x ++ y) z).toList = z.toList ++ (l.map Array.toList).flatten := by
  induction l generalizing z with
  | nil => simp
  | cons a r ih => simp [ih]
theorem rep_zero (l : List α) : rep 0 l = [] := rfl
theorem rep_succ (n : Nat) (l : List α) : rep (n + 1) l = l ++ rep n l := by unfold rep; simp [List.replicate_succ]
theorem rep_nil (n : Nat) : rep n ([] : List α) = [] := by
  induction n with
  | zero => rfl
  | succ n ih => rw [rep_succ, ih]; rfl
theorem rep_len (n : Nat) (l : List α) : (rep n l).length = l.length * n := by
  induction n with
  | zero => simp [rep_zero]
  | succ n ih => rw [rep_succ, List.length_append, ih, Nat.mul_succ]; lia
theorem S_mul (a : List Nat) (n : Int) : Txt.mul (S a) n = S (rep n.toNat a) := by
  unfold Txt.mul
  split
  · have : n.toNat = 0 := by lia
    rw [this]; rfl
  · split
    · rename_i h1 h2
      simp only [Bool.or_eq_true, beq_iff_eq, S_len] at h2
      rcases h2 with h2 | h2
      · subst h2; show S a = S (rep 1 a); rw [rep_succ]; simp [rep_zero]
      · have : a = [] := List.length_eq_zero_iff.mp h2
        subst this; rw [rep_nil]
    · have e := foldl_app (List.replicate n.toNat (S a).cps) #[]
      have : (List.foldl (fun x1 x2 => x1 ++ x2) #[] (List.replicate n.toNat (S a).cps)) = (rep n.toNat a).toArray := by
        apply Array.ext'
        rw [e]; simp [rep]
      rw [this]; rfl

theorem natAbs_log2 {b : Int} (h : b.natAbs < 2 ^ 40) : b.natAbs.log2 < 40 ∨ b.natAbs = 0 := by
  by_cases e : b.natAbs = 0
  · exact .inr e
  · exact .inl ((Nat.log2_lt e).mpr h)
theorem noPylong {a b : Int} (h : b.natAbs < 2 ^ 40) : Builtin.divisionGoesByPylong a b = false := by
  unfold Builtin.divisionGoesByPylong
  dsimp only
  have : (if (b == 0) = true then 0 else b.natAbs.log2 / 30 + 1) ≤ 2 := by
    split
    · exact Nat.zero_le _
    · rcases natAbs_log2 h with h | h
      · lia
      · rw [h]; decide
  rw [Bool.and_eq_false_iff]
  left
  exact decide_eq_false (by omega)
theorem intBits_small {a : Int} (h : -1000000000 ≤ a ∧ a ≤ 1000000000) : Builtin.Int.intBits a ≤ 64 := by
  unfold Builtin.Int.intBits
  split
  · exact Nat.zero_le _
  · rename_i h0
    have h0 : ¬ a.natAbs = 0 := by simp at h0; lia
    have : a.natAbs.log2 < 40 := (Nat.log2_lt h0).mpr (by omega)
    exact Nat.lt_of_lt_of_le ‹_› (by decide)

theorem dats_len (ps : List P) : (dats ps).length = ps.length := by rw [dats_eq, List.length_map]
theorem datAll_rep {imm : List (Addr × Obj)} {vs : List Value} {ds : List Dat} (h : DatAll imm vs ds) (n : Nat) : DatAll imm (rep n vs) (rep n ds) := by
  induction n with
  | zero => exact .nil
  | succ n ih => rw [rep_succ, rep_succ]; exact h.append ih
theorem dats_rep (n : Nat) (ps : List P) : dats (rep n ps) = rep n (dats ps) := by
  induction n with
  | zero => rfl
  | succ n ih => rw [rep_succ, rep_succ, ← ih, dats_eq, dats_eq, dats_eq, List.map_append]
theorem dats_append (a b : List P) : dats (a ++ b) = dats a ++ dats b := by simp [dats_eq]
theorem getL_some {H : List O} {r : Nat} {ps : List P} (h : getL H r = some ps) : H[r]? = some (.list ps) := by
  unfold getL at h
  split at h
  · rename_i x e; cases h; exact e
  · cases h
theorem getF_some {H : List O} {r : Nat} {ps} (h : getF H r = some ps) : H[r]? = some (.inst ps) := by
  unfold getF at h
  split at h
  · rename_i x e; cases h; exact e
  · cases h

/-! eliminators, each with the goal told once -/
theorem bindE {α β : Type} {o : Option α} {f : α → Option β} {y : β} {C : Prop} (h : o.bind f = some y) (k : ∀ a, o = some a → f a = some y → C) : C := by
  cases o with
  | none => first | exact no h | exact nob h | cases h
  | some a => exact k a rfl h
theorem mapE {α β : Type} {o : Option α} {f : α → β} {y : β} {C : Prop} (h : o.map f = some y) (k : ∀ a, o = some a → some (f a) = some y → C) : C := by
  cases o with
  | none => first | exact no h | exact nob h | cases h
  | some a => exact k a rfl h
theorem iteE {β : Type} {c : Bool} {a : Option β} {y : β} {C : Prop} (h : (if c = true then a else none) = some y) (k : c = true → a = some y → C) : C := by
  cases c with
  | false => first | exact no h | exact nob h | cases h
  | true => exact k rfl h
theorem iteP {β : Type} {p : Prop} [Decidable p] {a : Option β} {y : β} {C : Prop} (h : (if p then a else none) = some y) (k : p → a = some y → C) : C := by
  by_cases hp : p
  · rw [if_pos hp] at h; exact k hp h
  · rw [if_neg hp] at h; cases h
theorem iteB {β : Type} {c : Bool} {a b : Option β} {y : β} {C : Prop} (h : (if c = true then a else b) = some y) (k1 : c = true → a = some y → C) (k2 : c = false → b = some y → C) : C := by
  cases c with
  | false => exact k2 rfl h
  | true => exact k1 rfl h
theorem andE {a b : Bool} {C : Prop} (h : (a && b) = true) (k : a = true → b = true → C) : C := by
  cases a with
  | false => first | exact no h | exact nob h | cases h
  | true => exact k rfl h
theorem pl_eq {v : V} {p : P} (h : v.pl = some p) : v = .p p := by cases v <;> first | exact no h | (cases h; rfl)
theorem rf_eq {v : V} {r : Nat} (h : v.rf = some r) : v = .ref r := by cases v <;> first | exact no h | (cases h; rfl)
theorem pint_eq {p : P} {i : Int} (h : p.int? = some i) : p = .int i := by cases p <;> first | exact no h | (cases h; rfl)
theorem pstr_eq {p : P} {i : List Nat} (h : p.str? = some i) : p = .str i := by cases p <;> first | exact no h | (cases h; rfl)
theorem ptup_eq {p : P} {i : List P} (h : p.tup? = some i) : p = .tup i := by cases p <;> first | exact no h | (cases h; rfl)
theorem pbool_eq {p : P} {i : Bool} (h : p.bool? = some i) : p = .bool i := by cases p <;> first | exact no h | (cases h; rfl)
theorem int_eq {v : V} {i : Int} (h : v.int = some i) : v = .p (.int i) := bindE h fun _ e h => (pl_eq e).trans (congrArg _ (pint_eq h))
theorem str_eq {v : V} {i : List Nat} (h : v.str = some i) : v = .p (.str i) := bindE h fun _ e h => (pl_eq e).trans (congrArg _ (pstr_eq h))
theorem tup_eq {v : V} {i : List P} (h : v.tup = some i) : v = .p (.tup i) := bindE h fun _ e h => (pl_eq e).trans (congrArg _ (ptup_eq h))
theorem ob_eq {v : V} {r : Nat} (h : v.ob = some r) : v = .obj r := by cases v <;> first | exact no h | (cases h; rfl)
theorem bmr_eq {v : V} {r : Nat} (h : v.bmr = some r) : v = .bm r := by cases v <;> first | exact no h | (cases h; rfl)
theorem nn_eq {v : V} {u : Unit} (h : v.nn = some u) : v = .p .none := bindE h fun p e h => by cases p <;> first | exact no h | (cases h; exact pl_eq e)
theorem nameE_eq {e : PySem.Expr} {x : Str} (h : nameE e = some x) : ∃ p, e = .Name x p := by cases e <;> first | exact no h | (cases h; exact ⟨_, rfl⟩)
theorem nt {b : Bool} (h : (!b) = true) : b = false := by cases b <;> first | rfl | exact no h | exact nob h | cases h
theorem join_eq {α : Type} {o : Option (Option α)} {a : α} (h : o.join = some a) : o = some (some a) := by cases o with | none => cases h | some b => exact congrArg some h
theorem lst_eq {v : V} {H : List O} {ps : List P} (h : v.lst H = some ps) : ∃ r, v = .ref r ∧ getL H r = some ps := bindE h fun r e h => ⟨r, rf_eq e, h⟩
theorem nul_eq {α : Type} {l : List α} {u : Unit} (h : nul l = some u) : l = [] := by cases l with | nil => rfl | cons => first | exact no h | exact nob h | cases h
theorem one_eq {α : Type} {l : List α} {a : α} (h : one l = some a) : l = [a] := by
  cases l with
  | nil => first | exact no h | exact nob h | cases h
  | cons b r => exact mapE h fun _ e h => by cases h; rw [nul_eq e]
theorem two_eq {α : Type} {l : List α} {a : α × α} (h : two l = some a) : l = [a.1, a.2] := by
  cases l with
  | nil => first | exact no h | exact nob h | cases h
  | cons b r => exact mapE h fun _ e h => by cases h; rw [one_eq e]
section
variable {X : Wd} {imm : List (Addr × Obj)} {ad : List Addr} {x : Value} {C : Value → Prop}
theorem datInt {i : Int} (r : DatIn imm x (P.int i).dat) (k : ∀ t, C (.int i t)) : C x := by cases r; exact k _
theorem datStr {i : List Nat} (r : DatIn imm x (P.str i).dat) (k : ∀ t, C (.str (S i) t)) : C x := by cases r; exact k _
theorem datBool {i : Bool} (r : DatIn imm x (P.bool i).dat) (k : C (.bool i)) : C x := by cases r; exact k
theorem pint_E {p : P} {i : Int} (h : p.int? = some i) (r : DatIn imm x p.dat) (k : ∀ t, C (.int i t)) : C x := by cases pint_eq h; exact datInt r k
theorem pstr_E {p : P} {i : List Nat} (h : p.str? = some i) (r : DatIn imm x p.dat) (k : ∀ t, C (.str (S i) t)) : C x := by cases pstr_eq h; exact datStr r k
theorem pbool_E {p : P} {i : Bool} (h : p.bool? = some i) (r : DatIn imm x p.dat) (k : C (.bool i)) : C x := by cases pbool_eq h; exact datBool r k
theorem dat_E {v : V} {p : P} (h : v.pl = some p) (r : VRel X imm ad v x) : DatIn imm x p.dat := by rw [pl_eq h] at r; exact r
theorem int_E {v : V} {i : Int} (h : v.int = some i) (r : VRel X imm ad v x) (k : ∀ t, C (.int i t)) : C x := by rw [int_eq h] at r; exact datInt r k
theorem str_E {v : V} {i : List Nat} (h : v.str = some i) (r : VRel X imm ad v x) (k : ∀ t, C (.str (S i) t)) : C x := by rw [str_eq h] at r; exact datStr r k
end
inductive VRs (X : Wd) (imm : List (Addr × Obj)) (ad : List Addr) : List V → List Value → Prop
  | nil : VRs X imm ad [] []
  | cons {v y vs ys} : VRel X imm ad v y → VRs X imm ad vs ys → VRs X imm ad (v :: vs) (y :: ys)
section
variable {X : Wd} {imm : List (Addr × Obj)} {ad : List Addr} {vs : List V} {ys : List Value} {C : List Value → Prop}
theorem consE {v : V} (r : VRs X imm ad (v :: vs) ys) (k : ∀ y ys, VRel X imm ad v y → VRs X imm ad vs ys → C (y :: ys)) : C ys := by cases r with | cons a b => exact k _ _ a b
theorem nulE {u : Unit} (h : nul vs = some u) (r : VRs X imm ad vs ys) (k : C []) : C ys := by rw [nul_eq h] at r; cases r; exact k
theorem oneE {v : V} (h : one vs = some v) (r : VRs X imm ad vs ys) (k : ∀ y, VRel X imm ad v y → C [y]) : C ys := by
  rw [one_eq h] at r
  apply consE r
  intro y z a b
  apply nulE (u := ()) rfl b
  exact k y a
theorem twoE {v : V × V} (h : two vs = some v) (r : VRs X imm ad vs ys) (k : ∀ y z, VRel X imm ad v.1 y → VRel X imm ad v.2 z → C [y, z]) : C ys := by
  rw [two_eq h] at r
  apply consE r
  intro y z a b
  apply oneE (v := v.2) rfl b
  exact fun z c => k y z a c
end
section
variable {X : Wd} {h₀ : Heap} {L : Addr} {m : Str → Option Value} {mu ext imm : List (Addr × Obj)} {H : List O} {s : Shared} {A : Around} {E : Value → Shared → Prop}

/-- a list of the abstract heap, found -/
theorem St.lst (t : St X h₀ L m mu ext imm H s) {r : Nat} {ps : List P} (h : getL H r = some ps) : ∃ a vs n, mu[r]? = some (a, listOf vs.toArray n) ∧ DatAll imm vs (dats ps) ∧ vs.length = ps.length ∧ (a, listOf vs.toArray n) ∈ mu ++ (ext ++ imm) ∧ s.heap.IsList a vs.toArray := by
  obtain ⟨e, he, ho⟩ := t.mr.get (getL_some h)
  cases ho with
  | list hd =>
    rename_i a vs n
    have hm : (a, listOf vs.toArray n) ∈ mu ++ (ext ++ imm) := List.mem_append_left _ (List.mem_of_getElem? he)
    exact ⟨a, vs, n, he, hd, by rw [hd.length, dats_len], hm, ⟨_, (t.nw _ hm).1, rfl, n, rfl⟩⟩
theorem St.ref (t : St X h₀ L m mu ext imm H s) {r : Nat} {ps : List P} (h : getL H r = some ps) {v : Value} (hv : VRel X imm (mu.map Prod.fst) (.ref r) v) :
    ∃ a vs n, v = .ref a ∧ mu[r]? = some (a, listOf vs.toArray n) ∧ DatAll imm vs (dats ps) ∧ vs.length = ps.length ∧ (a, listOf vs.toArray n) ∈ mu ++ (ext ++ imm) ∧ s.heap.IsList a vs.toArray := by
  obtain ⟨a, vs, n, h1, h2, h3, h4, h5⟩ := t.lst h
  obtain ⟨b, hb, rfl⟩ := hv
  rw [List.getElem?_map, h1] at hb
  cases hb
  exact ⟨a, vs, n, rfl, h1, h2, h3, h4, h5⟩
/-- a new list onto the ledger -/
theorem St.newL (t : St X h₀ L m mu ext imm H s) {h' : Heap} {a : Addr} {vs : List Value} {n : Nat} {ps : List P} (F : Fr h₀ L h' m) (N : News h₀ L h' ((a, listOf vs.toArray n) :: (mu ++ (ext ++ imm)))) (ha : ∀ p ∈ mu ++ (ext ++ imm), p.1 < a)
    (hd : DatAll imm vs (dats ps)) (k : Nat) {Q : Value → Shared → Prop}
    (hQ : ∀ mu' imm' y s', St X h₀ L m mu' ext imm' (H ++ [.list ps]) s' → Gw mu imm mu' imm' → VRel X imm' (mu'.map Prod.fst) (.ref H.length) y → Q y s') : Q (.ref a) { s with heap := h', toks := k } := by
  refine hQ _ _ _ _ (t.addM F N ha (.list hd) k) gw_mu ⟨a, ?_, rfl⟩
  rw [← t.mr.length]
  simp

structure LAt (mu ext imm : List (Addr × Obj)) (s : Shared) (r : Nat) (ps : List P) (a : Addr) (vs : List Value) (n : Nat) : Prop where
  e : mu[r]? = some (a, listOf vs.toArray n)
  d : DatAll imm vs (dats ps)
  l : vs.length = ps.length
  m : (a, listOf vs.toArray n) ∈ mu ++ (ext ++ imm)
  i : s.heap.IsList a vs.toArray
theorem St.refE (t : St X h₀ L m mu ext imm H s) {r : Nat} {ps : List P} (h : getL H r = some ps) {v : Value} (hv : VRel X imm (mu.map Prod.fst) (.ref r) v) {C : Value → Prop}
    (k : ∀ a vs n, LAt mu ext imm s r ps a vs n → C (.ref a)) : C v := by
  obtain ⟨a, vs, n, rfl, h1, h2, h3, h4, h5⟩ := t.ref h hv
  exact k _ _ _ ⟨h1, h2, h3, h4, h5⟩
theorem St.lstE (t : St X h₀ L m mu ext imm H s) {w : V} {ps : List P} (h : w.lst H = some ps) {v : Value} (hv : VRel X imm (mu.map Prod.fst) w v) {C : Value → Prop}
    (k : ∀ r a vs n, LAt mu ext imm s r ps a vs n → C (.ref a)) : C v := by
  obtain ⟨r, rfl, h⟩ := lst_eq h
  exact t.refE h hv (k r)
/-- what is to be shown behind a step -/
noncomputable def Post (X : Wd) (h₀ : Heap) (L : Addr) (m : Str → Option Value) (mu ext imm : List (Addr × Obj)) (r : V × List O) (Q : Value → Shared → Prop) : Prop :=
  ∀ mu' imm' z s', St X h₀ L m mu' ext imm' r.2 s' → Gw mu imm mu' imm' → VRel X imm' (mu'.map Prod.fst) r.1 z → Q z s'
variable {r : V × List O} {Q : Value → Shared → Prop}
theorem Post.of {v : V} {H' : List O} (hQ : Post X h₀ L m mu ext imm r Q) (e : some (v, H') = some r) : Post X h₀ L m mu ext imm (v, H') Q := Option.some.inj e ▸ hQ
theorem Post.p {p : P} (hQ : Post X h₀ L m mu ext imm r Q) (e : some (V.p p, H) = some r) (t : St X h₀ L m mu ext imm H s) {z : Value} {k : Nat} (hz : DatIn imm z p.dat) : Q z { s with toks := k } :=
  hQ.of e _ _ _ _ (t.tok k) .refl hz
noncomputable def opB : BOp → Operator
  | .add => .Add | .sub => .Sub | .mul => .Mult | .fdiv => .FloorDiv | .mod => .Mod | .pow => .Pow
theorem bop_inv {o : BOp} {op : Operator} (h : bopOf op = some o) : op = opB o := by cases op <;> cases h <;> rfl
section
variable {p q c : P} {x y : Value}
theorem op_addP (hr : addP p q = some c) (ra : DatIn imm x p.dat) (rb : DatIn imm y q.dat) (fin : ∀ z k, DatIn imm z c.dat → Q z { s with toks := k }) :
    wpAny (model X.prog X.w) A (binaryOp .Add x y) Q E s := by
  cases p with
  | int a =>
    refine bindE hr fun b e hr => ?_
    apply pint_E e rb
    intro t2
    apply datInt ra
    intro t1
    cases hr
    exact add_int (fin _ _ (.int _ _))
  | str a =>
    refine bindE hr fun b e hr => ?_
    apply pstr_E e rb
    intro t2
    apply datStr ra
    intro t1
    refine iteE hr fun h hr => ?_
    cases hr
    have h := of_ok h
    exact add_str (fun t' k => fin _ k (by rw [S_add]; exact .str _ _)) (by rw [S_len, S_len, sizeLine_eq]; exact Nat.le_trans ‹_› (by decide))
  | _ => first | exact no hr | exact nob hr | cases hr
theorem op_mulP (hr : mulP p q = some c) (ra : DatIn imm x p.dat) (rb : DatIn imm y q.dat) (fin : ∀ z k, DatIn imm z c.dat → Q z { s with toks := k }) :
    wpAny (model X.prog X.w) A (binaryOp .Mult x y) Q E s := by
  cases p with
  | int a =>
    refine bindE hr fun b e hr => ?_
    apply pint_E e rb
    intro t2
    apply datInt ra
    intro t1
    refine iteE hr fun h hr => ?_
    cases hr
    exact mul_int (fin _ _ (.int _ _)) (.of_left (intBits_small (of_oki h)))
  | str a =>
    refine bindE hr fun n e hr => ?_
    apply pint_E e rb
    intro t2
    apply datStr ra
    intro t1
    refine iteE hr fun h hr => andE h fun h1 h2 => ?_
    cases hr
    have h1 := of_oki h1
    have h2 := of_ok h2
    refine SB.mul ⟨?_, fun q1 q2 => ?_, fun q1 q2 => ?_⟩ (fun t' k => fin _ k (by rw [S_mul]; exact .str _ _))
    · rw [Bool.or_eq_false_iff]
      exact ⟨decide_eq_false (by lia), decide_eq_false (by lia)⟩
    · rw [S_len]
      have : (a.length : Int) * n ≤ 1000000 := by
        have e1 : (n.toNat : Int) = n := by lia
        rw [← e1, ← Int.natCast_mul]; lia
      intro hh
      exact absurd ((Int.ediv_lt_iff_lt_mul (by lia)).mp (show (2 ^ 63 - 1) / n < (a.length : Int) from hh)) (by lia)
    · show Builtin.Str.tooLong ((S a).length * n.toNat) = false
      unfold Builtin.Str.tooLong
      rw [S_len, sizeLine_eq]
      exact decide_eq_false (by lia)
  | _ => first | exact no hr | exact nob hr | cases hr
theorem op_modP (hr : modP p q = some c) (ra : DatIn imm x p.dat) (rb : DatIn imm y q.dat) (fin : ∀ z k, DatIn imm z c.dat → Q z { s with toks := k }) :
    wpAny (model X.prog X.w) A (binaryOp .Mod x y) Q E s := by
  cases p with
  | int a =>
    refine bindE hr fun b e hr => ?_
    apply pint_E e rb
    intro t2
    apply datInt ra
    intro t1
    refine iteE hr fun h hr => ?_
    cases hr
    have h := of_decide_eq_true h
    refine mod_int' (Int.ne_of_gt h) (fin _ _ ?_)
    rw [Int.fmod_eq_emod_of_nonneg _ (Int.le_of_lt h)]
    exact .int _ _
  | str a =>
    refine bindE hr fun n e hr => ?_
    apply pint_E e rb
    intro t2
    apply datStr ra
    intro t1
    refine iteE hr fun h hr => andE h fun h1 h2 => ?_
    cases hr
    cases eq_of_beq h1
    have h2 := of_decide_eq_true h2
    exact KPc.mod_lit (X' := fHex) rfl (shown (N := 2 ^ 1920) (by omega) (by omega) (Int.le_refl _)) (fun _ _ => meets_hex _ h2.1 h2.2 _ _) (fun t' k => fin _ k (.str _ _))
  | _ => first | exact no hr | exact nob hr | cases hr
theorem op_binP {o : BOp} (hr : binP o p q = some c) (ra : DatIn imm x p.dat) (rb : DatIn imm y q.dat) (fin : ∀ z k, DatIn imm z c.dat → Q z { s with toks := k }) :
    wpAny (model X.prog X.w) A (binaryOp (opB o) x y) Q E s := by
  cases o with
  | add => exact op_addP hr ra rb fin
  | mul => exact op_mulP hr ra rb fin
  | mod => exact op_modP hr ra rb fin
  | sub =>
    refine bindE hr fun a e hr => ?_
    apply pint_E e ra
    intro t1
    refine bindE hr fun b e hr => ?_
    apply pint_E e rb
    intro t2
    cases hr
    exact sub_int (fin _ _ (.int _ _))
  | fdiv =>
    refine bindE hr fun a e hr => ?_
    apply pint_E e ra
    intro t1
    refine bindE hr fun b e hr => ?_
    apply pint_E e rb
    intro t2
    refine iteE hr fun h hr => andE h fun h1 h2 => ?_
    cases hr
    have h1 := of_oki h1
    have h2 := of_decide_eq_true h2
    refine floordiv_int (Int.ne_of_gt h2) (fin _ _ ?_) (.inl (noPylong (by omega)))
    rw [Int.fdiv_eq_ediv_of_nonneg _ (Int.le_of_lt h2)]
    exact .int _ _
  | pow =>
    refine bindE hr fun a e hr => ?_
    apply pint_E e ra
    intro t1
    refine bindE hr fun b e hr => ?_
    apply pint_E e rb
    intro t2
    refine iteE hr fun h hr => andE h fun h1 h2 => ?_
    cases hr
    cases eq_of_beq h1
    cases eq_of_beq h2
    exact pow_int (by decide) (by decide) (fin _ _ (.int _ _))
end
theorem op_binR {o : BOp} {i : Nat} {b : V} (hv : binR o i b H = some r) (t : St X h₀ L m mu ext imm H s) {x y : Value} (ra : VRel X imm (mu.map Prod.fst) (.ref i) x) (rb : VRel X imm (mu.map Prod.fst) b y)
    (hQ : Post X h₀ L m mu ext imm r Q) : wpAny (model X.prog X.w) A (binaryOp (opB o) x y) Q E s := by
  cases o with
  | add =>
    refine bindE hv fun x1 h1 hv => bindE hv fun x2 h2 hv => iteE hv fun hk hv => ?_
    have h := of_ok hk
    apply t.refE h1 ra
    intro a1 v1 n1 w1
    apply t.lstE h2 rb
    intro _ a2 v2 n2 w2
    refine add_arrays t.fr t.nw w1.i w2.i (fun h' F N => ?_) (by have := w1.l; have := w2.l; simp only [List.size_toArray, sizeLine_eq]; lia)
    exact t.newL F N t.lt (by rw [dats_append]; exact w1.d.append w2.d) _ (hQ.of hv)
  | mul =>
    refine bindE hv fun x1 h1 hv => bindE hv fun n e hv => ?_
    apply int_E e rb
    intro t2
    refine iteE hv fun hk hv => andE hk fun hk h4 => andE hk fun h2 h3 => ?_
    have h2 := of_oki h2
    have h3 := of_ok h3
    apply t.refE h1 ra
    intro a1 v1 n1 w1
    have hl := w1.l
    refine mul_list t.fr t.nw (t.nw _ w1.m).1 (by lia) (by lia) (by rw [List.size_toArray, hl]; exact Nat.le_trans ‹_› (by decide)) (fun h' F N => ?_)
    have ne : v1.toArray.isEmpty = false := by
      cases v1 with
      | nil => rw [List.eq_nil_of_length_eq_zero hl.symm] at h4; cases h4
      | cons _ _ => rfl
    rw [ne, if_neg Bool.false_ne_true] at N
    have e : (List.foldl (fun x1 x2 => x1 ++ x2) #[] (List.replicate n.toNat v1.toArray)) = (rep n.toNat v1).toArray := by
      apply Array.ext'
      rw [foldl_app]; simp [rep]
    rw [e] at N
    exact t.newL F N t.lt (by rw [dats_rep]; exact datAll_rep w1.d _) _ (hQ.of hv)
  | _ => first | exact no hv | exact nob hv | cases hv
theorem op_bin {o : BOp} {op : Operator} (hop : bopOf op = some o) {a b c : V} {H' : List O} (hv : binV o a b H = some (c, H')) (t : St X h₀ L m mu ext imm H s) {x y : Value}
    (ra : VRel X imm (mu.map Prod.fst) a x) (rb : VRel X imm (mu.map Prod.fst) b y)
    (hQ : Post X h₀ L m mu ext imm (c, H') Q) :
    wpAny (model X.prog X.w) A (binaryOp op x y) Q E s := by
  rw [bop_inv hop]
  cases a with
  | p x => exact bindE hv fun y e hv => bindE hv fun c e2 hv => op_binP e2 ra (dat_E e rb) fun z k hz => hQ.p hv t hz
  | ref r => exact op_binR hv t ra rb hQ
  | _ => first | exact no hv | exact nob hv | cases hv
end
end Mine
end
section
open PySem PySem.W PyProof.Rows PyProof.V
set_option Elab.async false
set_option maxRecDepth 20000
namespace Mine
theorem S_beq (a b : List Nat) : (S a == S b) = (a == b) := by
  rw [Bool.eq_iff_iff, beq_iff_eq, beq_iff_eq]
  exact ⟨S_inj, fun h => by rw [h]⟩
theorem S_contains (l : List Nat) (c : Nat) : Txt.contains (S l) (S [c]) = l.contains c := by
  show (!(Builtin.Str.occurrences (S l) ⟨#[c]⟩ 0 (S l).length 1).isEmpty) = _
  rw [StrLaws.found_one, Bool.eq_iff_iff, decide_eq_true_eq, List.contains_iff_mem]
  simp [S]
theorem beq_self (p : P) : p.beq p = true := (beq_iff p p).mpr rfl
theorem beqs_self (p : List P) : beqs p p = true := (beqs_iff p p).mpr rfl
open Classical in
theorem dats_dec (a b : List P) : decide (dats a = dats b) = beqs a b := by
  rw [Bool.eq_iff_iff, decide_eq_true_eq, beqs_iff]
  exact ⟨dats_inj a b, fun h => by rw [h]⟩

section
variable {X : Wd} {h₀ : Heap} {L : Addr} {m : Str → Option Value} {mu ext imm : List (Addr × Obj)} {H : List O} {s : Shared} {A : Around} {E : Value → Shared → Prop}
theorem St.sub_imm : ∀ p ∈ imm, p ∈ mu ++ (ext ++ imm) := fun _ h => List.mem_append_right _ (List.mem_append_right _ h)

theorem eqv_dec {a b : List P} (ha : (P.tup a).okAt 7 = true) (hb : (P.tup b).okAt 7 = true) : PyData.eqv (kqdP (P.tup a).dat) (kqdP (P.tup b).dat) = beqs a b := by
  have q := kqd_eqv 7 _ _ 7 (okAt_kqd 7 _ ha) (okAt_kqd 7 _ hb)
  rw [Bool.eq_iff_iff, q, beqs_iff]
  exact ⟨fun h => by have := dat_inj _ _ h; cases this; rfl, fun h => by rw [h]⟩
theorem eqv_dec' {a b : P} (ha : a.okAt 7 = true) (hb : b.okAt 7 = true) : PyData.eqv (kqdP a.dat) (kqdP b.dat) = a.beq b := by
  have q := kqd_eqv 7 _ _ 7 (okAt_kqd 7 _ ha) (okAt_kqd 7 _ hb)
  rw [Bool.eq_iff_iff, q, beq_iff]
  exact ⟨fun h => dat_inj _ _ h, fun h => by rw [h]⟩
theorem shaped_of {p : P} (h : p.okAt 7 = true) : SeqAt.shaped (kqdP p.dat) = true := by
  have l := kqd_lay 7 _ (okAt_kqd 7 _ h)
  unfold SeqAt.shaped
  rw [l.1, Bool.true_and]
  exact decide_eq_true (Nat.le_trans l.2 (by decide))
theorem tup_eqv (N : News h₀ L s.heap (mu ++ (ext ++ imm))) {a b : P} {x y : Value} (ha : a.okAt 7 = true) (hb : b.okAt 7 = true) (ra : DatIn imm x a.dat) (rb : DatIn imm y b.dat) (hu : A.units + 64 < cLine) {Q : Value → Shared → Prop}
    (hQ : Q (.bool (a.beq b)) s) : wpAny (model X.prog X.w) A (compareOp .Eq x y) Q E s := by
  obtain ⟨as, q1⟩ := kqd_in N 7 (ra.mono St.sub_imm) (okAt_kqd 7 _ ha)
  obtain ⟨bs, q2⟩ := kqd_in N 7 (rb.mono St.sub_imm) (okAt_kqd 7 _ hb)
  exact eq_dataH q1 q2 (shaped_of ha) (shaped_of hb) hu (by rw [eqv_dec' ha hb]; exact hQ)
theorem tup_nev (N : News h₀ L s.heap (mu ++ (ext ++ imm))) {a b : P} {x y : Value} (ha : a.okAt 7 = true) (hb : b.okAt 7 = true) (ra : DatIn imm x a.dat) (rb : DatIn imm y b.dat) (hu : A.units + 64 < cLine) {Q : Value → Shared → Prop}
    (hQ : Q (.bool (!a.beq b)) s) : wpAny (model X.prog X.w) A (compareOp .NotEq x y) Q E s := by
  obtain ⟨as, q1⟩ := kqd_in N 7 (ra.mono St.sub_imm) (okAt_kqd 7 _ ha)
  obtain ⟨bs, q2⟩ := kqd_in N 7 (rb.mono St.sub_imm) (okAt_kqd 7 _ hb)
  exact ne_dataH q1 q2 (shaped_of ha) (shaped_of hb) hu (by rw [eqv_dec' ha hb]; exact hQ)

theorem all_ok {ps : List P} (h : ps.all (P.okAt 7) = true) : ∀ d ∈ dats ps, kqdOk 8 d = true := by
  intro d hd
  rw [dats_eq] at hd
  obtain ⟨p, hp, rfl⟩ := List.mem_map.mp hd
  have h7 := List.all_eq_true.mp h p hp
  refine okAt_kqd 8 p ?_
  have up : ∀ n (p : P), p.okAt n = true → p.okAt (n + 1) = true := by
    intro n
    induction n with
    | zero => intro p h; cases p <;> first | exact h | exact nob h
    | succ n ih =>
      intro p h
      cases p with
      | tup ps => exact List.all_eq_true.mpr fun q hq => ih q (List.all_eq_true.mp h q hq)
      | _ => exact h
  exact up 7 p h7

section
variable {p q : P} {x y : Value} {c : Bool} {Q : Value → Shared → Prop}
theorem op_eqP (hv : eqP p q = some c) (t : St X h₀ L m mu ext imm H s) (hu : A.units + 64 < cLine) (ra : DatIn imm x p.dat) (rb : DatIn imm y q.dat) (hQ : Q (.bool c) s) :
    wpAny (model X.prog X.w) A (compareOp .Eq x y) Q E s := by
  cases p with
  | int a =>
    refine bindE hv fun b e hv => ?_
    apply pint_E e rb
    intro t2
    apply datInt ra
    intro t1
    cases hv
    exact eq_int hQ
  | str a =>
    refine bindE hv fun b e hv => ?_
    apply pstr_E e rb
    intro t2
    apply datStr ra
    intro t1
    cases hv
    exact eq_str (by rw [S_beq]; exact hQ)
  | tup a =>
    refine bindE hv fun b e hv => iteE hv fun hk hv => andE hk fun h1 h2 => ?_
    cases hv
    cases ptup_eq e
    exact tup_eqv t.nw h1 h2 ra rb hu hQ
  | _ => first | exact no hv | exact nob hv | cases hv
theorem op_neP (hv : (eqP p q).map (!·) = some c) (t : St X h₀ L m mu ext imm H s) (hu : A.units + 64 < cLine) (ra : DatIn imm x p.dat) (rb : DatIn imm y q.dat) (hQ : Q (.bool c) s) :
    wpAny (model X.prog X.w) A (compareOp .NotEq x y) Q E s := by
  refine mapE hv fun c' hv2 e2 => ?_
  cases e2
  clear hv
  have hv := hv2
  clear hv2
  cases p with
  | int a =>
    refine bindE hv fun b e hv => ?_
    apply pint_E e rb
    intro t2
    apply datInt ra
    intro t1
    cases hv
    exact ne_int hQ
  | str a =>
    refine bindE hv fun b e hv => ?_
    apply pstr_E e rb
    intro t2
    apply datStr ra
    intro t1
    cases hv
    exact ne_str (by rw [bne, S_beq]; exact hQ)
  | tup a =>
    refine bindE hv fun b e hv => iteE hv fun hk hv => andE hk fun h1 h2 => ?_
    cases hv
    cases ptup_eq e
    exact tup_nev t.nw h1 h2 ra rb hu hQ
  | _ => first | exact no hv | exact nob hv | cases hv
theorem op_cmpI {f : Int → Int → Bool} {op : CmpOp} (hv : cmpI f p q = some c) (ra : DatIn imm x p.dat) (rb : DatIn imm y q.dat) (k : ∀ a b t u, c = f a b → wpAny (model X.prog X.w) A (compareOp op (.int a t) (.int b u)) Q E s) :
    wpAny (model X.prog X.w) A (compareOp op x y) Q E s := by
  refine bindE hv fun a e hv => ?_
  apply pint_E e ra
  intro t1
  refine bindE hv fun b e hv => ?_
  apply pint_E e rb
  intro t2
  exact k _ _ _ _ (Option.some.inj hv).symm
theorem op_cmpIn {f : Bool → Bool} {op : CmpOp} (hv : cmpIn f p q = some c) (ra : DatIn imm x p.dat) (rb : DatIn imm y q.dat) (k : ∀ a b t u, c = f (Txt.contains (S b) (S [a])) → wpAny (model X.prog X.w) A (compareOp op (.str (S [a]) t) (.str (S b) u)) Q E s) :
    wpAny (model X.prog X.w) A (compareOp op x y) Q E s := by
  refine bindE hv fun a e hv => ?_
  apply pstr_E e ra
  intro t1
  refine bindE hv fun a1 e1 hv => bindE hv fun b e hv => ?_
  apply pstr_E e rb
  intro t2
  have hv := Option.some.inj hv
  subst hv
  cases one_eq e1
  exact k _ _ _ _ (by rw [S_contains])
theorem op_cmpB {f : Bool → Bool} {op : CmpOp} (hv : cmpB f p q = some c) (ra : DatIn imm x p.dat) (rb : DatIn imm y q.dat) (k : ∀ a b, c = f (Value.bool a == Value.bool b) → wpAny (model X.prog X.w) A (compareOp op (.bool a) (.bool b)) Q E s) :
    wpAny (model X.prog X.w) A (compareOp op x y) Q E s := by
  refine bindE hv fun a e hv => ?_
  apply pbool_E e ra
  refine bindE hv fun b e hv => ?_
  apply pbool_E e rb
  have : (Value.bool a == Value.bool b) = (a == b) := by cases a <;> cases b <;> decide
  exact k _ _ (by rw [this]; exact (Option.some.inj hv).symm)
noncomputable def opC : COp → CmpOp
  | .eq => .Eq | .ne => .NotEq | .lt => .Lt | .le => .LtE | .gt => .Gt | .ge => .GtE | .is => .Is | .isn => .IsNot | .inn => .In | .nin => .NotIn
theorem cop_inv (op : CmpOp) : op = opC (copOf op) := by cases op <;> rfl
theorem op_cmpP {o : COp} (hv : cmpP o p q = some c) (t : St X h₀ L m mu ext imm H s) (hu : A.units + 64 < cLine) (ra : DatIn imm x p.dat) (rb : DatIn imm y q.dat) (hQ : Q (.bool c) s) :
    wpAny (model X.prog X.w) A (compareOp (opC o) x y) Q E s := by
  cases o with
  | eq => exact op_eqP hv t hu ra rb hQ
  | ne => exact op_neP hv t hu ra rb hQ
  | lt => exact op_cmpI hv ra rb fun _ _ _ _ e => lt_int (e ▸ hQ)
  | le => exact op_cmpI hv ra rb fun _ _ _ _ e => le_int (e ▸ hQ)
  | gt => exact op_cmpI hv ra rb fun _ _ _ _ e => gt_int (e ▸ hQ)
  | ge => exact op_cmpI hv ra rb fun _ _ _ _ e => ge_int (e ▸ hQ)
  | inn => exact op_cmpIn (f := fun x => x) hv ra rb fun _ _ _ _ e => SB.contains (e ▸ hQ)
  | nin => exact op_cmpIn (f := fun x => !x) hv ra rb fun _ _ _ _ e => SB.notContains (e ▸ hQ)
  | is => exact op_cmpB (f := fun x => x) hv ra rb fun _ _ e => wpAny_is_plain rfl (e ▸ hQ)
  | isn => exact op_cmpB (f := fun x => !x) hv ra rb fun _ _ e => wpAny_isNot_plain rfl (e ▸ hQ)
open Classical in
theorem op_cmpR {o : COp} {x1 x2 : List P} {r1 r2 : Nat} {a1 a2 : Addr} {v1 v2 : List Value} {n1 n2 : Nat} (hv : cmpR o x1 x2 = some c) (t : St X h₀ L m mu ext imm H s) (hu : A.units + 64 < cLine)
    (w1 : LAt mu ext imm s r1 x1 a1 v1 n1) (w2 : LAt mu ext imm s r2 x2 a2 v2 n2) (hQ : Q (.bool c) s) : wpAny (model X.prog X.w) A (compareOp (opC o) (.ref a1) (.ref a2)) Q E s := by
  refine iteE hv fun hk hv => andE hk fun k1 k2 => ?_
  cases o with
  | eq =>
    cases hv
    exact kqd_eq t.nw w1.m rfl rfl w1.d St.sub_imm w2.m rfl rfl w2.d St.sub_imm (all_ok k1) (all_ok k2) hu (by rw [dats_dec]; exact hQ)
  | ne =>
    cases hv
    exact kqd_ne t.nw w1.m rfl rfl w1.d St.sub_imm w2.m rfl rfl w2.d St.sub_imm (all_ok k1) (all_ok k2) hu (by rw [dats_dec]; exact hQ)
  | _ => first | exact no hv | exact nob hv | cases hv
open Classical in
theorem op_cmpN {o : COp} {x2 : List P} {r2 : Nat} {a2 : Addr} {v2 : List Value} {n2 : Nat} (hv : cmpN o p x2 = some c) (t : St X h₀ L m mu ext imm H s) (hu : A.units + 64 < cLine) (ra : DatIn imm x p.dat)
    (w2 : LAt mu ext imm s r2 x2 a2 v2 n2) (hQ : Q (.bool c) s) : wpAny (model X.prog X.w) A (compareOp (opC o) x (.ref a2)) Q E s := by
  cases o with
  | nin =>
    refine bindE hv fun l e hv => iteE hv fun hk hv => andE hk fun k1 k2 => ?_
    cases hv
    cases pstr_eq e
    refine kqd_notIn t.nw w2.m rfl rfl w2.d St.sub_imm ra St.sub_imm (all_ok k1) (all_ok (ps := [.str l]) (by simpa using k2) _ (.head _)) hu ?_
    have : decide ((P.str l).dat ∈ dats x2) = x2.any (P.beq (.str l)) := by
      rw [Bool.eq_iff_iff, decide_eq_true_eq, List.any_eq_true, dats_eq, List.mem_map]
      constructor
      · rintro ⟨p, hp, e⟩
        exact ⟨p, hp, (beq_iff _ _).mpr (dat_inj _ _ e).symm⟩
      · rintro ⟨p, hp, e⟩
        rw [← (beq_iff _ _).mp e] at hp
        exact ⟨_, hp, rfl⟩
    rw [this]; exact hQ
  | _ => first | exact no hv | exact nob hv | cases hv
end
theorem op_cmp {op : CmpOp} {a b : V} {c : Bool} (hv : cmpV (copOf op) a b H = some c) (t : St X h₀ L m mu ext imm H s) {n : Nat} (R : Room A n) {x y : Value}
    (ra : VRel X imm (mu.map Prod.fst) a x) (rb : VRel X imm (mu.map Prod.fst) b y) {Q : Value → Shared → Prop}
    (hQ : ∀ k, Q (.bool c) { s with toks := k }) :
    wpAny (model X.prog X.w) A (compareOp op x y) Q E s := by
  have hu : A.units + 64 < cLine := by have := R.2.2; lia
  have hQ : Q (.bool c) s := hQ s.toks
  rw [cop_inv op]
  cases a with
  | p p =>
    cases b with
    | p q => exact op_cmpP hv t hu ra rb hQ
    | ref q =>
      refine bindE hv fun x2 h2 hv => ?_
      apply t.refE h2 rb
      intro a2 v2 n2 w2
      exact op_cmpN hv t hu ra w2 hQ
    | _ => first | exact no hv | exact nob hv | cases hv
  | ref r =>
    refine bindE hv fun x1 h1 hv => bindE hv fun x2 h2 hv => ?_
    apply t.refE h1 ra
    intro a1 v1 n1 w1
    apply t.lstE h2 rb
    intro r2 a2 v2 n2 w2
    exact op_cmpR hv t hu w1 w2 hQ
  | _ => first | exact no hv | exact nob hv | cases hv

theorem op_truth {a : V} {c : Bool} (hv : truV a = some c) (_t : St X h₀ L m mu ext imm H s) {x : Value} (ra : VRel X imm (mu.map Prod.fst) a x) {Q : Bool → Shared → Prop} (hQ : ∀ k, Q c { s with toks := k }) :
    wpAny (model X.prog X.w) A (truthy x) Q E s := by
  cases a with
  | p p =>
    cases p with
    | bool b =>
      cases hv
      exact datBool (C := fun x => wpAny _ _ (truthy x) _ _ _) ra (wpAny_truthy_bool (hQ s.toks))
    | str l =>
      refine iteE hv fun hk hv => ?_
      cases hv
      have hk := of_ok hk
      apply datStr ra
      intro t1
      refine SBL.truthy (by rw [S_len]; lia) ?_
      have : (((S l).length : Int) != 0) = !l.isEmpty := by
        rw [S_len]
        cases l with
        | nil => rfl
        | cons a r => exact bne_iff_ne.mpr (by rw [List.length_cons]; lia)
      rw [this]; exact hQ _
    | _ => first | exact no hv | exact nob hv | cases hv
  | _ => first | exact no hv | exact nob hv | cases hv
end
end Mine
end
section
open PySem PySem.W PyProof.Rows PyProof.V
set_option Elab.async false
set_option maxRecDepth 20000
namespace Mine
theorem clip_le (i : Int) (n : Nat) : clip i n ≤ n := by unfold clip; split <;> (first | lia | omega)
theorem clip_int (i : Int) (n : Nat) : max (0 : Int) (min (if i < 0 then i + n else i) n) = (clip i n : Nat) := by
  unfold clip
  by_cases h : i < 0
  · rw [if_pos h, if_pos h, Int.min_eq_left (Int.le_trans (Int.add_le_add_right (Int.le_of_lt h) n) (Int.le_of_eq (Int.zero_add _))), Int.max_comm]
    exact (Int.toNat_eq_max _).symm
  · obtain ⟨k, rfl⟩ := Int.eq_ofNat_of_zero_le (Int.not_lt.mp h)
    rw [if_neg h, if_neg h, Int.toNat_natCast]
    rcases Nat.le_total k n with hk | hk
    · rw [Int.min_eq_left (Int.ofNat_le.mpr hk), Nat.min_eq_left hk]
      exact Int.max_eq_right (Int.natCast_nonneg _)
    · rw [Int.min_eq_right (Int.ofNat_le.mpr hk), Nat.min_eq_right hk]
      exact Int.max_eq_right (Int.natCast_nonneg _)
noncomputable def loN (lo : Option Int) (n : Nat) : Nat := (lo.map (clip · n)).getD 0
noncomputable def hiN (hi : Option Int) (n : Nat) : Nat := (hi.map (clip · n)).getD n
theorem hiN_le (hi : Option Int) (n : Nat) : hiN hi n ≤ n := by cases hi <;> simp [hiN, clip_le]
theorem cut_eq (l : List α) (lo hi : Option Int) : cut l lo hi = (l.drop (loN lo l.length)).take (hiN hi l.length - loN lo l.length) := rfl
theorem sliceRange_one (a b : Nat) : sliceRange (a : Int) (b : Int) 1 = (List.range (b - a)).map fun k => a + k := by
  unfold sliceRange
  have h : ((1 : Int) > 0) = True := by simp
  simp only [h, if_true]
  by_cases hlt : (a : Int) < b
  · have e3 : (((b : Int) - a + 1 - 1) / 1).toNat = b - a := by first | lia | (simp; done) | (simp; lia)
    simp only [hlt, if_true, e3]
    refine List.map_congr_left fun k _ => ?_
    lia
  · have : b - a = 0 := by lia
    simp [hlt, this]
theorem ssi (lo hi : Option Int) (n : Nat) : Builtin.Str.strSliceIndices lo hi 1 n = (List.range (hiN hi n - loN lo n)).map fun k => loN lo n + k := by
  rw [← sliceRange_one]
  unfold Builtin.Str.strSliceIndices
  have h : ((1 : Int) > 0) = True := by simp
  simp only [h, if_true]
  congr 1
  · cases lo with
    | none => rfl
    | some i => exact clip_int i n
  · cases hi with
    | none => rfl
    | some i => exact clip_int i n
theorem pick_run {α : Type} (l : List α) (a c : Nat) (h : a + c ≤ l.length) : ((List.range c).map fun k => a + k).filterMap (l[·]?) = (l.drop a).take c := by
  induction c with
  | zero => simp
  | succ n ih =>
    have hlt : a + n < l.length := by assumption
    rw [List.range_succ, List.map_append, List.filterMap_append, ih (by exact Nat.le_of_lt ‹_›), List.take_add_one, List.getElem?_drop]
    simp [List.getElem?_eq_getElem hlt]
theorem pick_cut {α : Type} (l : List α) (lo hi : Option Int) : (Builtin.Str.strSliceIndices lo hi 1 l.length).filterMap (l[·]?) = cut l lo hi := by
  rw [ssi, cut_eq]
  by_cases h : loN lo l.length ≤ hiN hi l.length
  · have := hiN_le hi l.length
    exact pick_run l _ _ (by lia)
  · have : hiN hi l.length - loN lo l.length = 0 := by lia
    rw [this]; simp
theorem S_slice (l : List Nat) (lo hi : Option Int) : Txt.slice (S l) lo hi = S (cut l lo hi) := by
  unfold Txt.slice
  have e : (Builtin.Str.strSliceIndices lo hi 1 (S l).length).filterMap (fun x => (S l).cps[x]?) = cut l lo hi := by
    rw [S_len, ← pick_cut]; simp [S]
  split
  · rename_i h
    simp only [Bool.and_eq_true, beq_iff_eq, S_len] at h
    have h2 := h.2
    rw [ssi, List.length_map, List.length_range] at h2
    have h3 := hiN_le hi l.length
    rw [cut_eq]
    by_cases hz : l.length = 0
    · have : l = [] := List.length_eq_zero_iff.mp hz
      subst this; simp
    · have h4 : loN lo l.length = 0 := by lia
      have h5 : hiN hi l.length = l.length := by lia
      rw [h4, h5]; simp
  · rw [e]; rfl
theorem pick_list (vs : List Value) (lo hi : Option Int) : slicePick vs.toArray lo hi none = (cut vs lo hi).toArray := by
  rw [slicePick_plain]
  have e : ∀ (n : Nat) (i : Int), clipAt n i = clip i n := fun n i => by
    have h := clipAt_cast n i
    have h2 := clip_int i n
    lia
  cases lo <;> cases hi <;> simp [cut_eq, loN, hiN, e]
theorem dats_cut (ps : List P) (lo hi : Option Int) : dats (cut ps lo hi) = cut (dats ps) lo hi := by
  rw [cut_eq, cut_eq, dats_len, dats_eq, dats_eq, List.map_take, List.map_drop]
theorem datAll_drop {imm : List (Addr × Obj)} : ∀ {vs : List Value} {ds : List Dat} (n : Nat), DatAll imm vs ds → DatAll imm (vs.drop n) (ds.drop n)
  | _, _, 0, h => h
  | _, _, _ + 1, .nil => .nil
  | _, _, n + 1, .cons _ h => datAll_drop n h
theorem datAll_take {imm : List (Addr × Obj)} : ∀ {vs : List Value} {ds : List Dat} (n : Nat), DatAll imm vs ds → DatAll imm (vs.take n) (ds.take n)
  | _, _, 0, _ => .nil
  | _, _, _ + 1, .nil => .nil
  | _, _, n + 1, .cons a h => .cons a (datAll_take n h)
theorem datAll_cut {imm : List (Addr × Obj)} {vs : List Value} {ds : List Dat} (h : DatAll imm vs ds) (lo hi : Option Int) : DatAll imm (cut vs lo hi) (cut ds lo hi) := by
  rw [cut_eq, cut_eq, h.length]
  exact datAll_take _ (datAll_drop _ h)

/-- the tables that stand in the written part -/
structure Tabs (X : Wd) (tabs : Nat → List P) : Prop where
  at_ : ∀ g a, X.T g = some a → ∃ vs n, X.K.lookup a = some (listOf vs.toArray n) ∧ DatAll [] vs (dats (tabs g))

section
variable {X : Wd} {tabs : Nat → List P} {h₀ : Heap} {L : Addr} {m : Str → Option Value} {mu ext imm : List (Addr × Obj)} {H : List O} {s : Shared} {A : Around} {E : Value → Shared → Prop}
theorem St.kin (t : St X h₀ L m mu ext imm H s) (I : X.In h₀) : X.K.In s.heap := I.k.keeps t.fr.keep
theorem nIdx_lt {i : Int} {n : Nat} (h : inIdx i n = true) : nIdx i n < n ∧ -1000000000 ≤ i ∧ i ≤ 1000000000 := by
  unfold inIdx at h
  obtain ⟨h1, h2⟩ := Bool.and_eq_true_iff.mp h
  have h1 := of_oki h1
  unfold nIdx
  rcases Bool.or_eq_true_iff.mp h2 with h2 | h2 <;> have h2 := of_decide_eq_true h2
  · rw [if_neg (by lia)]; omega
  · rw [if_pos h2.1]; omega
theorem nIdx_seq {i : Int} {n : Nat} (h : inIdx i n = true) : seqIndex? i n = some (nIdx i n) := by
  have h1 := nIdx_lt h
  unfold inIdx at h
  obtain ⟨_, h2⟩ := Bool.and_eq_true_iff.mp h
  unfold seqIndex? nIdx
  rcases Bool.or_eq_true_iff.mp h2 with h2 | h2 <;> have h2 := of_decide_eq_true h2
  · simp only [if_neg (show ¬ i < 0 by lia)]
    simp
    omega
  · simp only [if_pos h2.1]
    simp
    lia
theorem sub_plain {slice : PySem.Expr} (h : isSliceE slice = false) (o i : Value) : subscripted slice false o i = operate [o, i] (getItem o i) := by
  cases slice <;> first | rfl | exact no h | exact nob h | cases h
theorem item_seq {l : Addr} {vs : List Value} {k : Int} {u : Tok} {x : Value} {Q : Value → Shared → Prop} (hl : s.heap.IsList l vs.toArray) (hi : inIdx k vs.length = true) (hx : vs[nIdx k vs.length]? = some x) (h : Q x s) :
    wpAny (model X.prog X.w) A (getItem (.ref l) (.int k u)) Q E s := by
  have h1 := nIdx_lt hi
  unfold inIdx at hi
  obtain ⟨_, h2⟩ := Bool.and_eq_true_iff.mp hi
  unfold nIdx at hx
  rcases Bool.or_eq_true_iff.mp h2 with h2 | h2 <;> have h2 := of_decide_eq_true h2
  · rw [if_neg (by lia)] at hx
    exact wpAny_getItem_list hl h2.1 (by omega) (by simpa using hx) h
  · rw [if_pos h2.1] at hx
    exact wpAny_getItem_list_neg hl h2.1 (by rw [List.size_toArray]; exact h2.2) (by lia) (by rw [List.size_toArray]; simpa using hx) h
theorem datAll_get {ps : List P} {vs : List Value} (d : DatAll imm vs (dats ps)) {k : Nat} {p : P} (h : ps[k]? = some p) : ∃ v, vs[k]? = some v ∧ DatIn imm v p.dat := by
  obtain ⟨hk, e⟩ := List.getElem?_eq_some_iff.mp h
  obtain ⟨v, hv, hd⟩ := d.get (k := k) (by rw [dats_len]; exact hk)
  refine ⟨v, hv, ?_⟩
  have : (dats ps)[k]'(by rw [dats_len]; exact hk) = p.dat := by
    simp only [dats_eq, List.getElem_map, e]
  rw [← this]; exact hd

theorem op_idxL {value slice : PySem.Expr} (hs : isSliceE slice = false) {i : Int} {u : Tok} {ps : List P} {a : Addr} {vs : List Value} {p : P} (hv : (if inIdx i ps.length then ps[nIdx i ps.length]? else none) = some p)
    (hl : s.heap.IsList a vs.toArray) (hd : DatAll imm vs (dats ps)) {Q : Value → Shared → Prop} (hQ : ∀ z, DatIn imm z p.dat → Q z s) : wpAny (model X.prog X.w) A (subscriptTail value slice (.ref a) (.int i u)) Q E s := by
  refine iteE hv fun hk hp => ?_
  obtain ⟨z, hz, rz⟩ := datAll_get hd hp
  have hle := hd.length
  rw [dats_len] at hle
  exact tail_any hl.typeIs slot_list_getitem.lookup (item_seq hl (by rw [hle]; exact hk) (by rw [hle]; exact hz) (hQ z rz)) (sub_plain hs _ _)
theorem op_idxP {value slice : PySem.Expr} (hs : isSliceE slice = false) {i : Int} {u : Tok} {q p : P} (hv : idxP q i = some p) (t : St X h₀ L m mu ext imm H s) {x : Value} (ra : DatIn imm x q.dat)
    {Q : Value → Shared → Prop} (hQ : ∀ z k, DatIn imm z p.dat → Q z { s with toks := k }) : wpAny (model X.prog X.w) A (subscriptTail value slice x (.int i u)) Q E s := by
  cases q with
  | tup ps =>
    refine iteE hv fun hk hp => ?_
    cases ra with
    | tuple hm hd =>
      obtain ⟨z, hz, rz⟩ := datAll_get hd hp
      have hl := hd.length
      rw [dats_len] at hl
      have hb := nIdx_lt hk
      exact item_tupleT ⟨_, (t.nw _ (St.sub_imm _ hm)).1, rfl, _, rfl⟩ (by lia) (by omega) (by rw [hl]; exact nIdx_seq hk) hz (hQ z s.toks rz) (sub_plain hs _ _)
  | str l =>
    refine iteE hv fun hk hp => mapE hp fun c hc e => ?_
    cases e
    apply datStr ra
    intro t1
    have hb := nIdx_lt hk
    have e : Txt.charAt (S l) i = some c := by
      show ((seqIndex? i (S l).length).bind ((S l).cps[·]?)) = _
      rw [S_len, nIdx_seq hk]
      simpa [S] using hc
    refine tail_any (T := "str") (typeIs_str _ _ _) slot_str_getitem.lookup (SB.getItem ?_ (by rw [e]; rfl) ?_) (sub_plain hs _ _)
    · unfold fitsSsize
      rw [Bool.not_eq_true', Bool.or_eq_false_iff]
      exact ⟨decide_eq_false (by lia), decide_eq_false (by lia)⟩
    · refine hQ _ _ ?_
      have : Txt.item (S l) i = S [c] := by unfold Txt.item; rw [e]; rfl
      rw [this]; exact .str _ _
  | _ => first | exact no hv | exact nob hv | cases hv
theorem op_idx (TT : Tabs X tabs) (I : X.In h₀) {value slice : PySem.Expr} (hs : isSliceE slice = false) {a i v : V} (hv : idxV tabs a i H = some v) (t : St X h₀ L m mu ext imm H s) {x y : Value}
    (ra : VRel X imm (mu.map Prod.fst) a x) (ri : VRel X imm (mu.map Prod.fst) i y) {Q : Value → Shared → Prop} (hQ : ∀ z k, VRel X imm (mu.map Prod.fst) v z → Q z { s with toks := k }) :
    wpAny (model X.prog X.w) A (subscriptTail value slice x y) Q E s := by
  refine bindE hv fun k e hv => ?_
  apply int_E e ri
  intro u
  refine mapE hv fun p hp e => ?_
  cases e
  clear hv
  cases a with
  | ref r =>
    refine bindE hp fun ps h1 hv => ?_
    apply t.refE h1 ra
    intro a1 vs n1 w
    exact op_idxL hs hv w.i w.d fun z rz => hQ z s.toks rz
  | p q => exact op_idxP hs hp t ra hQ
  | glob g =>
    obtain ⟨b, hb, rfl⟩ := ra
    obtain ⟨vs, n, hl, hd⟩ := TT.at_ g b hb
    exact op_idxL hs hp ⟨_, t.kin I _ _ hl, rfl, n, rfl⟩ (hd.mono (List.forall_mem_nil _)) fun z rz => hQ z s.toks rz
  | _ => first | exact no hp | exact nob hp | cases hp

theorem noTemp (value : PySem.Expr) (x : Str) (t : Tok) (r : Value) : letTemporaryGo value (.str x t) r = pure () := by cases value <;> rfl
/-- a slice's bound, told -/
noncomputable def BRel (b : Option V) (y : Value) : Prop := match b with
  | none => y = .none
  | some v => ∀ i, v.int = some i → ∃ t, y = .int i t
theorem bnds_cases {b : Option V} {o : Option Int} (h : bnds b = some o) {y : Value} (r : BRel b y) {C : Option Int → Value → Prop} (k1 : C none .none) (k2 : ∀ i t, C (some i) (.int i t)) : C o y := by
  cases b with
  | none => cases h; cases r; exact k1
  | some v =>
    refine bindE h fun i e h => iteE h fun _ h => ?_
    cases h
    obtain ⟨t, e⟩ := r i e
    cases e
    exact k2 i t
theorem op_slL {value : PySem.Expr} {lo hi : Option PySem.Expr} {p : Pos} {r : V × List O} {l h : Option Int} {x : List P} (hv : slA x l h H = some r) (t : St X h₀ L m mu ext imm H s) {yl yh : Value} (pl : IsPart yl l) (ph : IsPart yh h)
    {a : Addr} {vs : List Value} (hl : s.heap.IsList a vs.toArray) (hd : DatAll imm vs (dats x)) {Q : Value → Shared → Prop} (hQ : Post X h₀ L m mu ext imm r Q) :
    wpAny (model X.prog X.w) A (subscriptTail value (.Slice lo hi none p) (.ref a) (.ref s.heap.objs.size)) Q E
      { s with heap := s.heap.push { cls := .type "slice", data := .fields #[yl, yh, .none] } } := by
  refine iteE hv fun hk hv => ?_
  have hk := of_ok hk
  have l1 := hd.length
  rw [dats_len] at l1
  have t2 := t.keeps (h' := s.heap.push { cls := .type "slice", data := .fields #[yl, yh, .none] }) (fun b o e => Heap.get?_push_of_some _ e) s.toks
  have i2 := hl.push { cls := .type "slice", data := .fields #[yl, yh, .none] }
  refine tail_any (T := "list") i2.typeIs slot_list_getitem.lookup ?_ (ops := [.ref s.heap.objs.size, .ref a]) rfl
  refine wpAny_getItem_list_slice i2 (Heap.IsSliceOf.new _ _ _ _) pl ph .none (by simp) ?_ (by simp only [List.size_toArray, sizeLine_eq]; lia)
  rw [pick_list]
  exact t2.newL (t2.fr.push _) (t2.nw.push t2.fr (listOf (cut vs l h).toArray 0)) t2.lt (by rw [dats_cut]; exact datAll_cut hd _ _) _ (hQ.of hv)
theorem op_sl {value : PySem.Expr} {lo hi : Option PySem.Expr} {p : Pos} {a v : V} {bl bh : Option V} {H' : List O} (hv : slV a bl bh H = some (v, H')) (t : St X h₀ L m mu ext imm H s) {x yl yh : Value}
    (ra : VRel X imm (mu.map Prod.fst) a x) (rl : BRel bl yl) (rh : BRel bh yh) {Q : Value → Shared → Prop}
    (hQ : Post X h₀ L m mu ext imm (v, H') Q) :
    wpAny (model X.prog X.w) A (subscriptTail value (.Slice lo hi none p) x (.ref s.heap.objs.size)) Q E
      { s with heap := s.heap.push { cls := .type "slice", data := .fields #[yl, yh, .none] } } := by
  refine bindE hv fun l hl hv => bindE hv fun h hh hv => ?_
  have part : ∀ {b o y}, bnds b = some o → BRel b y → IsPart y o := fun h r => by apply bnds_cases h r; exact .none; exact fun _ _ => .int _ _
  cases a with
  | ref r =>
    refine bindE hv fun ps h1 hv => ?_
    apply t.refE h1 ra
    intro a1 vs n1 w
    exact op_slL hv t (part hl rl) (part hh rh) w.i w.d hQ
  | p q =>
    refine bindE hv fun xs e hv => iteE hv fun hk hv => ?_
    have hk := of_ok hk
    cases hv
    apply pstr_E e ra
    intro tk
    have hsz : (S xs).length ≤ sizeLine := by rw [S_len, sizeLine_eq]; exact Nat.le_trans ‹_› (by decide)
    have fin : ∀ (h' : Heap) (t' : Tok) (k : Nat), Fr h₀ L h' m → News h₀ L h' (mu ++ (ext ++ imm)) → Q (.str (Txt.slice (S xs) l h) t') { s with heap := h', toks := k } := fun h' t' k F N => by
      rw [S_slice]; exact hQ _ _ _ _ (t.heap F N k) .refl (.str _ _)
    revert fin
    apply bnds_cases hl rl
    · apply bnds_cases hh rh
      · exact fun fin => slice_strN_nn t.fr t.nw fin rfl (noTemp _ _ _) hsz
      · exact fun i ti fin => slice_strN_ns t.fr t.nw fin rfl (noTemp _ _ _) hsz
    · intro i ti
      apply bnds_cases hh rh
      · exact fun fin => slice_strN_sn t.fr t.nw fin rfl (noTemp _ _ _) hsz
      · exact fun j tj fin => slice_strN_ss t.fr t.nw fin rfl (noTemp _ _ _) hsz
  | fix ps =>
    obtain ⟨a1, vs, n1, rfl, hm1, d1⟩ := ra
    exact op_slL hv t (part hl rl) (part hh rh) ⟨_, (t.nw _ (St.sub_imm _ hm1)).1, rfl, n1, rfl⟩ d1 hQ
  | _ => first | exact no hv | exact nob hv | cases hv
end
end Mine
end
section
open PySem PySem.W PyProof.Rows PyProof.V
set_option Elab.async false
set_option maxRecDepth 20000
namespace Mine
/-! the kit's texts, as lists of signs -/
theorem S_glued (s : List Nat) : ∀ l : List (List Nat), Txt.join (S s) (l.map S) = S (joinL s l) := by
  have key : ∀ (l : List (List Nat)) (z : Array Nat), (l.map S).foldl (fun acc p => acc ++ (S s).cps ++ p.cps) z = (z.toList ++ (l.flatMap fun x => s ++ x)).toArray := by
    intro l
    induction l with
    | nil => intro z; simp
    | cons a r ih => intro z; rw [List.map_cons, List.foldl_cons, ih]; simp [S]
  have key2 : ∀ (l : List (List Nat)) (a : List Nat), joinL s (a :: l) = a ++ l.flatMap fun x => s ++ x := by
    intro l
    induction l with
    | nil => intro a; simp [joinL]
    | cons b r ih => intro a; rw [joinL, ih]; simp; simp
  intro l
  cases l with
  | nil => rfl
  | cons a r =>
    show Builtin.Str.glued _ _ = _
    unfold Builtin.Str.glued
    rw [List.map_cons, List.drop_one, List.tail_cons, List.headD_cons, key, key2]
    simp [S]
open Builtin.Str PySem.StrLaws in
/-- the places where y stands -/
noncomputable def occL (y : List Nat) : Nat → Nat → List Nat → List Nat
  | _, _, [] => []
  | k + 1, i, _ :: r => occL y k (i + 1) r
  | 0, i, a :: r => if y.isPrefixOf (a :: r) then i :: occL y (y.length - 1) (i + 1) r else occL y 0 (i + 1) r
theorem occ_run (l y : List Nat) (hy : y ≠ []) : ∀ (m i : Nat) (st : Array Nat × Nat), i + m = l.length + 1 → st.1.size ≤ i →
    (forIn (m := Id) (List.range' i m) st (StrLaws.occBody (S l) (S y) l.length (l.length + 1))).run.fst.toList = st.1.toList ++ occL y (st.2 - i) i (l.drop i) := by
  intro m
  induction m with
  | zero =>
    intro i st h hs
    rw [List.drop_eq_nil_of_le (by lia)]
    cases h : st.2 - i <;> simp [occL]
  | succ m om =>
    intro i st h hs
    have yl : 0 < y.length := List.length_pos_iff.mpr hy
    rw [List.range'_succ, List.forIn_cons]
    unfold StrLaws.occBody
    by_cases hi : i = l.length
    · rw [if_neg (by rw [S_len]; lia)]
      have ih := om (i + 1) st (by lia) (by exact Nat.le_succ_of_le ‹_›)
      unfold StrLaws.occBody at ih
      refine ih.trans ?_
      rw [List.drop_eq_nil_of_le (by lia), List.drop_eq_nil_of_le (by lia)]
      cases h : st.2 - i <;> cases h : st.2 - (i + 1) <;> simp [occL]
    · have hlt : i < l.length := by lia
      have hd : l.drop i = l[i] :: l.drop (i + 1) := List.drop_eq_getElem_cons hlt
      have hcond : Builtin.Str.subAt (S l) (S y) i = true ↔ y.isPrefixOf (l.drop i) = true := by
        rw [StrLaws.subAt_eq, List.isPrefixOf_iff_prefix, List.prefix_iff_eq_take, S_len, beq_iff_eq]
        simp only [S_cps]
        exact eq_comm
      have hlen : y.isPrefixOf (l.drop i) = true → i + y.length ≤ l.length := fun hp => by
        have := (List.isPrefixOf_iff_prefix.mp hp).length_le
        rw [List.length_drop] at this; lia
      cases hk : st.2 - i with
      | succ k =>
        rw [if_neg (by omega)]
        have ih := om (i + 1) st (by lia) (by exact Nat.le_succ_of_le ‹_›)
        unfold StrLaws.occBody at ih
        refine ih.trans ?_
        rw [hd, show st.2 - (i + 1) = k by omega]
        simp [occL]
      | zero =>
        by_cases hp : y.isPrefixOf (l.drop i) = true
        · have h1 := hcond.mpr hp
          have h2 := hlen hp
          rw [if_pos (by rw [S_len]; exact ⟨⟨⟨by lia, by lia⟩, h2⟩, h1⟩)]
          have ih := om (i + 1) (st.1.push i, i + (S y).length) (by lia) (by simp; omega)
          unfold StrLaws.occBody at ih
          refine ih.trans ?_
          rw [hd] at hp ⊢
          simp only [occL, hp, if_true, S_len, Array.toList_push, List.append_assoc, List.singleton_append]
          congr 3
          lia
        · have h1 : ¬ Builtin.Str.subAt (S l) (S y) i = true := fun h => hp (hcond.mp h)
          rw [if_neg (fun h => h1 h.2)]
          have ih := om (i + 1) st (by lia) (by exact Nat.le_succ_of_le ‹_›)
          unfold StrLaws.occBody at ih
          refine ih.trans ?_
          rw [hd] at hp ⊢
          have hp : y.isPrefixOf (l[i] :: l.drop (i + 1)) = false := Bool.eq_false_iff.mpr hp
          simp only [occL, hp, show st.2 - (i + 1) = 0 by omega]
          rfl
theorem splitG_ne (y : List Nat) : ∀ (r : List Nat) (k : Nat), ∃ h q, splitG y k r = h :: q
  | [], k => ⟨[], [], by cases k <;> rfl⟩
  | a :: r, k + 1 => splitG_ne y r k
  | a :: r, 0 => by
    unfold splitG
    split
    · exact ⟨_, _, rfl⟩
    · split <;> exact ⟨_, _, rfl⟩
theorem S_sub (l : List Nat) (i j : Nat) : Builtin.Str.strSub (S l) i j = S ((l.drop i).take (j - i)) := by
  apply Str.ext'
  apply Array.toList_inj.mp
  rw [StrLaws.strSub_toList]
  simp
theorem parts_run (l y : List Nat) (hy : y ≠ []) : ∀ (r : List Nat) (i k p : Nat), l.drop i = r → (k = 0 → p ≤ i) → (0 < k → p = i + k) →
    ∃ h q, splitG y k r = h :: q ∧ StrLaws.partsFrom (S l) y.length p (occL y k i r) = S ((l.drop p).take (i - p) ++ h) :: q.map S := by
  intro r
  induction r with
  | nil =>
    intro i k p hd h0 h1
    have hl : l.length ≤ i := List.drop_eq_nil_iff.mp hd
    refine ⟨[], [], by cases k <;> rfl, ?_⟩
    have e : occL y k i [] = [] := by cases k <;> rfl
    rw [e]
    show [Builtin.Str.strSub (S l) p (S l).length] = _
    rw [S_sub, S_len, List.append_nil, List.map_nil]
    congr 2
    by_cases hp : p ≤ i
    · rw [List.take_of_length_le (by simp), List.take_of_length_le (by simp; lia)]
    · rw [List.drop_eq_nil_of_le (by lia)]; simp
  | cons a r ih =>
    intro i k p hd h0 h1
    cases k with
    | succ k =>
      have h1 := h1 (by exact Nat.succ_pos _)
      have hd' : l.drop (i + 1) = r := by rw [← List.drop_drop, hd]; rfl
      obtain ⟨h, q, e1, e2⟩ := ih (i + 1) k p hd' (by lia) (by lia)
      refine ⟨h, q, e1, ?_⟩
      show StrLaws.partsFrom (S l) y.length p (occL y k (i + 1) r) = _
      rw [e2, show i + 1 - p = 0 by omega, show i - p = 0 by omega]
    | zero =>
      have h0 := h0 rfl
      have yl : 0 < y.length := List.length_pos_iff.mpr hy
      have hd' : l.drop (i + 1) = r := by rw [← List.drop_drop, hd]; rfl
      by_cases hp : y.isPrefixOf (a :: r) = true
      · obtain ⟨h, q, e1, e2⟩ := ih (i + 1) (y.length - 1) (i + y.length) hd' (by lia) (by lia)
        refine ⟨[], h :: q, by simp only [splitG, hp, if_true, e1], ?_⟩
        simp only [occL, hp, if_true]
        show Builtin.Str.strSub (S l) p i :: StrLaws.partsFrom (S l) y.length (i + y.length) _ = _
        rw [e2, S_sub, show i + 1 - (i + y.length) = 0 by omega]
        simp
      · have hp : y.isPrefixOf (a :: r) = false := Bool.eq_false_iff.mpr hp
        obtain ⟨h, q, e1, e2⟩ := ih (i + 1) 0 p hd' (by lia) (by lia)
        refine ⟨a :: h, q, by simp only [splitG, hp, e1]; rfl, ?_⟩
        have e3 : occL y 0 i (a :: r) = occL y 0 (i + 1) r := by simp only [occL, hp]; rfl
        rw [e3, e2]
        congr 2
        have e4 : (l.drop p).take (i + 1 - p) = (l.drop p).take (i - p) ++ [a] := by
          rw [show i + 1 - p = i - p + 1 by lia, List.take_add_one, List.getElem?_drop, show p + (i - p) = i by lia]
          have : l[i]? = some a := by
            have := congrArg (·[0]?) hd
            simpa using this
          rw [this]; rfl
        rw [e4, List.append_assoc]; rfl
theorem parts_split (y l : List Nat) (hy : y ≠ []) : Builtin.Str.partsBetween (S l) (Builtin.Str.occurrences (S l) (S y) 0 (S l).length ((S l).length + 1)) (S y).length = (splitG y 0 l).map S := by
  rw [StrLaws.partsBetween_eq, StrLaws.occ_eq, S_len, S_len]
  have h1 := occ_run l y hy (l.length + 1) 0 (#[], 0) (by lia) (Nat.le_refl _)
  rw [show l.length + 1 - 0 = l.length + 1 from rfl, h1]
  obtain ⟨h, q, e1, e2⟩ := parts_run l y hy l 0 0 0 rfl (fun _ => Nat.le_refl _) (fun h => absurd h (Nat.lt_irrefl _))
  simp only [List.nil_append, Nat.sub_zero, List.drop_zero] at e2 ⊢
  rw [e2, e1]
  simp
theorem S_split (y l : List Nat) (hy : y ≠ []) : Txt.split (S l) (S y) = (splitG y 0 l).map S := by
  have hy' : ((S y).length == 0) = false := by rw [S_len]; simpa using hy
  have h1 := m_split (S l) (S y) hy'
  have h2 : GW2.means .split (.str (S l)) (.str (S y)) = some (.list ((Builtin.Str.partsBetween (S l) (Builtin.Str.occurrences (S l) (S y) 0 (S l).length ((S l).length + 1)) (S y).length).map .str)) := by
    show (if ((S y).length == 0) = true then Option.none else some (WData.list (_))) = _
    rw [if_neg (by rw [hy']; nofun)]
    rfl
  rw [h2, parts_split y l hy] at h1
  injection h1 with h1
  injection h1 with h1
  have inj : ∀ a b : List Str, a.map WData.str = b.map WData.str → a = b := by
    intro a
    induction a with
    | nil => intro b h; cases b <;> simp_all
    | cons x a ih => intro b h; cases b with
      | nil => simp at h
      | cons z b => simp only [List.map_cons, List.cons.injEq, WData.str.injEq] at h; rw [h.1, ih b h.2]
  exact (inj _ _ h1).symm
theorem S_replace (y z l : List Nat) (hy : y ≠ []) : Txt.replace (S l) (S y) (S z) = S (joinL z (splitG y 0 l)) := by
  have h1 := m_replace (S l) (S y) (S z)
  have h2 : GW3.means .replace (.str (S l)) (.str (S y)) (.str (S z)) = some (WData.str (Builtin.Str.glued (S z) (Builtin.Str.partsBetween (S l) (Builtin.Str.occurrences (S l) (S y) 0 (S l).length ((S l).length + 1)) (S y).length))) := rfl
  rw [h2, parts_split y l hy] at h1
  injection h1 with h1
  injection h1 with h1
  rw [← h1]
  exact S_glued z _
theorem S_endswith (l y : List Nat) : Txt.endswith (S l) (S y) = sfx l y := by
  unfold Txt.endswith sfx
  rw [StrLaws.subAt_eq, S_len, S_len, Bool.eq_iff_iff, List.isSuffixOf_iff_suffix, List.suffix_iff_eq_drop]
  simp only [Nat.zero_add, Bool.and_eq_true, decide_eq_true_eq, beq_iff_eq, S_cps]
  constructor
  · rintro ⟨h1, h2⟩
    have h3 : (l.drop (l.length - y.length)).take y.length = l.drop (l.length - y.length) := List.take_of_length_le (by simp; lia)
    rw [h3] at h2
    exact h2.symm
  · intro h
    have hl : y.length ≤ l.length := by
      rw [h]; simp
    refine ⟨hl, ?_⟩
    rw [← h, List.take_of_length_le (Nat.le_refl _)]
theorem isSpace_asc : ∀ c, c < 128 → Unicode.isSpace c = isSp c := by decide +kernel
theorem isNl_asc : ∀ c, c < 128 → Unicode.isLineBreak c = isNl c := by decide +kernel
theorem dropWhile_congr' {p q : Nat → Bool} : ∀ {l : List Nat}, (∀ c ∈ l, p c = q c) → l.takeWhile p = l.takeWhile q ∧ l.dropWhile p = l.dropWhile q
  | [], _ => ⟨rfl, rfl⟩
  | a :: r, h => by
    have ha := h a (.head _)
    have ih := dropWhile_congr' (l := r) fun c hc => h c (.tail _ hc)
    simp only [List.takeWhile_cons, List.dropWhile_cons, ha]
    split <;> simp [ih]
theorem S_rstrip (l : List Nat) (h : asc l = true) : Txt.rstrip (S l) = S (rstr l) := by
  unfold Txt.rstrip
  rw [W.stripBy_eq]
  show Builtin.Str.strSub (S l) 0 ((S l).length - (((S l).cps.toList.drop 0).reverse.takeWhile Unicode.isSpace).length) = _
  rw [S_sub, S_len, List.drop_zero, List.drop_zero, Nat.sub_zero, S_cps]
  have ha : ∀ c ∈ l.reverse, Unicode.isSpace c = isSp c := fun c hc => isSpace_asc c (by
    have := List.all_eq_true.mp h c (List.mem_reverse.mp hc)
    simpa using this)
  rw [show l.toArray.toList = l from rfl, (dropWhile_congr' ha).1]
  unfold rstr
  congr 1
  have e := List.takeWhile_append_dropWhile (p := isSp) (l := l.reverse)
  have e2 := congrArg List.reverse e
  rw [List.reverse_append, List.reverse_reverse] at e2
  generalize hA : (l.reverse.takeWhile isSp) = A at *
  generalize hB : (l.reverse.dropWhile isSp) = B at *
  subst e2
  simp
/-- the lines -/
noncomputable def app (pre : List Nat) (L : List (List Nat)) : List (List Nat) := if pre = [] then L else match L with
  | [] => [pre]
  | h :: q => (pre ++ h) :: q
theorem lns_brk {a : Nat} {r : List Nat} (h : isNl a = true) (hn : (a == 13 && r[0]? == some 10) = false) : lns (a :: r) = [] :: lns r := by
  cases r with
  | nil => simp [lns, h]
  | cons b r => 
    rw [lns]
    · rw [if_pos h]
    · intro r' e1 e2
      simp at e2
      simp [e1, e2.1] at hn
    · nofun
theorem lns_sign {a : Nat} {r : List Nat} (h : isNl a = false) : lns (a :: r) = app [a] (lns r) := by
  cases r with
  | nil => simp [lns, h, app]
  | cons b r => 
    rw [lns]
    · rw [if_neg (by simp [h])]
      cases lns (b :: r) <;> simp [app]
    · intro r' e1 e2
      subst e1
      simp [isNl] at h
    · nofun
theorem app_app (pre : List Nat) (a : Nat) (L : List (List Nat)) : app pre (app [a] L) = app (pre ++ [a]) L := by
  unfold app
  by_cases h : pre = [] <;> cases L <;> simp [h]
theorem lines_run (l : List Nat) (hl : asc l = true) : ∀ (r : List Nat) (i : Nat) (st : StrLaws.LsSt), i ≤ l.length → l.drop i = r → st.2 ≤ i + 1 →
    (StrLaws.lsEnd (S l) (Id.run (forIn (m := Id) (List.range' i r.length) st (StrLaws.lsBody (S l))))).map (fun p => Builtin.Str.strSub (S l) p.1 p.2.1) =
      st.1.toList.map (fun p => Builtin.Str.strSub (S l) p.1 p.2.1) ++ (if st.2 = i + 1 then lns (r.drop 1) else app ((l.drop st.2).take (i - st.2)) (lns r)).map S := by
  intro r
  induction r with
  | nil =>
    intro i st hi hd hp
    obtain ⟨acc, p⟩ := st
    have hn : i = l.length := by have := List.drop_eq_nil_iff.mp hd; lia
    show (StrLaws.lsEnd (S l) (acc, p)).map _ = _
    unfold StrLaws.lsEnd
    simp only [S_len]
    by_cases h1 : p = i + 1
    · rw [if_neg (by lia), if_pos h1]; simp [lns]
    · rw [if_neg h1]
      simp only at hp
      by_cases h2 : p < l.length
      · rw [if_pos h2]
        have : (l.drop p).take (i - p) ≠ [] := by
          intro h
          have := congrArg List.length h
          simp at this
          lia
        unfold app
        rw [if_neg this]
        simp only [lns, Array.toList_push, List.map_append, List.map_cons, List.map_nil, S_sub]
        rw [hn]
      · rw [if_neg h2]
        have : (l.drop p).take (i - p) = [] := by rw [List.drop_eq_nil_of_le (by exact Nat.le_of_not_lt ‹_›)]; simp
        unfold app
        rw [if_pos this]
        simp [lns]
  | cons a r lr =>
    intro i st hi hd hp
    obtain ⟨acc, p⟩ := st
    have hlt : i < l.length := by
      have := congrArg List.length hd
      simp at this
      omega
    have hd' : l.drop (i + 1) = r := by rw [← List.drop_drop, hd]; rfl
    have ha : l[i]? = some a := by
      have := congrArg (·[0]?) hd
      simpa using this
    have hga : (S l).cps.getD i 0 = a := by
      simp only [S_cps, Array.getD_eq_getD_getElem?, List.getElem?_toArray, ha, Option.getD_some]
    have haa : Unicode.isLineBreak a = isNl a := isNl_asc a (by
      have := List.all_eq_true.mp hl a (List.mem_of_getElem? ha)
      simpa using this)
    rw [List.length_cons, List.range'_succ, List.forIn_cons]
    unfold StrLaws.lsBody
    rw [hga, haa]
    simp only at hp
    by_cases h1 : p = i + 1
    · have ih := lr (i + 1) (acc, p) (by assumption) hd' (by simp only; exact Nat.le_succ_of_le ‹_›)
      have hc : (decide ((acc, p).2 ≤ i) && isNl a) = false := by simp; lia
      rw [hc]
      unfold StrLaws.lsBody at ih
      refine ih.trans ?_
      rw [if_neg (by simp only; lia), if_pos h1]
      simp only [show i + 1 - p = 0 by lia, List.take_zero, List.drop_succ_cons, List.drop_zero]
      rfl
    · by_cases h2 : isNl a = true
      · have hc : (decide ((acc, p).2 ≤ i) && isNl a) = true := by simp [h2]; lia
        rw [hc]
        have hnx : StrLaws.lsNext (S l) i = if (a == 13 && r[0]? == some 10) = true then i + 2 else i + 1 := by
          unfold StrLaws.lsNext
          rw [hga]
          have e : (S l).cps[i + 1]? = r[0]? := by
            rw [S_cps, List.getElem?_toArray, ← hd', List.getElem?_drop]
          rw [e]
        have ih := lr (i + 1) (acc.push (p, i, StrLaws.lsNext (S l) i), StrLaws.lsNext (S l) i) (by assumption) hd' (by rw [hnx]; split <;> (first | exact Nat.le_add_right _ _ | exact Nat.le_refl _))
        unfold StrLaws.lsBody at ih
        refine ih.trans ?_
        rw [if_neg h1]
        simp only [Array.toList_push, List.map_append, List.map_cons, List.map_nil, List.append_assoc, S_sub]
        congr 1
        by_cases hcr : (a == 13 && r[0]? == some 10) = true
        · rw [if_pos hcr] at hnx
          rw [hnx, if_pos rfl]
          obtain ⟨e13, e10⟩ := Bool.and_eq_true_iff.mp hcr
          cases eq_of_beq e13
          obtain ⟨r', rfl⟩ : ∃ r', r = 10 :: r' := by
            cases r with
            | nil => first | exact no e10 | exact nob e10 | cases e10
            | cons b r' => cases Option.some.inj (eq_of_beq e10); exact ⟨r', rfl⟩
          unfold app
          by_cases hq : (l.drop p).take (i - p) = []
          · simp [hq, lns]
          · simp [hq, lns]
        · rw [if_neg hcr] at hnx
          rw [hnx, if_neg (by lia)]
          have e1 : lns (a :: r) = [] :: lns r := lns_brk h2 (Bool.eq_false_iff.mpr hcr)
          rw [e1]
          unfold app
          by_cases hq : (l.drop p).take (i - p) = []
          · simp [hq]
          · simp [hq]
      · have h2 : isNl a = false := Bool.eq_false_iff.mpr h2
        have hc : (decide ((acc, p).2 ≤ i) && isNl a) = false := by simp [h2]
        rw [hc]
        have ih := lr (i + 1) (acc, p) (by assumption) hd' (by simp only; exact Nat.le_succ_of_le ‹_›)
        unfold StrLaws.lsBody at ih
        refine ih.trans ?_
        rw [if_neg h1, if_neg (by simp only; lia), lns_sign h2, app_app]
        simp only
        have e4 : (l.drop p).take (i + 1 - p) = (l.drop p).take (i - p) ++ [a] := by
          rw [show i + 1 - p = i - p + 1 by lia, List.take_add_one, List.getElem?_drop, show p + (i - p) = i by lia, ha]; rfl
        rw [e4]
theorem S_lines (l : List Nat) (h : asc l = true) : Txt.lines (S l) = (lns l).map S := by
  have h1 : Txt.lines (S l) = linesOf (S l) := by
    unfold Txt.lines
    split
    · rename_i h
      unfold linesOf
      rw [beq_iff_eq.mp h]
      show [S l] = [Builtin.Str.strSub (S l) 0 (S l).length]
      rw [StrLaws.sub_whole]
    · rfl
  rw [h1]
  have h2 : linesOf (S l) = (Builtin.Str.lineSpans (S l)).map (fun p => Builtin.Str.strSub (S l) p.1 p.2.1) := by
    unfold linesOf lineCuts
    rw [List.map_map]
    apply List.map_congr_left
    intro ⟨i, j, k⟩ _
    rfl
  rw [h2, StrLaws.ls_eq, S_len]
  have := lines_run l h l 0 (#[], 0) (Nat.zero_le _) rfl (by simp)
  rw [this]
  simp [app]
/-! the order of texts -/
theorem leS_lt : ∀ (a b : List Nat), leS a b = !PySem.Spec.ltCps b a
  | [], [] => rfl
  | [], _ :: _ => rfl
  | _ :: _, [] => rfl
  | a :: r, b :: q => by
    simp only [leS, PySem.Spec.ltCps, leS_lt r q]
    by_cases h1 : a < b
    · simp [h1, Nat.lt_asymm h1]; lia
    · by_cases h2 : b < a
      · simp [h1, h2]; lia
      · obtain rfl : a = b := by lia
        simp
theorem leS_trans : ∀ (a b c : List Nat), leS a b = true → leS b c = true → leS a c = true
  | [], _, _, _, _ => by simp [leS]
  | a :: r, [], _, h, _ => by simp [leS] at h
  | a :: r, b :: q, [], _, h => by simp [leS] at h
  | a :: r, b :: q, c :: t, h1, h2 => by
    simp only [leS, Bool.or_eq_true, decide_eq_true_eq, Bool.and_eq_true, beq_iff_eq] at h1 h2 ⊢
    rcases h1 with h1 | ⟨rfl, h1⟩
    · rcases h2 with h2 | ⟨rfl, h2⟩
      · left; exact Nat.lt_trans ‹_› ‹_›
      · left; exact h1
    · rcases h2 with h2 | ⟨rfl, h2⟩
      · left; exact h2
      · right; exact ⟨rfl, leS_trans r q t h1 h2⟩
theorem leS_total : ∀ (a b : List Nat), (leS a b || leS b a) = true
  | [], _ => by simp [leS]
  | a :: r, [] => by simp [leS]
  | a :: r, b :: q => by
    have ih := leS_total r q
    simp only [Bool.or_eq_true] at ih
    simp only [leS, Bool.or_eq_true, decide_eq_true_eq, Bool.and_eq_true, beq_iff_eq]
    rcases Nat.lt_trichotomy a b with h | rfl | h
    · left; left; exact h
    · rcases ih with ih | ih
      · left; right; exact ⟨rfl, ih⟩
      · right; right; exact ⟨rfl, ih⟩
    · right; left; exact h
theorem leS_anti : ∀ (a b : List Nat), leS a b = true → leS b a = true → a = b
  | [], [], _, _ => rfl
  | [], _ :: _, _, h => by simp [leS] at h
  | _ :: _, [], h, _ => by simp [leS] at h
  | a :: r, b :: q, h1, h2 => by
    simp only [leS, Bool.or_eq_true, decide_eq_true_eq, Bool.and_eq_true, beq_iff_eq] at h1 h2
    rcases h1 with h1 | ⟨rfl, h1⟩
    · rcases h2 with h2 | ⟨rfl, h2⟩
      · lia
      · lia
    · rcases h2 with h2 | ⟨_, h2⟩
      · lia
      · rw [leS_anti r q h1 h2]
theorem rising_le : ∀ (l : List Str) (p : Str), risingS p l = true → ∀ x ∈ l, leS p.cps.toList x.cps.toList = true
  | [], _, _, _, h => by cases h
  | a :: r, p, h, x, hx => by
    simp only [risingS, Bool.and_eq_true] at h
    have h1 : leS p.cps.toList a.cps.toList = true := by rw [leS_lt]; exact h.1
    rcases List.mem_cons.mp hx with rfl | hx
    · exact h1
    · exact leS_trans _ _ _ h1 (rising_le r a h.2 x hx)
theorem rising_pw : ∀ (l : List Str) (p : Str), risingS p l = true → (p :: l).Pairwise fun a b => leS a.cps.toList b.cps.toList = true
  | [], p, _ => List.pairwise_singleton _ _
  | a :: r, p, h => by
    have h0 := rising_le _ _ h
    simp only [risingS, Bool.and_eq_true] at h
    exact List.pairwise_cons.mpr ⟨h0, rising_pw r a h.2⟩
theorem S_sorted (l : List (List Nat)) (ss : List Str) (hp : ss.Perm (l.map S)) (hs : sortedS ss = true) : ss = (srt l).map S := by
  have hpw : ss.Pairwise fun a b => leS a.cps.toList b.cps.toList = true := by
    cases ss with
    | nil => exact .nil
    | cons p r => exact rising_pw r p hs
  have h1 : (ss.map fun x => x.cps.toList) = srt l := by
    refine List.Perm.eq_of_pairwise (le := fun a b => leS a b = true) (fun a b _ _ h1 h2 => leS_anti a b h1 h2) ?_ ?_ ?_
    · exact List.pairwise_map.mpr hpw
    · exact List.pairwise_mergeSort leS_trans leS_total l
    · have h2 := hp.map (fun x => x.cps.toList)
      rw [List.map_map] at h2
      have e : ((fun x : Str => x.cps.toList) ∘ S) = id := rfl
      rw [e, List.map_id] at h2
      exact h2.trans (List.mergeSort_perm l leS).symm
  rw [← h1, List.map_map]
  have e : (S ∘ fun x : Str => x.cps.toList) = id := by funext x; exact S_of x
  rw [e, List.map_id]
end Mine
end
section
open PySem PySem.W PyProof.Rows PyProof.V PySem.Calls
set_option Elab.async false
set_option maxRecDepth 20000
namespace Mine
noncomputable def numIs (n : int_private% "Numeral") (i : Int) : Bool := (int_private% "Numeral.casesOn") (motive := fun _ => Bool) n false (fun _ => false) false (fun j => j == i)
theorem numIs_eq {n : int_private% "Numeral"} {i : Int} (h : numIs n i = true) : n = (int_private% "Numeral.value") i := by
  cases n with
  | value j =>
    have : j = i := by simpa [numIs] using h
    rw [this]
  | _ => cases h
noncomputable def hexL : List Nat := [48,49,50,51,52,53,54,55,56,57,65,66,67,68,69,70,97,98,99,100,101,102]
theorem hexL_all : (hexL.all fun a => hexL.all fun b => numIs ((int_private% "readNumeral") 0 16 [a, b]) ((16 * (hexV a).getD 0 + (hexV b).getD 0 : Nat) : Int)) = true := by decide +kernel
theorem hexV_big {a : Nat} (h : 103 ≤ a) : hexV a = none := by
  unfold hexV
  rw [if_neg (fun e => absurd (Nat.le_trans h e.2) (by decide)), if_neg (fun e => absurd (Nat.le_trans h e.2) (by decide)), if_neg (fun e => absurd (Nat.le_trans h e.2) (by decide))]
theorem hexV_tab : ((List.range 103).all fun a => (hexV a).isNone || hexL.contains a) = true := by decide +kernel
theorem hexV_mem {a x : Nat} (h : hexV a = some x) : a ∈ hexL := by
  by_cases ha : a < 103
  · have := List.all_eq_true.mp hexV_tab a (List.mem_range.mpr ha)
    rw [h] at this
    exact List.contains_iff_mem.mp this
  · rw [hexV_big (Nat.le_of_not_lt ha)] at h
    cases h
theorem hexL_ok : (hexL.all fun a => a != 0 && decide (a < 128)) = true := by decide +kernel
theorem hexL_ne {a : Nat} (h : a ∈ hexL) : (a != 0) = true := (Bool.and_eq_true_iff.mp (List.all_eq_true.mp hexL_ok a h)).1
theorem hexL_lt {a : Nat} (h : a ∈ hexL) : decide (a < 128) = true := (Bool.and_eq_true_iff.mp (List.all_eq_true.mp hexL_ok a h)).2
theorem hex_reads {a b x y : Nat} (ha : hexV a = some x) (hb : hexV b = some y) : (int_private% "readNumeral") 0 16 [a, b] = (int_private% "Numeral.value") ((16 * x + y : Nat) : Int) := by
  refine numIs_eq ?_
  have := List.all_eq_true.mp (List.all_eq_true.mp hexL_all a (hexV_mem ha)) b (hexV_mem hb)
  rw [ha, hb] at this
  exact this
theorem wp_text16 {M : Model} {A : Around} {E : Value → Shared → Prop} {s : Shared} {Q : Value → Shared → Prop} {v : Value} {text : List Nat} {n : Int}
    (hs : (text.takeWhile (· != 0)).length ≤ 640) (hr : (int_private% "readNumeral") 0 16 (text.takeWhile (· != 0)) = (int_private% "Numeral.value") n)
    (ha : ((text.takeWhile (· != 0)).length == text.length) = true) (h : Q (.int n s.toks) { s with toks := s.toks + 1 }) :
    wpAny M A ((int_private% "intFromText") v text 16) Q E s := by
  obtain ⟨hp, g, d, tk, os⟩ := s
  repeat (any_goals (first
    | assumption
    | (with_reducible refine wpAny_ite_true (decide_eq_true hs) ?_)
    | (with_reducible refine wpAny_ite_true (decide_eq_true ha) ?_)
    | wp_step))
  all_goals (try rw [hr])
  all_goals (try dsimp only)
  repeat (any_goals (first
    | assumption
    | (with_reducible refine wpAny_ite_true (decide_eq_true hs) ?_)
    | (with_reducible refine wpAny_ite_true (decide_eq_true ha) ?_)
    | wp_step))
structure Hid (p : Prop) : Prop where
  out : p
theorem typeCall_int_2 (a b : Value) : checkTypeCall "int" ⟨[a, b], []⟩ = pure () := by kernel_rfl
theorem newCall_int_2 (a b : Value) : checkBuiltinCall "int.__new__" ⟨[.type "int", a, b], []⟩ = pure () := by kernel_rfl
set_option maxHeartbeats 4000000 in
theorem gives_int16 {a b x y : Nat} (ha : hexV a = some x) (hb : hexV b = some y) {t u : Tok} : Gives (Builtin.«int.__new__» ⟨[.type "int", .str (S [a, b]) t, .int 16 u], []⟩) (.int ((16 * x + y : Nat) : Int)) :=
  .of_wp fun M A E s Q h => by
    obtain ⟨hp, g, d, tk, os⟩ := s
    have f1 := F.conv_sub_int
    have f2 := F.madeHere_int
    have f6 : typeOf (.str (S [a, b]) t) = pure (.type "str") := rfl
    have ma := hexV_mem ha
    have mb := hexV_mem hb
    have hz : [a, b].takeWhile (· != 0) = [a, b] := by
      rw [List.takeWhile_cons_of_pos (p := fun x => x != 0) (hexL_ne ma), List.takeWhile_cons_of_pos (p := fun x => x != 0) (hexL_ne mb)]
      rfl
    have has : ((S [a, b]).cps.all (· < 128)) = true := by
      have h1 := of_decide_eq_true (hexL_lt ma)
      have h2 := of_decide_eq_true (hexL_lt mb)
      simp [S, h1, h2]
    have hk := Hid.mk (hex_reads ha hb)
    clear ma mb
    repeat (any_goals (first
      | assumption
      | (with_reducible refine wpAny_ite_true has ?_)
      | ((with_reducible show wpAny _ _ ((int_private% "intFromText") _ _ _) _ _ _); refine wp_text16 (by rw [show (S [a, b]).cps.toList = [a, b] from rfl, hz]; decide) (by rw [show (S [a, b]).cps.toList = [a, b] from rfl, hz]; exact hk.out) (by rw [show (S [a, b]).cps.toList = [a, b] from rfl, hz]; rfl) ?_)
      | wp_step))
    have e : (if ((S [a, b]).cps.all fun x => decide (x < 128)) = true then (S [a, b]).cps.toList else Unicode.numberText (S [a, b]).cps.toList) = [a, b] := if_pos has
    have hs : ([a, b] : List Nat).length ≤ 640 := by simp
    have ha2 : (([a, b] : List Nat).length == ([a, b] : List Nat).length) = true := rfl
    simp only [e, hz, show Int.toNat 16 = 16 from rfl]
    repeat (any_goals (first
      | assumption
      | (with_reducible refine wpAny_ite_true (by decide) ?_)
      | (with_reducible refine wpAny_ite_true hs ?_)
      | wp_step))
    all_goals (try rw [hk.out])
    all_goals (try dsimp only)
    repeat (any_goals (first
      | assumption
      | (with_reducible refine wpAny_ite_true ha2 ?_)
      | wp_step))
    all_goals first | exact ⟨_, rfl, h⟩ | skip
theorem args_object_init_3 (a b c : Value) : argsOk "object.__init__" ⟨[a, b, c], []⟩ := by
  unfold argsOk; kernel_rfl
theorem op_int16' {prog : Program} {w : World} {A : Around} {E : Value → Shared → Prop} {s : Shared} {a b : Nat} {x y : Nat} (ha : hexV a = some x) (hb : hexV b = some y) {t u : Tok} {Q : Value → Shared → Prop} (hQ : ∀ t' k, Q (.int (16 * x + y : Nat) t') { s with toks := k }) :
    wpAny (model prog w) A (call (.type "int") [.str (S [a, b]) t, .int 16 u]) Q E s :=
  callType_new F.called_int F.newNe_int (typeCall_int_2 _ _) (newCall_int_2 _ _) (fun obj => args_object_init_3 obj _ _) F.entry_int_new (gives_int16 ha hb).meets (show (Made.int _).post _ s from ⟨rfl, hQ _ _⟩)
end Mine
end
section
open PySem PySem.W PyProof.Rows PyProof.V PySem.Calls
set_option Elab.async false
set_option maxRecDepth 20000
namespace Mine
open Builtin.Str in
theorem wp_look {prog : Program} {w : World} {A : Around} {E : Value → Shared → Prop} {s : Shared} {a : Addr} {items : Array Value} {c : Nat} {x : Str} {t : Tok} {Q : Mapped → Shared → Prop} (hl : s.heap.IsList a items) (hc : c < 1000000) (hx : items[c]? = some (.str x t)) (h : Q (.text x) { s with toks := s.toks + 1 }) :
    wpAny (model prog w) A (tableLookup (.ref a) c) Q E s := by
  obtain ⟨hp, g, d, tk, os⟩ := s
  unfold tableLookup
  refine wpAny_bind (wpAny_attempt (wpAny_bind ?_))
  refine wpAny_mkInt ?_
  refine wpAny_getItem_list (items := items) (x := .str x t) hl (by lia) (by lia) (by simpa using hx) ?_
  repeat (any_goals (first | assumption | wp_step))
theorem forIn_by {M : Model} {A : Around} {E : Value → Shared → Prop} {s : Shared} {α β : Type} (f : α → β → Sem (ForInStep β)) (I : List α → β → Shared → Prop) (Q : β → Shared → Prop)
    (turn : ∀ f', f' = f → ∀ x rest b s, I (x :: rest) b s → wpAny M A (f' x b) (fun r s' => match r with | .yield b' => I rest b' s' | .done b' => Q b' s') E s)
    (fin : ∀ b s, I [] b s → Q b s) (xs : Array α) (b : β) (h : I xs.toList b s) : wpAny M A (forIn xs b f) Q E s :=
  MeetsSeq2.wpAny_forIn_array f I Q (turn f rfl) fin xs b h
inductive TrI (hp : Heap) (g : Array GenState) (d : Drawn) (os : OsState) (l : List Nat) (tb : List (List Nat)) (rest : List Nat) : List Str × Nat × Bool × List (Nat × Option Nat) × Bool → Shared → Prop where
  | mk {dn : List Nat} {k : Nat} {p : List Str} {n : Nat} {f : Bool} {kn : List (Nat × Option Nat)} (e1 : l = dn ++ rest) (e2 : p.reverse.foldl (fun acc p => acc ++ p.cps) #[] = (dn.flatMap fun c => tb.getD c []).toArray)
    (e3 : n = (dn.flatMap fun c => tb.getD c []).length) (e4 : ∀ c o, kn.lookup c = some o → ∃ e, o = some e ∧ tb.getD c [] = [e]) : TrI hp g d os l tb rest (p, n, f, kn, false) ⟨hp, g, d, k, os⟩
theorem TrI.next {hp : Heap} {g : Array GenState} {d : Drawn} {os : OsState} {l : List Nat} {tb : List (List Nat)} {x : Nat} {rest : List Nat} {p : List Str} {n : Nat} {dn : List Nat} (e1 : l = dn ++ x :: rest) (e2 : p.reverse.foldl (fun acc p => acc ++ p.cps) #[] = (dn.flatMap fun c => tb.getD c []).toArray)
    (e3 : n = (dn.flatMap fun c => tb.getD c []).length) {y : Str} (hy : y = S (tb.getD x [])) (k' : Nat) (hn : k' = y.length) (f : Bool) (kn : List (Nat × Option Nat)) (hk : ∀ c o, kn.lookup c = some o → ∃ e, o = some e ∧ tb.getD c [] = [e]) (k : Nat) :
    TrI hp g d os l tb rest (y :: p, n + k', f, kn, false) ⟨hp, g, d, k, os⟩ := by
  subst hy
  refine .mk (dn := dn ++ [x]) (by rw [e1, List.append_assoc]; rfl) ?_ ?_ hk
  · rw [List.flatMap_append, List.reverse_cons, List.foldl_append, e2]
    simp [S]
  · rw [e3, hn, S_len, List.flatMap_append, List.length_append, List.flatMap_singleton]
theorem wp_one {prog : Program} {w : World} {A : Around} {E : Value → Shared → Prop} {s : Shared} {x : Str} {u : Tok} {a : Addr} {Q : Value × Str × Value → Shared → Prop} (h : Q (.str x u, x, .ref a) s) :
    wpAny (model prog w) A (Builtin.Str.strOneArg "translate" ⟨[.str x u, .ref a], []⟩) Q E s := by
  unfold Builtin.Str.strOneArg
  repeat (any_goals (first | assumption | wp_step))
theorem meets_translate {prog : Program} {w : World} {l : List Nat} {tb : List (List Nat)} {a : Addr} {u : Tok} {A : Around} {s : Shared} {items : Array Value} (hl : s.heap.IsList a items) (hlen : l.length ≤ 1000000) (ht : tb.length ≤ 1000000) (hc : ∀ c ∈ l, c < tb.length) (h4 : ∀ x ∈ tb, x.length ≤ 4)
    (hit : ∀ (c : Nat) (x : List Nat), tb[c]? = some x → ∃ t, items[c]? = some (Value.str (S x) t)) {E : Value → Shared → Prop} {Q : Value → Shared → Prop} (hQ : ∀ t' k, Q (.str (S (l.flatMap fun c => tb.getD c [])) t') { s with toks := k }) :
    wpAny (model prog w) A (Builtin.«str.translate» ⟨[.str (S l) u, .ref a], []⟩) (fun fin s' => ∃ v, fin = .done (.ret v) ∧ Q v s') E s := by
  obtain ⟨hp, g, d, tk, os⟩ := s
  refine wpAny_bind (wp_one ?_)
  have size : ∀ dn : List Nat, (dn.flatMap fun c => tb.getD c []).length ≤ 4 * dn.length := by
    intro dn
    induction dn with
    | nil => simp
    | cons c r ih =>
      have : (tb.getD c []).length ≤ 4 := by
        rw [List.getD_eq_getElem?_getD]
        cases hx : tb[c]? with
        | none => simp
        | some x => exact h4 x (List.mem_of_getElem? hx)
      simp only [List.flatMap_cons, List.length_append, List.length_cons]
      lia
  have small : ∀ n, n ≤ 4000000 → Builtin.Str.tooLong n = false := fun n h => by
    unfold Builtin.Str.tooLong
    rw [sizeLine_eq]
    exact decide_eq_false (by lia)
  have hat : ∀ x, x ∈ l → ∃ t, items[x]? = some (Value.str (S (tb.getD x [])) t) := fun x hx => by
    have := hc x hx
    have e : tb[x]? = some (tb.getD x []) := by simp [this]
    exact hit _ _ e
  by_cases h0 : l = []
  · subst h0
    refine wpAny_ite_true rfl ?_
    refine wpAny_bind (wpAny_rule ?_)
    show wpAny _ _ (pure (Value.str (S []) u) >>= _) _ _ _
    exact wpAny_bind (wpAny_pure (wpAny_pure ⟨_, rfl, hQ u tk⟩))
  refine wpAny_ite_false (by simpa using h0) ?_
  refine wpAny_bind (forIn_by _ (TrI hp g d os l tb) _ ?turn ?fin _ _ ?start)
  case start => exact .mk (dn := []) rfl rfl rfl fun c o h => no h
  case fin =>
    intro b s' hI
    cases hI with | @mk dn k p n f kn e1 e2 e3 e4
    rw [List.append_nil] at e1
    subst e1
    have hs := size l
    have hn := small n (by lia)
    have e6 : (⟨p.reverse.foldl (fun acc p => acc ++ p.cps) #[]⟩ : Str) = S (l.flatMap fun c => tb.getD c []) := by rw [e2]; rfl
    have hl9 : (S (l.flatMap fun c => tb.getD c [])).length ≤ sizeLine := by rw [S_len, sizeLine_eq]; lia
    refine wpAny_ite_false (by rw [hn]; decide) ?_
    show wpAny _ _ (mkStr (⟨p.reverse.foldl (fun acc p => acc ++ p.cps) #[]⟩ : Str) >>= fun v => ret v) _ _ _
    rw [e6]
    exact wpAny_bind (wpAny_mkStr (wpAny_pure ⟨_, rfl, hQ _ _⟩) hl9)
  case turn =>
    intro B hB x rest b s' hI
    cases hI with | @mk dn k p n f kn e1 e2 e3 e4
    have hs := size dn
    have hdl : dn.length ≤ l.length := by rw [e1]; simp
    have hn := small n (by lia)
    obtain ⟨t, hx⟩ := hat x (by rw [e1]; simp)
    have hx9 : x < 1000000 := by have := hc x (by rw [e1]; simp); lia
    have slow := fun (y : Str) (hy : y = S (tb.getD x [])) (n : Nat) (hn : n = y.length) (f : Bool) kn hk k => TrI.next (hp := hp) (g := g) (d := d) (os := os) e1 e2 e3 hy n hn f kn hk k
    have HK := Hid.mk (And.intro hl (And.intro hx9 (And.intro hx slow)))
    clear slow
    clear hQ hs size small hat hit h4 hc ht hlen h0 hl e2 e3 hx hx9 hdl e1
    cases f with
    | false =>
      subst hB
      refine wpAny_ite_false (by rw [hn]; rfl) ?_
      clear hn
      repeat (any_goals (first | assumption | ((with_reducible show wpAny _ _ (Builtin.Str.tableLookup _ _) _ _ _); refine wp_look HK.out.1 HK.out.2.1 HK.out.2.2.1 ?_) | wp_step))
      all_goals exact HK.out.2.2.2 _ rfl _ rfl _ _ e4 _
    | true =>
      cases hkn : kn.lookup x with
      | some o =>
        obtain ⟨e, rfl, he⟩ := e4 _ _ hkn
        have he := Hid.mk he
        subst hB
        refine wpAny_ite_false (by rw [hn]; rfl) ?_
        clear hn
        rw [hkn]
        repeat (any_goals (first | assumption | ((with_reducible show wpAny _ _ (Builtin.Str.tableLookup _ _) _ _ _); refine wp_look HK.out.1 HK.out.2.1 HK.out.2.2.1 ?_) | wp_step))
        all_goals exact HK.out.2.2.2 _ (by rw [he.out]; rfl) _ rfl _ _ e4 _
      | none =>
        by_cases hone : ((S (tb.getD x [])).length == 1 && (S (tb.getD x [])).cps.all fun x => decide (x < 128)) = true
        · obtain ⟨e, he⟩ : ∃ e, tb.getD x [] = [e] := by
            rw [Bool.and_eq_true, beq_iff_eq, S_len] at hone
            exact List.length_eq_one_iff.mp hone.1
          have h9 : (S (tb.getD x [])).cps[0]? = some e := by rw [he]; rfl
          have he := Hid.mk he
          subst hB
          refine wpAny_ite_false (by rw [hn]; rfl) ?_
          clear hn
          rw [hkn]
          refine wpAny_bind (wp_look HK.out.1 HK.out.2.1 HK.out.2.2.1 ?_)
          dsimp only
          rw [(if_pos hone).trans (congrArg some h9)]
          clear hone h9
          repeat (any_goals (first | assumption | wp_step))
          all_goals (refine HK.out.2.2.2 _ (by rw [he.out]; rfl) _ rfl _ _ ?_ _)
          all_goals
            intro c o hc
            rw [List.lookup_cons] at hc
            split at hc
            · rename_i hcx
              cases hc
              exact ⟨e, rfl, by rw [beq_iff_eq.mp hcx]; exact he.out⟩
            · exact e4 _ _ hc
        · subst hB
          refine wpAny_ite_false (by rw [hn]; rfl) ?_
          clear hn
          rw [hkn]
          refine wpAny_bind (wp_look HK.out.1 HK.out.2.1 HK.out.2.2.1 ?_)
          dsimp only
          rw [if_neg hone]
          clear hone
          repeat (any_goals (first | assumption | ((with_reducible show wpAny _ _ (Builtin.Str.tableLookup _ _) _ _ _); refine wp_look HK.out.1 HK.out.2.1 HK.out.2.2.1 ?_) | wp_step))
          all_goals exact HK.out.2.2.2 _ rfl _ rfl _ _ e4 _
end Mine
namespace Mine
theorem op_translate' {prog : Program} {w : World} {l : List Nat} {tb : List (List Nat)} {a : Addr} {u : Tok} {A : Around} {s : Shared} {items : Array Value} (hl : s.heap.IsList a items) (hlen : l.length ≤ 1000000) (ht : tb.length ≤ 1000000) (hc : ∀ c ∈ l, c < tb.length) (h4 : ∀ x ∈ tb, x.length ≤ 4)
    (hit : ∀ (c : Nat) (x : List Nat), tb[c]? = some x → ∃ t, items[c]? = some (Value.str (S x) t)) {E : Value → Shared → Prop} {Q : Value → Shared → Prop} (hQ : ∀ t' k, Q (.str (S (l.flatMap fun c => tb.getD c [])) t') { s with toks := k }) :
    wpAny (model prog w) A (call (.builtin "str.translate") [.str (S l) u, .ref a]) Q E s :=
  wpAny_call (codeAny_call_builtin F.slot_str_translate.plain F.entry_str_translate (F.slot_str_translate.check _ _ _ _ _ _ _ _ (typeIs_str _ _ _) (F.args_str_translate_2 _ _)
    (wpAny_mono (meets_translate hl hlen ht hc h4 hit (Q := Q) hQ) (fun fin s' h => by obtain ⟨v, rfl, h⟩ := h; exact h) fun _ _ x => x)))
end Mine
end
section
open PySem PySem.W PyProof.Rows PyProof.V
set_option Elab.async false
set_option genSizeOf false
set_option maxRecDepth 20000
namespace Mine
theorem VRs.gw {X : Wd} {imm imm' mu mu' vs ys} (h : VRs X imm (mu.map Prod.fst) vs ys) (g : Gw mu imm mu' imm') : VRs X imm' (mu'.map Prod.fst) vs ys := by
  induction h with
  | nil => exact .nil
  | cons a _ ih => exact .cons (a.gw g) ih
theorem VRs.len {X : Wd} {imm ad vs ys} (h : VRs X imm ad vs ys) : vs.length = ys.length := by
  induction h with
  | nil => rfl
  | cons _ _ ih => simp [ih]

theorem intsAre_of {imm : List (Addr × Obj)} : ∀ {vs : List Value} {ps : List P} {ns : List Int}, DatAll imm vs (dats ps) → pInts ps = some ns → IntsAre vs ns
  | _, [], ns, .nil, h => by cases h; exact .nil
  | _, p :: r, ns, .cons a d, h => by
    cases p with
    | int i =>
      simp only [pInts] at h
      obtain ⟨ms, h1, rfl⟩ := Option.map_eq_some_iff.mp h
      cases a
      exact .cons _ _ (intsAre_of d h1)
    | _ => simp [pInts] at h
theorem strsAre_of {imm : List (Addr × Obj)} : ∀ {vs : List Value} {ps : List P} {ns : List (List Nat)}, DatAll imm vs (dats ps) → pStrs ps = some ns → StrsAre vs (ns.map S)
  | _, [], ns, .nil, h => by cases h; exact .nil
  | _, p :: r, ns, .cons a d, h => by
    cases p with
    | str i =>
      simp only [pStrs] at h
      obtain ⟨ms, h1, rfl⟩ := Option.map_eq_some_iff.mp h
      cases a
      exact .cons _ _ (strsAre_of d h1)
    | _ => simp [pStrs] at h
theorem datAll_ints {imm : List (Addr × Obj)} : ∀ {vs : List Value} {ns : List Int}, IntsAre vs ns → DatAll imm vs (dats (ns.map .int))
  | _, _, .nil => .nil
  | _, _, .cons _ _ r => .cons (.int _ _) (datAll_ints r)
theorem datAll_strs {imm : List (Addr × Obj)} : ∀ {vs : List Value} {ns : List (List Nat)}, StrsAre vs (ns.map S) → DatAll imm vs (dats (ns.map .str))
  | _, [], .nil => .nil
  | _, _ :: _, .cons _ _ r => .cons (.str _ _) (datAll_strs r)
theorem pInts_len : ∀ {ps : List P} {ns : List Int}, pInts ps = some ns → ns.length = ps.length
  | [], ns, h => by cases h; rfl
  | p :: r, ns, h => by
    cases p with
    | int i =>
      simp only [pInts] at h
      obtain ⟨ms, h1, rfl⟩ := Option.map_eq_some_iff.mp h
      simp [pInts_len h1]
    | _ => simp [pInts] at h
theorem pStrs_len : ∀ {ps : List P} {ns : List (List Nat)}, pStrs ps = some ns → ns.length = ps.length
  | [], ns, h => by cases h; rfl
  | p :: r, ns, h => by
    cases p with
    | str i =>
      simp only [pStrs] at h
      obtain ⟨ms, h1, rfl⟩ := Option.map_eq_some_iff.mp h
      simp [pStrs_len h1]
    | _ => simp [pStrs] at h
theorem maxI_spec : ∀ {l : List Int}, l ≠ [] → maxI l ∈ l ∧ ∀ a ∈ l, a ≤ maxI l
  | [a], _ => by simp [maxI]
  | a :: b :: r, _ => by
    obtain ⟨h1, h2⟩ := maxI_spec (l := b :: r) (by simp)
    rw [maxI]
    · constructor
      · rcases Int.le_total a (maxI (b :: r)) with h | h
        · rw [Int.max_eq_right h]; exact .tail _ h1
        · rw [Int.max_eq_left h]; exact .head _
      · intro x hx
        rcases List.mem_cons.mp hx with rfl | hx
        · exact Int.le_max_left _ _
        · exact Int.le_trans (h2 x hx) (Int.le_max_right _ _)
    · simp
theorem strValues_of {vs : List Value} {ss : List Str} (h : StrsAre vs ss) : ∃ l : List (Str × Tok), strValues l = vs ∧ l.map (·.1) = ss := by
  induction h with
  | nil => exact ⟨[], rfl, rfl⟩
  | cons x t _ ih => obtain ⟨l, h1, h2⟩ := ih; exact ⟨(x, t) :: l, by rw [← h1]; rfl, by rw [← h2]; rfl⟩
theorem joinOk_of {s : List Nat} {x : List (List Nat)} (h : (x.map List.length).sum + x.length * s.length ≤ 1000000) : JoinOk (S s) (x.map S) = true := by
  have key : ∀ (x : List (List Nat)) (k : Nat), (x.map S).foldl (fun a b => a + b.length + (S s).length) k = k + (x.map List.length).sum + x.length * s.length := by
    intro x
    induction x with
    | nil => intro k; simp
    | cons a r ih => intro k; rw [List.map_cons, List.foldl_cons, ih]; simp only [S_len, List.map_cons, List.sum_cons, List.length_cons]; rw [Nat.add_mul]; lia
  unfold JoinOk
  rw [List.foldl_toArray]
  simp only [key]
  unfold Builtin.Str.tooLong
  rw [sizeLine_eq, Bool.not_eq_true']
  exact decide_eq_false (by lia)

noncomputable def biVal : BI → Value
  | .len => .builtin "len" | .max => .builtin "max" | .range => .type "range" | .list => .type "list" | .isint => .builtin "isinstance" | .sorted => .builtin "sorted"
  | .ord => .builtin "ord" | .chr => .builtin "chr" | .int16 => .type "int" | .tuple => .type "tuple"
noncomputable def biMore (b : BI) (more : List Value) : Prop := match b with
  | .isint => more = [.type "int"]
  | .int16 => ∃ t, more = [.int 16 t]
  | _ => more = []

section
variable {X : Wd} {tabs : Nat → List P} {h₀ : Heap} {L : Addr} {m : Str → Option Value} {mu ext imm : List (Addr × Obj)} {H : List O} {s : Shared} {A : Around} {E : Value → Shared → Prop}
theorem small_of {a b : Int} (ha : oki a = true) (hb : oki b = true) : Builtin.Range.small a b 1 = true := by
  have := of_oki ha; have := of_oki hb
  exact small_one (by lia) (by lia) (by lia) (by lia)
theorem St.newAt (t : St X h₀ L m mu ext imm H s) {h' : Heap} {o : Obj} (F : Fr h₀ L h' m) (N : News h₀ L h' (mu ++ (ext ++ imm))) (ho : h'.get? s.heap.objs.size = some o) : News h₀ L h' ((s.heap.objs.size, o) :: (mu ++ (ext ++ imm))) := by
  intro p hp
  rcases List.mem_cons.mp hp with rfl | hp
  · refine ⟨ho, Nat.ne_of_gt t.fr.ns.lt, ?_⟩
    cases q : h₀.get? s.heap.objs.size with
    | none => rfl
    | some o' => exact absurd (Heap.lt_size (t.fr.keep _ _ q)) (Nat.lt_irrefl _)
  · exact N p hp
theorem rngL_ks (a b : Int) : rngL a b = (rangeKs a (b - a).toNat).map .int := by
  unfold rngL rangeKs; rw [List.map_map]; rfl
theorem op_int16 {a b : Nat} {x y : Nat} (ha : hexV a = some x) (hb : hexV b = some y) {t u : Tok} {Q : Value → Shared → Prop} (hQ : ∀ t' k, Q (.int (16 * x + y : Nat) t') { s with toks := k }) :
    wpAny (model X.prog X.w) A (call (.type "int") [.str (S [a, b]) t, .int 16 u]) Q E s := op_int16' ha hb hQ

section
variable {r : V × List O} {v : V} {vs : List V} {y : Value} {ys : List Value} {Q : Value → Shared → Prop}
theorem bi_lenP {x : P} {n : Nat} (hv : lenP x = some n) (hk : ok n = true) (hv2 : some (V.p (.int n), H) = some r) (t : St X h₀ L m mu ext imm H s) (ra : DatIn imm y x.dat) (hQ : Post X h₀ L m mu ext imm r Q) :
    wpAny (model X.prog X.w) A (call (.builtin "len") [y]) Q E s := by
  cases x with
  | str l =>
    cases hv
    have hk := of_ok hk
    apply datStr ra
    intro t1
    exact SBL.len (by rw [S_len]; lia) (hQ.p hv2 t (by rw [S_len]; exact .int _ _))
  | tup x =>
    cases hv
    have hk := of_ok hk
    cases ra with
    | tuple hm hd =>
      have hl := hd.length
      rw [dats_len] at hl
      exact len_tuple ⟨_, (t.nw _ (St.sub_imm _ hm)).1, rfl, _, rfl⟩ (by rw [List.size_toArray]; lia) (hQ.p hv2 t (by rw [List.size_toArray, hl]; exact .int _ _))
  | _ => first | exact no hv | exact nob hv | cases hv
theorem bi_len (hv : biA .len v vs H = some r) (t : St X h₀ L m mu ext imm H s) (ra : VRel X imm (mu.map Prod.fst) v y) (rs : VRs X imm (mu.map Prod.fst) vs ys) (hQ : Post X h₀ L m mu ext imm r Q) :
    wpAny (model X.prog X.w) A (call (.builtin "len") (y :: ys)) Q E s := by
  refine bindE hv fun _ e hv => ?_
  apply nulE e rs
  refine bindE hv fun n e hv1 => iteE hv1 fun hk hv2 => ?_
  clear hv hv1
  cases v with
  | p x => exact bi_lenP e hk hv2 t ra hQ
  | ref i =>
    refine mapE e fun x h1 e1 => ?_
    cases e1
    have hk := of_ok hk
    apply t.refE h1 ra
    intro a vs n1 w
    exact len_list w.i (by rw [List.size_toArray, w.l]; lia) (hQ.p hv2 t (by rw [List.size_toArray, w.l]; exact .int _ _))
  | fix x =>
    cases e
    have hk := of_ok hk
    obtain ⟨a1, vs, n1, rfl, hm1, d1⟩ := ra
    have l1 : vs.length = x.length := by rw [d1.length, dats_len]
    exact len_list ⟨_, (t.nw _ (St.sub_imm _ hm1)).1, rfl, n1, rfl⟩ (by rw [List.size_toArray]; lia) (hQ.p hv2 t (by rw [List.size_toArray, l1]; exact .int _ _))
  | _ => first | exact no e | exact nob e | cases e
theorem bi_max (hv : maxV v vs H = some r) (t : St X h₀ L m mu ext imm H s) {n : Nat} (R : Room A n) (ra : VRel X imm (mu.map Prod.fst) v y) (rs : VRs X imm (mu.map Prod.fst) vs ys) (hQ : Post X h₀ L m mu ext imm r Q) :
    wpAny (model X.prog X.w) A (call (.builtin "max") (y :: ys)) Q E s := by
  cases vs with
  | nil =>
    refine bindE hv fun x h1 hv => bindE hv fun ns h2 hv => ?_
    apply nulE (u := ()) rfl rs
    apply t.lstE h1 ra
    intro i a1 vs n1 w
    cases ns with
    | nil => first | exact no hv | exact nob hv | cases hv
    | cons b q =>
      have hm := maxI_spec (List.cons_ne_nil b q)
      refine kso_max t.fr t.nw w.i (intsAre_of w.d h2) (Nat.succ_pos _) R.1 fun h' M tk k F N hM hle => ?_
      have e : M = maxI (b :: q) := Int.le_antisymm (hm.2 _ hM) (hle _ hm.1)
      exact hQ.of hv _ _ _ _ (t.heap F N k) .refl (by rw [e]; exact .int _ _)
  | cons w q =>
    refine bindE hv fun z e hv => bindE hv fun a e1 hv => bindE hv fun c e2 hv => ?_
    apply oneE e rs
    intro y2 r2
    apply int_E e1 ra
    intro t1
    apply int_E e2 r2
    intro t2
    refine max_two_N R.1 t.fr t.nw fun h' tk F N => ?_
    refine hQ.of hv _ _ _ _ (t.heap F N tk) .refl ?_
    have : (if c > a then c else a) = max a c := by split <;> lia
    rw [this]; exact .int _ _
theorem bi_range (hv : rngV v vs H = some r) (t : St X h₀ L m mu ext imm H s) (ra : VRel X imm (mu.map Prod.fst) v y) (rs : VRs X imm (mu.map Prod.fst) vs ys) (hQ : Post X h₀ L m mu ext imm r Q) :
    wpAny (model X.prog X.w) A (call (.type "range") (y :: ys)) Q E s := by
  cases vs with
  | nil =>
    refine bindE hv fun c e hv => iteE hv fun hk hv => ?_
    apply nulE (u := ()) rfl rs
    apply int_E e ra
    intro t0
    refine range1_rows t.fr t.nw fun h' tk t1 u1 v1 hr F N _ => ?_
    exact hQ.of hv _ _ _ _ (t.addI F (t.newAt F N hr) t.lt tk) gw_imm ⟨_, t1, u1, v1, rfl, .head _⟩
  | cons w q =>
    refine bindE hv fun z e hv => bindE hv fun a e1 hv => bindE hv fun c e2 hv => iteE hv fun hk hv => ?_
    apply oneE e rs
    intro y2 r2
    apply int_E e1 ra
    intro t1
    apply int_E e2 r2
    intro t2
    refine range2_rows t.fr t.nw fun h' tk t1 u1 v1 hr F N _ => ?_
    exact hQ.of hv _ _ _ _ (t.addI F (t.newAt F N hr) t.lt tk) gw_imm ⟨_, t1, u1, v1, rfl, .head _⟩
theorem rg_eq {v : V} {q : Int × Int} (h : v.rg = some q) : v = .rng q.1 q.2 := by cases v <;> first | exact no h | (cases h; rfl)
theorem bi_list {q : Int × Int} (e : v.rg = some q) (hk : (oki q.1 && oki q.2 && ok (q.2 - q.1).toNat) = true) (hv : some (V.ref H.length, H ++ [.list (rngL q.1 q.2)]) = some r) (t : St X h₀ L m mu ext imm H s) {n : Nat} (R : Room A n) (ra : VRel X imm (mu.map Prod.fst) v y) (hQ : Post X h₀ L m mu ext imm r Q) :
    wpAny (model X.prog X.w) A (call (.type "list") [y]) Q E s := by
  refine andE hk fun hk hk3 => andE hk fun ka kb => ?_
  have hk3 := of_ok hk3
  rw [rg_eq e] at ra
  clear e
  obtain ⟨q1, q2⟩ := q
  obtain ⟨a, t1, u1, w1, rfl, hm⟩ := ra
  refine kll_range R.1 t.fr t.nw (t.nw _ (St.sub_imm _ hm)).1 (small_of ka kb) (rangeSize_nat _ _) (by lia) fun D us n2 h' tk F N hl hi => ?_
  exact t.newL F N hl (by rw [rngL_ks]; exact datAll_ints hi) tk (hQ.of hv)
theorem bi_sorted {x : List P} {ns : List (List Nat)} (h1 : v.lst H = some x) (h2 : pStrs x = some ns) (hk : decide (2 ≤ ns.length ∧ ns.length < 64) = true) (hv : some (V.ref H.length, H ++ [.list ((srt ns).map .str)]) = some r) (t : St X h₀ L m mu ext imm H s)
    (ra : VRel X imm (mu.map Prod.fst) v y) (hQ : Post X h₀ L m mu ext imm r Q) : wpAny (model X.prog X.w) A (call (.builtin "sorted") [y]) Q E s := by
  have hk := of_decide_eq_true hk
  have hl := pStrs_len h2
  apply t.lstE h1 ra
  intro i a1 vs n1 w
  refine sorted_N_str t.fr t.nw w.i (strsAre_of w.d h2) (by have := w.l; lia) fun h' vs' ss' e F N q1 q2 q3 => ?_
  cases S_sorted ns ss' q2 q3
  exact t.newL (n := e) F N (fun p hp => Nat.lt_succ_of_lt (t.lt p hp)) (datAll_strs q1) _ (hQ.of hv)
theorem bi_tuple {x : List P} (h1 : v.lst H = some x) (hk : decide (x.length ≤ 16384) = true) (hv : some (V.p (.tup x), H) = some r) (t : St X h₀ L m mu ext imm H s)
    (ra : VRel X imm (mu.map Prod.fst) v y) (hQ : Post X h₀ L m mu ext imm r Q) : wpAny (model X.prog X.w) A (call (.type "tuple") [y]) Q E s := by
  have hk := of_decide_eq_true hk
  apply t.lstE h1 ra
  intro i a1 vs n1 w
  refine kde_tupleOf t.fr t.nw w.i (by rw [List.size_toArray, w.l]; lia) rfl fun D h' F N hl => ?_
  exact hQ.of hv _ _ _ _ (t.addI F N hl s.toks) gw_imm (.tuple (.head _) (w.d.mono fun _ h => .tail _ h))
end
theorem more_nil {b : Value} {ys more : List Value} {Q : Value → Shared → Prop} (hm : more = []) (h : wpAny (model X.prog X.w) A (call b ys) Q E s) : wpAny (model X.prog X.w) A (call b (ys ++ more)) Q E s := by
  rw [hm, List.append_nil]; exact h
theorem op_bi {b : BI} {vs : List V} {v : V} {H' : List O} (hv : biV b vs H = some (v, H')) (t : St X h₀ L m mu ext imm H s) {n : Nat} (R : Room A n) {ys more : List Value}
    (ra : VRs X imm (mu.map Prod.fst) vs ys) (hm : biMore b more) {Q : Value → Shared → Prop}
    (hQ : Post X h₀ L m mu ext imm (v, H') Q) :
    wpAny (model X.prog X.w) A (call (biVal b) (ys ++ more)) Q E s := by
  cases vs with
  | nil => first | exact no hv | exact nob hv | cases hv
  | cons w vs =>
    apply consE ra
    intro y ys ra rs
    cases b with
    | len => exact more_nil hm (bi_len hv t ra rs hQ)
    | max => exact more_nil hm (bi_max hv t R ra rs hQ)
    | range => exact more_nil hm (bi_range hv t ra rs hQ)
    | list =>
      refine bindE hv fun _ e hv => ?_
      apply nulE e rs
      exact bindE hv fun q e hv => iteE hv fun hk hv => more_nil hm (bi_list e hk hv t R ra hQ)
    | isint =>
      refine bindE hv fun _ e hv => ?_
      apply nulE e rs
      refine bindE hv fun i e hv => ?_
      apply int_E e ra
      intro t1
      cases hm
      exact IsiPair.int_int (hQ.p (k := s.toks) hv t (.bool _))
    | sorted =>
      refine bindE hv fun _ e hv => ?_
      apply nulE e rs
      exact bindE hv fun q e hv => bindE hv fun ns h2 hv => iteE hv fun hk hv => more_nil hm (bi_sorted e h2 hk hv t ra hQ)
    | ord =>
      refine bindE hv fun _ e hv => ?_
      apply nulE e rs
      refine bindE hv fun l e hv => bindE hv fun c e1 hv => ?_
      apply str_E e ra
      intro t1
      cases one_eq e1
      exact more_nil hm (P.ord_of_char (hQ.p hv t (.int _ _)))
    | chr =>
      refine bindE hv fun _ e hv => ?_
      apply nulE e rs
      refine bindE hv fun i e hv => iteE hv fun hk hv => ?_
      have hk := of_decide_eq_true hk
      apply int_E e ra
      intro t1
      exact more_nil hm (chr_of_range hk.1 (by lia) (hQ.p hv t (.str (S [_]) _)))
    | int16 =>
      refine bindE hv fun _ e hv => ?_
      apply nulE e rs
      refine bindE hv fun l e hv => bindE hv fun q e1 hv => bindE hv fun x h1 hv => bindE hv fun z h2 hv2 => ?_
      apply str_E e ra
      intro t1
      have e1 := two_eq e1
      subst e1
      obtain ⟨t5, rfl⟩ := hm
      exact op_int16 h1 h2 fun t' k => hQ.p hv2 t (.int _ _)
    | tuple =>
      refine bindE hv fun _ e hv => ?_
      apply nulE e rs
      exact bindE hv fun q e hv => iteE hv fun hk hv => more_nil hm (bi_tuple e hk hv t ra hQ)
end
end Mine
end
section
open PySem PySem.W PyProof.Rows PyProof.V
set_option Elab.async false
set_option maxRecDepth 20000
namespace Mine
noncomputable def smId : SM → String
  | .translate => "str.translate" | .splitlines => "str.splitlines" | .rstrip => "str.rstrip" | .endswith => "str.endswith" | .replace => "str.replace" | .split => "str.split" | .join => "str.join"
  | .append => "list.append" | .extend => "list.extend" | .pop => "list.pop"

theorem kl_cut_at : ∀ {l : List Value} {k : Nat} (h : k < l.length), kl_cut l k = some (l.take k, l[k], l.drop (k + 1))
  | x :: r, 0, _ => rfl
  | x :: r, k + 1, h => by
    have h' : k < r.length := by simpa using h
    simp only [kl_cut, kl_cut_at h', List.take_succ_cons, List.getElem_cons_succ, List.drop_succ_cons]
theorem datAll_erase {imm : List (Addr × Obj)} {vs : List Value} {ps : List P} (d : DatAll imm vs (dats ps)) (k : Nat) : DatAll imm (vs.take k ++ vs.drop (k + 1)) (dats (ps.eraseIdx k)) := by
  rw [List.eraseIdx_eq_take_drop_succ, dats_append]
  have e1 : dats (ps.take k) = (dats ps).take k := by rw [dats_eq, dats_eq, List.map_take]
  have e2 : dats (ps.drop (k + 1)) = (dats ps).drop (k + 1) := by rw [dats_eq, dats_eq, List.map_drop]
  rw [e1, e2]
  exact (datAll_take _ d).append (datAll_drop _ d)

section
variable {X : Wd} {tabs : Nat → List P} {h₀ : Heap} {L : Addr} {m : Str → Option Value} {mu ext imm : List (Addr × Obj)} {H : List O} {s : Shared} {A : Around} {E : Value → Shared → Prop}
/-- an object of the abstract heap is changed -/
theorem St.setL (t : St X h₀ L m mu ext imm H s) {r : Nat} {a : Addr} {o : Obj} {vs : List Value} {n : Nat} {ps : List P} {h' : Heap} (h : mu[r]? = some (a, o)) (F : Fr h₀ L h' m) (N : News h₀ L h' (mu.set r (a, listOf vs.toArray n) ++ (ext ++ imm)))
    (hd : DatAll imm vs (dats ps)) (k : Nat) : St X h₀ L m (mu.set r (a, listOf vs.toArray n)) ext imm (H.set r (.list ps)) { s with heap := h', toks := k } := t.upd h F N (.list hd) k
theorem op_append (t : St X h₀ L m mu ext imm H s) {r : Nat} {l : List P} (h1 : getL H r = some l) (hk : ok l.length = true) {x : P} {a : Addr} {y : Value} (ha : (mu.map Prod.fst)[r]? = some a) (ry : DatIn imm y x.dat) {Q : Value → Shared → Prop}
    (hQ : ∀ mu' s', St X h₀ L m mu' ext imm (H.set r (.list (l ++ [x]))) s' → Gw mu imm mu' imm → Q .none s') :
    wpAny (model X.prog X.w) A (call (.builtin "list.append") [.ref a, y]) Q E s := by
  have hk := of_ok hk
  obtain ⟨b, vs, n, e1, d1, l1, m1, i1⟩ := t.lst h1
  have : b = a := by rw [List.getElem?_map, e1] at ha; cases ha; rfl
  subst this
  have e : vs.toArray.push y = (vs ++ [y]).toArray := by simp
  refine append_K t.fr t.nw (t.updOf (listOf (vs.toArray.push y) (n + 1)) e1) (fun h' F N => ?_) (by rw [List.size_toArray, sizeLine_eq]; lia)
  rw [e] at N
  exact hQ _ _ (t.setL e1 F N (by rw [dats_append]; exact d1.append (.one ry)) s.toks) (gw_set e1)
theorem notTooLong {a b : Nat} (h : a + b ≤ 1000000) : Builtin.List.listTooLong (a + b) = false := by
  unfold Builtin.List.listTooLong
  rw [sizeLine_eq]
  exact decide_eq_false (by lia)
theorem pStrs_map {l : List P} {tb : List (List Nat)} (h : pStrs l = some tb) : l = tb.map P.str := by
  induction l generalizing tb with
  | nil => cases h; rfl
  | cons a r ih =>
    cases a with
    | str x =>
      obtain ⟨y, h1, rfl⟩ := Option.map_eq_some_iff.mp h
      rw [ih h1]; rfl
    | _ => first | exact no h | exact nob h | cases h
theorem op_translate (TT : Tabs X tabs) (I : X.In h₀) (t : St X h₀ L m mu ext imm H s) {l : List Nat} {g : Nat} {tb : List (List Nat)} (h1 : pStrs (tabs g) = some tb) (hl : l.length + tb.length ≤ 1000000) (hc : ∀ c ∈ l, c < tb.length)
    (ht : ∀ x ∈ tb, x ≠ [] ∧ x.length ≤ 4) {a : Addr} (ha : X.T g = some a) {u : Tok} {Q : Value → Shared → Prop} (hQ : ∀ t' k, Q (.str (S (l.flatMap fun c => tb.getD c [])) t') { s with toks := k }) :
    wpAny (model X.prog X.w) A (call (.builtin "str.translate") [.str (S l) u, .ref a]) Q E s := by
  obtain ⟨vs, n, hk, hd⟩ := TT.at_ g a ha
  have il : s.heap.IsList a vs.toArray := ⟨_, t.kin I _ _ hk, rfl, n, rfl⟩
  refine op_translate' il (by lia) (by lia) hc (fun x hx => (ht x hx).2) (fun c x hx => ?_) hQ
  have hp : (tabs g)[c]? = some (.str x) := by rw [pStrs_map h1, List.getElem?_map, hx]; rfl
  obtain ⟨z, hz, rz⟩ := datAll_get hd hp
  cases rz
  exact ⟨_, by simpa using hz⟩
section
variable {r : V × List O} {v : V} {vs : List V} {y : Value} {ys : List Value} {l : List Nat} {u : Tok} {Q : Value → Shared → Prop}
theorem sm_translate' (TT : Tabs X tabs) (I : X.In h₀) (hv : smT tabs .translate l vs H = some r) (t : St X h₀ L m mu ext imm H s) (rs : VRs X imm (mu.map Prod.fst) vs ys) (hQ : Post X h₀ L m mu ext imm r Q) :
    wpAny (model X.prog X.w) A (call (.builtin "str.translate") (.str (S l) u :: ys)) Q E s := by
  refine bindE hv fun v e hv => bindE hv fun g e2 hv => bindE hv fun tb h1 hv => iteE hv fun hk hv2 => andE hk fun hk k3 => andE hk fun k1 k2 => ?_
  apply oneE e rs
  intro y r1
  cases v with
  | glob g' =>
    cases e2
    obtain ⟨a, ha, rfl⟩ := r1
    refine op_translate TT I t h1 (of_ok k1) (fun c hc => of_decide_eq_true (List.all_eq_true.mp k2 c hc)) (fun x hx => ?_) ha fun t' k => hQ.p hv2 t (.str _ _)
    refine andE (List.all_eq_true.mp k3 x hx) fun p1 p2 => ⟨?_, of_decide_eq_true p2⟩
    rintro rfl
    cases p1
  | _ => first | exact no e2 | exact nob e2 | cases e2
theorem sm_splitlines (hv : smT tabs .splitlines l vs H = some r) (t : St X h₀ L m mu ext imm H s) (rs : VRs X imm (mu.map Prod.fst) vs ys) (hQ : Post X h₀ L m mu ext imm r Q) :
    wpAny (model X.prog X.w) A (call (.builtin "str.splitlines") (.str (S l) u :: ys)) Q E s := by
  refine bindE hv fun _ e hv => iteE hv fun hk hv => andE hk fun k1 k2 => ?_
  apply nulE e rs
  have k1 := of_ok k1
  refine splitlinesNA t.fr t.nw (fun ls h' k e1 e2 _ _ F N => ?_) (by rw [S_len, sizeLine_eq]; lia)
  rw [S_lines l k2] at e1
  rw [e1] at e2
  exact t.newL (n := 0) F N t.lt (datAll_strs e2) k (hQ.of hv)
theorem sm_split (hv : smT tabs .split l vs H = some r) (t : St X h₀ L m mu ext imm H s) (rs : VRs X imm (mu.map Prod.fst) vs ys) (hQ : Post X h₀ L m mu ext imm r Q) :
    wpAny (model X.prog X.w) A (call (.builtin "str.split") (.str (S l) u :: ys)) Q E s := by
  refine bindE hv fun v e hv => bindE hv fun z e2 hv => iteE hv fun hk hv => andE hk fun k1 k2 => ?_
  apply oneE e rs
  intro y r1
  apply str_E e2 r1
  intro t1
  have k1 := of_ok k1
  have k2 : z ≠ [] := by rintro rfl; cases k2
  refine splitN1A t.fr t.nw ?_ (fun ls h' k e1 e2 _ _ F N => ?_) (by rw [S_len, sizeLine_eq]; lia)
  · rw [S_len]; exact beq_eq_false_iff_ne.mpr fun h => k2 (List.length_eq_zero_iff.mp h)
  · rw [S_split _ _ k2] at e1
    rw [e1] at e2
    exact t.newL (n := 0) F N t.lt (datAll_strs e2) k (hQ.of hv)
theorem sm_join (hv : smT tabs .join l vs H = some r) (t : St X h₀ L m mu ext imm H s) (rs : VRs X imm (mu.map Prod.fst) vs ys) (hQ : Post X h₀ L m mu ext imm r Q) :
    wpAny (model X.prog X.w) A (call (.builtin "str.join") (.str (S l) u :: ys)) Q E s := by
  refine bindE hv fun v e hv => bindE hv fun x h1 hv => bindE hv fun xs h2 hv => iteE hv fun hk hv => ?_
  apply oneE e rs
  intro y r1
  apply t.lstE h1 r1
  intro i a1 vs n1 w
  obtain ⟨ls, q1, q2⟩ := strValues_of (strsAre_of w.d h2)
  subst q1
  exact SC.join w.i q2 (joinOk_of (of_ok hk)) fun t' k => hQ.p hv t (by rw [S_glued]; exact .str _ _)
theorem op_smT (TT : Tabs X tabs) (I : X.In h₀) {b : SM} (hb : b ≠ .replace) (hv : smT tabs b l vs H = some r) (t : St X h₀ L m mu ext imm H s) (rs : VRs X imm (mu.map Prod.fst) vs ys) (hQ : Post X h₀ L m mu ext imm r Q) :
    wpAny (model X.prog X.w) A (call (.builtin (smId b)) (.str (S l) u :: ys)) Q E s := by
  cases b with
  | translate => exact sm_translate' TT I hv t rs hQ
  | splitlines => exact sm_splitlines hv t rs hQ
  | rstrip =>
    refine bindE hv fun _ e hv => iteE hv fun hk hv => andE hk fun k1 k2 => ?_
    apply nulE e rs
    have k1 := of_ok k1
    exact SCL.rstrip (fun t' k _ => hQ.p hv t (by rw [S_rstrip l k2]; exact .str _ _)) (by rw [S_len, sizeLine_eq]; exact Nat.le_trans ‹_› (by decide))
  | endswith =>
    refine bindE hv fun v e hv => bindE hv fun z e2 hv => ?_
    apply oneE e rs
    intro y r1
    apply str_E e2 r1
    intro t1
    exact SC.endswith (by rw [S_endswith]; exact hQ.p (k := s.toks) hv t (.bool _))
  | replace => exact absurd rfl hb
  | split => exact sm_split hv t rs hQ
  | join => exact sm_join hv t rs hQ
  | _ => first | exact no hv | exact nob hv | cases hv
variable {i : Nat} {a1 : Addr} {v1 : List Value} {n1 : Nat} {ps : List P}
theorem sm_extend (hv : smR .extend i ps v H = some r) (t : St X h₀ L m mu ext imm H s) (w : LAt mu ext imm s i ps a1 v1 n1) (r1 : VRel X imm (mu.map Prod.fst) v y) (hQ : Post X h₀ L m mu ext imm r Q) :
    wpAny (model X.prog X.w) A (call (.builtin "list.extend") [.ref a1, y]) Q E s := by
  refine bindE hv fun q e hv => bindE hv fun l2 h2 hv => iteE hv fun hk hv => andE hk fun k1 k2 => ?_
  have k1 := of_ok k1
  rw [rf_eq e] at r1
  apply t.refE h2 r1
  intro a2 v2 n2 w2
  have hl1 := w.l
  have hl2 := w2.l
  have big : ¬(!v1.toArray.isEmpty && Builtin.List.listTooLong (v1.toArray.size + v2.toArray.size)) = true := by
    rw [notTooLong (by simp only [List.size_toArray]; lia), Bool.and_false]; exact Bool.false_ne_true
  by_cases hz : v2 = []
  · subst hz
    cases List.length_eq_zero_iff.mp hl2.symm
    refine kxn_extend t.fr t.nw w2.m rfl (t.updOf (listOf v1.toArray n1) w.e) big (by simp only [sizeLine_eq]; lia) (by simp only [List.size_toArray, sizeLine_eq]; lia) fun h' F N => ?_
    exact hQ.of hv _ _ _ _ (t.setL w.e F N (by rw [List.append_nil]; exact w.d) s.toks) (gw_set w.e) .none
  · refine kl_extend t.fr t.nw w2.m rfl (by simpa using hz) (t.updOf (listOf (v1 ++ v2).toArray (n1 + 1)) w.e) big (by simp only [sizeLine_eq]; lia) (by simp only [List.size_toArray, sizeLine_eq]; lia) fun h' F N => ?_
    exact hQ.of hv _ _ _ _ (t.setL w.e F N (by rw [dats_append]; exact w.d.append w2.d) s.toks) (gw_set w.e) .none
theorem sm_pop (hv : smR .pop i ps v H = some r) (t : St X h₀ L m mu ext imm H s) (w : LAt mu ext imm s i ps a1 v1 n1) (r1 : VRel X imm (mu.map Prod.fst) v y) (hQ : Post X h₀ L m mu ext imm r Q) :
    wpAny (model X.prog X.w) A (call (.builtin "list.pop") [.ref a1, y]) Q E s := by
  refine bindE hv fun k e hv => iteE hv fun hk hv => andE hk fun k1 k2 => bindE hv fun x h2 hv => ?_
  have k1 := of_ok k1
  have k2 := of_decide_eq_true k2
  apply int_E e r1
  intro t1
  have hl := w.l
  have hlt : k.toNat < v1.length := by omega
  obtain ⟨z, hz, rz⟩ := datAll_get w.d h2
  have ez : v1[k.toNat] = z := by rw [List.getElem?_eq_getElem hlt] at hz; exact Option.some.inj hz
  refine kl_popAt t.fr t.nw ?_ ?_ (kl_cut_at hlt) (t.updOf (listOf (v1.take k.toNat ++ v1.drop (k.toNat + 1)).toArray (n1 + 1)) w.e) (by simp only [sizeLine_eq]; lia) fun h' F N => ?_
  · unfold Builtin.List.listFitsIndex
    rw [Bool.and_eq_true, decide_eq_true_eq, decide_eq_true_eq]; omega
  · rw [List.size_toArray]
    unfold seqIndex?
    simp only [if_neg (show ¬ k < 0 by omega)]
    simp
    omega
  · rw [ez]
    exact hQ.of hv _ _ _ _ (t.setL w.e F N (datAll_erase w.d _) s.toks) (gw_set w.e) rz
theorem op_smR {b : SM} (hv : smR b i ps v H = some r) (h1 : getL H i = some ps) (t : St X h₀ L m mu ext imm H s) (w : LAt mu ext imm s i ps a1 v1 n1) (r1 : VRel X imm (mu.map Prod.fst) v y) (hQ : Post X h₀ L m mu ext imm r Q) :
    wpAny (model X.prog X.w) A (call (.builtin (smId b)) [.ref a1, y]) Q E s := by
  cases b with
  | append =>
    refine bindE hv fun x e hv => iteE hv fun hk hv => ?_
    exact op_append t h1 hk (by rw [List.getElem?_map, w.e]; rfl) (dat_E e r1) fun mu' s' t' g => hQ.of hv _ _ _ _ t' g .none
  | extend => exact sm_extend hv t w r1 hQ
  | pop => exact sm_pop hv t w r1 hQ
  | _ => first | exact no hv | exact nob hv | cases hv
end
theorem op_sm (TT : Tabs X tabs) (I : X.In h₀) {b : SM} (hb : b ≠ .replace) {o : V} {vs : List V} {v : V} {H' : List O} (hv : smV tabs b o vs H = some (v, H')) (t : St X h₀ L m mu ext imm H s) {n : Nat} (R : Room A n) {y : Value} {ys : List Value}
    (ro : VRel X imm (mu.map Prod.fst) o y) (ra : VRs X imm (mu.map Prod.fst) vs ys) {Q : Value → Shared → Prop}
    (hQ : Post X h₀ L m mu ext imm (v, H') Q) :
    wpAny (model X.prog X.w) A (call (.builtin (smId b)) (y :: ys)) Q E s := by
  cases o with
  | p x =>
    refine bindE hv fun l e hv => ?_
    apply pstr_E e ro
    intro tk
    exact op_smT TT I hb hv t ra hQ
  | ref r =>
    refine bindE hv fun l h1 hv => bindE hv fun w e hv => ?_
    apply t.refE h1 ro
    intro a1 v1 n1 w1
    apply oneE e ra
    intro z rz
    exact op_smR hv h1 t w1 rz hQ
  | _ => first | exact no hv | exact nob hv | cases hv
end
end Mine
end
section
open PySem PySem.W PyProof.Rows PyProof.V
set_option Elab.async false
set_option genSizeOf false
set_option maxRecDepth 20000
namespace Mine

structure EnvOk (c : Ce) (env : Env) : Prop where
  sc : env.scope = c.sc
  gl : env.globals = mainGlobals
  bi : env.builtins = builtinsNs
  fn : c.sc.kind = .function
  nd : c.nm.Nodup
theorem EnvOk.kind {c : Ce} {env : Env} (e : EnvOk c env) (x : Str) : env.kindOf x = c.kind x := by unfold Env.kindOf Ce.kind; rw [e.sc]
theorem EnvOk.fn' {c : Ce} {env : Env} (e : EnvOk c env) : env.scope.kind = .function := by rw [e.sc]; exact e.fn
theorem EnvOk.inter {c : Ce} {env : Env} (e : EnvOk c env) : interactive env = false := by unfold interactive; rw [e.fn']; rfl

structure At (X : Wd) (c : Ce) (env : Env) (h₀ : Heap) (m : Str → Option Value) (ext : List (Addr × Obj)) (loc : List (Option V)) (mu imm : List (Addr × Obj)) (H : List O) (s : Shared) : Prop where
  st : St X h₀ env.locals m mu ext imm H s
  tk : 1 ≤ s.toks
  lr : LRel X c.nm env m imm (mu.map Prod.fst) loc
theorem At.step {X c env h₀ m ext loc mu imm H s mu' imm' H' s'} (a : At X c env h₀ m ext loc mu imm H s) (t : St X h₀ env.locals m mu' ext imm' H' s') (k : 1 ≤ s'.toks) (g : Gw mu imm mu' imm') : At X c env h₀ m ext loc mu' imm' H' s' :=
  ⟨t, k, a.lr.gw g⟩

noncomputable def SE (X : Wd) (n : Nat) (c : Ce) (env : Env) (e : PySem.Expr) (loc : List (Option V)) (H : List O) (v : V) (H' : List O) : Prop :=
  ∀ ⦃A : Around⦄ ⦃h₀ : Heap⦄ ⦃m : Str → Option Value⦄ ⦃mu ext imm : List (Addr × Obj)⦄ ⦃s : Shared⦄ ⦃Q : Value → Shared → Prop⦄ ⦃E : Value → Shared → Prop⦄,
    Room A n → X.In h₀ → At X c env h₀ m ext loc mu imm H s →
    (∀ mu' imm' y s', At X c env h₀ m ext loc mu' imm' H' s' → Gw mu imm mu' imm' → VRel X imm' (mu'.map Prod.fst) v y → Q y s') →
    wpAny (model X.prog X.w) A (eval e env) Q E s
/-- a list of expressions, in the way of a call's arguments -/
noncomputable def SEs (X : Wd) (n : Nat) (c : Ce) (env : Env) (es : List PySem.Expr) (loc : List (Option V)) (H : List O) (vs : List V) (H' : List O) : Prop :=
  ∀ ⦃A : Around⦄ ⦃h₀ : Heap⦄ ⦃m : Str → Option Value⦄ ⦃mu ext imm : List (Addr × Obj)⦄ ⦃s : Shared⦄ ⦃Q : List Value → Shared → Prop⦄ ⦃E : Value → Shared → Prop⦄,
    Room A n → X.In h₀ → At X c env h₀ m ext loc mu imm H s →
    (∀ mu' imm' ys s', At X c env h₀ m ext loc mu' imm' H' s' → Gw mu imm mu' imm' → VRs X imm' (mu'.map Prod.fst) vs ys → Q ys s') →
    wpAny (model X.prog X.w) A (spliced (es.map fun e => (false, eval e env))) Q E s
noncomputable def ST (X : Wd) (n : Nat) (c : Ce) (env : Env) (e : PySem.Expr) (loc : List (Option V)) (H : List O) (b : Bool) (H' : List O) : Prop :=
  ∀ ⦃A : Around⦄ ⦃h₀ : Heap⦄ ⦃m : Str → Option Value⦄ ⦃mu ext imm : List (Addr × Obj)⦄ ⦃s : Shared⦄ ⦃Q : Bool → Shared → Prop⦄ ⦃E : Value → Shared → Prop⦄,
    Room A n → X.In h₀ → At X c env h₀ m ext loc mu imm H s →
    (∀ mu' imm' s', At X c env h₀ m ext loc mu' imm' H' s' → Gw mu imm mu' imm' → Q b s') →
    wpAny (model X.prog X.w) A (isTrue e env (eval e env)) Q E s

noncomputable def CallS (X : Wd) (n : Nat) (a : Addr) (vs : List V) (H : List O) (v : V) (H' : List O) : Prop :=
  ∀ ⦃A : Around⦄ ⦃h₀ : Heap⦄ ⦃L : Addr⦄ ⦃m : Str → Option Value⦄ ⦃mu ext imm : List (Addr × Obj)⦄ ⦃s : Shared⦄ ⦃ys : List Value⦄ ⦃R : Result → Shared → Prop⦄,
    Room A n → X.In h₀ → St X h₀ L m mu ext imm H s → 1 ≤ s.toks → VRs X imm (mu.map Prod.fst) vs ys →
    (∀ mu' imm' y s', St X h₀ L m mu' ext imm' H' s' → 1 ≤ s'.toks → Gw mu imm mu' imm' → VRel X imm' (mu'.map Prod.fst) v y → R (.ok (.ret y)) s') →
    codeAny (model X.prog X.w) A (.call (.ref a) ⟨ys, []⟩) R s

/-- what the global names stand for, the calls' contracts -/
noncomputable def GVOk (X : Wd) (fa : Nat → Addr) (x : Str) : GV → Prop
  | .const p => ∃ v, nsIn X.K mainGlobals x = some (some v) ∧ DatIn [] v p.dat
  | .tab i => ∃ a, nsIn X.K mainGlobals x = some (some (.ref a)) ∧ X.T i = some a
  | .defn f => nsIn X.K mainGlobals x = some (some (.ref (fa f))) ∧ keepIn X.K (.ref (fa f)) = true
  | .cls at_ => nsIn X.K mainGlobals x = some (some (.ref X.C)) ∧ keepIn X.K (.ref X.C) = true ∧
      ∃ mc, typeIn X.K (.ref X.C) = some mc ∧ readsIn X.K X.C mc = true ∧ ∀ n p, at_.lookup n = some p → ∃ v, findCls X.K (.ref X.C) mc n = some (.val v) ∧ handedIn v = true ∧ DatIn [] v p.dat
  | .bi b _ => nsIn X.K mainGlobals x = some none ∧ bootBuiltins x = some (biVal b) ∧ x ≠ "__name__" ∧ ∃ i, biVal b = .builtin i
  | .ty b _ => nsIn X.K mainGlobals x = some none ∧ bootBuiltins x = some (biVal b) ∧ x ≠ "__name__" ∧ ∃ i, biVal b = .type i
structure MethOk (X : Wd) (fa : Nat → Addr) (x : Str) (f : Nat) : Prop where
  plain : plainGet X.K X.C x = true
  find : findIn X.K (.ref X.C) x = some (some (.ref (fa f)))
  fn : isFn X.K (.ref (fa f)) = true
  keep : keepIn X.K (.ref (fa f)) = true
structure ClsOk (X : Wd) (fa : Nat → Addr) (init : Nat) : Prop where
  makes : makesIn X.K X.C = true
  ini : findIn X.K (.ref X.C) "__init__" = some (some (.ref (fa init)))
  fn : typeIn X.K (.ref (fa init)) = some (.type "function")
  hasDict : hasDictIn X.K X.C = true
  set_ : findIn X.K (.ref X.C) "__setattr__" = some (some (.builtin "object.__setattr__"))
  over : plainOver X.K X.C = true
/-- a name that the instances bear, read and stored -/
structure FldOk (X : Wd) (x : Str) : Prop where
  plain : plainGet X.K X.C x = true
  find : findIn X.K (.ref X.C) x = some none
  taker : takerIn X.K X.C x = some none
structure GOk (X : Wd) (fa : Nat → Addr) (gl : List (Str × GV)) (ml : List (Str × Nat)) (fl : List Str) (g : G) (n : Nat) : Prop where
  fld : ∀ x ∈ fl, FldOk X x
  gv : ∀ x v, gl.lookup x = some v → GVOk X fa x v
  meth : ∀ x f, ml.lookup x = some f → MethOk X fa x f
  cls : ClsOk X fa g.init
  tabs : Tabs X g.tabs
  call : ∀ f vs H v H', g.call f vs H = some (v, H') → CallS X n (fa f) vs H v H'

section
variable {X : Wd} {n : Nat} {c : Ce} {env : Env} {loc : List (Option V)} {H H' : List O} {A : Around} {h₀ : Heap} {m : Str → Option Value} {mu ext imm : List (Addr × Obj)} {s : Shared} {E : Value → Shared → Prop}

theorem idxS_get : ∀ {l : List Str} {x : Str} {i : Nat}, idxS x l = some i → l[i]? = some x
  | y :: r, x, i, h => by
    unfold idxS at h
    split at h
    · rename_i e; cases h; simp [eq_of_beq e]
    · obtain ⟨j, hj, rfl⟩ := Option.map_eq_some_iff.mp h
      simpa using idxS_get hj
theorem At.local_ (eo : EnvOk c env) (a : At X c env h₀ m ext loc mu imm H s) {x : Str} {i : Nat} {v : V} (hk : c.kind x = some .local) (hs : c.slot x = some i) (hv : loc[i]? = some (some v)) {pos : Pos} (hd : (x == ("__debug__" : Str)) = false) {Q : Value → Shared → Prop}
    (hQ : ∀ y, VRel X imm (mu.map Prod.fst) v y → Q y s) : wpAny (model X.prog X.w) A (eval (.Name x pos) env) Q E s := by
  obtain ⟨y, hy, ry⟩ := (a.lr i v x hv (idxS_get hs)).1 ((eo.kind x).trans hk)
  exact wpAny_Name (wpAny_loadName_local eo.fn' ((eo.kind x).trans hk) a.st.fr.ns hy (hQ y ry)) hd

theorem At.cell_ (eo : EnvOk c env) (a : At X c env h₀ m ext loc mu imm H s) {x : Str} {i r : Nat} {p : P} (hk : c.kind x = some .cell) (hs : c.slot x = some i) (hv : loc[i]? = some (some (.ref r))) (hr : H[r]? = some (.cell (some p)))
    {pos : Pos} (hd : (x == ("__debug__" : Str)) = false) {Q : Value → Shared → Prop} (hQ : ∀ y, DatIn imm y p.dat → Q y s) : wpAny (model X.prog X.w) A (eval (.Name x pos) env) Q E s := by
  obtain ⟨r', d, e1, e2, e3⟩ := (a.lr i _ x hv (idxS_get hs)).2 (.inl ((eo.kind x).trans hk))
  cases e1
  obtain ⟨en, he, ho⟩ := a.st.mr.get hr
  rw [List.getElem?_map, he] at e3
  cases e3
  cases ho with
  | cellS hc hd2 =>
    rename_i d o v
    have hm : (d, o) ∈ mu ++ (ext ++ imm) := List.mem_append_left _ (List.mem_of_getElem? he)
    exact wpAny_Name (wpAny_loadName_cell eo.fn' ((eo.kind x).trans hk) e2 ⟨_, (a.st.nw _ hm).1, hc⟩ (hQ v hd2)) hd
theorem At.glob_ (eo : EnvOk c env) (I : X.In h₀) (a : At X c env h₀ m ext loc mu imm H s) {x : Str} {v : Value} (hk : c.kind x = some .globalImplicit) (hv : nsIn X.K mainGlobals x = some (some v))
    {pos : Pos} (hd : (x == ("__debug__" : Str)) = false) {Q : Value → Shared → Prop} (hQ : Q v s) : wpAny (model X.prog X.w) A (eval (.Name x pos) env) Q E s :=
  nameG_K (p := X.p) (loose := X.loose) (mb := X.mb) a.st.fr I.k I.t hv hQ eo.gl eo.fn' ((eo.kind x).trans hk) hd
theorem At.blt_ (eo : EnvOk c env) (I : X.In h₀) (a : At X c env h₀ m ext loc mu imm H s) {x : Str} {v : Value} (hk : c.kind x = some .globalImplicit) (hv : nsIn X.K mainGlobals x = some none) (hb : bootBuiltins x = some v) (hn : x ≠ "__name__")
    {pos : Pos} (hd : (x == ("__debug__" : Str)) = false) {Q : Value → Shared → Prop} (hQ : Q v s) : wpAny (model X.prog X.w) A (eval (.Name x pos) env) Q E s :=
  Calls.Name_function_global eo.fn' ((eo.kind x).trans hk)
    (Calls.loadGlobal_builtin (env := env) (by rw [eo.gl]; exact I.t.g.keeps a.st.fr.keep) (mg_none_of I.k I.t.g hv) (by rw [eo.bi]; exact I.t.b.keeps a.st.fr.keep) ((I.t.builtins x hn).trans hb) hQ) hd

theorem St.newRef {L : Addr} (t : St X h₀ L m mu ext imm H s) (e : Addr × Obj) : VRel X imm ((mu ++ [e]).map Prod.fst) (.ref H.length) (.ref e.1) := ⟨e.1, by rw [← t.mr.length]; simp, rfl⟩
theorem se_const {k : Const} {p : P} (h : litOf k = some p) {i : Nat} {pos : Pos} : SE X n c env (.Constant k i pos) loc H (.p p) H := by
  intro A h₀ m mu ext imm s Q E R I a hQ
  refine wpAny_with_toks a.tk ?_
  have fin : ∀ (y : Value) (tk : Nat), DatIn imm y p.dat → 1 ≤ tk → Q y { s with toks := tk } := fun y tk hy htk => hQ _ _ _ _ (a.step (a.st.tok tk) htk .refl) .refl hy
  cases k <;> cases h
  · exact fun Γ q _ => fun _ => fin .none s.toks .none a.tk
  · exact fun Γ q _ => fun _ => fin _ s.toks (.bool _) a.tk
  · exact wpAny_Constant_int fun hk => fin _ _ (.int _ _) hk
  · exact wpAny_Constant_str fun hk => fin _ _ (by rw [P.dat, S_of]; exact .str _ _) hk
theorem se_bin {l r : PySem.Expr} {op : Operator} {o : BOp} {pos : Pos} {H₁ H₂ : List O} {x y v : V} (hop : bopOf op = some o) (hl : SE X n c env l loc H x H₁) (hr : SE X n c env r loc H₁ y H₂) (hv : binV o x y H₂ = some (v, H')) :
    SE X n c env (.BinOp l op r pos) loc H v H' := by
  intro A h₀ m mu ext imm s Q E R I a hQ
  refine wpAny_with_toks a.tk (wpAny_BinOp (hl R I a fun mu1 imm1 y1 s1 a1 g1 r1 => hr R I a1 fun mu2 imm2 y2 s2 a2 g2 r2 => ?_))
  refine wpAny_with_toks a2.tk (op_bin hop hv a2.st (r1.gw g2) r2 fun mu3 imm3 z s3 t3 g3 r3 k3 _ => ?_)
  exact hQ _ _ _ _ (a2.step t3 k3 g3) ((g1.trans g2).trans g3) r3
theorem se_cmp {l r : PySem.Expr} {op : CmpOp} {pos : Pos} {H₁ : List O} {x y : V} {b : Bool} (hs : isSetE r = false) (hl : SE X n c env l loc H x H₁) (hr : SE X n c env r loc H₁ y H') (hv : cmpV (copOf op) x y H' = some b) :
    SE X n c env (.Compare l [op] [r] pos) loc H (.p (.bool b)) H' := by
  intro A h₀ m mu ext imm s Q E R I a hQ
  have hm : behindInMarks op r = false := by cases r <;> first | rfl | exact no hs | exact nob hs | cases hs
  refine wpAny_Compare1 (hl R I a fun mu1 imm1 y1 s1 a1 g1 r1 => hr R I a1 fun mu2 imm2 y2 s2 a2 g2 r2 => ?_) hm
  refine wpAny_with_toks a2.tk (op_cmp hv a2.st R (r1.gw g2) r2 fun k hk => ?_)
  exact hQ _ _ _ _ (a2.step (a2.st.tok k) hk .refl) (g1.trans g2) (.bool b)
theorem st_cmp {l r : PySem.Expr} {op : CmpOp} {pos : Pos} {H₁ : List O} {x y : V} {b : Bool} (hs : isSetE r = false) (hl : SE X n c env l loc H x H₁) (hr : SE X n c env r loc H₁ y H') (hv : cmpV (copOf op) x y H' = some b) :
    ST X n c env (.Compare l [op] [r] pos) loc H b H' := by
  intro A h₀ m mu ext imm s Q E R I a hQ
  have hm : behindInMarks op r = false := by cases r <;> first | rfl | exact no hs | exact nob hs | cases hs
  refine wpAny_isTrue_Compare1 (hl R I a fun mu1 imm1 y1 s1 a1 g1 r1 => hr R I a1 fun mu2 imm2 y2 s2 a2 g2 r2 => ?_) hm
  refine wpAny_with_toks a2.tk (op_cmp hv a2.st R (r1.gw g2) r2 fun k hk => ?_)
  exact wpAny_truthy_bool (hQ _ _ _ (a2.step (a2.st.tok k) hk .refl) (g1.trans g2))
theorem se_neg {e : PySem.Expr} {pos : Pos} {i : Int} (he : SE X n c env e loc H (.p (.int i)) H') : SE X n c env (.UnaryOp .USub e pos) loc H (.p (.int (-i))) H' := by
  intro A h₀ m mu ext imm s Q E R I a hQ
  refine wpAny_UnaryOp (he R I a fun mu1 imm1 y1 s1 a1 g1 r1 => ?_)
  cases r1
  refine wpAny_with_toks a1.tk (neg_int fun hk => ?_)
  exact hQ _ _ _ _ (a1.step (a1.st.tok _) hk .refl) g1 (.int _ _)
theorem se_ife {t x y : PySem.Expr} {pos : Pos} {b : Bool} {H₁ : List O} {v : V} (ht : ST X n c env t loc H b H₁) (hx : b = true → SE X n c env x loc H₁ v H') (hy : b = false → SE X n c env y loc H₁ v H') :
    SE X n c env (.IfExp t x y pos) loc H v H' := by
  intro A h₀ m mu ext imm s Q E R I a hQ
  refine wpAny_IfExp (ht R I a fun mu1 imm1 s1 a1 g1 => ?_)
  cases b with
  | true => exact hx rfl R I a1 fun mu2 imm2 y2 s2 a2 g2 r2 => hQ _ _ _ _ a2 (g1.trans g2) r2
  | false => exact hy rfl R I a1 fun mu2 imm2 y2 s2 a2 g2 r2 => hQ _ _ _ _ a2 (g1.trans g2) r2
theorem st_not {e : PySem.Expr} {pos : Pos} {b : Bool} (he : ST X n c env e loc H b H') : ST X n c env (.UnaryOp .Not e pos) loc H (!b) H' := by
  intro A h₀ m mu ext imm s Q E R I a hQ
  exact wpAny_isTrue_Not (he R I a fun mu1 imm1 s1 a1 g1 => hQ _ _ _ a1 g1)
noncomputable def plainT : PySem.Expr → Bool
  | .UnaryOp .Not _ _ | .BoolOp .. | .IfExp .. | .Compare .. => false
  | _ => true
theorem st_val {e : PySem.Expr} {v : V} {b : Bool} (hp : plainT e = true) (he : SE X n c env e loc H v H') (hv : truV v = some b) : ST X n c env e loc H b H' := by
  intro A h₀ m mu ext imm s Q E R I a hQ
  refine wpAny_isTrue_value (he R I a fun mu1 imm1 y1 s1 a1 g1 r1 => ?_) (by
    cases e <;> first | rfl | exact no hp | exact nob hp | cases hp | skip
    rename_i o x p; cases o <;> first | rfl | exact no hp | exact nob hp | cases hp)
  exact wpAny_with_toks a1.tk (op_truth hv a1.st r1 fun k hk => hQ _ _ _ (a1.step (a1.st.tok k) hk .refl) g1)
theorem ses_nil : SEs X n c env [] loc H [] H := by
  intro A h₀ m mu ext imm s Q E R I a hQ
  exact wpAny_pure (hQ _ _ _ _ a .refl .nil)
theorem ses_cons {e : PySem.Expr} {es : List PySem.Expr} {v : V} {vs : List V} {H₁ : List O} (he : SE X n c env e loc H v H₁) (hs : SEs X n c env es loc H₁ vs H') : SEs X n c env (e :: es) loc H (v :: vs) H' := by
  intro A h₀ m mu ext imm s Q E R I a hQ
  refine Calls.spliced_cons (he R I a fun mu1 imm1 y1 s1 a1 g1 r1 => hs R I a1 fun mu2 imm2 ys s2 a2 g2 r2 => ?_)
  exact hQ _ _ _ _ a2 (g1.trans g2) (.cons (r1.gw g2) r2)
theorem star_cons {e : PySem.Expr} (h : isStarE e = false) (r : List PySem.Expr) : starEach (e :: r) env = (false, eval e env) :: starEach r env := by
  cases e <;> first | rfl | exact no h | exact nob h | cases h
theorem star_plain {es : List PySem.Expr} : es.all (fun e => !isStarE e) = true → starEach es env = es.map fun e => (false, eval e env) := by
  induction es with
  | nil => exact fun _ => rfl
  | cons e r ih =>
    intro h
    obtain ⟨h1, h2⟩ := Bool.and_eq_true_iff.mp h
    rw [star_cons ((Bool.not_eq_true' _).mp h1), ih h2]
    rfl
theorem back_plain (pos : Pos) (es : List PySem.Expr) : backTo pos (es.map fun e => (false, eval e env)) = es.map fun e => (false, eval e env) := by
  unfold backTo; rw [List.map_map]; rfl
theorem allP_some : ∀ {vs : List V} {ps : List P}, allP vs = some ps → vs = ps.map .p
  | [], ps, h => by cases h; rfl
  | v :: r, ps, h => by
    cases v with
    | p x =>
      simp only [allP] at h
      obtain ⟨q, hq, rfl⟩ := Option.map_eq_some_iff.mp h
      rw [allP_some hq]; rfl
    | _ => simp [allP] at h
theorem VRs.dats {imm ad} : ∀ {ps : List P} {ys : List Value}, VRs X imm ad (ps.map .p) ys → DatAll imm ys (dats ps)
  | [], _, .nil => .nil
  | _ :: _, _, .cons a r => .cons a (VRs.dats r)
theorem se_tup {es : List PySem.Expr} {k : Nat} {pos : Pos} {vs : List V} {ps : List P} (hst : es.all (fun e => !isStarE e) = true) (hs : SEs X n c env es loc H vs H') (hp : allP vs = some ps) (hk : ok ps.length = true) :
    SE X n c env (.Tuple es k pos) loc H (.p (.tup ps)) H' := by
  intro A h₀ m mu ext imm s Q E R I a hQ
  refine wpAny_with_toks a.tk (wpAny_Tuple ?_)
  rw [star_plain hst, back_plain]
  refine hs R I a fun mu1 imm1 ys s1 a1 g1 r1 => ?_
  rw [allP_some hp] at r1
  have hl := r1.len
  rw [List.length_map] at hl
  refine ⟨by rw [sizeLine_eq]; have := of_ok hk; lia, fun hk2 => ?_⟩
  have N := a1.st.nw.push a1.st.fr (tupObj ys 0)
  exact hQ _ _ _ _ (a1.step (a1.st.addI (a1.st.fr.push _) N a1.st.lt s1.toks) a1.tk gw_imm) (g1.trans gw_imm) (.tuple (.head _) (r1.dats.mono fun _ h => .tail _ h))
theorem se_lst {es : List PySem.Expr} {pos : Pos} {vs : List V} {ps : List P} {H₁ : List O} (hst : es.all (fun e => !isStarE e) = true) (hs : SEs X n c env es loc H vs H₁) (hp : allP vs = some ps) (hk : ok ps.length = true) :
    SE X n c env (.List es pos) loc H (.ref H₁.length) (H₁ ++ [.list ps]) := by
  intro A h₀ m mu ext imm s Q E R I a hQ
  refine wpAny_List ?_
  rw [star_plain hst, back_plain]
  refine hs R I a fun mu1 imm1 ys s1 a1 g1 r1 => ?_
  rw [allP_some hp] at r1
  have hl := r1.len
  rw [List.length_map] at hl
  refine ⟨by rw [sizeLine_eq]; have := of_ok hk; lia, ?_⟩
  have N := a1.st.nw.push a1.st.fr (listOf ys.toArray 0)
  exact hQ _ _ _ _ (a1.step (a1.st.addM (a1.st.fr.push _) N a1.st.lt (.list r1.dats) s1.toks) a1.tk gw_mu) (g1.trans gw_mu) (a1.st.newRef _)
end
end Mine
end
section
open PySem PySem.W PyProof.Rows PyProof.V
set_option Elab.async false
set_option maxRecDepth 20000
namespace Mine
section
variable {X : Wd} {n : Nat} {c : Ce} {env : Env} {loc : List (Option V)} {H H' : List O} {A : Around} {h₀ : Heap} {m : Str → Option Value} {mu ext imm : List (Addr × Obj)} {s : Shared} {E : Value → Shared → Prop} {tabs : Nat → List P}

theorem se_idx (TT : Tabs X tabs) {v i : PySem.Expr} {pos : Pos} {a b r : V} {H₁ : List O} (hs : isSliceE i = false) (hv : SE X n c env v loc H a H₁) (hi : SE X n c env i loc H₁ b H') (hr : idxV tabs a b H' = some r) :
    SE X n c env (.Subscript v i pos) loc H r H' := by
  intro A h₀ m mu ext imm s Q E R I a0 hQ
  refine Subscript_ (hv R I a0 fun mu1 imm1 y1 s1 a1 g1 r1 => hi R I a1 fun mu2 imm2 y2 s2 a2 g2 r2 => ?_)
  refine wpAny_with_toks a2.tk (op_idx TT I hs hr a2.st (r1.gw g2) r2 fun z k hz hk => ?_)
  exact hQ _ _ _ _ (a2.step (a2.st.tok k) hk .refl) (g1.trans g2) hz

/-- a slice's bound -/
noncomputable def SB (X : Wd) (n : Nat) (c : Ce) (env : Env) (e : Option PySem.Expr) (loc : List (Option V)) (H : List O) (v : Option V) (H' : List O) : Prop :=
  ∀ ⦃A : Around⦄ ⦃h₀ : Heap⦄ ⦃m : Str → Option Value⦄ ⦃mu ext imm : List (Addr × Obj)⦄ ⦃s : Shared⦄ ⦃Q : Value → Shared → Prop⦄ ⦃E : Value → Shared → Prop⦄,
    Room A n → X.In h₀ → At X c env h₀ m ext loc mu imm H s →
    (∀ mu' imm' y s', At X c env h₀ m ext loc mu' imm' H' s' → Gw mu imm mu' imm' → BRel v y → Q y s') →
    wpAny (model X.prog X.w) A (evalPart e env) Q E s
theorem brel_of {v : V} {y : Value} {ad : List Addr} (r : VRel X imm ad v y) : BRel (some v) y := fun _ e => by
  apply int_E e r
  exact fun t => ⟨t, rfl⟩
theorem sb_none : SB X n c env none loc H none H := by
  intro A h₀ m mu ext imm s Q E R I a hQ
  exact wpAny_evalPart_none (hQ _ _ _ _ a .refl rfl)
theorem sb_some {e : PySem.Expr} {v : V} (he : SE X n c env e loc H v H') : SB X n c env (some e) loc H (some v) H' := by
  intro A h₀ m mu ext imm s Q E R I a hQ
  exact wpAny_evalPart_some (he R I a fun mu1 imm1 y1 s1 a1 g1 r1 => hQ _ _ _ _ a1 g1 (brel_of r1))
theorem se_sl {v : PySem.Expr} {lo hi : Option PySem.Expr} {p pos : Pos} {a r : V} {bl bh : Option V} {H₁ H₂ H₃ : List O} (hv : SE X n c env v loc H a H₁) (hl : SB X n c env lo loc H₁ bl H₂) (hh : SB X n c env hi loc H₂ bh H₃) (hr : slV a bl bh H₃ = some (r, H')) :
    SE X n c env (.Subscript v (.Slice lo hi none p) pos) loc H r H' := by
  intro A h₀ m mu ext imm s Q E R I a0 hQ
  refine Subscript_ (hv R I a0 fun mu1 imm1 y1 s1 a1 g1 r1 => wpAny_Slice (hl R I a1 fun mu2 imm2 y2 s2 a2 g2 r2 => hh R I a2 fun mu3 imm3 y3 s3 a3 g3 r3 => wpAny_evalPart_none ?_))
  refine wpAny_with_toks (n := 1) a3.tk (op_sl hr a3.st (r1.gw (g2.trans g3)) r2 r3 fun mu4 imm4 z s4 t4 g4 r4 k4 => ?_)
  exact hQ _ _ _ _ (a3.step t4 k4 g4) (((g1.trans g2).trans g3).trans g4) r4

/-! instances -/
theorem FRel_get : ∀ {es : List DictEntry} {fs : List (Str × P)} {x : Str}, FRel imm es fs → (∀ p, fs.lookup x = some p → ∃ v, W.getL x es = some (some v) ∧ DatIn imm v p.dat) ∧ (fs.lookup x = none → W.getL x es = some none)
  | _, _, x, .nil => ⟨fun p h => by simp at h, fun _ => rfl⟩
  | _, _, x, .cons (n := k) (es := es) (fs := fs) d r => by
    obtain ⟨i1, i2⟩ := FRel_get (x := x) r
    by_cases hk : x = k
    · subst hk
      constructor
      · intro p h
        rw [List.lookup_cons, beq_self_eq_true] at h
        cases h
        refine ⟨_, ?_, d⟩
        unfold W.getL
        rw [List.find?_cons]
        simp [Value.isStr]
      · intro h; rw [List.lookup_cons, beq_self_eq_true] at h; cases h
    · have hb : (x == k) = false := beq_eq_false_iff_ne.mpr hk
      have hb2 : (k == x) = false := beq_eq_false_iff_ne.mpr (Ne.symm hk)
      have e : ∀ h t v, W.getL x (⟨h, .str k t, v⟩ :: es) = W.getL x es := by
        intro h t v
        unfold W.getL
        rw [List.find?_cons]
        have : (DictEntry.key ⟨h, .str k t, v⟩).isStr x = false := hb2
        rw [this]
        have : (List.any (⟨h, .str k t, v⟩ :: es) fun x => x.refKey) = es.any fun x => x.refKey := by rw [List.any_cons]; rfl
        rw [this]
      rw [e]
      constructor
      · intro p h; rw [List.lookup_cons, hb] at h; exact i1 p h
      · intro h; rw [List.lookup_cons, hb] at h; exact i2 h
theorem FRel_put {v : Value} {p : P} (d : DatIn imm v p.dat) (x : Str) (hsh : Int) (t : Tok) : ∀ {es : List DictEntry} {fs : List (Str × P)}, FRel imm es fs → FRel imm (putL x hsh (.str x t) v es) (put fs x p)
  | _, _, .nil => .cons d .nil
  | _, _, .cons (n := k) (es := es) (fs := fs) d2 r => by
    unfold putL put
    by_cases hk : k = x
    · subst hk
      simp only [Value.isStr, beq_self_eq_true, if_true]
      exact .cons d r
    · have hb2 : (k == x) = false := beq_eq_false_iff_ne.mpr hk
      simp only [Value.isStr, hb2, Bool.false_eq_true, if_false]
      exact .cons d2 (FRel_put d x hsh t r)
theorem FRel_len : ∀ {es : List DictEntry} {fs : List (Str × P)}, FRel imm es fs → es.length = fs.length
  | _, _, .nil => rfl
  | _, _, .cons _ r => by simp [FRel_len r]
theorem put_len (fs : List (Str × P)) (x : Str) (p : P) : (put fs x p).length ≤ fs.length + 1 := by
  induction fs with
  | nil => simp [put]
  | cons a r ih =>
    unfold put
    split
    · simp
    · simp; exact ih

/-- a form of the abstract heap -/
theorem St.obj {L : Addr} (t : St X h₀ L m mu ext imm H s) {r : Nat} {fs : List (Str × P)} (h : getF H r = some fs) {v : Value} (hv : VRel X imm (mu.map Prod.fst) (.obj r) v) :
    ∃ x d es k, v = .ref x ∧ mu[r]? = some (d, dictOf es k) ∧ FRel imm es fs ∧ InstAt s.heap x (instObj X.C d) X.C (some (dictOf es k)) := by
  obtain ⟨e, he, ho⟩ := t.mr.get (getF_some h)
  cases ho with
  | inst hm hf =>
    rename_i x0 d es k
    obtain ⟨x, d', e1, rfl, hm2⟩ := hv
    rw [List.getElem?_map, he] at e1
    cases e1
    have hd : (d, dictOf es k) ∈ mu ++ (ext ++ imm) := List.mem_append_left _ (List.mem_of_getElem? he)
    exact ⟨x, d, es, k, rfl, he, hf, ⟨(t.nw _ (St.sub_imm _ hm2)).1, rfl, rfl, (t.nw _ hd).1⟩⟩
theorem handed_dat {v : Value} {d : Dat} (h : DatIn imm v d) : handedIn v = true := h.handed

theorem se_fld {fa : Nat → Addr} {init : Nat} (CO : ClsOk X fa init) {x a : Str} (FO : FldOk X a) {px pos : Pos} {r : Nat} {fs : List (Str × P)} {p : P} (hv : SE X n c env (.Name x px) loc H (.obj r) H') (hf : getF H' r = some fs) (hl : fs.lookup a = some p) :
    SE X n c env (.Attribute (.Name x px) a pos) loc H (.p p) H' := by
  intro A h₀ m mu ext imm s Q E R I a0 hQ
  refine Attribute_any_ (hv R I a0 fun mu1 imm1 y1 s1 a1 g1 r1 => ?_)
  obtain ⟨x', d, es, k, rfl, e1, hfr, hi⟩ := a1.st.obj hf r1
  obtain ⟨z, hz, rz⟩ := (FRel_get hfr).1 p hl
  refine wpAny_with_toks a1.tk (get_own (attr := none) a1.st.fr I.k hi FO.plain CO.hasDict FO.find rfl hz rz.handed fun hk => ?_)
  exact hQ _ _ _ _ (a1.step (a1.st.tok _) hk .refl) g1 rz
theorem se_cattr {x a : Str} {px pos : Pos} {at_ : List (Str × P)} {p : P} {fa : Nat → Addr} (eo : EnvOk c env) (hk : c.kind x = some .globalImplicit) (hd : (x == ("__debug__" : Str)) = false) (hg : GVOk X fa x (.cls at_)) (hl : at_.lookup a = some p) :
    SE X n c env (.Attribute (.Name x px) a pos) loc H (.p p) H := by
  intro A h₀ m mu ext imm s Q E R I a0 hQ
  obtain ⟨g1, g2, mc, g3, g4, g5⟩ := hg
  obtain ⟨v, h1, h2, h3⟩ := g5 a p hl
  refine Attribute_any_ (a0.glob_ eo I hk g1 hd ?_)
  refine wpAny_with_toks a0.tk (cls_val a0.st.fr I.k g3 g4 h1 h2 fun hk => ?_)
  exact hQ _ _ _ _ (a0.step (a0.st.tok _) hk .refl) .refl (h3.mono (List.forall_mem_nil _))
end
end Mine
end
section
open PySem PySem.W PyProof.Rows PyProof.V
set_option Elab.async false
set_option maxRecDepth 20000
namespace Mine
section
variable {X : Wd} {n : Nat} {c : Ce} {env : Env} {loc : List (Option V)} {H H' : List O} {A : Around} {h₀ : Heap} {m : Str → Option Value} {mu ext imm : List (Addr × Obj)} {s : Shared} {E : Value → Shared → Prop} {tabs : Nat → List P}

/-- the arguments of a plain call, evaluated -/
theorem args_one {e : PySem.Expr} {r : List PySem.Expr} (h : (e :: r).all (fun e => !isStarE e) = true) : starEach (e :: r) env = (false, eval e env) :: starEach r env := by
  rw [star_plain h]
  rw [List.all_cons, Bool.and_eq_true] at h
  rw [star_plain h.2]; rfl
theorem args_no {r : List PySem.Expr} (pos : Pos) (h : r.all (fun e => !isStarE e) = true) : ((backTo pos (starEach r env)).any fun x => x.1) = false := by
  rw [star_plain h, back_plain]
  induction r with
  | nil => rfl
  | cons a r ih => rw [List.all_cons, Bool.and_eq_true] at h; simpa using ih h.2
theorem plain_star {es : List PySem.Expr} (h : plainArgs es = true) : es.all (fun e => !isStarE e) = true := by
  unfold plainArgs at h
  exact (Bool.and_eq_true_iff.mp h).1

theorem callB {f : String} {first : List Value} {es : List PySem.Expr} {pos : Pos} (hp : plainArgs es = true) {Q : Value → Shared → Prop}
    (h : wpAny (model X.prog X.w) A (spliced (es.map fun e => (false, eval e env))) (fun vs s₁ => wpAny (model X.prog X.w) A (call (.builtin f) (first ++ vs)) Q E s₁) E s) :
    wpAny (model X.prog X.w) A (callWith pos (.builtin f) first (backTo pos (starEach es env)) []) Q E s := by
  have hs := plain_star hp
  cases es with
  | nil =>
    refine callWith_method0 ?_
    intro Γ p hΓ
    have := h Γ p hΓ Γ p hΓ
    rw [List.append_nil] at this
    exact this
  | cons e r =>
    refine callWith_method1 ?_ (args_one hs) (args_no pos (by rw [List.all_cons, Bool.and_eq_true] at hs; exact hs.2))
    rw [star_plain hs, back_plain]
    exact h
theorem callT {f : String} {e : PySem.Expr} {r : List PySem.Expr} {pos : Pos} (hp : plainArgs (e :: r) = true) {Q : Value → Shared → Prop}
    (h : wpAny (model X.prog X.w) A (spliced ((e :: r).map fun e => (false, eval e env))) (fun vs s₁ => wpAny (model X.prog X.w) A (call (.type f) vs) Q E s₁) E s) :
    wpAny (model X.prog X.w) A (callWith pos (.type f) [] (backTo pos (starEach (e :: r) env)) []) Q E s := by
  have hs := plain_star hp
  refine PyProof.Rows.callWith_type1 ?_ (args_one hs) (args_no pos (by rw [List.all_cons, Bool.and_eq_true] at hs; exact hs.2))
  rw [star_plain hs, back_plain]
  exact h
theorem callF {f : Addr} (hk : keepIn X.K (.ref f) = true) (I : X.In h₀) {first : List Value} {es : List PySem.Expr} {pos : Pos} (hp : plainArgs es = true) {Q : Value → Shared → Prop} (h0 : X.K.In s.heap)
    (h : wpAny (model X.prog X.w) A (spliced (es.map fun e => (false, eval e env))) (fun vs s₁ => X.K.In s₁.heap ∧ wpAny (model X.prog X.w) A (call (.ref f) (first ++ vs)) Q E s₁) E s) :
    wpAny (model X.prog X.w) A (callWith pos (.ref f) first (backTo pos (starEach es env)) []) Q E s := by
  have hs := plain_star hp
  cases es with
  | nil =>
    refine callWith_K0 h0 hk ?_
    intro Γ p hΓ
    exact (h Γ p hΓ).2 Γ p hΓ
  | cons e r =>
    refine callWith_K I.k hk ?_ (args_one hs) (args_no pos (by rw [List.all_cons, Bool.and_eq_true] at hs; exact hs.2))
    rw [star_plain hs, back_plain]
    exact h
theorem VRs.append {imm ad vs ws ys zs} (a : VRs X imm ad vs ys) (b : VRs X imm ad ws zs) : VRs X imm ad (vs ++ ws) (ys ++ zs) := by
  induction a with
  | nil => exact b
  | cons h _ ih => exact .cons h ih

theorem se_bi {fa : Nat → Addr} (eo : EnvOk c env) {x i : _} {b : BI} {px pos : Pos} {es : List PySem.Expr} {vs : List V} {v : V} {H₁ : List O} (hk : c.kind x = some .globalImplicit) (hd : (x == ("__debug__" : Str)) = false)
    (hg : GVOk X fa x (.bi b i) ∨ GVOk X fa x (.ty b i)) (hb : ∀ l, biMore b l ↔ l = []) (hne : es ≠ []) (hp : plainArgs es = true) (hs : SEs X n c env es loc H vs H₁) (hv : biV b vs H₁ = some (v, H')) :
    SE X n c env (.Call (.Name x px) es [] pos) loc H v H' := by
  intro A h₀ m mu ext imm s Q E R I a0 hQ
  refine wpAny_with_toks a0.tk (wpAny_Call_ofName ?_)
  have fin : ∀ {E' : Value → Shared → Prop} mu1 imm1 ys s1, At X c env h₀ m ext loc mu1 imm1 H₁ s1 → Gw mu imm mu1 imm1 → VRs X imm1 (mu1.map Prod.fst) vs ys → wpAny (model X.prog X.w) A (call (biVal b) ys) (fun y s' => 1 ≤ s'.toks → Q y s') E' s1 := by
    intro E' mu1 imm1 ys s1 a1 g1 r1
    have h := op_bi (A := A) (E := E') hv a1.st R (more := []) r1 ((hb []).mpr rfl) (Q := fun y s' => 1 ≤ s'.toks → Q y s') fun mu2 imm2 z s2 t2 g2 r2 k2 => hQ _ _ _ _ (a1.step t2 k2 g2) (g1.trans g2) r2
    simpa using h
  rcases hg with ⟨h1, h2, h3, id, h4⟩ | ⟨h1, h2, h3, id, h4⟩
  · refine a0.blt_ eo I hk h1 h2 h3 hd ?_
    rw [h4]
    refine callB hp (hs R I a0 fun mu1 imm1 ys s1 a1 g1 r1 => ?_)
    have := fin mu1 imm1 ys s1 a1 g1 r1 (E' := fun e s' => 1 ≤ s'.toks → E e s')
    rw [h4] at this
    exact this
  · refine a0.blt_ eo I hk h1 h2 h3 hd ?_
    rw [h4]
    cases es with
    | nil => exact absurd rfl hne
    | cons e r =>
      refine callT hp (hs R I a0 fun mu1 imm1 ys s1 a1 g1 r1 => ?_)
      have := fin mu1 imm1 ys s1 a1 g1 r1 (E' := fun e s' => 1 ≤ s'.toks → E e s')
      rw [h4] at this
      exact this
theorem se_isint {fa : Nat → Addr} (eo : EnvOk c env) {x y i j : _} {px py pos : Pos} {e : PySem.Expr} {a v : V} {H₁ : List O} (hk : c.kind x = some .globalImplicit) (hd : (x == ("__debug__" : Str)) = false)
    (hg : GVOk X fa x (.bi .isint i)) (hky : c.kind y = some .globalImplicit) (hdy : (y == ("__debug__" : Str)) = false) (hgy : GVOk X fa y (.ty .int16 j)) (hst : isStarE e = false) (hs : SE X n c env e loc H a H₁) (hv : biV .isint [a] H₁ = some (v, H')) :
    SE X n c env (.Call (.Name x px) [e, .Name y py] [] pos) loc H v H' := by
  intro A h₀ m mu ext imm s Q E R I a0 hQ
  refine wpAny_with_toks a0.tk (wpAny_Call_ofName ?_)
  obtain ⟨h1, h2, h3, id, h4⟩ := hg
  obtain ⟨q1, q2, q3, jd, q4⟩ := hgy
  refine a0.blt_ eo I hk h1 h2 h3 hd ?_
  refine callB (f := "isinstance") (by unfold plainArgs; rw [List.all_cons, hst]; rfl) ?_
  refine Calls.spliced_cons (hs R I a0 fun mu1 imm1 y1 s1 a1 g1 r1 => Calls.spliced_cons (a1.blt_ eo I hky q1 q2 q3 hdy (Calls.spliced_nil ?_)))
  have h := op_bi (A := A) (E := fun e s' => 1 ≤ s'.toks → E e s') hv a1.st R (more := [.type "int"]) (.cons r1 .nil) rfl (Q := fun y s' => 1 ≤ s'.toks → Q y s') fun mu2 imm2 z s2 t2 g2 r2 k2 => hQ _ _ _ _ (a1.step t2 k2 g2) (g1.trans g2) r2
  exact h
theorem se_int16 {fa : Nat → Addr} (eo : EnvOk c env) {x j : _} {px p16 pos : Pos} {k16 : Nat} {e : PySem.Expr} {a v : V} {H₁ : List O} (hk : c.kind x = some .globalImplicit) (hd : (x == ("__debug__" : Str)) = false)
    (hg : GVOk X fa x (.ty .int16 j)) (hst : isStarE e = false) (hs : SE X n c env e loc H a H₁) (hv : biV .int16 [a] H₁ = some (v, H')) :
    SE X n c env (.Call (.Name x px) [e, .Constant (.int 16) k16 p16] [] pos) loc H v H' := by
  intro A h₀ m mu ext imm s Q E R I a0 hQ
  refine wpAny_with_toks a0.tk (wpAny_Call_ofName ?_)
  obtain ⟨h1, h2, h3, id, h4⟩ := hg
  refine a0.blt_ eo I hk h1 h2 h3 hd ?_
  refine callT (f := "int") (by unfold plainArgs; rw [List.all_cons, hst]; rfl) ?_
  refine Calls.spliced_cons (hs R I a0 fun mu1 imm1 y1 s1 a1 g1 r1 => Calls.spliced_cons (wpAny_Constant_int (Calls.spliced_nil ?_)))
  have h := op_bi (A := A) (E := fun e s' => 1 ≤ s'.toks → E e s') hv (a1.st.tok (s1.toks + 1)) R (more := [.int 16 s1.toks]) (.cons r1 .nil) ⟨_, rfl⟩ (Q := fun y s' => 1 ≤ s'.toks → Q y s') fun mu2 imm2 z s2 t2 g2 r2 k2 => hQ _ _ _ _ (a1.step t2 k2 g2) (g1.trans g2) r2
  exact h

/-- methods of texts and lists -/
theorem few_args (o : PySem.Expr) (name : Str) (apos pos : Pos) (es : List PySem.Expr) (hc : isCallE o = false) (hl : apos.endLine = pos.line) (hp : plainArgs es = true) :
    eval (.Call (.Attribute o name apos) es [] pos) env = (do
      let ov ← eval o env
      standAt apos.atName
      let x ← holding [ov] (getMethod ov name (do return (← importBound o env).getD true))
      match x with
        | (f, first) => callWith pos f first (backTo pos (starEach es env)) []) := by
  have hs := plain_star hp
  have hlen : es.length < 30 := by
    unfold plainArgs at hp
    have := of_decide_eq_true (Bool.and_eq_true_iff.mp hp).2
    lia
  have hb : attributeBase o name env (eval o env) = eval o env := by cases o <;> first | rfl | exact no hc | exact nob hc | cases hc
  have hf : methodCallForm (es.length + ([] : List Keyword).length) (backTo pos (starEach es env)) (backToKw pos (keywordEach [] env)) = true := by
    unfold methodCallForm
    rw [star_plain hs, back_plain]
    rw [show (es.map fun e => (false, eval e env)).all (fun x => !x.1) = true from by rw [List.all_map]; exact List.all_eq_true.mpr fun _ _ => rfl]
    exact decide_eq_true hlen
  show (attributeBase o name env (eval o env) >>= fun ov => standAt apos.atName >>= fun _ => methodCall o name apos pos env ov (es.length + ([] : List Keyword).length) (backTo pos (starEach es env)) (backToKw pos (keywordEach [] env))) = _
  rw [hb]
  unfold methodCall
  rw [hf]
  have hm : methodCallPos true o env apos pos = pure pos := by
    unfold methodCallPos
    rw [hl]; simp
  rw [hm]
  rfl
theorem mcall {o : PySem.Expr} {name : Str} {apos pos : Pos} {es : List PySem.Expr} (hc : isCallE o = false) (hl : apos.endLine = pos.line) (hp : plainArgs es = true) {Q : Value → Shared → Prop}
    (h : ∀ pl, wpAny (model X.prog X.w) A (eval o env) (fun ov s₁ => wpAny (model X.prog X.w) A (getMethod ov name pl) (fun fx s₂ => wpAny (model X.prog X.w) A (callWith pos fx.1 fx.2 (backTo pos (starEach es env)) []) Q E s₂) E s₁) E s) :
    wpAny (model X.prog X.w) A (eval (.Call (.Attribute o name apos) es [] pos) env) Q E s := MethodCall_ (h _) (few_args o name apos pos es hc hl hp)

noncomputable def smName : SM → Str
  | .translate => "translate" | .splitlines => "splitlines" | .rstrip => "rstrip" | .endswith => "endswith" | .replace => "replace" | .split => "split" | .join => "join" | .append => "append" | .extend => "extend" | .pop => "pop"
noncomputable def onList (b : SM) : Bool := Nat.ble 7 b.ctorIdx
theorem getm_str {b : SM} (hb : onList b = false) {x : Str} {t : Tok} {pl : Sem Bool} {Q : Value × List Value → Shared → Prop} (h : Q (.builtin (smId b), [.str x t]) s) :
    wpAny (model X.prog X.w) A (getMethod (.str x t) (smName b) pl) Q E s := by
  have nr : ∀ a, Value.str x t = .ref a → ∃ o, s.heap.get? a = some o ∧ o.dict = none := fun a h => nomatch h
  cases b <;> first | exact nob hb | exact nob hb.symm | skip
  · have h' : Q (.builtin "str.translate", [.str x t]) s := h
    show wpAny _ _ (getMethod (.str x t) (Str.ofString "translate") pl) _ _ _
    with_reducible exact GM.of (.str x t) (typeIs_str _ _ _) PySem.F.slot_str_translate PySem.F.type_str_translate nr h'
  · have h' : Q (.builtin "str.splitlines", [.str x t]) s := h
    show wpAny _ _ (getMethod (.str x t) (Str.ofString "splitlines") pl) _ _ _
    with_reducible exact GM.of (.str x t) (typeIs_str _ _ _) PySem.F.slot_str_splitlines PySem.F.type_str_splitlines nr h'
  · have h' : Q (.builtin "str.rstrip", [.str x t]) s := h
    show wpAny _ _ (getMethod (.str x t) (Str.ofString "rstrip") pl) _ _ _
    with_reducible exact GM.of (.str x t) (typeIs_str _ _ _) PySem.F.slot_str_rstrip PySem.F.type_str_rstrip nr h'
  · have h' : Q (.builtin "str.endswith", [.str x t]) s := h
    show wpAny _ _ (getMethod (.str x t) (Str.ofString "endswith") pl) _ _ _
    with_reducible exact GM.of (.str x t) (typeIs_str _ _ _) PySem.F.slot_str_endswith PySem.F.type_str_endswith nr h'
  · have h' : Q (.builtin "str.replace", [.str x t]) s := h
    show wpAny _ _ (getMethod (.str x t) (Str.ofString "replace") pl) _ _ _
    with_reducible exact GM.of (.str x t) (typeIs_str _ _ _) PySem.F.slot_str_replace PySem.F.type_str_replace nr h'
  · have h' : Q (.builtin "str.split", [.str x t]) s := h
    show wpAny _ _ (getMethod (.str x t) (Str.ofString "split") pl) _ _ _
    with_reducible exact GM.of (.str x t) (typeIs_str _ _ _) PySem.F.slot_str_split PySem.F.type_str_split nr h'
  · have h' : Q (.builtin "str.join", [.str x t]) s := h
    show wpAny _ _ (getMethod (.str x t) (Str.ofString "join") pl) _ _ _
    with_reducible exact GM.of (.str x t) (typeIs_str _ _ _) PySem.F.slot_str_join PySem.F.type_str_join nr h'
theorem getm_list {b : SM} (hb : onList b = true) {L D : Addr} {its : Array Value} {k : Nat} {news : List (Addr × Obj)} (N : News h₀ L s.heap news) (hm : (D, listOf its k) ∈ news) {pl : Sem Bool} {Q : Value × List Value → Shared → Prop} (h : Q (.builtin (smId b), [.ref D]) s) :
    wpAny (model X.prog X.w) A (getMethod (.ref D) (smName b) pl) Q E s := by
  cases b <;> first | exact nob hb | exact nob hb.symm | skip
  · show wpAny _ _ (getMethod (.ref D) (Str.ofString "append") pl) _ _ _
    have h' : Q (.builtin "list.append", [.ref D]) s := h
    with_reducible exact kl_method N hm PySem.F.slot_list_append PySem.F.type_list_append h'
  · show wpAny _ _ (getMethod (.ref D) (Str.ofString "extend") pl) _ _ _
    have h' : Q (.builtin "list.extend", [.ref D]) s := h
    with_reducible exact kl_method N hm PySem.F.slot_list_extend PySem.F.type_list_extend h'
  · show wpAny _ _ (getMethod (.ref D) (Str.ofString "pop") pl) _ _ _
    have h' : Q (.builtin "list.pop", [.ref D]) s := h
    with_reducible exact kl_method N hm PySem.F.slot_list_pop PySem.F.type_list_pop h'
theorem smV_kind {b : SM} {o : V} {vs : List V} {v : V} (hv : smV tabs b o vs H = some (v, H')) : (onList b = false ∧ ∃ l, o = .p (.str l)) ∨ (onList b = true ∧ ∃ r, o = .ref r ∧ ∃ l, getL H r = some l) := by
  cases o with
  | p x =>
    refine bindE hv fun l e hv => .inl ⟨?_, l, congrArg _ (pstr_eq e)⟩
    cases b <;> first | rfl | exact no hv | exact nob hv | cases hv
  | ref r =>
    refine bindE hv fun l h1 hv => bindE hv fun w e hv => .inr ⟨?_, r, rfl, l, h1⟩
    cases b <;> first | rfl | exact no hv | exact nob hv | cases hv
  | _ => first | exact no hv | exact nob hv | cases hv

end
end Mine
end
section
open PySem PySem.W PyProof.Rows PyProof.V
set_option Elab.async false
set_option maxRecDepth 20000
namespace Mine
section
variable {X : Wd} {n : Nat} {c : Ce} {env : Env} {loc : List (Option V)} {H H' : List O} {A : Around} {h₀ : Heap} {m : Str → Option Value} {mu ext imm : List (Addr × Obj)} {s : Shared} {E : Value → Shared → Prop} {tabs : Nat → List P}

theorem se_sm (TT : Tabs X tabs) {b : SM} (hb : b ≠ .replace) {o : PySem.Expr} {apos pos : Pos} {es : List PySem.Expr} {a v : V} {vs : List V} {H₁ H₂ : List O} (hc : isCallE o = false) (hl : apos.endLine = pos.line) (hp : plainArgs es = true)
    (ho : SE X n c env o loc H a H₁) (hs : SEs X n c env es loc H₁ vs H₂) (hv : smV tabs b a vs H₂ = some (v, H')) (hk : ∀ r, a = .ref r → ∃ l, getL H₁ r = some l) :
    SE X n c env (.Call (.Attribute o (smName b) apos) es [] pos) loc H v H' := by
  intro A h₀ m mu ext imm s Q E R I a0 hQ
  refine mcall hc hl hp fun pl => ho R I a0 fun mu1 imm1 y1 s1 a1 g1 r1 => ?_
  have fin : ∀ mu2 imm2 ys s2, At X c env h₀ m ext loc mu2 imm2 H₂ s2 → Gw mu1 imm1 mu2 imm2 → VRs X imm2 (mu2.map Prod.fst) vs ys → wpAny (model X.prog X.w) A (call (.builtin (smId b)) (y1 :: ys)) Q E s2 := fun mu2 imm2 ys s2 a2 g2 r2 => by
    refine wpAny_with_toks a2.tk (op_sm TT I hb hv a2.st R (r1.gw g2) r2 fun mu3 imm3 z s3 t3 g3 r3 k3 => ?_)
    exact hQ _ _ _ _ (a2.step t3 k3 g3) ((g1.trans g2).trans g3) r3
  rcases smV_kind hv with ⟨q, l, rfl⟩ | ⟨q, r, rfl, l, _⟩
  · cases r1
    refine getm_str q ?_
    exact callB hp (hs R I a1 fun mu2 imm2 ys s2 a2 g2 r2 => fin mu2 imm2 ys s2 a2 g2 r2)
  · obtain ⟨l1, h1⟩ := hk r rfl
    obtain ⟨D, w, k, rfl, e1, d1, q1, m1, i1⟩ := a1.st.ref h1 r1
    refine getm_list q a1.st.nw m1 ?_
    exact callB hp (hs R I a1 fun mu2 imm2 ys s2 a2 g2 r2 => fin mu2 imm2 ys s2 a2 g2 r2)

/-! replace: the two texts are made anew, one behind the other -/
noncomputable def SF (X : Wd) (n : Nat) (c : Ce) (env : Env) (e : PySem.Expr) (loc : List (Option V)) (H : List O) (l : List Nat) : Prop :=
  ∀ ⦃A : Around⦄ ⦃h₀ : Heap⦄ ⦃m : Str → Option Value⦄ ⦃mu ext imm : List (Addr × Obj)⦄ ⦃s : Shared⦄ ⦃Q : Value → Shared → Prop⦄ ⦃E : Value → Shared → Prop⦄,
    Room A n → X.In h₀ → At X c env h₀ m ext loc mu imm H s → (∀ t k, s.toks ≤ t → t < k → Q (.str (S l) t) { s with toks := k }) → wpAny (model X.prog X.w) A (eval e env) Q E s
theorem sf_const {l : List Nat} {x : Str} (h : x.cps.toList = l) {i : Nat} {pos : Pos} : SF X n c env (.Constant (.str x) i pos) loc H l := by
  intro A h₀ m mu ext imm s Q E R I a hQ
  refine wpAny_Constant_str ?_
  have := hQ s.toks (s.toks + 1) (Nat.le_refl _) (Nat.lt_succ_self _)
  rw [← h, S_of] at this
  exact this
theorem Str_len (x : Str) : x.length = x.cps.toList.length := by show x.cps.size = _; simp
theorem sf_addl (eo : EnvOk c env) {x y : Str} {l : List Nat} {i k : Nat} {p1 p2 pos : Pos} (hx : x.length ≠ 0) (hk : c.kind y = some .local) (hd : (y == ("__debug__" : Str)) = false) (hs : c.slot y = some i) (hv : loc[i]? = some (some (.p (.str l)))) (hz : ok (x.cps.toList.length + l.length) = true) :
    SF X n c env (.BinOp (.Constant (.str x) k p1) .Add (.Name y p2) pos) loc H (x.cps.toList ++ l) := by
  intro A h₀ m mu ext imm s Q E R I a hQ
  have hz := of_ok hz
  refine wpAny_BinOp (wpAny_Constant_str ?_)
  have a' : At X c env h₀ m ext loc mu imm H { s with toks := s.toks + 1 } := a.step (a.st.tok _) (Nat.le_succ_of_le a.tk) .refl
  refine a'.local_ eo hk hs hv hd fun z hz' => ?_
  cases hz'
  refine P.add_str ?_
  have hx0 : (x.length == 0) = false := beq_eq_false_iff_ne.mpr hx
  rw [hx0]
  simp only [Bool.false_eq_true, if_false]
  by_cases hl : ((S l).length == 0) = true
  · rw [if_pos hl]
    have : l = [] := List.length_eq_zero_iff.mp (by simpa using hl)
    subst this
    have := hQ s.toks (s.toks + 1) (Nat.le_refl _) (Nat.lt_succ_self _)
    rw [List.append_nil, S_of] at this
    exact this
  · rw [if_neg hl]
    refine ⟨?_, ?_⟩
    · have e : x = S x.cps.toList := (S_of x).symm
      rw [e, S_add, S_len, sizeLine_eq, List.length_append]; simpa using (by lia : x.cps.toList.length + l.length ≤ 16777216)
    · have := hQ (s.toks + 1) (s.toks + 1 + 1) (Nat.le_succ _) (Nat.lt_succ_self _)
      rw [← S_add, S_of] at this
      exact this
theorem sf_addr (eo : EnvOk c env) {x y : Str} {l : List Nat} {i k : Nat} {p1 p2 pos : Pos} (hx : x.length ≠ 0) (hk : c.kind y = some .local) (hd : (y == ("__debug__" : Str)) = false) (hs : c.slot y = some i) (hv : loc[i]? = some (some (.p (.str l)))) (hz : ok (l.length + x.cps.toList.length) = true) :
    SF X n c env (.BinOp (.Name y p2) .Add (.Constant (.str x) k p1) pos) loc H (l ++ x.cps.toList) := by
  intro A h₀ m mu ext imm s Q E R I a hQ
  have hz := of_ok hz
  refine wpAny_BinOp (a.local_ eo hk hs hv hd fun z hz' => wpAny_Constant_str ?_)
  cases hz'
  refine P.add_str ?_
  have hx0 : (x.length == 0) = false := beq_eq_false_iff_ne.mpr hx
  by_cases hl : ((S l).length == 0) = true
  · rw [if_pos hl]
    have : l = [] := List.length_eq_zero_iff.mp (by simpa using hl)
    subst this
    have := hQ s.toks (s.toks + 1) (Nat.le_refl _) (Nat.lt_succ_self _)
    rw [List.nil_append, S_of] at this
    exact this
  · rw [if_neg hl, hx0]
    simp only [Bool.false_eq_true, if_false]
    refine ⟨?_, ?_⟩
    · have e : x = S x.cps.toList := (S_of x).symm
      rw [e, S_add, S_len, sizeLine_eq, List.length_append]; simpa using (by lia : l.length + x.cps.toList.length ≤ 16777216)
    · have := hQ (s.toks + 1) (s.toks + 1 + 1) (Nat.le_succ _) (Nat.lt_succ_self _)
      rw [← S_add, S_of] at this
      exact this
theorem booked_of (I : X.In h₀) (hn : nsIn X.K cStatics sharingNotToldKey = some none) {h : Heap} (k : ∀ b o, h₀.get? b = some o → h.get? b = some o) : NoneBooked h := by
  obtain ⟨mc, h1, _⟩ := I.t.nolimit
  exact ⟨mc, h1.keeps k, ns_none_of I.k h1 hn⟩
theorem se_replace (hn : nsIn X.K cStatics sharingNotToldKey = some none) {o y z : PySem.Expr} {apos pos : Pos} {l ly lz : List Nat} (hc : isCallE o = false) (hl : apos.endLine = pos.line) (hp : plainArgs [y, z] = true)
    (ho : SE X n c env o loc H (.p (.str l)) H') (hy : SF X n c env y loc H' ly) (hz : SF X n c env z loc H' lz) (hk : ok ((l.length + 1) * (lz.length + 1)) = true) (hne : ly ≠ []) :
    SE X n c env (.Call (.Attribute o (smName .replace) apos) [y, z] [] pos) loc H (.p (.str (joinL lz (splitG ly 0 l)))) H' := by
  intro A h₀ m mu ext imm s Q E R I a0 hQ
  have hk := of_ok hk
  refine mcall hc hl hp fun pl => ho R I a0 fun mu1 imm1 y1 s1 a1 g1 r1 => ?_
  cases r1
  refine getm_str (b := .replace) rfl (callB hp ?_)
  refine Calls.spliced_cons (hy R I a1 fun u k1 hu1 hu2 => Calls.spliced_cons (hz R I (a1.step (a1.st.tok k1) (by show 1 ≤ k1; have := a1.tk; lia) .refl) fun v k2 hv1 hv2 => Calls.spliced_nil ?_))
  have tk1 := a1.tk
  have hv1' : k1 ≤ v := hv1
  have hb : (S l).length + ((S l).length + 1) * (S lz).length ≤ 16777216 := by
    rw [S_len, S_len]
    have e1 : (l.length + 1) * (lz.length + 1) = (l.length + 1) * lz.length + (l.length + 1) := Nat.mul_succ _ _
    lia
  show wpAny _ _ (call (.builtin "str.replace") [.str (S l) _, .str (S ly) u, .str (S lz) v]) _ _ _
  refine wpAny_with_toks (n := 1) (show 1 ≤ k2 by lia) (SC.replaceA (Nat.ne_of_gt (show (0 : Nat) < u by lia)) (Nat.ne_of_gt (show (0 : Nat) < v by lia)) (Nat.ne_of_lt (show @LT.lt Nat _ u v by lia)) hb (fun t' k hk => ?_) (booked_of I hn a1.st.fr.keep))
  rw [S_replace _ _ _ hne]
  exact hQ _ _ _ _ (a1.step (a1.st.tok k) hk .refl) g1 (.str _ _)
end
end Mine
end
section
open PySem PySem.W PyProof.Rows PyProof.V
set_option Elab.async false
set_option maxRecDepth 20000
namespace Mine
theorem units_make (A : Around) (C : Addr) (vals : List Value) : (A.under (.builtin "type.__call__" ⟨.ref C :: vals, []⟩)).units = A.units + 1 := rfl
theorem Room.make {A : Around} {n : Nat} (h : Room A (n + 1)) (C : Addr) (vals : List Value) : Room (A.under (.builtin "type.__call__" ⟨.ref C :: vals, []⟩)) n := by
  obtain ⟨a, b, c⟩ := h
  exact ⟨a, by rw [depth_under_make]; lia, by rw [units_make]; lia⟩
section
variable {X : Wd} {n : Nat} {c : Ce} {env : Env} {loc : List (Option V)} {H H' : List O} {A : Around} {h₀ : Heap} {m : Str → Option Value} {mu ext imm : List (Addr × Obj)} {s : Shared} {E : Value → Shared → Prop} {tabs : Nat → List P}

theorem CallS.call {L : Addr} {a : Addr} {vs : List V} {v : V} {ys : List Value} (h : CallS X n a vs H v H') (R : Room A n) (I : X.In h₀) (t : St X h₀ L m mu ext imm H s) (tk : 1 ≤ s.toks) (rs : VRs X imm (mu.map Prod.fst) vs ys) {Q : Value → Shared → Prop}
    (hQ : ∀ mu' imm' y s', St X h₀ L m mu' ext imm' H' s' → 1 ≤ s'.toks → Gw mu imm mu' imm' → VRel X imm' (mu'.map Prod.fst) v y → Q y s') : wpAny (model X.prog X.w) A (call (.ref a) ys) Q E s :=
  wpAny_call (h R I t tk rs hQ)
theorem se_cal {fa : Nat → Addr} (eo : EnvOk c env) {x : Str} {f : Nat} {px pos : Pos} {es : List PySem.Expr} {vs : List V} {v : V} {H₁ : List O} (hk : c.kind x = some .globalImplicit) (hd : (x == ("__debug__" : Str)) = false)
    (hg : GVOk X fa x (.defn f)) (hp : plainArgs es = true) (hs : SEs X n c env es loc H vs H₁) (hv : CallS X n (fa f) vs H₁ v H') : SE X n c env (.Call (.Name x px) es [] pos) loc H v H' := by
  intro A h₀ m mu ext imm s Q E R I a0 hQ
  refine wpAny_Call_ofName (a0.glob_ eo I hk hg.1 hd ?_)
  refine callF hg.2 I hp (a0.st.kin I) (hs R I a0 fun mu1 imm1 ys s1 a1 g1 r1 => ⟨a1.st.kin I, ?_⟩)
  exact hv.call R I a1.st a1.tk r1 fun mu2 imm2 y s2 t2 k2 g2 r2 => hQ _ _ _ _ (a1.step t2 k2 g2) (g1.trans g2) r2
theorem se_mth {fa : Nat → Addr} {init : Nat} (_CO : ClsOk X fa init) {name : Str} {f : Nat} (MO : MethOk X fa name f) {o : PySem.Expr} {apos pos : Pos} {es : List PySem.Expr} {r : Nat} {fs : List (Str × P)} {vs : List V} {v : V} {H₁ H₂ : List O} (hc : isCallE o = false) (hl : apos.endLine = pos.line) (hp : plainArgs es = true)
    (ho : SE X n c env o loc H (.obj r) H₁) (hf : getF H₁ r = some fs) (hn : fs.lookup name = none) (hs : SEs X n c env es loc H₁ vs H₂) (hv : CallS X n (fa f) (.obj r :: vs) H₂ v H') : SE X n c env (.Call (.Attribute o name apos) es [] pos) loc H v H' := by
  intro A h₀ m mu ext imm s Q E R I a0 hQ
  refine mcall hc hl hp fun pl => ho R I a0 fun mu1 imm1 y1 s1 a1 g1 r1 => ?_
  obtain ⟨x', d, es', k, rfl, e1, hfr, hi⟩ := a1.st.obj hf r1
  refine method_inst a1.st.fr I.k hi MO.plain MO.find MO.fn ((FRel_get hfr).2 hn) ?_
  refine callF MO.keep I hp (a1.st.kin I) (hs R I a1 fun mu2 imm2 ys s2 a2 g2 r2 => ⟨a2.st.kin I, ?_⟩)
  exact hv.call R I a2.st a2.tk (.cons (r1.gw g2) r2) fun mu3 imm3 y s3 t3 k3 g3 r3 => hQ _ _ _ _ (a2.step t3 k3 g3) ((g1.trans g2).trans g3) r3
theorem se_new {fa : Nat → Addr} {init : Nat} (CO : ClsOk X fa init) (eo : EnvOk c env) {x : Str} {at_ : List (Str × P)} {px pos : Pos} {es : List PySem.Expr} {vs : List V} {H₁ : List O} (hk : c.kind x = some .globalImplicit) (hd : (x == ("__debug__" : Str)) = false)
    (hg : GVOk X fa x (.cls at_)) (hp : plainArgs es = true) (hs : SEs X (n + 1) c env es loc H vs H₁) (hv : CallS X n (fa init) (.obj H₁.length :: vs) (H₁ ++ [.inst []]) (.p .none) H') : SE X (n + 1) c env (.Call (.Name x px) es [] pos) loc H (.obj H₁.length) H' := by
  intro A h₀ m mu ext imm s Q E R I a0 hQ
  obtain ⟨g1, g2, _⟩ := hg
  refine wpAny_Call_ofName (a0.glob_ eo I hk g1 hd ?_)
  refine callF g2 I hp (a0.st.kin I) (hs R I a0 fun mu1 imm1 ys s1 a1 gw1 r1 => ⟨a1.st.kin I, wpAny_call ?_⟩)
  refine W.make_K a1.st.fr a1.st.nw (a1.st.kin I) CO.makes CO.ini CO.fn fun x' dx h' F N hlt hx => ?_
  have t2 := a1.st.addI (a := x') (o := instObj X.C dx) F (news_sub N fun p hp => by
    rcases List.mem_cons.mp hp with rfl | hp
    · exact .head _
    · exact .tail _ (.tail _ hp)) (fun p hp => Nat.lt_trans (hlt p hp) hx) s1.toks
  have N2 : News h₀ env.locals h' ((dx, dictOf [] 0) :: (mu1 ++ (ext ++ (x', instObj X.C dx) :: imm1))) := news_sub N fun p hp => by
    simp only [List.mem_cons, List.mem_append] at hp ⊢
    rcases hp with rfl | hp | hp | rfl | hp
    · exact .inr (.inl rfl)
    · exact .inr (.inr (.inl hp))
    · exact .inr (.inr (.inr (.inl hp)))
    · exact .inl rfl
    · exact .inr (.inr (.inr (.inr hp)))
  have t3 := t2.addMn (h' := h') (a := dx) (o := dictOf [] 0) (b := .inst []) F N2 (fun p hp => by
    simp only [List.mem_cons, List.mem_append] at hp
    rcases hp with hp | hp | rfl | hp
    · exact Nat.ne_of_lt (hlt p (List.mem_append_left _ hp))
    · exact Nat.ne_of_lt (hlt p (List.mem_append_right _ (List.mem_append_left _ hp)))
    · exact Nat.ne_of_gt hx
    · exact Nat.ne_of_lt (hlt p (List.mem_append_right _ (List.mem_append_right _ hp)))) (.inst (.head _) .nil) s1.toks
  have g2 : Gw mu1 imm1 (mu1 ++ [(dx, dictOf [] 0)]) ((x', instObj X.C dx) :: imm1) := ⟨by rw [List.map_append]; exact List.prefix_append _ _, fun _ h => .tail _ h⟩
  have ro : VRel X ((x', instObj X.C dx) :: imm1) ((mu1 ++ [(dx, dictOf [] 0)]).map Prod.fst) (.obj H₁.length) (.ref x') :=
    ⟨x', dx, by rw [← a1.st.mr.length]; simp, rfl, .head _⟩
  refine hv (R.make X.C ys) I t3 a1.tk (.cons ro (r1.gw g2)) fun mu4 imm4 y s4 t4 k4 g4 r4 => ?_
  have : y = .none := by cases r4; rfl
  subst this
  exact ⟨rfl, hQ _ _ _ _ (a1.step t4 k4 (g2.trans g4)) ((gw1.trans g2).trans g4) (ro.gw g4)⟩
end
end Mine
end
section
set_option Elab.async false
set_option maxRecDepth 100000
open PySem PySem.W PyProof.Rows PyProof.V
namespace Mine
theorem lk_app : typeLookup (.type "list") "append" = pure (some (.builtin "list.append")) := by rw [typeLookup_type, builtinLookup_eq_fast]; kernel_rfl
theorem ty_app : typeOf (.builtin "list.append") = pure (.type "method_descriptor") := by show builtinType _ = _; rw [builtinType_eq_fast]; kernel_rfl
theorem slot_md_get : Slot "method_descriptor" "__get__" "method_descriptor.__get__" :=
  .of (owner := "method_descriptor") (n := "__get__") (by rw [typeLookup_type, builtinLookup_eq_fast]; kernel_rfl) (by decide +kernel) (by decide +kernel) (by decide +kernel)
    (by first | exact .inl (by decide +kernel) | exact .inr (by decide +kernel)) (by rw [isSubtype_type]; kernel_rfl)
theorem no_md_set : typeLookup (.type "method_descriptor") "__set__" = pure none := by rw [typeLookup_type, builtinLookup_eq_fast]; kernel_rfl
theorem no_md_del : typeLookup (.type "method_descriptor") "__delete__" = pure none := by rw [typeLookup_type, builtinLookup_eq_fast]; kernel_rfl
theorem entry_md_get : entryFor table "method_descriptor.__get__" = some Builtin.«method_descriptor.__get__» := entryFor_of_tree (by kernel_rfl)
theorem args_md_get (a b c : Value) : argsOk "method_descriptor.__get__" ⟨[a, b, c], []⟩ := by unfold argsOk; kernel_rfl
theorem told_app : Manifest.toldItsClass.contains "list.append" = false := by decide +kernel
theorem sub_list_module : isSubtype (.type "list") (.type "module") = pure false := by rw [isSubtype_type]; kernel_rfl
theorem sub_list_type : isSubtype (.type "list") (.type "type") = pure false := by rw [isSubtype_type]; kernel_rfl
theorem va_app : Manifest.varargsMethods.contains "list.append" = false := by decide +kernel
theorem ca_app (a v : Value) : Bind.checkArgs "list.append" { machinery := Manifest.Machinery.oneArg, full := s!"{Bind.lastOf "list"}.{Bind.lastOf "list.append"}", short := "append", receiver := .self, params := [{ name := "object", kind := .posOnly, required := true }] } ⟨[a, v], []⟩ = pure () := by kernel_rfl
theorem check_app {a : Addr} {v : Value} {A : Around} {prog : Program} {w : World} {E : Value → Shared → Prop} {s : Shared} {its : Array Value} {k : Nat} (hx : s.heap.get? a = some (listOf its k)) {Q : Unit → Shared → Prop} (h : Q () s) : wpAny (model prog w) A (checkBoundCall "list.append" ⟨[.ref a, v], []⟩) Q E s := by
  unfold checkBoundCall
  have hT : s.TypeIs (.ref a) "list" := ⟨_, hx, rfl⟩
  have f1 := sub_list_module
  have f2 := sub_list_type
  repeat (any_goals (first | assumption | wp_step))
  repeat (any_goals (first | assumption | wp_step))
theorem owner_app : (".".intercalate ("list.append".cutAt '.').dropLast) = "list" := by
  have e0 : "list.append".cutAt '.' = ["list", "append"] := by first | rfl | decide +kernel
  rw [e0]; decide +kernel
theorem sub_app : isSubtype (.type "list") (.type (".".intercalate ("list.append".cutAt '.').dropLast)) = pure true := by
  rw [owner_app, isSubtype_type]; kernel_rfl
theorem bnd_get {a : Addr} {prog : Program} {w : World} {A : Around} {s : Shared} {its : Array Value} {k : Nat} {R : Result → Shared → Prop} (hx : s.heap.get? a = some (listOf its k))
    (h : R (.ok (.ret (.ref s.heap.objs.size))) { s with heap := s.heap.push (bmObj a) }) :
    codeAny (model prog w) A (.call (.builtin "method_descriptor.__get__") ⟨[.builtin "list.append", .ref a, .type "list"], []⟩) R s := by
  have hT : s.TypeIs (.ref a) "list" := ⟨_, hx, rfl⟩
  have hT5 : s.TypeIs (.builtin "list.append") "method_descriptor" := ty_app
  have f1 := sub_app
  refine codeAny_call_builtin slot_md_get.plain entry_md_get (slot_md_get.check _ _ _ _ _ _ _ _ hT5 (args_md_get _ _ _) ?_)
  repeat (any_goals (first | assumption | wp_step))
theorem bnd_entry {a : Addr} {tk : Tok} {prog : Program} {w : World} {A : Around} {E : Value → Shared → Prop} {s : Shared} {its : Array Value} {k : Nat} {Q : Fin → Shared → Prop} (hx : s.heap.get? a = some (listOf its k))
    (h : Q (.done (.ret (.ref s.heap.objs.size))) { s with heap := s.heap.push (bmObj a) }) :
    wpAny (model prog w) A (Builtin.«object.__getattribute__» ⟨[.ref a, .str "append" tk], []⟩) Q E s := by
  have hT : s.TypeIs (.ref a) "list" := ⟨_, hx, rfl⟩
  have hT5 : s.TypeIs (.builtin "list.append") "method_descriptor" := ty_app
  have f4 := lk_app
  have f5 := ty_app
  have f6 := slot_md_get.lookup
  have f7 := no_md_set
  have f8 := no_md_del
  repeat (any_goals (first | assumption | wp_step))
  refine bnd_get hx ?_
  repeat (any_goals (first | assumption | wp_step))
theorem bnd_call {a : Addr} {tk : Tok} {prog : Program} {w : World} {A : Around} {s : Shared} {its : Array Value} {k : Nat} {R : Result → Shared → Prop} (hx : s.heap.get? a = some (listOf its k))
    (h : R (.ok (.ret (.ref s.heap.objs.size))) { s with heap := s.heap.push (bmObj a) }) :
    codeAny (model prog w) A (.call (.builtin "list.__getattribute__") ⟨[.ref a, .str "append" tk], []⟩) R s :=
  codeAny_call_builtin F.slot_list_getattribute.plain F.entry_list_ga (F.slot_list_getattribute.check _ _ _ _ _ _ _ _ (show s.TypeIs (.ref a) "list" from ⟨_, hx, rfl⟩) (F.args_list_getattribute_2 _ _) (bnd_entry hx h))
theorem bnd_attr {a : Addr} {prog : Program} {w : World} {A : Around} {E : Value → Shared → Prop} {s : Shared} {its : Array Value} {k : Nat} {Q : Value → Shared → Prop} (hx : s.heap.get? a = some (listOf its k))
    (h : Q (.ref s.heap.objs.size) { s with heap := s.heap.push (bmObj a), toks := s.toks + 1 }) :
    wpAny (model prog w) A (getAttr (.ref a) "append" true) Q E s := by
  have hT : ({ s with toks := s.toks + 1 } : Shared).TypeIs (.ref a) "list" := ⟨_, hx, rfl⟩
  have f2 := F.slot_list_getattribute.lookup
  have f3 := F.slot_list_getattribute.bind (.ref a)
  unfold getAttr
  repeat (any_goals (first | assumption | wp_step))
  refine bnd_call hx ?_
  repeat (any_goals (first | assumption | wp_step))

theorem bm_fields {M : Model} {A : Around} {E : Value → Shared → Prop} {s : Shared} {pos : Pos} {u a : Addr} {first : List Value} {args : List (Bool × Sem Value)} {Q : Value → Shared → Prop} (hplain : args.any (·.1) = false)
    (h : wpAny M A (evalArgs (.ref u) true args []) (fun x s₁ => s₁.heap.get? u = some (bmObj a) ∧ wpAny M A (call (.ref u) (first ++ x.pos) x.kw) Q E s₁) E s) : wpAny M A (callWith pos (.ref u) first args []) Q E s := by
  refine wpAny_bind (wpAny_holding (wpAny_mono h (fun x s₁ h₁ => wpAny_bind (wpAny_standAt ?_)) fun _ _ x => x))
  obtain ⟨ho, hcall⟩ := h₁
  rw [hplain]
  refine wpAny_bind (wpAny_bind (wpAny_load ho ?_))
  refine KFB.if_so (show (Value.type "builtin_function_or_method" != Value.type "method") = true by decide) (wpAny_pure ?_)
  rw [if_pos (show (Value.type "builtin_function_or_method" == Value.type "builtin_function_or_method" || Value.type "builtin_function_or_method" == Value.type "method-wrapper") = true by decide)]
  exact wpAny_bind (wpAny_mono hcall (fun r s₂ hr => wpAny_bind (wpAny_holding (wpAny_point (wpAny_pure hr)))) fun _ _ x => x)
theorem bm_quiet {as : Args} : (Code.builtin "list.append" as).quiet = true := Code.quiet_builtin _ (by decide +kernel)
theorem bm_call {u a : Addr} {y : Value} {its : Array Value} {k : Nat} {h₀ : Heap} {L : Addr} {m : Str → Option Value} {news news' : List (Addr × Obj)} {prog : Program} {w : World} {A : Around} {E : Value → Shared → Prop} {s : Shared} {Q : Value → Shared → Prop} (hu : s.heap.get? u = some (bmObj a))
    (F : Fr h₀ L s.heap m) (N : News h₀ L s.heap news) (U : Upd a (listOf its k) (listOf (its.push y) (k + 1)) news news') (h : ∀ h', Fr h₀ L h' m → News h₀ L h' news' → Q .none { s with heap := h' }) (hsz : its.size ≤ sizeLine) :
    wpAny (model prog w) A (call (.ref u) [y]) Q E s := by
  obtain ⟨pre, post, rfl, rfl, c, d⟩ := U.split
  have z := N (a, listOf its k) (List.mem_append.mpr (.inr (.head _)))
  refine wpAny_call (codeAny_of_tree ?_)
  show wpAny _ A.in1 (callAny (.ref u) ⟨[y], []⟩) _ _ s
  refine wpAny_bind (wpAny_load hu ?_)
  refine KFB.if_so (show (Value.type "builtin_function_or_method" == Value.type "method" || Value.type "builtin_function_or_method" == Value.type "builtin_function_or_method" || Value.type "builtin_function_or_method" == Value.type "method-wrapper") = true by decide) ?_
  refine KFB.if_so (show (Value.type "builtin_function_or_method" != Value.type "method") = true by decide) ?_
  refine wpAny_bind (check_app z.1 ?_)
  refine wpAny_bind (wpAny_pure (wpAny_pure ?_))
  refine ⟨bm_quiet, codeAny_builtin PySem.F.entry_list_append ?_⟩
  show wpAny _ _ (updateSeq a (·.push y) >>= fun _ => ret .none) _ _ s
  refine wpAny_bind ?_
  refine wpAny_updateSeq (hz := hsz) z.1 rfl (wpAny_pure ?_)
  exact h _ (F.change (Heap.SameBut.update ..) z.2.1 z.2.2) (news_set N c d (Heap.SameBut.update ..) (by rw [Heap.get?_update_self _ z.1 (by rw [Obj.mapSeq_push_plain]; rfl), Obj.mapSeq_push_plain]))
section
variable {X : Wd} {n : Nat} {c : Ce} {env : Env} {loc : List (Option V)} {H H' : List O} {A : Around} {h₀ : Heap} {m : Str → Option Value} {mu ext imm : List (Addr × Obj)} {s : Shared} {E : Value → Shared → Prop} {tabs : Nat → List P}
theorem se_bnd {x : Str} {px pos : Pos} {r : Nat} {l : List P} (hv : SE X n c env (.Name x px) loc H (.ref r) H') (hl : getL H' r = some l) : SE X n c env (.Attribute (.Name x px) "append" pos) loc H (.bm r) H' := by
  intro A h₀ m mu ext imm s Q E R I a0 hQ
  refine Attribute_any_ (hv R I a0 fun mu1 imm1 y1 s1 a1 g1 r1 => ?_)
  obtain ⟨a, vs, k, rfl, e1, d1, l1, m1, i1⟩ := a1.st.ref hl r1
  refine bnd_attr (a1.st.nw _ m1).1 ?_
  have N := a1.st.nw.push a1.st.fr (bmObj a)
  refine hQ _ _ _ _ (a1.step (a1.st.addI (a1.st.fr.push _) N a1.st.lt (s1.toks + 1)) (Nat.le_add_left _ _) gw_imm) (g1.trans gw_imm) ?_
  exact ⟨_, a, by rw [List.getElem?_map, e1]; rfl, rfl, .head _⟩
theorem addTo_some {a : Nat} {v : V} (h : addTo a v H = some H') : ∃ x l, v = .p x ∧ getL H a = some l ∧ l.length ≤ 1000000 ∧ H' = H.set a (.list (l ++ [x])) :=
  bindE h fun x h0 h => bindE h fun l h1 h => iteE h fun hk h => ⟨x, l, pl_eq h0, h1, of_ok hk, (Option.some.inj h).symm⟩
theorem se_app {e : PySem.Expr} {x : Str} {px pos : Pos} {r : Nat} {v : V} {H₁ H₂ : List O} (hp : plainArgs [e] = true) (ho : SE X n c env (.Name x px) loc H (.bm r) H₁) (he : SE X n c env e loc H₁ v H₂) (hv : addTo r v H₂ = some H') :
    SE X n c env (.Call (.Name x px) [e] [] pos) loc H (.p .none) H' := by
  intro A h₀ m mu ext imm s Q E R I a0 hQ
  obtain ⟨p, l, rfl, hl, hk, rfl⟩ := addTo_some hv
  refine wpAny_Call_ofName (ho R I a0 fun mu1 imm1 y1 s1 a1 g1 r1 => ?_)
  obtain ⟨b, a, h1, rfl, hm⟩ := r1
  have hs := plain_star hp
  refine bm_fields (a := a) (args_no pos hs) ?_
  rw [star_plain hs, back_plain, List.map_cons]
  refine Calls.evalArgs_plain ?_
  refine Calls.spliced_cons (he R I a1 fun mu2 imm2 y2 s2 a2 g2 r2 => Calls.spliced_nil ⟨?_, ?_⟩)
  · exact (a2.st.nw _ (List.mem_append_right _ (List.mem_append_right _ (g2.im _ hm)))).1
  · obtain ⟨a', vs, k, e1, d1, l1, m1, i1⟩ := a2.st.lst hl
    have : a' = a := by
      obtain ⟨t, ht⟩ := g2.ad
      have := congrArg (fun z => z[r]?) ht
      rw [List.getElem?_append_left (List.getElem?_eq_some_iff.mp h1).1, h1, List.getElem?_map, e1] at this
      simpa using this.symm
    subst this
    have e : vs.toArray.push y2 = (vs ++ [y2]).toArray := by simp
    refine bm_call ((a2.st.nw _ (List.mem_append_right _ (List.mem_append_right _ (g2.im _ hm)))).1) a2.st.fr a2.st.nw (a2.st.updOf (listOf (vs.toArray.push y2) (k + 1)) e1) (fun h' F N => ?_) (by rw [List.size_toArray, sizeLine_eq]; lia)
    rw [e] at N
    exact hQ _ _ _ _ (a2.step (a2.st.setL e1 F N (by rw [dats_append]; exact d1.append (.one r2)) s2.toks) a2.tk (gw_set e1)) ((g1.trans g2).trans (gw_set e1)) .none
end
end Mine
end
section
open PySem PySem.W PyProof.Rows PyProof.V
set_option Elab.async false
set_option genSizeOf false
set_option maxRecDepth 20000
namespace Mine
/-! iterators -/
noncomputable def strTy (l : List Nat) : String := if l.all (· < 128) then "str_ascii_iterator" else "str_iterator"
inductive ItR (imm : List (Addr × Obj)) (ad : List Addr) : V → Nat → Obj → Prop
  | list {r : Nat} {a : Addr} {i : Nat} {o : Obj} : ad[r]? = some a → o.cls = .type "list_iterator" → o.data = .fields #[.ref a, .int i 0] → ItR imm ad (.ref r) i o
  | rng {a b : Int} {i : Nat} : ItR imm ad (.rng a b) i { cls := .type "range_iterator", dict := none, data := .fields #[rawInt (a + i), rawInt (((b - a).toNat : Nat) - (i : Int)), rawInt 1], slots := #[] }
  | str {l : List Nat} {t : Tok} {i : Nat} {o : Obj} : o.cls = .type (strTy l) → o.data = .fields #[.str (S l) t, .int i 0] → ItR imm ad (.p (.str l)) i o
  | tup {ps : List P} {t : Addr} {vs : List Value} {n i : Nat} {o : Obj} : (t, tupObj vs n) ∈ imm → DatAll imm vs (dats ps) → o.cls = .type "tuple_iterator" → o.data = .fields #[.ref t, .int i 0] → ItR imm ad (.p (.tup ps)) i o
theorem ItR.mono {imm imm' ad ad' v i o} (hs : ∀ p ∈ imm, p ∈ imm') (ha : ad <+: ad') (h : ItR imm ad v i o) : ItR imm' ad' v i o := by
  cases h with
  | list h1 h2 h3 =>
    obtain ⟨t, rfl⟩ := ha
    exact .list (by rw [List.getElem?_append_left (List.getElem?_eq_some_iff.mp h1).1]; exact h1) h2 h3
  | rng => exact .rng
  | str h1 h2 => exact .str h1 h2
  | tup h1 h2 h3 h4 => exact .tup (hs _ h1) (h2.mono hs) h3 h4
section
variable {X : Wd} {n : Nat} {c : Ce} {env : Env} {loc : List (Option V)} {H H' H₀ : List O} {A : Around} {h₀ : Heap} {L : Addr} {m : Str → Option Value} {mu ext imm : List (Addr × Obj)} {s : Shared} {E : Value → Shared → Prop}

theorem perm_ext {mu ext imm : List (Addr × Obj)} {e : Addr × Obj} : (mu ++ ((e :: ext) ++ imm)).Perm (e :: (mu ++ (ext ++ imm))) := List.perm_middle
theorem St.addE (t : St X h₀ L m mu ext imm H s) {h' : Heap} {a : Addr} {o : Obj} (F : Fr h₀ L h' m) (N : News h₀ L h' ((a, o) :: (mu ++ (ext ++ imm)))) (ha : ∀ p ∈ mu ++ (ext ++ imm), p.1 < a) (k : Nat) :
    St X h₀ L m mu ((a, o) :: ext) imm H { s with heap := h', toks := k } := by
  refine ⟨F, news_sub N fun p hp => perm_ext.mem_iff.mp hp, ?_, t.mr, t.g, t.d, t.os⟩
  rw [(perm_ext.map Prod.fst).nodup_iff, List.map_cons, List.nodup_cons]
  refine ⟨fun hm => ?_, t.nd⟩
  obtain ⟨p, hp, q⟩ := List.mem_map.mp hm
  exact absurd (ha p hp) (by rw [q]; exact Nat.lt_irrefl _)
theorem St.dropE {e : Addr × Obj} (t : St X h₀ L m mu (e :: ext) imm H s) : St X h₀ L m mu ext imm H s := by
  refine ⟨t.fr, news_sub t.nw fun p hp => perm_ext.mem_iff.mpr (.tail _ hp), ?_, t.mr, t.g, t.d, t.os⟩
  have := t.nd
  rw [(perm_ext.map Prod.fst).nodup_iff, List.map_cons, List.nodup_cons] at this
  exact this.2
theorem St.notE {e : Addr × Obj} (t : St X h₀ L m mu (e :: ext) imm H s) : ∀ p ∈ mu ++ (ext ++ imm), p.1 ≠ e.1 := by
  have := t.nd
  rw [(perm_ext.map Prod.fst).nodup_iff, List.map_cons, List.nodup_cons] at this
  exact fun p hp q => this.1 (List.mem_map.mpr ⟨p, hp, q⟩)
theorem St.getE {e : Addr × Obj} (t : St X h₀ L m mu (e :: ext) imm H s) : s.heap.get? e.1 = some e.2 ∧ e.1 ≠ L ∧ h₀.get? e.1 = none := t.nw e (perm_ext.mem_iff.mpr (.head _))
/-- the entry changed -/
theorem St.setE {a : Addr} {o o' : Obj} (t : St X h₀ L m mu ((a, o) :: ext) imm H s) {h' : Heap} (hs : Heap.SameBut a s.heap h') (ho : h'.get? a = some o') (k : Nat) : St X h₀ L m mu ((a, o') :: ext) imm H { s with heap := h', toks := k } := by
  obtain ⟨g1, g2, g3⟩ := t.getE
  refine ⟨t.fr.change hs g2 g3, fun p hp => ?_, ?_, t.mr, t.g, t.d, t.os⟩
  · rcases List.mem_cons.mp (perm_ext.mem_iff.mp hp) with rfl | hp
    · exact ⟨ho, g2, g3⟩
    · have z := t.nw p (perm_ext.mem_iff.mpr (.tail _ hp))
      exact ⟨(hs.2 _ (t.notE p hp)).trans z.1, z.2⟩
  · have := t.nd
    rw [(perm_ext.map Prod.fst).nodup_iff] at this ⊢
    exact this
theorem St.endE {a : Addr} {o : Obj} (t : St X h₀ L m mu ((a, o) :: ext) imm H s) {h' : Heap} (hs : Heap.ExtBut a s.heap h') (k : Nat) : St X h₀ L m mu ext imm H { s with heap := h', toks := k } := by
  obtain ⟨g1, g2, g3⟩ := t.getE
  have keep : ∀ b o, b ≠ a → s.heap.get? b = some o → h'.get? b = some o := fun b o hb e => hs b o hb e
  refine ⟨⟨?_, fun b o e => keep b o (fun q => by subst q; rw [g3] at e; cases e) (t.fr.keep b o e), t.fr.above⟩, fun p hp => ?_, t.dropE.nd, t.mr, t.g, t.d, t.os⟩
  · obtain ⟨oL, a1, a2, hoL, a3⟩ := t.fr.ns
    exact ⟨oL, a1, a2, keep _ _ (Ne.symm g2) hoL, a3⟩
  · have z := t.nw p (perm_ext.mem_iff.mpr (.tail _ hp))
    exact ⟨keep _ _ (t.notE p hp) z.1, z.2⟩

theorem rng_size (a b : Int) : Builtin.Range.rangeSize a b 1 = ((b - a).toNat : Nat) := by
  unfold Builtin.Range.rangeSize
  simp; lia
theorem rng_small {a b : Int} (ha : oki a = true) (hb : oki b = true) : Builtin.Range.small a b 1 = true := by
  have ha := of_oki ha
  have hb := of_oki hb
  unfold Builtin.Range.small Builtin.Range.rangeFitsLong
  rw [rng_size]
  simp
  omega
theorem DatIn.tupV {imm : List (Addr × Obj)} {ps : List P} {y : Value} (h : DatIn imm y (P.tup ps).dat) : ∃ t vs n, y = .ref t ∧ (t, tupObj vs n) ∈ imm ∧ DatAll imm vs (dats ps) := by
  cases h with
  | tuple h1 h2 => exact ⟨_, _, _, rfl, h1, h2⟩
theorem it_iter {v : V} {ps : List P} {w : Option Nat} {y : Value} (hi : itemsOf v H = some (ps, w)) (t : St X h₀ L m mu ext imm H s) (r : VRel X imm (mu.map Prod.fst) v y) {Q : Value → Shared → Prop}
    (hQ : ∀ I o h', St X h₀ L m mu ((I, o) :: ext) imm H { s with heap := h' } → ItR imm (mu.map Prod.fst) v 0 o → Q (.ref I) { s with heap := h' }) :
    wpAny (model X.prog X.w) A (pyIter y) Q E s := by
  have go : ∀ o : Obj, o.isFreed = false → St X h₀ L m mu ((s.heap.objs.size, o) :: ext) imm H { s with heap := s.heap.push o } := fun o hf => by
    exact t.addE (k := s.toks) (t.fr.push o) (t.nw.push t.fr o hf) t.lt
  have str : ∀ l : List Nat, VRel X imm (mu.map Prod.fst) (.p (.str l)) y → v = .p (.str l) → wpAny (model X.prog X.w) A (pyIter y) Q E s := fun l r hv => by
    apply datStr r
    intro t'
    cases hx : (S l).cps.all (· < 128) with
    | true =>
      have e : strTy l = "str_ascii_iterator" := by unfold strTy; rw [show l.all (· < 128) = true by simpa using hx]; rfl
      exact wpAny_pyIter_ascii hx (hQ _ _ _ (go _ rfl) (hv ▸ .str (t := t') (by rw [e]) rfl))
    | false =>
      have e : strTy l = "str_iterator" := by unfold strTy; rw [show l.all (· < 128) = false by simpa using hx]; rfl
      exact wpAny_pyIter_wide hx (hQ _ _ _ (go _ rfl) (hv ▸ .str (t := t') (by rw [e]) rfl))
  cases v with
  | ref r' =>
    refine mapE hi fun l h1 _ => ?_
    obtain ⟨a, vs, k, rfl, e1, d1, l1, m1, i1⟩ := t.ref h1 r
    exact wpAny_pyIter_list i1 (hQ _ _ _ (go _ rfl) (.list (by rw [List.getElem?_map, e1]; rfl) rfl rfl))
  | rng a b =>
      refine iteE hi fun hk _ => andE hk fun ha hb => ?_
      obtain ⟨q, tt, u, w', rfl, hm⟩ := r
      refine wpAny_pyIter_range (t.nw _ (List.mem_append_right _ (List.mem_append_right _ hm))).1 (rng_small ha hb) (hQ _ _ _ (go _ rfl) ?_)
      rw [rng_size]
      have := ItR.rng (imm := imm) (ad := mu.map Prod.fst) (a := a) (b := b) (i := 0)
      simpa using this
  | p x =>
    cases x with
    | str l => exact str l r rfl
    | tup l =>
      obtain ⟨tt, vs, k, rfl, h1, h2⟩ := DatIn.tupV r
      exact wpAny_pyIter_tuple ⟨_, (t.nw _ (St.sub_imm _ h1)).1, rfl, k, rfl⟩ (hQ _ _ _ (go _ rfl) (.tup h1 h2 rfl rfl))
    | _ => first | exact no hi | exact nob hi | cases hi
  | _ => first | exact no hi | exact nob hi | cases hi
theorem strTy_cases (l : List Nat) : strTy l = "str_ascii_iterator" ∨ strTy l = "str_iterator" := by unfold strTy; split <;> simp
theorem it_self {v : V} {i : Nat} {I : Addr} {o : Obj} (t : St X h₀ L m mu ((I, o) :: ext) imm H s) (r : ItR imm (mu.map Prod.fst) v i o) {Q : Value → Shared → Prop} (hQ : Q (.ref I) s) : wpAny (model X.prog X.w) A (pyIter (.ref I)) Q E s := by
  obtain ⟨g1, g2, g3⟩ := t.getE
  cases r with
  | list h1 h2 h3 => exact wpAny_pyIter_listiter ⟨_, g1, h2, h3⟩ hQ
  | rng => exact wpAny_pyIter_rangeiter g1 hQ
  | str h1 h2 =>
    rename_i l tt
    rcases strTy_cases l with e | e
    · rw [e] at h1; exact wpAny_pyIter_striter_ascii ⟨_, g1, h1, h2⟩ hQ
    · rw [e] at h1; exact wpAny_pyIter_striter_wide ⟨_, g1, h1, h2⟩ hQ
  | tup h1 h2 h3 h4 => exact wpAny_pyIter_tupleiter ⟨_, g1, h3, h4⟩ hQ
theorem DatAll.getAt {imm : List (Addr × Obj)} : ∀ {vs : List Value} {ps : List P} {i : Nat} {x : P}, DatAll imm vs (dats ps) → ps[i]? = some x → ∃ y, vs[i]? = some y ∧ DatIn imm y x.dat
  | _, [], i, x, _, h => by simp at h
  | _, p :: ps, 0, x, .cons a _, h => by simp at h; subst h; exact ⟨_, rfl, a⟩
  | _, p :: ps, i + 1, x, .cons _ r, h => by simpa using DatAll.getAt r (by simpa using h)
theorem stays_ref {r : Nat} {ps : List P} (h : stays (some r) ps H = true) : getL H r = some ps := by
  unfold stays at h
  simp only at h
  split at h
  · rename_i qs e; rw [(beqs_iff _ _).mp h, e]
  · cases h
/-- what itemsOf says, apart from the heap -/
theorem items_ref {r : Nat} {ps : List P} {w : Option Nat} (h : itemsOf (.ref r) H = some (ps, w)) : w = some r := mapE (o := getL H r) h fun _ _ e => (congrArg Prod.snd (Option.some.inj e)).symm
theorem items_rng {a b : Int} {ps : List P} {w : Option Nat} (h : itemsOf (.rng a b) H = some (ps, w)) : ps = rngL a b := iteE h fun _ e => (congrArg Prod.fst (Option.some.inj e)).symm
theorem items_str {l : List Nat} {ps : List P} {w : Option Nat} (h : itemsOf (.p (.str l)) H = some (ps, w)) : ps = l.map fun c => .str [c] := (congrArg Prod.fst (Option.some.inj h)).symm
theorem items_tup {l : List P} {ps : List P} {w : Option Nat} (h : itemsOf (.p (.tup l)) H = some (ps, w)) : ps = l := (congrArg Prod.fst (Option.some.inj h)).symm
theorem addr_eq {r : Nat} {a b : Addr} {o : Obj} (h : (mu.map Prod.fst)[r]? = some a) (e : mu[r]? = some (b, o)) : b = a := by rw [List.getElem?_map, e] at h; exact Option.some.inj h
theorem it_item {v : V} {i : Nat} {I : Addr} {o : Obj} {ps : List P} {w : Option Nat} {x : P} (hi : itemsOf v H₀ = some (ps, w)) (hw : stays w ps H = true) (hx : ps[i]? = some x) (t : St X h₀ L m mu ((I, o) :: ext) imm H s) (tk : 1 ≤ s.toks) (r : ItR imm (mu.map Prod.fst) v i o)
    {Q : Option Value → Shared → Prop} (hQ : ∀ y o' s', St X h₀ L m mu ((I, o') :: ext) imm H s' → 1 ≤ s'.toks → DatIn imm y x.dat → ItR imm (mu.map Prod.fst) v (i + 1) o' → Q (some y) s') :
    wpAny (model X.prog X.w) A (pyNext (.ref I)) Q E s := by
  obtain ⟨g1, g2, g3⟩ := t.getE
  cases r with
  | list h1 h2 h3 =>
    rename_i r a
    rw [items_ref hi] at hw
    obtain ⟨a', vs, k, e1, d1, l1, m1, i1⟩ := t.lst (stays_ref hw)
    cases addr_eq h1 e1
    obtain ⟨y, hy, ry⟩ := DatAll.getAt d1 hx
    refine wpAny_pyNext_list_item ⟨_, g1, h2, h3⟩ i1 (x := y) (by simpa using hy) fun h' hit hs => ?_
    obtain ⟨o', q1, q2, q3⟩ := hit
    exact hQ y o' _ (t.setE hs q1 s.toks) tk ry (.list h1 q2 q3)
  | rng =>
    rename_i a b
    rw [items_rng hi] at hx
    unfold rngL at hx
    rw [List.getElem?_map] at hx
    obtain ⟨j, hj, rfl⟩ := Option.map_eq_some_iff.mp hx
    have hlt : i < (b - a).toNat := by
      have := (List.getElem?_eq_some_iff.mp hj).1
      simpa using this
    have hij : j = i := by rw [List.getElem?_range hlt] at hj; exact (Option.some.inj hj).symm
    subst hij
    refine wpAny_pyNext_range_item g1 (by lia) fun h' hit hs => ?_
    refine hQ _ _ _ (t.setE hs hit (s.toks + 1)) (Nat.le_add_left _ _) (.int _ _) ?_
    have := ItR.rng (imm := imm) (ad := mu.map Prod.fst) (a := a) (b := b) (i := j + 1)
    have e1 : (a + (j : Int)) + 1 = a + ((j + 1 : Nat) : Int) := by push_cast; lia
    have e2 : ((b - a).toNat : Int) - (j : Int) - 1 = ((b - a).toNat : Nat) - ((j + 1 : Nat) : Int) := by push_cast; lia
    rw [e1, e2]
    exact this
  | str h1 h2 =>
    rename_i l tt
    rw [items_str hi, List.getElem?_map] at hx
    obtain ⟨ch, hc, rfl⟩ := Option.map_eq_some_iff.mp hx
    have hcx : (S l).cps[i]? = some ch := by simpa using hc
    rcases strTy_cases l with e | e
    · have h1' := h1
      rw [e] at h1
      refine wpAny_pyNext_ascii_item ⟨_, g1, h1, h2⟩ hcx fun h' hit hs => ?_
      obtain ⟨o', q1, q2, q3⟩ := hit
      exact hQ _ o' _ (t.setE hs q1 (s.toks + 1)) (Nat.le_add_left _ _) (.str (S [ch]) _) (.str (by rw [e]; exact q2) q3)
    · rw [e] at h1
      refine wpAny_pyNext_wide_item ⟨_, g1, h1, h2⟩ hcx fun h' hit hs => ?_
      obtain ⟨o', q1, q2, q3⟩ := hit
      exact hQ _ o' _ (t.setE hs q1 (s.toks + 1)) (Nat.le_add_left _ _) (.str (S [ch]) _) (.str (by rw [e]; exact q2) q3)
  | tup h1 h2 h3 h4 =>
    rename_i ps' tt vs k
    cases items_tup hi
    obtain ⟨y, hy, ry⟩ := DatAll.getAt h2 hx
    refine wpAny_pyNext_tuple_item ⟨_, g1, h3, h4⟩ ⟨_, (t.nw _ (List.mem_append_right _ (List.mem_append_right _ h1))).1, rfl, k, rfl⟩ (x := y) (by simpa using hy) fun h' hit hs => ?_
    obtain ⟨o', q1, q2, q3⟩ := hit
    exact hQ y o' _ (t.setE hs q1 s.toks) tk ry (.tup h1 h2 q2 q3)
theorem it_end {v : V} {i : Nat} {I : Addr} {o : Obj} {ps : List P} {w : Option Nat} (hi : itemsOf v H₀ = some (ps, w)) (hw : stays w ps H = true) (hx : i = ps.length) (t : St X h₀ L m mu ((I, o) :: ext) imm H s) (tk : 1 ≤ s.toks) (r : ItR imm (mu.map Prod.fst) v i o) (hh : A.handled = none)
    {Q : Option Value → Shared → Prop} (hQ : ∀ s', St X h₀ L m mu ext imm H s' → 1 ≤ s'.toks → Q none s') :
    wpAny (model X.prog X.w) A (pyNext (.ref I)) Q E s := by
  obtain ⟨g1, g2, g3⟩ := t.getE
  subst hx
  cases r with
  | list h1 h2 h3 =>
    rename_i r a
    rw [items_ref hi] at hw
    obtain ⟨a', vs, k, e1, d1, l1, m1, i1⟩ := t.lst (stays_ref hw)
    cases addr_eq h1 e1
    exact wpAny_pyNext_list_end hh ⟨_, g1, h2, h3⟩ i1 (by simp [l1]) fun h' hs => hQ _ (t.endE hs s.toks) tk
  | rng =>
    rename_i a b
    cases items_rng hi
    exact wpAny_pyNext_range_end hh g1 (by simp [rngL]) fun h' hs => hQ _ (t.endE hs s.toks) tk
  | str h1 h2 =>
    rename_i l tt
    cases items_str hi
    have hcx : (S l).cps[(l.map fun c => P.str [c]).length]? = none := by simp
    rcases strTy_cases l with e | e
    · rw [e] at h1
      exact wpAny_pyNext_ascii_end hh ⟨_, g1, h1, h2⟩ hcx fun h' hs => hQ _ (t.endE hs s.toks) tk
    · rw [e] at h1
      exact wpAny_pyNext_wide_end hh ⟨_, g1, h1, h2⟩ hcx fun h' hs => hQ _ (t.endE hs s.toks) tk
  | tup h1 h2 h3 h4 =>
    rename_i ps' tt vs k
    cases items_tup hi
    have hl : vs.length = ps.length := by rw [h2.length, dats_len]
    exact wpAny_pyNext_tuple_end hh ⟨_, g1, h3, h4⟩ ⟨_, (t.nw _ (List.mem_append_right _ (List.mem_append_right _ h1))).1, rfl, k, rfl⟩ (by simp [hl]) fun h' hs => hQ _ (t.endE hs s.toks) tk
end
end Mine
end
section
open PySem PySem.W PyProof.Rows PyProof.V
set_option Elab.async false
set_option genSizeOf false
set_option maxRecDepth 20000
namespace Mine
section
variable {X : Wd} {n : Nat} {c : Ce} {env : Env} {loc loc' : List (Option V)} {H H' H₀ : List O} {A : Around} {h₀ : Heap} {L : Addr} {m : Str → Option Value} {mu ext imm : List (Addr × Obj)} {s : Shared} {E : Value → Shared → Prop}

theorem LRel.store (eo : EnvOk c env) (lr : LRel X c.nm env m imm (mu.map Prod.fst) loc) {x : Str} {i : Nat} {v : V} {y : Value} (hk : c.kind x = some .local) (hs : c.slot x = some i) (ry : VRel X imm (mu.map Prod.fst) v y) :
    LRel X c.nm env (fun z => if z = x then some y else m z) imm (mu.map Prod.fst) (loc.set i (some v)) := by
  intro j u z hj hz
  by_cases hji : i = j
  · subst hji
    have hx := idxS_get hs
    rw [hx] at hz
    cases hz
    rw [List.getElem?_set] at hj
    simp only [if_true] at hj
    split at hj
    · cases hj
      refine ⟨fun _ => ⟨y, if_pos rfl, ry⟩, fun h => ?_⟩
      rw [eo.kind, hk] at h
      rcases h with h | h <;> cases h
    · cases hj
  · rw [List.getElem?_set_ne hji] at hj
    obtain ⟨a, b⟩ := lr j u z hj hz
    have hne : z ≠ x := fun e => by
      subst e
      have hx := idxS_get hs
      exact hji ((List.getElem?_inj (List.getElem?_eq_some_iff.mp hx).1 eo.nd).mp (hx.trans hz.symm))
    refine ⟨fun h => ?_, b⟩
    obtain ⟨q, h1, h2⟩ := a h
    exact ⟨q, (if_neg hne).trans h1, h2⟩
theorem St.store {X : Wd} {h₀ : Heap} {L : Addr} {m m' : Str → Option Value} {mu ext imm : List (Addr × Obj)} {H : List O} {s : Shared} (t : St X h₀ L m mu ext imm H s) {h' : Heap} (hn : h'.Ns L m') (hs : Heap.SameBut L s.heap h') (k : Nat) : St X h₀ L m' mu ext imm H { s with heap := h', toks := k } :=
  ⟨t.fr.set hn hs, fun p hp => ⟨(hs.2 _ (t.nw p hp).2.1).trans (t.nw p hp).1, (t.nw p hp).2⟩, t.nd, t.mr, t.g, t.d, t.os⟩
theorem At.storeL (eo : EnvOk c env) (a : At X c env h₀ m ext loc mu imm H s) {x : Str} {i : Nat} {v : V} {y : Value} (hk : c.kind x = some .local) (hs : c.slot x = some i) (ry : VRel X imm (mu.map Prod.fst) v y) {Q : Unit → Shared → Prop}
    (hQ : ∀ m' s', At X c env h₀ m' ext (loc.set i (some v)) mu imm H s' → Q () s') : wpAny (model X.prog X.w) A (storeName env x y) Q E s := by
  have hkk : env.scope.kind = .function := eo.fn'
  refine wpAny_storeName_local ((eo.kind x).trans hk) a.st.fr.ns (fun h' hn hb => ?_) (by rw [hkk]; rfl)
  exact hQ _ _ ⟨a.st.store hn hb (s.toks + 1), Nat.le_add_left _ _, a.lr.store eo hk hs ry⟩
theorem At.storeC (eo : EnvOk c env) (a : At X c env h₀ m ext loc mu imm H s) {x : Str} {i r : Nat} {p : P} {o : Option P} {y : Value} (hk : c.kind x = some .cell) (hs : c.slot x = some i) (hl : loc[i]? = some (some (.ref r))) (hr : H[r]? = some (.cell o)) (ry : DatIn imm y p.dat) {Q : Unit → Shared → Prop}
    (hQ : ∀ mu' s', At X c env h₀ m ext loc mu' imm (H.set r (.cell (some p))) s' → Gw mu imm mu' imm → Q () s') : wpAny (model X.prog X.w) A (storeName env x y) Q E s := by
  obtain ⟨r', d, e1, e2, e3⟩ := (a.lr i _ x hl (idxS_get hs)).2 (.inl ((eo.kind x).trans hk))
  cases e1
  obtain ⟨en, he, ho⟩ := a.st.mr.get hr
  rw [List.getElem?_map, he] at e3
  cases e3
  have hc : ∃ w, en.2.data = .cell w := by cases ho with
    | cellN h => exact ⟨_, h⟩
    | cellS h _ => exact ⟨_, h⟩
  obtain ⟨w, hw⟩ := hc
  have hm : en ∈ mu ++ (ext ++ imm) := List.mem_append_left _ (List.mem_of_getElem? he)
  obtain ⟨q1, q2, q3⟩ := a.st.nw _ hm
  refine wpAny_storeName_cell eo.fn' ((eo.kind x).trans hk) e2 ⟨_, q1, hw⟩ fun h' hc' hs' => ?_
  obtain ⟨o', g1, g2⟩ := hc'
  obtain ⟨ad, oo⟩ := en
  have U := a.st.updOf o' he
  obtain ⟨pre, post, e1, e2', h1, h2⟩ := U.split
  have N : News h₀ env.locals h' (mu.set r (ad, o') ++ (ext ++ imm)) := by
    rw [e2']
    exact news_set (e1 ▸ a.st.nw) h1 h2 hs' g1
  have F := a.st.fr.change hs' q2 q3
  have t := a.st.upd he F N (.cellS g2 ry) s.toks
  exact hQ _ _ ⟨t, a.tk, a.lr.gw (gw_set he)⟩ (gw_set he)
/-- names in order, each a local -/
theorem seqO_cons {α : Type} {a : Option α} {r : List (Option α)} {l : List α} (h : seqO (a :: r) = some l) : ∃ b q, a = some b ∧ seqO r = some q ∧ l = b :: q :=
  bindE h fun b h1 h => mapE h fun q h2 e => ⟨b, q, h1, h2, (Option.some.inj e).symm⟩
theorem seqO_len {α β : Type} {f : α → Option β} : ∀ {es : List α} {l : List β}, seqO (es.map f) = some l → l.length = es.length := by
  intro es
  induction es with
  | nil => exact fun h => by cases h; rfl
  | cons e es ih => exact fun h => by obtain ⟨i, q, _, h2, rfl⟩ := seqO_cons h; exact congrArg (· + 1) (ih h2)
theorem nmSlot_some {e : PySem.Expr} {i : Nat} (h : nmSlot c e = some i) : ∃ x p, e = .Name x p ∧ c.kind x = some .local ∧ c.slot x = some i :=
  bindE h fun x e h => iteP h fun hk h => by
    obtain ⟨p, e⟩ := nameE_eq e
    exact ⟨x, p, e, eq_of_beq hk, h⟩
noncomputable def setAll (l : List (Nat × P)) (loc : List (Option V)) : List (Option V) := l.foldl (fun loc x => loc.set x.1 (some (.p x.2))) loc
theorem setAll_cons (x : Nat × P) (l : List (Nat × P)) (loc : List (Option V)) : setAll (x :: l) loc = setAll l (loc.set x.1 (some (.p x.2))) := rfl
theorem At.inOrder (eo : EnvOk c env) : ∀ {es : List PySem.Expr} {l : List Nat} {vs : List Value} {ps : List P} {loc : List (Option V)} {m : Str → Option Value} {s : Shared}, seqO (es.map (nmSlot c)) = some l → l.length = ps.length → DatAll imm vs (dats ps) → At X c env h₀ m ext loc mu imm H s →
    ∀ {Q : Unit → Shared → Prop}, (∀ m' s', At X c env h₀ m' ext (setAll (l.zip ps) loc) mu imm H s' → Q () s') → wpAny (model X.prog X.w) A (assignInOrder (es.map fun e => assign e env) vs) Q E s := by
  intro es
  induction es with
  | nil =>
    intro l vs ps loc m s hl hlen hd a Q hQ
    cases hl
    cases ps with
    | nil => cases hd; exact wpAny_pure (hQ _ _ a)
    | cons p r => cases hlen
  | cons e es ih =>
    intro l vs ps loc m s hl hlen hd a Q hQ
    obtain ⟨i, q, h1, h2, rfl⟩ := seqO_cons hl
    cases ps with
    | nil => cases hlen
    | cons p ps =>
      cases hd with
      | cons hy hr =>
        obtain ⟨x, pp, rfl, hk, hs⟩ := nmSlot_some h1
        exact wpAny_bind (wpAny_holding (wpAny_assign_Name (a.storeL eo hk hs (v := .p p) hy fun m' s' a' => ih h2 (Nat.succ.inj hlen) hr a' hQ)))
theorem assignEach_names : ∀ {es : List PySem.Expr} {l : List Nat}, seqO (es.map (nmSlot c)) = some l → assignEach es env = es.map fun e => (false, assign e env) := by
  intro es
  induction es with
  | nil => exact fun _ => rfl
  | cons e es ih =>
    intro l h
    obtain ⟨i, q, h1, h2, rfl⟩ := seqO_cons h
    obtain ⟨x, pp, rfl, hk, hs⟩ := nmSlot_some h1
    rw [List.map_cons, ← ih h2]; rfl
theorem St.ext0 {X : Wd} {h₀ : Heap} {L : Addr} {m : Str → Option Value} {mu ext imm : List (Addr × Obj)} {H : List O} {s : Shared} (t : St X h₀ L m mu ext imm H s) {h' : Heap} (hs : Heap.ExtBut s.heap.objs.size s.heap h') (k : Nat) : St X h₀ L m mu ext imm H { s with heap := h', toks := k } :=
  t.keeps (fun b o e => hs b o (Nat.ne_of_lt (Heap.lt_size e)) e) k
theorem at_of {l : List (Option V)} {K : List O} (e : some (l, K) = some (loc', H')) (a : At X c env h₀ m ext l mu imm K s) : At X c env h₀ m ext loc' mu imm H' s := by cases e; exact a
theorem sg_cel (eo : EnvOk c env) {x : Str} {p : Pos} {i : Nat} {v : V} {y : Value} (hk : c.kind x = some .cell) (hs : c.slot x = some i) (hv : tgt (.cel i) v loc H = some (loc', H')) (a : At X c env h₀ m ext loc mu imm H s) (ry : VRel X imm (mu.map Prod.fst) v y) {Q : Unit → Shared → Prop}
    (hQ : ∀ m' mu' s', At X c env h₀ m' ext loc' mu' imm H' s' → Gw mu imm mu' imm → Q () s') : wpAny (model X.prog X.w) A (assign (.Name x p) env y) Q E s := by
  refine bindE (o := (loc[i]?).join) hv fun u hl hv => bindE hv fun r hr hv => bindE hv fun x hx hv => bindE hv fun o ho hv => bindE hv fun K hK hz => ?_
  cases o with
  | cell z =>
    exact wpAny_assign_Name (a.storeC eo hk hs ((join_eq hl).trans (by rw [rf_eq hr])) ho (dat_E hx ry) fun mu' s' a' g => hQ _ _ _ (at_of ((congrArg (fun K => some (loc, K)) (Option.some.inj hK)).trans hz) a') g)
  | _ => first | exact no hK | exact nob hK | cases hK
theorem sg_tup (eo : EnvOk c env) {es : List PySem.Expr} {k : Nat} {p : Pos} {l : List Nat} {v : V} {y : Value} (hl : seqO (es.map (nmSlot c)) = some l) (hv : tgt (.tup l) v loc H = some (loc', H')) (hh : A.handled = none) (a : At X c env h₀ m ext loc mu imm H s) (ry : VRel X imm (mu.map Prod.fst) v y) {Q : Unit → Shared → Prop}
    (hQ : ∀ m' mu' s', At X c env h₀ m' ext loc' mu' imm H' s' → Gw mu imm mu' imm → Q () s') : wpAny (model X.prog X.w) A (assign (.Tuple es k p) env y) Q E s := by
  refine bindE hv fun ps hp hv => iteE hv fun hk hz => andE hk fun h1 h2 => ?_
  rw [tup_eq hp] at ry
  obtain ⟨tt, vs, k, rfl, q1, q2⟩ := DatIn.tupV ry
  have hlen : l.length = ps.length := eq_of_beq h1
  have hes := seqO_len hl
  have hvs : vs.length = ps.length := by rw [q2.length, dats_len]
  refine wpAny_assign_Tuple hh ⟨_, (a.st.nw _ (St.sub_imm _ q1)).1, rfl, k, rfl⟩ (by rw [assignEach_names hl, List.length_map, ← hes, hlen, ← hvs, List.size_toArray]) (by rw [assignEach_names hl, List.findIdx?_eq_none_iff]; simp) fun h' hs' => ?_
  rw [assignEach_names hl, List.map_map]
  exact At.inOrder eo hl hlen q2 ⟨a.st.ext0 hs' s.toks, a.tk, a.lr⟩ fun m' s' a'' => hQ _ _ _ (at_of hz a'') .refl
theorem sg_tgt (eo : EnvOk c env) {t : PySem.Expr} {tg : Tg} {v : V} {y : Value} (ht : tgtOf c t = some tg) (hv : tgt tg v loc H = some (loc', H')) (hh : A.handled = none) (a : At X c env h₀ m ext loc mu imm H s) (ry : VRel X imm (mu.map Prod.fst) v y) {Q : Unit → Shared → Prop}
    (hQ : ∀ m' mu' s', At X c env h₀ m' ext loc' mu' imm H' s' → Gw mu imm mu' imm → Q () s') : wpAny (model X.prog X.w) A (assign t env y) Q E s := by
  cases t with
  | Name x p =>
    refine bindE ht fun k hk ht => ?_
    cases k with
    | «local» =>
      refine mapE ht fun i hs e => ?_
      rw [← Option.some.inj e] at hv
      refine iteP hv fun _ hz => ?_
      exact wpAny_assign_Name (a.storeL eo hk hs ry fun m' s' a' => hQ _ _ _ (at_of hz a') .refl)
    | cell =>
      refine mapE ht fun i hs e => ?_
      rw [← Option.some.inj e] at hv
      exact sg_cel eo hk hs hv a ry hQ
    | _ => first | exact no ht | exact nob ht | cases ht
  | Tuple es k p =>
    refine mapE ht fun l hl e => ?_
    rw [← Option.some.inj e] at hv
    exact sg_tup eo hl hv hh a ry hQ
  | _ => first | exact no ht | exact nob ht | cases ht
end
end Mine
end
section
open PySem PySem.W PyProof.Rows PyProof.V
set_option Elab.async false
set_option genSizeOf false
set_option maxRecDepth 20000
namespace Mine
/-- a ground on which a callee or a comprehension stands: all that is old, the ledger hidden -/
theorem ground {h₀ h : Heap} {L : Addr} {m : Str → Option Value} {news : List (Addr × Obj)} (F : Fr h₀ L h m) (N : News h₀ L h news) :
    ∃ g : Heap, (∀ b o, h₀.get? b = some o → g.get? b = some o) ∧ g.objs.size = h.objs.size ∧ (∀ b o, g.get? b = some o → h.get? b = some o) ∧ (∀ p ∈ news, g.get? p.1 = none) ∧
      (∀ L' h' m' news', Fr g L' h' m' → News g L' h' news' → Fr h₀ L h' m ∧ News h₀ L h' news') := by
  have nm : ∀ b o, h₀.get? b = some o → b ∉ news.map (·.1) := fun b o e q => by
    obtain ⟨p, hp, rfl⟩ := List.mem_map.mp q
    rw [(N p hp).2.2] at e; cases e
  have st : ∀ b o, h₀.get? b = some o → (hideAll h (news.map (·.1))).get? b = some o := fun b o e => hideAll_get _ (F.keep b o e) (nm b o e)
  obtain ⟨oL, es, ep, hL, hLd, hLk, hLf⟩ := F.ns
  have nL : L ∉ news.map (·.1) := fun q => by
    obtain ⟨p, hp, e⟩ := List.mem_map.mp q
    exact (N p hp).2.1 e
  have hLg := hideAll_get (news.map (·.1)) hL nL
  refine ⟨hideAll h (news.map (·.1)), st, hideAll_size _ _, fun b o e => of_hideAll _ e, fun p hp => hideAll_none _ (List.mem_map_of_mem hp), fun L' h' m' news' F' N' => ?_⟩
  refine ⟨⟨⟨oL, es, ep, F'.keep L oL hLg, hLd, hLk, hLf⟩, fun b o e => F'.keep b o (st b o e), F.above⟩, fun p hp => ⟨(N' p hp).1, fun q => ?_, ?_⟩⟩
  · have := (N' p hp).2.2; rw [q, hLg] at this; cases this
  · cases q : h₀.get? p.1 with
    | none => rfl
    | some o => have := (N' p hp).2.2; rw [st _ _ q] at this; cases this
section
variable {X : Wd} {n : Nat} {c : Ce} {env : Env} {loc loc' : List (Option V)} {H H' H₀ : List O} {A : Around} {h₀ : Heap} {L : Addr} {m : Str → Option Value} {mu ext imm : List (Addr × Obj)} {s : Shared} {E : Value → Shared → Prop}
theorem MRel.take {X : Wd} {imm : List (Addr × Obj)} {es : List (Addr × Obj)} {os : List O} (h : MRel X imm es os) (k : Nat) : MRel X imm (es.take k) (os.take k) := by
  induction h generalizing k with
  | nil => simp; exact .nil
  | cons a _ ih =>
    cases k with
    | zero => simp; exact .nil
    | succ k => simpa using .cons a (ih k)
theorem St.trunc (t : St X h₀ L m mu ext imm H s) (k : Nat) : St X h₀ L m (mu.take k) ext imm (H.take k) s := by
  have sl : (mu.take k ++ (ext ++ imm)).Sublist (mu ++ (ext ++ imm)) := (List.take_sublist k mu).append (List.Sublist.refl _)
  exact ⟨t.fr, news_sub t.nw fun p hp => sl.subset hp, t.nd.sublist (sl.map _), t.mr.take k, t.g, t.d, t.os⟩
theorem Gw.trunc {mu' imm' : List (Addr × Obj)} (g : Gw mu imm mu' imm') {k : Nat} (hk : mu.length ≤ k) : Gw mu imm (mu'.take k) imm' := by
  refine ⟨?_, g.im⟩
  rw [List.map_take, List.prefix_take_iff]
  exact ⟨g.ad, by rw [List.length_map]; exact hk⟩

/-- less told of the locals -/
noncomputable def Le (a b : List (Option V)) : Prop := ∀ (i : Nat) (v : V), a[i]? = some (some v) → b[i]? = some (some v)
theorem Le.refl {a : List (Option V)} : Le a a := fun _ _ h => h
theorem Le.trans {a b c : List (Option V)} (x : Le a b) (y : Le b c) : Le a c := fun i v h => y i v (x i v h)
theorem At.le {X c env h₀ m ext loc loc' mu imm H s} (a : At X c env h₀ m ext loc' mu imm H s) (l : Le loc loc') : At X c env h₀ m ext loc mu imm H s := ⟨a.st, a.tk, fun i v x hv hx => a.lr i v x (l i v hv) hx⟩
theorem Le.set {a b : List (Option V)} {i : Nat} {v : V} (h : Le a b) (hn : ∀ u, a[i]? ≠ some (some u)) : Le a (b.set i (some v)) := fun j u hj => by
  by_cases e : i = j
  · subst e; exact absurd hj (hn u)
  · rw [List.getElem?_set_ne e]; exact h j u hj
theorem Le.setAll {a : List (Option V)} : ∀ {l : List (Nat × P)} {b : List (Option V)}, Le a b → (∀ x ∈ l, ∀ u, a[x.1]? ≠ some (some u)) → Le a (setAll l b)
  | [], b, h, _ => h
  | x :: r, b, h, hn => by
    rw [setAll_cons]
    exact Le.setAll (h.set (hn x (.head _))) fun y hy => hn y (.tail _ hy)
theorem tgt_le {loc₀ : List (Option V)} {t : Tg} {v : V} (hv : tgt t v loc H = some (loc', H')) (hf : tgFree t loc₀ = true) (h : Le loc₀ loc) : Le loc₀ loc' := by
  cases t with
  | one i =>
    refine iteP hv fun _ hv => ?_
    cases hv
    refine h.set fun u hu => ?_
    unfold tgFree at hf
    simp only [hu] at hf
    cases hf
  | cel i => first | exact no hf | exact nob hf | cases hf
  | tup l =>
    refine bindE hv fun ps hp hv => iteE hv fun _ hv => ?_
    cases hv
    refine Le.setAll (l := l.zip ps) h fun x hx u hu => ?_
    have := List.all_eq_true.mp hf x.1 (List.of_mem_zip hx).1
    simp only [hu] at this
    cases this

theorem own_go {t : PySem.Expr} {v : V} {i : Nat} {I : Addr} {o : Obj} {y : Value} (st : St X h₀ L m mu ((I, o) :: ext) imm H s) (r : ItR imm (mu.map Prod.fst) v i o) {Q : Unit → Shared → Prop} (hQ : Q () s) : wpAny (model X.prog X.w) A (letOwnedTupleGo t (.ref I) y) Q E s := by
  obtain ⟨g1, g2, g3⟩ := st.getE
  have core : ∀ p, wpAny (model X.prog X.w) A (letOwnedTupleGo (.Tuple [] 0 p) (.ref I) y) Q E s := fun p => by
    cases y with
    | ref a =>
      refine wpAny_bind (wpAny_load g1 ?_)
      cases r with
      | list h1 h2 h3 => simp only [h2, h3]; refine KFB.if_not ?_ (wpAny_pure hQ); rfl
      | rng => refine KFB.if_not ?_ (wpAny_pure hQ); rfl
      | str h1 h2 =>
        rename_i l tt
        simp only [h1, h2]
        rcases strTy_cases l with e | e <;> rw [e] <;> exact KFB.if_not rfl (wpAny_pure hQ)
      | tup h1 h2 h3 h4 => simp only [h3, h4]; refine KFB.if_not ?_ (wpAny_pure hQ); rfl
    | _ => exact wpAny_pure hQ
  cases t <;> first | exact wpAny_pure hQ | exact core default
end
end Mine
end
section
open PySem PySem.W PyProof.Rows PyProof.V
set_option Elab.async false
set_option genSizeOf false
set_option maxRecDepth 20000
namespace Mine
section
variable {X : Wd} {n : Nat} {c : Ce} {env : Env} {loc loc' : List (Option V)} {H H' H₀ : List O} {A : Around} {h₀ : Heap} {L : Addr} {m : Str → Option Value} {mu ext imm : List (Addr × Obj)} {s : Shared} {E : Value → Shared → Prop}

/-- what is done in a turn of a comprehension behind the target -/
noncomputable def InS (X : Wd) (n : Nat) (c : Ce) (env : Env) (D : Addr) (a : Nat) (inner : Sem Unit) (turn : List (Option V) → List O → Option (List O)) : Prop :=
  ∀ ⦃loc : List (Option V)⦄ ⦃H H' : List O⦄ ⦃A : Around⦄ ⦃h₀ : Heap⦄ ⦃m : Str → Option Value⦄ ⦃mu ext imm : List (Addr × Obj)⦄ ⦃s : Shared⦄ ⦃Q : Unit → Shared → Prop⦄ ⦃E : Value → Shared → Prop⦄,
    turn loc H = some H' → Room A n → X.In h₀ → At X c env h₀ m ext loc mu imm H s → (mu.map Prod.fst)[a]? = some D →
    (∀ m' mu' imm' s', At X c env h₀ m' ext loc mu' imm' H' s' → Gw mu imm mu' imm' → Q () s') → wpAny (model X.prog X.w) A inner Q E s

theorem pre_get {mu mu' imm imm' : List (Addr × Obj)} (g : Gw mu imm mu' imm') {a : Nat} {D : Addr} (h : (mu.map Prod.fst)[a]? = some D) : (mu'.map Prod.fst)[a]? = some D := by
  obtain ⟨t, ht⟩ := g.ad
  rw [← ht, List.getElem?_append_left (List.getElem?_eq_some_iff.mp h).1]; exact h

theorem cmp_loop {elt : PySem.Expr} {gens : List Comprehension} {scope : Scope} {pos : Pos} {d : Nat} {I D : Addr} {a : Nat} {t : PySem.Expr} {p : Pos} {inner : Sem Unit} {tg : Tg} {turn : List (Option V) → List O → Option (List O)} {v : V} {ps : List P} {w : Option Nat} {loc₀ : List (Option V)} {R : Result → Shared → Prop}
    (eo : EnvOk c env)
    (hturn : compTurn (.ListComp elt gens scope pos) d (.ref I) (.ref D) env = (standAt p >>= fun _ => pyNext (.ref I) >>= fun r => match r with
      | none => pure (.done .next)
      | some v => letOwnedTupleGo t (.ref I) v >>= fun _ => assign t env v >>= fun _ => inner >>= fun _ => again (.compLoop (.ListComp elt gens scope pos) d (.ref I) (.ref D) env)))
    (hin : InS X n c env D a inner turn) (ht : tgtOf c t = some tg) (hi : itemsOf v H₀ = some (ps, w)) (Rm : Room A n) (hI : X.In h₀) :
    ∀ {rem : List P} {i : Nat} {loc : List (Option V)} {H H' : List O} {m : Str → Option Value} {mu imm : List (Addr × Obj)} {o : Obj} {s : Shared}, i + rem.length = ps.length → ps.drop i = rem → cmpL ps w tg turn loc rem H = some H' → At X c env h₀ m ((I, o) :: ext) loc mu imm H s →
      ItR imm (mu.map Prod.fst) v i o → (mu.map Prod.fst)[a]? = some D → (tgFree tg loc₀ = true → Le loc₀ loc) →
      (∀ loc' m' mu' imm' s', At X c env h₀ m' ext loc' mu' imm' H' s' → Gw mu imm mu' imm' → (tgFree tg loc₀ = true → Le loc₀ loc') → R (.ok .next) s') → codeAny (model X.prog X.w) A (.compLoop (.ListComp elt gens scope pos) d (.ref I) (.ref D) env) R s := by
  intro rem
  induction rem with
  | nil =>
    intro i loc H H' m mu imm o s hl hd hv at_ it ha hle hR
    refine iteE hv fun hw hv => ?_
    cases Option.some.inj hv
    refine codeAny_of_tree ?_
    show wpAny _ A ((compTurn (.ListComp elt gens scope pos) d (.ref I) (.ref D) env).onRaise (fun x => do noteFrame x env; theTreesLotGoes x)) _ _ s
    refine wpAny_noted ?_
    rw [hturn]
    refine wpAny_bind (wpAny_standAt (wpAny_bind (it_end hi hw (by simpa using hl) at_.st at_.tk it Rm.1 fun s' st tk => ?_)))
    exact wpAny_pure (hR _ _ _ _ _ ⟨st, tk, at_.lr⟩ .refl hle)
  | cons x rem ir =>
    intro i loc H H' m mu imm o s hl hd hv at_ it ha hle hR
    refine iteE hv fun hw hv => bindE hv fun q h1 hv => bindE hv fun z h2 hv => ?_
    have hx : ps[i]? = some x := by
      have := congrArg (fun l => l[0]?) hd
      simpa using this
    refine codeAny_of_tree ?_
    show wpAny _ A ((compTurn (.ListComp elt gens scope pos) d (.ref I) (.ref D) env).onRaise (fun x => do noteFrame x env; theTreesLotGoes x)) _ _ s
    refine wpAny_noted ?_
    rw [hturn]
    refine wpAny_bind (wpAny_standAt (wpAny_bind (it_item hi hw hx at_.st at_.tk it fun y o' s1 st1 tk1 ry it1 => ?_)))
    have a1 : At X c env h₀ m ((I, o') :: ext) loc mu imm H s1 := ⟨st1, tk1, at_.lr⟩
    refine wpAny_bind (own_go st1 it1 (wpAny_bind (sg_tgt eo ht (loc' := q.1) (H' := q.2) h1 Rm.1 a1 (v := .p x) ry fun m2 mu2 s2 a2 g2 => wpAny_bind (hin h2 Rm hI a2 (pre_get g2 ha) fun m3 mu3 imm3 s3 a3 g3 => ?_))))
    refine wpAny_pure ⟨rfl, ?_⟩
    have g := g2.trans g3
    exact ir (by rw [List.length_cons] at hl; lia) (by
      have := congrArg (List.drop 1) hd
      simpa [List.drop_drop, Nat.add_comm] using this) hv a3 (it1.mono g.im g.ad) (pre_get g ha) (fun hf => tgt_le h1 hf (hle hf)) fun loc' m' mu' imm' s' a' g' l' => hR _ _ _ _ _ a' (g.trans g') l'
end
end Mine
end
section
open PySem PySem.W PyProof.Rows PyProof.V
set_option Elab.async false
set_option maxRecDepth 20000
namespace Mine
theorem ndup_nodup : ∀ {l : List Str}, ndup l = true → l.Nodup
  | [], _ => .nil
  | x :: r, h => by
    unfold ndup at h
    obtain ⟨a, b⟩ := Bool.and_eq_true_iff.mp h
    rw [List.nodup_cons]
    exact ⟨by simpa using a, ndup_nodup b⟩
theorem lookup_nodup : ∀ {l : List (Str × NameKind)} {x : Str} {k : NameKind}, (l.map (·.1)).Nodup → (x, k) ∈ l → l.lookup x = some k
  | (y, j) :: r, x, k, hn, hm => by
    rw [List.map_cons, List.nodup_cons] at hn
    rw [List.lookup_cons]
    rcases List.mem_cons.mp hm with e | hm
    · cases e; simp
    · have : (x == y) = false := by
        cases h : x == y with
        | false => rfl
        | true => rw [eq_of_beq h] at hm; exact absurd (List.mem_map_of_mem hm) hn.1
      rw [this]
      exact lookup_nodup hn.2 hm
theorem closure_loop {env : Env} (f : Str × NameKind → List (Str × Addr) → Sem (ForInStep (List (Str × Addr))))
    (hf : ∀ name kind cs, f (name, kind) cs = if kind == .free then (do let a ← cellOf env name; pure (.yield ((name, a) :: cs))) else pure (.yield cs)) :
    ∀ (names : List (Str × NameKind)) (acc : List (Str × Addr)), (∀ x ∈ names, x.2 = .free → (env.cells.lookup x.1).isSome = true) → (∀ x a, acc.lookup x = some a → env.cells.lookup x = some a) →
      ∃ cl, (forIn names acc f : Sem _) = pure cl ∧ (∀ x a, cl.lookup x = some a → env.cells.lookup x = some a) ∧ (∀ x ∈ names, x.2 = .free → (cl.lookup x.1).isSome = true) ∧ ∀ x, (acc.lookup x).isSome = true → (cl.lookup x).isSome = true := by
  intro names
  induction names with
  | nil => exact fun acc _ h2 => ⟨acc, List.forIn_nil, h2, (fun _ h => nomatch h), fun _ h => h⟩
  | cons nk r ih =>
    intro acc h1 h2
    obtain ⟨name, kind⟩ := nk
    rw [List.forIn_cons, hf]
    by_cases hk : kind = .free
    · subst hk
      obtain ⟨a, ha⟩ := Option.isSome_iff_exists.mp (h1 _ (.head _) rfl)
      have e : cellOf env name = pure a := by unfold cellOf; simp only at ha; rw [ha]
      rw [if_pos (by rfl), e]
      obtain ⟨cl, q1, q2, q3, q4⟩ := ih ((name, a) :: acc) (fun x hx => h1 x (.tail _ hx)) (fun x b hb => by
        rw [List.lookup_cons] at hb
        cases hxn : x == name with
        | true => rw [hxn] at hb; cases hb; rw [eq_of_beq hxn]; exact ha
        | false => rw [hxn] at hb; exact h2 x b hb)
      refine ⟨cl, q1, q2, fun x hx hf => ?_, fun x hx => q4 x ?_⟩
      · rcases List.mem_cons.mp hx with rfl | hx
        · exact q4 _ (by rw [List.lookup_cons, beq_self_eq_true]; rfl)
        · exact q3 x hx hf
      · rw [List.lookup_cons]
        cases x == name with
        | true => rfl
        | false => exact hx
    · have : (kind == NameKind.free) = false := by simpa using hk
      rw [this]
      obtain ⟨cl, q1, q2, q3, q4⟩ := ih acc (fun x hx => h1 x (.tail _ hx)) h2
      exact ⟨cl, q1, q2, fun x hx hfr => by
        rcases List.mem_cons.mp hx with rfl | hx
        · exact absurd hfr hk
        · exact q3 x hx hfr, q4⟩
theorem closure_of {env : Env} {scope : Scope} (h : ∀ x ∈ scope.names, x.2 = .free → (env.cells.lookup x.1).isSome = true) :
    ∃ cl, closureFor scope env = pure cl ∧ (∀ x ∈ scope.names, x.2 = .free → cl.lookup x.1 = env.cells.lookup x.1) := by
  obtain ⟨cl, h1, h2, h3, _⟩ := closure_loop (env := env) (fun x cs => if x.2 == .free then (do let a ← cellOf env x.1; pure (.yield ((x.1, a) :: cs))) else pure (.yield cs)) (fun _ _ _ => rfl) scope.names [] h (by simp)
  refine ⟨cl, ?_, fun x hx hf => ?_⟩
  · exact Eq.trans (b := (pure cl >>= fun cs => pure cs)) (congrArg (fun m => m >>= fun cs => pure cs) h1) rfl
  · obtain ⟨a, ha⟩ := Option.isSome_iff_exists.mp (h3 x hx hf)
    rw [ha, h2 _ _ ha]
end Mine
end
section
open PySem PySem.W PyProof.Rows PyProof.V
set_option Elab.async false
set_option maxRecDepth 20000
namespace Mine
theorem seqO_get {α : Type} : ∀ {l : List (Option α)} {r : List α}, seqO l = some r → ∀ j : Nat, l[j]? = r[j]?.map some
  | [], r, h, j => by cases h; simp
  | a :: l, r, h, j => by
    obtain ⟨b, q, rfl, h2, rfl⟩ := seqO_cons h
    cases j with
    | zero => simp
    | succ j => simpa using seqO_get h2 j
section
variable {X : Wd} {n : Nat} {c : Ce} {env : Env} {loc loc' : List (Option V)} {H H' H₀ : List O} {A : Around} {h₀ : Heap} {L : Addr} {m : Str → Option Value} {mu ext imm : List (Addr × Obj)} {s : Shared} {E : Value → Shared → Prop}

structure ScOk (c : Ce) (scope : Scope) : Prop where
  fn : scope.kind = .function
  ofn : c.sc.kind = .function
  nd : (scope.names.map (·.1)).Nodup
  nocell : ∀ x ∈ scope.names, x.2 ≠ .cell
  free : ∀ x ∈ scope.names, x.2 = .free → c.kind x.1 = some .cell
  dot : ∀ x ∈ scope.names, x.2 = .free → x.1 ≠ (".0" : Str)
theorem scOk_of {scope : Scope} (h : scOk c scope = true) : ScOk c scope := by
  unfold scOk at h
  simp only [Bool.and_eq_true] at h
  obtain ⟨⟨⟨h1, h2⟩, h3⟩, h4⟩ := h
  have h4 := List.all_eq_true.mp h4
  refine ⟨by simpa using h1, by simpa using h2, ndup_nodup h3, fun x hx e => ?_, fun x hx e => ?_, fun x hx e => ?_⟩
  · have := h4 x hx
    simp [e] at this
  · have := h4 x hx
    simp [e] at this
    exact this.1
  · have := h4 x hx
    simp [e] at this
    exact this.2
noncomputable def inP (x : Str × NameKind) : Bool := (x.2 == .local || x.2 == .cell || x.2 == .free) && x.1 != (".0" : Str)
theorem compNm_eq (scope : Scope) : compNm scope = (scope.names.filter inP).map (·.1) := rfl
noncomputable def frF (c : Ce) (x : Str × NameKind) : Option (Option Nat) := if x.2 == .local then some none else if x.2 == .free && c.kind x.1 == some .cell then (c.slot x.1).map some else none
theorem frame_eq {scope : Scope} {fr : List (Option Nat)} (h : c.frame scope = some fr) : seqO ((scope.names.filter inP).map (frF c)) = some fr := by
  exact h
theorem frame_at {scope : Scope} {fr : List (Option Nat)} (h : c.frame scope = some fr) {j : Nat} {x : Str} (hx : (compNm scope)[j]? = some x) : ∃ k, (x, k) ∈ scope.names ∧ fr[j]?.map some = some (frF c (x, k)) := by
  rw [compNm_eq, List.getElem?_map] at hx
  obtain ⟨p, hp, rfl⟩ := Option.map_eq_some_iff.mp hx
  refine ⟨p.2, (List.mem_filter.mp (List.mem_of_getElem? hp)).1, ?_⟩
  rw [← seqO_get (frame_eq h) j, List.getElem?_map, hp]
  rfl
noncomputable def relF (env : Env) (x : Str × NameKind) : Str × NameKind := if (x.2 == .free && env.scope.kind == .function && env.kindOf x.1 == some .cell) then (x.1, .cell) else x
theorem relF_fst (env : Env) (x : Str × NameKind) : (relF env x).1 = x.1 := by unfold relF; split <;> rfl
theorem relabel_eq (scope : Scope) (env : Env) : (relabel scope env).names = scope.names.map (relF env) := rfl
theorem inner_lrel {scope : Scope} {fr : List (Option Nat)} {cl : List (Str × Addr)} {C : Addr} {m' : Str → Option Value} (eo : EnvOk c env) (so : ScOk c scope) (hfr : c.frame scope = some fr)
    (lr : LRel X c.nm env m imm (mu.map Prod.fst) loc) (hcl : ∀ x ∈ scope.names, x.2 = .free → cl.lookup x.1 = env.cells.lookup x.1) :
    LRel X (c.inner scope).nm (compEnvC scope cl C env) m' imm (mu.map Prod.fst) (frOf fr loc) := by
  intro j v x hj hx
  have hx' : (compNm scope)[j]? = some x := hx
  obtain ⟨k, hm, hk⟩ := frame_at hfr hx'
  unfold frOf at hj
  rw [List.getElem?_map] at hj
  obtain ⟨z, hz, hb⟩ := Option.map_eq_some_iff.mp hj
  rw [hz] at hk
  have hk : some z = frF c (x, k) := Option.some.inj hk
  unfold frF at hk
  obtain ⟨i, rfl, hi⟩ := Option.bind_eq_some_iff.mp hb
  split at hk
  · cases hk
  · split at hk
    · rename_i _ hfk
      obtain ⟨h1, h2⟩ := Bool.and_eq_true_iff.mp hfk
      have h1 : k = .free := eq_of_beq h1
      have k2 : c.kind x = some .cell := eq_of_beq h2
      subst h1
      have hs : c.slot x = some i := by
        obtain ⟨i', hs, e⟩ := Option.map_eq_some_iff.mp hk.symm
        cases e; exact hs
      have hloc : loc[i]? = some (some v) := by
        cases q : loc[i]? with
        | none => rw [q] at hi; cases hi
        | some u => rw [q] at hi; simp at hi; rw [hi]
      obtain ⟨r, d, e1, e2, e3⟩ := (lr i v x hloc (idxS_get hs)).2 (.inl ((eo.kind x).trans k2))
      have hkind : (compEnvC scope cl C env).kindOf x = some .cell := by
        show (relabel scope env).names.lookup x = some .cell
        rw [relabel_eq]
        refine lookup_nodup ?_ (List.mem_map.mpr ⟨(x, .free), hm, ?_⟩)
        · rw [List.map_map, show ((fun x : Str × NameKind => x.1) ∘ relF env) = fun x => x.1 from funext fun x => relF_fst env x]
          exact so.nd
        · unfold relF
          simp [eo.fn', eo.kind, k2]
      refine ⟨fun h => (by rw [hkind] at h; cases h), fun _ => ⟨r, d, e1, ?_, e3⟩⟩
      show cl.lookup x = some d
      rw [hcl _ hm rfl]; exact e2
    · cases hk
theorem inner_eo {scope : Scope} {cl : List (Str × Addr)} {C : Addr} (eo : EnvOk c env) (so : ScOk c scope) : EnvOk (c.inner scope) (compEnvC scope cl C env) := by
  refine ⟨?_, eo.gl, eo.bi, so.fn, ?_⟩
  · show relabel scope env = effSc scope c.sc
    unfold relabel effSc Env.kindOf
    rw [eo.sc]
  · show (compNm scope).Nodup
    rw [compNm_eq]
    exact so.nd.sublist ((List.filter_sublist).map _)
theorem free_cells {scope : Scope} {fr : List (Option Nat)} (eo : EnvOk c env) (so : ScOk c scope) (hfr : c.frame scope = some fr) (hfo : frOk fr loc = true) (lr : LRel X c.nm env m imm (mu.map Prod.fst) loc) :
    ∀ x ∈ scope.names, x.2 = .free → (env.cells.lookup x.1).isSome = true := by
  rintro ⟨x, k⟩ hm hk
  simp only at hk
  subst hk
  have hin : (x, NameKind.free) ∈ scope.names.filter inP := List.mem_filter.mpr ⟨hm, by
    have := so.dot _ hm rfl
    simp only at this
    simp [inP, this]⟩
  obtain ⟨j, hj⟩ := List.getElem?_of_mem hin
  have h2 := so.free _ hm rfl
  simp only at h2
  have e := seqO_get (frame_eq hfr) j
  rw [List.getElem?_map, hj] at e
  simp only [Option.map_some, frF] at e
  rw [if_neg (by decide)] at e
  simp only [h2, beq_self_eq_true, Bool.and_self, if_true] at e
  cases q : fr[j]? with
  | none => rw [q] at e; cases e
  | some z =>
    rw [q] at e
    have e : Option.map some (c.slot x) = some z := Option.some.inj e
    obtain ⟨i, hs, rfl⟩ := Option.map_eq_some_iff.mp e
    have := List.all_eq_true.mp hfo _ (List.mem_of_getElem? q)
    simp only at this
    split at this
    · rename_i r hl
      obtain ⟨r', d, e1, e2, e3⟩ := (lr i _ x hl (idxS_get hs)).2 (.inl ((eo.kind x).trans h2))
      show (env.cells.lookup x).isSome = true
      rw [e2]; rfl
    · cases this

theorem comp_run {elt target iter : PySem.Expr} {ifs : List PySem.Expr} {rest : List Comprehension} {scope : Scope} {pos : Pos} {fr : List (Option Nat)} {v : V} {ps : List P} {w : Option Nat} {tg : Tg} {turn : List (Option V) → List O → Option (List O)} {K : List O} {cl : List (Str × Addr)}
    {I : Addr} {o : Obj} {RR : Value → Addr → Result → Shared → Prop} (inner : Env → Addr → Sem Unit)
    (eo : EnvOk c env) (so : ScOk c scope) (hfr : c.frame scope = some fr) (hcl : ∀ x ∈ scope.names, x.2 = .free → cl.lookup x.1 = env.cells.lookup x.1)
    (ht : tgtOf (c.inner scope) target = some tg) (hi : itemsOf v H₀ = some (ps, w)) (Rm : Room A n) (hI : X.In h₀)
    (hturn : ∀ cenv D, compTurn (.ListComp elt (⟨target, iter, ifs, 0⟩ :: rest) scope pos) 0 (.ref I) (.ref D) cenv = (standAt iter.pos >>= fun _ => pyNext (.ref I) >>= fun r => match r with
      | none => pure (.done .next)
      | some v => letOwnedTupleGo target (.ref I) v >>= fun _ => assign target cenv v >>= fun _ => inner cenv D >>= fun _ => again (.compLoop (.ListComp elt (⟨target, iter, ifs, 0⟩ :: rest) scope pos) 0 (.ref I) (.ref D) cenv)))
    (hin : ∀ C D, EnvOk (c.inner scope) (compEnvC scope cl C env) → InS X n (c.inner scope) (compEnvC scope cl C env) D H.length (inner (compEnvC scope cl C env) D) turn)
    (hv : cmpL ps w tg turn (frOf fr loc) ps (H ++ [.list []]) = some K)
    (a : At X c env h₀ m ((I, o) :: ext) loc mu imm H s) (it : ItR imm (mu.map Prod.fst) v 0 o)
    (hR : ∀ D C oC mC mu' imm' s', At X c env h₀ m ((C, oC) :: ext) loc mu' imm' (K.take (H.length + 1)) s' → (∀ s'' : Shared, s''.heap.get? C = some oC → s''.heap.Ns C mC) → (mu'.map Prod.fst)[H.length]? = some D → Gw mu imm mu' imm' → RR (.ref D) C (.ok .next) s') :
    wpAny (model X.prog X.w) A (newList []) (fun acc s₃ => wpAny (model X.prog X.w) A (newFunctionEnv scope env.globals cl [] env.qual none .none (some env)) (fun cenv s₄ =>
      codeAny (model X.prog X.w) A (.compStart (.ListComp elt (⟨target, iter, ifs, 0⟩ :: rest) scope pos) 0 (.ref I) acc { cenv with scope := relabel scope env }) (RR acc cenv.locals) s₄) E s₃) E s := by
  refine newList_K a.st.fr a.st.nw (fun D h' F N hlt => ?_) (by rw [sizeLine_eq]; exact Nat.zero_le _)
  have t3 := a.st.addM F N hlt (b := .list []) (.list (.nil : DatAll imm [] (dats []))) s.toks
  have hD : ((mu ++ [(D, listOf [].toArray 0)]).map Prod.fst)[H.length]? = some D := by rw [← a.st.mr.length]; simp
  obtain ⟨g, k1, k2, k3, k4, k5⟩ := ground t3.fr t3.nw
  have hI' : X.In g := hI.keeps k1
  refine wpAny_newFunctionEnv so.nocell (by simp) (fun h4 hns hsb => ?_) so.fn
  have hkeep : ∀ b o, h'.get? b = some o → h4.get? b = some o := fun b o e => hsb.extBut b o (Nat.ne_of_lt (Heap.lt_size e)) (Heap.get?_push_of_some _ e)
  have F4 : Fr g h'.objs.size h4 (fun _ => none) := ⟨by simpa using hns, fun b o e => hkeep b o (k3 b o e), Nat.le_of_eq k2⟩
  have t4 : St X g h'.objs.size (fun _ => none) (mu ++ [(D, listOf [].toArray 0)]) ((I, o) :: ext) imm (H ++ [.list []]) { s with heap := h4, toks := s.toks } :=
    ⟨F4, fun p hp => ⟨hkeep _ _ (t3.nw p hp).1, Nat.ne_of_lt (Heap.lt_size (t3.nw p hp).1), k4 p hp⟩, t3.nd, t3.mr, t3.g, t3.d, t3.os⟩
  have eo' := inner_eo (cl := cl) (C := h'.objs.size) eo so
  have a4 : At X (c.inner scope) (compEnvC scope cl h'.objs.size env) g (fun _ => none) ((I, o) :: ext) (frOf fr loc) (mu ++ [(D, listOf [].toArray 0)]) imm (H ++ [.list []]) { s with heap := h4, toks := s.toks } :=
    ⟨t4, a.tk, inner_lrel eo so hfr (a.lr.gw gw_mu) hcl⟩
  have it4 := it.mono (fun _ h => h) (gw_mu (mu := mu) (imm := imm) (a := (D, listOf [].toArray 0))).ad
  have fin : codeAny (model X.prog X.w) A (.compLoop (.ListComp elt (⟨target, iter, ifs, 0⟩ :: rest) scope pos) 0 (.ref I) (.ref D) (compEnvC scope cl h'.objs.size env)) (RR (.ref D) h'.objs.size) { s with heap := h4, toks := s.toks } := by
    refine cmp_loop (loc₀ := frOf fr loc) eo' (hturn _ D) (hin _ D eo') ht hi Rm hI' (i := 0) (by simp) rfl hv a4 it4 hD (fun _ => .refl) fun loc' m' mu' imm' s' a' g' _ => ?_
    obtain ⟨F', N'⟩ := k5 _ _ _ _ a'.st.fr a'.st.nw
    obtain ⟨oC, es, ep, hC, hCd, hCk, hCf⟩ := a'.st.fr.ns
    have hC : s'.heap.get? h'.objs.size = some oC := hC
    have tO : St X h₀ env.locals m mu' ext imm' K s' := ⟨F', N', a'.st.nd, a'.st.mr, a'.st.g, a'.st.d, a'.st.os⟩
    have hne : ∀ p ∈ mu' ++ (ext ++ imm'), p.1 ≠ h'.objs.size := fun p hp e => (a'.st.nw p hp).2.1 e
    have hCL : h'.objs.size ≠ env.locals := Nat.ne_of_gt t3.fr.ns.lt
    have hC0 : h₀.get? h'.objs.size = none := by
      cases q : h₀.get? h'.objs.size with
      | none => rfl
      | some o' => exact absurd (Heap.lt_size (t3.fr.keep _ _ q)) (Nat.lt_irrefl _)
    have tE : St X h₀ env.locals m mu' ((h'.objs.size, oC) :: ext) imm' K s' := by
      refine ⟨F', fun p hp => ?_, ?_, a'.st.mr, a'.st.g, a'.st.d, a'.st.os⟩
      · rcases List.mem_cons.mp (perm_ext.mem_iff.mp hp) with rfl | hp
        · exact ⟨hC, hCL, hC0⟩
        · exact N' p hp
      · rw [(perm_ext.map Prod.fst).nodup_iff, List.map_cons, List.nodup_cons]
        refine ⟨fun hm => ?_, tO.nd⟩
        obtain ⟨p, hp, q⟩ := List.mem_map.mp hm
        exact hne p hp q
    have gA : Gw mu imm mu' imm' := gw_mu.trans g'
    have lE : mu.length ≤ H.length + 1 := by rw [a.st.mr.length]; exact Nat.le_succ _
    have gT : Gw mu imm (mu'.take (H.length + 1)) imm' := gA.trunc lE
    refine hR D _ oC m' _ imm' s' ⟨tE.trunc (H.length + 1), a'.tk, a.lr.gw gT⟩ (fun s'' e => ⟨oC, es, ep, e, hCd, hCk, hCf⟩) ?_ gT
    rw [List.map_take, List.getElem?_take_of_lt (Nat.lt_succ_self _)]
    exact pre_get g' hD
  exact codeAny_compStart_list fin (it_self t4 it4 fin)
end
end Mine
end
section
open PySem PySem.W PyProof.Rows PyProof.V
set_option Elab.async false
set_option maxRecDepth 20000
namespace Mine
noncomputable def testsOf (ifs : List PySem.Expr) (env : Env) : Sem Bool := forIn ifs true fun c r => if r = true then do let ok ← isTrue c env (eval c env); pure (ForInStep.yield ok) else pure (ForInStep.yield r)
noncomputable def emit1 (elt : PySem.Expr) (env : Env) (D : Addr) : Sem Unit := do let _ ← call (.builtin "list.append") [.ref D, ← eval elt env]
noncomputable def inner1 (ifs : List PySem.Expr) (elt : PySem.Expr) (env : Env) (D : Addr) : Sem Unit := testsOf ifs env >>= fun ok => if ok = true then emit1 elt env D else pure ()
theorem turn1 (elt target iter : PySem.Expr) (ifs : List PySem.Expr) (scope : Scope) (pos : Pos) (I D : Addr) (cenv : Env) :
    compTurn (.ListComp elt [⟨target, iter, ifs, 0⟩] scope pos) 0 (.ref I) (.ref D) cenv = (standAt iter.pos >>= fun _ => pyNext (.ref I) >>= fun r => match r with
      | none => pure (.done .next)
      | some v => letOwnedTupleGo target (.ref I) v >>= fun _ => assign target cenv v >>= fun _ => inner1 ifs elt cenv D >>= fun _ => again (.compLoop (.ListComp elt [⟨target, iter, ifs, 0⟩] scope pos) 0 (.ref I) (.ref D) cenv)) := by
  rw [compTurn_list]
  refine bind_congr fun _ => bind_congr fun r => ?_
  cases r with
  | none => rfl
  | some v =>
    refine bind_congr fun _ => bind_congr fun _ => ?_
    unfold inner1 testsOf
    rw [bind_assoc]
    refine bind_congr fun ok => ?_
    cases ok with
    | true => rfl
    | false => simp
end Mine
end
section
open PySem PySem.W PyProof.Rows PyProof.V
set_option Elab.async false
set_option maxRecDepth 20000
namespace Mine
section
variable {X : Wd} {n : Nat} {c : Ce} {env : Env} {loc loc' : List (Option V)} {H H' H₀ : List O} {A : Around} {h₀ : Heap} {L : Addr} {m : Str → Option Value} {mu ext imm : List (Addr × Obj)} {s : Shared} {E : Value → Shared → Prop}
/-- a list of tests, each only if all ahead of it held -/
noncomputable def STs (X : Wd) (n : Nat) (c : Ce) (env : Env) (es : List PySem.Expr) (loc : List (Option V)) (H : List O) (b : Bool) (H' : List O) : Prop :=
  ∀ ⦃A : Around⦄ ⦃h₀ : Heap⦄ ⦃m : Str → Option Value⦄ ⦃mu ext imm : List (Addr × Obj)⦄ ⦃s : Shared⦄ ⦃Q : Bool → Shared → Prop⦄ ⦃E : Value → Shared → Prop⦄,
    Room A n → X.In h₀ → At X c env h₀ m ext loc mu imm H s →
    (∀ mu' imm' s', At X c env h₀ m ext loc mu' imm' H' s' → Gw mu imm mu' imm' → Q b s') → wpAny (model X.prog X.w) A (testsOf es env) Q E s
theorem sts_nil : STs X n c env [] loc H true H := by
  intro A h₀ m mu ext imm s Q E R I a hQ
  exact wpAny_tests_nil (hQ _ _ _ a .refl)
theorem tests_false : ∀ (es : List PySem.Expr), (forIn es false fun c r => if r = true then do let ok ← isTrue c env (eval c env); pure (ForInStep.yield ok) else pure (ForInStep.yield r) : Sem Bool) = pure false
  | [] => by rw [List.forIn_nil]
  | e :: es => by
    rw [List.forIn_cons, if_neg (by decide)]
    show ((pure (ForInStep.yield false) : Sem _) >>= _) = _
    rw [pure_bind]
    exact tests_false es
theorem sts_cons {e : PySem.Expr} {es : List PySem.Expr} {b b' : Bool} {H₁ : List O} (h : ST X n c env e loc H b H₁) (hs : b = true → STs X n c env es loc H₁ b' H') (hn : b = false → b' = false ∧ H' = H₁) : STs X n c env (e :: es) loc H b' H' := by
  intro A h₀ m mu ext imm s Q E R I a hQ
  unfold testsOf
  rw [List.forIn_cons, if_pos rfl]
  refine wpAny_bind (wpAny_bind (h R I a fun mu1 imm1 s1 a1 g1 => wpAny_pure ?_))
  cases b with
  | true => exact hs rfl R I a1 fun mu2 imm2 s2 a2 g2 => hQ _ _ _ a2 (g1.trans g2)
  | false =>
    obtain ⟨rfl, rfl⟩ := hn rfl
    show wpAny _ _ (forIn es false _ : Sem Bool) _ _ _
    exact wpAny_of_eq (tests_false es) (hQ _ _ _ a1 g1)

theorem ins_one {elt : PySem.Expr} {ifs : List PySem.Expr} {a : Nat} {D : Addr} {tests : List (Option V) → List O → Option (Bool × List O)} {emit : List (Option V) → List O → Option (V × List O)}
    (h1 : ∀ loc H b H', tests loc H = some (b, H') → STs X n c env ifs loc H b H') (h2 : ∀ loc H v H', emit loc H = some (v, H') → SE X n c env elt loc H v H') :
    InS X n c env D a (inner1 ifs elt env D) (fun l K => (tests l K).bind fun b => if b.1 then (emit l b.2).bind fun v => addTo a v.1 v.2 else some b.2) := by
  intro loc H H' A h₀ m mu ext imm s Q E hv R I at_ hD hQ
  simp only at hv
  obtain ⟨b, k1, hv⟩ := Option.bind_eq_some_iff.mp hv
  unfold inner1
  refine wpAny_bind (h1 _ _ _ _ k1 R I at_ fun mu1 imm1 s1 a1 g1 => ?_)
  split at hv
  · rename_i hb
    obtain ⟨v, k2, hv⟩ := Option.bind_eq_some_iff.mp hv
    obtain ⟨p, l, e1, e2, e3, rfl⟩ := addTo_some hv
    rw [hb, if_pos rfl]
    unfold emit1
    refine wpAny_bind (h2 _ _ _ _ k2 R I a1 fun mu2 imm2 y s2 a2 g2 r2 => wpAny_bind ?_)
    rw [e1] at r2
    exact wpAny_with_toks a2.tk (op_append a2.st e2 (ok_of e3) (pre_get (g1.trans g2) hD) r2 fun mu3 s3 t3 g3 k3 => wpAny_pure (hQ _ _ _ _ (a2.step t3 k3 g3) ((g1.trans g2).trans g3)))
  · rename_i hb
    cases hv
    have : b.1 = false := by simpa using hb
    rw [this, if_neg (by decide)]
    exact wpAny_pure (hQ _ _ _ _ a1 g1)
theorem notSet {it : PySem.Expr} (h : isSetE it = false) : ∀ (env : Env) (x : Value), foldedSetIterable it env x = pure x := by
  intro env x
  cases it <;> first | rfl | exact no h | exact nob h | cases h
theorem se_comp {elt target iter : PySem.Expr} {ifs : List PySem.Expr} {scope : Scope} {pos : Pos} {fr : List (Option Nat)} {v : V} {ps : List P} {w : Option Nat} {tg : Tg} {K H₁ : List O} {tests : List (Option V) → List O → Option (Bool × List O)} {emit : List (Option V) → List O → Option (V × List O)}
    (eo : EnvOk c env) (hsc : scOk c scope = true) (hset : isSetE iter = false) (hfr : c.frame scope = some fr) (hfo : frOk fr loc = true) (ht : tgtOf (c.inner scope) target = some tg) (hit : SE X n c env iter loc H v H₁) (hi : itemsOf v H₁ = some (ps, w))
    (h1 : ∀ env, EnvOk (c.inner scope) env → ∀ loc H b H', tests loc H = some (b, H') → STs X n (c.inner scope) env ifs loc H b H') (h2 : ∀ env, EnvOk (c.inner scope) env → ∀ loc H v H', emit loc H = some (v, H') → SE X n (c.inner scope) env elt loc H v H')
    (hv : cmpL ps w tg (fun l K => (tests l K).bind fun b => if b.1 then (emit l b.2).bind fun v => addTo H₁.length v.1 v.2 else some b.2) (frOf fr loc) ps (H₁ ++ [.list []]) = some K) :
    SE X n c env (.ListComp elt [⟨target, iter, ifs, 0⟩] scope pos) loc H (.ref H₁.length) (K.take (H₁.length + 1)) := by
  intro A h₀ m mu ext imm s Q E R I a hQ
  have so := scOk_of hsc
  obtain ⟨cl, hc1, hc2⟩ := closure_of (free_cells eo so hfr hfo a.lr)
  rw [eval_ListComp]
  refine wpAny_comprehension_free (g := ⟨target, iter, ifs, 0⟩) (gs := []) rfl (notSet hset env) hc1 so.fn (fun x hx e => lookup_nodup so.nd (by rw [← e]; exact hx)) ?_
  refine hit R I a fun mu1 imm1 y1 s1 a1 g1 r1 => it_iter hi a1.st r1 fun It o h' t2 it2 => ?_
  have a2 : At X c env h₀ m ((It, o) :: ext) loc mu1 imm1 H₁ { s1 with heap := h' } := ⟨t2, a1.tk, a1.lr⟩
  refine comp_run (RR := fun acc C r s' => compPost (model X.prog X.w) A E none Q acc C r s') (inner := inner1 ifs elt) eo so hfr hc2 ht hi R I (fun _ _ => turn1 _ _ _ _ _ _ _ _ _) (fun C D eo' => ins_one (h1 _ eo') (h2 _ eo')) hv a2 it2 fun D C oC mC mu' imm' s' a' hns hD g' => ?_
  refine ⟨mC, hns s' a'.st.getE.1, fun h' hs => hQ _ _ _ _ ⟨a'.st.endE hs.extBut s'.toks, a'.tk, a'.lr⟩ (g1.trans g') ⟨D, hD, rfl⟩⟩

/-- two clauses -/
noncomputable def inner2 (it2 : PySem.Expr) (e : PySem.Expr) (env : Env) (D : Addr) : Sem Unit := eval it2 env >>= fun x => standAt it2.pos >>= fun _ => foldedSetIterable it2 env x >>= fun x => holding [x] (pyIter x) >>= fun it => runOwn (.compStart e 1 it (.ref D) env) env >>= fun _ => pure ()
theorem turn2 (elt t1 i1 t2 i2 : PySem.Expr) (ifs : List PySem.Expr) (scope : Scope) (pos : Pos) (I D : Addr) (cenv : Env) :
    compTurn (.ListComp elt [⟨t1, i1, [], 0⟩, ⟨t2, i2, ifs, 0⟩] scope pos) 0 (.ref I) (.ref D) cenv = (standAt i1.pos >>= fun _ => pyNext (.ref I) >>= fun r => match r with
      | none => pure (.done .next)
      | some v => letOwnedTupleGo t1 (.ref I) v >>= fun _ => assign t1 cenv v >>= fun _ => inner2 i2 (.ListComp elt [⟨t1, i1, [], 0⟩, ⟨t2, i2, ifs, 0⟩] scope pos) cenv D >>= fun _ => again (.compLoop (.ListComp elt [⟨t1, i1, [], 0⟩, ⟨t2, i2, ifs, 0⟩] scope pos) 0 (.ref I) (.ref D) cenv)) := by
  unfold inner2
  simp only [bind_assoc]
  rfl
theorem turn1' (elt t1 i1 t2 i2 : PySem.Expr) (ifs : List PySem.Expr) (scope : Scope) (pos : Pos) (I D : Addr) (cenv : Env) :
    compTurn (.ListComp elt [⟨t1, i1, [], 0⟩, ⟨t2, i2, ifs, 0⟩] scope pos) 1 (.ref I) (.ref D) cenv = (standAt i2.pos >>= fun _ => pyNext (.ref I) >>= fun r => match r with
      | none => pure (.done .next)
      | some v => letOwnedTupleGo t2 (.ref I) v >>= fun _ => assign t2 cenv v >>= fun _ => inner1 ifs elt cenv D >>= fun _ => again (.compLoop (.ListComp elt [⟨t1, i1, [], 0⟩, ⟨t2, i2, ifs, 0⟩] scope pos) 1 (.ref I) (.ref D) cenv)) := by
  have e : compTurn (.ListComp elt [⟨t1, i1, [], 0⟩, ⟨t2, i2, ifs, 0⟩] scope pos) 1 (.ref I) (.ref D) cenv = (do
      standAt i2.pos
      match ← pyNext (.ref I) with
      | none => pure (.done .next)
      | some v =>
        letOwnedTupleGo t2 (.ref I) v
        assign t2 cenv v
        let mut ok := true
        for c in ifs do
          if ok then ok ← isTrue c cenv (eval c cenv)
        if ok then
          (do let _ ← call (.builtin "list.append") [.ref D, ← eval elt cenv])
        again (.compLoop (.ListComp elt [⟨t1, i1, [], 0⟩, ⟨t2, i2, ifs, 0⟩] scope pos) 1 (.ref I) (.ref D) cenv)) := rfl
  rw [e]
  refine bind_congr fun _ => bind_congr fun r => ?_
  cases r with
  | none => rfl
  | some v =>
    refine bind_congr fun _ => bind_congr fun _ => ?_
    unfold inner1 testsOf
    rw [bind_assoc]
    refine bind_congr fun ok => ?_
    cases ok with
    | true => rfl
    | false => simp
theorem compStart2 {elt t1 i1 t2 i2 : PySem.Expr} {ifs : List PySem.Expr} {scope : Scope} {pos : Pos} {it acc : Value} {env : Env} {R : Result → Shared → Prop}
    (h0 : codeAny (model X.prog X.w) A (.compLoop (.ListComp elt [⟨t1, i1, [], 0⟩, ⟨t2, i2, ifs, 0⟩] scope pos) 1 it acc env) R s)
    (h : wpAny (model X.prog X.w) A (pyIter it) (fun it' s' => codeAny (model X.prog X.w) A (.compLoop (.ListComp elt [⟨t1, i1, [], 0⟩, ⟨t2, i2, ifs, 0⟩] scope pos) 1 it' acc env) R s')
      (notedBy (model X.prog X.w) A env fun x s' => R (.error x) s') s) :
    codeAny (model X.prog X.w) A (.compStart (.ListComp elt [⟨t1, i1, [], 0⟩, ⟨t2, i2, ifs, 0⟩] scope pos) 1 it acc env) R s := by
  refine codeAny_of_tree ?_
  show wpAny _ A ((compStart (.ListComp elt [⟨t1, i1, [], 0⟩, ⟨t2, i2, ifs, 0⟩] scope pos) 1 it acc env).onRaise (fun x => do noteFrame x env; standAt theWindowsPlace)) _ _ s
  refine wpAny_notedAt ?_
  unfold compStart
  show wpAny _ _ (ask >>= _) _ _ s
  refine wpAny_bind (wpAny_askSetting (wpAny_ite ?_))
  split
  · first
      | exact wpAny_bind (wpAny_pure (wpAny_pure (And.intro rfl h0)))
      | exact wpAny_pure (And.intro rfl h0)
  · first
      | exact wpAny_bind (wpAny_rule (wpAny_bind (wpAny_standAt (wpAny_bind (wpAny_mono h (fun it' s' h' => wpAny_pure (And.intro rfl h')) fun _ _ x => x)))))
      | (refine wpAny_bind (wpAny_rule ?_); show wpAny _ _ (standAt i2.pos >>= _) _ _ s; exact wpAny_bind (wpAny_standAt (wpAny_bind (wpAny_mono h (fun it' s' h' => wpAny_pure (And.intro rfl h')) fun _ _ x => x))))
theorem Room.mark {A : Around} {n : Nat} (h : Room A n) : Room (A.mark none) n := h
theorem ins_two {elt t1 i1 t2 i2 : PySem.Expr} {ifs : List PySem.Expr} {scope : Scope} {pos : Pos} {a : Nat} {D : Addr} {tg2 : Tg} {src : List (Option V) → List O → Option (V × List O)} {turn : List (Option V) → List O → Option (List O)}
    (eo : EnvOk c env) (hset : isSetE i2 = false) (ht : tgtOf c t2 = some tg2) (h1 : ∀ loc H v H', src loc H = some (v, H') → SE X n c env i2 loc H v H') (h2 : InS X n c env D a (inner1 ifs elt env D) turn) :
    InS X n c env D a (inner2 i2 (.ListComp elt [⟨t1, i1, [], 0⟩, ⟨t2, i2, ifs, 0⟩] scope pos) env D) (fun l K => if tgFree tg2 l then (src l K).bind fun x2 => (itemsOf x2.1 x2.2).bind fun q2 => cmpL q2.1 q2.2 tg2 turn l q2.1 x2.2 else none) := by
  intro loc H H' A h₀ m mu ext imm s Q E hv R I at_ hD hQ
  simp only at hv
  split at hv
  · rename_i hf
    obtain ⟨x2, k1, hv⟩ := Option.bind_eq_some_iff.mp hv
    obtain ⟨q2, k2, hv⟩ := Option.bind_eq_some_iff.mp hv
    unfold inner2
    refine wpAny_bind (h1 _ _ _ _ k1 R I at_ fun mu1 imm1 y1 s1 a1 g1 r1 => ?_)
    refine wpAny_bind (wpAny_standAt ?_)
    rw [notSet hset]
    show wpAny _ _ ((pure y1 : Sem Value) >>= _) _ _ _
    rw [pure_bind]
    refine wpAny_bind (wpAny_holding (it_iter (ps := q2.1) (w := q2.2) k2 a1.st r1 fun It o h' t2' it2 => ?_))
    have a2 : At X c env h₀ m ((It, o) :: ext) loc mu1 imm1 x2.2 { s1 with heap := h' } := ⟨t2', a1.tk, a1.lr⟩
    refine wpAny_bind (wpAny_runOwn (h := none) ?_)
    have fin := cmp_loop (X := X) (A := A.mark none) (R := fun r s' => match r with | .ok f => wpAny (model X.prog X.w) A (pure ()) Q E s' | .error e => cameBackBy (model X.prog X.w) A env E e s') (loc₀ := loc) eo (turn1' elt t1 i1 t2 i2 ifs scope pos It D env) h2 ht (ps := q2.1) (w := q2.2) k2 R.mark I (i := 0) (by simp) rfl hv a2 it2 (pre_get g1 hD) (fun _ => .refl) fun loc' m' mu' imm' s' a' g' l' => wpAny_pure (hQ _ _ _ _ (a'.le (l' hf)) (g1.trans g'))
    exact compStart2 fin (it_self t2' it2 fin)
  · cases hv
theorem se_comp2 {elt t1 i1 t2 i2 : PySem.Expr} {ifs : List PySem.Expr} {scope : Scope} {pos : Pos} {fr : List (Option Nat)} {v : V} {ps : List P} {w : Option Nat} {tg tg2 : Tg} {K H₁ : List O} {tests : List (Option V) → List O → Option (Bool × List O)} {src emit : List (Option V) → List O → Option (V × List O)}
    (eo : EnvOk c env) (hsc : scOk c scope = true) (hset : isSetE i1 = false) (hset2 : isSetE i2 = false) (hfr : c.frame scope = some fr) (hfo : frOk fr loc = true) (ht : tgtOf (c.inner scope) t1 = some tg) (ht2 : tgtOf (c.inner scope) t2 = some tg2) (hit : SE X n c env i1 loc H v H₁) (hi : itemsOf v H₁ = some (ps, w))
    (h0 : ∀ env, EnvOk (c.inner scope) env → ∀ loc H v H', src loc H = some (v, H') → SE X n (c.inner scope) env i2 loc H v H')
    (h1 : ∀ env, EnvOk (c.inner scope) env → ∀ loc H b H', tests loc H = some (b, H') → STs X n (c.inner scope) env ifs loc H b H') (h2 : ∀ env, EnvOk (c.inner scope) env → ∀ loc H v H', emit loc H = some (v, H') → SE X n (c.inner scope) env elt loc H v H')
    (hv : cmpL ps w tg (fun l K => if tgFree tg2 l then (src l K).bind fun x2 => (itemsOf x2.1 x2.2).bind fun q2 => cmpL q2.1 q2.2 tg2 (fun l K => (tests l K).bind fun b => if b.1 then (emit l b.2).bind fun v => addTo H₁.length v.1 v.2 else some b.2) l q2.1 x2.2 else none) (frOf fr loc) ps (H₁ ++ [.list []]) = some K) :
    SE X n c env (.ListComp elt [⟨t1, i1, [], 0⟩, ⟨t2, i2, ifs, 0⟩] scope pos) loc H (.ref H₁.length) (K.take (H₁.length + 1)) := by
  intro A h₀ m mu ext imm s Q E R I a hQ
  have so := scOk_of hsc
  obtain ⟨cl, hc1, hc2⟩ := closure_of (free_cells eo so hfr hfo a.lr)
  rw [eval_ListComp]
  refine wpAny_comprehension_free (g := ⟨t1, i1, [], 0⟩) (gs := [⟨t2, i2, ifs, 0⟩]) rfl (notSet hset env) hc1 so.fn (fun x hx e => lookup_nodup so.nd (by rw [← e]; exact hx)) ?_
  refine hit R I a fun mu1 imm1 y1 s1 a1 g1 r1 => it_iter hi a1.st r1 fun It o h' t2 it2 => ?_
  have a2 : At X c env h₀ m ((It, o) :: ext) loc mu1 imm1 H₁ { s1 with heap := h' } := ⟨t2, a1.tk, a1.lr⟩
  refine comp_run (RR := fun acc C r s' => compPost (model X.prog X.w) A E none Q acc C r s') (inner := inner2 i2 _) eo so hfr hc2 ht hi R I (fun _ _ => turn2 _ _ _ _ _ _ _ _ _ _ _) (fun C D eo' => ins_two eo' hset2 ht2 (h0 _ eo') (ins_one (h1 _ eo') (h2 _ eo'))) hv a2 it2 fun D C oC mC mu' imm' s' a' hns hD g' => ?_
  refine ⟨mC, hns s' a'.st.getE.1, fun h' hs => hQ _ _ _ _ ⟨a'.st.endE hs.extBut s'.toks, a'.tk, a'.lr⟩ (g1.trans g') ⟨D, hD, rfl⟩⟩
end
end Mine
end
section
open PySem PySem.W PyProof.Rows PyProof.V
set_option Elab.async false
set_option maxRecDepth 20000
set_option maxHeartbeats 1000000
namespace Mine
section
variable {X : Wd} {n : Nat} {fa : Nat → Addr} {g : G}

theorem CallS.le {a vs H v H'} (h : CallS X n a vs H v H') : CallS X (n + 1) a vs H v H' := fun _ _ _ _ _ _ _ _ _ _ R => h (R.le (Nat.le_succ n))

noncomputable def SD (X : Wd) (n : Nat) (c : Ce) (env : Env) (g : G) (e : PySem.Expr) (x : E) : Prop :=
  (∀ {loc H v H'}, ev g loc x H = some (v, H') → SE X (n + 1) c env e loc H v H') ∧ (∀ {loc H b H'}, evT g loc x (ev g loc x H) H = some (b, H') → ST X (n + 1) c env e loc H b H')
noncomputable def SndE (X : Wd) (n : Nat) (fa : Nat → Addr) (g : G) (k : Nat) : Prop := ∀ {c : Ce} {env : Env} {e : PySem.Expr} {x : E}, GOk X fa c.gl c.meths c.flds g n → EnvOk c env → tr c k e = some x → SD X n c env g e x

/-! the same, of what is told as equal -/
section
variable {c : Ce} {env : Env} {e : PySem.Expr} {loc : List (Option V)} {H H' H₀ : List O} {v v₀ : V} {x x₀ : E}
theorem ev_of {r : V × List O} (h : some x₀ = some x) (hv : ev g loc x H = some r) : ev g loc x₀ H = some r := Option.some.inj h ▸ hv
theorem sd_of (h : some x₀ = some x) (hv : SD X n c env g e x₀) : SD X n c env g e x := Option.some.inj h ▸ hv
theorem se_of (h : some (v₀, H₀) = some (v, H')) (hv : SE X n c env e loc H v₀ H₀) : SE X n c env e loc H v H' := by cases h; exact hv
theorem se_rf {r : Nat} (h : v.rf = some r) (hv : SE X n c env e loc H v H') : SE X n c env e loc H (.ref r) H' := rf_eq h ▸ hv
theorem se_ob {r : Nat} (h : v.ob = some r) (hv : SE X n c env e loc H v H') : SE X n c env e loc H (.obj r) H' := ob_eq h ▸ hv
theorem se_bm {r : Nat} (h : v.bmr = some r) (hv : SE X n c env e loc H v H') : SE X n c env e loc H (.bm r) H' := bmr_eq h ▸ hv
theorem se_nn {u : Unit} (h : v.nn = some u) (hv : SE X n c env e loc H v H') : SE X n c env e loc H (.p .none) H' := nn_eq h ▸ hv
theorem se_int {i : Int} (h : v.int = some i) (hv : SE X n c env e loc H v H') : SE X n c env e loc H (.p (.int i)) H' := int_eq h ▸ hv
theorem se_pl {p : P} (h : v.pl = some p) (hv : SE X n c env e loc H v H') : SE X n c env e loc H (.p p) H' := pl_eq h ▸ hv
end
/-! forms of the syntax, told back -/
theorem constE_eq {e : PySem.Expr} {k : Const} (h : constE e = some k) : ∃ i p, e = .Constant k i p := by cases e <;> first | exact no h | (cases h; exact ⟨_, _, rfl⟩)
theorem strK_eq {k : Const} {s : Str} (h : strK k = some s) : k = .str s := by cases k <;> first | exact no h | (cases h; rfl)
theorem intK_eq {k : Const} {s : Int} (h : intK k = some s) : k = .int s := by cases k <;> first | exact no h | (cases h; rfl)
theorem litS_eq {e : PySem.Expr} {s : Str} (h : litS e = some s) : ∃ i p, e = .Constant (.str s) i p := bindE h fun _ h1 h2 => by cases strK_eq h2; exact constE_eq h1
theorem litI_eq {e : PySem.Expr} {s : Int} (h : litI e = some s) : ∃ i p, e = .Constant (.int s) i p := bindE h fun _ h1 h2 => by cases intK_eq h2; exact constE_eq h1
theorem slcE_eq {e : PySem.Expr} {q : _} (h : slcE e = some q) : ∃ p, e = .Slice q.1 q.2.1 q.2.2 p := by cases e <;> first | exact no h | (cases h; exact ⟨_, rfl⟩)
theorem slcE_none {e : PySem.Expr} (h : slcE e = none) : isSliceE e = false := by cases e <;> first | rfl | exact no h | exact nob h | cases h
theorem isAddO_eq {o : Operator} (h : isAddO o = true) : o = .Add := by cases o <;> first | rfl | exact no h | exact nob h | cases h
theorem nd {x : Str} (h : (x != ("__debug__" : Str)) = true) : (x == ("__debug__" : Str)) = false := nt h
theorem getC_eq {H : List O} {r : Nat} {x : P} (h : getC H r = some x) : H[r]? = some (.cell (some x)) := bindE h fun o e h => by
  cases o with
  | cell y => cases h; exact e
  | _ => first | exact no h | exact nob h | cases h
theorem evT_plain {x : E} (h : plainX x = true) (loc : List (Option V)) (w : Option (V × List O)) (H : List O) : evT g loc x w H = w.bind fun x => (truV x.1).bind fun b => some (b, x.2) := by
  cases x <;> first | rfl | exact no h | exact nob h | cases h
section
variable {k : Nat} {c : Ce} {env : Env} {es : List PySem.Expr} {xs : List E} {loc : List (Option V)} {H H' : List O}
theorem snd_list (ih : SndE X n fa g k) (G : GOk X fa c.gl c.meths c.flds g n) (eo : EnvOk c env) (h : trArgs (tr c k) es = some xs) {vs : List V} (hv : evs g loc xs H = some (vs, H')) : SEs X (n + 1) c env es loc H vs H' := by
  induction es generalizing xs H vs with
  | nil => cases h; cases hv; exact ses_nil
  | cons e es ie =>
    exact bindE h fun x h1 h => mapE h fun q h2 e => by
      cases e
      exact bindE (o := ev g loc x H) hv fun a k1 hv => bindE hv fun b k2 hv => by cases hv; exact ses_cons ((ih G eo h1).1 k1) (ie h2 k2)
theorem snd_tests (ih : SndE X n fa g k) (G : GOk X fa c.gl c.meths c.flds g n) (eo : EnvOk c env) (h : trArgs (tr c k) es = some xs) {b : Bool} (hv : evC g loc xs H = some (b, H')) : STs X (n + 1) c env es loc H b H' := by
  induction es generalizing xs H with
  | nil => cases h; cases hv; exact sts_nil
  | cons e es ie =>
    exact bindE h fun x h1 h => mapE h fun q h2 e => by
      cases e
      refine bindE (o := evT g loc x (ev g loc x H) H) hv fun a k1 hv => ?_
      obtain ⟨a1, a2⟩ := a
      cases a1 with
      | true => exact sts_cons ((ih G eo h1).2 k1) (fun _ => ie h2 hv) nofun
      | false => cases hv; exact sts_cons ((ih G eo h1).2 k1) nofun fun _ => ⟨rfl, rfl⟩
noncomputable def BO (X : Wd) (n : Nat) (c : Ce) (env : Env) (o : BoolOp) (es : List PySem.Expr) (loc : List (Option V)) (H : List O) (b : Bool) (H' : List O) : Prop := ∀ ⦃A : Around⦄ ⦃h₀ : Heap⦄ ⦃m : Str → Option Value⦄ ⦃mu ext imm : List (Addr × Obj)⦄ ⦃s : Shared⦄ ⦃Q : Bool → Shared → Prop⦄ ⦃E : Value → Shared → Prop⦄,
    Room A (n + 1) → X.In h₀ → At X c env h₀ m ext loc mu imm H s → (∀ mu' imm' s', At X c env h₀ m ext loc mu' imm' H' s' → Gw mu imm mu' imm' → Q b s') → wpAny (model X.prog X.w) A (allTrue o es env) Q E s
theorem snd_and (ih : SndE X n fa g k) (G : GOk X fa c.gl c.meths c.flds g n) (eo : EnvOk c env) (h : trArgs (tr c k) es = some xs) {b : Bool} (hv : evC g loc xs H = some (b, H')) : BO X n c env .And es loc H b H' := by
  induction es generalizing xs H with
  | nil => cases h; cases hv; exact fun _ _ _ _ _ _ _ _ _ _ _ a hQ => wpAny_allTrue_And_nil (hQ _ _ _ a .refl)
  | cons e es ie =>
    exact bindE h fun x h1 h => mapE h fun q h2 e => by
      cases e
      refine bindE (o := evT g loc x (ev g loc x H) H) hv fun a k1 hv => ?_
      obtain ⟨a1, a2⟩ := a
      cases a1 with
      | true => exact fun _ _ _ _ _ _ _ _ _ R I a hQ => wpAny_allTrue_And_cons ((ih G eo h1).2 k1 R I a fun mu1 imm1 s1 a1 g1 => ie h2 hv R I a1 fun mu2 imm2 s2 a2 g2 => hQ _ _ _ a2 (g1.trans g2))
      | false => cases hv; exact fun _ _ _ _ _ _ _ _ _ R I a hQ => wpAny_allTrue_And_cons ((ih G eo h1).2 k1 R I a fun mu1 imm1 s1 a1 g1 => hQ _ _ _ a1 g1)
theorem snd_or (ih : SndE X n fa g k) (G : GOk X fa c.gl c.meths c.flds g n) (eo : EnvOk c env) (h : trArgs (tr c k) es = some xs) {b : Bool} (hv : evD g loc xs H = some (b, H')) : BO X n c env .Or es loc H b H' := by
  induction es generalizing xs H with
  | nil => cases h; cases hv; exact fun _ _ _ _ _ _ _ _ _ _ _ a hQ => wpAny_allTrue_Or_nil (hQ _ _ _ a .refl)
  | cons e es ie =>
    exact bindE h fun x h1 h => mapE h fun q h2 e => by
      cases e
      refine bindE (o := evT g loc x (ev g loc x H) H) hv fun a k1 hv => ?_
      obtain ⟨a1, a2⟩ := a
      cases a1 with
      | false => exact fun _ _ _ _ _ _ _ _ _ R I a hQ => wpAny_allTrue_Or_cons ((ih G eo h1).2 k1 R I a fun mu1 imm1 s1 a1 g1 => ie h2 hv R I a1 fun mu2 imm2 s2 a2 g2 => hQ _ _ _ a2 (g1.trans g2))
      | true => cases hv; exact fun _ _ _ _ _ _ _ _ _ R I a hQ => wpAny_allTrue_Or_cons ((ih G eo h1).2 k1 R I a fun mu1 imm1 s1 a1 g1 => hQ _ _ _ a1 g1)
end
/-- both parts from the first, where the second is the truth of the value -/
theorem both {c : Ce} {env : Env} {e : PySem.Expr} {x : E} (hp : plainT e = true) (hx : plainX x = true)
    (h : ∀ {loc H v H'}, ev g loc x H = some (v, H') → SE X (n + 1) c env e loc H v H') : SD X n c env g e x := by
  refine ⟨h, fun {loc H b H'} hv => ?_⟩
  rw [evT_plain hx] at hv
  exact bindE hv fun y k1 hv => bindE hv fun b' k2 hv => by cases hv; exact st_val hp (h k1) k2
theorem pln_E {o : Option E} {x : E} {C : Prop} (h : pln o = some x) (k : o = some x → plainX x = true → C) : C := bindE h fun y e h => iteE h fun p h => by cases h; exact k e p
theorem dat0 {imm : List (Addr × Obj)} {v : Value} {d : Dat} (h : DatIn [] v d) : DatIn imm v d := h.mono (List.forall_mem_nil _)
theorem lookup_map {a : Str} {b : SM} : ∀ {l : List SM}, (l.map fun b => (smName b, b)).lookup a = some b → a = smName b
  | [], h => by cases h
  | y :: r, h => by
    rw [List.map_cons, List.lookup_cons] at h
    cases e : a == smName y with
    | true => rw [e] at h; cases h; exact eq_of_beq e
    | false => rw [e] at h; exact lookup_map h
theorem sm_name {a : Str} {b : SM} (h : smOf.lookup a = some b) : a = smName b := lookup_map (l := smOf.map Prod.snd) h
section
variable {k : Nat} {c : Ce} {env : Env} {loc : List (Option V)} {H H' : List O} {v : V} {x : E} {y : Str} {pos : Pos}
theorem name_sound (G : GOk X fa c.gl c.meths c.flds g n) (eo : EnvOk c env) (h : trName c y = some x) (hv : ev g loc x H = some (v, H')) : SE X (n + 1) c env (.Name y pos) loc H v H' := by
  refine iteE h fun hd h => bindE h fun kd hk h => ?_
  have hd := nd hd
  cases kd with
  | «local» =>
    exact mapE h fun i hs e => bindE (o := (loc[i]?).join) (ev_of e hv) fun w hl hv => se_of hv fun _ _ _ _ _ _ _ _ _ R I a hQ => a.local_ eo hk hs (join_eq hl) hd fun y hy => hQ _ _ _ _ a .refl hy
  | cell =>
    exact mapE h fun i hs e => bindE (o := (loc[i]?).join) (ev_of e hv) fun w hl hv => bindE hv fun r hr hv => bindE hv fun p hp hv =>
      se_of hv fun _ _ _ _ _ _ _ _ _ R I a hQ => a.cell_ eo hk hs ((join_eq hl).trans (by rw [rf_eq hr])) (getC_eq hp) hd fun y hy => hQ _ _ _ _ a .refl hy
  | globalImplicit =>
    refine bindE h fun z hg h => ?_
    cases z with
    | const p =>
      obtain ⟨v, h1, h2⟩ := G.gv _ _ hg
      exact se_of (ev_of h hv) fun _ _ _ _ _ _ _ _ _ R I a hQ => a.glob_ eo I hk h1 hd (hQ _ _ _ _ a .refl (dat0 h2))
    | tab t =>
      obtain ⟨v, h1, h2⟩ := G.gv _ _ hg
      exact se_of (ev_of h hv) fun _ _ _ _ _ _ _ _ _ R I a hQ => a.glob_ eo I hk h1 hd (hQ _ _ _ _ a .refl ⟨v, h2, rfl⟩)
    | _ => first | exact no h | exact nob h | cases h
  | _ => first | exact no h | exact nob h | cases h
end
section
variable {k : Nat} {c : Ce} {env : Env} {loc : List (Option V)} {H : List O} {r : V × List O} {x : E}
noncomputable def SFs (X : Wd) (n : Nat) (c : Ce) (env : Env) (e : PySem.Expr) (loc : List (Option V)) (H : List O) (r : V × List O) : Prop := ∃ l, r.1 = .p (.str l) ∧ r.2 = H ∧ SF X (n + 1) c env e loc H l
theorem tr_str {s : Str} {i : Nat} {p : Pos} (h : tr c k (.Constant (.str s) i p) = some x) : x = .lit (.str s.cps.toList) := by
  cases k with
  | zero => first | exact no h | exact nob h | cases h
  | succ k => cases h; rfl
theorem tr_loc {y : Str} {p : Pos} (hk : c.kind y = some .local) (hd : (y != ("__debug__" : Str)) = true) (h : tr c k (.Name y p) = some x) : ∃ i, c.slot y = some i ∧ x = .loc i := by
  cases k with
  | zero => first | exact no h | exact nob h | cases h
  | succ k =>
    refine pln_E h fun h _ => ?_
    unfold trName at h
    rw [if_pos hd, hk] at h
    exact mapE h fun i hs e => ⟨i, hs, (Option.some.inj e).symm⟩
theorem locN_eq {e : PySem.Expr} (h : locN c e = true) : ∃ y p, e = .Name y p ∧ c.kind y = some .local ∧ (y != ("__debug__" : Str)) = true := by
  unfold locN at h
  cases q : nameE e with
  | none => rw [q] at h; cases h
  | some y =>
    rw [q] at h
    obtain ⟨p, e⟩ := nameE_eq q
    exact andE h fun h1 h2 => ⟨y, p, e, eq_of_beq h1, h2⟩
theorem freshP_eq {a b : PySem.Expr} (h : freshP c a b = true) : ∃ s i p y q, a = .Constant (.str s) i p ∧ b = .Name y q ∧ s.length ≠ 0 ∧ c.kind y = some .local ∧ (y != ("__debug__" : Str)) = true := by
  unfold freshP at h
  cases q : litS a with
  | none => rw [q] at h; cases h
  | some s =>
    rw [q] at h
    obtain ⟨i, p, e⟩ := litS_eq q
    exact andE h fun h1 h2 => by
      obtain ⟨y, q, e2, h3, h4⟩ := locN_eq h2
      exact ⟨s, i, p, y, q, e, e2, bne_iff_ne.mp h1, h3, h4⟩
theorem add_strL {a : List Nat} {u : V} (h : binV .add (.p (.str a)) u H = some r) : ∃ l, u = .p (.str l) ∧ ok (a.length + l.length) = true ∧ r = (.p (.str (a ++ l)), H) :=
  bindE (o := u.pl) h fun y hy h => bindE (o := y.str?.bind fun b => if ok (a.length + b.length) = true then some (P.str (a ++ b)) else none) h fun z hz h => bindE hz fun l e hz => iteE hz fun hk hz => by
    cases hz
    exact ⟨l, (pl_eq hy).trans (congrArg _ (pstr_eq e)), hk, (Option.some.inj h).symm⟩
theorem add_strR {a : List Nat} {u : V} (h : binV .add u (.p (.str a)) H = some r) : ∃ l, u = .p (.str l) ∧ ok (l.length + a.length) = true ∧ r = (.p (.str (l ++ a)), H) := by
  cases u with
  | p p =>
    refine bindE (o := addP p (.str a)) h fun z hz h => ?_
    cases p with
    | str l =>
      refine iteE (a := some (P.str (l ++ a))) hz fun hk hz => ?_
      cases hz
      exact ⟨l, rfl, hk, (Option.some.inj h).symm⟩
    | int l => first | exact no hz | exact nob hz | cases hz
    | _ => first | exact no hz | exact nob hz | cases hz
  | ref q => exact bindE (o := getL H q) h fun _ _ h => by cases h
  | _ => first | exact no h | exact nob h | cases h
theorem sfL {a b : PySem.Expr} {pos : Pos} {xa xb : E} (eo : EnvOk c env) (hf : freshP c a b = true) (ha : tr c k a = some xa) (hb : tr c k b = some xb) (hv : ev g loc (.bin .add xa xb) H = some r) : SFs X n c env (.BinOp a .Add b pos) loc H r := by
  obtain ⟨s, i, p, y, q, rfl, rfl, h1, h2, h3⟩ := freshP_eq hf
  rw [tr_str ha] at hv
  obtain ⟨j, hs, e⟩ := tr_loc h2 h3 hb
  rw [e] at hv
  refine bindE (o := ev g loc (.loc j) H) hv fun w hw hv => bindE (o := (loc[j]?).join) hw fun u hl hw => ?_
  rw [← Option.some.inj hw] at hv
  obtain ⟨l, e, hk, er⟩ := add_strL hv
  rw [er]
  exact ⟨_, rfl, rfl, sf_addl eo h1 h2 (nd h3) hs ((join_eq hl).trans (congrArg (fun u => some (some u)) e)) hk⟩
theorem sfR {a b : PySem.Expr} {pos : Pos} {xa xb : E} (eo : EnvOk c env) (hf : freshP c b a = true) (ha : tr c k a = some xa) (hb : tr c k b = some xb) (hv : ev g loc (.bin .add xa xb) H = some r) : SFs X n c env (.BinOp a .Add b pos) loc H r := by
  obtain ⟨s, i, p, y, q, rfl, rfl, h1, h2, h3⟩ := freshP_eq hf
  rw [tr_str hb] at hv
  obtain ⟨j, hs, e⟩ := tr_loc h2 h3 ha
  rw [e] at hv
  refine bindE (o := ev g loc (.loc j) H) hv fun w hw hv => bindE (o := (loc[j]?).join) hw fun u hl hw => ?_
  rw [← Option.some.inj hw] at hv
  obtain ⟨l, e, hk, er⟩ := add_strR hv
  rw [er]
  exact ⟨_, rfl, rfl, sf_addr eo h1 h2 (nd h3) hs ((join_eq hl).trans (congrArg (fun u => some (some u)) e)) hk⟩
theorem fresh_sf {e : PySem.Expr} (eo : EnvOk c env) (hf : freshE c e = true) (h : tr c k e = some x) (hv : ev g loc x H = some r) : SFs X n c env e loc H r := by
  cases e with
  | Constant kk i p =>
    obtain ⟨s, hs⟩ := Option.isSome_iff_exists.mp hf
    cases strK_eq hs
    rw [tr_str h] at hv
    exact Option.some.inj hv ▸ ⟨_, rfl, rfl, sf_const rfl⟩
  | BinOp a o b pos =>
    refine andE hf fun ho hf => ?_
    cases isAddO_eq ho
    cases k with
    | zero => first | exact no h | exact nob h | cases h
    | succ k =>
      have h : ((tr c k a).bind fun x => (tr c k b).map fun y => E.bin .add x y) = some x := h
      refine bindE h fun xa ha h => mapE h fun xb hb e => ?_
      rcases Bool.or_eq_true_iff.mp hf with hf | hf
      · exact sfL eo hf ha hb (ev_of e hv)
      · exact sfR eo hf ha hb (ev_of e hv)
  | _ => first | exact no hf | exact nob hf | cases hf
end
end
end Mine
end
section
open PySem PySem.W PyProof.Rows PyProof.V
set_option Elab.async false
set_option maxRecDepth 20000
set_option maxHeartbeats 1000000
namespace Mine
section
variable {X : Wd} {n : Nat} {fa : Nat → Addr} {g : G}
section
variable {k : Nat} {c : Ce} {env : Env} {loc : List (Option V)} {H H' : List O} {v : V} {x : E} {pos : Pos} {es : List PySem.Expr}
theorem opt_sound (ih : SndE X n fa g k) (G : GOk X fa c.gl c.meths c.flds g n) (eo : EnvOk c env) {lo : Option PySem.Expr} {x : Option E} (h : trO (tr c k) lo = some x) {v : Option V} (hv : evo g loc x H = some (v, H')) :
    SB X (n + 1) c env lo loc H v H' := by
  cases lo with
  | none => cases h; cases hv; exact sb_none
  | some e =>
    refine mapE h fun y h1 e => ?_
    cases e
    exact bindE (o := ev g loc y H) hv fun z h2 hv => by cases hv; exact sb_some ((ih G eo h1).1 h2)
theorem evs_len {xs : List E} {vs : List V} (h : evs g loc xs H = some (vs, H')) : vs.length = xs.length := by
  induction xs generalizing H vs with
  | nil => cases h; rfl
  | cons x xs ih => exact bindE (o := ev g loc x H) h fun a _ h => bindE h fun b h2 h => by cases h; exact congrArg (· + 1) (ih h2)
theorem biV_ne {b : BI} {vs : List V} {r : V × List O} (hv : biV b vs H = some r) : vs ≠ [] := by rintro rfl; cases hv
/-- a builtin's plain call -/
theorem bi_sound (eo : EnvOk c env) {y : Str} {b : BI} {px : Pos} {i : String} (hk : c.kind y = some .globalImplicit) (hd : (y == ("__debug__" : Str)) = false) (gv : GVOk X fa y (.bi b i) ∨ GVOk X fa y (.ty b i))
    (hb : ∀ l, biMore b l ↔ l = []) (hp : plainArgs es = true) {vs : List V} {H₁ : List O} (hs : SEs X (n + 1) c env es loc H vs H₁) (hl : vs.length = es.length) (hv : biV b vs H₁ = some (v, H')) : SE X (n + 1) c env (.Call (.Name y px) es [] pos) loc H v H' :=
  se_bi eo hk hd gv hb (fun e => biV_ne hv (List.eq_nil_of_length_eq_zero (hl.trans (by rw [e]; rfl)))) hp hs hv
theorem isIntTy_spec {y : Str} (h : isIntTy c y = true) : (y == ("__debug__" : Str)) = false ∧ c.kind y = some .globalImplicit ∧ ∃ j, c.gl.lookup y = some (.ty .int16 j) :=
  andE h fun h h3 => andE h fun h1 h2 => ⟨nd h1, eq_of_beq h2, by
    cases q : c.gl.lookup y with
    | none => rw [q] at h3; cases h3
    | some z =>
      rw [q] at h3
      cases z with
      | ty b j =>
        cases b with
        | int16 => exact ⟨j, rfl⟩
        | _ => first | exact no h3 | exact nob h3 | cases h3
      | _ => cases h3⟩
theorem star_of {a : PySem.Expr} (hp : plainArgs (a :: es) = true) : isStarE a = false := nt (andE (plain_star hp) fun h _ => h)
theorem arg1 {b : BI} {z1 : V × List O} {z : List V × List O} {r : V × List O} (k1 : some ([z1.1], z1.2) = some z) (hv : biV b z.1 z.2 = some r) : biV b [z1.1] z1.2 = some r := by cases k1; exact hv
noncomputable def CS (X : Wd) (n : Nat) (c : Ce) (env : Env) (g : G) (f : PySem.Expr) (es : List PySem.Expr) (pos : Pos) (x : E) : Prop := ∀ ⦃loc H v H'⦄, ev g loc x H = some (v, H') → SE X (n + 1) c env (.Call f es [] pos) loc H v H'
section
variable (ih : SndE X n fa g k) (G : GOk X fa c.gl c.meths c.flds g n) (eo : EnvOk c env) {y : Str} {px : Pos} (hk : c.kind y = some .globalImplicit) (hd : (y == ("__debug__" : Str)) = false) (hp : plainArgs es = true)
include ih G eo hk hd hp
theorem cs_args {b : BI} (gv : ∃ i, GVOk X fa y (.bi b i) ∨ GVOk X fa y (.ty b i)) (hb : ∀ l, biMore b l ↔ l = []) (h : (trArgs (tr c k) es).map (E.bi b) = some x) : CS X n c env g (.Name y px) es pos x := by
  intro loc H v H' hv
  obtain ⟨i, gv⟩ := gv
  exact mapE h fun xs h1 e => bindE (o := evs g loc xs H) (ev_of e hv) fun z k1 hv => bi_sound eo hk hd gv hb hp (snd_list ih G eo h1 k1) ((evs_len k1).trans (seqO_len h1)) hv
theorem cs_isint {i : String} (hg : c.gl.lookup y = some (.bi .isint i)) (h : trBi c (tr c k) .isint es = some x) : CS X n c env g (.Name y px) es pos x := by
  intro loc H v H' hv
  refine bindE h fun q h1 h => bindE h fun y' h2 h => iteE h fun hc h => mapE h fun a h3 e => ?_
  obtain ⟨py, e2⟩ := nameE_eq h2
  obtain ⟨c1, c2, j, hj⟩ := isIntTy_spec hc
  have e1 := two_eq h1
  rw [e2] at e1
  rw [e1] at hp ⊢
  exact bindE (o := evs g loc [a] H) (ev_of e hv) fun z k1 hv => bindE (o := ev g loc a H) k1 fun z1 k2 k1 => se_isint eo hk hd (G.gv _ _ hg) c2 c1 (G.gv _ _ hj) (star_of hp) ((ih G eo h3).1 k2) (arg1 k1 hv)
theorem cs_int16 {i : String} (hg : c.gl.lookup y = some (.ty .int16 i)) (h : trTy (tr c k) .int16 es = some x) : CS X n c env g (.Name y px) es pos x := by
  intro loc H v H' hv
  refine bindE h fun q h1 h => bindE h fun m h2 h => iteE h fun hc h => mapE h fun a h3 e => ?_
  obtain ⟨k16, p16, e2⟩ := litI_eq h2
  have e1 := two_eq h1
  rw [e2, eq_of_beq hc] at e1
  rw [e1] at hp ⊢
  exact bindE (o := evs g loc [a] H) (ev_of e hv) fun z k1 hv => bindE (o := ev g loc a H) k1 fun z1 k2 k1 => se_int16 eo hk hd (G.gv _ _ hg) (star_of hp) ((ih G eo h3).1 k2) (arg1 k1 hv)
theorem cs_gl {z : GV} (hg : c.gl.lookup y = some z) (h : trGl c (tr c k) z es = some x) : CS X n c env g (.Name y px) es pos x := by
  cases z with
  | defn i =>
    intro loc H v H' hv
    exact mapE h fun xs h1 e => bindE (o := evs g loc xs H) (ev_of e hv) fun z k1 hv => se_cal eo hk hd (G.gv _ _ hg) hp (snd_list ih G eo h1 k1) (CallS.le (G.call _ _ _ _ _ hv))
  | cls at_ =>
    intro loc H v H' hv
    exact mapE h fun xs h1 e => bindE (o := evs g loc xs H) (ev_of e hv) fun z k1 hv => bindE hv fun q k2 hv => bindE hv fun _ k3 hv =>
      se_of hv (se_new G.cls eo hk hd (G.gv _ _ hg) hp (snd_list ih G eo h1 k1) (nn_eq k3 ▸ G.call _ _ _ q.1 q.2 k2))
  | bi b i =>
    cases b with
    | isint => exact cs_isint ih G eo hk hd hp hg h
    | int16 => first | exact no h | exact nob h | cases h
    | _ => exact cs_args ih G eo hk hd hp ⟨i, .inl (G.gv _ _ hg)⟩ (fun _ => Iff.rfl) h
  | ty b i =>
    cases b with
    | int16 => exact cs_int16 ih G eo hk hd hp hg h
    | isint => first | exact no h | exact nob h | cases h
    | _ => exact cs_args ih G eo hk hd hp ⟨i, .inr (G.gv _ _ hg)⟩ (fun _ => Iff.rfl) h
  | _ => first | exact no h | exact nob h | cases h
end
section
variable (ih : SndE X n fa g k) (G : GOk X fa c.gl c.meths c.flds g n) (eo : EnvOk c env) (hp : plainArgs es = true)
include ih G eo hp
theorem cs_name {y : Str} {px : Pos} (h : trCallN c (tr c k) (.Name y px) y es = some x) : CS X n c env g (.Name y px) es pos x := by
  intro loc H v H' hv
  refine iteE h fun hd h => bindE h fun kd hk h => ?_
  have hd := nd hd
  cases kd with
  | «local» =>
    refine bindE h fun e h0 h => bindE h fun a h1 h => mapE h fun b h2 e => ?_
    rw [one_eq h0] at hp ⊢
    exact bindE (o := ev g loc a H) (ev_of e hv) fun z1 k1 hv => bindE hv fun z2 k2 hv => bindE hv fun r hr hv => bindE hv fun K k3 hz => se_of hz (se_app hp (se_bm hr ((ih G eo h1).1 k1)) ((ih G eo h2).1 k2) k3)
  | globalImplicit => exact bindE h fun z hg h => cs_gl ih G eo hk hd hp hg h hv
  | _ => first | exact no h | exact nob h | cases h
variable {o : PySem.Expr} {apos : Pos} (hc : isCallE o = false) (hl : apos.endLine = pos.line)
include hc hl
theorem cs_mth {a : Str} (h : ((c.meths.lookup a).bind fun f => (tr c k o).bind fun o => (trArgs (tr c k) es).map (E.mth f a o)) = some x) : CS X n c env g (.Attribute o a apos) es pos x := by
  intro loc H v H' hv
  exact bindE h fun f hf h => bindE h fun o' h1 h => mapE h fun xs h2 e => bindE (o := ev g loc o' H) (ev_of e hv) fun z k1 hv => bindE hv fun r hr hv => bindE hv fun fs k2 hv => iteE hv fun hnf hv => bindE hv fun q k3 hz =>
    se_mth G.cls (G.meth _ _ hf) hc hl hp (se_ob hr ((ih G eo h1).1 k1)) k2 (Option.isNone_iff_eq_none.mp hnf) (snd_list ih G eo h2 k3) (CallS.le (G.call _ _ _ _ _ hz))
omit ih G eo hp hc hl in
theorem rep_inv {tabs : Nat → List P} {v1 : V} {ly lz : List Nat} {K : List O} {r : V × List O} (hw : smV tabs .replace v1 [.p (.str ly), .p (.str lz)] K = some r) : ∃ l, v1 = .p (.str l) ∧ ok ((l.length + 1) * (lz.length + 1)) = true ∧ ly ≠ [] ∧ some (V.p (.str (joinL lz (splitG ly 0 l))), K) = some r := by
  cases v1 with
  | p p =>
    refine bindE (o := p.str?) hw fun l hpl hw => iteE (a := some (V.p (.str (joinL lz (splitG ly 0 l))), K)) hw fun hk hw => andE hk fun hk1 hk2 => ⟨l, congrArg _ (pstr_eq hpl), hk1, ?_, hw⟩
    rintro rfl
    cases hk2
  | ref r => exact bindE (o := getL K r) hw fun _ _ h => by cases h
  | _ => first | exact no hw | exact nob hw | cases hw
omit ih G eo hp hc hl in
theorem evs2 {x y : E} {loc : List (Option V)} {H : List O} {q : List V × List O} (h : evs g loc [x, y] H = some q) {C : List V → List O → Prop} (k : ∀ a b, ev g loc x H = some a → ev g loc y a.2 = some b → C [a.1, b.1] b.2) : C q.1 q.2 :=
  bindE (o := ev g loc x H) h fun a k1 h => bindE (o := evs g loc [y] a.2) h fun w h2 h => bindE (o := ev g loc y a.2) h2 fun b k2 h2 => by
    cases h
    cases h2
    exact k a b k1 k2
omit ih G eo hp hc hl in
theorem args2 {t : PySem.Expr → Option E} {y z : PySem.Expr} {xs : List E} (h : trArgs t [y, z] = some xs) : ∃ y' z', xs = [y', z'] ∧ t y = some y' ∧ t z = some z' := by
  obtain ⟨y', q1, t1, t2, rfl⟩ := seqO_cons h
  obtain ⟨z', q2, t3, t4, rfl⟩ := seqO_cons t2
  cases t4
  exact ⟨y', z', rfl, t1, t3⟩
omit ih G eo hp hc hl in
theorem two_of {as : List PySem.Expr} (h : (as.length == 2) = true) : ∃ y z, as = [y, z] := by
  match as, h with
  | [y, z], _ => exact ⟨y, z, rfl⟩
theorem cs_rep (hn : nsIn X.K cStatics sharingNotToldKey = some none) (hr : (es.length == 2 && es.all (freshE c)) = true) {o' : E} {xs : List E} (h1 : tr c k o = some o') (h2 : trArgs (tr c k) es = some xs) : CS X n c env g (.Attribute o (smName .replace) apos) es pos (.sm .replace o' xs) := by
  intro loc H v H' hv
  refine andE hr fun hr1 hr2 => ?_
  obtain ⟨y, z, rfl⟩ := two_of hr1
  obtain ⟨y', z', rfl, t1, t3⟩ := args2 h2
  refine andE hr2 fun f1 hr2 => andE hr2 fun f2 _ => ?_
  refine bindE (o := ev g loc o' H) hv fun u k1 hv => iteE hv fun _ hv => bindE hv fun q k2 hw => ?_
  refine evs2 (C := fun vs K => smV g.tabs .replace u.1 vs K = some (v, H') → _) k2 (fun a b k3 k5 hw => ?_) hw
  obtain ⟨ly, e1, e2, g1⟩ := fresh_sf (X := X) (n := n) eo f1 t1 k3
  rw [e2] at k5
  obtain ⟨lz, e3, e4, g2⟩ := fresh_sf (X := X) (n := n) eo f2 t3 k5
  rw [e1, e3, e4] at hw
  obtain ⟨l, e, hk1, hk2, hz⟩ := rep_inv hw
  exact se_of hz (se_replace hn hc hl hp (e ▸ (ih G eo h1).1 (v := u.1) (H' := u.2) k1) g1 g2 hk1 hk2)
theorem cs_attr (hn : nsIn X.K cStatics sharingNotToldKey = some none) {a : Str} (h : trCallM c (tr c k) o a es = some x) : CS X n c env g (.Attribute o a apos) es pos x := by
  intro loc H v H' hv
  unfold trCallM at h
  cases hb : smOf.lookup a with
  | none => rw [hb] at h; exact cs_mth ih G eo hp hc hl h hv
  | some b =>
    rw [hb] at h
    refine iteE h fun hr h => bindE h fun o' h1 h => mapE h fun xs h2 e => ?_
    have hv := ev_of e hv
    cases sm_name hb
    by_cases hbr : b = .replace
    · cases hbr
      exact cs_rep ih G eo hp hc hl hn hr h1 h2 hv
    · refine bindE (o := ev g loc o' H) hv fun z k1 hv => iteE hv fun hrec hv => bindE hv fun q k2 hw => ?_
      refine se_sm G.tabs hbr hc hl hp ((ih G eo h1).1 k1) (snd_list ih G eo h2 k2) hw fun r hr => ?_
      rw [hr] at hrec
      exact Option.isSome_iff_exists.mp hrec
end
theorem call_sound (ih : SndE X n fa g k) (G : GOk X fa c.gl c.meths c.flds g n) (eo : EnvOk c env) (hn : nsIn X.K cStatics sharingNotToldKey = some none) (hp : plainArgs es = true) {f : PySem.Expr} (h : trCall c (tr c k) f es pos = some x) : CS X n c env g f es pos x := by
  intro loc H v H' hv
  cases f with
  | Name y px => exact cs_name ih G eo hp h hv
  | Attribute o a apos => exact iteE h fun hc h => andE hc fun hc hl => cs_attr ih G eo hp (nt hc) (eq_of_beq hl) hn h hv
  | _ => first | exact no h | exact nob h | cases h
end
end
end Mine
end
section
open PySem PySem.W PyProof.Rows PyProof.V
set_option Elab.async false
set_option maxRecDepth 20000
set_option maxHeartbeats 1000000
namespace Mine
section
variable {X : Wd} {n : Nat} {fa : Nat → Addr} {g : G}
section
variable {k : Nat} {c : Ce} {env : Env} {x : E} {pos : Pos}
theorem ident_name {y : Str} {p : Pos} {k : Nat} {z : E} (h : tr c k (.Name y p) = some z) : trName c y = some z := by
  cases k with
  | zero => first | exact no h | exact nob h | cases h
  | succ k => exact pln_E h fun h _ => h
theorem attr_sound (G : GOk X fa c.gl c.meths c.flds g n) (eo : EnvOk c env) {o : PySem.Expr} {a : Str} (h : trAttr c (tr c k) o a = some x) {loc H v H'} (hv : ev g loc x H = some (v, H')) :
    SE X (n + 1) c env (.Attribute o a pos) loc H v H' := by
  refine bindE h fun y h0 h => iteE h fun hd h => bindE h fun kd hk h => ?_
  obtain ⟨px, rfl⟩ := nameE_eq h0
  have hd := nd hd
  cases kd with
  | globalImplicit =>
    refine bindE h fun at_ hg h => mapE h fun p hp e => ?_
    have hg : c.gl.lookup y = some (.cls at_) := by
      cases q : c.gl.lookup y with
      | none => rw [q] at hg; cases hg
      | some z =>
        rw [q] at hg
        cases z with
        | cls w => cases hg; rfl
        | _ => first | exact no hg | exact nob hg | cases hg
    exact se_of (ev_of e hv) (se_cattr eo hk hd (G.gv _ _ hg) hp)
  | «local» =>
    refine iteB h (fun ha h => mapE h fun z h1 e => ?_) fun _ h => iteE h fun hf h => mapE h fun z h1 e => ?_
    · rw [eq_of_beq ha]
      exact bindE (o := ev g loc z H) (ev_of e hv) fun q k1 hv => bindE hv fun r hr hv => bindE hv fun l k2 hz => se_of hz (se_bnd (se_rf hr (name_sound G eo (ident_name h1) k1)) k2)
    · exact bindE (o := ev g loc z H) (ev_of e hv) fun q k1 hv => bindE hv fun u k2 hw => bindE k2 fun r hr k2 => bindE k2 fun fs k3 k2 => mapE k2 fun p k4 e =>
        se_of hw (Option.some.inj e ▸ se_fld G.cls (G.fld _ (List.contains_iff_mem.mp hf)) (se_ob hr (name_sound G eo (ident_name h1) k1)) k3 k4)
  | _ => first | exact no h | exact nob h | cases h
/-- what a comprehension's evaluation says -/
theorem genOf_eq {a : Comprehension} {q : CG} (h : genOf a = some q) : a = ⟨q.tg, q.it, q.ifs, 0⟩ ∧ isSetE q.it = false := by
  obtain ⟨t, it, ifs, w⟩ := a
  refine iteE h fun hk h => andE hk fun h1 h2 => ?_
  cases h
  cases eq_of_beq h1
  exact ⟨rfl, nt h2⟩
theorem comp_inv {t ti : PySem.Expr → Option E} {elt : PySem.Expr} {gs : List Comprehension} {sc : Scope} (h : trComp c t ti elt gs sc = some x) {loc : List (Option V)} {H : List O} {r : V × List O} (hv : ev g loc x H = some r) {C : List Comprehension → V × List O → Prop}
    (k1 : ∀ {q : CG} {fr tg it cs el z1 z2 K}, scOk c sc = true → isSetE q.it = false → c.frame sc = some fr → frOk fr loc = true → tgtOf (c.inner sc) q.tg = some tg → t q.it = some it → trArgs ti q.ifs = some cs → ti elt = some el →
      ev g loc it H = some z1 → itemsOf z1.1 z1.2 = some z2 → cmpL z2.1 z2.2 tg (fun l K => (evC g l cs K).bind fun b => if b.1 then (ev g l el b.2).bind fun v => addTo z1.2.length v.1 v.2 else some b.2) (frOf fr loc) z2.1 (z1.2 ++ [.list []]) = some K → C [⟨q.tg, q.it, q.ifs, 0⟩] (.ref z1.2.length, K.take (z1.2.length + 1)))
    (k2 : ∀ {q w : CG} {fr tg it tg2 it2 cs el z1 z2 K}, scOk c sc = true → isSetE q.it = false → isSetE w.it = false → c.frame sc = some fr → frOk fr loc = true → tgtOf (c.inner sc) q.tg = some tg → t q.it = some it → tgtOf (c.inner sc) w.tg = some tg2 → ti w.it = some it2 → trArgs ti w.ifs = some cs → ti elt = some el →
      ev g loc it H = some z1 → itemsOf z1.1 z1.2 = some z2 → cmpL z2.1 z2.2 tg (fun l K => if tgFree tg2 l then (ev g l it2 K).bind fun x2 => (itemsOf x2.1 x2.2).bind fun q2 => cmpL q2.1 q2.2 tg2 (fun l K => (evC g l cs K).bind fun b => if b.1 then (ev g l el b.2).bind fun v => addTo z1.2.length v.1 v.2 else some b.2) l q2.1 x2.2 else none) (frOf fr loc) z2.1 (z1.2 ++ [.list []]) = some K →
      C [⟨q.tg, q.it, [], 0⟩, ⟨w.tg, w.it, w.ifs, 0⟩] (.ref z1.2.length, K.take (z1.2.length + 1))) : C gs r := by
  refine iteE h fun hs h' => bindE h' fun fr q1 h2 => ?_
  clear h h'
  cases gs with
  | nil => first | exact no h2 | exact nob h2 | cases h2
  | cons a gs =>
    refine bindE h2 fun q ha h => ?_
    clear h2
    obtain ⟨rfl, hset⟩ := genOf_eq ha
    cases gs with
    | nil =>
      refine bindE h fun tg q2 h => bindE h fun it q3 h => bindE h fun cs q4 h => mapE h fun el q5 e => ?_
      cases e
      refine iteE hv fun hfo hv => bindE hv fun z1 p1 hv => bindE hv fun z2 p2 hv => bindE hv fun K p3 hz => ?_
      cases hz
      exact k1 hs hset q1 hfo q2 q3 q4 q5 p1 p2 p3
    | cons b gs =>
      refine bindE h fun d hb h => bindE h fun w hw h => bindE h fun _ h0 h => bindE h fun tg q2 h => bindE h fun it q3 h => bindE h fun tg2 q4 h => bindE h fun it2 q5 h => bindE h fun cs q6 h => mapE h fun el q7 e => ?_
      cases e
      refine iteE hv fun hfo hv => bindE hv fun z1 p1 hv => bindE hv fun z2 p2 hv => bindE hv fun K p3 hz => ?_
      cases hz
      rw [one_eq hb]
      obtain ⟨rfl, hset2⟩ := genOf_eq hw
      rw [nul_eq h0]
      exact k2 hs hset hset2 q1 hfo q2 q3 q4 q5 q6 q7 p1 p2 p3
section
variable (ih : SndE X n fa g k) (G : GOk X fa c.gl c.meths c.flds g n) (eo : EnvOk c env)
include ih G eo
theorem sd_bin {l r : PySem.Expr} {op : Operator} (h : ((bopOf op).bind fun o => (tr c k l).bind fun a => (tr c k r).map fun b => E.bin o a b) = some x) : SD X n c env g (.BinOp l op r pos) x := by
  exact bindE h fun o ho h => bindE h fun a h1 h => mapE h fun b h2 e => sd_of e <| both rfl rfl fun {loc H v H'} hv => bindE (o := ev g loc a H) hv fun z1 k1 hv => bindE hv fun z2 k2 hv => se_bin ho ((ih G eo h1).1 k1) ((ih G eo h2).1 k2) hv
theorem sd_un {e : PySem.Expr} {op : UnaryOp} (h : trUn op (tr c k e) = some x) : SD X n c env g (.UnaryOp op e pos) x := by
  cases op with
  | Not =>
    refine mapE h fun a h1 e => ?_
    cases e
    exact And.intro (fun {loc H v H'} hv => by cases hv) fun {loc H b H'} hv => bindE (o := evT g loc a (ev g loc a H) H) hv fun z1 k1 hv => by cases hv; exact st_not ((ih G eo h1).2 k1)
  | USub =>
    exact mapE h fun a h1 e => sd_of e <| both rfl rfl fun {loc H v H'} hv => bindE (o := ev g loc a H) hv fun z1 k1 hv => bindE hv fun i hi hz => se_of hz (se_neg (se_int hi ((ih G eo h1).1 k1)))
  | _ => first | exact no h | exact nob h | cases h
theorem sd_cmp {l r : PySem.Expr} {op : CmpOp} (h : (if !isSetE r then (tr c k l).bind fun a => (tr c k r).map fun b => E.cmp (copOf op) a b else none) = some x) : SD X n c env g (.Compare l [op] [r] pos) x := by
  refine iteE h fun hs h => bindE h fun a h1 h => mapE h fun b h2 e => ?_
  have hs := nt hs
  cases e
  refine And.intro (fun {loc H v H'} hv => bindE (o := ev g loc a H) hv fun z1 k1 hv => bindE hv fun z2 k2 hv => bindE hv fun b' k3 hv => ?_) fun {loc H v H'} hv => bindE (o := ev g loc (.cmp (copOf op) a b) H) hv fun z k0 hv => bindE (o := ev g loc a H) k0 fun z1 k1 k0 => bindE k0 fun z2 k2 k0 => bindE k0 fun b' k3 k0 => ?_
  · cases hv
    exact se_cmp hs ((ih G eo h1).1 k1) ((ih G eo h2).1 k2) k3
  · cases k0
    cases hv
    exact st_cmp hs ((ih G eo h1).1 k1) ((ih G eo h2).1 k2) k3
theorem sd_bo {es : List PySem.Expr} {op : BoolOp} (h : trBo op (trArgs (tr c k) es) = some x) : SD X n c env g (.BoolOp op es pos) x := by
  cases op with
  | And =>
    refine mapE h fun xs h1 e => ?_
    cases e
    exact And.intro (fun {loc H v H'} hv => by cases hv) fun {loc H b H'} hv _ _ _ _ _ _ _ _ _ R I a0 hQ => wpAny_isTrue_BoolOp (snd_and ih G eo h1 hv R I a0 hQ)
  | Or =>
    refine mapE h fun xs h1 e => ?_
    cases e
    exact And.intro (fun {loc H v H'} hv => by cases hv) fun {loc H b H'} hv _ _ _ _ _ _ _ _ _ R I a0 hQ => wpAny_isTrue_BoolOp (snd_or ih G eo h1 hv R I a0 hQ)
theorem sd_ife {t a b : PySem.Expr} (h : ((tr c k t).bind fun t => (tr c k a).bind fun a => (tr c k b).map fun b => E.ife t a b) = some x) : SD X n c env g (.IfExp t a b pos) x := by
  refine bindE h fun t' h1 h => bindE h fun a' h2 h => mapE h fun b' h3 e => ?_
  cases e
  refine And.intro (fun {loc H v H'} hv => bindE (o := evT g loc t' (ev g loc t' H) H) hv fun z1 k1 hv => ?_) fun {loc H b H'} hv => by cases hv
  obtain ⟨z, H1⟩ := z1
  cases z with
  | true => exact se_ife ((ih G eo h1).2 k1) (fun _ => (ih G eo h2).1 hv) nofun
  | false => exact se_ife ((ih G eo h1).2 k1) nofun fun _ => (ih G eo h3).1 hv
theorem sd_tup {es : List PySem.Expr} {i : Nat} (h : (if plainS es then (trArgs (tr c k) es).map E.tup else none) = some x) : SD X n c env g (.Tuple es i pos) x := by
  exact iteE h fun hst h => mapE h fun xs h1 e => sd_of e <| both rfl rfl fun {loc H v H'} hv => bindE (o := evs g loc xs H) hv fun z1 k1 hv => bindE hv fun ps k2 hv => iteE hv fun hk hv => se_of hv (se_tup hst (snd_list ih G eo h1 k1) k2 hk)
theorem sd_lst {es : List PySem.Expr} (h : (if plainS es then (trArgs (tr c k) es).map E.lst else none) = some x) : SD X n c env g (.List es pos) x := by
  exact iteE h fun hst h => mapE h fun xs h1 e => sd_of e <| both rfl rfl fun {loc H v H'} hv => bindE (o := evs g loc xs H) hv fun z1 k1 hv => bindE hv fun ps k2 hv => iteE hv fun hk hv => se_of hv (se_lst hst (snd_list ih G eo h1 k1) k2 hk)
theorem sd_sub {v i : PySem.Expr} (h : trSub (tr c k) v i = some x) : SD X n c env g (.Subscript v i pos) x := by
  unfold trSub at h
  cases q : slcE i with
  | none =>
    rw [q] at h
    exact bindE h fun a h1 h => mapE h fun b h2 e => sd_of e <| both rfl rfl fun {loc H v H'} hv => bindE (o := ev g loc a H) hv fun z1 k1 hv => bindE hv fun z2 k2 hv => bindE hv fun r k3 hv => se_of hv (se_idx G.tabs (slcE_none q) ((ih G eo h1).1 k1) ((ih G eo h2).1 k2) k3)
  | some w =>
    rw [q] at h
    obtain ⟨p, e⟩ := slcE_eq q
    refine iteE h fun hst h => bindE h fun a h1 h => bindE h fun lo h2 h => mapE h fun hi h3 e2 => ?_
    rw [e, Option.isNone_iff_eq_none.mp hst]
    exact sd_of e2 <| both rfl rfl fun {loc H v H'} hv => bindE (o := ev g loc a H) hv fun z1 k1 hv => bindE hv fun z2 k2 hv => bindE hv fun z3 k3 hv =>
      se_sl ((ih G eo h1).1 k1) (opt_sound ih G eo h2 k2) (opt_sound ih G eo h3 k3) hv
theorem sd_comp {elt : PySem.Expr} {gs : List Comprehension} {sc : Scope} (h : trComp c (tr c k) (tr (c.inner sc) k) elt gs sc = some x) (hx : plainX x = true) : SD X n c env g (.ListComp elt gs sc pos) x := by
  refine both rfl hx fun {loc H v H'} hv => ?_
  refine comp_inv (C := fun gs r => SE X (n + 1) c env (.ListComp elt gs sc pos) loc H r.1 r.2) h hv (fun hs h0 q1 hfo q2 q3 q4 q5 p1 p2 p3 => ?_) (fun hs h0 h00 q1 hfo q2 q3 q4 q5 q6 q7 p1 p2 p3 => ?_)
  · exact se_comp eo hs h0 q1 hfo q2 ((ih G eo q3).1 p1) p2 (fun env' eo' loc H b H' e => snd_tests ih (c := c.inner _) G eo' q4 e) (fun env' eo' loc H v H' e => (ih (c := c.inner _) G eo' q5).1 e) p3
  · exact se_comp2 eo hs h0 h00 q1 hfo q2 q4 ((ih G eo q3).1 p1) p2 (fun env' eo' loc H v H' e => (ih (c := c.inner _) G eo' q5).1 e) (fun env' eo' loc H b H' e => snd_tests ih (c := c.inner _) G eo' q6 e) (fun env' eo' loc H v H' e => (ih (c := c.inner _) G eo' q7).1 e) p3
end
end
theorem tr_sound (hn : nsIn X.K cStatics sharingNotToldKey = some none) (k : Nat) : SndE X n fa g k := by
  induction k with
  | zero => intro c env e x _ _ h; cases h
  | succ k ih =>
    intro c env e x G eo h
    cases e with
    | Constant kk i p =>
      refine mapE h fun p hp e => ?_
      cases e
      exact both rfl rfl fun hv => by cases hv; exact se_const hp
    | Name y p => exact pln_E h fun h hx => both rfl hx fun hv => name_sound G eo h hv
    | BinOp l o r p => exact sd_bin ih G eo h
    | UnaryOp o e p => exact sd_un ih G eo h
    | Compare l os rs p =>
      refine bindE h fun o h0 h => bindE h fun r h1 h => ?_
      rw [one_eq h0, one_eq h1]
      exact sd_cmp ih G eo h
    | BoolOp o es p => exact sd_bo ih G eo h
    | IfExp t a b p => exact sd_ife ih G eo h
    | Tuple es i p => exact sd_tup ih G eo h
    | List es p => exact sd_lst ih G eo h
    | Subscript v i p => exact sd_sub ih G eo h
    | Attribute v a p => exact pln_E h fun h hx => both rfl hx fun hv => attr_sound G eo h hv
    | Call f as ks p =>
      refine bindE h fun _ h0 h => iteE h fun hp h => pln_E h fun h hx => ?_
      rw [nul_eq h0]
      exact both rfl hx fun hv => call_sound ih G eo hn hp h hv
    | ListComp elt gs sc p => exact pln_E h fun h hx => sd_comp ih G eo h hx
    | _ => first | exact no h | exact nob h | cases h
end
end Mine
end
section
open PySem PySem.W PyProof.Rows PyProof.V
set_option Elab.async false
set_option genSizeOf false
set_option maxRecDepth 20000
namespace Mine
inductive FlRel (X : Wd) (imm : List (Addr × Obj)) (ad : List Addr) : Fl → Flow → Prop
  | next : FlRel X imm ad .next .next
  | brk : FlRel X imm ad .brk .brk
  | cont : FlRel X imm ad .cont .cont
  | ret {v : V} {y : Value} : VRel X imm ad v y → FlRel X imm ad (.ret v) (.ret y)
/-- a statement -/
noncomputable def SS (X : Wd) (n : Nat) (c : Ce) (env : Env) (st : Stmt) (loc : List (Option V)) (H : List O) (z : Fl × List (Option V) × List O) : Prop :=
  ∀ ⦃A : Around⦄ ⦃h₀ : Heap⦄ ⦃m : Str → Option Value⦄ ⦃mu ext imm : List (Addr × Obj)⦄ ⦃s : Shared⦄ ⦃Q : Flow → Shared → Prop⦄ ⦃E : Value → Shared → Prop⦄,
    Room A n → X.In h₀ → At X c env h₀ m ext loc mu imm H s →
    (∀ m' mu' imm' f s', At X c env h₀ m' ext z.2.1 mu' imm' z.2.2 s' → Gw mu imm mu' imm' → FlRel X imm' (mu'.map Prod.fst) z.1 f → Q f s') →
    wpAny (model X.prog X.w) A (exec st env) Q E s
/-- a block -/
noncomputable def SX (X : Wd) (n : Nat) (c : Ce) (env : Env) (b : List Stmt) (loc : List (Option V)) (H : List O) (z : Fl × List (Option V) × List O) : Prop :=
  ∀ ⦃A : Around⦄ ⦃h₀ : Heap⦄ ⦃m : Str → Option Value⦄ ⦃mu ext imm : List (Addr × Obj)⦄ ⦃s : Shared⦄ ⦃Q : Flow → Shared → Prop⦄ ⦃E : Value → Shared → Prop⦄,
    Room A n → X.In h₀ → At X c env h₀ m ext loc mu imm H s →
    (∀ m' mu' imm' f s', At X c env h₀ m' ext z.2.1 mu' imm' z.2.2 s' → Gw mu imm mu' imm' → FlRel X imm' (mu'.map Prod.fst) z.1 f → Q f s') →
    wpAny (model X.prog X.w) A (execs b env) Q E s
section
variable {X : Wd} {n : Nat} {c : Ce} {env : Env} {loc loc' : List (Option V)} {H H' H₀ : List O} {A : Around} {h₀ : Heap} {L : Addr} {m : Str → Option Value} {mu ext imm : List (Addr × Obj)} {s : Shared} {E : Value → Shared → Prop}
theorem sx_nil : SX X n c env [] loc H (.next, loc, H) := by
  intro A h₀ m mu ext imm s Q E R I a hQ
  exact wpAny_execs_nil (hQ _ _ _ _ _ a .refl .next)
theorem vb_le : ∀ {loc : List (Option V)} {i : Nat} {v : V}, loc[i]? = some (some v) → vb v ≤ lb loc
  | [], i, v, h => by simp at h
  | none :: r, 0, v, h => by simp at h
  | none :: r, i + 1, v, h => by
    have := vb_le (loc := r) (i := i) (v := v) (by simpa using h)
    simpa [lb] using this
  | some u :: r, 0, v, h => by
    simp at h
    subst h
    exact Nat.le_max_left _ _
  | some u :: r, i + 1, v, h => by
    have := vb_le (loc := r) (i := i) (v := v) (by simpa using h)
    exact Nat.le_trans this (Nat.le_max_right _ _)
theorem VRel.take {X : Wd} {imm : List (Addr × Obj)} {ad : List Addr} {v : V} {y : Value} {k : Nat} (h : VRel X imm ad v y) (hk : vb v ≤ k) : VRel X imm (ad.take k) v y := by
  cases v with
  | p x => exact h
  | ref r => obtain ⟨a, e, q⟩ := h; exact ⟨a, by rw [List.getElem?_take_of_lt (show r < k from hk)]; exact e, q⟩
  | obj r => obtain ⟨a, d, e, q⟩ := h; exact ⟨a, d, by rw [List.getElem?_take_of_lt (show r < k from hk)]; exact e, q⟩
  | bm r => obtain ⟨a, d, e, q⟩ := h; exact ⟨a, d, by rw [List.getElem?_take_of_lt (show r < k from hk)]; exact e, q⟩
  | rng a b => exact h
  | glob g => exact h
  | fix ps => exact h
theorem At.trunc {X c env h₀ m ext loc mu imm H s} (a : At X c env h₀ m ext loc mu imm H s) {k : Nat} (hk : lb loc ≤ k) : At X c env h₀ m ext loc (mu.take k) imm (H.take k) s := by
  refine ⟨a.st.trunc k, a.tk, fun i v x hv hx => ?_⟩
  have hb := Nat.le_trans (vb_le hv) hk
  obtain ⟨p, q⟩ := a.lr i v x hv hx
  rw [List.map_take]
  refine ⟨fun h => ?_, fun h => ?_⟩
  · obtain ⟨y, e, r⟩ := p h
    exact ⟨y, e, r.take hb⟩
  · obtain ⟨r, c, rfl, f, e⟩ := q h
    exact ⟨r, c, rfl, f, by rw [List.getElem?_take_of_lt (show r < k from hb)]; exact e⟩
theorem sx_cons {st : Stmt} {r : List Stmt} {z z' : Fl × List (Option V) × List O} (h : SS X n c env st loc H z) (hn : z.1 = .next → SX X n c env r z.2.1 (gc H.length z.2.1 z.2.2) z') (ho : z.1 ≠ .next → z' = z) : SX X n c env (st :: r) loc H z' := by
  intro A h₀ m mu ext imm s Q E R I a hQ
  refine wpAny_execs_cons (h R I a fun m1 mu1 imm1 f s1 a1 g1 r1 => ?_)
  obtain ⟨f0, l0, H0⟩ := z
  cases r1 with
  | next =>
    have a2 := a1.trunc (k := max H.length (lb l0)) (Nat.le_max_right _ _)
    have g2 : Gw mu imm (mu1.take (max H.length (lb l0))) imm1 := g1.trunc (by rw [a.st.mr.length]; exact Nat.le_max_left _ _)
    exact hn rfl R I a2 fun m2 mu2 imm2 f s2 a3 g3 r2 => hQ _ _ _ _ _ a3 (g2.trans g3) r2
  | brk => rw [ho (fun e => nomatch e)] at hQ; exact hQ _ _ _ _ _ a1 g1 .brk
  | cont => rw [ho (fun e => nomatch e)] at hQ; exact hQ _ _ _ _ _ a1 g1 .cont
  | ret hr => rw [ho (fun e => nomatch e)] at hQ; exact hQ _ _ _ _ _ a1 g1 (.ret hr)
theorem blockKind_fn (eo : EnvOk c env) : env.blockKind = .function := by
  unfold Env.blockKind
  rw [eo.fn']
  rfl
/-- a value that is no comprehension never swaps -/
theorem swaps_no {v : PySem.Expr} (h : isCompE v = false) (t : Option PySem.Expr) (k : Nat) : swapsWith v t k env = pure false := by
  cases v <;> first | rfl | exact no h | exact nob h | cases h
theorem swaps_list (eo : EnvOk c env) {e : PySem.Expr} {g : List Comprehension} {sc : Scope} {x : Str} {p q : Pos} {k : Nat} : swapsWith (.ListComp e g sc p) (some (.Name x q)) k env = pure (used c x q (.ListComp e g sc p)) := by
  unfold used
  rw [← blockKind_fn eo |>.trans eo.fn.symm, ← eo.kind x]
  rfl
theorem ss_asg {t : PySem.Expr} {pos : Pos} {v : PySem.Expr} {tg : Tg} {u : V} {H₁ : List O} (eo : EnvOk c env) (he : assignEach [t] env = [(false, assign t env)]) (hs : swapsWithSole [t] v pos.line env = pure false) (hw : swappedStores [t] v env = pure none) (ht : tgtOf c t = some tg)
    (hv : SE X n c env v loc H u H₁) (hg : tgt tg u loc H₁ = some (loc', H')) : SS X n c env (.Assign [t] v pos) loc H (.next, loc', H') := by
  intro A h₀ m mu ext imm s Q E R I a hQ
  refine wpAny_Assign_stores (hv R I a fun mu1 imm1 y s1 a1 g1 r1 => ?_) hs hw
  rw [he]
  exact sg_tgt eo ht hg R.1 a1 r1 fun m2 mu2 s2 a2 g2 => hQ _ _ _ _ _ a2 (g1.trans g2) .next
/-- two values to two names, stored in the other order -/
theorem ss_asgS {x y : Str} {p q tp pos : Pos} {k : Nat} {v : PySem.Expr} {i j : Nat} {u w : P} {H₁ : List O} (eo : EnvOk c env) (hs : swapsWithSole [.Tuple [.Name x p, .Name y q] k tp] v pos.line env = pure false)
    (hw : swappedStores [.Tuple [.Name x p, .Name y q] k tp] v env = pure (some [x, y])) (hx : c.kind x = some .local) (hy : c.kind y = some .local) (hi : c.slot x = some i) (hj : c.slot y = some j) (hne : x ≠ y)
    (hv : SE X n c env v loc H (.p (.tup [u, w])) H₁) : SS X n c env (.Assign [.Tuple [.Name x p, .Name y q] k tp] v pos) loc H (.next, (loc.set i (some (.p u))).set j (some (.p w)), H₁) := by
  intro A h₀ m mu ext imm s Q E R I a hQ
  refine Assign_Tuple_swapped (hv R I a fun mu1 imm1 y1 s1 a1 g1 r1 => ?_) hs hw
  obtain ⟨tt, vs, kk, rfl, q1, q2⟩ := DatIn.tupV r1
  have hij : i ≠ j := fun e => by
    subst e
    have h1 := idxS_get hi
    have h2 := idxS_get hj
    rw [h1] at h2
    exact hne (Option.some.inj h2)
  cases q2 with
  | cons d1 q2 =>
    cases q2 with
    | cons d2 q2 =>
      cases q2
      rename_i v1 v2
      have hsz : ([v1, v2] : List Value).toArray.size = 2 := rfl
      have ht : s1.heap.IsTuple tt [v1, v2].toArray := ⟨_, (a1.st.nw _ (List.mem_append_right _ (List.mem_append_right _ q1))).1, rfl, kk, rfl⟩
      refine wpAny_unpackItems_tuple (items := [v1, v2].toArray) R.1 ht fun h' hs' => ?_
      have a2 : At X c env h₀ m ext loc mu1 imm1 H₁ { s1 with heap := h' } := ⟨a1.st.ext0 hs' s1.toks, a1.tk, a1.lr⟩
      show wpAny _ _ (assignInOrder [bindName env y, bindName env x] [v2, v1]) _ _ _
      refine wpAny_assignInOrder_more (wpAny_bindName (a2.storeL eo hy hj (v := .p w) d2 fun m3 s3 a3 => ?_))
      refine wpAny_assignInOrder_more (wpAny_bindName (a3.storeL eo hx hi (v := .p u) d1 fun m4 s4 a4 => ?_))
      refine wpAny_assignInOrder_none (hQ m4 mu1 imm1 _ s4 ?_ g1 .next)
      rw [List.set_comm _ _ (Ne.symm hij)] at a4
      exact a4
theorem assignAll_names (eo : EnvOk c env) {v : V} {y : Value} : ∀ {es : List PySem.Expr} {l : List Nat} {loc : List (Option V)} {m : Str → Option Value} {s : Shared}, seqO (es.map (nmSlot c)) = some l → VRel X imm (mu.map Prod.fst) v y → At X c env h₀ m ext loc mu imm H s →
    ∀ {Q : Unit → Shared → Prop}, (∀ m' s', At X c env h₀ m' ext (l.foldl (fun loc i => loc.set i (some v)) loc) mu imm H s' → Q () s') → wpAny (model X.prog X.w) A (assignAll y (es.map fun e => assign e env)) Q E s := by
  intro es
  induction es with
  | nil => exact fun hl ry a Q hQ => by cases hl; exact wpAny_pure (hQ _ _ a)
  | cons e es ih =>
    intro l loc m s hl ry a Q hQ
    obtain ⟨i, q, h1, h2, rfl⟩ := seqO_cons hl
    obtain ⟨x, pp, rfl, hk, hs⟩ := nmSlot_some h1
    cases es with
    | nil =>
      cases h2
      exact wpAny_assign_Name (a.storeL eo hk hs ry fun m' s' a' => hQ _ _ a')
    | cons e2 es => exact wpAny_bind (m := holding [y] (assign (.Name x pp) env y)) (wpAny_holding (wpAny_assign_Name (a.storeL eo hk hs ry fun m' s' a' => ih h2 ry a' hQ)))
theorem ss_asgM {t t2 : PySem.Expr} {ts : List PySem.Expr} {pos : Pos} {v : PySem.Expr} {l : List Nat} {u : V} (eo : EnvOk c env) (hl : seqO ((t :: t2 :: ts).map (nmSlot c)) = some l) (hv : SE X n c env v loc H u H') :
    SS X n c env (.Assign (t :: t2 :: ts) v pos) loc H (.next, l.foldl (fun loc i => loc.set i (some u)) loc, H') := by
  intro A h₀ m mu ext imm s Q E R I a hQ
  have hw : swappedStores (t :: t2 :: ts) v env = pure none := by
    obtain ⟨i, q, h1, h2, _⟩ := seqO_cons hl
    obtain ⟨x, pp, rfl, _, _⟩ := nmSlot_some h1
    rfl
  refine wpAny_Assign_stores (hv R I a fun mu1 imm1 y s1 a1 g1 r1 => ?_) rfl hw
  rw [assignEach_names hl, List.map_map]
  exact assignAll_names eo hl r1 a1 fun m' s' a' => hQ _ _ _ _ _ a' g1 .next
theorem ss_asgI {o i v : PySem.Expr} {p pos : Pos} {H₁ H₂ H₃ : List O} {x : P} {r : Nat} {k : Int} {l : List P} (hs : swapsWith v (some (.Subscript o i p)) pos.line env = pure false) (hv : SE X n c env v loc H (.p x) H₁) (ho : SE X n c env o loc H₁ (.ref r) H₂) (hi : SE X n c env i loc H₂ (.p (.int k)) H₃)
    (hl : getL H₃ r = some l) (h0 : 0 ≤ k) (hk : k < l.length) (hf : oki k = true) : SS X n c env (.Assign [.Subscript o i p] v pos) loc H (.next, loc, H₃.set r (.list (l.set k.toNat x))) := by
  intro A h₀ m mu ext imm s Q E R I a hQ
  have hf := of_oki hf
  refine wpAny_Assign_Subscript (hv R I a fun mu1 imm1 y1 s1 a1 g1 r1 => ho R I a1 fun mu2 imm2 y2 s2 a2 g2 r2 => hi R I a2 fun mu3 imm3 y3 s3 a3 g3 r3 => ?_) hs
  obtain ⟨ad, vs, n', rfl, e1, d1, l1, m1, i1⟩ := a3.st.ref hl (r2.gw g3)
  cases r3
  have U := a3.st.updOf (listOf (vs.set k.toNat y1).toArray n') e1
  obtain ⟨pre, post, q1, q2, c1, c2⟩ := U.split
  have N := a3.st.nw
  rw [q1] at N
  have z := N (ad, listOf vs.toArray n') (List.mem_append.mpr (.inr (.head _)))
  refine ki_setAt z.1 h0 (by lia) (by simp; lia) ?_
  have N' := ki_turn (fun a => a.setIfInBounds k.toNat y1) (its' := (vs.set k.toNat y1).toArray) (n' := n') N c1 c2 (by simp) (by simp)
  rw [← q2] at N'
  have F := a3.st.fr.change (Heap.SameBut.update s3.heap ad (Obj.mapSeq fun a => a.setIfInBounds k.toNat y1)) z.2.1 z.2.2
  have dd : DatAll imm3 (vs.set k.toNat y1) (dats (l.set k.toNat x)) := by
    have : ∀ {vs : List Value} {l : List P} (j : Nat), DatAll imm3 vs (dats l) → DatAll imm3 (vs.set j y1) (dats (l.set j x)) := by
      intro vs l
      induction l generalizing vs with
      | nil => intro j h; cases h; exact .nil
      | cons p l ih =>
        intro j h
        cases h with
        | cons h1 h2 =>
          cases j with
          | zero => exact .cons (r1.mono (g2.trans g3).im (g2.trans g3).ad) h2
          | succ j => exact .cons h1 (ih j h2)
    exact this _ d1
  exact hQ _ _ _ _ _ (a3.step (a3.st.setL e1 F N' dd s3.toks) a3.tk (gw_set e1)) (((g1.trans g2).trans g3).trans (gw_set e1)) .next
theorem ss_asgF {fa : Nat → Addr} {init : Nat} (CO : ClsOk X fa init) {a : Str} (FO : FldOk X a) {o v : PySem.Expr} {p pos : Pos} {H₁ H₂ : List O} {x : P} {r : Nat} {fs : List (Str × P)} (hs : swapsWith v (some (.Attribute o a p)) pos.line env = pure false) (hv : SE X n c env v loc H (.p x) H₁) (ho : SE X n c env o loc H₁ (.obj r) H₂)
    (hf : getF H₂ r = some fs) (hk : fs.length ≤ 100) : SS X n c env (.Assign [.Attribute o a p] v pos) loc H (.next, loc, H₂.set r (.inst (put fs a x))) := by
  intro A h₀ m mu ext imm s Q E R I a0 hQ
  refine plainObj_wpAny_Assign_Attribute (hv R I a0 fun mu1 imm1 y1 s1 a1 g1 r1 => ho R I a1 fun mu2 imm2 y2 s2 a2 g2 r2 => ?_) hs
  obtain ⟨x', d, es, k, rfl, e1, hfr, hi⟩ := a2.st.obj hf r2
  have hl : (W.getL a es).isSome = true := by
    cases q : fs.lookup a with
    | none => rw [(FRel_get hfr).2 q]; rfl
    | some z => obtain ⟨w, hw, _⟩ := (FRel_get hfr).1 z q; rw [hw]; rfl
  have r1' : DatIn imm2 y1 x.dat := r1.mono g2.im g2.ad
  have hfr' := FRel_put r1' a (PyData.keyHash X.w.params a) (s2.toks + 1) hfr
  have hlen : (putL a (PyData.keyHash X.w.params a) (.str a (s2.toks + 1)) y1 es).length ≤ 1000 := by
    rw [FRel_len hfr']; have := put_len fs a x; lia
  refine set_dict a2.st.fr I.k a2.st.nw hi rfl CO.set_ CO.over FO.taker CO.hasDict hl rfl (a2.st.updOf _ e1) hlen fun h' F N => ?_
  have ix : (x', instObj X.C d) ∈ imm2 := by
    obtain ⟨e, he, ho'⟩ := a2.st.mr.get (getF_some hf)
    cases ho' with
    | inst hm _ =>
      rename_i x0 d0 es0 k0
      rw [e1] at he
      cases he
      obtain ⟨xx, dd, q1, q2, q3⟩ := r2
      rw [List.getElem?_map, e1] at q1
      cases q1
      cases q2
      exact q3
  exact hQ _ _ _ _ _ (a2.step (a2.st.upd e1 F N (.inst ix hfr') (s2.toks + 2)) (Nat.le_add_left 1 (s2.toks + 1)) (gw_set e1)) ((g1.trans g2).trans (gw_set e1)) .next
theorem ss_aug {x : Str} {p pos : Pos} {e : PySem.Expr} {i : Nat} {a b r : P} (eo : EnvOk c env) (hk : c.kind x = some .local) (hi : c.slot x = some i) (hl : loc[i]? = some (some (.p a))) (he : SE X n c env e loc H (.p b) H') (hr : addP a b = some r) :
    SS X n c env (.AugAssign (.Name x p) .Add e pos) loc H (.next, loc.set i (some (.p r)), H') := by
  intro A h₀ m mu ext imm s Q E R I a0 hQ
  obtain ⟨y, hy, ry⟩ := (a0.lr i _ x hl (idxS_get hi)).1 ((eo.kind x).trans hk)
  refine wpAny_AugAssign_Name (wpAny_loadName_local eo.fn' ((eo.kind x).trans hk) a0.st.fr.ns hy (he R I a0 fun mu1 imm1 y1 s1 a1 g1 r1 => ?_))
  have ry' := ry.gw g1
  have fin : ∀ (z : Value) k, DatIn imm1 z r.dat → 1 ≤ k → wpAny (model X.prog X.w) A (storeName env x z) (fun _ => Q .next) E { s1 with toks := k } := fun z k hz hk1 =>
    (a1.step (a1.st.tok k) hk1 .refl).storeL eo hk hi (v := .p r) hz fun m2 s2 a2 => hQ _ _ _ _ _ a2 g1 .next
  cases a with
  | int a =>
    refine bindE hr fun c e hz => ?_
    apply pint_E e r1
    intro t2
    apply datInt ry'
    intro t1
    cases hz
    exact iadd_int (fin _ _ (.int _ _) (Nat.le_add_left _ _))
  | str a =>
    refine bindE hr fun c e hz => iteE hz fun h hz => ?_
    have h := of_ok h
    apply pstr_E e r1
    intro t2
    apply datStr ry'
    intro t1
    cases hz
    refine wpAny_with_toks a1.tk (PyProof.Rows.iadd_str (fun t' k hk => fin _ _ (by rw [S_add]; exact .str _ _) hk) (by rw [S_len, S_len, sizeLine_eq]; lia))
  | _ => first | exact no hr | exact nob hr | cases hr
theorem ss_ex {e : PySem.Expr} {pos : Pos} (eo : EnvOk c env) (hs : swapsWith e none pos.line env = pure false) (he : SE X n c env e loc H (.p .none) H') : SS X n c env (.Expr e pos) loc H (.next, loc, H') := by
  intro A h₀ m mu ext imm s Q E R I a hQ
  refine wpAny_Expr (he R I a fun mu1 imm1 y s1 a1 g1 r1 => ?_) eo.inter hs
  cases r1
  exact hQ _ _ _ _ _ a1 g1 .next
theorem ss_if {t : PySem.Expr} {a b : List Stmt} {pos : Pos} {d : Bool} {H₁ : List O} {z : Fl × List (Option V) × List O} (ht : ST X n c env t loc H d H₁) (ha : d = true → SX X n c env a loc H₁ z) (hb : d = false → SX X n c env b loc H₁ z) : SS X n c env (.If t a b pos) loc H z := by
  intro A h₀ m mu ext imm s Q E R I a0 hQ
  refine wpAny_If (ht R I a0 fun mu1 imm1 s1 a1 g1 => ?_)
  cases d with
  | true => exact ha rfl R I a1 fun m2 mu2 imm2 f s2 a2 g2 r2 => hQ _ _ _ _ _ a2 (g1.trans g2) r2
  | false => exact hb rfl R I a1 fun m2 mu2 imm2 f s2 a2 g2 r2 => hQ _ _ _ _ _ a2 (g1.trans g2) r2
theorem ss_ret {e : PySem.Expr} {pos : Pos} {v : V} (he : SE X n c env e loc H v H') : SS X n c env (.Return (some e) pos) loc H (.ret v, loc, H') := by
  intro A h₀ m mu ext imm s Q E R I a hQ
  exact wpAny_Return_some (he R I a fun mu1 imm1 y s1 a1 g1 r1 => hQ _ _ _ _ _ a1 g1 (.ret r1))
theorem ss_brk {pos : Pos} : SS X n c env (.Break pos) loc H (.brk, loc, H) := by
  intro A h₀ m mu ext imm s Q E R I a hQ
  exact wpAny_Break (hQ _ _ _ _ _ a .refl .brk)
theorem ss_cont {pos : Pos} : SS X n c env (.Continue pos) loc H (.cont, loc, H) := by
  intro A h₀ m mu ext imm s Q E R I a hQ
  exact wpAny_Continue (hQ _ _ _ _ _ a .refl .cont)
end
end Mine
end
section
open PySem PySem.W PyProof.Rows PyProof.V
set_option Elab.async false
set_option maxRecDepth 20000
namespace Mine
section
variable {X : Wd} {n : Nat} {c : Ce} {env : Env} {loc loc' : List (Option V)} {H H' H₀ : List O} {A : Around} {h₀ : Heap} {L : Addr} {m : Str → Option Value} {mu ext imm : List (Addr × Obj)} {s : Shared} {E : Value → Shared → Prop}
noncomputable abbrev Zt := Fl × List (Option V) × List O
theorem whl_run {test : PySem.Expr} {body : List Stmt} {tst : List (Option V) → List O → Option (Bool × List O)} {bd : List (Option V) → List O → Option Zt} (Rm : Room A n) (I : X.In h₀)
    (h1 : ∀ {loc H b H'}, tst loc H = some (b, H') → ST X n c env test loc H b H') (h2 : ∀ {loc H z}, bd loc H = some z → SX X n c env body loc H z) {R : Result → Shared → Prop} :
    ∀ (k : Nat) {loc : List (Option V)} {H : List O} {z : Zt} {m : Str → Option Value} {mu imm : List (Addr × Obj)} {s : Shared}, whlL tst bd k loc H = some z → At X c env h₀ m ext loc mu imm H s →
      (∀ m' mu' imm' f s', At X c env h₀ m' ext z.2.1 mu' imm' z.2.2 s' → Gw mu imm mu' imm' → FlRel X imm' (mu'.map Prod.fst) z.1 f → R (.ok f) s') → codeAny (model X.prog X.w) A (.whileLoop test body [] env) R s := by
  intro k
  induction k with
  | zero => intro loc H z m mu imm s hv; cases hv
  | succ k ik =>
    intro loc H z m mu imm s hv a hR
    refine bindE (o := tst loc H) hv fun b k1 hv => ?_
    obtain ⟨b, H1⟩ := b
    refine codeAny_of_tree ?_
    show wpAny _ A ((whileTurn test body [] env).onRaise (fun x => do noteFrame x env; theTreesLotGoes x)) _ _ s
    refine wpAny_noted ?_
    simp only [whileTurn]
    refine wpAny_bind (h1 k1 Rm I a fun mu1 imm1 s1 a1 g1 => ?_)
    cases b with
    | false =>
      cases Option.some.inj hv
      exact wpAny_bind (wpAny_execs_nil (wpAny_pure (hR _ _ _ _ _ a1 g1 .next)))
    | true =>
      refine bindE (o := bd loc H1) hv fun w k2 hv => ?_
      obtain ⟨f0, q⟩ := w
      refine wpAny_bind (h2 k2 Rm I a1 fun m2 mu2 imm2 f s2 a2 g2 r2 => ?_)
      have g := g1.trans g2
      clear k2 a1 k1 g1 g2 a
      cases r2 with
      | next => exact wpAny_pure ⟨rfl, ik hv a2 fun m' mu' imm' f s' a' g' r' => hR _ _ _ _ _ a' (g.trans g') r'⟩
      | cont => exact wpAny_pure ⟨rfl, ik hv a2 fun m' mu' imm' f s' a' g' r' => hR _ _ _ _ _ a' (g.trans g') r'⟩
      | brk => cases Option.some.inj hv; exact wpAny_pure (hR _ _ _ _ _ a2 g .next)
      | ret hr => cases Option.some.inj hv; exact wpAny_pure (hR _ _ _ _ _ a2 g (.ret hr))
theorem ss_whl {test : PySem.Expr} {body : List Stmt} {pos : Pos} {tst : List (Option V) → List O → Option (Bool × List O)} {bd : List (Option V) → List O → Option Zt}
    (h1 : ∀ {loc H b H'}, tst loc H = some (b, H') → ST X n c env test loc H b H') (h2 : ∀ {loc H z}, bd loc H = some z → SX X n c env body loc H z) {k : Nat} {z : Zt} (hv : whlL tst bd k loc H = some z) : SS X n c env (.While test body [] pos) loc H z := by
  intro A h₀ m mu ext imm s Q E R I a hQ
  exact wpAny_While (whl_run R.mark I h1 h2 k hv a hQ)
theorem for_run {t : PySem.Expr} {body : List Stmt} {tg : Tg} {bd : List (Option V) → List O → Option Zt} {It : Addr} {v : V} {ps : List P} {w : Option Nat} (eo : EnvOk c env) (Rm : Room A n) (I : X.In h₀)
    (ht : tgtOf c t = some tg) (hi : itemsOf v H₀ = some (ps, w)) (h2 : ∀ {loc H z}, bd loc H = some z → SX X n c env body loc H z) {R : Result → Shared → Prop} :
    ∀ {rem : List P} {i : Nat} {loc : List (Option V)} {H : List O} {z : Zt} {m : Str → Option Value} {mu imm : List (Addr × Obj)} {o : Obj} {s : Shared}, i + rem.length = ps.length → ps.drop i = rem → forL ps w tg bd rem loc H = some z → At X c env h₀ m ((It, o) :: ext) loc mu imm H s →
      ItR imm (mu.map Prod.fst) v i o →
      (∀ m' mu' imm' f s', At X c env h₀ m' ext z.2.1 mu' imm' z.2.2 s' → Gw mu imm mu' imm' → FlRel X imm' (mu'.map Prod.fst) z.1 f → R (.ok f) s') → codeAny (model X.prog X.w) A (.forLoop t (.ref It) body [] env) R s := by
  intro rem
  induction rem with
  | nil =>
    intro i loc H z m mu imm o s hl hd hv a it hR
    refine iteE hv fun hw hv => ?_
    cases Option.some.inj hv
    refine codeAny_of_tree ?_
    show wpAny _ A ((forTurn t (.ref It) body [] env).onRaise (fun x => do noteFrame x env; theTreesLotGoes x)) _ _ s
    refine wpAny_noted ?_
    simp only [forTurn]
    refine wpAny_bind (wpAny_standAt (wpAny_bind (wpAny_onRaise (it_end hi hw (by simpa using hl) a.st a.tk it Rm.1 fun s' st tk => ?_))))
    exact wpAny_pure ⟨rfl, codeAny_block (wpAny_execs_nil (hR _ _ _ _ _ ⟨st, tk, a.lr⟩ .refl .next))⟩
  | cons x rem ir =>
    intro i loc H z m mu imm o s hl hd hv a it hR
    refine iteE hv fun hw hv => bindE hv fun q h1 hv => bindE hv fun w' k2 hv => ?_
    obtain ⟨f0, l0, H0⟩ := w'
    have hx : ps[i]? = some x := by
      have := congrArg (fun l => l[0]?) hd
      simpa using this
    refine codeAny_of_tree ?_
    show wpAny _ A ((forTurn t (.ref It) body [] env).onRaise (fun x => do noteFrame x env; theTreesLotGoes x)) _ _ s
    refine wpAny_noted ?_
    simp only [forTurn]
    refine wpAny_bind (wpAny_standAt (wpAny_bind (wpAny_onRaise (it_item hi hw hx a.st a.tk it fun y o' s1 st1 tk1 ry it1 => ?_))))
    have a1 : At X c env h₀ m ((It, o') :: ext) loc mu imm H s1 := ⟨st1, tk1, a.lr⟩
    refine wpAny_bind (own_go st1 it1 (wpAny_bind (sg_tgt eo ht (loc' := q.1) (H' := q.2) h1 Rm.1 a1 (v := .p x) ry fun m2 mu2 s2 a2 g2 => wpAny_bind (h2 k2 Rm I a2 fun m3 mu3 imm3 f s3 a3 g3 r3 => ?_))))
    have g := g2.trans g3
    have next : forL ps w tg bd rem l0 H0 = some z → codeAny (model X.prog X.w) A (.forLoop t (.ref It) body [] env) R s3 := fun hv =>
      ir (by rw [List.length_cons] at hl; lia) (by
        have := congrArg (List.drop 1) hd
        simpa [List.drop_drop, Nat.add_comm] using this) hv a3 (it1.mono g.im g.ad) fun m' mu' imm' f s' a' g' r' => hR _ _ _ _ _ a' (g.trans g') r'
    have a3' : At X c env h₀ m3 ext l0 mu3 imm3 H0 s3 := ⟨a3.st.dropE, a3.tk, a3.lr⟩
    clear k2 h1 a a1 a3 it it1 hx hd hl g2 g3
    cases r3 with
    | next => exact wpAny_pure ⟨rfl, next hv⟩
    | cont => exact wpAny_pure ⟨rfl, next hv⟩
    | brk => cases Option.some.inj hv; exact wpAny_pure (hR _ _ _ _ _ a3' g .next)
    | ret hr => cases Option.some.inj hv; exact wpAny_pure (hR _ _ _ _ _ a3' g (.ret hr))
theorem ss_for {t it : PySem.Expr} {body : List Stmt} {pos : Pos} {tg : Tg} {bd : List (Option V) → List O → Option Zt} {v : V} {ps : List P} {w : Option Nat} {H₁ : List O} {z : Zt} (eo : EnvOk c env) (hset : isSetE it = false)
    (ht : tgtOf c t = some tg) (hit : SE X n c env it loc H v H₁) (hi : itemsOf v H₁ = some (ps, w)) (h2 : ∀ {loc H z}, bd loc H = some z → SX X n c env body loc H z) (hv : forL ps w tg bd ps loc H₁ = some z) : SS X n c env (.For t it body [] pos) loc H z := by
  intro A h₀ m mu ext imm s Q E R I a hQ
  refine wpAny_For (hit R I a fun mu1 imm1 y1 s1 a1 g1 r1 => it_iter hi a1.st r1 fun It o h' t2 it2 => ?_) (notSet hset env)
  have a2 : At X c env h₀ m ((It, o) :: ext) loc mu1 imm1 H₁ { s1 with heap := h' } := ⟨t2, a1.tk, a1.lr⟩
  exact for_run eo R I ht hi h2 (i := 0) (by simp) rfl hv a2 it2 fun m' mu' imm' f s' a' g' r' => hQ _ _ _ _ _ a' (g1.trans g') r'

/-- a comprehension whose list goes straight to a name -/
noncomputable def CU (X : Wd) (n : Nat) (c : Ce) (env : Env) (e : PySem.Expr) (loc : List (Option V)) (H : List O) (r : Nat) (H' : List O) : Prop :=
  ∀ ⦃A : Around⦄ ⦃h₀ : Heap⦄ ⦃m : Str → Option Value⦄ ⦃mu ext imm : List (Addr × Obj)⦄ ⦃s : Shared⦄ ⦃Q : Unit → Shared → Prop⦄ ⦃E : Value → Shared → Prop⦄ (u : Value → Sem Unit),
    Room A n → X.In h₀ → At X c env h₀ m ext loc mu imm H s →
    (∀ D C oC mC mu' imm' s', At X c env h₀ m ((C, oC) :: ext) loc mu' imm' H' s' → (∀ s'' : Shared, s''.heap.get? C = some oC → s''.heap.Ns C mC) → (mu'.map Prod.fst)[r]? = some D → Gw mu imm mu' imm' →
      wpAny (model X.prog X.w) A (u (.ref D)) (fun _ s'' => ∃ m, s''.heap.Ns C m ∧ ∀ h', Heap.SameBut C s''.heap h' → Q () { s'' with heap := h' }) E s') →
    wpAny (model X.prog X.w) A (evalThenUse e env u) Q E s
theorem cu_comp {elt target iter : PySem.Expr} {ifs : List PySem.Expr} {scope : Scope} {pos : Pos} {fr : List (Option Nat)} {v : V} {ps : List P} {w : Option Nat} {tg : Tg} {K H₁ : List O} {tests : List (Option V) → List O → Option (Bool × List O)} {emit : List (Option V) → List O → Option (V × List O)}
    (eo : EnvOk c env) (hsc : scOk c scope = true) (hset : isSetE iter = false) (hfr : c.frame scope = some fr) (hfo : frOk fr loc = true) (ht : tgtOf (c.inner scope) target = some tg) (hit : SE X n c env iter loc H v H₁) (hi : itemsOf v H₁ = some (ps, w))
    (h1 : ∀ env, EnvOk (c.inner scope) env → ∀ loc H b H', tests loc H = some (b, H') → STs X n (c.inner scope) env ifs loc H b H') (h2 : ∀ env, EnvOk (c.inner scope) env → ∀ loc H v H', emit loc H = some (v, H') → SE X n (c.inner scope) env elt loc H v H')
    (hv : cmpL ps w tg (fun l K => (tests l K).bind fun b => if b.1 then (emit l b.2).bind fun v => addTo H₁.length v.1 v.2 else some b.2) (frOf fr loc) ps (H₁ ++ [.list []]) = some K) :
    CU X n c env (.ListComp elt [⟨target, iter, ifs, 0⟩] scope pos) loc H H₁.length (K.take (H₁.length + 1)) := by
  intro A h₀ m mu ext imm s Q E u R I a hQ
  have so := scOk_of hsc
  obtain ⟨cl, hc1, hc2⟩ := closure_of (free_cells eo so hfr hfo a.lr)
  show wpAny _ _ (comprehension (.ListComp elt [⟨target, iter, ifs, 0⟩] scope pos) scope env (firstIterPos [⟨target, iter, ifs, 0⟩] pos) (newList []) false (eval iter env) (some u) >>= fun _ => pure ()) _ _ _
  refine wpAny_bind ?_
  refine wpAny_comprehension_free (g := ⟨target, iter, ifs, 0⟩) (gs := []) rfl (notSet hset env) hc1 so.fn (fun x hx e => lookup_nodup so.nd (by rw [← e]; exact hx)) ?_
  refine hit R I a fun mu1 imm1 y1 s1 a1 g1 r1 => it_iter hi a1.st r1 fun It o h' t2 it2 => ?_
  have a2 : At X c env h₀ m ((It, o) :: ext) loc mu1 imm1 H₁ { s1 with heap := h' } := ⟨t2, a1.tk, a1.lr⟩
  refine comp_run (RR := fun acc C r s' => compPost (model X.prog X.w) A E (some u) (fun v s' => wpAny (model X.prog X.w) A (pure ()) Q E s') acc C r s') (inner := inner1 ifs elt) eo so hfr hc2 ht hi R I (fun _ _ => turn1 _ _ _ _ _ _ _ _ _) (fun C D eo' => ins_one (h1 _ eo') (h2 _ eo')) hv a2 it2 fun D C oC mC mu' imm' s' a' hns hD g' => ?_
  exact wpAny_mono (hQ D C oC mC mu' imm' s' a' hns hD (g1.trans g')) (fun _ s'' ⟨m, q1, q2⟩ => ⟨m, q1, fun h' hs => wpAny_pure (q2 h' hs)⟩) fun _ _ q => q
theorem cu_comp2 {elt t1 i1 t2 i2 : PySem.Expr} {ifs : List PySem.Expr} {scope : Scope} {pos : Pos} {fr : List (Option Nat)} {v : V} {ps : List P} {w : Option Nat} {tg tg2 : Tg} {K H₁ : List O} {tests : List (Option V) → List O → Option (Bool × List O)} {src emit : List (Option V) → List O → Option (V × List O)}
    (eo : EnvOk c env) (hsc : scOk c scope = true) (hset : isSetE i1 = false) (hset2 : isSetE i2 = false) (hfr : c.frame scope = some fr) (hfo : frOk fr loc = true) (ht : tgtOf (c.inner scope) t1 = some tg) (ht2 : tgtOf (c.inner scope) t2 = some tg2) (hit : SE X n c env i1 loc H v H₁) (hi : itemsOf v H₁ = some (ps, w))
    (h0 : ∀ env, EnvOk (c.inner scope) env → ∀ loc H v H', src loc H = some (v, H') → SE X n (c.inner scope) env i2 loc H v H')
    (h1 : ∀ env, EnvOk (c.inner scope) env → ∀ loc H b H', tests loc H = some (b, H') → STs X n (c.inner scope) env ifs loc H b H') (h2 : ∀ env, EnvOk (c.inner scope) env → ∀ loc H v H', emit loc H = some (v, H') → SE X n (c.inner scope) env elt loc H v H')
    (hv : cmpL ps w tg (fun l K => if tgFree tg2 l then (src l K).bind fun x2 => (itemsOf x2.1 x2.2).bind fun q2 => cmpL q2.1 q2.2 tg2 (fun l K => (tests l K).bind fun b => if b.1 then (emit l b.2).bind fun v => addTo H₁.length v.1 v.2 else some b.2) l q2.1 x2.2 else none) (frOf fr loc) ps (H₁ ++ [.list []]) = some K) :
    CU X n c env (.ListComp elt [⟨t1, i1, [], 0⟩, ⟨t2, i2, ifs, 0⟩] scope pos) loc H H₁.length (K.take (H₁.length + 1)) := by
  intro A h₀ m mu ext imm s Q E u R I a hQ
  have so := scOk_of hsc
  obtain ⟨cl, hc1, hc2⟩ := closure_of (free_cells eo so hfr hfo a.lr)
  show wpAny _ _ (comprehension (.ListComp elt [⟨t1, i1, [], 0⟩, ⟨t2, i2, ifs, 0⟩] scope pos) scope env (firstIterPos [⟨t1, i1, [], 0⟩, ⟨t2, i2, ifs, 0⟩] pos) (newList []) false (eval i1 env) (some u) >>= fun _ => pure ()) _ _ _
  refine wpAny_bind ?_
  refine wpAny_comprehension_free (g := ⟨t1, i1, [], 0⟩) (gs := [⟨t2, i2, ifs, 0⟩]) rfl (notSet hset env) hc1 so.fn (fun x hx e => lookup_nodup so.nd (by rw [← e]; exact hx)) ?_
  refine hit R I a fun mu1 imm1 y1 s1 a1 g1 r1 => it_iter hi a1.st r1 fun It o h' t2' it2 => ?_
  have a2 : At X c env h₀ m ((It, o) :: ext) loc mu1 imm1 H₁ { s1 with heap := h' } := ⟨t2', a1.tk, a1.lr⟩
  refine comp_run (RR := fun acc C r s' => compPost (model X.prog X.w) A E (some u) (fun v s' => wpAny (model X.prog X.w) A (pure ()) Q E s') acc C r s') (inner := inner2 i2 _) eo so hfr hc2 ht hi R I (fun _ _ => turn2 _ _ _ _ _ _ _ _ _ _ _) (fun C D eo' => ins_two eo' hset2 ht2 (h0 _ eo') (ins_one (h1 _ eo') (h2 _ eo'))) hv a2 it2 fun D C oC mC mu' imm' s' a' hns hD g' => ?_
  exact wpAny_mono (hQ D C oC mC mu' imm' s' a' hns hD (g1.trans g')) (fun _ s'' ⟨m, q1, q2⟩ => ⟨m, q1, fun h' hs => wpAny_pure (q2 h' hs)⟩) fun _ _ q => q
theorem ss_asgC {x : Str} {p pos : Pos} {e : PySem.Expr} {i r : Nat} (eo : EnvOk c env) (hs : swapsWith e (some (.Name x p)) pos.line env = pure true) (hk : c.kind x = some .local) (hi : c.slot x = some i) (he : CU X n c env e loc H r H') :
    SS X n c env (.Assign [.Name x p] e pos) loc H (.next, loc.set i (some (.ref r)), H') := by
  intro A h₀ m mu ext imm s Q E R I a hQ
  rw [exec_Assign_Name_used _ _ _ _ hs]
  refine wpAny_bind (wpAny_standAt (wpAny_bind (he (assign (.Name x p) env) R I a fun D C oC mC mu' imm' s' a' hns hD g' => ?_)))
  refine wpAny_assign_Name (a'.storeL eo hk hi (v := .ref r) ⟨D, hD, rfl⟩ fun m2 s2 a2 => ?_)
  exact ⟨mC, hns s2 a2.st.getE.1, fun h' hs' => wpAny_pure (hQ _ _ _ _ _ ⟨a2.st.endE hs'.extBut s2.toks, a2.tk, a2.lr⟩ g' .next)⟩
end
end Mine
end
section
open PySem PySem.W PyProof.Rows PyProof.V
set_option Elab.async false
set_option maxRecDepth 20000
set_option maxHeartbeats 1000000
namespace Mine
section
variable {X : Wd} {n : Nat} {fa : Nat → Addr} {g : G}
noncomputable def SSd (X : Wd) (n : Nat) (c : Ce) (env : Env) (g : G) (st : Stmt) (t : T) : Prop := ∀ loc H z, ex g t loc H = some z → SS X (n + 1) c env st loc H z
noncomputable def SndS (X : Wd) (n : Nat) (fa : Nat → Addr) (g : G) (k : Nat) : Prop := ∀ {c : Ce} {env : Env} {st : Stmt} {t : T}, GOk X fa c.gl c.meths c.flds g n → EnvOk c env → trS c k st = some t → SSd X n c env g st t
theorem ex_of {t t₀ : T} {loc : List (Option V)} {H : List O} {z : Fl × List (Option V) × List O} (h : some t₀ = some t) (hv : ex g t loc H = some z) : ex g t₀ loc H = some z := Option.some.inj h ▸ hv
theorem ss_of {c : Ce} {env : Env} {st : Stmt} {loc : List (Option V)} {H : List O} {z z₀ : Fl × List (Option V) × List O} (h : some z₀ = some z) (hv : SS X n c env st loc H z₀) : SS X n c env st loc H z := Option.some.inj h ▸ hv
section
variable {k : Nat} {c : Ce} {env : Env} {t : T} {pos : Pos}
theorem snd_block (ih : SndS X n fa g k) (G : GOk X fa c.gl c.meths c.flds g n) (eo : EnvOk c env) {b : List Stmt} {ts : List T} (h : seqO (b.map (trS c k)) = some ts) {loc H z} (hv : exs g ts loc H = some z) : SX X (n + 1) c env b loc H z := by
  induction b generalizing ts loc H with
  | nil => cases h; cases hv; exact sx_nil
  | cons e b ib =>
    refine bindE h fun x h1 h => mapE h fun q h2 e => ?_
    cases e
    refine bindE (o := ex g x loc H) hv fun w k1 hv => ?_
    obtain ⟨f, l, K⟩ := w
    cases f with
    | next => exact sx_cons (ih G eo h1 _ _ _ k1) (fun _ => ib h2 hv) fun e => absurd rfl e
    | _ => cases hv; exact sx_cons (ih G eo h1 _ _ _ k1) nofun fun _ => rfl
/-- comprehensions, straight to a name -/
theorem used_eq {y : Str} {p : Pos} {e : PySem.Expr} (h : used c y p e = true) : ∃ elt gs sc q, e = .ListComp elt gs sc q := by cases e <;> first | exact ⟨_, _, _, _, rfl⟩ | exact nob h | cases h
theorem cu_sound (hn : nsIn X.K cStatics sharingNotToldKey = some none) (G : GOk X fa c.gl c.meths c.flds g n) (eo : EnvOk c env) {e : PySem.Expr} {x : E} {y : Str} {p : Pos} (hu : used c y p e = true) (h : tr c k e = some x) {loc H r} (hv : ev g loc x H = some r) :
    ∃ i, r.1 = .ref i ∧ CU X (n + 1) c env e loc H i r.2 := by
  obtain ⟨elt, gs, sc, q, rfl⟩ := used_eq hu
  cases k with
  | zero => first | exact no h | exact nob h | cases h
  | succ k =>
    have ih : SndE X n fa g k := tr_sound hn k
    refine pln_E h fun h _ => comp_inv (C := fun gs r => ∃ i, r.1 = .ref i ∧ CU X (n + 1) c env (.ListComp elt gs sc q) loc H i r.2) h hv (fun hs h0 q1 hfo q2 q3 q4 q5 p1 p2 p3 => ⟨_, rfl, ?_⟩) (fun hs h0 h00 q1 hfo q2 q3 q4 q5 q6 q7 p1 p2 p3 => ⟨_, rfl, ?_⟩)
    · exact cu_comp eo hs h0 q1 hfo q2 ((ih G eo q3).1 p1) p2 (fun env' eo' loc H b H' e => snd_tests ih (c := c.inner _) G eo' q4 e) (fun env' eo' loc H v H' e => (ih (c := c.inner _) G eo' q5).1 e) p3
    · exact cu_comp2 eo hs h0 h00 q1 hfo q2 q4 ((ih G eo q3).1 p1) p2 (fun env' eo' loc H v H' e => (ih (c := c.inner _) G eo' q5).1 e) (fun env' eo' loc H b H' e => snd_tests ih (c := c.inner _) G eo' q6 e) (fun env' eo' loc H v H' e => (ih (c := c.inner _) G eo' q7).1 e) p3
theorem not_set_dict {e : PySem.Expr} {x : E} (h : tr c k e = some x) : (∀ a b s p, e ≠ .SetComp a b s p) ∧ ∀ a b d s p, e ≠ .DictComp a b d s p := by
  cases k with
  | zero => first | exact no h | exact nob h | cases h
  | succ k => exact ⟨fun a b s p e => (by cases e; cases h), fun a b d s p e => (by cases e; cases h)⟩
theorem swaps_used (eo : EnvOk c env) {e : PySem.Expr} {x : E} (h : tr c k e = some x) {y : Str} {q : Pos} {j : Nat} : swapsWith e (some (.Name y q)) j env = pure (used c y q e) := by
  obtain ⟨h1, h2⟩ := not_set_dict h
  cases e <;> first | rfl | exact swaps_list eo | exact absurd rfl (h1 _ _ _ _) | exact absurd rfl (h2 _ _ _ _ _)
end
theorem swap_two {c : Ce} {env : Env} (eo : EnvOk c env) {x y : Str} {p q tp vp : Pos} {k vk : Nat} {v1 v2 : PySem.Expr} (hx : c.kind x = some .local) (hy : c.kind y = some .local) (hne : x ≠ y) (hp : p.line = q.line) (hst : [v1, v2].all (fun e => !isStarE e) = true)
    (h1 : [v1, v2].all (foldedForSure 8) = false) (h2 : [v1, v2].all (constantsAlone 8) = false) : swappedStores [.Tuple [.Name x p, .Name y q] k tp] (.Tuple [v1, v2] vk vp) env = pure (some [x, y]) := by
  simp only [List.all_cons, List.all_nil, Bool.and_true, Bool.and_eq_true, Bool.not_eq_true'] at hst
  have e1 := eo.kind x
  have e2 := eo.kind y
  rw [hx] at e1
  rw [hy] at e2
  have e3 : (y == x) = false := by simpa using Ne.symm hne
  have e4 : ([x, y] : List Str).eraseDups.length = 2 := by
    simp only [List.eraseDups, List.eraseDupsBy, List.eraseDupsBy.loop, List.any_cons, List.any_nil, Bool.or_false, e3]
    rfl
  have e7 : ∀ f : PySem.Expr → Bool, (∀ v, f v = isStarE v) → [v1, v2].any f = false := by intro f hf; simp [hf, hst]
  have e5 : ∀ f : PySem.Expr → Option Str, (∀ id pos, f (.Name id pos) = if (env.kindOf id == some NameKind.local && pos.line == p.line) = true then some id else none) → [PySem.Expr.Name x p, PySem.Expr.Name y q].filterMap f = [x, y] := by
    intro f hf
    simp only [List.filterMap_cons, List.filterMap_nil, hf, e1, e2, hp, beq_self_eq_true, Bool.and_self, if_true]
  have e8 : ∀ {b : Bool}, b = false → ¬b = true := fun e h => nob (e.symm.trans h)
  refine (if_neg ?c1).trans ((if_neg (e8 (e7 _ fun v => by cases v <;> rfl))).trans ((if_neg ?c3).trans ((if_neg (e8 h1)).trans ((if_neg (e8 h2)).trans (congrArg (fun l => pure (some l)) (e5 _ fun _ _ => rfl))))))
  case c1 => exact fun h => by rw [blockKind_fn eo] at h; exact nob h
  case c3 => exact fun h => by rw [e5 _ fun _ _ => rfl, e4] at h; exact nob h
theorem tupE_eq {e : PySem.Expr} {vs : List PySem.Expr} (h : tupE e = some vs) : ∃ k p, e = .Tuple vs k p := by cases e <;> first | exact no h | (cases h; exact ⟨_, _, rfl⟩)
theorem swap_none {env : Env} {ts : List PySem.Expr} {k : Nat} {tp : Pos} {v : PySem.Expr} (h : tupE v = none) : swappedStores [.Tuple ts k tp] v env = pure none := by
  cases v <;> first | rfl | exact no h | exact nob h | cases h
theorem nameLine_eq {e : PySem.Expr} {x : Str × Nat} (h : nameLine e = some x) : ∃ p, e = .Name x.1 p ∧ p.line = x.2 := by cases e <;> first | exact no h | (cases h; exact ⟨_, rfl, rfl⟩)
theorem twoNames_spec {c : Ce} {ts : List PySem.Expr} (h : twoNames c ts = true) : ∃ x p y q, ts = [.Name x p, .Name y q] ∧ x ≠ y ∧ p.line = q.line ∧ c.kind x = some .local ∧ c.kind y = some .local := by
  unfold twoNames at h
  cases e : ((two ts).bind fun q => (nameLine q.1).bind fun x => (nameLine q.2).map fun y => (x, y)) with
  | none => rw [e] at h; cases h
  | some w =>
    rw [e] at h
    refine bindE e fun q e0 e => bindE e fun x e1 e => mapE e fun y e2 e => ?_
    cases e
    obtain ⟨p, h1, h2⟩ := nameLine_eq e1
    obtain ⟨p', h3, h4⟩ := nameLine_eq e2
    refine andE h fun h d4 => andE h fun h d3 => andE h fun d1 d2 => ⟨x.1, p, y.1, p', ?_, bne_iff_ne.mp d1, ?_, eq_of_beq d3, eq_of_beq d4⟩
    · rw [two_eq e0, h1, h3]
    · rw [h2, h4, eq_of_beq d2]
theorem tgL_eq {t : Tg} {l : List Nat} (h : tgL t = some l) : t = .tup l := by cases t <;> first | exact no h | (cases h; rfl)
section
variable {k : Nat} {c : Ce} {env : Env} {t : T} {pos : Pos} (hn : nsIn X.K cStatics sharingNotToldKey = some none) (G : GOk X fa c.gl c.meths c.flds g n) (eo : EnvOk c env)
include hn G eo
theorem sa_name {x : Str} {px : Pos} {v : PySem.Expr} (h : asgN c (tr c k) x px v = some t) : SSd X n c env g (.Assign [.Name x px] v pos) t := by
  intro loc H z hv
  refine iteB h (fun hu h => iteE h fun hk h => bindE h fun i hi h => mapE h fun e h1 e' => ?_) fun hu h => bindE h fun tg ht h => mapE h fun e h1 e' => ?_
  · refine bindE (o := ev g loc e H) (ex_of e' hv) fun w k1 hv => bindE hv fun q k2 hz => iteP k2 fun _ k2 => ?_
    obtain ⟨r, e1, cu⟩ := cu_sound hn G eo hu h1 k1
    refine ss_of hz ?_
    rw [← Option.some.inj k2, e1]
    exact ss_asgC eo (by rw [swaps_used eo h1, hu]) (eq_of_beq hk) hi cu
  · exact bindE (o := ev g loc e H) (ex_of e' hv) fun w k1 hv => bindE hv fun q k2 hz => ss_of hz <| ss_asg eo rfl (by rw [show ∀ (t v : PySem.Expr) (l : Nat), swapsWithSole [t] v l env = swapsWith v (some t) l env from fun _ _ _ => rfl, swaps_used eo h1, hu]) rfl ht ((tr_sound hn k G eo h1).1 k1) k2
omit hn G eo in
theorem len2 {α β : Type} {i j : α} {l : List β} (h : ([i, j].length == l.length) = true) : ∃ u w, l = [u, w] := by
  match l, h with
  | [u, w], _ => exact ⟨u, w, rfl⟩
omit hn G eo in
theorem tgt2 {i j : Nat} {v : V} {loc : List (Option V)} {H : List O} {q : List (Option V) × List O} (h : tgt (.tup [i, j]) v loc H = some q) : ∃ u w, v = .p (.tup [u, w]) ∧ some ((loc.set i (some (.p u))).set j (some (.p w)), H) = some q :=
  bindE h fun ps hp h => iteE h fun hk h => andE hk fun t1 _ => by
    obtain ⟨u, w, rfl⟩ := len2 t1
    exact ⟨u, w, tup_eq hp, h⟩
omit hn G eo in
theorem slot_of {x : Str} {p : Pos} {i : Nat} (h : nmSlot c (.Name x p) = some i) : c.slot x = some i := iteP h fun _ h => h
omit hn G eo in
theorem slots2 {x y : Str} {p q tp : Pos} {k : Nat} {tg : Tg} (h : tgtOf c (.Tuple [.Name x p, .Name y q] k tp) = some tg) : ∃ i j, some (.tup [i, j]) = some tg ∧ c.slot x = some i ∧ c.slot y = some j :=
  mapE h fun l hl e => by
    obtain ⟨i, l2, s1, s2, rfl⟩ := seqO_cons hl
    obtain ⟨j, l3, s3, s4, rfl⟩ := seqO_cons s2
    cases s4
    exact ⟨i, j, e, slot_of s1, slot_of s3⟩
omit hn G eo in
theorem two_ex {α : Type} {l : List α} {w : α × α} (h : two l = some w) : ∃ a b, l = [a, b] := ⟨_, _, two_eq h⟩
theorem sa_swap {ts vs : List PySem.Expr} {i0 j0 : Nat} {p0 q0 : Pos} (hc : (twoNames c ts && plainS vs && !(vs.all (foldedForSure 8)) && !(vs.all (constantsAlone 8))) = true) (h : ((two vs).bind fun _ => (tgtOf c (.Tuple ts i0 p0)).bind fun g => (tgL g).bind fun l => (tr c k (.Tuple vs j0 q0)).map fun e => T.asgS l e) = some t) :
    SSd X n c env g (.Assign [.Tuple ts i0 p0] (.Tuple vs j0 q0) pos) t := by
  refine andE hc fun hc c7 => andE hc fun hc c6 => andE hc fun c5 c3 => bindE h fun w hw h => ?_
  obtain ⟨x, p, y, q, rfl, d1, d2, d3, d4⟩ := twoNames_spec c5
  obtain ⟨v1, v2, rfl⟩ := two_ex hw
  refine bindE h fun tg htg h => bindE h fun l hl h => mapE h fun e h1 e' => ?_
  obtain ⟨i, j, et, hi, hj⟩ := slots2 htg
  rw [← Option.some.inj et] at hl
  intro loc H z hv
  refine bindE (o := ev g loc e H) (ex_of e' hv) fun w k1 hv => bindE hv fun r k2 hz => ss_of hz ?_
  rw [← Option.some.inj hl] at k2
  obtain ⟨u1, u2, ew, er⟩ := tgt2 k2
  rw [← Option.some.inj er]
  have k3 : SE X (n + 1) c env _ loc H w.1 w.2 := (tr_sound hn k G eo h1).1 k1
  rw [ew] at k3
  show SS X (n + 1) c env (.Assign [.Tuple [.Name x p, .Name y q] i0 p0] (.Tuple [v1, v2] j0 q0) pos) loc H (.next, (loc.set i (some (.p u1))).set j (some (.p u2)), w.2)
  refine @ss_asgS X (n + 1) c env loc H x y p q p0 pos i0 (.Tuple [v1, v2] j0 q0) i j u1 u2 w.2 eo rfl (swap_two eo d3 d4 d1 d2 c3 (nt c6) (nt c7)) d3 d4 hi hj d1 ?_
  exact k3
theorem sa_tup {ts : List PySem.Expr} {i : Nat} {p : Pos} {v : PySem.Expr} (h : asgT c (tr c k) (.Tuple ts i p) ts v = some t) : SSd X n c env g (.Assign [.Tuple ts i p] v pos) t := by
  unfold asgT at h
  cases e : tupE v with
  | some vs =>
    rw [e] at h
    obtain ⟨j, q, rfl⟩ := tupE_eq e
    exact iteE h fun hc h => sa_swap hn G eo hc h
  | none =>
    rw [e] at h
    intro loc H z hv
    refine iteE h fun hc h => bindE h fun tg ht h => mapE h fun x h1 e' => ?_
    exact bindE (o := ev g loc x H) (ex_of e' hv) fun w k1 hv => bindE hv fun q k2 hz => ss_of hz <| ss_asg eo rfl (swaps_no (env := env) (nt hc) (some (.Tuple ts i p)) pos.line) (swap_none e) ht ((tr_sound hn k G eo h1).1 k1) k2
theorem sa_one {tg v : PySem.Expr} (h : asg1 c (tr c k) tg v = some t) : SSd X n c env g (.Assign [tg] v pos) t := by
  have ie : SndE X n fa g k := tr_sound hn k
  cases tg with
  | Name x px => exact sa_name hn G eo h
  | Tuple ts i p => exact sa_tup hn G eo h
  | Subscript o i p =>
    intro loc H z hv
    refine iteE h fun hc h => andE hc fun _ hc => bindE h fun e h1 h => bindE h fun o h2 h => mapE h fun i h3 e' => ?_
    exact bindE (o := ev g loc e H) (ex_of e' hv) fun x k1 hv => bindE hv fun y k2 hv => bindE hv fun w k3 hv => bindE hv fun a ha hv => bindE hv fun r hr hv => bindE hv fun j hj hv => bindE hv fun l k4 hv => iteE hv fun hk hz => andE hk fun t1 t2 =>
      ss_of hz <| ss_asgI (swaps_no (nt hc) _ _) (se_pl ha ((ie G eo h1).1 k1)) (se_rf hr ((ie G eo h2).1 k2)) (se_int hj ((ie G eo h3).1 k3)) k4 (of_decide_eq_true t2).1 (of_decide_eq_true t2).2 t1
  | Attribute o a p =>
    intro loc H z hv
    refine iteE h fun hc h => andE hc fun hc1 hc2 => bindE h fun e h1 h => mapE h fun o h2 e' => ?_
    exact bindE (o := ev g loc e H) (ex_of e' hv) fun x k1 hv => bindE hv fun y k2 hv => bindE hv fun b hb hv => bindE hv fun r hr hv => bindE hv fun fs k4 hv => iteE hv fun hk hz =>
      ss_of hz <| ss_asgF G.cls (G.fld _ (List.contains_iff_mem.mp hc2)) (swaps_no (nt hc1) _ _) (se_pl hb ((ie G eo h1).1 k1)) (se_ob hr ((ie G eo h2).1 k2)) k4 (of_decide_eq_true hk)
  | _ => first | exact no h | exact nob h | cases h
theorem sa_all {ts : List PySem.Expr} {v : PySem.Expr} (h : asgA c (tr c k) ts v = some t) : SSd X n c env g (.Assign ts v pos) t := by
  cases ts with
  | nil => first | exact no h | exact nob h | cases h
  | cons a ts =>
    cases ts with
    | nil => exact sa_one hn G eo h
    | cons b ts =>
      intro loc H z hv
      refine iteE h fun hc h => bindE h fun l hl h => mapE h fun e h1 e' => ?_
      exact bindE (o := ev g loc e H) (ex_of e' hv) fun x k1 hv => iteE hv fun _ hz => ss_of hz <| ss_asgM eo hl ((tr_sound hn k G eo h1).1 k1)
omit hn G eo in
theorem isAdd_eq {o : BOp} {u : Unit} (h : isAdd o = some u) : o = .add := by cases o <;> first | rfl | exact no h | exact nob h | cases h
theorem sa_aug {tg v : PySem.Expr} {o : Operator} (h : augX c (tr c k) tg o v = some t) : SSd X n c env g (.AugAssign tg o v pos) t := by
  intro loc H z hv
  refine bindE h fun x h0 h => iteE h fun hk h => bindE h fun o' ho h => bindE h fun i hi h => mapE h fun e h1 e' => ?_
  obtain ⟨p, rfl⟩ := nameE_eq h0
  refine bindE (o := (loc[i]?).join) (ex_of e' hv) fun w hl hv => bindE hv fun x k1 hv => bindE hv fun _ h2 hv => bindE hv fun a ha hv => bindE hv fun b hb hv => bindE hv fun r k2 hv => bindE hv fun q k3 hz => iteP k3 fun _ k3 => ss_of hz ?_
  rw [← Option.some.inj k3, (bop_inv ho).trans (congrArg opB (isAdd_eq h2))]
  exact ss_aug eo (eq_of_beq hk) hi ((join_eq hl).trans (by rw [pl_eq ha])) (se_pl hb ((tr_sound hn k G eo h1).1 k1)) k2
end
theorem trS_sound (hn : nsIn X.K cStatics sharingNotToldKey = some none) (k : Nat) : SndS X n fa g k := by
  induction k with
  | zero => intro c env st t _ _ h; cases h
  | succ k ih =>
    intro c env st t G eo h
    have ie : SndE X n fa g k := tr_sound hn k
    cases st with
    | Assign ts v p => exact sa_all hn G eo h
    | AugAssign tg o v p => exact sa_aug hn G eo h
    | Expr v p =>
      intro loc H z hv
      refine iteE h fun hc h => mapE h fun e h1 e' => ?_
      exact bindE (o := ev g loc e H) (ex_of e' hv) fun x k1 hv => bindE hv fun _ h2 hz => ss_of hz <| ss_ex eo (swaps_no (nt hc) _ _) (se_nn h2 ((ie G eo h1).1 k1))
    | If c a b p =>
      intro loc H z hv
      refine bindE h fun t' h1 h => bindE h fun a h2 h => mapE h fun b h3 e' => ?_
      cases e'
      refine bindE (o := evT g loc t' (ev g loc t' H) H) hv fun d k1 hv => ?_
      obtain ⟨d, H1⟩ := d
      cases d with
      | true => exact ss_if ((ie G eo h1).2 k1) (fun _ => snd_block ih G eo h2 hv) nofun
      | false => exact ss_if ((ie G eo h1).2 k1) nofun fun _ => snd_block ih G eo h3 hv
    | While c b e p =>
      intro loc H z hv
      refine bindE h fun _ h0 h => bindE h fun t' h1 h => mapE h fun b h2 e' => ?_
      rw [nul_eq h0]
      exact ss_whl (fun {loc H b H'} e => (ie G eo h1).2 e) (fun {loc H z} e => snd_block ih G eo h2 e) (ex_of e' hv)
    | For tg it b e p =>
      intro loc H z hv
      refine bindE h fun _ h0 h => iteE h fun hc h => bindE h fun tg' ht h => bindE h fun it' h1 h => mapE h fun b h2 e' => ?_
      rw [nul_eq h0]
      exact bindE (o := ev g loc it' H) (ex_of e' hv) fun x k1 hv => bindE hv fun q k2 hv => ss_for (ps := q.1) (w := q.2) eo (nt hc) ht ((ie G eo h1).1 k1) k2 (fun {loc H z} e => snd_block ih G eo h2 e) hv
    | Return o p =>
      intro loc H z hv
      refine bindE h fun e h0 h => mapE h fun x h1 e' => ?_
      rw [h0]
      exact bindE (o := ev g loc x H) (ex_of e' hv) fun y k1 hz => ss_of hz <| ss_ret ((ie G eo h1).1 k1)
    | Break p =>
      intro loc H z hv
      cases h
      cases hv
      exact ss_brk
    | Continue p =>
      intro loc H z hv
      cases h
      cases hv
      exact ss_cont
    | Raise a b p =>
      intro loc H z hv
      cases h
      cases hv
    | _ => first | exact no h | exact nob h | cases h
end
end Mine
end
section
open PySem PySem.W PyProof.Rows PyProof.V
set_option Elab.async false
set_option genSizeOf false
set_option maxRecDepth 20000
namespace Mine
structure FD where
  nm : List Str
  ar : Nat
  dfl : List P
  body : List T
noncomputable def loc0 (F : FD) (vs : List V) : List (Option V) := (vs ++ F.dfl.map V.p).map some ++ List.replicate (F.nm.length - (vs ++ F.dfl.map V.p).length) none
/-- only what comes back is kept -/
noncomputable def tidy (k : Nat) (v : V) (H : List O) : Option (V × List O) := match v with
  | .p x => some (.p x, H.take k)
  | .ref r => if r < k then some (.ref r, H.take k) else (H[r]?).map fun o => (.ref k, H.take k ++ [o])
  | _ => none
noncomputable def runF (g : G) (F : FD) (vs : List V) (H : List O) : Option (V × List O) := if vs.length == F.ar then (exs g F.body (loc0 F vs) H).bind fun z => match z.1 with
    | .ret v => tidy H.length v z.2.2
    | .next => tidy H.length (.p .none) z.2.2
    | _ => none
  else none
structure DefOk (X : Wd) (gl : List (Str × GV)) (ml : List (Str × Nat)) (fl : List Str) (F : FD) (a : Addr) (fd : FuncData) (body : List Stmt) : Prop where
  at_ : ∃ oc od osl, X.K.lookup a = some ⟨oc, od, .func fd, osl⟩
  code : codeIn X.K fd.code fd.qualname = true
  bd : fd.body = .stmts body
  tr : ∃ k, trB ⟨F.nm, fd.scope, gl, ml, fl⟩ k body = some F.body
  kind : fd.scope.kind = .function
  co : fd.scope.isCoroutine = false
  gen : fd.scope.isGenerator = false
  gl : fd.globals = mainGlobals
  bi : fd.builtins = builtinsNs
  cell : ∀ x ∈ fd.scope.names, x.2 ≠ .cell
  nd : F.nm.Nodup
  len : F.ar + F.dfl.length ≤ F.nm.length
  loc : ∀ x ∈ F.nm.take (F.ar + F.dfl.length), fd.scope.names.lookup x = some .local
  bind : ∀ ys : List Value, ys.length = F.ar → ∃ zs, DatAll [] zs (dats F.dfl) ∧ ∀ S, peek X.K S (bindArgs fd ⟨ys, []⟩) = some ((F.nm.take (F.ar + F.dfl.length)).zip (ys ++ zs))
section
variable {X : Wd} {n : Nat} {fa : Nat → Addr} {g : G} {h₀ : Heap} {L : Addr} {m : Str → Option Value} {mu ext imm : List (Addr × Obj)} {H H' : List O} {s : Shared} {A : Around}
theorem St.keepOne (t : St X h₀ L m mu ext imm H s) {k r : Nat} {e : Addr × Obj} {o : O} (hk : k ≤ r) (he : mu[r]? = some e) (ho : H[r]? = some o) : St X h₀ L m (mu.take k ++ [e]) ext imm (H.take k ++ [o]) s := by
  have sl0 : (mu.take k ++ [e]).Sublist mu := by
    conv => rhs; rw [← List.take_append_drop k mu]
    refine (List.Sublist.refl _).append ?_
    rw [List.singleton_sublist]
    exact List.mem_of_getElem? (i := r - k) (by rw [List.getElem?_drop, Nat.add_sub_cancel' hk]; exact he)
  have sl : (mu.take k ++ [e] ++ (ext ++ imm)).Sublist (mu ++ (ext ++ imm)) := sl0.append (List.Sublist.refl _)
  obtain ⟨e', he', ho'⟩ := t.mr.get ho
  rw [he] at he'
  cases he'
  exact ⟨t.fr, news_sub t.nw fun p hp => sl.subset hp, t.nd.sublist (sl.map _), (t.mr.take k).snoc ho', t.g, t.d, t.os⟩
theorem tidy_ok {mu' imm' : List (Addr × Obj)} {v v' : V} {y : Value} {H₁ : List O} (t : St X h₀ L m mu' ext imm' H₁ s) (gw : Gw mu imm mu' imm') (r : VRel X imm' (mu'.map Prod.fst) v y) (hv : tidy mu.length v H₁ = some (v', H')) :
    ∃ mu2, St X h₀ L m mu2 ext imm' H' s ∧ Gw mu imm mu2 imm' ∧ VRel X imm' (mu2.map Prod.fst) v' y := by
  unfold tidy at hv
  split at hv
  · cases hv
    exact ⟨_, t.trunc mu.length, gw.trunc (Nat.le_refl _), r⟩
  · rename_i q
    split at hv
    · rename_i hlt
      cases hv
      obtain ⟨a, h1, h2⟩ := r
      exact ⟨_, t.trunc mu.length, gw.trunc (Nat.le_refl _), a, by rw [List.map_take, List.getElem?_take_of_lt hlt]; exact h1, h2⟩
    · rename_i hge
      obtain ⟨o, ho, e⟩ := Option.map_eq_some_iff.mp hv
      cases e
      obtain ⟨a, h1, h2⟩ := r
      rw [List.getElem?_map] at h1
      obtain ⟨e, he, rfl⟩ := Option.map_eq_some_iff.mp h1
      refine ⟨_, t.keepOne (by lia) he ho, ?_, e.1, ?_, h2⟩
      · have := gw.trunc (k := mu.length) (Nat.le_refl _)
        exact ⟨by rw [List.map_append]; exact this.ad.trans (List.prefix_append _ _), this.im⟩
      · have hl : (mu'.take mu.length).length = mu.length := by
          rw [List.length_take]
          have := gw.ad.length_le
          simp only [List.length_map] at this
          lia
        rw [List.map_append, List.getElem?_append_right (by rw [List.length_map, hl]; exact Nat.le_refl _), List.length_map, hl, Nat.sub_self]
        rfl
  · cases hv
theorem zip_lookup {l : List Str} {ys : List Value} {i : Nat} {x : Str} (hn : l.Nodup) (hx : l[i]? = some x) (hl : l.length = ys.length) : ∃ y, ys[i]? = some y ∧ (l.zip ys).reverse.lookup x = some y := by
  have key : ∀ {p : List (Str × Value)} {x : Str} {y : Value}, (p.map (·.1)).Nodup → (x, y) ∈ p → p.lookup x = some y := by
    intro p x y
    induction p with
    | nil => simp
    | cons a p ih =>
      intro hn hm
      rw [List.map_cons, List.nodup_cons] at hn
      obtain ⟨k, w⟩ := a
      rw [List.lookup_cons]
      rcases List.mem_cons.mp hm with e | hm
      · cases e; simp
      · have : (x == k) = false := by
          cases h : x == k with
          | false => rfl
          | true => rw [eq_of_beq h] at hm; exact absurd (List.mem_map_of_mem hm) hn.1
        rw [this]
        exact ih hn.2 hm
  have hi : i < ys.length := by rw [← hl]; exact (List.getElem?_eq_some_iff.mp hx).1
  refine ⟨ys[i], by simp [hi], key ?_ ?_⟩
  · rw [List.map_reverse, (List.reverse_perm _).nodup_iff, List.map_fst_zip (by lia)]
    exact hn
  · rw [List.mem_reverse]
    refine List.mem_of_getElem? (i := i) ?_
    rw [List.getElem?_zip_eq_some]
    exact ⟨hx, by simp [hi]⟩
theorem VRs.get {imm ad} : ∀ {vs : List V} {ys : List Value} {i : Nat} {v : V} {y : Value}, VRs X imm ad vs ys → vs[i]? = some v → ys[i]? = some y → VRel X imm ad v y
  | _, _, i, v, y, .nil, h, _ => by simp at h
  | _, _, 0, v, y, .cons a r, h, h' => by simp at h h'; subst h h'; exact a
  | _, _, i + 1, v, y, .cons a r, h, h' => VRs.get r (by simpa using h) (by simpa using h')
theorem VRs.ofDats {imm ad} : ∀ {ps : List P} {zs : List Value}, DatAll [] zs (Mine.dats ps) → VRs X imm ad (ps.map V.p) zs
  | [], _, .nil => .nil
  | _ :: _, _, .cons a r => .cons (dat0 a) (VRs.ofDats r)
theorem VRs.len' {imm ad} {vs : List V} {ys : List Value} (h : VRs X imm ad vs ys) : ys.length = vs.length := by
  induction h with
  | nil => rfl
  | cons _ _ ih => simp [ih]
theorem call_ok {gl : List (Str × GV)} {ml : List (Str × Nat)} {fl : List Str} (hn : nsIn X.K cStatics sharingNotToldKey = some none) (G : GOk X fa gl ml fl g n) {F : FD} {a : Addr} {fd : FuncData} {body : List Stmt} (D : DefOk X gl ml fl F a fd body) {vs : List V} {v : V} (hv : runF g F vs H = some (v, H')) :
    CallS X (n + 2) a vs H v H' := by
  intro A h₀ L m mu ext imm s ys R Rm I t tk rs hR
  unfold runF at hv
  split at hv
  rotate_left
  · cases hv
  rename_i har
  have har : vs.length = F.ar := eq_of_beq har
  obtain ⟨z, hz, hv⟩ := Option.bind_eq_some_iff.mp hv
  obtain ⟨oc, od, osl, ho⟩ := D.at_
  obtain ⟨k, htr⟩ := D.tr
  have hys : ys.length = F.ar := by rw [rs.len', har]
  obtain ⟨zs, hzs, hb⟩ := D.bind ys hys
  have KI := I.k.keeps t.fr.keep
  have hzl : zs.length = F.dfl.length := by rw [hzs.length, dats_len]
  have hyz : (ys ++ zs).length = F.ar + F.dfl.length := by rw [List.length_append, hys, hzl]
  have hnl : (F.nm.take (F.ar + F.dfl.length)).length = F.ar + F.dfl.length := by rw [List.length_take]; exact Nat.min_eq_left D.len
  obtain ⟨gd, k1, k2, k3, k4, k5⟩ := ground t.fr t.nw
  have Ig : X.In gd := I.keeps k1
  refine codeAny_call_def (fd := fd) (body := body) (by have := Rm.2.1; lia) (KI _ _ ho) rfl (I.t.nolimit.keeps t.fr.keep) (codeRec_of KI D.code) D.bd (kp_binds KI hb) D.cell (fun x hx => ?_) (fun h₁ hns hk => ?_) D.co D.gen D.kind
  · obtain ⟨x1, x2⟩ := x
    exact D.loc _ (List.of_mem_zip hx).1
  · have F1 : Fr gd s.heap.objs.size h₁ (fun x => ((F.nm.take (F.ar + F.dfl.length)).zip (ys ++ zs)).reverse.lookup x) := ⟨hns, fun b o e => hk b o (k3 b o e), Nat.le_of_eq k2⟩
    have t1 : St X gd s.heap.objs.size (fun x => ((F.nm.take (F.ar + F.dfl.length)).zip (ys ++ zs)).reverse.lookup x) mu ext imm H { s with heap := h₁, toks := s.toks + ((F.nm.take (F.ar + F.dfl.length)).zip (ys ++ zs)).length } :=
      ⟨F1, fun p hp => ⟨hk _ _ (t.nw p hp).1, Nat.ne_of_lt (Heap.lt_size (t.nw p hp).1), k4 p hp⟩, t.nd, t.mr, t.g, t.d, t.os⟩
    have eo : EnvOk ⟨F.nm, fd.scope, gl, ml, fl⟩ (callEnv fd s.heap.objs.size a) := ⟨rfl, D.gl, D.bi, D.kind, D.nd⟩
    have rsz : VRs X imm (mu.map Prod.fst) (vs ++ F.dfl.map V.p) (ys ++ zs) := rs.append (VRs.ofDats hzs)
    have lr : LRel X F.nm (callEnv fd s.heap.objs.size a) (fun x => ((F.nm.take (F.ar + F.dfl.length)).zip (ys ++ zs)).reverse.lookup x) imm (mu.map Prod.fst) (loc0 F vs) := by
      intro i u x hi hx
      have hlt : i < F.ar + F.dfl.length := by
        unfold loc0 at hi
        by_cases hlt : i < F.ar + F.dfl.length
        · exact hlt
        · rw [List.getElem?_append_right (by simp [har]; lia)] at hi
          have := List.mem_of_getElem? hi
          rw [List.mem_replicate] at this
          cases this.2
      have hx' : (F.nm.take (F.ar + F.dfl.length))[i]? = some x := by rw [List.getElem?_take_of_lt hlt]; exact hx
      have hu : (vs ++ F.dfl.map V.p)[i]? = some u := by
        unfold loc0 at hi
        rw [List.getElem?_append_left (by simp [har]; lia), List.getElem?_map] at hi
        obtain ⟨w, h1, h2⟩ := Option.map_eq_some_iff.mp hi
        cases h2; exact h1
      have hloc : (callEnv fd s.heap.objs.size a).kindOf x = some .local := D.loc x (List.mem_of_getElem? hx')
      obtain ⟨y, q1, q2⟩ := zip_lookup (ys := ys ++ zs) (D.nd.sublist (List.take_sublist _ _)) hx' (by rw [hnl, hyz])
      refine ⟨fun _ => ⟨y, q2, rsz.get hu q1⟩, fun h => ?_⟩
      rw [hloc] at h
      rcases h with h | h <;> cases h
    have a1 : At X ⟨F.nm, fd.scope, gl, ml, fl⟩ (callEnv fd s.heap.objs.size a) gd _ ext (loc0 F vs) mu imm H { s with heap := h₁, toks := s.toks + ((F.nm.take (F.ar + F.dfl.length)).zip (ys ++ zs)).length } := ⟨t1, Nat.le_trans tk (Nat.le_add_right _ _), lr⟩
    refine snd_block (trS_sound (X := X) (n := n) (fa := fa) (g := g) hn k) (c := ⟨F.nm, fd.scope, gl, ml, fl⟩) (b := body) G eo htr hz (Rm.deeper _) Ig a1 fun m' mu' imm' f s' a' g' r' => ?_
    obtain ⟨F', N'⟩ := k5 _ _ _ _ a'.st.fr a'.st.nw
    have tO : St X h₀ L m mu' ext imm' z.2.2 s' := ⟨F', N', a'.st.nd, a'.st.mr, a'.st.g, a'.st.d, a'.st.os⟩
    have hmu : mu.length = H.length := t.mr.length
    obtain ⟨z1, z2, z3⟩ := z
    cases r' with
    | next =>
      simp only at hv
      rw [← hmu] at hv
      obtain ⟨mu2, t2, g2, r2⟩ := tidy_ok tO g' (v := .p .none) (y := .none) (show DatIn imm' Value.none P.none.dat from .none) hv
      exact hR _ _ _ _ t2 a'.tk g2 r2
    | brk => first | exact no hv | exact nob hv | cases hv
    | cont => first | exact no hv | exact nob hv | cases hv
    | ret hr =>
      simp only at hv
      rw [← hmu] at hv
      obtain ⟨mu2, t2, g2, r2⟩ := tidy_ok tO g' hr hv
      exact hR _ _ _ _ t2 a'.tk g2 r2
/-- a program's functions, nested as deep as need be -/
structure Pg where
  tabs : Nat → List P
  init : Nat
  defs : Nat → Option FD
noncomputable def Pg.lvl (p : Pg) : Nat → G
  | 0 => ⟨p.tabs, p.init, fun _ _ _ => none⟩
  | k + 1 => ⟨p.tabs, p.init, fun f vs H => (p.defs f).bind fun F => runF (p.lvl k) F vs H⟩
structure PgOk (X : Wd) (fa : Nat → Addr) (gl : List (Str × GV)) (ml : List (Str × Nat)) (fl : List Str) (p : Pg) : Prop where
  book : nsIn X.K cStatics sharingNotToldKey = some none
  fld : ∀ x ∈ fl, FldOk X x
  gv : ∀ x v, gl.lookup x = some v → GVOk X fa x v
  meth : ∀ x f, ml.lookup x = some f → MethOk X fa x f
  cls : ClsOk X fa p.init
  tabs : Tabs X p.tabs
  defs : ∀ f F, p.defs f = some F → ∃ fd body, DefOk X gl ml fl F (fa f) fd body
theorem PgOk.lvl {gl ml fl} {p : Pg} (h : PgOk X fa gl ml fl p) : ∀ k, GOk X fa gl ml fl (p.lvl k) (2 * k)
  | 0 => ⟨h.fld, h.gv, h.meth, h.cls, h.tabs, fun _ _ _ _ _ e => nomatch e⟩
  | k + 1 => ⟨h.fld, h.gv, h.meth, h.cls, h.tabs, fun f vs H v H' e => by
      obtain ⟨F, h1, h2⟩ := Option.bind_eq_some_iff.mp e
      obtain ⟨fd, body, D⟩ := h.defs f F h1
      exact call_ok h.book (h.lvl k) D h2⟩
end
end Mine
end
section
open PySem PySem.W PyProof.Rows PyProof.V
set_option Elab.async false
set_option maxRecDepth 20000
namespace Mine
/-! functions one of whose names lives in a cell -/
/-- the heap of a call while its parameters are bound -/
structure BindI (s₀ : Shared) (L c : Addr) (m : Str → Option Value) (cv : Option Value) (s : Shared) : Prop where
  same : ∃ h tk, s = { s₀ with heap := h, toks := tk }
  ns : s.heap.Ns L m
  cell : s.heap.IsCell c cv
  keep : ∀ b o, s₀.heap.get? b = some o → s.heap.get? b = some o
noncomputable def bind1 (kindOf : Str → Option NameKind) : List (Str × Value) → Option Value → Option Value
  | [], v => v
  | (n, v) :: r, cv => bind1 kindOf r (if kindOf n = some .local then cv else some v)
theorem bind_loop {M : Model} {A : Around} {E : Value → Shared → Prop} {s₀ : Shared} {env : Env} {c : Addr} (f : Str × Value → PUnit → Sem (ForInStep PUnit)) (hf : ∀ n v u, f (n, v) u = (do storeName env n v; pure (.yield ⟨⟩))) (hk : env.scope.kind = .function)
    (hc : ∀ n, env.kindOf n = some .cell → env.cells.lookup n = some c) (hLc : env.locals < c) (h0 : s₀.heap.objs.size ≤ env.locals) :
    ∀ (binds : List (Str × Value)) (m : Str → Option Value) (cv : Option Value) (s : Shared) (Q : PUnit → Shared → Prop), BindI s₀ env.locals c m cv s → (∀ x ∈ binds, env.kindOf x.1 = some .local ∨ env.kindOf x.1 = some .cell) →
      (∀ s', BindI s₀ env.locals c (bindL env.kindOf binds m) (bind1 env.kindOf binds cv) s' → s.toks ≤ s'.toks → ((∃ x ∈ binds, env.kindOf x.1 = some .local) → 1 ≤ s'.toks) → Q ⟨⟩ s') → wpAny M A (forIn binds ⟨⟩ f) Q E s := by
  intro binds
  induction binds with
  | nil =>
    intro m cv s Q B _ h
    rw [List.forIn_nil]
    exact wpAny_pure (h s B (Nat.le_refl _) fun ⟨x, hx, _⟩ => nomatch hx)
  | cons x r ih =>
    obtain ⟨n, v⟩ := x
    intro m cv s Q B hkind h
    rw [List.forIn_cons, hf]
    have hr : ∀ y ∈ r, env.kindOf y.1 = some .local ∨ env.kindOf y.1 = some .cell := fun y hy => hkind y (List.mem_cons_of_mem _ hy)
    obtain ⟨h₁, tk, rfl⟩ := B.same
    rcases hkind (n, v) List.mem_cons_self with hl | hl
    · refine wpAny_bind (wpAny_bind (wpAny_storeName_local hl B.ns (fun h' hn hs => wpAny_pure ?_) (by rw [hk]; rfl)))
      refine ih _ cv _ Q ⟨⟨h', _, rfl⟩, hn, B.cell.sameBut hs (Nat.ne_of_gt hLc), fun b o e => ?_⟩ hr fun s' B' ht _ => ?_
      · exact hs.extBut b o (Nat.ne_of_lt (Nat.lt_of_lt_of_le (Heap.lt_size e) h0)) (B.keep b o e)
      · refine h s' ?_ (Nat.le_trans (Nat.le_succ _) ht) fun _ => Nat.le_trans (Nat.le_add_left _ _) ht
        unfold bindL bind1
        rw [if_pos hl, if_pos hl]
        exact B'
    · have hnl : ¬ env.kindOf n = some .local := by rw [hl]; decide
      refine wpAny_bind (wpAny_bind (wpAny_storeName_cell hk hl (hc n hl) B.cell fun h' hc' hs => wpAny_pure ?_))
      refine ih m (some v) _ Q ⟨⟨h', _, rfl⟩, B.ns.sameBut hs (Nat.ne_of_lt hLc), hc', fun b o e => ?_⟩ hr fun s' B' ht h1 => ?_
      · exact hs.extBut b o (Nat.ne_of_lt (Nat.lt_trans (Nat.lt_of_lt_of_le (Heap.lt_size e) h0) hLc)) (B.keep b o e)
      · refine h s' ?_ ht fun ⟨x, hx, hxl⟩ => ?_
        · unfold bindL bind1
          rw [if_neg hnl, if_neg hnl]
          exact B'
        · rcases List.mem_cons.mp hx with rfl | hx
          · exact absurd hxl hnl
          · exact h1 ⟨x, hx, hxl⟩
/-- just one name of a scope lives in a cell -/
structure OneCell (scope : Scope) (x : Str) : Prop where
  from_ : ∀ n, cellsFrom n scope.names [] = [(x, n)]
  push : ∀ h : Heap, pushCells h scope.names = h.push { cls := .type "cell", data := .cell none }
  only : ∀ n, scope.names.lookup n = some .cell → n = x
theorem enter_cell {prog : Program} {w : World} {A : Around} {s : Shared} {R : Result → Shared → Prop} {a : Addr} {o : Obj} {fd : FuncData} {body : List Stmt} {args : Args} {binds : List (Str × Value)} {x : Str}
    (hroom : A.depth < recursionLimit) (ho : s.heap.get? a = some o) (hdata : o.data = .func fd) (hlim : s.heap.NoLimit) (hcd : s.heap.CodeRec fd.code fd.qualname)
    (hbody : fd.body = .stmts body) (hbind : BindsTo s fd args binds) (hclo : fd.closure = []) (hx : OneCell fd.scope x) (hne : ∃ y ∈ binds, fd.scope.names.lookup y.1 = some .local)
    (hkind : ∀ y ∈ binds, fd.scope.names.lookup y.1 = some .local ∨ fd.scope.names.lookup y.1 = some .cell)
    (h : ∀ h₁ tk, 1 ≤ tk → h₁.Ns s.heap.objs.size (bindL (callEnvC fd s.heap.objs.size a).kindOf binds fun _ => none) → h₁.IsCell (s.heap.objs.size + 1) (bind1 (callEnvC fd s.heap.objs.size a).kindOf binds none) →
      (∀ b o, s.heap.get? b = some o → h₁.get? b = some o) →
      wpAny (model prog w) (A.deeper (callEnvC fd s.heap.objs.size a)) (execs body (callEnvC fd s.heap.objs.size a)) (fun f s' => R (.ok (.ret (match f with | .ret v => v | _ => .none))) s')
        (fun e s' => wpAny (model prog w) (A.deeper (callEnvC fd s.heap.objs.size a)) (leaving (callEnvC fd s.heap.objs.size a) e) (fun _ s'' => R (.error e) s'') (fun e' s'' => R (.error e') s'') s') { s with heap := h₁, toks := tk })
    (hco : fd.scope.isCoroutine = false := by rfl) (hgen : fd.scope.isGenerator = false := by rfl) (hk : fd.scope.kind = .function := by rfl) :
    codeAny (model prog w) A (.call (.ref a) args) R s := by
  refine codeAny_call_function hroom ho hdata hco hgen hbody hcd (hbind _ _ _ _ ?_)
  rw [hclo]
  simp only [newFunctionEnv, Option.isSome_none, Bool.false_eq_true, if_false]
  refine wpAny_bind (wpAny_alloc ?_)
  refine wpAny_bind (wpAny_layCells _ (fun name kind cells => by cases hkc : kind == NameKind.cell <;> simp [hkc]) _ _ _ _ ?_)
  have sz : ({ s with heap := s.heap.push { cls := .type "frame", data := .dict #[] } } : Shared).heap.objs.size = s.heap.objs.size + 1 := Heap.size_push ..
  rw [sz, hx.push]
  have keepF : ∀ b o, s.heap.get? b = some o → ((s.heap.push { cls := .type "frame", data := .dict #[] }).push { cls := .type "cell", data := .cell none }).get? b = some o := fun b o e => Heap.get?_push_of_some _ (Heap.get?_push_of_some _ e)
  have hcell : ∀ n, (callEnvC fd s.heap.objs.size a).kindOf n = some .cell → (callEnvC fd s.heap.objs.size a).cells.lookup n = some (s.heap.objs.size + 1) := fun n hn => by
    have hn' : fd.scope.names.lookup n = some .cell := hn
    obtain rfl := hx.only n hn'
    show (cellsFrom (s.heap.objs.size + 1) fd.scope.names []).lookup n = _
    rw [hx.from_]
    simp
  have hc0 : ((s.heap.push { cls := .type "frame", data := .dict #[] }).push { cls := .type "cell", data := .cell none }).IsCell (s.heap.objs.size + 1) none := by
    refine ⟨{ cls := .type "cell", data := .cell none }, ?_, rfl⟩
    have := Heap.get?_push_size (s.heap.push { cls := .type "frame", data := .dict #[] }) (o := { cls := .type "cell", data := .cell none }) rfl
    rwa [Heap.size_push] at this
  refine wpAny_bind (bind_loop (s₀ := s) (env := callEnvC fd s.heap.objs.size a) (c := s.heap.objs.size + 1) _ (fun _ _ _ => rfl) hk hcell (Nat.lt_succ_self _) (Nat.le_refl _) binds (fun _ => none) none _ _
    ⟨⟨_, _, rfl⟩, (Heap.Ns.new s.heap (.type "frame")).keeps fun b o e => Heap.get?_push_of_some _ e, hc0, keepF⟩ hkind fun s' B' _ ht => ?_)
  refine wpAny_pure ⟨hlim.keeps B'.keep, codeAny_func ?_⟩
  obtain ⟨h₁, tk, rfl⟩ := B'.same
  exact h h₁ tk (ht hne) B'.ns B'.cell B'.keep
/-- a name's value among the parameters -/
theorem bindL_get {kindOf : Str → Option NameKind} : ∀ {binds : List (Str × Value)} {m : Str → Option Value} {x : Str} {v : Value}, (binds.map (·.1)).Nodup → (x, v) ∈ binds → kindOf x = some .local → bindL kindOf binds m x = some v
  | [], _, _, _, _, h, _ => nomatch h
  | (n, u) :: r, m, x, v, hn, h, hk => by
    rw [List.map_cons, List.nodup_cons] at hn
    unfold bindL
    rcases List.mem_cons.mp h with e | h
    · cases e
      rw [if_pos hk]
      have key : ∀ (r : List (Str × Value)) (m : Str → Option Value), n ∉ r.map (·.1) → bindL kindOf r m n = m n := by
        intro r
        induction r with
        | nil => intro m _; rfl
        | cons y r ih =>
          intro m hx
          rw [List.map_cons, List.mem_cons, not_or] at hx
          unfold bindL
          rw [ih _ hx.2]
          split
          · exact if_neg hx.1
          · rfl
      rw [key r _ hn.1, if_pos rfl]
    · exact bindL_get hn.2 h hk
theorem bind1_get {kindOf : Str → Option NameKind} {x : Str} {v : Value} : ∀ {binds : List (Str × Value)} {cv : Option Value}, (x, v) ∈ binds → kindOf x ≠ some .local → (∀ y ∈ binds, kindOf y.1 ≠ some .local → y = (x, v)) → bind1 kindOf binds cv = some v
  | [], _, h, _, _ => nomatch h
  | (n, u) :: r, cv, h, hk, ho => by
    have keep : ∀ (r : List (Str × Value)), (∀ y ∈ r, kindOf y.1 ≠ some .local → y = (x, v)) → bind1 kindOf r (some v) = some v := by
      intro r
      induction r with
      | nil => intro _; rfl
      | cons y r ih =>
        intro hy
        unfold bind1
        split
        · exact ih fun z hz => hy z (.tail _ hz)
        · rename_i hl
          have := hy _ (.head _) hl
          have hv : y.2 = v := by rw [this]
          rw [hv]
          exact ih fun z hz => hy z (.tail _ hz)
    unfold bind1
    rcases List.mem_cons.mp h with e | h
    · cases e
      rw [if_neg hk]
      exact keep r fun y hy => ho y (.tail _ hy)
    · exact bind1_get h hk fun y hy => ho y (.tail _ hy)
theorem bind1_none {kindOf : Str → Option NameKind} : ∀ {binds : List (Str × Value)} {cv : Option Value}, (∀ y ∈ binds, kindOf y.1 = some .local) → bind1 kindOf binds cv = cv
  | [], _, _ => rfl
  | (n, u) :: r, cv, h => by
    unfold bind1
    rw [if_pos (h _ (.head _))]
    exact bind1_none fun y hy => h y (.tail _ hy)
/-- a function, the parameter that a cell bears, if any -/
structure FC where
  F : FD
  ci : Option Nat
noncomputable def locC (F : FD) (vs : List V) (i r : Nat) : List (Option V) := (loc0 F vs).set i (some (.ref r))
noncomputable def runC (g : G) (c : FC) (vs : List V) (H : List O) : Option (V × List O) := match c.ci with
  | none => runF g c.F vs H
  | some i => if vs.length == c.F.ar then match vs[i]? with
      | some (.p x) => (exs g c.F.body (locC c.F vs i H.length) (H ++ [.cell (some x)])).bind fun z => match z.1 with
        | .ret v => tidy H.length v z.2.2
        | .next => tidy H.length (.p .none) z.2.2
        | _ => none
      | _ => none
    else none
structure DefOkC (X : Wd) (gl : List (Str × GV)) (ml : List (Str × Nat)) (fl : List Str) (F : FD) (i : Nat) (x : Str) (a : Addr) (fd : FuncData) (body : List Stmt) : Prop where
  at_ : ∃ oc od osl, X.K.lookup a = some ⟨oc, od, .func fd, osl⟩
  code : codeIn X.K fd.code fd.qualname = true
  bd : fd.body = .stmts body
  tr : ∃ k, trB ⟨F.nm, fd.scope, gl, ml, fl⟩ k body = some F.body
  kind : fd.scope.kind = .function
  co : fd.scope.isCoroutine = false
  gen : fd.scope.isGenerator = false
  gl : fd.globals = mainGlobals
  bi : fd.builtins = builtinsNs
  clo : fd.closure = []
  cell : OneCell fd.scope x
  xc : fd.scope.names.lookup x = some .cell
  nd : F.nm.Nodup
  len : F.ar ≤ F.nm.length
  dfl : F.dfl = []
  xi : F.nm[i]? = some x
  ilt : i < F.ar
  loc : ∀ j y, j < F.ar → j ≠ i → F.nm[j]? = some y → fd.scope.names.lookup y = some .local
  two : ∃ j, j < F.ar ∧ j ≠ i
  bind : ∀ ys : List Value, ys.length = F.ar → ∀ S, peek X.K S (bindArgs fd ⟨ys, []⟩) = some ((F.nm.take F.ar).zip ys)
section
variable {X : Wd} {n : Nat} {fa : Nat → Addr} {g : G} {H H' : List O}
theorem zip_nodup {α β : Type} {l : List α} {ys : List β} (h : l.Nodup) : ((l.zip ys).map (·.1)).Nodup := by
  have key : ∀ (l : List α) (ys : List β), ((l.zip ys).map (·.1)).Sublist l := by
    intro l
    induction l with
    | nil => intro ys; simp
    | cons a r ih =>
      intro ys
      cases ys with
      | nil => simp
      | cons b q => exact (ih q).cons_cons a
  exact h.sublist (key l ys)
theorem call_okC {gl : List (Str × GV)} {ml : List (Str × Nat)} {fl : List Str} (hn : nsIn X.K cStatics sharingNotToldKey = some none) (G : GOk X fa gl ml fl g n) {F : FD} {i : Nat} {x : Str} {a : Addr} {fd : FuncData} {body : List Stmt} (D : DefOkC X gl ml fl F i x a fd body) {vs : List V} {v : V} (hv : runC g ⟨F, some i⟩ vs H = some (v, H')) :
    CallS X (n + 2) a vs H v H' := by
  intro A h₀ L m mu ext imm s ys R Rm I t tk rs hR
  unfold runC at hv
  simp only at hv
  split at hv
  rotate_left
  · cases hv
  rename_i har
  have har : vs.length = F.ar := eq_of_beq har
  split at hv
  rotate_left
  · cases hv
  rename_i p hp
  obtain ⟨z, hz, hv⟩ := Option.bind_eq_some_iff.mp hv
  obtain ⟨oc, od, osl, ho⟩ := D.at_
  obtain ⟨k, htr⟩ := D.tr
  have hys : ys.length = F.ar := by rw [rs.len', har]
  have hb := D.bind ys hys
  have KI := I.k.keeps t.fr.keep
  have hnl : (F.nm.take F.ar).length = F.ar := by rw [List.length_take]; exact Nat.min_eq_left D.len
  have hbl : (F.nm.take F.ar).length = ys.length := by rw [hnl, hys]
  obtain ⟨gd, k1, k2, k3, k4, k5⟩ := ground t.fr t.nw
  have Ig : X.In gd := I.keeps k1
  let bn := (F.nm.take F.ar).zip ys
  have hnd : (bn.map (·.1)).Nodup := zip_nodup (D.nd.sublist (List.take_sublist _ _))
  -- the j-th parameter
  have par : ∀ j y, j < F.ar → F.nm[j]? = some y → ∃ u, ys[j]? = some u ∧ (y, u) ∈ bn := fun j y hj hy => by
    have hj' : j < ys.length := by lia
    refine ⟨ys[j], List.getElem?_eq_getElem hj', List.mem_of_getElem? (i := j) ?_⟩
    rw [List.getElem?_zip_eq_some]
    exact ⟨by rw [List.getElem?_take_of_lt hj]; exact hy, List.getElem?_eq_getElem hj'⟩
  have kindB : ∀ y ∈ bn, ∃ j, j < F.ar ∧ F.nm[j]? = some y.1 ∧ ys[j]? = some y.2 := fun y hy => by
    obtain ⟨j, hj⟩ := List.getElem?_of_mem hy
    rw [List.getElem?_zip_eq_some] at hj
    have hlt : j < F.ar := by
      have := (List.getElem?_eq_some_iff.mp hj.1).1
      lia
    exact ⟨j, hlt, by rw [List.getElem?_take_of_lt hlt] at hj; exact hj.1, hj.2⟩
  obtain ⟨u, hu, hxu⟩ := par i x D.ilt D.xi
  have hnotloc : fd.scope.names.lookup x ≠ some .local := by rw [D.xc]; decide
  have ru : DatIn imm u p.dat := rs.get hp hu
  refine enter_cell (fd := fd) (body := body) (x := x) (binds := bn) (by have := Rm.2.1; lia) (KI _ _ ho) rfl (I.t.nolimit.keeps t.fr.keep) (codeRec_of KI D.code) D.bd (kp_binds KI hb) D.clo D.cell ?_ (fun y hy => ?_) (fun h₁ tk1 htk hns hcell hk => ?_) D.co D.gen D.kind
  · obtain ⟨j, hj, hji⟩ := D.two
    obtain ⟨w, hw⟩ : ∃ w, F.nm[j]? = some w := ⟨_, List.getElem?_eq_getElem (by have := D.len; lia)⟩
    obtain ⟨u', _, hm⟩ := par j w hj hw
    exact ⟨_, hm, D.loc j w hj hji hw⟩
  · obtain ⟨j, hj, h1, _⟩ := kindB y hy
    by_cases hji : j = i
    · subst hji
      rw [D.xi] at h1
      cases h1
      exact .inr D.xc
    · exact .inl (D.loc j _ hj hji h1)
  · have F1 : Fr gd s.heap.objs.size h₁ (bindL (callEnvC fd s.heap.objs.size a).kindOf bn fun _ => none) := ⟨hns, fun b o e => hk b o (k3 b o e), Nat.le_of_eq k2⟩
    have hcv : bind1 (callEnvC fd s.heap.objs.size a).kindOf bn none = some u := by
      refine bind1_get hxu hnotloc fun y hy hyn => ?_
      obtain ⟨j, hj, h1, h2⟩ := kindB y hy
      have : j = i := by
        by_cases hji : j = i
        · exact hji
        · exact absurd (D.loc j _ hj hji h1) hyn
      subst this
      rw [D.xi] at h1
      rw [hu] at h2
      cases h1; cases h2; rfl
    rw [hcv] at hcell
    obtain ⟨co, hco1, hco2⟩ := hcell
    have hgnone : gd.get? (s.heap.objs.size + 1) = none := by
      cases q : gd.get? (s.heap.objs.size + 1) with
      | none => rfl
      | some o' => have := Heap.lt_size q; rw [k2] at this; exact absurd this (Nat.not_lt.mpr (Nat.le_succ _))
    let s1 : Shared := { s with heap := h₁, toks := tk1 }
    have lt0 : ∀ q ∈ mu ++ (ext ++ imm), q.1 < s.heap.objs.size := t.lt
    have N0 : News gd s.heap.objs.size h₁ (mu ++ (ext ++ imm)) := fun q hq => ⟨hk _ _ (t.nw q hq).1, Nat.ne_of_lt (lt0 q hq), k4 q hq⟩
    have t1 : St X gd s.heap.objs.size (bindL (callEnvC fd s.heap.objs.size a).kindOf bn fun _ => none) mu ext imm H s1 := ⟨F1, N0, t.nd, t.mr, t.g, t.d, t.os⟩
    have N1 : News gd s.heap.objs.size h₁ ((s.heap.objs.size + 1, co) :: (mu ++ (ext ++ imm))) := fun q hq => by
      rcases List.mem_cons.mp hq with rfl | hq
      · exact ⟨hco1, by simp, hgnone⟩
      · exact N0 q hq
    have t2 : St X gd s.heap.objs.size (bindL (callEnvC fd s.heap.objs.size a).kindOf bn fun _ => none) (mu ++ [(s.heap.objs.size + 1, co)]) ext imm (H ++ [.cell (some p)]) s1 :=
      t1.addM F1 N1 (fun q hq => Nat.lt_succ_of_lt (lt0 q hq)) (.cellS hco2 ru) tk1
    have eo : EnvOk ⟨F.nm, fd.scope, gl, ml, fl⟩ (callEnvC fd s.heap.objs.size a) := ⟨rfl, D.gl, D.bi, D.kind, D.nd⟩
    have hmu : mu.length = H.length := t.mr.length
    have rs2 : VRs X imm ((mu ++ [(s.heap.objs.size + 1, co)]).map Prod.fst) vs ys := by
      have gwm : Gw mu imm (mu ++ [(s.heap.objs.size + 1, co)]) imm := gw_mu
      exact rs.gw gwm
    have lr : LRel X F.nm (callEnvC fd s.heap.objs.size a) (bindL (callEnvC fd s.heap.objs.size a).kindOf bn fun _ => none) imm ((mu ++ [(s.heap.objs.size + 1, co)]).map Prod.fst) (locC F vs i H.length) := by
      intro j u' y hj hy
      by_cases hji : j = i
      · subst hji
        rw [D.xi] at hy
        cases hy
        have hlen : j < (loc0 F vs).length := by
          have := (List.getElem?_eq_some_iff.mp hj).1
          simpa [locC] using this
        have hu' : u' = .ref H.length := by
          unfold locC at hj
          rw [List.getElem?_set_self hlen] at hj
          cases hj; rfl
        subst hu'
        refine ⟨fun h => absurd h hnotloc, fun _ => ⟨H.length, s.heap.objs.size + 1, rfl, ?_, ?_⟩⟩
        · show (cellsFrom (s.heap.objs.size + 1) fd.scope.names []).lookup _ = _
          rw [D.cell.from_]
          simp
        · rw [← hmu]
          simp
      · unfold locC at hj
        rw [List.getElem?_set_ne (Ne.symm hji)] at hj
        have hlt : j < F.ar := by
          unfold loc0 at hj
          by_cases hlt : j < F.ar
          · exact hlt
          · rw [D.dfl, List.map_nil, List.append_nil, List.getElem?_append_right (by simp [har]; lia)] at hj
            have := List.mem_of_getElem? hj
            rw [List.mem_replicate] at this
            cases this.2
        have hvj : vs[j]? = some u' := by
          unfold loc0 at hj
          rw [D.dfl, List.map_nil, List.append_nil, List.getElem?_append_left (by simp [har]; omega), List.getElem?_map] at hj
          obtain ⟨w, h1, h2⟩ := Option.map_eq_some_iff.mp hj
          cases h2; exact h1
        have hloc : (callEnvC fd s.heap.objs.size a).kindOf y = some .local := D.loc j y hlt hji hy
        obtain ⟨yv, hyv, hm⟩ := par j y hlt hy
        refine ⟨fun _ => ⟨yv, bindL_get hnd hm hloc, rs2.get hvj hyv⟩, fun h => ?_⟩
        rw [hloc] at h
        rcases h with h | h <;> cases h
    have a1 : At X ⟨F.nm, fd.scope, gl, ml, fl⟩ (callEnvC fd s.heap.objs.size a) gd _ ext (locC F vs i H.length) (mu ++ [(s.heap.objs.size + 1, co)]) imm (H ++ [.cell (some p)]) s1 := ⟨t2, htk, lr⟩
    refine snd_block (trS_sound (X := X) (n := n) (fa := fa) (g := g) hn k) (c := ⟨F.nm, fd.scope, gl, ml, fl⟩) (b := body) G eo htr hz (Rm.deeper _) Ig a1 fun m' mu' imm' f s' a' g' r' => ?_
    obtain ⟨F', N'⟩ := k5 _ _ _ _ a'.st.fr a'.st.nw
    have tO : St X h₀ L m mu' ext imm' z.2.2 s' := ⟨F', N', a'.st.nd, a'.st.mr, a'.st.g, a'.st.d, a'.st.os⟩
    have gO : Gw mu imm mu' imm' := (gw_mu (a := (s.heap.objs.size + 1, co))).trans g'
    obtain ⟨z1, z2, z3⟩ := z
    cases r' with
    | next =>
      simp only at hv
      rw [← hmu] at hv
      obtain ⟨mu2, t2, g2, r2⟩ := tidy_ok tO gO (v := .p .none) (y := .none) (show DatIn imm' Value.none P.none.dat from .none) hv
      exact hR _ _ _ _ t2 a'.tk g2 r2
    | brk => first | exact no hv | exact nob hv | cases hv
    | cont => first | exact no hv | exact nob hv | cases hv
    | ret hr =>
      simp only at hv
      rw [← hmu] at hv
      obtain ⟨mu2, t2, g2, r2⟩ := tidy_ok tO gO hr hv
      exact hR _ _ _ _ t2 a'.tk g2 r2
end
end Mine
end
section
open PySem PySem.W PyProof.Rows PyProof.V
set_option Elab.async false
set_option maxRecDepth 20000
namespace Mine
structure PgC where
  tabs : Nat → List P
  init : Nat
  defs : Nat → Option FC
noncomputable def PgC.lvl (p : PgC) : Nat → G
  | 0 => ⟨p.tabs, p.init, fun _ _ _ => none⟩
  | k + 1 => ⟨p.tabs, p.init, fun f vs H => (p.defs f).bind fun c => runC (p.lvl k) c vs H⟩
structure PgOkC (X : Wd) (fa : Nat → Addr) (gl : List (Str × GV)) (ml : List (Str × Nat)) (fl : List Str) (p : PgC) : Prop where
  book : nsIn X.K cStatics sharingNotToldKey = some none
  fld : ∀ x ∈ fl, FldOk X x
  gv : ∀ x v, gl.lookup x = some v → GVOk X fa x v
  meth : ∀ x f, ml.lookup x = some f → MethOk X fa x f
  cls : ClsOk X fa p.init
  tabs : Tabs X p.tabs
  defs : ∀ f c, p.defs f = some c → (c.ci = none ∧ ∃ fd body, DefOk X gl ml fl c.F (fa f) fd body) ∨ ∃ i x fd body, c.ci = some i ∧ DefOkC X gl ml fl c.F i x (fa f) fd body
theorem PgOkC.lvl {X : Wd} {fa : Nat → Addr} {gl ml fl} {p : PgC} (h : PgOkC X fa gl ml fl p) : ∀ k, GOk X fa gl ml fl (p.lvl k) (2 * k)
  | 0 => ⟨h.fld, h.gv, h.meth, h.cls, h.tabs, fun _ _ _ _ _ e => nomatch e⟩
  | k + 1 => ⟨h.fld, h.gv, h.meth, h.cls, h.tabs, fun f vs H v H' e => by
      obtain ⟨⟨F, ci⟩, h1, h2⟩ := Option.bind_eq_some_iff.mp e
      rcases h.defs f _ h1 with ⟨hc, fd, body, D⟩ | ⟨i, x, fd, body, hc, D⟩
      · simp only at hc D
        subst hc
        exact call_ok h.book (h.lvl k) D h2
      · simp only at hc D
        subst hc
        exact call_okC h.book (h.lvl k) D h2⟩
end Mine
end
section
open PySem PySem.W PyProof.Rows
set_option Elab.async false
set_option maxRecDepth 100000
set_option maxHeartbeats 8000000
namespace Mine
noncomputable abbrev pF : Program := PySem.Challenge.pw_ku0010_02
theorem pF_eq : PySem.Challenge.pw_ku0010_02 = pF := rfl
noncomputable abbrev fImp := @PySem.W.Fast.tw10274390034422433532
noncomputable abbrev fStart := @PySem.W.Fast.tw1435165496053646825
noncomputable abbrev fTab := PySem.W.Fast.tw14364793385576792824
noncomputable abbrev fTopGo := @PySem.W.Fast.tw15667345088766844465
noncomputable abbrev fTopRun := @PySem.W.Fast.tw14082659384304107361
noncomputable abbrev fSegRun := @PySem.W.Fast.tw14374325043358763698
noncomputable abbrev fSegRunT := @PySem.W.Fast.tw10110043849684766642
noncomputable abbrev fExecs := @PySem.W.Fast.tw12563942051412417395
noncomputable abbrev fBlock := @PySem.W.Fast.tw1066825118222455980
noncomputable abbrev fDen := @PySem.W.Fast.tw11892475500146522536
noncomputable def w0 (P : Params) : World := ⟨fun _ _ => 0, { P with followText := fun _ => false }⟩
noncomputable def opR (w : World) : Option Shared := fImp fTab (opening pF) w 600 (fStart (opening pF)).1 (fStart (opening pF)).2
noncomputable def he (P : Params) : Heap := (opR (w0 P)).elim ⟨#[], {}⟩ (·.heap)
theorem op_run (w : World) : opR w = some ⟨he w.params, #[], {}, 181, (fStart (opening pF)).1.os⟩ := by kernel_rfl
noncomputable def env0 : Env := { scope := pF.main.scope, locals := mainNs, globals := mainNs, cells := [], code := .ref 13, frame := some 14 }
noncomputable def cE : Code := .body (behindTheImports pF) env0
noncomputable def preR (w : World) (os : OsState) := fTopGo fTab pF w 11 (some (.ref 6)) 12 ⟨he w.params, #[], {}, 181, os⟩ (topStub pF)
noncomputable def ha (P : Params) : Heap := (preR (w0 P) default).elim ⟨#[], {}⟩ (·.1.heap)
theorem pre_run (w : World) (os : OsState) : preR w os = some (⟨ha w.params, #[], {}, 187, os⟩, ⟨fDen fTab cE, cE, ⟨0, 0, 0, 0⟩, [topFrame ⟨0, 0, 0, 0⟩]⟩) := by kernel_rfl
noncomputable def mkT (os : Array Obj) : Nat → Nat → Nat → BT
  | 0, _, _ => .nil
  | f + 1, a, b => (os[b]?).elim .nil fun o => .node o (mkT os f (2 * a) (a + b)) (mkT os f (2 * a) (2 * a + b))
noncomputable def t0 (P : Params) : BT := mkT (ha P).objs 10 1 0
noncomputable def sg (w : World) (os : OsState) (n : Nat) (T : BT) (m k : Nat) (l : List Stmt) (pos : Pos) :=
  fSegRunT fTab pF w 11 (some (.ref 6)) 1 n ⟨T, m, {}, #[], {}, k, os⟩ ⟨(fExecs l env0).wrap doneF deadEnd id id, cE, pos, [topFrame ⟨0, 0, 0, 0⟩]⟩
noncomputable def bd (i k : Nat) : List Stmt := ((behindTheImports pF).drop i).take k
noncomputable def tr' (r : Option (Flow × SharedT × Code × Pos)) : BT := r.elim .nil (·.2.1.tree)
theorem block_run (w : World) (os : OsState) : fSegRun fTab pF w 11 (some (.ref 6)) 1 1 ⟨ha w.params, #[], {}, 187, os⟩ ⟨(fBlock (behindTheImports pF) env0).wrap (fun _ => doneF .next) deadEnd id id, cE, ⟨0, 0, 0, 0⟩, [topFrame ⟨0, 0, 0, 0⟩]⟩ =
    some (.next, (SharedT.mk (t0 w.params) 15 {} #[] {} 187 os).abs, cE, ⟨0, 0, 0, 0⟩) := by kernel_rfl
noncomputable def t1 (P : Params) : BT := tr' (sg (w0 P) default 600 (t0 P) 15 187 (bd 0 3) ⟨0, 0, 0, 0⟩)
theorem row_of {P : World → Prop} (h0 : ∀ w : World, P (w.withFollow "special-get-raises" false)) (h1 : ∀ w : World, P (w.withFollow "special-get-raises" true)) (w : World) : P w := byRow2 _ h0 h1 w
theorem seg1 (w : World) (os : OsState) : sg w os 600 (t0 w.params) 15 187 (bd 0 3) ⟨0, 0, 0, 0⟩ = some (.next, ⟨t1 w.params, 22, {}, #[], {}, 198, os⟩, cE, ⟨5, 0, 5, 2⟩) := by
  refine row_of (P := fun w => sg w os 600 (t0 w.params) 15 187 (bd 0 3) ⟨0, 0, 0, 0⟩ = some (.next, ⟨t1 w.params, 22, {}, #[], {}, 198, os⟩, cE, ⟨5, 0, 5, 2⟩)) (fun w => ?_) (fun w => ?_) w
  · kernel_rfl
  · kernel_rfl
/-! a run cut in two: so many steps first, the rest behind -/
noncomputable def goG {S T F : Type} (E : T → Option F) (C : T → Bool) (N : S → T → Option (S × T)) (k : Nat) : S → T → Option (S × T) :=
  Nat.rec (motive := fun _ => S → T → Option (S × T)) (fun s t => some (s, t)) (fun _ r s t => (E t).elim (bif C t then (N s t).elim none fun p => r p.1 p.2 else none) fun _ => none) k
theorem el_0 {α : Type} {x : α} {C : Prop} (h : Option.none = some x) : C := nomatch h
theorem el_1 {α β γ : Type} {f : α → Option β} {g : α → γ} {r z : γ} {q : β} (hf : ∀ a, f a = some q → g a = r) {x : Option α} : x.elim none f = some q → x.elim z g = r :=
  Option.rec (motive := fun x => x.elim none f = some q → x.elim z g = r) (fun h => el_0 h) hf x
theorem el_2 {α β γ : Type} {u : Option β} {v r : γ} {g : α → γ} {q : β} (hf : u = some q → v = r) {x : Option α} : x.elim u (fun _ => .none) = some q → x.elim v g = r :=
  Option.rec (motive := fun x => x.elim u (fun _ => .none) = some q → x.elim v g = r) hf (fun _ h => el_0 h) x
theorem el_3 {β γ : Type} {u : Option β} {v r z : γ} {q : β} (hf : u = some q → v = r) {b : Bool} : (bif b then u else .none) = some q → (bif b then v else z) = r :=
  Bool.rec (motive := fun b => (bif b then u else .none) = some q → (bif b then v else z) = r) (fun h => el_0 h) hf b
theorem cut_run {S T R F : Type} {E : T → Option F} {C : T → Bool} {N : S → T → Option (S × T)} {G : Nat → S → T → Option R} {D : F → S → T → Option R}
    (hG : ∀ n s t, G (n + 1) s t = (E t).elim (bif C t then (N s t).elim none fun p => G n p.1 p.2 else none) fun f => D f s t)
    {m : Nat} {q : S × T} (k : Nat) : ∀ s t, goG E C N k s t = some q → G (m + k) s t = G m q.1 q.2 := by
  induction k with
  | zero => exact fun s t h => congrArg (fun p => G m p.1 p.2) (Option.some.inj h)
  | succ k ih =>
    intro s t h
    replace h : (E t).elim (bif C t then (N s t).elim none fun p => goG E C N k p.1 p.2 else none) (fun _ => none) = some q := h
    exact (hG (m + k) s t).trans (el_2 (el_3 (el_1 fun (p : S × T) => ih p.1 p.2)) h)
noncomputable def fChk := @PySem.W.Fast.tw6613529449190102663 11 (some (.ref 6))
noncomputable def fStepT := @PySem.W.Fast.tw10156331382660048174 (fDen fTab) pF
noncomputable def fSg (w : World) := fSegRunT fTab pF w 11 (some (.ref 6)) 1
noncomputable def thA (l : List Stmt) (pos : Pos) : Thread := ⟨(fExecs l env0).wrap doneF deadEnd id id, cE, pos, [topFrame ⟨0, 0, 0, 0⟩]⟩
noncomputable def hgo (w : World) := goG (endAt 1) fChk (fStepT w)
theorem fSg_succ (w : World) (n : Nat) (s : SharedT) (t : Thread) : fSg w (n + 1) s t = (endAt 1 t).elim (bif fChk t then (fStepT w s t).elim none fun p => fSg w n p.1 p.2 else none) fun f => some (f, s, t.code, t.pos) := by kernel_rfl
theorem hgo_at {w : World} {n m k : Nat} {s : SharedT} {t : Thread} {q : SharedT × Thread} (h : hgo w k s t = some q) (e : n = m + k) : fSg w n s t = fSg w m q.1 q.2 := by
  subst e; exact cut_run (fSg_succ w) k s t h
theorem sg_eq (w : World) (os : OsState) (n : Nat) (T : BT) (m k : Nat) (l : List Stmt) (pos : Pos) : sg w os n T m k l pos = fSg w n ⟨T, m, {}, #[], {}, k, os⟩ (thA l pos) := rfl
end Mine
end
section
open PySem PySem.W PyProof.Rows
set_option Elab.async false
set_option maxRecDepth 100000
set_option maxHeartbeats 8000000
namespace Mine
noncomputable def hxd (d : Nat) : Nat := bif Nat.ble d 9 then 48 + d else 55 + d
noncomputable def mapN (n : Nat) : List Value := (List.range n).map fun c => .str ⟨⟨[61, hxd (c / 16), hxd (c % 16)]⟩⟩ (204 + 4 * c)
noncomputable def mapV : List Value := mapN 256
noncomputable def listO (l : List Value) (k : Nat) : Obj := { cls := .type "list", data := .seq ⟨l⟩ k }
noncomputable def pushE (P : Params) (nm : List Nat) (tk : Nat) (v : Value) (o : Obj) : Obj := match o.data with
  | .dict es k => { o with data := .dict (es.push ⟨PyData.keyHash P ⟨⟨nm⟩⟩, .str ⟨⟨nm⟩⟩ tk, v⟩) (k + 1) }
  | _ => o
noncomputable def stopO (a : Nat) : Obj := { cls := .type "StopIteration", data := .fields #[.ref a, .none, .none, .none, .bool false, .none] }
noncomputable def tupO : Obj := { cls := .type "tuple", data := .seq #[] }
noncomputable def t5 (P : Params) : BT :=
  (((((((t1 P).set 3 (pushE P [95, 81, 85, 79, 80, 82, 73, 95, 77, 65, 80] 1225 (.ref 24))).ins 22 { cls := .type "range", data := .fields #[.int 0 199, .int 256 198, .int 1 200] }).ins 23
    { cls := .type "range_iterator", data := .fields #[.int 256 0, .int 0 0, .int 1 0] }).ins 24 (listO mapV 256)).ins 25 { cls := .type "dict", data := .dict #[] 2 }).ins 26 tupO).ins 27 (stopO 26)
/-! the comprehension: its head's thread, its state at entry c; 37 steps an entry -/
noncomputable abbrev th5 : Thread := thA (bd 3 1) ⟨5, 0, 5, 2⟩
noncomputable def thL (P : Params) : Thread := (hgo (w0 P) 52 ⟨t1 P, 22, {}, #[], {}, 198, default⟩ th5).elim th5 (·.2)
noncomputable def thM (P : Params) : Thread := ⟨(thL P).cur, (thL P).code, ⟨6, 15, 6, 26⟩, (thL P).stack⟩
noncomputable def tC (P : Params) (c : Nat) (d : Obj) : BT :=
  ((((t1 P).ins 22 { cls := .type "range", data := .fields #[.int 0 199, .int 256 198, .int 1 200] }).ins 23
    { cls := .type "range_iterator", data := .fields #[.int c 0, .int (Int.subNatNat 256 c) 0, .int 1 0] }).ins 24 (listO (mapN c) c)).ins 25 d
noncomputable def d0 : Obj := { cls := .type "dict", data := .dict #[] }
noncomputable def dC (P : Params) (c : Nat) : Obj := { cls := .type "dict", data := .dict #[⟨PyData.keyHash P ⟨⟨[99]⟩⟩, .str ⟨⟨[99]⟩⟩ 202, .int (Int.subNatNat c 1) (197 + 4 * c)⟩] 1 }
noncomputable def sC (P : Params) (os : OsState) (c : Nat) (d : Obj) : SharedT := ⟨tC P c d, 26, {}, #[], {}, 201 + 4 * c, os⟩
noncomputable def p5 (os : OsState) (P : Params) (c : Nat) : SharedT × Thread := bif Nat.beq c 0 then (sC P os 0 d0, thL P) else (sC P os c (dC P c), thM P)
noncomputable def Ch5 (os : OsState) (w : World) (c d : Nat) : Prop := hgo w 1184 (p5 os w.params c).1 (p5 os w.params c).2 = some (p5 os w.params d)
noncomputable def Run5 (os : OsState) (w : World) (n : Nat) (p : SharedT × Thread) : Prop := fSg w n p.1 p.2 = some (.next, ⟨t5 w.params, 28, {}, #[], {}, 1226, os⟩, cE, ⟨6, 0, 6, 11⟩)
theorem ch5 {os : OsState} {w : World} {c d : Nat} (n : Nat) {l : Nat} (h : Ch5 os w c d) (e : l = n + 1184) (r : Run5 os w n (p5 os w.params d)) : Run5 os w l (p5 os w.params c) := (hgo_at h e).trans r
theorem c_0 (w : World) (os : OsState) : Ch5 os w 0 32 := by unfold Ch5; kernel_rfl
theorem c_32 (w : World) (os : OsState) : Ch5 os w 32 64 := by unfold Ch5; kernel_rfl
theorem c_64 (w : World) (os : OsState) : Ch5 os w 64 96 := by unfold Ch5; kernel_rfl
theorem c_96 (w : World) (os : OsState) : Ch5 os w 96 128 := by unfold Ch5; kernel_rfl
theorem c_128 (w : World) (os : OsState) : Ch5 os w 128 160 := by unfold Ch5; kernel_rfl
theorem c_160 (w : World) (os : OsState) : Ch5 os w 160 192 := by unfold Ch5; kernel_rfl
theorem c_192 (w : World) (os : OsState) : Ch5 os w 192 224 := by unfold Ch5; kernel_rfl
theorem c_224 (w : World) (os : OsState) : Ch5 os w 224 256 := by unfold Ch5; kernel_rfl
theorem c_256 (w : World) (os : OsState) (m : Nat) : Run5 os w (m + 76) (p5 os w.params 256) := by unfold Run5; kernel_rfl
theorem s5_f (w : World) (os : OsState) : Run5 os w 9548 (p5 os w.params 0) :=
  ch5 8364 (c_0 w os) rfl (ch5 7180 (c_32 w os) rfl (ch5 5996 (c_64 w os) rfl (ch5 4812 (c_96 w os) rfl (ch5 3628 (c_128 w os) rfl (ch5 2444 (c_160 w os) rfl (ch5 1260 (c_192 w os) rfl (ch5 76 (c_224 w os) rfl (c_256 w os 0))))))))
theorem s5_t (w : World) (os : OsState) : Run5 os w 9558 (p5 os w.params 0) :=
  ch5 8374 (c_0 w os) rfl (ch5 7190 (c_32 w os) rfl (ch5 6006 (c_64 w os) rfl (ch5 4822 (c_96 w os) rfl (ch5 3638 (c_128 w os) rfl (ch5 2454 (c_160 w os) rfl (ch5 1270 (c_192 w os) rfl (ch5 86 (c_224 w os) rfl (c_256 w os 10))))))))
noncomputable abbrev fw (w : World) (a b : Bool) : World := (w.withFollow "comprehension-iter-twice" a).withFollow "special-get-raises" b
noncomputable def Seg5 (os : OsState) (w : World) : Prop := sg w os 9600 (t1 w.params) 22 198 (bd 3 1) ⟨5, 0, 5, 2⟩ = some (.next, ⟨t5 w.params, 28, {}, #[], {}, 1226, os⟩, cE, ⟨6, 0, 6, 11⟩)
noncomputable def Hd5 (os : OsState) (k : Nat) (w : World) : Prop := hgo w k ⟨t1 w.params, 22, {}, #[], {}, 198, os⟩ th5 = some (p5 os w.params 0)
theorem seg5_of {os : OsState} {k m : Nat} {w : World} (h : Hd5 os k w) (e : 9600 = m + k) (g : Run5 os w m (p5 os w.params 0)) : Seg5 os w :=
  (sg_eq w os 9600 _ _ _ _ _).trans ((hgo_at h e).trans g)
theorem h_ff (w : World) (os : OsState) : Hd5 os 52 (fw w false false) := by unfold Hd5; kernel_rfl
theorem seg5_ff (w : World) (os : OsState) : Seg5 os (fw w false false) := seg5_of (h_ff w os) rfl (s5_f _ os)
theorem h_ft (w : World) (os : OsState) : Hd5 os 52 (fw w false true) := by unfold Hd5; kernel_rfl
theorem seg5_ft (w : World) (os : OsState) : Seg5 os (fw w false true) := seg5_of (h_ft w os) rfl (s5_f _ os)
theorem h_tf (w : World) (os : OsState) : Hd5 os 42 (fw w true false) := by unfold Hd5; kernel_rfl
theorem seg5_tf (w : World) (os : OsState) : Seg5 os (fw w true false) := seg5_of (h_tf w os) rfl (s5_t _ os)
theorem h_tt (w : World) (os : OsState) : Hd5 os 42 (fw w true true) := by unfold Hd5; kernel_rfl
theorem seg5_tt (w : World) (os : OsState) : Seg5 os (fw w true true) := seg5_of (h_tt w os) rfl (s5_t _ os)
theorem seg5 (w : World) (os : OsState) : sg w os 9600 (t1 w.params) 22 198 (bd 3 1) ⟨5, 0, 5, 2⟩ = some (.next, ⟨t5 w.params, 28, {}, #[], {}, 1226, os⟩, cE, ⟨6, 0, 6, 11⟩) :=
  byRow2 (P := Seg5 os) "special-get-raises"
    (byRow2 (P := fun u => Seg5 os (u.withFollow "special-get-raises" false)) "comprehension-iter-twice" (fun w => seg5_ff w os) fun w => seg5_tf w os)
    (byRow2 (P := fun u => Seg5 os (u.withFollow "special-get-raises" true)) "comprehension-iter-twice" (fun w => seg5_ft w os) fun w => seg5_tt w os) w
end Mine
end
section
open PySem PySem.W PyProof.Rows
set_option Elab.async false
set_option maxRecDepth 100000
set_option maxHeartbeats 8000000
namespace Mine
noncomputable def t13 (P : Params) : BT := tr' (sg (w0 P) default 200 (t5 P) 28 1226 (bd 4 8) ⟨6, 0, 6, 11⟩)
theorem seg13 (w : World) (os : OsState) : sg w os 200 (t5 w.params) 28 1226 (bd 4 8) ⟨6, 0, 6, 11⟩ = some (.next, ⟨t13 w.params, 32, {}, #[], {}, 1243, os⟩, cE, ⟨14, 0, 14, 8⟩) := by kernel_rfl
noncomputable def updV : List Nat → Nat → List Value → List Value
  | [], _, l => l
  | c :: r, k, l => updV r (k + 3) (l.set c (.str ⟨⟨[c]⟩⟩ k))
noncomputable def rng (a n : Nat) : List Nat := (List.range n).map fun i => a + i
noncomputable def hdrV : List Value := updV ([45, 33, 42, 43, 47] ++ rng 97 26 ++ rng 65 26 ++ rng 48 10) 1252 mapV
noncomputable def bdyV : List Value := updV (rng 32 29 ++ rng 62 65 ++ [9]) 1457 mapV
noncomputable def lastE (v : Value) (o : Obj) : Obj := match o.data with
  | .dict es k => { o with data := .dict (es.pop.push { es.back! with val := v }) k }
  | _ => o
noncomputable def bytesO (n : Int) : Obj := { cls := .type "bytes_iterator", data := .fields #[.none, .int n 0] }
noncomputable def t14 (P : Params) : BT :=
  (((((t13 P).set 3 (pushE P [99] 1251 (.int 57 1448))).set 29 (fun _ => listO hdrV 0)).ins 32 (bytesO 67)).ins 33 tupO).ins 34 (stopO 33)
theorem seg14 (w : World) (os : OsState) : sg w os 3200 (t13 w.params) 32 1243 (bd 12 1) ⟨14, 0, 14, 8⟩ = some (.next, ⟨t14 w.params, 35, {}, #[], {}, 1451, os⟩, cE, ⟨15, 9, 15, 74⟩) := by
  refine row_of (P := fun w => sg w os 3200 (t13 w.params) 32 1243 (bd 12 1) ⟨14, 0, 14, 8⟩ = some (.next, ⟨t14 w.params, 35, {}, #[], {}, 1451, os⟩, cE, ⟨15, 9, 15, 74⟩)) (fun w => ?_) (fun w => ?_) w
  · kernel_rfl
  · kernel_rfl
noncomputable def t15 (P : Params) : BT := tr' (sg (w0 P) default 200 (t14 P) 35 1451 (bd 13 1) ⟨15, 9, 15, 74⟩)
theorem seg15 (w : World) (os : OsState) : sg w os 200 (t14 w.params) 35 1451 (bd 13 1) ⟨15, 9, 15, 74⟩ = some (.next, ⟨t15 w.params, 35, {}, #[], {}, 1454, os⟩, cE, ⟨17, 0, 17, 28⟩) := by kernel_rfl
noncomputable def t16 (P : Params) : BT :=
  (((((t15 P).set 3 (lastE (.int 9 1737))).set 31 (fun _ => listO bdyV 0)).ins 35 (bytesO 95)).ins 36 tupO).ins 37 (stopO 36)
theorem seg16 (w : World) (os : OsState) : sg w os 4400 (t15 w.params) 35 1454 (bd 14 1) ⟨17, 0, 17, 28⟩ = some (.next, ⟨t16 w.params, 38, {}, #[], {}, 1740, os⟩, cE, ⟨18, 9, 18, 110⟩) := by
  refine row_of (P := fun w => sg w os 4400 (t15 w.params) 35 1454 (bd 14 1) ⟨17, 0, 17, 28⟩ = some (.next, ⟨t16 w.params, 38, {}, #[], {}, 1740, os⟩, cE, ⟨18, 9, 18, 110⟩)) (fun w => ?_) (fun w => ?_) w
  · kernel_rfl
  · kernel_rfl
noncomputable def t29 (P : Params) : BT := tr' (sg (w0 P) default 1000 (t16 P) 38 1740 (bd 15 16) ⟨18, 9, 18, 110⟩)
theorem seg29 (w : World) (os : OsState) : sg w os 1000 (t16 w.params) 38 1740 (bd 15 16) ⟨18, 9, 18, 110⟩ = some (.next, ⟨t29 w.params, 173, {}, #[], {}, 1947, os⟩, cE, ⟨212, 0, 231, 15⟩) := by
  refine row_of (P := fun w => sg w os 1000 (t16 w.params) 38 1740 (bd 15 16) ⟨18, 9, 18, 110⟩ = some (.next, ⟨t29 w.params, 173, {}, #[], {}, 1947, os⟩, cE, ⟨212, 0, 231, 15⟩)) (fun w => ?_) (fun w => ?_) w
  · kernel_rfl
  · kernel_rfl
end Mine
end
section
open PySem PySem.W PyProof.Rows
set_option Elab.async false
set_option maxRecDepth 100000
set_option maxHeartbeats 8000000
namespace Mine
theorem e_topGo : @topGo = fTopGo := PySem.W.Fast.te15667345088766844465
theorem e_segRun : @segRun = fSegRun := PySem.W.Fast.te14374325043358763698
theorem e_segRunT : @segRunT = fSegRunT := PySem.W.Fast.te10110043849684766642
theorem e_tab : treeTable = fTab := PySem.W.Fast.te14364793385576792824
theorem e_execs : @execs = fExecs := PySem.W.Fast.te12563942051412417395
theorem e_block : @blockStart = fBlock := PySem.W.Fast.te1066825118222455980
theorem e_den : @denote = fDen := PySem.W.Fast.te11892475500146522536
theorem e_imp : @importEnds = fImp := PySem.W.Fast.te10274390034422433532
theorem e_start : @start = fStart := PySem.W.Fast.te1435165496053646825
noncomputable abbrev stO (h : Heap) (k : Nat) (os : OsState) : Shared := ⟨h, #[], {}, k, os⟩
noncomputable abbrev stT (T : BT) (m k : Nat) (os : OsState) : SharedT := ⟨T, m, {}, #[], {}, k, os⟩
theorem sg_run {w : World} {os : OsState} {n m m' k k' : Nat} {T T' : BT} {l : List Stmt} {pos pos' : Pos} (h : sg w os n T m k l pos = some (.next, stT T' m' k' os, cE, pos')) :
    segRun treeTable pF w 11 (some (.ref 6)) 1 n (stT T m k os).abs (piecesOf l env0 cE pos [topFrame ⟨0, 0, 0, 0⟩]) = some (.next, (stT T' m' k' os).abs, cE, pos') := by
  refine segRun_of ?_
  have e : segRunT treeTable pF w 11 (some (.ref 6)) 1 n (stT T m k os) (piecesOf l env0 cE pos [topFrame ⟨0, 0, 0, 0⟩]) = sg w os n T m k l pos := by
    rw [e_tab, e_segRunT]
    show fSegRunT fTab pF w 11 (some (.ref 6)) 1 n (stT T m k os) ⟨(execs l env0).wrap doneF deadEnd id id, cE, pos, [topFrame ⟨0, 0, 0, 0⟩]⟩ = _
    rw [e_execs]
    rfl
  rw [e]; exact h
theorem body_cut : behindTheImports pF = bd 0 3 ++ (bd 3 1 ++ (bd 4 8 ++ (bd 12 1 ++ (bd 13 1 ++ (bd 14 1 ++ (bd 15 16 ++ [])))))) := by kernel_rfl
noncomputable def h1 (P : Params) : Heap := absHeap (t29 P) 173 {}
theorem fin_run (w : World) (os : OsState) : topRun treeTable pF w 11 (some (.ref 6)) 10 (stT (t29 w.params) 173 1947 os).abs ⟨doneF .next, cE, ⟨212, 0, 231, 15⟩, [topFrame ⟨0, 0, 0, 0⟩]⟩ = some (stO (h1 w.params) 1947 os) := by kernel_rfl
theorem top_run (w : World) (os : OsState) : topRun treeTable pF w 11 (some (.ref 6)) (12 + (1 + (600 + (9600 + (200 + (3200 + (200 + (4400 + (1000 + 10))))))))) (stO (he w.params) 181 os) (topStub pF) = some (stO (h1 w.params) 1947 os) := by
  refine go_top (s' := stO (ha w.params) 187 os) (t' := ⟨denote treeTable cE, cE, ⟨0, 0, 0, 0⟩, [topFrame ⟨0, 0, 0, 0⟩]⟩) ?_ ?_
  · rw [e_topGo, e_tab, e_den]
    have h := pre_run w os
    unfold preR at h
    exact h
  · show topRun treeTable pF w 11 (some (.ref 6)) _ _ ⟨denote treeTable (.body (behindTheImports pF) env0), cE, ⟨0, 0, 0, 0⟩, [topFrame ⟨0, 0, 0, 0⟩]⟩ = _
    refine piece_block (s' := (stT (t0 w.params) 15 187 os).abs) (p' := ⟨0, 0, 0, 0⟩) ?_ ?_
    · rw [e_segRun, e_tab]
      show fSegRun fTab pF w 11 (some (.ref 6)) 1 1 _ ⟨(blockStart (behindTheImports pF) env0).wrap (fun _ => doneF .next) deadEnd id id, _, _, _⟩ = _
      rw [e_block]
      exact block_run w os
    · rw [body_cut]
      refine piece_app (sg_run (seg1 w os)) ?_
      refine piece_app (sg_run (seg5 w os)) ?_
      refine piece_app (sg_run (seg13 w os)) ?_
      refine piece_app (sg_run (seg14 w os)) ?_
      refine piece_app (sg_run (seg15 w os)) ?_
      refine piece_app (sg_run (seg16 w os)) ?_
      refine piece_app (sg_run (seg29 w os)) ?_
      exact piece_nil (fin_run w os)
theorem open_run (w : World) : (fencedOpening treeTable pF w 20000).map (fun s => (s.heap, s.gens, s.drawn, s.toks)) = some (he w.params, #[], {}, 181) := by
  refine open_cut (M := 600) (He := he) (ge := #[]) (de := {}) (ke := 181) (fun w => ?_) (by decide) (fun w => ?_) w
  · rw [e_imp, e_tab, e_start]
    have h := op_run w
    unfold opR at h
    exact h
  · kernel_rfl
theorem size_run (w : World) : ((he w.params).isNs mainGlobals && (#[] : Array GenState).size == 0, (he w.params).objs.size, (he w.params).nsMap mainGlobals "__annotations__") = (true, 11, some (.ref 6)) := by kernel_rfl
end Mine
end
section
open PySem PySem.W PyProof.Rows
set_option Elab.async false
set_option maxRecDepth 100000
set_option maxHeartbeats 8000000
namespace Mine
noncomputable def qF : Program := { pF with main := { pF.main with body := bd 30 1 } }
noncomputable def looseL : List Str := [⟨⟨[95, 119, 97, 108, 108]⟩⟩, ⟨⟨[67, 82, 76, 70]⟩⟩, ⟨⟨[78, 76]⟩⟩, ⟨⟨[95, 81, 85, 79, 80, 82, 73, 95, 77, 65, 80]⟩⟩, ⟨⟨[95, 81, 85, 79, 80, 82, 73, 95, 72, 69, 65, 68, 69, 82, 95, 77, 65, 80]⟩⟩, ⟨⟨[95, 81, 85, 79, 80, 82, 73, 95, 66, 79, 68, 89, 95, 77, 65, 80]⟩⟩, ⟨⟨[97, 115, 99, 105, 105, 95, 108, 111, 119, 101, 114, 99, 97, 115, 101]⟩⟩, ⟨⟨[97, 115, 99, 105, 105, 95, 117, 112, 112, 101, 114, 99, 97, 115, 101]⟩⟩, ⟨⟨[97, 115, 99, 105, 105, 95, 108, 101, 116, 116, 101, 114, 115]⟩⟩, ⟨⟨[100, 105, 103, 105, 116, 115]⟩⟩, ⟨⟨[104, 101, 120, 100, 105, 103, 105, 116, 115]⟩⟩, ⟨⟨[117, 110, 113, 117, 111, 116, 101]⟩⟩, ⟨⟨[113, 117, 111, 116, 101]⟩⟩, ⟨⟨[95, 81, 85, 79, 80, 82, 73, 95, 66, 79, 68, 89, 95, 69, 78, 67, 79, 68, 69, 95, 77, 65, 80]⟩⟩, ⟨⟨[98, 111, 100, 121, 95, 101, 110, 99, 111, 100, 101]⟩⟩, ⟨⟨[100, 101, 99, 111, 100, 101]⟩⟩, ⟨⟨[87, 104, 105, 116, 101, 115, 112, 97, 99, 101]⟩⟩, ⟨⟨[95, 108, 97, 119, 95, 110, 117, 109, 98, 101, 114, 115]⟩⟩, ⟨⟨[95, 108, 97, 119, 95, 114, 111, 119, 115]⟩⟩, ⟨⟨[95, 108, 97, 119, 95, 119, 114, 105, 116, 116, 101, 110]⟩⟩, ⟨⟨[95, 108, 97, 119, 95, 99, 111, 108, 117, 109, 110]⟩⟩, ⟨⟨[95, 108, 97, 119, 95, 99, 114, 111, 115, 115, 101, 100]⟩⟩]
noncomputable def asK : List Addr := [2, 3, 15, 17, 18, 20, 21, 24, 38, 40, 41, 43, 44, 45, 47, 48, 50, 51, 53, 57, 58, 60, 61, 63, 64, 65, 66, 68, 69, 71, 72, 83, 85, 86, 88, 89, 90, 92, 93, 95, 96, 97, 99, 100, 102, 103, 104, 106, 107, 109, 110, 111, 113, 114, 116, 117, 118, 120, 121, 123, 124, 125, 127, 128, 130, 131, 132, 133, 134, 135, 136, 139, 142, 143, 144, 146, 147, 149, 150, 151, 154, 155, 156, 158, 159, 161, 162, 163, 166, 167, 168, 171, 172]
noncomputable def kF (P : Params) : Frag := asK.map fun a => (a, ((t29 P).get a).getD default)
theorem asK_eq (P : Params) : asK = (kF P).map (·.1) := by kernel_rfl
noncomputable def hkF : Hook := kHook kF asK asK_eq
noncomputable def xtF (s : Shared) : Bool := xlAt qF [] s && recOk (RowW.records (OpenRow.toRowW (OpenLaw.row PySem.Challenge.rw_ku0010_02))) s
noncomputable abbrev fSeen := @PySem.W.Fast.tw4187177175401517315
theorem e_seen : @openSeen = fSeen := PySem.W.Fast.te4187177175401517315
theorem look1 (w : World) (os : OsState) : (staticsOk (importedModules pF.main.body) (he w.params) (h1 w.params) && namesBound pF (h1 w.params) && gensDone (stO (h1 w.params) 1947 os) && laidKept (he w.params) (h1 w.params)) = true := by kernel_rfl
theorem look2 (w : World) (os : OsState) : fSeen qF looseL (importedModules pF.main.body) xtF true (stO (h1 w.params) 1947 os) = openGood qF looseL := by kernel_rfl
theorem look3 (w : World) (os : OsState) : Hook.obs hkF (stO (h1 w.params) 1947 os) = Hook.val hkF w := by kernel_rfl
end Mine
end
section
open PySem PySem.W PyProof.Rows
set_option Elab.async false
set_option maxRecDepth 100000
set_option maxHeartbeats 8000000
namespace Mine
theorem look2' (w : World) (os : OsState) : openSeen qF looseL (importedModules pF.main.body) xtF true (stO (h1 w.params) 1947 os) = openGood qF looseL := by
  have h := look2 w os
  rw [← e_seen] at h
  exact h
theorem looks_F (w : World) : (fun os => ((staticsOk (importedModules pF.main.body) (he w.params) (h1 w.params) && namesBound pF (h1 w.params) && gensDone (stO (h1 w.params) 1947 os) && laidKept (he w.params) (h1 w.params)),
        openSeen qF looseL (importedModules pF.main.body) xtF true (stO (h1 w.params) 1947 os), Hook.obs hkF (stO (h1 w.params) 1947 os))) = fun _ => (true, openGood qF looseL, Hook.val hkF w) :=
  funext fun os => looks_pair (look1 w os) (looks_pair (look2' w os) (look3 w os))
theorem left_F : LeftO pF qF looseL xtF (Hook.obs hkF) (Hook.val hkF) 20000 :=
  LeftO.of_pieces (p := pF) (q := qF) (loose := looseL) (Xt := xtF) (Yf := Hook.obs hkF) (Ya := Hook.val hkF) (N := 20000) (g0 := true) (m₀ := 11) (ann := some (.ref 6)) (M := 12 + (1 + (600 + (9600 + (200 + (3200 + (200 + (4400 + (1000 + 10)))))))))
    (H₀ := he) (H₁ := h1) (gs₀ := #[]) (gs₁ := #[]) (d₀ := {}) (d₁ := {}) (k₀ := 181) (k₁ := 1947) open_run size_run top_run rfl looks_F
theorem left_P : LeftO PySem.Challenge.pw_ku0010_02 qF looseL xtF (Hook.obs hkF) (Hook.val hkF) 20000 :=
  pF_eq.symm ▸ left_F
end Mine
end
section
open PySem PySem.W PyProof.Rows
set_option Elab.async false
set_option maxRecDepth 100000
set_option maxHeartbeats 8000000
namespace Mine
noncomputable def qOf (p : Program) : Program := { p with main := { p.main with body := ((behindTheImports p).drop 30).take 1 } }
noncomputable def xtOf (q : Program) (s : Shared) : Bool := xlAt q [] s && recOk (RowW.records (OpenRow.toRowW (OpenLaw.row PySem.Challenge.rw_ku0010_02))) s
theorem left_Q : LeftO PySem.Challenge.pw_ku0010_02 (qOf PySem.Challenge.pw_ku0010_02) looseL (xtOf (qOf PySem.Challenge.pw_ku0010_02)) (Hook.obs hkF) (Hook.val hkF) 20000 := by
  have h : LeftO PySem.Challenge.pw_ku0010_02 (qOf pF) looseL (xtOf (qOf pF)) (Hook.obs hkF) (Hook.val hkF) 20000 := left_P
  have e : qOf PySem.Challenge.pw_ku0010_02 = qOf pF := congrArg qOf pF_eq
  rw [e]
  exact h
end Mine
end
section
open PySem PySem.W PyProof.Rows PyProof.V
set_option Elab.async false
set_option maxRecDepth 20000
namespace Mine
noncomputable def pnm_init : List Str := [(Str.ofString "self"), (Str.ofString "ws"), (Str.ofString "S"), (Str.ofString "T"), (Str.ofString "count"), (Str.ofString "b"), (Str.ofString "n"), (Str.ofString "nt"), (Str.ofString "ch")]
noncomputable def pb_init : List T := [.asgF (.loc 0) (Str.ofString "raw") (.loc 1),
  .asgS [2, 3] (.tup [(.lit (.str [32])), (.lit (.str [9]))]),
  .asg (.one 4) (.lst []),
  .asgM [5, 6, 7] (.lit (.int (0))),
  .fore (.one 8) (.fld (.loc 0) (Str.ofString "raw")) [.ifs (.cmp .eq (.loc 8) (.loc 2)) [.asg (.one 6) (.bin .add (.loc 6) (.lit (.int (1)))),
  .asg (.one 5) (.bin .add (.loc 5) (.lit (.int (1))))] [.ifs (.cmp .eq (.loc 8) (.loc 3)) [.asg (.one 6) (.bin .add (.loc 6) (.lit (.int (1)))),
  .asg (.one 7) (.bin .add (.loc 7) (.lit (.int (1)))),
  .ifs (.cmp .ge (.loc 5) (.bi .len [(.loc 4)])) [.asg (.one 4) (.bin .add (.loc 4) (.bin .mul (.lst [(.lit (.int (0)))]) (.bin .add (.bin .sub (.loc 5) (.bi .len [(.loc 4)])) (.lit (.int (1))))))] [],
  .asgI (.loc 4) (.loc 5) (.bin .add (.idx (.loc 4) (.loc 5)) (.lit (.int (1)))),
  .asg (.one 5) (.lit (.int (0)))] [.brk]]],
  .asgF (.loc 0) (Str.ofString "n") (.loc 6),
  .asgF (.loc 0) (Str.ofString "nt") (.loc 7),
  .asgF (.loc 0) (Str.ofString "norm") (.tup [(.bi .tuple [(.loc 4)]), (.loc 5)]),
  .asgF (.loc 0) (Str.ofString "is_simple") (.cmp .le (.bi .len [(.loc 4)]) (.lit (.int (1))))]
noncomputable def pnm_longest_run_of_spaces : List Str := [(Str.ofString "self"), (Str.ofString "count"), (Str.ofString "trailing")]
noncomputable def pb_longest_run_of_spaces : List T := [.asg (.tup [1, 2]) (.fld (.loc 0) (Str.ofString "norm")),
  .ret (.bi .max [(.bin .sub (.bi .len [(.loc 1)]) (.lit (.int (1)))), (.loc 2)])]
noncomputable def pnm_indent_level : List Str := [(Str.ofString "self"), (Str.ofString "tabsize"), (Str.ofString "count"), (Str.ofString "trailing"), (Str.ofString "il"), (Str.ofString "i")]
noncomputable def pb_indent_level : List T := [.asg (.tup [2, 3]) (.fld (.loc 0) (Str.ofString "norm")),
  .asg (.one 4) (.lit (.int (0))),
  .fore (.one 5) (.bi .range [(.loc 1), (.bi .len [(.loc 2)])]) [.asg (.one 4) (.bin .add (.loc 4) (.bin .mul (.bin .fdiv (.loc 5) (.loc 1)) (.idx (.loc 2) (.loc 5))))],
  .ret (.bin .add (.loc 3) (.bin .mul (.loc 1) (.bin .add (.loc 4) (.fld (.loc 0) (Str.ofString "nt")))))]
noncomputable def pnm_less : List Str := [(Str.ofString "self"), (Str.ofString "other"), (Str.ofString "n"), (Str.ofString "ts")]
noncomputable def pb_less : List T := [.ifs (.cmp .ge (.fld (.loc 0) (Str.ofString "n")) (.fld (.loc 1) (Str.ofString "n"))) [.ret (.lit (.bool false))] [],
  .ifs (.and [(.fld (.loc 0) (Str.ofString "is_simple")), (.fld (.loc 1) (Str.ofString "is_simple"))]) [.ret (.cmp .le (.fld (.loc 0) (Str.ofString "nt")) (.fld (.loc 1) (Str.ofString "nt")))] [],
  .asg (.one 2) (.bin .add (.bi .max [(.mth 11 (Str.ofString "longest_run_of_spaces") (.loc 0) []), (.mth 11 (Str.ofString "longest_run_of_spaces") (.loc 1) [])]) (.lit (.int (1)))),
  .fore (.one 3) (.bi .range [(.lit (.int (2))), (.bin .add (.loc 2) (.lit (.int (1))))]) [.ifs (.cmp .ge (.mth 12 (Str.ofString "indent_level") (.loc 0) [(.loc 3)]) (.mth 12 (Str.ofString "indent_level") (.loc 1) [(.loc 3)])) [.ret (.lit (.bool false))] []],
  .ret (.lit (.bool true))]
noncomputable def pnm_unquote : List Str := [(Str.ofString "s")]
noncomputable def pb_unquote : List T := [.ret (.bi .chr [(.bi .int16 [(.sl (.loc 0) (some (.lit (.int (1)))) (some (.lit (.int (3)))))])])]
noncomputable def pnm_quote : List Str := [(Str.ofString "c")]
noncomputable def pb_quote : List T := [.ret (.idx (.tab 0) (.bi .ord [(.loc 0)]))]
noncomputable def pnm_body_encode : List Str := [(Str.ofString "body"), (Str.ofString "maxlinelen"), (Str.ofString "eol"), (Str.ofString "soft_break"), (Str.ofString "maxlinelen1"), (Str.ofString "encoded_body"), (Str.ofString "append"), (Str.ofString "line"), (Str.ofString "start"), (Str.ofString "laststart"), (Str.ofString "stop"), (Str.ofString "room"), (Str.ofString "q")]
noncomputable def pb_body_encode : List T := [.ifs (.cmp .lt (.loc 1) (.lit (.int (4)))) [.bad] [],
  .ifs (.not (.loc 0)) [.ret (.loc 0)] [],
  .asg (.one 0) (.sm .translate (.loc 0) [(.tab 1)]),
  .asg (.one 3) (.bin .add (.lit (.str [61])) (.loc 2)),
  .asg (.one 4) (.bin .sub (.loc 1) (.lit (.int (1)))),
  .asg (.one 5) (.lst []),
  .asg (.one 6) (.bnd (.loc 5)),
  .fore (.one 7) (.sm .splitlines (.loc 0) []) [.asg (.one 8) (.lit (.int (0))),
  .asg (.one 9) (.bin .sub (.bin .sub (.bi .len [(.loc 7)]) (.lit (.int (1)))) (.loc 1)),
  .whl (.cmp .le (.loc 8) (.loc 9)) [.asg (.one 10) (.bin .add (.loc 8) (.loc 4)),
  .ifs (.cmp .eq (.idx (.loc 7) (.bin .sub (.loc 10) (.lit (.int (2))))) (.lit (.str [61]))) [.ex (.app (.loc 6) (.sl (.loc 7) (some (.loc 8)) (some (.bin .sub (.loc 10) (.lit (.int (1))))))),
  .asg (.one 8) (.bin .sub (.loc 10) (.lit (.int (2))))] [.ifs (.cmp .eq (.idx (.loc 7) (.bin .sub (.loc 10) (.lit (.int (1))))) (.lit (.str [61]))) [.ex (.app (.loc 6) (.sl (.loc 7) (some (.loc 8)) (some (.loc 10)))),
  .asg (.one 8) (.bin .sub (.loc 10) (.lit (.int (1))))] [.ex (.app (.loc 6) (.bin .add (.sl (.loc 7) (some (.loc 8)) (some (.loc 10))) (.lit (.str [61])))),
  .asg (.one 8) (.loc 10)]]],
  .ifs (.and [(.loc 7), (.cmp .inn (.idx (.loc 7) (.neg (.lit (.int (1))))) (.lit (.str [32, 9])))]) [.asg (.one 11) (.bin .sub (.loc 8) (.loc 9)),
  .ifs (.cmp .ge (.loc 11) (.lit (.int (3)))) [.asg (.one 12) (.cal 1 [(.idx (.loc 7) (.neg (.lit (.int (1)))))])] [.ifs (.cmp .eq (.loc 11) (.lit (.int (2)))) [.asg (.one 12) (.bin .add (.idx (.loc 7) (.neg (.lit (.int (1))))) (.loc 3))] [.asg (.one 12) (.bin .add (.loc 3) (.cal 1 [(.idx (.loc 7) (.neg (.lit (.int (1)))))]))]],
  .ex (.app (.loc 6) (.bin .add (.sl (.loc 7) (some (.loc 8)) (some (.neg (.lit (.int (1)))))) (.loc 12)))] [.ex (.app (.loc 6) (.sl (.loc 7) (some (.loc 8)) none))]],
  .ifs (.cmp .inn (.idx (.loc 0) (.neg (.lit (.int (1))))) (.lit (.str [13, 10]))) [.ex (.app (.loc 6) (.lit (.str [])))] [],
  .ret (.sm .join (.loc 2) [(.loc 5)])]
noncomputable def pnm_decode : List Str := [(Str.ofString "encoded"), (Str.ofString "eol"), (Str.ofString "decoded"), (Str.ofString "line"), (Str.ofString "i"), (Str.ofString "n"), (Str.ofString "c")]
noncomputable def pb_decode : List T := [.ifs (.not (.loc 0)) [.ret (.loc 0)] [],
  .asg (.one 2) (.lit (.str [])),
  .fore (.one 3) (.sm .splitlines (.loc 0) []) [.asg (.one 3) (.sm .rstrip (.loc 3) []),
  .ifs (.not (.loc 3)) [.aug 2 .add (.loc 1),
  .cont] [],
  .asg (.one 4) (.lit (.int (0))),
  .asg (.one 5) (.bi .len [(.loc 3)]),
  .whl (.cmp .lt (.loc 4) (.loc 5)) [.asg (.one 6) (.idx (.loc 3) (.loc 4)),
  .ifs (.cmp .ne (.loc 6) (.lit (.str [61]))) [.aug 2 .add (.loc 6),
  .aug 4 .add (.lit (.int (1)))] [.ifs (.cmp .eq (.bin .add (.loc 4) (.lit (.int (1)))) (.loc 5)) [.aug 4 .add (.lit (.int (1))),
  .cont] [.ifs (.and [(.cmp .lt (.bin .add (.loc 4) (.lit (.int (2)))) (.loc 5)), (.cmp .inn (.idx (.loc 3) (.bin .add (.loc 4) (.lit (.int (1))))) (.lit (.str [48, 49, 50, 51, 52, 53, 54, 55, 56, 57, 97, 98, 99, 100, 101, 102, 65, 66, 67, 68, 69, 70]))), (.cmp .inn (.idx (.loc 3) (.bin .add (.loc 4) (.lit (.int (2))))) (.lit (.str [48, 49, 50, 51, 52, 53, 54, 55, 56, 57, 97, 98, 99, 100, 101, 102, 65, 66, 67, 68, 69, 70])))]) [.aug 2 .add (.cal 0 [(.sl (.loc 3) (some (.loc 4)) (some (.bin .add (.loc 4) (.lit (.int (3))))))]),
  .aug 4 .add (.lit (.int (3)))] [.aug 2 .add (.loc 6),
  .aug 4 .add (.lit (.int (1)))]]],
  .ifs (.cmp .eq (.loc 4) (.loc 5)) [.aug 2 .add (.loc 1)] []]],
  .ifs (.and [(.cmp .nin (.idx (.loc 0) (.neg (.lit (.int (1))))) (.lit (.str [13, 10]))), (.sm .endswith (.loc 2) [(.loc 1)])]) [.asg (.one 2) (.sl (.loc 2) none (some (.neg (.bi .len [(.loc 1)]))))] [],
  .ret (.loc 2)]
noncomputable def pnm_lw_column : List Str := [(Str.ofString "lead"), (Str.ofString "step"), (Str.ofString "column"), (Str.ofString "sign")]
noncomputable def pb_lw_column : List T := [.asg (.one 2) (.lit (.int (0))),
  .fore (.one 3) (.loc 0) [.ifs (.cmp .eq (.loc 3) (.lit (.str [9]))) [.asg (.one 2) (.bin .sub (.bin .add (.loc 2) (.loc 1)) (.bin .mod (.loc 2) (.loc 1)))] [.asg (.one 2) (.bin .add (.loc 2) (.lit (.int (1))))]],
  .ret (.loc 2)]
noncomputable def hex2 (n : Nat) : List Nat := [61, hexD (n / 16), hexD (n % 16)]
noncomputable def tabsX : Nat → List P
  | 0 => (List.range 256).map fun n => .str (hex2 n)
  | 1 => (List.range 256).map fun n => if ((32 ≤ n && n ≤ 126 && n != 61) || n == 9 || n == 10 || n == 13) then .str [n] else .str (hex2 n)
  | _ => []
noncomputable def fl1 : List Str := [(Str.ofString "raw"), (Str.ofString "n"), (Str.ofString "nt"), (Str.ofString "norm"), (Str.ofString "is_simple")]
noncomputable def pF_unquote : FD := ⟨pnm_unquote, 1, [], pb_unquote⟩
noncomputable def pF_quote : FD := ⟨pnm_quote, 1, [], pb_quote⟩
noncomputable def pF_decode : FD := ⟨pnm_decode, 2, [], pb_decode⟩
noncomputable def pF_lw_column : FD := ⟨pnm_lw_column, 2, [], pb_lw_column⟩
noncomputable def pF_init : FD := ⟨pnm_init, 2, [], pb_init⟩
noncomputable def pF_longest_run_of_spaces : FD := ⟨pnm_longest_run_of_spaces, 1, [], pb_longest_run_of_spaces⟩
noncomputable def pF_indent_level : FD := ⟨pnm_indent_level, 2, [], pb_indent_level⟩
noncomputable def pF_less : FD := ⟨pnm_less, 2, [], pb_less⟩
end Mine
end
section
open PySem PySem.W PyProof.Rows PyProof.V
set_option Elab.async false
set_option maxRecDepth 20000
namespace Mine
noncomputable def qnm_not_less_witness : List Str := [(Str.ofString "self"), (Str.ofString "other"), (Str.ofString "n"), (Str.ofString "a"), (Str.ofString "ts")]
noncomputable def qb_not_less_witness : List T := [.asg (.one 2) (.bin .add (.bi .max [(.mth 11 (Str.ofString "longest_run_of_spaces") (.loc 0) []), (.mth 11 (Str.ofString "longest_run_of_spaces") (.loc 1) [])]) (.lit (.int (1)))),
  .asg (.one 3) (.lst []),
  .fore (.one 4) (.bi .range [(.lit (.int (1))), (.bin .add (.loc 2) (.lit (.int (1))))]) [.ifs (.cmp .ge (.mth 12 (Str.ofString "indent_level") (.loc 0) [(.loc 4)]) (.mth 12 (Str.ofString "indent_level") (.loc 1) [(.loc 4)])) [.ex (.sm .append (.loc 3) [(.tup [(.loc 4), (.mth 12 (Str.ofString "indent_level") (.loc 0) [(.loc 4)]), (.mth 12 (Str.ofString "indent_level") (.loc 1) [(.loc 4)])])])] []],
  .ret (.loc 3)]
noncomputable def qnm_lw_numbers : List Str := [(Str.ofString "script"), (Str.ofString "fixed")]
noncomputable def qb_lw_numbers : List T := [.asg (.one 1) (.lst [(.lit (.int (7))), (.lit (.int (5))), (.lit (.int (4))), (.lit (.int (1))), (.lit (.int (0))), (.lit (.int (106))), (.lit (.int (6)))]),
  .ret (.bin .add (.comp [none] (.bin .mod (.loc 0) (.bin .pow (.lit (.int (10))) (.lit (.int (6))))) (.one 0) (.sl (.loc 0) none (some (.lit (.int (7))))) []) (.sl (.loc 1) (some (.bi .len [(.loc 0)])) none))]
noncomputable def qnm_lw_rows : List Str := [(Str.ofString "part"), (Str.ofString "size"), (Str.ofString "word"), (Str.ofString "blanks"), (Str.ofString "rows")]
noncomputable def qb_lw_rows : List T := [.asg (.one 2) (.sm .replace (.loc 0) [(.lit (.str [32])), (.lit (.str []))]),
  .asg (.one 3) (.bin .sub (.bi .len [(.loc 0)]) (.bi .len [(.loc 2)])),
  .ifs (.or [(.cmp .eq (.loc 2) (.lit (.str []))), (.cmp .eq (.loc 2) (.lit (.str [105, 102])))]) [.ret (.bin .add (.bin .mul (.lst [(.tup [(.bin .mul (.lit (.str [32])) (.loc 1)), (.lit (.bool true))])]) (.bin .fdiv (.loc 3) (.loc 1))) (.lst [(.tup [(.bin .add (.bin .mul (.lit (.str [32])) (.bin .mod (.loc 3) (.loc 1))) (.loc 2)), (.lit (.bool false))])]))] [],
  .asg (.one 4) (.lst []),
  .whl (.cmp .gt (.bin .mul (.lit (.int (3))) (.bi .len [(.loc 2)])) (.bin .add (.loc 1) (.lit (.int (1))))) [.ex (.sm .append (.loc 4) [(.tup [(.sl (.loc 2) none (some (.bin .fdiv (.loc 1) (.lit (.int (3)))))), (.lit (.bool true))])]),
  .asg (.one 2) (.sl (.loc 2) (some (.bin .fdiv (.loc 1) (.lit (.int (3))))) none)],
  .ret (.bin .add (.loc 4) (.lst [(.tup [(.loc 2), (.lit (.bool false))])]))]
noncomputable def qnm_lw_written : List Str := [(Str.ofString "text"), (Str.ofString "soft"), (Str.ofString "signs")]
noncomputable def qb_lw_written : List T := [.asg (.one 2) (.loc 0),
  .ifs (.cmp .nin (.sm .replace (.loc 0) [(.lit (.str [32])), (.lit (.str []))]) (.lst [(.lit (.str [])), (.lit (.str [105, 102]))])) [.asg (.one 2) (.sm .join (.lit (.str [])) [(.comp [none] (.bin .mod (.lit (.str [61, 37, 48, 50, 88])) (.bi .ord [(.loc 0)])) (.one 0) (.loc 0) [])])] [.ifs (.and [(.cmp .eq (.sl (.loc 0) (some (.neg (.lit (.int (1))))) none) (.lit (.str [32]))), (.not (.loc 1))]) [.asg (.one 2) (.bin .add (.sl (.loc 0) none (some (.neg (.lit (.int (1)))))) (.lit (.str [61, 50, 48])))] []],
  .ifs (.loc 1) [.asg (.one 2) (.bin .add (.loc 2) (.lit (.str [61])))] [],
  .ret (.loc 2)]
noncomputable def qnm_lw_crossed : List Str := [(Str.ofString "line"), (Str.ofString "read"), (Str.ofString "size"), (Str.ofString "old"), (Str.ofString "new"), (Str.ofString "table"), (Str.ofString "step"), (Str.ofString "one"), (Str.ofString "two"), (Str.ofString "found"), (Str.ofString "fill")]
noncomputable def qb_lw_crossed : List T := [.asg (.one 3) (.idx (.sm .split (.loc 0) [(.lit (.str [105, 102]))]) (.lit (.int (0)))),
  .asg (.one 4) (.idx (.sm .split (.loc 1) [(.lit (.str [105, 102]))]) (.lit (.int (0)))),
  .asg (.one 5) (.lst []),
  .fore (.one 6) (.bi .range [(.lit (.int (1))), (.bin .add (.bi .max [(.comp [none] (.bi .len [(.loc 0)]) (.one 0) (.bin .add (.sm .split (.loc 3) [(.lit (.str [9]))]) (.sm .split (.loc 4) [(.lit (.str [9]))])) [])]) (.lit (.int (2))))]) [.ex (.sm .append (.loc 5) [(.tup [(.loc 6), (.cal 7 [(.loc 3), (.loc 6)]), (.cal 7 [(.loc 4), (.loc 6)])])])],
  .asg (.one 7) (.new [(.loc 0)]),
  .asg (.one 8) (.new [(.loc 1)]),
  .asg (.one 9) (.mth 16 (Str.ofString "not_less_witness") (.loc 7) [(.loc 8)]),
  .ifs (.cmp .ne (.loc 9) (.comp [none, some 2] (.loc 0) (.one 0) (.loc 5) [(.or [(.cmp .le (.idx (.loc 0) (.lit (.int (0)))) (.cel 1)), (.cmp .eq (.idx (.loc 0) (.lit (.int (1)))) (.idx (.loc 0) (.lit (.int (2)))))])])) [.ret (.lit (.bool false))] [],
  .ifs (.cmp .ne (.comp2 [none, none] (.loc 1) (.one 0) (.loc 9) (.one 1) (.loc 0) [(.not (.bi .isint [(.loc 1)]))]) (.lst [])) [.ret (.lit (.bool false))] [],
  .ifs (.cmp .ne (.mth 16 (Str.ofString "not_less_witness") (.loc 8) [(.loc 7)]) (.comp [none, none, none, some 2] (.tup [(.loc 0), (.loc 2), (.loc 1)]) (.tup [0, 1, 2]) (.loc 5) [(.or [(.cmp .ge (.loc 0) (.cel 3)), (.cmp .eq (.loc 1) (.loc 2))])])) [.ret (.lit (.bool false))] [],
  .asg (.one 10) (.bin .mul (.lit (.str [32])) (.bin .sub (.bi .len [(.loc 3)]) (.bi .len [(.loc 4)]))),
  .ifs (.cmp .isn (.mth 15 (Str.ofString "less") (.loc 7) [(.new [(.sm .replace (.loc 1) [(.lit (.str [105, 102])), (.bin .add (.loc 10) (.lit (.str [105, 102])))])])]) (.lit (.bool false))) [.ret (.lit (.bool false))] [],
  .ifs (.cmp .isn (.mth 15 (Str.ofString "less") (.loc 7) [(.new [(.sm .replace (.loc 1) [(.lit (.str [105, 102])), (.bin .add (.loc 10) (.lit (.str [32, 105, 102])))])])]) (.lit (.bool true))) [.ret (.lit (.bool false))] [],
  .ifs (.cmp .isn (.mth 15 (Str.ofString "less") (.loc 7) [(.new [(.bin .add (.lit (.str [32])) (.loc 0))])]) (.lit (.bool false))) [.ret (.lit (.bool false))] [],
  .ret (.cmp .is (.mth 15 (Str.ofString "less") (.loc 8) [(.new [(.sm .replace (.loc 0) [(.lit (.str [105, 102])), (.lit (.str [32, 105, 102]))])])]) (.cmp .eq (.loc 3) (.loc 4)))]
noncomputable def qnm_law : List Str := [(Str.ofString "script"), (Str.ofString "numbers"), (Str.ofString "line"), (Str.ofString "first"), (Str.ofString "eol"), (Str.ofString "size"), (Str.ofString "letter"), (Str.ofString "rows"), (Str.ofString "read")]
noncomputable def qb_law : List T := [.asg (.one 1) (.cal 4 [(.loc 0)]),
  .asg (.one 2) (.bin .add (.sm .join (.lit (.str [9])) [(.comp [none] (.bin .mul (.lit (.str [32])) (.bin .mod (.loc 0) (.lit (.int (12))))) (.one 0) (.sl (.loc 1) none (some (.lit (.int (3))))) [])]) (.lit (.str [105, 102, 9, 61]))),
  .asg (.one 2) (.bin .add (.bin .add (.loc 2) (.bi .chr [(.bin .add (.lit (.int (127))) (.bin .mod (.idx (.loc 1) (.lit (.int (5)))) (.lit (.int (129)))))])) (.bi .chr [(.bin .add (.lit (.int (127))) (.bin .mod (.idx (.loc 1) (.lit (.int (6)))) (.lit (.int (129)))))])),
  .asg (.one 3) (.bin .add (.lit (.int (4))) (.bin .mod (.idx (.loc 1) (.lit (.int (3)))) (.lit (.int (3))))),
  .asg (.one 4) (.idx (.lst [(.lit (.str [10])), (.lit (.str [13, 10]))]) (.bin .mod (.bin .fdiv (.idx (.loc 1) (.lit (.int (3)))) (.lit (.int (3)))) (.lit (.int (2))))),
  .fore (.cel 5) (.lst [(.loc 3), (.bin .add (.lit (.int (3))) (.bin .mod (.idx (.loc 1) (.lit (.int (4)))) (.bin .sub (.loc 3) (.lit (.int (3))))))]) [.asg (.one 6) (.cal 2 [(.sm .replace (.loc 2) [(.lit (.str [9])), (.lit (.str [10]))]), (.bin .add (.cel 5) (.lit (.int (1)))), (.loc 4)]),
  .asgC 7 (.comp2 [none, none, some 5] (.loc 1) (.one 0) (.sm .split (.loc 2) [(.lit (.str [9]))]) (.one 1) (.cal 5 [(.loc 0), (.cel 2)]) []),
  .ifs (.cmp .ne (.sm .split (.loc 6) [(.loc 4)]) (.comp [none, none] (.cal 6 [(.loc 0), (.loc 1)]) (.tup [0, 1]) (.loc 7) [])) [.ret (.lit (.bool false))] [],
  .ifs (.cmp .ne (.cal 3 [(.loc 6), (.lit (.str [9]))]) (.loc 2)) [.ret (.lit (.bool false))] [],
  .asg (.one 8) (.cal 3 [(.sm .replace (.loc 6) [(.bin .add (.lit (.str [61])) (.loc 4)), (.bin .add (.lit (.str [9])) (.loc 4))]), (.lit (.str [9]))]),
  .ifs (.cmp .ne (.loc 8) (.sm .join (.lit (.str [9])) [(.comp [none, none] (.ife (.and [(.loc 1), (.cmp .eq (.sm .replace (.loc 0) [(.lit (.str [32])), (.lit (.str []))]) (.lit (.str [])))]) (.lit (.str [])) (.loc 0)) (.tup [0, 1]) (.loc 7) [])])) [.ret (.lit (.bool false))] [],
  .ifs (.not (.cal 9 [(.loc 2), (.loc 8), (.cel 5)])) [.ret (.lit (.bool false))] [],
  .asg (.one 2) (.loc 8)],
  .ret (.lit (.bool true))]
noncomputable def gl2 : List (Str × GV) := [((Str.ofString "unquote"), GV.defn 0),
  ((Str.ofString "quote"), GV.defn 1),
  ((Str.ofString "body_encode"), GV.defn 2),
  ((Str.ofString "decode"), GV.defn 3),
  ((Str.ofString "_law_numbers"), GV.defn 4),
  ((Str.ofString "_law_rows"), GV.defn 5),
  ((Str.ofString "_law_written"), GV.defn 6),
  ((Str.ofString "_law_column"), GV.defn 7),
  ((Str.ofString "_law_crossed"), GV.defn 9),
  ((Str.ofString "Whitespace"), GV.cls [((Str.ofString "S"), .str [32]), ((Str.ofString "T"), .str [9])]),
  ((Str.ofString "_QUOPRI_MAP"), GV.tab 0),
  ((Str.ofString "_QUOPRI_BODY_ENCODE_MAP"), GV.tab 1),
  ((Str.ofString "CRLF"), GV.const (.str [13, 10])),
  ((Str.ofString "NL"), GV.const (.str [10])),
  ((Str.ofString "hexdigits"), GV.const (.str [48, 49, 50, 51, 52, 53, 54, 55, 56, 57, 97, 98, 99, 100, 101, 102, 65, 66, 67, 68, 69, 70])),
  ((Str.ofString "len"), GV.bi BI.len "len"),
  ((Str.ofString "max"), GV.bi BI.max "max"),
  ((Str.ofString "range"), GV.ty BI.range "range"),
  ((Str.ofString "list"), GV.ty BI.list "list"),
  ((Str.ofString "isinstance"), GV.bi BI.isint "isinstance"),
  ((Str.ofString "int"), GV.ty BI.int16 "int"),
  ((Str.ofString "sorted"), GV.bi BI.sorted "sorted"),
  ((Str.ofString "ord"), GV.bi BI.ord "ord"),
  ((Str.ofString "chr"), GV.bi BI.chr "chr"),
  ((Str.ofString "tuple"), GV.ty BI.tuple "tuple")]
noncomputable def ml2 : List (Str × Nat) := [((Str.ofString "longest_run_of_spaces"), 11), ((Str.ofString "indent_level"), 12), ((Str.ofString "less"), 15), ((Str.ofString "not_less_witness"), 16)]
noncomputable def qF_body_encode : FD := ⟨pnm_body_encode, 3, [], pb_body_encode⟩
noncomputable def qF_lw_numbers : FD := ⟨qnm_lw_numbers, 1, [], qb_lw_numbers⟩
noncomputable def qF_lw_rows : FD := ⟨qnm_lw_rows, 2, [], qb_lw_rows⟩
noncomputable def qF_lw_written : FD := ⟨qnm_lw_written, 2, [], qb_lw_written⟩
noncomputable def qF_lw_crossed : FD := ⟨qnm_lw_crossed, 3, [], qb_lw_crossed⟩
noncomputable def qF_not_less_witness : FD := ⟨qnm_not_less_witness, 2, [], qb_not_less_witness⟩
noncomputable def pgDefs2L : List (Nat × FC) := [(0, ⟨pF_unquote, none⟩), (1, ⟨pF_quote, none⟩), (2, ⟨qF_body_encode, none⟩), (3, ⟨pF_decode, none⟩), (4, ⟨qF_lw_numbers, none⟩), (5, ⟨qF_lw_rows, none⟩), (6, ⟨qF_lw_written, none⟩), (7, ⟨pF_lw_column, none⟩), (9, ⟨qF_lw_crossed, some 2⟩), (10, ⟨pF_init, none⟩), (11, ⟨pF_longest_run_of_spaces, none⟩), (12, ⟨pF_indent_level, none⟩), (15, ⟨pF_less, none⟩), (16, ⟨qF_not_less_witness, none⟩)]
noncomputable def pgDefs2 (f : Nat) : Option FC := pgDefs2L.lookup f
noncomputable def pg2 : PgC := ⟨tabsX, 10, pgDefs2⟩
end Mine
end
section
open PySem PySem.W PyProof.Rows PyProof.V
set_option Elab.async false
set_option maxRecDepth 20000
namespace Mine
theorem ev_locE {g loc i H} : ev g loc (.loc i) H = (loc[i]?).join.bind fun v => some (v, H) := rfl
theorem ev_celE {g loc i H} : ev g loc (.cel i) H = (loc[i]?).join.bind fun v => v.rf.bind fun r => (getC H r).bind fun x => some (.p x, H) := rfl
theorem ev_litE {g loc x H} : ev g loc (.lit x) H = some (.p x, H) := rfl
theorem ev_tabE {g loc t H} : ev g loc (.tab t) H = some (.glob t, H) := rfl
theorem ev_binE {g loc o a b H} : ev g loc (.bin o a b) H = (ev g loc a H).bind fun x => (ev g loc b x.2).bind fun y => binV o x.1 y.1 y.2 := rfl
theorem ev_cmpE {g loc o a b H} : ev g loc (.cmp o a b) H = (ev g loc a H).bind fun x => (ev g loc b x.2).bind fun y => (cmpV o x.1 y.1 y.2).bind fun c => some (.p (.bool c), y.2) := rfl
theorem ev_notE {g loc z H} : ev g loc (.not z) H = none := rfl
theorem ev_andE {g loc z H} : ev g loc (.and z) H = none := rfl
theorem ev_orE {g loc z H} : ev g loc (.or z) H = none := rfl
theorem ev_negE {g loc a H} : ev g loc (.neg a) H = (ev g loc a H).bind fun x => x.1.int.bind fun i => some (.p (.int (-i)), x.2) := rfl
theorem ev_ifeE {g loc c a b H} : ev g loc (.ife c a b) H = (evT g loc c (ev g loc c H) H).bind fun t => if t.1 then ev g loc a t.2 else ev g loc b t.2 := rfl
theorem ev_tupE {g loc es H} : ev g loc (.tup es) H = (evs g loc es H).bind fun x => (allP x.1).bind fun ps => if ok ps.length then some (.p (.tup ps), x.2) else none := rfl
theorem ev_lstE {g loc es H} : ev g loc (.lst es) H = (evs g loc es H).bind fun x => (allP x.1).bind fun ps => if ok ps.length then some (.ref x.2.length, x.2 ++ [.list ps]) else none := rfl
theorem ev_idxE {g loc a i H} : ev g loc (.idx a i) H = (ev g loc a H).bind fun x => (ev g loc i x.2).bind fun y => (idxV g.tabs x.1 y.1 y.2).bind fun v => some (v, y.2) := rfl
theorem ev_slE {g loc a lo hi H} : ev g loc (.sl a lo hi) H = (ev g loc a H).bind fun x => (evo g loc lo x.2).bind fun y => (evo g loc hi y.2).bind fun z => slV x.1 y.1 z.1 z.2 := rfl
theorem ev_fldE {g loc a n H} : ev g loc (.fld a n) H = (ev g loc a H).bind fun x => (fldV x.1 n x.2).bind fun v => some (v, x.2) := rfl
theorem ev_calE {g loc f es H} : ev g loc (.cal f es) H = (evs g loc es H).bind fun x => g.call f x.1 x.2 := rfl
theorem ev_newE {g loc es H} : ev g loc (.new es) H = (evs g loc es H).bind fun x => (g.call g.init (.obj x.2.length :: x.1) (x.2 ++ [.inst []])).bind fun y => y.1.nn.bind fun _ => some (.obj x.2.length, y.2) := rfl
theorem ev_mthE {g loc f n a es H} : ev g loc (.mth f n a es) H = (ev g loc a H).bind fun x => x.1.ob.bind fun r => (getF x.2 r).bind fun fs => if (fs.lookup n).isNone then (evs g loc es x.2).bind fun y => g.call f (.obj r :: y.1) y.2 else none := rfl
theorem ev_biE {g loc b es H} : ev g loc (.bi b es) H = (evs g loc es H).bind fun x => biV b x.1 x.2 := rfl
theorem ev_smE {g loc b a es H} : ev g loc (.sm b a es) H = (ev g loc a H).bind fun x => if rcOk x.1 x.2 then (evs g loc es x.2).bind fun y => smV g.tabs b x.1 y.1 y.2 else none := rfl
theorem ev_bndE {g loc a H} : ev g loc (.bnd a) H = (ev g loc a H).bind fun x => x.1.rf.bind fun r => (getL x.2 r).bind fun _ => some (.bm r, x.2) := rfl
theorem ev_appE {g loc a e H} : ev g loc (.app a e) H = (ev g loc a H).bind fun x => (ev g loc e x.2).bind fun y => x.1.bmr.bind fun r => (addTo r y.1 y.2).bind fun K => some (.p .none, K) := rfl
theorem ev_compE {g loc fr elt t it cs H} : ev g loc (.comp fr elt t it cs) H = if frOk fr loc then (ev g loc it H).bind fun x => (itemsOf x.1 x.2).bind fun q =>
      (cmpL q.1 q.2 t (fun l K => (evC g l cs K).bind fun b => if b.1 then (ev g l elt b.2).bind fun v => addTo x.2.length v.1 v.2 else some b.2) (frOf fr loc) q.1 (x.2 ++ [.list []])).bind fun K =>
        some (.ref x.2.length, K.take (x.2.length + 1)) else none := rfl
theorem ev_comp2E {g loc fr elt t it t2 it2 cs H} : ev g loc (.comp2 fr elt t it t2 it2 cs) H = if frOk fr loc then (ev g loc it H).bind fun x => (itemsOf x.1 x.2).bind fun q =>
      (cmpL q.1 q.2 t (fun l K => if tgFree t2 l then (ev g l it2 K).bind fun x2 => (itemsOf x2.1 x2.2).bind fun q2 =>
        cmpL q2.1 q2.2 t2 (fun l K => (evC g l cs K).bind fun b => if b.1 then (ev g l elt b.2).bind fun v => addTo x.2.length v.1 v.2 else some b.2) l q2.1 x2.2 else none) (frOf fr loc) q.1 (x.2 ++ [.list []])).bind fun K =>
        some (.ref x.2.length, K.take (x.2.length + 1)) else none := rfl
theorem evs_nilE {g loc H} : evs g loc [] H = some ([], H) := rfl
theorem evs_consE {g loc e r H} : evs g loc (e :: r) H = (ev g loc e H).bind fun x => (evs g loc r x.2).bind fun y => some (x.1 :: y.1, y.2) := rfl
theorem evo_noneE {g loc H} : evo g loc none H = some (none, H) := rfl
theorem evo_someE {g loc e H} : evo g loc (some e) H = (ev g loc e H).bind fun x => some (some x.1, x.2) := rfl
theorem evT_notE {g loc a w H} : evT g loc (.not a) w H = (evT g loc a (ev g loc a H) H).bind fun b => some (!b.1, b.2) := rfl
theorem evT_andE {g loc es w H} : evT g loc (.and es) w H = evC g loc es H := rfl
theorem evT_orE {g loc es w H} : evT g loc (.or es) w H = evD g loc es H := rfl
theorem evT_ifeE {g loc z0 z1 z2 w H} : evT g loc (.ife z0 z1 z2) w H = none := rfl
theorem evT_locE {g loc i' w H} : evT g loc (.loc i') w H = w.bind fun x => (truV x.1).bind fun b => some (b, x.2) := rfl
theorem evT_celE {g loc i' w H} : evT g loc (.cel i') w H = w.bind fun x => (truV x.1).bind fun b => some (b, x.2) := rfl
theorem evT_litE {g loc x' w H} : evT g loc (.lit x') w H = w.bind fun x => (truV x.1).bind fun b => some (b, x.2) := rfl
theorem evT_tabE {g loc t' w H} : evT g loc (.tab t') w H = w.bind fun x => (truV x.1).bind fun b => some (b, x.2) := rfl
theorem evT_binE {g loc o' a' b' w H} : evT g loc (.bin o' a' b') w H = w.bind fun x => (truV x.1).bind fun b => some (b, x.2) := rfl
theorem evT_cmpE {g loc o' a' b' w H} : evT g loc (.cmp o' a' b') w H = w.bind fun x => (truV x.1).bind fun b => some (b, x.2) := rfl
theorem evT_negE {g loc a' w H} : evT g loc (.neg a') w H = w.bind fun x => (truV x.1).bind fun b => some (b, x.2) := rfl
theorem evT_tupE {g loc es' w H} : evT g loc (.tup es') w H = w.bind fun x => (truV x.1).bind fun b => some (b, x.2) := rfl
theorem evT_lstE {g loc es' w H} : evT g loc (.lst es') w H = w.bind fun x => (truV x.1).bind fun b => some (b, x.2) := rfl
theorem evT_idxE {g loc a' i' w H} : evT g loc (.idx a' i') w H = w.bind fun x => (truV x.1).bind fun b => some (b, x.2) := rfl
theorem evT_slE {g loc a' lo' hi' w H} : evT g loc (.sl a' lo' hi') w H = w.bind fun x => (truV x.1).bind fun b => some (b, x.2) := rfl
theorem evT_fldE {g loc a' n' w H} : evT g loc (.fld a' n') w H = w.bind fun x => (truV x.1).bind fun b => some (b, x.2) := rfl
theorem evT_calE {g loc f' es' w H} : evT g loc (.cal f' es') w H = w.bind fun x => (truV x.1).bind fun b => some (b, x.2) := rfl
theorem evT_newE {g loc es' w H} : evT g loc (.new es') w H = w.bind fun x => (truV x.1).bind fun b => some (b, x.2) := rfl
theorem evT_mthE {g loc f' n' a' es' w H} : evT g loc (.mth f' n' a' es') w H = w.bind fun x => (truV x.1).bind fun b => some (b, x.2) := rfl
theorem evT_biE {g loc b' es' w H} : evT g loc (.bi b' es') w H = w.bind fun x => (truV x.1).bind fun b => some (b, x.2) := rfl
theorem evT_smE {g loc b' a' es' w H} : evT g loc (.sm b' a' es') w H = w.bind fun x => (truV x.1).bind fun b => some (b, x.2) := rfl
theorem evT_bndE {g loc a' w H} : evT g loc (.bnd a') w H = w.bind fun x => (truV x.1).bind fun b => some (b, x.2) := rfl
theorem evT_appE {g loc a' e' w H} : evT g loc (.app a' e') w H = w.bind fun x => (truV x.1).bind fun b => some (b, x.2) := rfl
theorem evT_compE {g loc fr' elt' t' it' cs' w H} : evT g loc (.comp fr' elt' t' it' cs') w H = w.bind fun x => (truV x.1).bind fun b => some (b, x.2) := rfl
theorem evT_comp2E {g loc fr' elt' t' it' t2' it2' cs' w H} : evT g loc (.comp2 fr' elt' t' it' t2' it2' cs') w H = w.bind fun x => (truV x.1).bind fun b => some (b, x.2) := rfl
theorem evC_nilE {g loc H} : evC g loc [] H = some (true, H) := rfl
theorem evC_consE {g loc e r H} : evC g loc (e :: r) H = (evT g loc e (ev g loc e H) H).bind fun b => if b.1 then evC g loc r b.2 else some (false, b.2) := rfl
theorem evD_nilE {g loc H} : evD g loc [] H = some (false, H) := rfl
theorem evD_consE {g loc e r H} : evD g loc (e :: r) H = (evT g loc e (ev g loc e H) H).bind fun b => if b.1 then some (true, b.2) else evD g loc r b.2 := rfl
theorem ex_asgE {g t e loc H} : ex g (.asg t e) loc H = (ev g loc e H).bind fun x => (tgt t x.1 loc x.2).bind fun q => some (.next, q) := rfl
theorem ex_asgSE {g l e loc H} : ex g (.asgS l e) loc H = (ev g loc e H).bind fun x => (tgt (.tup l) x.1 loc x.2).bind fun q => some (.next, q) := rfl
theorem ex_asgME {g l e loc H} : ex g (.asgM l e) loc H = (ev g loc e H).bind fun x => if l.all (· < loc.length) then some (.next, l.foldl (fun loc i => loc.set i (some x.1)) loc, x.2) else none := rfl
theorem ex_asgIE {g a i e loc H} : ex g (.asgI a i e) loc H = (ev g loc e H).bind fun x => (ev g loc a x.2).bind fun y => (ev g loc i y.2).bind fun z => x.1.pl.bind fun x => y.1.rf.bind fun r => z.1.int.bind fun i => (getL z.2 r).bind fun l => if oki i && decide (0 ≤ i ∧ i < l.length) then some (.next, loc, z.2.set r (.list (l.set i.toNat x))) else none := rfl
theorem ex_asgFE {g a n e loc H} : ex g (.asgF a n e) loc H = (ev g loc e H).bind fun x => (ev g loc a x.2).bind fun y => x.1.pl.bind fun x => y.1.ob.bind fun r => (getF y.2 r).bind fun fs => if decide (fs.length ≤ 100) then some (.next, loc, y.2.set r (.inst (put fs n x))) else none := rfl
theorem ex_asgCE {g i e loc H} : ex g (.asgC i e) loc H = (ev g loc e H).bind fun x => (tgt (.one i) x.1 loc x.2).bind fun q => some (.next, q) := rfl
theorem ex_augE {g i o e loc H} : ex g (.aug i o e) loc H = (loc[i]?).join.bind fun v => (ev g loc e H).bind fun x => (isAdd o).bind fun _ => v.pl.bind fun a => x.1.pl.bind fun b => (addP a b).bind fun c => (tgt (.one i) (.p c) loc x.2).bind fun q => some (.next, q) := rfl
theorem ex_exE {g e loc H} : ex g (.ex e) loc H = (ev g loc e H).bind fun x => x.1.nn.bind fun _ => some (.next, loc, x.2) := rfl
theorem ex_ifsE {g c a b loc H} : ex g (.ifs c a b) loc H = (evT g loc c (ev g loc c H) H).bind fun t => if t.1 then exs g a loc t.2 else exs g b loc t.2 := rfl
theorem ex_whlE {g c b loc H} : ex g (.whl c b) loc H = whlL (fun loc H => evT g loc c (ev g loc c H) H) (fun loc H => exs g b loc H) fuel loc H := rfl
theorem ex_foreE {g t it b loc H} : ex g (.fore t it b) loc H = (ev g loc it H).bind fun x => (itemsOf x.1 x.2).bind fun q => forL q.1 q.2 t (fun loc H => exs g b loc H) q.1 loc x.2 := rfl
theorem ex_retE {g e loc H} : ex g (.ret e) loc H = (ev g loc e H).bind fun x => some (.ret x.1, loc, x.2) := rfl
theorem ex_brkE {g  loc H} : ex g (.brk) loc H = some (.brk, loc, H) := rfl
theorem ex_contE {g  loc H} : ex g (.cont) loc H = some (.cont, loc, H) := rfl
theorem ex_badE {g  loc H} : ex g (.bad) loc H = none := rfl
theorem exs_nilE {g loc H} : exs g [] loc H = some (.next, loc, H) := rfl
theorem exs_consE {g t r loc H} : exs g (t :: r) loc H = (ex g t loc H).bind fun z => match z.1 with
    | .next => exs g r z.2.1 (gc H.length z.2.1 z.2.2)
    | _ => some z := rfl
end Mine
end
section
open PySem PySem.W PyProof.Rows PyProof.V
set_option Elab.async false
set_option maxRecDepth 20000
set_option linter.unusedSimpArgs false
namespace Mine
theorem bindS {α β : Type} {o : Option α} {f : α → Option β} {a : α} {z : Option β} (h : o = some a) (k : f a = z) : o.bind f = z := by rw [h]; exact k
theorem mapS {α β : Type} {o : Option α} {f : α → β} {a : α} (h : o = some a) : o.map f = some (f a) := by rw [h]; rfl
theorem exs_nil (g : G) (loc H) : exs g [] loc H = some (.next, loc, H) := rfl
theorem exs_step {g : G} {t : T} {r : List T} {loc H loc' H' H'' z} (h : ex g t loc H = some (.next, loc', H')) (hg : gc H.length loc' H' = H'') (h2 : exs g r loc' H'' = z) : exs g (t :: r) loc H = z := bindS h ((congrArg (exs g r loc') hg).trans h2)
theorem exs_stop {g : G} {t : T} {r : List T} {loc H z} (h : ex g t loc H = some z) (hn : z.1 ≠ .next) : exs g (t :: r) loc H = some z := by
  refine bindS h ?_
  obtain ⟨f, l, K⟩ := z
  cases f with
  | next => exact absurd rfl hn
  | _ => rfl
theorem ex_for {g : G} {t : Tg} {it : E} {b : List T} {loc H v H₁ ps w z} (h1 : ev g loc it H = some (v, H₁)) (h2 : itemsOf v H₁ = some (ps, w)) (h3 : forL ps w t (fun loc H => exs g b loc H) ps loc H₁ = some z) : ex g (.fore t it b) loc H = some z := bindS h1 (bindS h2 h3)
theorem gc_same (loc : List (Option V)) (H : List O) : gc H.length loc H = H := by
  unfold gc
  exact List.take_of_length_le (Nat.le_max_left _ _)
theorem ev_bin {g : G} {L : List (Option V)} {o : BOp} {a b : E} {H H₁ H₂ : List O} {x y : V} {z} (h1 : ev g L a H = some (x, H₁)) (h2 : ev g L b H₁ = some (y, H₂)) (h3 : binV o x y H₂ = some z) : ev g L (.bin o a b) H = some z := bindS h1 (bindS h2 h3)
theorem ev_cmp {g : G} {L : List (Option V)} {o : COp} {a b : E} {H H₁ H₂ : List O} {x y : V} {z : Bool} (h1 : ev g L a H = some (x, H₁)) (h2 : ev g L b H₁ = some (y, H₂)) (h3 : cmpV o x y H₂ = some z) : ev g L (.cmp o a b) H = some (.p (.bool z), H₂) := bindS h1 (bindS h2 (bindS h3 rfl))
theorem evT_cmp {g : G} {L : List (Option V)} {o : COp} {a b : E} {H H₁ H₂ : List O} {x y : V} {z : Bool} (h1 : ev g L a H = some (x, H₁)) (h2 : ev g L b H₁ = some (y, H₂)) (h3 : cmpV o x y H₂ = some z) : evT g L (.cmp o a b) (ev g L (.cmp o a b) H) H = some (z, H₂) := bindS (ev_cmp h1 h2 h3) rfl
theorem evs_nil (g : G) (L : List (Option V)) (H : List O) : evs g L [] H = some ([], H) := rfl
theorem evs_cons {g : G} {L : List (Option V)} {e : E} {r : List E} {H H₁ H₂ : List O} {x : V} {y : List V} (h1 : ev g L e H = some (x, H₁)) (h2 : evs g L r H₁ = some (y, H₂)) : evs g L (e :: r) H = some (x :: y, H₂) := bindS h1 (bindS h2 rfl)
theorem ev_bi {g : G} {L : List (Option V)} {b : BI} {es : List E} {H H₁ : List O} {x : List V} {z} (h1 : evs g L es H = some (x, H₁)) (h2 : biV b x H₁ = some z) : ev g L (.bi b es) H = some z := bindS h1 h2
theorem ev_loc {g : G} {L : List (Option V)} {i : Nat} {H : List O} {v : V} (h : L[i]? = some (some v)) : ev g L (.loc i) H = some (v, H) := bindS (o := (L[i]?).join) (congrArg Option.join h) rfl
theorem ex_asg {g : G} {L L' : List (Option V)} {t : Tg} {e : E} {H H₁ H₂ : List O} {v : V} (h : ev g L e H = some (v, H₁)) (h2 : tgt t v L H₁ = some (L', H₂)) : ex g (.asg t e) L H = some (.next, L', H₂) := bindS h (bindS h2 rfl)
theorem ex_ex {g : G} {L : List (Option V)} {e : E} {H H₁ : List O} (h : ev g L e H = some (.p .none, H₁)) : ex g (.ex e) L H = some (.next, L, H₁) := bindS h rfl
theorem ex_if {g : G} {L : List (Option V)} {c : E} {a b : List T} {H H₁ : List O} {t : Bool} {z} (h : evT g L c (ev g L c H) H = some (t, H₁)) (h2 : exs g (if t then a else b) L H₁ = some z) : ex g (.ifs c a b) L H = some z := bindS h (by cases t <;> exact h2)
theorem ev_fldG {g : G} {L : List (Option V)} {i r : Nat} {H : List O} {fs : List (Str × P)} {x : Str} {p : P} (hi : L[i]? = some (some (.obj r))) (hf : getF H r = some fs) (hx : fs.lookup x = some p) : ev g L (.fld (.loc i) x) H = some (.p p, H) := by
  rw [ev_fldE, ev_loc hi]
  show ((getF H r).bind fun fs => (fs.lookup x).map V.p).bind _ = _
  rw [hf, Option.bind_some, hx]
  rfl
theorem ev_idx {g : G} {L : List (Option V)} {a i : E} {H H₁ H₂ : List O} {x y v : V} (h1 : ev g L a H = some (x, H₁)) (h2 : ev g L i H₁ = some (y, H₂)) (h3 : idxV g.tabs x y H₂ = some v) : ev g L (.idx a i) H = some (v, H₂) := bindS h1 (bindS h2 (bindS h3 rfl))
theorem evo_none (g : G) (L : List (Option V)) (H : List O) : evo g L none H = some (none, H) := rfl
theorem evo_some {g : G} {L : List (Option V)} {e : E} {H H₁ : List O} {x : V} (h : ev g L e H = some (x, H₁)) : evo g L (some e) H = some (some x, H₁) := bindS h rfl
theorem ev_sl {g : G} {L : List (Option V)} {a : E} {lo hi : Option E} {H H₁ H₂ H₃ : List O} {x : V} {y z : Option V} {r} (h1 : ev g L a H = some (x, H₁)) (h2 : evo g L lo H₁ = some (y, H₂)) (h3 : evo g L hi H₂ = some (z, H₃)) (h4 : slV x y z H₃ = some r) : ev g L (.sl a lo hi) H = some r := bindS h1 (bindS h2 (bindS h3 h4))
theorem ev_app {g : G} {L : List (Option V)} {a e : E} {H H₁ H₂ K : List O} {r : Nat} {v : V} (h1 : ev g L a H = some (.bm r, H₁)) (h2 : ev g L e H₁ = some (v, H₂)) (h3 : addTo r v H₂ = some K) : ev g L (.app a e) H = some (.p .none, K) := bindS h1 (bindS h2 (bindS (a := r) rfl (bindS h3 rfl)))
theorem ev_cal {g : G} {L : List (Option V)} {f : Nat} {es : List E} {H H₁ : List O} {vs : List V} {z} (h1 : evs g L es H = some (vs, H₁)) (h2 : g.call f vs H₁ = some z) : ev g L (.cal f es) H = some z := bindS h1 h2
theorem ev_sm {g : G} {L : List (Option V)} {b : SM} {a : E} {es : List E} {H H₁ H₂ : List O} {x : V} {vs : List V} {z} (h1 : ev g L a H = some (x, H₁)) (hr : rcOk x H₁ = true) (h2 : evs g L es H₁ = some (vs, H₂)) (h3 : smV g.tabs b x vs H₂ = some z) : ev g L (.sm b a es) H = some z := bindS h1 ((if_pos hr).trans (bindS h2 h3))
theorem ev_append {g : G} {L : List (Option V)} {i r : Nat} {e : E} {H H₁ : List O} {x : P} {l₀ l : List P} (hi : L[i]? = some (some (.ref r))) (h0 : getL H r = some l₀) (he : ev g L e H = some (.p x, H₁)) (hl : getL H₁ r = some l) (hk : ok l.length = true) :
    ev g L (.sm .append (.loc i) [e]) H = some (.p .none, H₁.set r (.list (l ++ [x]))) := by
  refine ev_sm (ev_loc hi) (by show (getL H r).isSome = true; rw [h0]; rfl) (evs_cons he (evs_nil _ _ _)) ?_
  exact bindS (o := getL H₁ r) hl (if_pos hk)
theorem ex_whl {g : G} {c : E} {b : List T} {loc H z} (h : whlL (fun loc H => evT g loc c (ev g loc c H) H) (fun loc H => exs g b loc H) fuel loc H = some z) : ex g (.whl c b) loc H = some z := h
theorem whl_stop {test : List (Option V) → List O → Option (Bool × List O)} {body} {n : Nat} {loc H H₁} (h : test loc H = some (false, H₁)) : whlL test body (n + 1) loc H = some (.next, loc, H₁) := bindS h rfl
theorem whl_go {test : List (Option V) → List O → Option (Bool × List O)} {body : List (Option V) → List O → Option Zt} {n : Nat} {loc H H₁ loc' H' z} (h : test loc H = some (true, H₁)) (hb : body loc H₁ = some (.next, loc', H') ∨ body loc H₁ = some (.cont, loc', H')) (hr : whlL test body n loc' H' = z) : whlL test body (n + 1) loc H = z := bindS h (hb.elim (fun hb => bindS hb hr) fun hb => bindS hb hr)
theorem ex_aug {g : G} {L L' : List (Option V)} {i : Nat} {e : E} {H H₁ H₂ : List O} {a b c : P} (hi : L[i]? = some (some (.p a))) (he : ev g L e H = some (.p b, H₁)) (hb : binP .add a b = some c) (ht : tgt (.one i) (.p c) L H₁ = some (L', H₂)) : ex g (.aug i .add e) L H = some (.next, L', H₂) := bindS (o := (L[i]?).join) (congrArg Option.join hi) (bindS he (bindS (o := addP a b) hb (bindS ht rfl)))
theorem ex_cont (g : G) (L : List (Option V)) (H : List O) : ex g .cont L H = some (.cont, L, H) := rfl
theorem evT_and {g : G} {L : List (Option V)} {es : List E} {H : List O} {z} (h : evC g L es H = some z) : evT g L (.and es) (ev g L (.and es) H) H = some z := h
theorem evC_nil (g : G) (L : List (Option V)) (H : List O) : evC g L [] H = some (true, H) := rfl
theorem evC_cons {g : G} {L : List (Option V)} {e : E} {r : List E} {H H₁ : List O} {t : Bool} {z} (h : evT g L e (ev g L e H) H = some (t, H₁)) (h2 : (if t then evC g L r H₁ else some (false, H₁)) = some z) : evC g L (e :: r) H = some z := bindS h h2
theorem bnds_int {i : Int} (h : oki i = true) : bnds (some (.p (.int i))) = some (some i) := if_pos h
theorem slV_str {x : List Nat} {lo hi : Option V} {a b : Option Int} {H : List O} (h1 : bnds lo = some a) (h2 : bnds hi = some b) (h : ok x.length = true) : slV (.p (.str x)) lo hi H = some (.p (.str (cut x a b)), H) := by
  rw [slV, h1, h2]
  exact if_pos h
theorem biV_range2 {a b : Int} {H : List O} (h1 : oki a = true) (h2 : oki b = true) : biV .range [.p (.int a), .p (.int b)] H = some (.rng a b, H) := if_pos (by rw [h1, h2]; rfl)
theorem biV_range1 {b : Int} {H : List O} (h : oki b = true) : biV .range [.p (.int b)] H = some (.rng 0 b, H) := if_pos h
theorem biV_chr {i : Int} {H : List O} (h : 0 ≤ i ∧ i < 0x110000) : biV .chr [.p (.int i)] H = some (.p (.str [i.toNat]), H) := if_pos (decide_eq_true h)
theorem ev_mth {g : G} {L : List (Option V)} {f : Nat} {n : Str} {a : E} {es : List E} {H H₁ H₂ : List O} {r : Nat} {fs : List (Str × P)} {vs : List V} {z} (h1 : ev g L a H = some (.obj r, H₁)) (h2 : getF H₁ r = some fs) (h3 : fs.lookup n = none) (h4 : evs g L es H₁ = some (vs, H₂)) (h5 : g.call f (.obj r :: vs) H₂ = some z) : ev g L (.mth f n a es) H = some z := bindS h1 (bindS (o := getF H₁ r) h2 ((if_pos (by rw [h3]; rfl)).trans (bindS h4 h5)))
theorem ev_new {g : G} {L : List (Option V)} {es : List E} {H H₁ K : List O} {vs : List V} (h1 : evs g L es H = some (vs, H₁)) (h2 : g.call g.init (.obj H₁.length :: vs) (H₁ ++ [.inst []]) = some (.p .none, K)) : ev g L (.new es) H = some (.obj H₁.length, K) := bindS h1 (bindS h2 rfl)
theorem ev_m1 {g : G} {L : List (Option V)} {H : List O} : ev g L (.neg (.lit (.int (1)))) H = some (.p (.int (-1)), H) := rfl
theorem ex_asgF {g : G} {L : List (Option V)} {a e : E} {n : Str} {H H₁ H₂ : List O} {x : P} {r : Nat} {fs : List (Str × P)} (he : ev g L e H = some (.p x, H₁)) (ho : ev g L a H₁ = some (.obj r, H₂)) (hf : getF H₂ r = some fs) (hk : fs.length ≤ 100) :
    ex g (.asgF a n e) L H = some (.next, L, H₂.set r (.inst (put fs n x))) := bindS he (bindS ho (bindS (o := getF H₂ r) hf (if_pos (decide_eq_true hk))))
theorem ex_ret {g : G} {L : List (Option V)} {e : E} {H H₁ : List O} {v : V} (h : ev g L e H = some (v, H₁)) : ex g (.ret e) L H = some (.ret v, L, H₁) := bindS h rfl
theorem binP_v {o : BOp} {a b c : P} {H : List O} (h : binP o a b = some c) : binV o (.p a) (.p b) H = some (.p c, H) := bindS (o := binP o a b) h rfl
theorem mulI {a b : Int} {H : List O} (h : oki a = true) : binV .mul (.p (.int a)) (.p (.int b)) H = some (.p (.int (a * b)), H) := binP_v (if_pos h)
theorem fdivI {a b : Int} {H : List O} (h : oki b = true) (h0 : 0 < b) : binV .fdiv (.p (.int a)) (.p (.int b)) H = some (.p (.int (a / b)), H) := binP_v (if_pos (by rw [h, decide_eq_true h0]; rfl))
theorem modI {a b : Int} {H : List O} (h0 : 0 < b) : binV .mod (.p (.int a)) (.p (.int b)) H = some (.p (.int (a % b)), H) := binP_v (if_pos (decide_eq_true h0))
theorem lenT {x : List P} {H : List O} (h : ok x.length = true) : biV .len [.p (.tup x)] H = some (.p (.int x.length), H) := if_pos h
theorem lenS {x : List Nat} {H : List O} (h : ok x.length = true) : biV .len [.p (.str x)] H = some (.p (.int x.length), H) := if_pos h
theorem lenR {r : Nat} {x : List P} {H : List O} (h1 : getL H r = some x) (h : ok x.length = true) : biV .len [.ref r] H = some (.p (.int x.length), H) := by
  show (((getL H r).map List.length).bind fun n => if ok n = true then some (V.p (.int n), H) else none) = _
  rw [h1]
  exact if_pos h
theorem items_rg {a b : Int} {H : List O} (h1 : oki a = true) (h2 : oki b = true) : itemsOf (.rng a b) H = some (rngL a b, none) := if_pos (by rw [h1, h2]; rfl)
theorem items_rf {r : Nat} {x : List P} {H : List O} (h1 : getL H r = some x) : itemsOf (.ref r) H = some (x, some r) := by
  show (getL H r).map _ = _
  rw [h1]
  rfl
theorem idxT {tabs : Nat → List P} {x : List P} {i : Int} {p : P} {H : List O} (h1 : inIdx i x.length = true) (h2 : x[nIdx i x.length]? = some p) : idxV tabs (.p (.tup x)) (.p (.int i)) H = some (.p p) := congrArg (Option.map V.p) ((if_pos h1).trans h2)
theorem idxR {tabs : Nat → List P} {r : Nat} {x : List P} {i : Int} {p : P} {H : List O} (h0 : getL H r = some x) (h1 : inIdx i x.length = true) (h2 : x[nIdx i x.length]? = some p) : idxV tabs (.ref r) (.p (.int i)) H = some (.p p) := by
  show ((getL H r).bind fun x => if inIdx i x.length = true then x[nIdx i x.length]? else none).map V.p = _
  rw [h0]
  exact congrArg (Option.map V.p) ((if_pos h1).trans h2)
theorem tidy_p {x : P} {H : List O} : tidy H.length (.p x) H = some (.p x, H) := by simp [tidy]
noncomputable def isNext (f : Fl) : Bool := match f with
  | .next => true
  | _ => false
theorem ne_next {f : Fl} (h : isNext f = false) : f ≠ .next := fun e => by rw [e] at h; cases h
theorem eq_chr (c d : Nat) : ([c] == [d]) = decide (c = d) := by
  by_cases h : c = d
  · rw [h, decide_eq_true rfl]; exact beq_self_eq_true _
  · rw [decide_eq_false h]; exact beq_eq_false_iff_ne.mpr fun e => h (List.cons.inj e).1
theorem eqc {c d : Nat} {H : List O} : cmpV .eq (.p (.str [c])) (.p (.str [d])) H = some (decide (c = d)) := congrArg some (eq_chr c d)
theorem eqc_t {c d : Nat} {H : List O} (h : c = d) : cmpV .eq (.p (.str [c])) (.p (.str [d])) H = some true := eqc.trans (congrArg some (decide_eq_true h))
theorem eqc_f {c d : Nat} {H : List O} (h : c ≠ d) : cmpV .eq (.p (.str [c])) (.p (.str [d])) H = some false := eqc.trans (congrArg some (decide_eq_false h))
theorem nec_t {c d : Nat} {H : List O} (h : c ≠ d) : cmpV .ne (.p (.str [c])) (.p (.str [d])) H = some true := congrArg (fun b => some (!b)) ((eq_chr c d).trans (decide_eq_false h))
theorem nec_f {c d : Nat} {H : List O} (h : c = d) : cmpV .ne (.p (.str [c])) (.p (.str [d])) H = some false := congrArg (fun b => some (!b)) ((eq_chr c d).trans (decide_eq_true h))
theorem eqi_t {a b : Int} {H : List O} (h : a = b) : cmpV .eq (.p (.int a)) (.p (.int b)) H = some true := congrArg some (beq_iff_eq.mpr h)
theorem eqi_f {a b : Int} {H : List O} (h : a ≠ b) : cmpV .eq (.p (.int a)) (.p (.int b)) H = some false := congrArg some (beq_eq_false_iff_ne.mpr h)
theorem nei_t {a b : Int} {H : List O} (h : a ≠ b) : cmpV .ne (.p (.int a)) (.p (.int b)) H = some true := congrArg (fun b => some (!b)) (beq_eq_false_iff_ne.mpr h)
theorem nei_f {a b : Int} {H : List O} (h : a = b) : cmpV .ne (.p (.int a)) (.p (.int b)) H = some false := congrArg (fun b => some (!b)) (beq_iff_eq.mpr h)
theorem lt_t {a b : Int} {H : List O} (h : a < b) : cmpV .lt (.p (.int a)) (.p (.int b)) H = some true := congrArg some (decide_eq_true h)
theorem lt_f {a b : Int} {H : List O} (h : ¬ a < b) : cmpV .lt (.p (.int a)) (.p (.int b)) H = some false := congrArg some (decide_eq_false h)
theorem ge_t {a b : Int} {H : List O} (h : b ≤ a) : cmpV .ge (.p (.int a)) (.p (.int b)) H = some true := congrArg some (decide_eq_true h)
theorem ge_f {a b : Int} {H : List O} (h : ¬ b ≤ a) : cmpV .ge (.p (.int a)) (.p (.int b)) H = some false := congrArg some (decide_eq_false h)
theorem le_t {a b : Int} {H : List O} (h : a ≤ b) : cmpV .le (.p (.int a)) (.p (.int b)) H = some true := congrArg some (decide_eq_true h)
theorem le_f {a b : Int} {H : List O} (h : ¬ a ≤ b) : cmpV .le (.p (.int a)) (.p (.int b)) H = some false := congrArg some (decide_eq_false h)
theorem lb_pm {o : Option P} {r : List (Option V)} : lb (o.map V.p :: r) = lb r := by
  cases o with
  | none => rfl
  | some _ => exact Nat.zero_max _
theorem lb_q {p : P} {r : List (Option V)} : lb (some (.p p) :: r) = lb r := Nat.zero_max _
theorem lb_rf {n : Nat} {r : List (Option V)} : lb (some (.ref n) :: r) = max (n + 1) (lb r) := rfl
theorem tidy_new {o : O} {H : List O} : tidy H.length (.ref H.length) (H ++ [o]) = some (.ref H.length, H ++ [o]) := by simp [tidy]
theorem oki_one : oki 1 = true := by decide
theorem ex_ifT {g : G} {L : List (Option V)} {c : E} {a b : List T} {H H₁ : List O} {z} (h : evT g L c (ev g L c H) H = some (true, H₁)) (h2 : exs g a L H₁ = some z) : ex g (.ifs c a b) L H = some z := ex_if h h2
theorem ex_ifF {g : G} {L : List (Option V)} {c : E} {a b : List T} {H H₁ : List O} {z} (h : evT g L c (ev g L c H) H = some (false, H₁)) (h2 : exs g b L H₁ = some z) : ex g (.ifs c a b) L H = some z := ex_if h h2
theorem evC_t {g : G} {L : List (Option V)} {e : E} {r : List E} {H H₁ : List O} {z} (h : evT g L e (ev g L e H) H = some (true, H₁)) (h2 : evC g L r H₁ = some z) : evC g L (e :: r) H = some z := evC_cons h h2
theorem evC_f {g : G} {L : List (Option V)} {e : E} {r : List E} {H H₁ : List O} (h : evT g L e (ev g L e H) H = some (false, H₁)) : evC g L (e :: r) H = some (false, H₁) := evC_cons h rfl
theorem exs_one {g : G} {t : T} {loc H} {loc' : List (Option V)} {H' : List O} (h : ex g t loc H = some (.next, loc', H')) (hg : gc H.length loc' H' = H') : exs g [t] loc H = some (.next, loc', H') := exs_step h hg rfl
theorem exs_1 {g : G} {t : T} {loc} {loc' : List (Option V)} {H : List O} (h : ex g t loc H = some (.next, loc', H)) : exs g [t] loc H = some (.next, loc', H) := exs_step h (gc_same _ _) rfl
theorem exs_s {g : G} {t : T} {r : List T} {loc loc' : List (Option V)} {H : List O} {z} (h : ex g t loc H = some (.next, loc', H)) (h2 : exs g r loc' H = z) : exs g (t :: r) loc H = z := exs_step h (gc_same _ _) h2
theorem add_strP {a b : List Nat} (h : a.length + b.length ≤ 1000000) : binP .add (.str a) (.str b) = some (.str (a ++ b)) := if_pos (ok_of h)
theorem addI {a b : Int} {H : List O} : binV .add (.p (.int a)) (.p (.int b)) H = some (.p (.int (a + b)), H) := rfl
theorem subI {a b : Int} {H : List O} : binV .sub (.p (.int a)) (.p (.int b)) H = some (.p (.int (a - b)), H) := rfl
theorem add_strP1 {a : List Nat} {c : Nat} (h : a.length + 1 ≤ 1000000) : binP .add (.str a) (.str [c]) = some (.str (a ++ [c])) := if_pos (ok_of h)
section
variable {all : List P} {w : Option Nat} {t : Tg} {bd : List (Option V) → List O → Option Zt} {x : P} {r : List P} {loc l₂ : List (Option V)} {H H₂ : List O} {q : List (Option V) × List O} {z : Option Zt} {f : Fl}
theorem forL_nil (h : stays w all H = true) : forL all w t bd [] loc H = some (.next, loc, H) := if_pos h
theorem forL_go (hs : stays w all H = true) (ht : tgt t (.p x) loc H = some q) (hb : bd q.1 q.2 = some (f, l₂, H₂)) (hf : f = .next ∨ f = .cont) (h : forL all w t bd r l₂ H₂ = z) : forL all w t bd (x :: r) loc H = z := by
  refine (if_pos hs).trans (bindS ht (bindS hb ?_))
  rcases hf with rfl | rfl <;> exact h
theorem forL_brk {v : List (Option V) × List O} (hs : stays w all H = true) (ht : tgt t (.p x) loc H = some q) (hb : bd q.1 q.2 = some (.brk, v)) : forL all w t bd (x :: r) loc H = some (.next, v) := (if_pos hs).trans (bindS ht (bindS hb rfl))
theorem forL_ret {v : V} {u : List (Option V) × List O} (hs : stays w all H = true) (ht : tgt t (.p x) loc H = some q) (hb : bd q.1 q.2 = some (.ret v, u)) : forL all w t bd (x :: r) loc H = some (.ret v, u) := (if_pos hs).trans (bindS ht (bindS hb rfl))
theorem orFl {b : Option Zt} {u : List (Option V) × List O} (h : b = some (.next, u) ∨ b = some (.cont, u)) : ∃ f, (f = .next ∨ f = .cont) ∧ b = some (f, u) := h.elim (fun h => ⟨_, .inl rfl, h⟩) fun h => ⟨_, .inr rfl, h⟩
end
end Mine
end
section
open PySem PySem.W PyProof.Rows PyProof.V
set_option Elab.async false
set_option maxRecDepth 20000
set_option linter.unusedSimpArgs false
namespace Mine
/-- a loop over items, state by state -/
theorem forL_fold {σ : Type} {all : List P} {t : Tg} {bd : List (Option V) → List O → Option Zt} (L : σ → List (Option V)) (Hh : σ → List O) (f : σ → P → σ) (G : σ → Prop) {w : Option Nat} (hw : ∀ s, G s → stays w all (Hh s) = true) :
    ∀ {items : List P} {s : σ}, G s → (∀ s x, x ∈ items → G s → G (f s x) ∧ ∃ q, tgt t (.p x) (L s) (Hh s) = some q ∧ (bd q.1 q.2 = some (.next, L (f s x), Hh (f s x)) ∨ bd q.1 q.2 = some (.cont, L (f s x), Hh (f s x)))) →
    forL all w t bd items (L s) (Hh s) = some (.next, L (items.foldl f s), Hh (items.foldl f s)) := by
  intro items
  induction items with
  | nil => exact fun hs _ => forL_nil (hw _ hs)
  | cons x r ih =>
    intro s hs h
    obtain ⟨h1, q, h2, h3⟩ := h s x (.head _) hs
    obtain ⟨fl, hf, h3⟩ := orFl h3
    exact forL_go (hw s hs) h2 h3 hf (ih h1 fun s x hx => h s x (.tail _ hx))
theorem runF_ret {g : G} {F : FD} {vs : List V} {H : List O} {v v' : V} {loc' : List (Option V)} {H' K : List O} (ha : vs.length = F.ar) (h : exs g F.body (loc0 F vs) H = some (.ret v, loc', H')) (ht : tidy H.length v H' = some (v', K)) : runF g F vs H = some (v', K) := by
  unfold runF
  simp [ha, h, ht]
/-- columns -/
noncomputable def colS (d : Int) (c : Int) (s : Nat) : Int := if s = 9 then c + d - c % d else c + 1
noncomputable def col (d : Int) (l : List Nat) : Int := l.foldl (colS d) 0
theorem run_column {g : G} {l : List Nat} {d : Int} {H : List O} (hd : 0 < d) : runF g pF_lw_column [.p (.str l), .p (.int d)] H = some (.p (.int (col d l)), H) := by
  let L : Int × Option V → List (Option V) := fun s => [some (.p (.str l)), some (.p (.int d)), some (.p (.int s.1)), s.2]
  let f : Int × Option V → P → Int × Option V := fun s x => match x with | .str [c] => (colS d s.1 c, some (.p (.str [c]))) | _ => s
  have fold : ∀ (l : List Nat) (s : Int × Option V), ((l.map fun c => P.str [c]).foldl f s).1 = l.foldl (colS d) s.1 := by
    intro l
    induction l with
    | nil => intro s; rfl
    | cons c l ih => intro s; simp only [List.map_cons, List.foldl_cons]; rw [ih]
  refine runF_ret (v := .p (.int (col d l))) rfl (loc' := L ((l.map fun c => P.str [c]).foldl f (0, none))) (H' := H) ?_ tidy_p
  refine exs_step (loc' := L (0, none)) (H' := H) rfl (gc_same _ _) ?_
  refine exs_step (loc' := L ((l.map fun c => P.str [c]).foldl f (0, none))) (H' := H) (ex_for rfl rfl ?_) (gc_same _ _) ?_
  · refine forL_fold L (fun _ => H) f (fun _ => True) (fun _ _ => rfl) trivial fun s x hx _ => ?_
    obtain ⟨c, hc, rfl⟩ := List.mem_map.mp hx
    refine ⟨trivial, ([some (.p (.str l)), some (.p (.int d)), some (.p (.int s.1)), some (.p (.str [c]))], H), rfl, .inl ?_⟩
    by_cases h9 : c = 9
    · refine exs_step (ex_if (t := true) (evT_cmp (ev_loc rfl) rfl (eqc_t h9)) (exs_step (ex_asg (ev_bin (ev_bin (ev_loc rfl) (ev_loc rfl) rfl) (ev_bin (ev_loc rfl) (ev_loc rfl) (modI hd)) rfl) rfl) (gc_same _ _) rfl)) (gc_same _ _) ?_
      rw [h9]
      rfl
    · refine exs_step (ex_if (t := false) (evT_cmp (ev_loc rfl) rfl (eqc_f h9)) (exs_step (ex_asg (ev_bin (ev_loc rfl) rfl rfl) rfl) (gc_same _ _) rfl)) (gc_same _ _) ?_
      have e : colS d s.1 c = s.1 + 1 := if_neg h9
      simp only [f, e]
      rfl
  · exact exs_stop (ex_ret ((ev_loc rfl).trans (by rw [show (((l.map fun c => P.str [c]).foldl f (0, none)).1) = col d l from fold _ _]))) (ne_next rfl)
end Mine
end
section
open PySem PySem.W PyProof.Rows PyProof.V
set_option Elab.async false
set_option maxRecDepth 20000
set_option linter.unusedSimpArgs false
namespace Mine
theorem getL_last (H : List O) (x : List P) : getL (H ++ [.list x]) H.length = some x := by simp [getL]
theorem getL_app {H : List O} {r : Nat} {x : List P} (h : getL H r = some x) (K : List O) : getL (H ++ K) r = some x := by
  have h1 := getL_some h
  have hlt := (List.getElem?_eq_some_iff.mp h1).1
  unfold getL
  rw [List.getElem?_append_left hlt, h1]
theorem getL_lt {H : List O} {r : Nat} {x : List P} (h : getL H r = some x) : r < H.length := (List.getElem?_eq_some_iff.mp (getL_some h)).1
theorem set_last (H : List O) (o o' : O) : (H ++ [o]).set H.length o' = H ++ [o'] := by
  rw [List.set_append_right _ _ (Nat.le_refl _)]; simp
theorem take_last (H : List O) (o : O) : (H ++ [o]).take (H.length + 1) = H ++ [o] := List.take_of_length_le (by simp)
theorem stays_app {w : Option Nat} {all : List P} {H : List O} (h : stays w all H = true) (K : List O) : stays w all (H ++ K) = true := by
  cases w with
  | none => rfl
  | some r =>
    have h1 := stays_ref h
    unfold stays
    simp only [getL_app h1]
    exact (beqs_iff _ _).mpr rfl
theorem stays_of {r : Nat} {all : List P} {H : List O} (h : getL H r = some all) : stays (some r) all H = true := by
  unfold stays
  simp only [h]
  exact (beqs_iff _ _).mpr rfl
/-- a comprehension's loop: what each item gives -/
theorem cmpL_run {all : List P} {w : Option Nat} {t : Tg} {turn : List (Option V) → List O → Option (List O)} {H : List O} (f : P → Option P) (Gd : List (Option V) → Prop) (hw : stays w all H = true) :
    ∀ {items : List P} {acc : List P} {loc : List (Option V)}, Gd loc → acc.length + items.length ≤ 1000000 →
      (∀ x ∈ items, ∀ loc acc, Gd loc → acc.length < 1000000 → ∃ loc', Gd loc' ∧ tgt t (.p x) loc (H ++ [.list acc]) = some (loc', H ++ [.list acc]) ∧ turn loc' (H ++ [.list acc]) = some (H ++ [.list (acc ++ (f x).toList)])) →
      cmpL all w t turn loc items (H ++ [.list acc]) = some (H ++ [.list (acc ++ items.filterMap f)])
  | [], acc, loc, _, _, _ => by simp [cmpL, stays_app hw]
  | x :: r, acc, loc, hl, hn, h => by
    obtain ⟨loc', h1, h2, h3⟩ := h x (.head _) loc acc hl (by simp at hn; lia)
    have hlen : (acc ++ (f x).toList).length + r.length ≤ 1000000 := by
      simp only [List.length_append, List.length_cons] at hn ⊢
      cases f x <;> simp <;> (first | exact Nat.le_of_lt ‹_› | lia)
    have ih := cmpL_run (all := all) (w := w) (t := t) (turn := turn) f Gd hw (items := r) (acc := acc ++ (f x).toList) h1 hlen (fun x hx => h x (.tail _ hx))
    simp only [cmpL, stays_app hw, if_true, h2, Option.bind_some, h3, ih]
    congr 2
    cases hf : f x <;> simp [hf]
theorem addTo_last {H : List O} {acc : List P} {x : P} (h : acc.length < 1000000) : addTo H.length (.p x) (H ++ [.list acc]) = some (H ++ [.list (acc ++ [x])]) := by
  simp only [addTo, getL_last, Option.bind_some, set_last, pl_mk]
  rw [if_pos (ok_of (Nat.le_of_lt h))]

/-- the numbers -/
noncomputable def fixed1 : List Int := [7, 4, 5, 1, 12, 8, 1, 3, 0, 17, 5, 9]
noncomputable def numbers1 (ns : List Int) : List Int := (ns.take 12).map (· % 1000000) ++ fixed1.drop ns.length
theorem getL_sh (H K : List O) (k : Nat) : getL (H ++ K) (H.length + k) = getL K k := by
  unfold getL
  rw [List.getElem?_append_right (Nat.le_add_right _ _), Nat.add_sub_cancel_left]
theorem getL_sh0 (H K : List O) : getL (H ++ K) H.length = getL K 0 := getL_sh H K 0
theorem set_sh (H K : List O) (k : Nat) (o : O) : (H ++ K).set (H.length + k) o = H ++ K.set k o := by
  rw [List.set_append_right _ _ (Nat.le_add_right _ _), Nat.add_sub_cancel_left]
theorem set_sh0 (H K : List O) (o : O) : (H ++ K).set H.length o = H ++ K.set 0 o := set_sh H K 0 o
theorem take_sh (H K : List O) (k : Nat) : (H ++ K).take (H.length + k) = H ++ K.take k := by
  rw [List.take_append, List.take_of_length_le (Nat.le_add_right _ _), Nat.add_sub_cancel_left]
theorem take_sh0 (H K : List O) : (H ++ K).take H.length = H := by simp
theorem len_sh (H K : List O) : (H ++ K).length = H.length + K.length := List.length_append
theorem cut_take {α : Type} (l : List α) (k : Nat) : cut l none (some (k : Int)) = l.take k := by
  unfold cut clip
  have : ¬ ((k : Int) < 0) := by lia
  simp only [Option.map_some, Option.getD_some, Option.map_none, Option.getD_none, if_neg this, Int.toNat_natCast, List.drop_zero, Nat.sub_zero]
  by_cases h : k ≤ l.length
  · rw [Nat.min_eq_left h]
  · rw [Nat.min_eq_right (by lia), List.take_of_length_le (Nat.le_refl _), List.take_of_length_le (by lia)]
theorem cut_drop {α : Type} (l : List α) (k : Nat) : cut l (some (k : Int)) none = l.drop k := by
  unfold cut clip
  have : ¬ ((k : Int) < 0) := by lia
  simp only [Option.map_some, Option.getD_some, Option.map_none, Option.getD_none, if_neg this, Int.toNat_natCast]
  rw [List.take_of_length_le (by simp)]
  by_cases h : k ≤ l.length
  · rw [Nat.min_eq_left h]
  · rw [Nat.min_eq_right (by lia), List.drop_of_length_le (Nat.le_refl _), List.drop_of_length_le (by lia)]
end Mine
end
section
open PySem PySem.W PyProof.Rows PyProof.V
set_option Elab.async false
set_option maxRecDepth 20000
set_option linter.unusedSimpArgs false
namespace Mine
theorem ok_0 : ok 0 = true := rfl
theorem ok_1 : ok 1 = true := rfl
theorem ok_2 : ok 2 = true := rfl
theorem ok_3 : ok 3 = true := rfl
theorem ok_4 : ok 4 = true := rfl
theorem getL_cons0 (x : List P) (K : List O) : getL (.list x :: K) 0 = some x := rfl
theorem getL_consS (o : O) (K : List O) (k : Nat) : getL (o :: K) (k + 1) = getL K k := rfl
/-- a loop over items; what holds may speak of the items that are left -/
theorem forL_fold2 {σ : Type} {all : List P} {t : Tg} {bd : List (Option V) → List O → Option Zt} (L : σ → List (Option V)) (Hh : σ → List O) (f : σ → P → σ) (G : List P → σ → Prop) {w : Option Nat} (hw : ∀ l s, G l s → stays w all (Hh s) = true)
    (h : ∀ s x r, G (x :: r) s → G r (f s x) ∧ ∃ q, tgt t (.p x) (L s) (Hh s) = some q ∧ (bd q.1 q.2 = some (.next, L (f s x), Hh (f s x)) ∨ bd q.1 q.2 = some (.cont, L (f s x), Hh (f s x)))) :
    ∀ {items : List P} {s : σ}, G items s → forL all w t bd items (L s) (Hh s) = some (.next, L (items.foldl f s), Hh (items.foldl f s)) := by
  intro items
  induction items with
  | nil => exact fun hs => forL_nil (hw _ _ hs)
  | cons x r ih =>
    intro s hs
    obtain ⟨h1, q, h2, h3⟩ := h s x r hs
    obtain ⟨fl, hf, h3⟩ := orFl h3
    exact forL_go (hw _ s hs) h2 h3 hf (ih h1)
noncomputable abbrev bl (n : Nat) : List Nat := List.replicate n 32
theorem rep_bl (n : Nat) : rep n [32] = bl n := List.flatten_replicate_singleton
theorem rep_one {α : Type} (n : Nat) (x : α) : rep n [x] = List.replicate n x := List.flatten_replicate_singleton
noncomputable def written (b : Nat) (s : Bool) : List Nat := if s then bl b ++ [61] else if b = 0 then [] else bl (b - 1) ++ [61, 50, 48]
theorem oki_nat {n : Nat} (h : n ≤ 1000000) : oki (n : Int) = true := oki_of (by lia)
theorem add_strV {a b : List Nat} {H : List O} (h : a.length + b.length ≤ 1000000) : binV .add (.p (.str a)) (.p (.str b)) H = some (.p (.str (a ++ b)), H) := binP_v (if_pos (ok_of h))
theorem mul_blV {b : Nat} {H : List O} (h : b ≤ 1000000) : binV .mul (.p (.str [32])) (.p (.int (b : Int))) H = some (.p (.str (bl b)), H) := by
  have e : binP .mul (.str [32]) (.int (b : Int)) = some (.str (rep (b : Int).toNat [32])) := by
    refine if_pos ?_
    show (oki (b : Int) && ok (1 * (b : Int).toNat)) = true
    rw [oki_nat h, Int.toNat_natCast, Nat.one_mul, ok_of h]
    rfl
  exact (binP_v e).trans (by rw [Int.toNat_natCast, rep_bl])
noncomputable def rowP (x : Nat × Bool) : P := .tup [.int x.1, .bool x.2]
noncomputable def rowsOf (size b : Nat) : List (Nat × Bool) := List.replicate (b / size) (size, true) ++ [(b % size, false)]
theorem gc_eq {n k : Nat} {loc : List (Option V)} {H : List O} (h : max n (lb loc) = k) : gc n loc H = H.take k := by unfold gc; rw [h]
noncomputable abbrev pN (b : Nat) : P := .int (b : Int)
end Mine
end
section
open PySem PySem.W PyProof.Rows PyProof.V
set_option Elab.async false
set_option maxRecDepth 20000
set_option linter.unusedSimpArgs false
namespace Mine
/-- what a Whitespace bears -/
structure Ws where
  raw : List Nat
  n : Int
  nt : Int
  cnt : List Int
  b : Int
noncomputable def Ws.norm (w : Ws) : P := .tup [.tup (w.cnt.map P.int), .int w.b]
noncomputable def Ws.fs (w : Ws) : List (Str × P) := [(Str.ofString "raw", .str w.raw), (Str.ofString "n", .int w.n), (Str.ofString "nt", .int w.nt), (Str.ofString "norm", w.norm), (Str.ofString "is_simple", .bool (decide (w.cnt.length ≤ 1)))]
theorem ws_raw (w : Ws) : w.fs.lookup (Str.ofString "raw") = some (.str w.raw) := rfl
theorem ws_n (w : Ws) : w.fs.lookup (Str.ofString "n") = some (.int w.n) := rfl
theorem ws_nt (w : Ws) : w.fs.lookup (Str.ofString "nt") = some (.int w.nt) := rfl
theorem ws_norm (w : Ws) : w.fs.lookup (Str.ofString "norm") = some w.norm := rfl
theorem ws_simple (w : Ws) : w.fs.lookup (Str.ofString "is_simple") = some (.bool (decide (w.cnt.length ≤ 1))) := rfl
/-- H bears a Whitespace at r -/
noncomputable def At1 (H : List O) (r : Nat) (w : Ws) : Prop := H[r]? = some (.inst w.fs)
theorem At1.f {H : List O} {r : Nat} {w : Ws} (h : At1 H r w) : getF H r = some w.fs := by unfold getF; rw [h]
theorem At1.app {H : List O} {r : Nat} {w : Ws} (h : At1 H r w) (K : List O) : At1 (H ++ K) r w := by
  unfold At1 at *
  rw [List.getElem?_append_left (List.getElem?_eq_some_iff.mp h).1]; exact h
noncomputable def Ws.long (w : Ws) : Int := max ((w.cnt.length : Int) - 1) w.b
theorem run_long {g : G} {w : Ws} {r : Nat} {H : List O} (h : At1 H r w) (hl : w.cnt.length ≤ 1000) : runF g pF_longest_run_of_spaces [.obj r] H = some (.p (.int w.long), H) := by
  have hk : ok w.cnt.length = true := ok_of (by exact Nat.le_trans ‹_› (by decide))
  refine runF_ret (v := .p (.int w.long)) rfl (loc' := [some (.obj r), some (.p (.tup (w.cnt.map P.int))), some (.p (.int w.b))]) (H' := H) ?_ tidy_p
  refine exs_step (ex_asg (v := .p w.norm) (ev_fldG rfl h.f rfl) rfl) (gc_same _ _) (exs_stop (ex_ret (ev_bi (evs_cons (ev_bin (ev_bi (evs_cons (ev_loc rfl) (evs_nil _ _ _)) (lenT (by rw [List.length_map]; exact hk))) rfl rfl) (evs_cons (ev_loc rfl) (evs_nil _ _ _))) ?_)) (ne_next rfl))
  rw [List.length_map]
  rfl
noncomputable def ilF (cnt : List Int) (ts : Int) (il i : Int) : Int := il + i / ts * cnt.getD i.toNat 0
noncomputable def rngI (a b : Int) : List Int := (List.range (b - a).toNat).map fun (k : Nat) => a + k
theorem rngL_eq (a b : Int) : rngL a b = (rngI a b).map P.int := by simp [rngL, rngI]
noncomputable def Ws.ind (w : Ws) (ts : Int) : Int := w.b + ts * ((rngI ts w.cnt.length).foldl (ilF w.cnt ts) 0 + w.nt)
theorem run_ind {g : G} {w : Ws} {r : Nat} {ts : Int} {H : List O} (h : At1 H r w) (hl : w.cnt.length ≤ 1000) (h0 : 0 < ts) (h1 : ts ≤ 1000) : runF g pF_indent_level [.obj r, .p (.int ts)] H = some (.p (.int (w.ind ts)), H) := by
  have hk : ok w.cnt.length = true := ok_of (by exact Nat.le_trans ‹_› (by decide))
  have ht : oki ts = true := oki_of (by lia)
  have hcl : oki (w.cnt.length : Int) = true := oki_nat (by exact Nat.le_trans ‹_› (by decide))
  let L : Int × Option P → List (Option V) := fun s => [some (.obj r), some (.p (.int ts)), some (.p (.tup (w.cnt.map P.int))), some (.p (.int w.b)), some (.p (.int s.1)), s.2.map V.p]
  let f : Int × Option P → P → Int × Option P := fun s x => match x with | .int i => (ilF w.cnt ts s.1 i, some (.int i)) | _ => s
  have fold : ∀ (l : List Int) (s : Int × Option P), ((l.map P.int).foldl f s).1 = l.foldl (ilF w.cnt ts) s.1 := by
    intro l
    induction l with
    | nil => intro s; rfl
    | cons c l ih => intro s; simp only [List.map_cons, List.foldl_cons]; rw [ih]
  let fin := ((rngI ts w.cnt.length).map P.int).foldl f (0, none)
  have hlen : (w.cnt.map P.int).length = w.cnt.length := List.length_map _
  refine runF_ret (v := .p (.int (w.ind ts))) rfl (loc' := L fin) (H' := H) ?_ tidy_p
  refine exs_step (loc' := [some (.obj r), some (.p (.int ts)), some (.p (.tup (w.cnt.map P.int))), some (.p (.int w.b)), none, none]) (ex_asg (v := .p w.norm) (ev_fldG rfl h.f rfl) rfl) (gc_same _ _) ?_
  refine exs_step (loc' := L (0, none)) (H' := H) rfl (gc_same _ _) ?_
  refine exs_step (loc' := L fin) (H' := H) (ex_for (v := .rng ts w.cnt.length) (H₁ := H) (ps := rngL ts w.cnt.length) (w := none) (ev_bi (evs_cons (ev_loc rfl) (evs_cons (ev_bi (evs_cons (ev_loc rfl) (evs_nil _ _ _)) (lenT (by rw [hlen]; exact hk))) (evs_nil _ _ _))) (by rw [hlen]; exact biV_range2 ht hcl)) (items_rg ht hcl) ?_) (gc_same _ _) ?_
  · rw [rngL_eq]
    refine forL_fold2 L (fun _ => H) f (fun l s => ∃ is : List Int, l = is.map P.int ∧ ∀ i ∈ is, ts ≤ i ∧ i < w.cnt.length) (fun _ _ _ => rfl) ?_ (s := (0, none)) ⟨_, rfl, fun i hi => ?_⟩
    · rintro s x rr ⟨is, he, hi⟩
      match is, he with
      | i :: is, he =>
        simp only [List.map_cons, List.cons.injEq] at he
        obtain ⟨rfl, rfl⟩ := he
        obtain ⟨a1, a2⟩ := hi i (.head _)
        refine ⟨⟨is, rfl, fun j hj => hi j (.tail _ hj)⟩, (L (s.1, some (.int i)), H), rfl, .inl ?_⟩
        have q1 : oki i = true := oki_of (by lia)
        have q2 : oki (i / ts) = true := oki_of ⟨by have := Int.ediv_nonneg (show 0 ≤ i by lia) (show 0 ≤ ts by lia); lia, by have := Int.ediv_le_self ts (show 0 ≤ i by lia); lia⟩
        have q3 : ¬ i < 0 := by lia
        have q4 : i.toNat < w.cnt.length := by lia
        refine exs_step (loc' := L (f s (.int i))) (H' := H) ?_ (gc_same _ _) rfl
        refine ex_asg (ev_bin (ev_loc rfl) (ev_bin (ev_bin (ev_loc rfl) (ev_loc rfl) (fdivI ht h0)) (ev_idx (ev_loc rfl) (ev_loc rfl) (idxT (p := .int (w.cnt.getD i.toNat 0)) ?_ ?_)) (mulI q2)) rfl) rfl
        · rw [hlen]
          show (oki i && _) = true
          rw [q1, decide_eq_true (show 0 ≤ i ∧ i < (w.cnt.length : Int) from ⟨by lia, a2⟩)]
          rfl
        · unfold nIdx
          rw [if_neg q3, List.getElem?_map, List.getD_eq_getElem?_getD, List.getElem?_eq_getElem q4]
          rfl
    · simp only [rngI, List.mem_map, List.mem_range] at hi
      obtain ⟨k, hk, rfl⟩ := hi
      lia
  · have e : w.ind ts = w.b + ts * (fin.1 + w.nt) := by unfold Ws.ind; rw [show fin.1 = _ from fold _ _]
    rw [e]
    exact exs_stop (ex_ret (ev_bin (ev_loc rfl) (ev_bin (ev_loc rfl) (ev_bin (ev_loc rfl) (ev_fldG rfl h.f rfl) rfl) (mulI ht)) rfl)) (ne_next rfl)
end Mine
end
section
open PySem PySem.W PyProof.Rows PyProof.V
set_option Elab.async false
set_option maxRecDepth 20000
set_option linter.unusedSimpArgs false
namespace Mine
theorem lvl_call {k f : Nat} {F : FD} {vs : List V} {H : List O} {z} (hF : pgDefs2 f = some ⟨F, none⟩) (h : runF (pg2.lvl k) F vs H = some z) : (pg2.lvl (k + 1)).call f vs H = some z := by
  show (pgDefs2 f).bind (fun c => runC (pg2.lvl k) c vs H) = some z
  rw [hF]; exact h
noncomputable def witP (w u : Ws) (ts : Int) : P := .tup [.int ts, .int (w.ind ts), .int (u.ind ts)]
noncomputable def topN (w u : Ws) : Int := max w.long u.long + 1
noncomputable def wits (w u : Ws) (c : Int → Bool) : List P := ((rngI 1 (topN w u + 1)).filter c).map (witP w u)
theorem fs_ind (w : Ws) : w.fs.lookup (Str.ofString "indent_level") = none := rfl
theorem fs_long (w : Ws) : w.fs.lookup (Str.ofString "longest_run_of_spaces") = none := rfl
/-- what the two measures of a lead answer -/
structure WsG (g : G) : Prop where
  long : ∀ {w : Ws} {r : Nat} {H : List O}, At1 H r w → w.cnt.length ≤ 1000 → g.call 11 [.obj r] H = some (.p (.int w.long), H)
  ind : ∀ {w : Ws} {r : Nat} {H : List O} {ts : Int}, At1 H r w → w.cnt.length ≤ 1000 → 0 < ts → ts ≤ 1000 → g.call 12 [.obj r, .p (.int ts)] H = some (.p (.int (w.ind ts)), H)
theorem ev_long {g : G} (W : WsG g) {w : Ws} {r i : Nat} {L : List (Option V)} {H : List O} (hi : L[i]? = some (some (.obj r))) (h : At1 H r w) (hl : w.cnt.length ≤ 1000) : ev g L (.mth 11 (Str.ofString "longest_run_of_spaces") (.loc i) []) H = some (.p (.int w.long), H) := by
  simp only [ev_locE, ev_mthE, evs_nilE, hi, Option.bind_some, h.f, fs_long, Option.isNone_none, if_true, Option.join_some, ob_mk]
  exact W.long h hl
theorem ev_ind {g : G} (W : WsG g) {w : Ws} {r i j : Nat} {ts : Int} {L : List (Option V)} {H : List O} (hi : L[i]? = some (some (.obj r))) (hj : L[j]? = some (some (.p (.int ts)))) (h : At1 H r w) (hl : w.cnt.length ≤ 1000) (h0 : 0 < ts) (h1 : ts ≤ 1000) :
    ev g L (.mth 12 (Str.ofString "indent_level") (.loc i) [(.loc j)]) H = some (.p (.int (w.ind ts)), H) := by
  simp only [ev_locE, ev_mthE, evs_nilE, evs_consE, hi, hj, Option.bind_some, h.f, fs_ind, Option.isNone_none, if_true, Option.join_some, ob_mk]
  exact W.ind h hl h0 h1
theorem topN_ge {w u : Ws} (hc : 1 ≤ w.cnt.length) : 1 ≤ topN w u :=
  Int.add_le_add_right (Int.le_trans (Int.le_trans (show (0 : Int) ≤ (w.cnt.length : Int) - 1 by lia) (Int.le_max_left _ _)) (Int.le_max_left w.long u.long)) 1
theorem long_le {w : Ws} (hl : w.cnt.length ≤ 900) (hb : w.b ≤ 900) : w.long ≤ 900 := Int.max_le.mpr ⟨by lia, hb⟩
theorem topN_le {w u : Ws} (hl : w.cnt.length ≤ 900) (hl' : u.cnt.length ≤ 900) (hb : w.b ≤ 900) (hb' : u.b ≤ 900) : topN w u ≤ 901 :=
  Int.add_le_add_right (Int.max_le.mpr ⟨long_le hl hb, long_le hl' hb'⟩) 1
theorem run_nless {g : G} (W : WsG g) {w u : Ws} {r q : Nat} {H : List O} (h : At1 H r w) (h' : At1 H q u) (hl : w.cnt.length ≤ 900) (hl' : u.cnt.length ≤ 900) (hb : w.b ≤ 900) (hb' : u.b ≤ 900) (hc : 1 ≤ w.cnt.length) :
    runF g qF_not_less_witness [.obj r, .obj q] H = some (.ref H.length, H ++ [.list (wits w u fun ts => decide (u.ind ts ≤ w.ind ts))]) := by
  have hrl : r < H.length := (List.getElem?_eq_some_iff.mp h).1
  have hql : q < H.length := (List.getElem?_eq_some_iff.mp h').1
  have hn1 : 1 ≤ topN w u := topN_ge hc
  have hn2 : topN w u ≤ 901 := topN_le hl hl' hb hb'
  let c : Int → Bool := fun ts => decide (u.ind ts ≤ w.ind ts)
  let L : List P × Option P → List (Option V) := fun s => [some (.obj r), some (.obj q), some (.p (.int (topN w u))), some (.ref H.length), s.2.map V.p]
  let Hh : List P × Option P → List O := fun s => H ++ [.list s.1]
  let f : List P × Option P → P → List P × Option P := fun s x => match x with | .int ts => (s.1 ++ (if c ts then [witP w u ts] else []), some (.int ts)) | _ => s
  have fold : ∀ (l : List Int) (s : List P × Option P), ((l.map P.int).foldl f s).1 = s.1 ++ (l.filter c).map (witP w u) := by
    intro l
    induction l with
    | nil => intro s; simp
    | cons a l ih =>
      intro s
      rw [List.map_cons, List.foldl_cons, ih]
      simp only [f, List.filter_cons]
      split <;> simp
  let fin := ((rngI 1 (topN w u + 1)).map P.int).foldl f ([], none)
  have hlb : ∀ (s : List P × Option P), lb (L s) = H.length + 1 := by
    intro s
    show max (r + 1) (max (q + 1) (lb (some (.p _) :: some (.ref H.length) :: [s.2.map V.p]))) = _
    rw [lb_q, lb_rf, lb_pm, show lb [] = 0 from rfl, Nat.max_zero, Nat.max_eq_right (Nat.succ_le_succ (Nat.le_of_lt hql)), Nat.max_eq_right (Nat.succ_le_succ (Nat.le_of_lt hrl))]
  have hgc : ∀ (s : List P × Option P) (K : List O) (n : Nat), n ≤ H.length + 1 → gc n (L s) (H ++ K) = H ++ K.take 1 := by
    intro s K n hn
    rw [gc_eq (k := H.length + 1) (by rw [hlb]; lia), take_sh]
  refine runF_ret (v := .ref H.length) rfl (loc' := L fin) (H' := Hh fin) ?_ (tidy_new.trans (by rw [show fin.1 = _ from fold _ _]; rfl))
  refine exs_step (loc' := [some (.obj r), some (.obj q), some (.p (.int (topN w u))), none, none]) (H' := H) ?_ (gc_same _ _) ?_
  · exact ex_asg (ev_bin (ev_bi (evs_cons (ev_long W rfl h (by lia)) (evs_cons (ev_long W rfl h' (by lia)) (evs_nil _ _ _))) rfl) rfl rfl) rfl
  refine exs_step (loc' := L ([], none)) (H' := Hh ([], none)) rfl (H'' := Hh ([], none)) (hgc _ _ _ (Nat.le_succ _)) ?_
  have ho1 : oki (topN w u + 1) = true := oki_of (by lia)
  refine exs_step (loc' := L fin) (H' := Hh fin) (ex_for (v := .rng 1 (topN w u + 1)) (H₁ := Hh ([], none)) (ps := rngL 1 (topN w u + 1)) (w := none) ?_ ?_ ?_) (H'' := Hh fin) (hgc _ _ _ (by simp [Hh])) ?_
  · exact ev_bi (evs_cons rfl (evs_cons (ev_bin (ev_loc rfl) rfl rfl) (evs_nil _ _ _))) (biV_range2 oki_one ho1)
  · exact items_rg oki_one ho1
  · rw [rngL_eq]
    refine forL_fold2 L Hh f (fun l s => (∃ is : List Int, l = is.map P.int ∧ ∀ i ∈ is, 1 ≤ i ∧ i ≤ 901) ∧ s.1.length + l.length ≤ 2000) (fun _ _ _ => rfl) ?_ (s := ([], none)) ⟨⟨_, rfl, fun i hi => ?_⟩, ?_⟩
    · rintro s x rr ⟨⟨is, he, hi⟩, hlen⟩
      match is, he with
      | i :: is, he =>
        simp only [List.map_cons, List.cons.injEq] at he
        obtain ⟨rfl, rfl⟩ := he
        obtain ⟨a1, a2⟩ := hi i (.head _)
        simp only [List.length_cons] at hlen
        refine ⟨⟨⟨is, rfl, fun j hj => hi j (.tail _ hj)⟩, ?_⟩, (L (s.1, some (.int i)), Hh s), rfl, .inl ?_⟩
        · simp only [f, List.length_append]
          split <;> simp at hlen ⊢ <;> lia
        · have i1 := ev_ind W (L := L (s.1, some (.int i))) (H := Hh s) (i := 0) (j := 4) (ts := i) rfl rfl (h.app _) (by lia) (by lia) (by lia)
          have i2 := ev_ind W (L := L (s.1, some (.int i))) (H := Hh s) (i := 1) (j := 4) (ts := i) rfl rfl (h'.app _) (by lia) (by lia) (by lia)
          refine exs_step (loc' := L (f s (.int i))) (H' := Hh (f s (.int i))) (ex_if (t := c i) (evT_cmp i1 i2 rfl) ?_) (H'' := Hh (f s (.int i))) (hgc _ _ _ (by simp [Hh])) rfl
          cases hc : c i with
          | false =>
            simp only [Bool.false_eq_true, if_false]
            show some _ = some _
            simp [f, hc, L, Hh]
          | true =>
            simp only [if_true]
            have hlen' : ok s.1.length = true := ok_of (by simp at hlen; lia)
            have e1 : ev (g) (L (s.1, some (.int i))) (.tup [(.loc 4), (.mth 12 (Str.ofString "indent_level") (.loc 0) [(.loc 4)]), (.mth 12 (Str.ofString "indent_level") (.loc 1) [(.loc 4)])]) (Hh s) = some (.p (witP w u i), Hh s) := by
              rw [ev_tupE, evs_cons (ev_loc rfl) (evs_cons i1 (evs_cons i2 (evs_nil _ _ _)))]
              rfl
            refine exs_step (loc' := L (f s (.int i))) (H' := Hh (f s (.int i))) ?_ (H'' := Hh (f s (.int i))) (hgc _ _ _ (by simp [Hh])) rfl
            refine (ex_ex (ev_append rfl (getL_last _ _) e1 (getL_last _ _) hlen')).trans ?_
            simp only [Hh, set_last, f, hc, if_true, L]
    · simp only [rngI, List.mem_map, List.mem_range] at hi
      obtain ⟨k, hk, rfl⟩ := hi
      lia
    · simp [rngI]; lia
  · exact exs_stop (ex_ret (ev_loc rfl)) (ne_next rfl)
end Mine
end
section
open PySem PySem.W PyProof.Rows PyProof.V
set_option Elab.async false
set_option maxRecDepth 20000
set_option linter.unusedSimpArgs false
namespace Mine
theorem ev_fld {g : G} {L : List (Option V)} {i r : Nat} {H : List O} {w : Ws} {x : Str} {p : P} (hi : L[i]? = some (some (.obj r))) (h : At1 H r w) (hx : w.fs.lookup x = some p) : ev g L (.fld (.loc i) x) H = some (.p p, H) := by
  simp only [ev_locE, ev_fldE, hi, Option.bind_some, fldV, h.f, hx, Option.map_some, ob_mk, Option.join_some]
/-- a loop that leaves the function at the first item of a kind -/
theorem forL_find {all : List P} {t : Tg} {bd : List (Option V) → List O → Option Zt} (L : Option P → List (Option V)) (H : List O) (c : P → Bool) (v : V)
    (h : ∀ o x, x ∈ all → tgt t (.p x) (L o) H = some (L (some x), H) ∧ bd (L (some x)) H = some (if c x then .ret v else .next, L (some x), H)) :
    ∀ {items : List P} (o : Option P), (∀ x ∈ items, x ∈ all) → ∃ o', forL all none t bd items (L o) H = some (if items.any c then .ret v else .next, L o', H) := by
  intro items
  induction items with
  | nil => exact fun o _ => ⟨o, forL_nil rfl⟩
  | cons x r ih =>
    intro o hs
    obtain ⟨h1, h2⟩ := h o x (hs x (.head _))
    rw [List.any_cons]
    cases hc : c x with
    | true => rw [hc] at h2; exact ⟨some x, forL_ret rfl h1 h2⟩
    | false =>
      rw [hc] at h2
      obtain ⟨o', ih⟩ := ih (some x) fun y hy => hs y (.tail _ hy)
      exact ⟨o', forL_go rfl h1 h2 (.inl rfl) ih⟩
theorem ex_for_ret {g : G} {t : Tg} {it : E} {b : List T} {loc H v H₁ ps w z} (h1 : ev g loc it H = some (v, H₁)) (h2 : itemsOf v H₁ = some (ps, w)) (h3 : forL ps w t (fun loc H => exs g b loc H) ps loc H₁ = some z) : ex g (.fore t it b) loc H = some z := ex_for h1 h2 h3
noncomputable def Ws.simple (w : Ws) : Bool := decide (w.cnt.length ≤ 1)
noncomputable def lessB (w u : Ws) : Bool := if u.n ≤ w.n then false else if w.simple && u.simple then decide (w.nt ≤ u.nt) else (rngI 2 (topN w u + 1)).all fun ts => decide (w.ind ts < u.ind ts)
theorem run_less {g : G} (W : WsG g) {w u : Ws} {r q : Nat} {H : List O} (h : At1 H r w) (h' : At1 H q u) (hl : w.cnt.length ≤ 900) (hl' : u.cnt.length ≤ 900) (hb : w.b ≤ 900) (hb' : u.b ≤ 900) (hc : 1 ≤ w.cnt.length) :
    runF g pF_less [.obj r, .obj q] H = some (.p (.bool (lessB w u)), H) := by
  have hn1 : 1 ≤ topN w u := topN_ge hc
  have hn2 : topN w u ≤ 901 := topN_le hl hl' hb hb'
  let L0 : List (Option V) := [some (.obj r), some (.obj q), none, none]
  suffices hs : ∃ loc', exs g pb_less L0 H = some (.ret (.p (.bool (lessB w u))), loc', H) by
    obtain ⟨loc', hs⟩ := hs
    exact runF_ret (v := .p (.bool (lessB w u))) rfl hs tidy_p
  unfold lessB
  by_cases c1 : u.n ≤ w.n
  · rw [if_pos c1]
    exact ⟨L0, exs_stop (ex_ifT (evT_cmp (ev_fld rfl h (ws_n w)) (ev_fld rfl h' (ws_n u)) (ge_t c1)) (exs_stop (ex_ret rfl) (ne_next rfl))) (ne_next rfl)⟩
  · have s1 : ex g (.ifs (.cmp .ge (.fld (.loc 0) (Str.ofString "n")) (.fld (.loc 1) (Str.ofString "n"))) [.ret (.lit (.bool false))] []) L0 H = some (.next, L0, H) := by
      exact ex_ifF (evT_cmp (ev_fld rfl h (ws_n w)) (ev_fld rfl h' (ws_n u)) (ge_f c1)) rfl
    have a1 : evT g L0 (.and [(.fld (.loc 0) (Str.ofString "is_simple")), (.fld (.loc 1) (Str.ofString "is_simple"))]) (ev g L0 (.and [(.fld (.loc 0) (Str.ofString "is_simple")), (.fld (.loc 1) (Str.ofString "is_simple"))]) H) H = some (w.simple && u.simple, H) := by
      have f1 := ev_fld (g := g) (L := L0) (i := 0) rfl h (ws_simple w)
      have f2 := ev_fld (g := g) (L := L0) (i := 1) rfl h' (ws_simple u)
      simp only [evT_andE, evT_fldE, evC_nilE, evC_consE, f1, f2, Option.bind_some, truV, truP]
      unfold Ws.simple
      by_cases d1 : w.cnt.length ≤ 1 <;> by_cases d2 : u.cnt.length ≤ 1 <;> simp [d1, d2]
    rw [if_neg c1]
    by_cases c2 : (w.simple && u.simple) = true
    · refine ⟨L0, exs_step s1 (gc_same _ _) (exs_stop (ex_ifT (by rw [a1, c2]) ?_) (ne_next rfl))⟩
      refine (exs_stop (ex_ret (ev_cmp (ev_fld rfl h (ws_nt w)) (ev_fld rfl h' (ws_nt u)) (z := decide (w.nt ≤ u.nt)) rfl)) (ne_next rfl)).trans ?_
      rw [if_pos c2]
    · have c2 : (w.simple && u.simple) = false := by simpa using c2
      rw [c2]
      simp only [Bool.false_eq_true, if_false]
      have s2 : ex g (.ifs (.and [(.fld (.loc 0) (Str.ofString "is_simple")), (.fld (.loc 1) (Str.ofString "is_simple"))]) [.ret (.cmp .le (.fld (.loc 0) (Str.ofString "nt")) (.fld (.loc 1) (Str.ofString "nt")))] []) L0 H = some (.next, L0, H) := ex_ifF (by rw [a1, c2]) rfl
      let L : Option P → List (Option V) := fun o => [some (.obj r), some (.obj q), some (.p (.int (topN w u))), o.map V.p]
      have s3 : ex g (.asg (.one 2) (.bin .add (.bi .max [(.mth 11 (Str.ofString "longest_run_of_spaces") (.loc 0) []), (.mth 11 (Str.ofString "longest_run_of_spaces") (.loc 1) [])]) (.lit (.int (1))))) L0 H = some (.next, L none, H) :=
        ex_asg (ev_bin (ev_bi (evs_cons (ev_long W rfl h (by exact Nat.le_trans ‹_› (by decide))) (evs_cons (ev_long W rfl h' (by exact Nat.le_trans ‹_› (by decide))) (evs_nil _ _ _))) rfl) rfl rfl) rfl
      have ho1 : oki (topN w u + 1) = true := oki_of (by lia)
      have ho2 : oki 2 = true := by decide
      let cc : P → Bool := fun x => match x with | .int ts => !decide (w.ind ts < u.ind ts) | _ => false
      obtain ⟨o', hf⟩ := forL_find (all := rngL 2 (topN w u + 1)) (t := .one 3) (bd := fun loc H => exs g [.ifs (.cmp .ge (.mth 12 (Str.ofString "indent_level") (.loc 0) [(.loc 3)]) (.mth 12 (Str.ofString "indent_level") (.loc 1) [(.loc 3)])) [.ret (.lit (.bool false))] []] loc H) L H cc (.p (.bool false)) (by
        intro o x hx
        rw [rngL_eq] at hx
        obtain ⟨i, hi, rfl⟩ := List.mem_map.mp hx
        have hb : 2 ≤ i ∧ i ≤ 901 := by
          simp only [rngI, List.mem_map, List.mem_range] at hi
          obtain ⟨k, hk, rfl⟩ := hi
          lia
        refine ⟨rfl, ?_⟩
        have i1 := ev_ind W (L := L (some (.int i))) (H := H) (i := 0) (j := 3) (ts := i) rfl rfl h (by exact Nat.le_trans ‹_› (by decide)) (by lia) (by lia)
        have i2 := ev_ind W (L := L (some (.int i))) (H := H) (i := 1) (j := 3) (ts := i) rfl rfl h' (by exact Nat.le_trans ‹_› (by decide)) (by lia) (by lia)
        by_cases hlt : w.ind i < u.ind i
        · have e := ex_if (g := g) (a := [.ret (.lit (.bool false))]) (b := []) (t := false) (evT_cmp i1 i2 (o := .ge) (z := false) (ge_f (Int.not_le.mpr hlt))) rfl
          rw [exs_step e (gc_same _ _) rfl]
          simp [cc, hlt, exs_nilE]
        · have e := ex_if (g := g) (a := [.ret (.lit (.bool false))]) (b := []) (t := true) (evT_cmp i1 i2 (o := .ge) (z := true) (ge_t (Int.not_lt.mp hlt))) (z := (.ret (.p (.bool false)), L (some (.int i)), H)) rfl
          rw [exs_stop e (ne_next rfl)]
          simp [cc, hlt]) (items := rngL 2 (topN w u + 1)) none (fun _ hx => hx)
      have hany : (rngL 2 (topN w u + 1)).any cc = !((rngI 2 (topN w u + 1)).all fun ts => decide (w.ind ts < u.ind ts)) := by
        rw [rngL_eq]
        generalize rngI 2 (topN w u + 1) = l
        induction l with
        | nil => rfl
        | cons a l ih => simp only [List.map_cons, List.any_cons, List.all_cons, ih, Bool.not_and, cc]
      rw [hany] at hf
      have s4 := ex_for (g := g) (it := .bi .range [(.lit (.int (2))), (.bin .add (.loc 2) (.lit (.int (1))))]) (loc := L none) (H := H) (v := .rng 2 (topN w u + 1)) (H₁ := H) (w := none) (ev_bi (evs_cons rfl (evs_cons (ev_bin (ev_loc rfl) rfl rfl) (evs_nil _ _ _))) (by simp [biV, ho1, ho2, biA, rngV, one_mk, int_mk, Option.bind_some])) (by simp [itemsOf, ho1, ho2]) hf
      refine ⟨L o', exs_step s1 (gc_same _ _) (exs_step s2 (gc_same _ _) (exs_step s3 (gc_same _ _) ?_))⟩
      cases hall : (rngI 2 (topN w u + 1)).all fun ts => decide (w.ind ts < u.ind ts) with
      | true =>
        rw [hall] at s4
        exact exs_step s4 (gc_same _ _) (exs_stop rfl (ne_next rfl))
      | false =>
        rw [hall] at s4
        exact exs_stop s4 (ne_next rfl)
end Mine
end
section
open PySem PySem.W PyProof.Rows PyProof.V
set_option Elab.async false
set_option maxRecDepth 20000
set_option linter.unusedSimpArgs false
namespace Mine
structure Is where
  cnt : List Int
  b : Nat
  n : Nat
  nt : Nat
noncomputable def pad (c : List Int) (b : Nat) : List Int := if c.length ≤ b then c ++ List.replicate (b - c.length + 1) 0 else c
noncomputable def bump (c : List Int) (b : Nat) : List Int := (pad c b).set b ((pad c b).getD b 0 + 1)
noncomputable def scan : List Nat → Is → Is
  | [], s => s
  | c :: r, s => if c = 32 then scan r ⟨s.cnt, s.b + 1, s.n + 1, s.nt⟩ else if c = 9 then scan r ⟨bump s.cnt s.b, 0, s.n + 1, s.nt + 1⟩ else s
noncomputable def wsOf (l : List Nat) : Ws := let s := scan l ⟨[], 0, 0, 0⟩; ⟨l, s.n, s.nt, s.cnt, s.b⟩
theorem gc_top {n : Nat} {loc : List (Option V)} {H : List O} (h : H.length ≤ lb loc) : gc n loc H = H := by
  unfold gc
  exact List.take_of_length_le (Nat.le_trans h (Nat.le_max_right _ _))
noncomputable def Lc (r : Nat) (ws : List Nat) (k : Nat) (s : Is) (o : Option P) : List (Option V) := [some (.obj r), some (.p (.str ws)), some (.p (.str [32])), some (.p (.str [9])), some (.ref k), some (.p (pN s.b)), some (.p (pN s.n)), some (.p (pN s.nt)), o.map V.p]
theorem lb_lc {r : Nat} {ws : List Nat} {k : Nat} {s : Is} {o : Option P} : lb (Lc r ws k s o) = max (r + 1) (k + 1) := by
  unfold Lc; simp only [lb, lb_pm, vb, Nat.max_zero, Nat.zero_max]
theorem lb_Lc {r : Nat} {ws : List Nat} {k : Nat} {s : Is} {o : Option P} (h : r ≤ k) : lb (Lc r ws k s o) = k + 1 := by
  rw [lb_lc]; lia
theorem pad_len {c : List Int} {b : Nat} : b < (pad c b).length := by
  unfold pad
  split
  · simp; lia
  · lia
noncomputable def initB : List T := [.ifs (.cmp .eq (.loc 8) (.loc 2)) [.asg (.one 6) (.bin .add (.loc 6) (.lit (.int (1)))),
  .asg (.one 5) (.bin .add (.loc 5) (.lit (.int (1))))] [.ifs (.cmp .eq (.loc 8) (.loc 3)) [.asg (.one 6) (.bin .add (.loc 6) (.lit (.int (1)))),
  .asg (.one 7) (.bin .add (.loc 7) (.lit (.int (1)))),
  .ifs (.cmp .ge (.loc 5) (.bi .len [(.loc 4)])) [.asg (.one 4) (.bin .add (.loc 4) (.bin .mul (.lst [(.lit (.int (0)))]) (.bin .add (.bin .sub (.loc 5) (.bi .len [(.loc 4)])) (.lit (.int (1))))))] [],
  .asgI (.loc 4) (.loc 5) (.bin .add (.idx (.loc 4) (.loc 5)) (.lit (.int (1)))),
  .asg (.one 5) (.lit (.int (0)))] [.brk]]]
theorem getL_shA (B J : List O) (x : List P) : getL (B ++ (J ++ [.list x])) (B.length + J.length) = some x := by
  rw [getL_sh]; exact getL_last _ _
theorem pad_step {g : G} {r : Nat} {ws : List Nat} {B J : List O} {s : Is} {o : Option P} (hl : s.cnt.length ≤ 901) (hb : s.b ≤ 900) :
    ∃ J', ex g (.ifs (.cmp .ge (.loc 5) (.bi .len [(.loc 4)])) [.asg (.one 4) (.bin .add (.loc 4) (.bin .mul (.lst [(.lit (.int (0)))]) (.bin .add (.bin .sub (.loc 5) (.bi .len [(.loc 4)])) (.lit (.int (1))))))] []) (Lc r ws (B.length + J.length) s o) (B ++ (J ++ [.list (s.cnt.map P.int)])) =
      some (.next, Lc r ws (B.length + J'.length) ⟨pad s.cnt s.b, s.b, s.n, s.nt⟩ o, B ++ (J' ++ [.list ((pad s.cnt s.b).map P.int)])) := by
  have hk : ok s.cnt.length = true := ok_of (by exact Nat.le_trans ‹_› (by decide))
  have hlen : ∀ (K : List O), ev g (Lc r ws (B.length + J.length) s o) (.bi .len [(.loc 4)]) (B ++ (J ++ .list (s.cnt.map P.int) :: K)) = some (.p (.int s.cnt.length), B ++ (J ++ .list (s.cnt.map P.int) :: K)) := fun K => by
    refine ev_bi (evs_cons (ev_loc rfl) (evs_nil _ _ _)) ?_
    have : getL (B ++ (J ++ .list (s.cnt.map P.int) :: K)) (B.length + J.length) = some (s.cnt.map P.int) := by
      rw [getL_sh, getL_sh0]; rfl
    simp only [biV, this, Option.bind_some, List.length_map, hk, if_true, biA, lenV, nul_mk, Option.map_some]
  by_cases hc : s.cnt.length ≤ s.b
  · have hp : pad s.cnt s.b = s.cnt ++ List.replicate (s.b - s.cnt.length + 1) 0 := by unfold pad; rw [if_pos hc]
    refine ⟨J ++ [.list (s.cnt.map P.int), .list [.int 0], .list (List.replicate (s.b - s.cnt.length + 1) (.int 0))], ?_⟩
    refine ex_ifT (evT_cmp (ev_loc rfl) (hlen []) (z := true) (by simp [cmpV, hc, cmpP, cmpI, pint_mk, Option.bind_some])) ?_
    have q1 : ((s.b : Int) - (s.cnt.length : Int) + 1).toNat = s.b - s.cnt.length + 1 := by lia
    have q2 : oki ((s.b : Int) - (s.cnt.length : Int) + 1) = true := oki_of (by lia)
    have q3 : ok (s.b - s.cnt.length + 1) = true := ok_of (by lia)
    have q4 : ok (s.cnt.length + (s.b - s.cnt.length + 1)) = true := ok_of (by lia)
    have e1 : ev g (Lc r ws (B.length + J.length) s o) (.bin .mul (.lst [(.lit (.int (0)))]) (.bin .add (.bin .sub (.loc 5) (.bi .len [(.loc 4)])) (.lit (.int (1))))) (B ++ (J ++ [.list (s.cnt.map P.int)])) = some (.ref (B.length + J.length + 2), B ++ (J ++ [.list (s.cnt.map P.int), .list [.int 0], .list (List.replicate (s.b - s.cnt.length + 1) (.int 0))])) := by
      have e0 : ev g (Lc r ws (B.length + J.length) s o) (.lst [(.lit (.int (0)))]) (B ++ (J ++ [.list (s.cnt.map P.int)])) = some (.ref (B.length + J.length + 1), B ++ (J ++ [.list (s.cnt.map P.int), .list [.int 0]])) := by
        simp [ev_litE, ev_lstE, evs_nilE, evs_consE, allP, ok_1, Option.bind_some]
        lia
      refine ev_bin e0 (ev_bin (ev_bin (ev_loc rfl) (hlen _) rfl) rfl rfl) ?_
      have : getL (B ++ (J ++ [.list (s.cnt.map P.int), .list [.int 0]])) (B.length + J.length + 1) = some [.int 0] := by
        rw [Nat.add_assoc, getL_sh, getL_sh]; rfl
      simp only [binV, this, Option.bind_some, q1, q2, List.length_cons, List.length_nil, Nat.zero_add, Nat.one_mul, q3, Bool.and_self, List.isEmpty_cons, Bool.not_false, if_true, rep_one, binR, int_mk]
      simp
      lia
    refine exs_step (loc' := Lc r ws (B.length + J.length + 3) ⟨pad s.cnt s.b, s.b, s.n, s.nt⟩ o) (ex_asg (ev_bin (ev_loc rfl) e1 (z := (.ref (B.length + J.length + 3), B ++ (J ++ [.list (s.cnt.map P.int), .list [.int 0], .list (List.replicate (s.b - s.cnt.length + 1) (.int 0)), .list ((pad s.cnt s.b).map P.int)]))) ?_) rfl) (gc_top ?_) ?_
    · have a1 : getL (B ++ (J ++ [.list (s.cnt.map P.int), .list [.int 0], .list (List.replicate (s.b - s.cnt.length + 1) (.int 0))])) (B.length + J.length) = some (s.cnt.map P.int) := by
        rw [getL_sh, getL_sh0]; rfl
      have a2 : getL (B ++ (J ++ [.list (s.cnt.map P.int), .list [.int 0], .list (List.replicate (s.b - s.cnt.length + 1) (.int 0))])) (B.length + J.length + 2) = some (List.replicate (s.b - s.cnt.length + 1) (.int 0)) := by
        rw [Nat.add_assoc, getL_sh, getL_sh]; rfl
      simp only [binV, a1, a2, Option.bind_some, List.length_map, List.length_replicate, q4, if_true, binR, lst_mk]
      simp [hp]
      lia
    · cases o <;> simp [lb, vb, Lc] <;> lia
    · simp [exs_nilE, Nat.add_assoc]
  · have hp : pad s.cnt s.b = s.cnt := by unfold pad; rw [if_neg hc]
    refine ⟨J, ?_⟩
    rw [hp]
    exact ex_ifF (evT_cmp (ev_loc rfl) (hlen []) (ge_f (by lia))) rfl
theorem init_loop {g : G} {r : Nat} {ws : List Nat} {B : List O} {all : List P} (hr : r < B.length) : ∀ (l : List Nat) (s : Is) (J : List O) (o : Option P), s.cnt.length ≤ 901 → s.b + l.length ≤ 900 →
    ∃ J' o', forL all none (.one 8) (fun loc H => exs g initB loc H) (l.map fun c => .str [c]) (Lc r ws (B.length + J.length) s o) (B ++ (J ++ [.list (s.cnt.map P.int)])) =
      some (.next, Lc r ws (B.length + J'.length) (scan l s) o', B ++ (J' ++ [.list ((scan l s).cnt.map P.int)])) := by
  intro l
  induction l with
  | nil => exact fun s J o _ _ => ⟨J, o, forL_nil rfl⟩
  | cons c l ih =>
    intro s J o hl hb
    rw [List.length_cons] at hb
    have htg : tgt (.one 8) (.p (.str [c])) (Lc r ws (B.length + J.length) s o) (B ++ (J ++ [.list (s.cnt.map P.int)])) = some (Lc r ws (B.length + J.length) s (some (.str [c])), B ++ (J ++ [.list (s.cnt.map P.int)])) := rfl
    have len1 : ∀ (J : List O) (x : O), (B ++ (J ++ [x])).length = B.length + J.length + 1 := fun J x => by simp; lia
    have hgc : ∀ (J : List O) (x : O) (s : Is) (o : Option P) (n : Nat), gc n (Lc r ws (B.length + J.length) s o) (B ++ (J ++ [x])) = B ++ (J ++ [x]) := fun J x s o n => gc_top (by rw [len1, lb_Lc (by lia)]; exact Nat.le_refl _)
    by_cases h1 : c = 32
    · subst h1
      obtain ⟨J', o', h⟩ := ih ⟨s.cnt, s.b + 1, s.n + 1, s.nt⟩ J (some (.str [32])) hl (by simp; lia)
      refine ⟨J', o', ?_⟩
      have e : exs g initB (Lc r ws (B.length + J.length) s (some (.str [32]))) (B ++ (J ++ [.list (s.cnt.map P.int)])) = some (.next, Lc r ws (B.length + J.length) ⟨s.cnt, s.b + 1, s.n + 1, s.nt⟩ (some (.str [32])), B ++ (J ++ [.list (s.cnt.map P.int)])) := by
        refine exs_step (ex_ifT (evT_cmp (ev_loc rfl) (ev_loc rfl) (z := true) rfl) ?_) (hgc _ _ _ _ _) rfl
        refine exs_step (loc' := Lc r ws (B.length + J.length) ⟨s.cnt, s.b, s.n + 1, s.nt⟩ (some (.str [32]))) (ex_asg (ev_bin (ev_loc rfl) rfl rfl) rfl) (hgc _ _ _ _ _) ?_
        exact exs_step (loc' := Lc r ws (B.length + J.length) ⟨s.cnt, s.b + 1, s.n + 1, s.nt⟩ (some (.str [32]))) (ex_asg (ev_bin (ev_loc rfl) rfl rfl) rfl) (hgc _ _ _ _ _) rfl
      exact forL_go rfl htg e (.inl rfl) h
    · by_cases h2 : c = 9
      · subst h2
        obtain ⟨J1, hp⟩ := pad_step (g := g) (r := r) (ws := ws) (B := B) (J := J) (s := ⟨s.cnt, s.b, s.n + 1, s.nt + 1⟩) (o := some (.str [9])) hl (by simp; lia)
        simp only at hp
        have hpl := pad_len (c := s.cnt) (b := s.b)
        have hbl : (bump s.cnt s.b).length ≤ 901 := by
          unfold bump
          rw [List.length_set]
          unfold pad
          split
          · simp; lia
          · omega
        obtain ⟨J', o', h⟩ := ih ⟨bump s.cnt s.b, 0, s.n + 1, s.nt + 1⟩ J1 (some (.str [9])) hbl (by simp; lia)
        refine ⟨J', o', ?_⟩
        have hob : oki (s.b : Int) = true := oki_nat (by lia)
        have e : exs g initB (Lc r ws (B.length + J.length) s (some (.str [9]))) (B ++ (J ++ [.list (s.cnt.map P.int)])) = some (.next, Lc r ws (B.length + J1.length) ⟨bump s.cnt s.b, 0, s.n + 1, s.nt + 1⟩ (some (.str [9])), B ++ (J1 ++ [.list ((bump s.cnt s.b).map P.int)])) := by
          refine exs_step (ex_ifF (evT_cmp (ev_loc rfl) (ev_loc rfl) (z := false) rfl) ?_) (hgc _ _ _ _ _) rfl
          refine exs_step (ex_ifT (evT_cmp (ev_loc rfl) (ev_loc rfl) (z := true) rfl) ?_) (hgc _ _ _ _ _) rfl
          refine exs_step (loc' := Lc r ws (B.length + J.length) ⟨s.cnt, s.b, s.n + 1, s.nt⟩ (some (.str [9]))) (ex_asg (ev_bin (ev_loc rfl) rfl rfl) rfl) (hgc _ _ _ _ _) ?_
          refine exs_step (loc' := Lc r ws (B.length + J.length) ⟨s.cnt, s.b, s.n + 1, s.nt + 1⟩ (some (.str [9]))) (ex_asg (ev_bin (ev_loc rfl) rfl rfl) rfl) (hgc _ _ _ _ _) ?_
          refine exs_step hp (hgc _ _ _ _ _) ?_
          have hg : getL (B ++ (J1 ++ [.list ((pad s.cnt s.b).map P.int)])) (B.length + J1.length) = some ((pad s.cnt s.b).map P.int) := getL_shA _ _ _
          have e1 : ev g (Lc r ws (B.length + J1.length) ⟨pad s.cnt s.b, s.b, s.n + 1, s.nt + 1⟩ (some (.str [9]))) (.bin .add (.idx (.loc 4) (.loc 5)) (.lit (.int (1)))) (B ++ (J1 ++ [.list ((pad s.cnt s.b).map P.int)])) = some (.p (.int ((pad s.cnt s.b).getD s.b 0 + 1)), B ++ (J1 ++ [.list ((pad s.cnt s.b).map P.int)])) := by
            refine ev_bin (x := .p (.int ((pad s.cnt s.b).getD s.b 0))) ?_ rfl rfl
            have e0 : idxV g.tabs (.ref (B.length + J1.length)) (.p (pN s.b)) (B ++ (J1 ++ [.list ((pad s.cnt s.b).map P.int)])) = some (.p (.int ((pad s.cnt s.b).getD s.b 0))) := by
              simp only [idxV, hg, Option.bind_some, idxA, int_mk]
              have h3 : inIdx (s.b : Int) ((pad s.cnt s.b).map P.int).length = true := by simp [inIdx, hob, hpl]
              have h4 : nIdx (s.b : Int) ((pad s.cnt s.b).map P.int).length = s.b := by unfold nIdx; rw [if_neg (by lia)]; rfl
              rw [h3, h4]
              simp [hpl]
            rw [ev_idxE, ev_loc rfl]
            simp only [Option.bind_some]
            rw [ev_loc rfl]
            simp only [Option.bind_some, e0]
          have e2 : ex g (.asgI (.loc 4) (.loc 5) (.bin .add (.idx (.loc 4) (.loc 5)) (.lit (.int (1))))) (Lc r ws (B.length + J1.length) ⟨pad s.cnt s.b, s.b, s.n + 1, s.nt + 1⟩ (some (.str [9]))) (B ++ (J1 ++ [.list ((pad s.cnt s.b).map P.int)])) =
              some (.next, Lc r ws (B.length + J1.length) ⟨bump s.cnt s.b, s.b, s.n + 1, s.nt + 1⟩ (some (.str [9])), B ++ (J1 ++ [.list ((bump s.cnt s.b).map P.int)])) := by
            rw [ex_asgIE, e1]
            simp only [Option.bind_some]
            rw [ev_loc (v := .ref (B.length + J1.length)) rfl]
            simp only [Option.bind_some]
            rw [ev_loc (v := .p (pN s.b)) rfl]
            simp only [pl_mk, rf_mk, pN, int_mk, Option.bind_some, hg, show oki (s.b : Int) = true from hob, Bool.true_and]
            rw [if_pos (by simp [hpl])]
            rw [set_sh, set_last]
            simp [bump, List.map_set, Lc]
          refine exs_step e2 (hgc _ _ _ _ _) ?_
          exact exs_step (loc' := Lc r ws (B.length + J1.length) ⟨bump s.cnt s.b, 0, s.n + 1, s.nt + 1⟩ (some (.str [9]))) rfl (hgc _ _ _ _ _) rfl
        exact forL_go rfl htg e (.inl rfl) h
      · refine ⟨J, some (.str [c]), ?_⟩
        have e : exs g initB (Lc r ws (B.length + J.length) s (some (.str [c]))) (B ++ (J ++ [.list (s.cnt.map P.int)])) = some (.brk, Lc r ws (B.length + J.length) s (some (.str [c])), B ++ (J ++ [.list (s.cnt.map P.int)])) := by
          refine exs_stop (ex_ifF (evT_cmp (ev_loc rfl) (ev_loc rfl) (z := false) (by simp [cmpV, eqP, h1, cmpP, pstr_mk, Option.bind_some])) ?_) (by simp)
          refine exs_stop (ex_ifF (evT_cmp (ev_loc rfl) (ev_loc rfl) (z := false) (by simp [cmpV, eqP, h2, cmpP, pstr_mk, Option.bind_some])) ?_) (by simp)
          rfl
        rw [scan, if_neg h1, if_neg h2]
        exact forL_brk rfl htg e
end Mine
end
section
open PySem PySem.W PyProof.Rows PyProof.V
set_option Elab.async false
set_option maxRecDepth 20000
set_option linter.unusedSimpArgs false
namespace Mine
theorem pad_le {c : List Int} {b : Nat} (h : c.length ≤ 901) (hb : b ≤ 900) : (pad c b).length ≤ 901 := by
  unfold pad
  split
  · simp; lia
  · exact h
theorem scan_le : ∀ (l : List Nat) (s : Is), s.cnt.length ≤ 901 → s.b + l.length ≤ 900 → (scan l s).cnt.length ≤ 901 ∧ (scan l s).b ≤ 900
  | [], s, h, hb => ⟨h, by simp at hb; simpa [scan] using hb⟩
  | c :: l, s, h, hb => by
    simp only [List.length_cons] at hb
    unfold scan
    split
    · exact scan_le l _ h (by simp; lia)
    · split
      · refine scan_le l _ ?_ (by simp; lia)
        unfold bump
        rw [List.length_set]
        exact pad_le h (by lia)
      · exact ⟨h, by lia⟩
theorem getF_mid (H0 K : List O) (f : List (Str × P)) : getF ((H0 ++ [.inst f]) ++ K) H0.length = some f := by
  unfold getF
  simp
theorem set_mid (H0 K : List O) (o o' : O) : ((H0 ++ [o]) ++ K).set H0.length o' = (H0 ++ [o']) ++ K := by
  rw [List.append_assoc, set_sh0]; simp
theorem run_init {g : G} {ws : List Nat} {H0 : List O} (hl : ws.length ≤ 900) : runF g pF_init [.obj H0.length, .p (.str ws)] (H0 ++ [.inst []]) = some (.p .none, H0 ++ [.inst (wsOf ws).fs]) := by
  let B : List O := H0 ++ [.inst [(Str.ofString "raw", .str ws)]]
  have hB : B.length = H0.length + 1 := by simp [B]
  let s0 : Is := ⟨[], 0, 0, 0⟩
  obtain ⟨J, o, hf⟩ := init_loop (g := g) (r := H0.length) (ws := ws) (B := B) (all := ws.map fun c => .str [c]) (by lia) ws s0 [] none (by simp [s0]) (by simp [s0]; omega)
  obtain ⟨b1, b2⟩ := scan_le ws s0 (by simp [s0]) (by simp [s0]; omega)
  let s := scan ws s0
  let Bf : List (Str × P) → List O := fun f => (H0 ++ [.inst f]) ++ (J ++ [.list (s.cnt.map P.int)])
  have hgc : ∀ (f : List (Str × P)) (n : Nat), gc n (Lc H0.length ws (B.length + J.length) s o) (Bf f) = Bf f := fun f n => gc_top (by rw [lb_Lc (by lia)]; simp [Bf, hB]; lia)
  suffices hs : ∃ loc', exs g pb_init (loc0 pF_init [.obj H0.length, .p (.str ws)]) (H0 ++ [.inst []]) = some (.next, loc', Bf (wsOf ws).fs) by
    obtain ⟨loc', hs⟩ := hs
    have ha : ([V.obj H0.length, V.p (P.str ws)].length == pF_init.ar) = true := rfl
    unfold runF
    rw [if_pos ha, show pF_init.body = pb_init from rfl, hs]
    simp [tidy, Bf, take_sh]
  let L2 : List (Option V) := [some (.obj H0.length), some (.p (.str ws)), some (.p (.str [32])), some (.p (.str [9])), none, none, none, none, none]
  let L1 : List (Option V) := [some (.obj H0.length), some (.p (.str ws)), none, none, none, none, none, none, none]
  let L3 : List (Option V) := [some (.obj H0.length), some (.p (.str ws)), some (.p (.str [32])), some (.p (.str [9])), some (.ref B.length), none, none, none, none]
  let Lf := Lc H0.length ws (B.length + J.length) s o
  have hraw : getF B H0.length = some [(Str.ofString "raw", .str ws)] := by simp [B, getF]
  have hnorm : P.tup [.tup (s.cnt.map P.int), .int (s.b : Int)] = (wsOf ws).norm := rfl
  have ht : ev g Lf (.bi .tuple [(.loc 4)]) (Bf (put (put [(Str.ofString "raw", .str ws)] (Str.ofString "n") (pN s.n)) (Str.ofString "nt") (pN s.nt))) = some (.p (.tup (s.cnt.map P.int)), Bf (put (put [(Str.ofString "raw", .str ws)] (Str.ofString "n") (pN s.n)) (Str.ofString "nt") (pN s.nt))) := by
    refine ev_bi (evs_cons (ev_loc rfl) (evs_nil _ _ _)) ?_
    have : ∀ f, getL (Bf f) (B.length + J.length) = some (s.cnt.map P.int) := fun f => by
      have e : Bf f = (H0 ++ [.inst f]) ++ (J ++ [.list (s.cnt.map P.int)]) := rfl
      rw [e, show B.length = (H0 ++ [O.inst f]).length by simp [hB]]
      exact getL_shA _ _ _
    have hd : decide ((s.cnt.map P.int).length ≤ 16384) = true := by rw [List.length_map]; exact decide_eq_true (Nat.le_trans b1 (by decide))
    simp only [biV, this, Option.bind_some, hd, if_true, biA, nul_mk, lst_mk]
  refine ⟨Lf, ?_⟩
  refine exs_step (loc' := L1) (H' := B) ?_ (H'' := B) ?_ ?_
  · refine (ex_asgF (ev_loc rfl) (ev_loc rfl) (r := H0.length) (fs := []) (by simp [getF]) (by simp)).trans ?_
    rw [set_last]
    rfl
  · exact gc_top (by simp [lb, vb, L1, hB])
  refine exs_step (loc' := L2) (H' := B) rfl (gc_same _ _) ?_
  refine exs_step (loc' := L3) (H' := B ++ [.list []]) rfl (H'' := B ++ [.list []]) (gc_top (by simp [lb, vb, L3]; lia)) ?_
  refine exs_step (loc' := Lc H0.length ws B.length s0 none) (H' := B ++ [.list []]) rfl (gc_same _ _) ?_
  refine exs_step (loc' := Lf) (H' := Bf [(Str.ofString "raw", .str ws)]) (ex_for (v := .p (.str ws)) (H₁ := B ++ [.list []]) (w := none) (ps := ws.map fun c => .str [c]) ?_ rfl ?_) (hgc _ _) ?_
  · have : getF (B ++ [.list []]) H0.length = some [(Str.ofString "raw", .str ws)] := getF_mid H0 [.list []] _
    simp only [ev_locE, ev_fldE, Lc, List.getElem?_cons_zero, Option.bind_some, fldV, this, ob_mk, Option.join_some]
    rfl
  · exact hf
  refine exs_step (loc' := Lf) (H' := Bf (put [(Str.ofString "raw", .str ws)] (Str.ofString "n") (pN s.n))) ?_ (hgc _ _) ?_
  · refine (ex_asgF (ev_loc rfl) (ev_loc rfl) (r := H0.length) (getF_mid _ _ _) (by simp)).trans ?_
    rw [set_mid]
  refine exs_step (loc' := Lf) (H' := Bf (put (put [(Str.ofString "raw", .str ws)] (Str.ofString "n") (pN s.n)) (Str.ofString "nt") (pN s.nt))) ?_ (hgc _ _) ?_
  · refine (ex_asgF (ev_loc rfl) (ev_loc rfl) (r := H0.length) (getF_mid _ _ _) (Nat.le_trans (put_len _ _ _) (by simp))).trans ?_
    rw [set_mid]
  refine exs_step (loc' := Lf) (H' := Bf (put (put (put [(Str.ofString "raw", .str ws)] (Str.ofString "n") (pN s.n)) (Str.ofString "nt") (pN s.nt)) (Str.ofString "norm") (wsOf ws).norm)) ?_ (hgc _ _) ?_
  · refine (ex_asgF (x := (wsOf ws).norm) (H₁ := Bf (put (put [(Str.ofString "raw", .str ws)] (Str.ofString "n") (pN s.n)) (Str.ofString "nt") (pN s.nt))) ?_ (ev_loc rfl) (r := H0.length) (getF_mid _ _ _) (Nat.le_trans (put_len _ _ _) (Nat.succ_le_succ (Nat.le_trans (put_len _ _ _) (by simp))))).trans ?_
    · rw [ev_tupE, evs_cons ht (evs_cons (ev_loc rfl) (evs_nil _ _ _))]
      rfl
    · rw [set_mid]
  refine exs_step (loc' := Lf) (H' := Bf (wsOf ws).fs) ?_ (hgc _ _) rfl
  have hk : ok s.cnt.length = true := ok_of (Nat.le_trans b1 (by decide))
  have hgl : ∀ f, getL (Bf f) (B.length + J.length) = some (s.cnt.map P.int) := fun f => by
    have e : Bf f = (H0 ++ [.inst f]) ++ (J ++ [.list (s.cnt.map P.int)]) := rfl
    rw [e, show B.length = (H0 ++ [O.inst f]).length by simp [hB]]
    exact getL_shA _ _ _
  refine (ex_asgF (x := .bool (decide (s.cnt.length ≤ 1))) (H₁ := Bf (put (put (put [(Str.ofString "raw", .str ws)] (Str.ofString "n") (pN s.n)) (Str.ofString "nt") (pN s.nt)) (Str.ofString "norm") (wsOf ws).norm)) (ev_cmp (ev_bi (x := [.ref (B.length + J.length)]) (z := (.p (.int s.cnt.length), _)) (evs_cons (ev_loc rfl) (evs_nil _ _ _)) ?_) rfl ?_) (ev_loc rfl) (r := H0.length) (getF_mid _ _ _) (Nat.le_trans (put_len _ _ _) (Nat.succ_le_succ (Nat.le_trans (put_len _ _ _) (Nat.succ_le_succ (Nat.le_trans (put_len _ _ _) (by simp))))))).trans ?_
  · simp only [biV, hgl, Option.bind_some, List.length_map, hk, if_true, biA, lenV, nul_mk, Option.map_some]
  · simp [cmpV, cmpP, cmpI, pint_mk, Option.bind_some]
    omega
  · rw [set_mid]
    rfl
end Mine
end
section
open PySem PySem.W PyProof.Rows PyProof.V
set_option Elab.async false
set_option maxRecDepth 20000
set_option linter.unusedSimpArgs false
namespace Mine
theorem lvl_tabs (k : Nat) : (pg2.lvl k).tabs = tabsX := by cases k <;> rfl
theorem run_quote {k : Nat} {H : List O} : runF (pg2.lvl k) pF_quote [.p (.str [32])] H = some (.p (.str [61, 50, 48]), H) := by
  refine runF_ret (v := .p (.str [61, 50, 48])) rfl (loc' := [some (.p (.str [32]))]) (H' := H) ?_ (by simp [tidy])
  refine exs_stop ?_ (by simp)
  have e : ev (pg2.lvl k) [some (.p (.str [32]))] (.idx (.tab 0) (.bi .ord [(.loc 0)])) H = some (.p (.str [61, 50, 48]), H) := by
    rw [ev_idxE]
    have e1 : ev (pg2.lvl k) [some (.p (.str [32]))] (.bi .ord [(.loc 0)]) H = some (.p (.int 32), H) := ev_bi (evs_cons (ev_loc rfl) (evs_nil _ _ _)) rfl
    simp only [ev_tabE, ev_biE, Option.bind_some] at e1 ⊢
    rw [e1, lvl_tabs]
    rfl
  show ((ev (pg2.lvl k) [some (.p (.str [32]))] (.idx (.tab 0) (.bi .ord [(.loc 0)])) H).bind fun x => some (Fl.ret x.1, _, x.2)) = _
  rw [e]
  rfl
end Mine
end
section
open PySem PySem.W PyProof.Rows PyProof.V
set_option Elab.async false
set_option maxRecDepth 20000
set_option linter.unusedSimpArgs false
namespace Mine
/-- cuts of texts within bounds -/
theorem cut_nat {α : Type} (l : List α) {a b : Nat} (ha : a ≤ l.length) (hb : b ≤ l.length) : cut l (some (a : Int)) (some (b : Int)) = (l.drop a).take (b - a) := by
  unfold cut clip
  have h1 : ¬ ((a : Int) < 0) := by lia
  have h2 : ¬ ((b : Int) < 0) := by lia
  simp only [Option.map_some, Option.getD_some, if_neg h1, if_neg h2, Int.toNat_natCast, Nat.min_eq_left ha, Nat.min_eq_left hb]
end Mine
end
section
open PySem PySem.W PyProof.Rows PyProof.V
set_option Elab.async false
set_option maxRecDepth 20000
set_option linter.unusedSimpArgs false
namespace Mine
noncomputable def Lb (bt : List Nat) (size : Nat) (eol : List Nat) (n : Nat) (line : List Nat) (st la : Int) (o1 o2 o3 : Option P) : List (Option V) :=
  [some (.p (.str bt)), some (.p (.int ((size : Int) + 1))), some (.p (.str eol)), some (.p (.str (61 :: eol))), some (.p (.int (size : Int))), some (.ref n), some (.bm n), some (.p (.str line)), some (.p (.int st)), some (.p (.int la)), o1.map V.p, o2.map V.p, o3.map V.p]
noncomputable def whB : List T := [.asg (.one 10) (.bin .add (.loc 8) (.loc 4)),
  .ifs (.cmp .eq (.idx (.loc 7) (.bin .sub (.loc 10) (.lit (.int (2))))) (.lit (.str [61]))) [.ex (.app (.loc 6) (.sl (.loc 7) (some (.loc 8)) (some (.bin .sub (.loc 10) (.lit (.int (1))))))),
  .asg (.one 8) (.bin .sub (.loc 10) (.lit (.int (2))))] [.ifs (.cmp .eq (.idx (.loc 7) (.bin .sub (.loc 10) (.lit (.int (1))))) (.lit (.str [61]))) [.ex (.app (.loc 6) (.sl (.loc 7) (some (.loc 8)) (some (.loc 10)))),
  .asg (.one 8) (.bin .sub (.loc 10) (.lit (.int (1))))] [.ex (.app (.loc 6) (.bin .add (.sl (.loc 7) (some (.loc 8)) (some (.loc 10))) (.lit (.str [61])))),
  .asg (.one 8) (.loc 10)]]]
end Mine
end
section
open PySem PySem.W PyProof.Rows PyProof.V
set_option Elab.async false
set_option maxRecDepth 20000
set_option linter.unusedSimpArgs false
namespace Mine
theorem cut_3 {l : List Nat} {i : Nat} (h : i + 3 ≤ l.length) : cut l (some (i : Int)) (some ((i + 3 : Nat) : Int)) = (l.drop i).take 3 := by
  rw [cut_nat l (by lia) h, show i + 3 - i = 3 by lia]
theorem hexV_tab15 : ((List.range 103).all fun a => decide ((hexV a).getD 0 ≤ 15)) = true := by decide +kernel
theorem hexV_le {a x : Nat} (h : hexV a = some x) : x ≤ 15 := by
  by_cases ha : a < 103
  · have := of_decide_eq_true (List.all_eq_true.mp hexV_tab15 a (List.mem_range.mpr ha))
    rw [h] at this
    exact this
  · rw [hexV_big (Nat.le_of_not_lt ha)] at h
    cases h
theorem run_unquote {g : G} {a b x y : Nat} {H : List O} (ha : hexV a = some x) (hb : hexV b = some y) : runF g pF_unquote [.p (.str [61, a, b])] H = some (.p (.str [16 * x + y]), H) := by
  have xl := hexV_le ha
  have yl := hexV_le hb
  refine runF_ret (v := .p (.str [16 * x + y])) rfl (loc' := [some (.p (.str [61, a, b]))]) (H' := H) ?_ (by simp [tidy])
  refine exs_stop ?_ (by simp)
  have e1 : ev g [some (.p (.str [61, a, b]))] (.sl (.loc 0) (some (.lit (.int (1)))) (some (.lit (.int (3))))) H = some (.p (.str [a, b]), H) := by
    refine ev_sl (ev_loc rfl) (evo_some rfl) (evo_some rfl) ?_
    rfl
  have e2 : ev g [some (.p (.str [61, a, b]))] (.bi .int16 [(.sl (.loc 0) (some (.lit (.int (1)))) (some (.lit (.int (3)))))]) H = some (.p (.int ((16 * x + y : Nat) : Int)), H) := by
    refine ev_bi (evs_cons e1 (evs_nil _ _ _)) ?_
    simp only [biV, ha, hb, Option.bind_some, biA, nul_mk, two_mk, str_mk]
  have e3 : ev g [some (.p (.str [61, a, b]))] (.bi .chr [(.bi .int16 [(.sl (.loc 0) (some (.lit (.int (1)))) (some (.lit (.int (3)))))])]) H = some (.p (.str [16 * x + y]), H) := by
    refine ev_bi (evs_cons e2 (evs_nil _ _ _)) (biV_chr ?_)
    lia
  show ((ev g [some (.p (.str [61, a, b]))] _ H).bind fun x => some (Fl.ret x.1, _, x.2)) = _
  rw [e3]
  rfl
/-- what decode says of a row, from a place on -/
noncomputable def decS (eol : List Nat) : List Nat → List Nat
  | [] => []
  | c :: r => if c = 61 then match r with
      | [] => []
      | [b] => 61 :: decS eol [b]
      | a :: b :: q => match hexV a, hexV b with
        | some x, some y => (16 * x + y) :: (if q = [] then eol else decS eol q)
        | _, _ => 61 :: decS eol (a :: b :: q)
    else c :: (if r = [] then eol else decS eol r)
noncomputable def Ld (enc eol d line : List Nat) (i : Nat) (c : Option P) : List (Option V) := [some (.p (.str enc)), some (.p (.str eol)), some (.p (.str d)), some (.p (.str line)), some (.p (pN i)), some (.p (pN line.length)), c.map V.p]
noncomputable def hexDs : List Nat := [48, 49, 50, 51, 52, 53, 54, 55, 56, 57, 97, 98, 99, 100, 101, 102, 65, 66, 67, 68, 69, 70]
noncomputable def whD : List T := [.asg (.one 6) (.idx (.loc 3) (.loc 4)),
  .ifs (.cmp .ne (.loc 6) (.lit (.str [61]))) [.aug 2 .add (.loc 6),
  .aug 4 .add (.lit (.int (1)))] [.ifs (.cmp .eq (.bin .add (.loc 4) (.lit (.int (1)))) (.loc 5)) [.aug 4 .add (.lit (.int (1))),
  .cont] [.ifs (.and [(.cmp .lt (.bin .add (.loc 4) (.lit (.int (2)))) (.loc 5)), (.cmp .inn (.idx (.loc 3) (.bin .add (.loc 4) (.lit (.int (1))))) (.lit (.str hexDs))), (.cmp .inn (.idx (.loc 3) (.bin .add (.loc 4) (.lit (.int (2))))) (.lit (.str hexDs)))]) [.aug 2 .add (.cal 0 [(.sl (.loc 3) (some (.loc 4)) (some (.bin .add (.loc 4) (.lit (.int (3))))))]),
  .aug 4 .add (.lit (.int (3)))] [.aug 2 .add (.loc 6),
  .aug 4 .add (.lit (.int (1)))]]],
  .ifs (.cmp .eq (.loc 4) (.loc 5)) [.aug 2 .add (.loc 1)] []]
theorem hexDs_tab : ((List.range 103).all fun a => hexDs.contains a == (hexV a).isSome) = true := by decide +kernel
theorem hexDs_le : (hexDs.all fun a => decide (a < 103)) = true := by decide +kernel
theorem hexDs_iff (a : Nat) : hexDs.contains a = (hexV a).isSome := by
  by_cases h : a < 103
  · exact eq_of_beq (List.all_eq_true.mp hexDs_tab a (List.mem_range.mpr h))
  · rw [hexV_big (Nat.le_of_not_lt h)]
    exact Bool.eq_false_iff.mpr fun e => h (of_decide_eq_true (List.all_eq_true.mp hexDs_le a (List.contains_iff_mem.mp e)))
theorem idx_str {tabs : Nat → List P} {line : List Nat} {i c : Nat} {H : List O} (hc : line[i]? = some c) (hl : line.length ≤ 1000) : idxV tabs (.p (.str line)) (.p (.int (i : Int))) H = some (.p (.str [c])) := by
  have hlt := (List.getElem?_eq_some_iff.mp hc).1
  have i1 : inIdx (i : Int) line.length = true := by
    have : oki (i : Int) = true := oki_nat (by lia)
    simp [inIdx, this, hlt]
  have i2 : nIdx (i : Int) line.length = i := by unfold nIdx; rw [if_neg (by lia)]; rfl
  simp only [idxV, i1, if_true, i2, hc, Option.map_some, idxA, idxP, int_mk, Option.bind_some]
/-- the last statement of a turn -/
theorem tail_turn {g : G} {enc eol d line : List Nat} {j : Nat} {c : Option P} {H : List O} (hd : d.length + eol.length ≤ 1000000) :
    exs g [.ifs (.cmp .eq (.loc 4) (.loc 5)) [.aug 2 .add (.loc 1)] []] (Ld enc eol d line j c) H = some (.next, Ld enc eol (d ++ if j = line.length then eol else []) line j c, H) := by
  by_cases hj : j = line.length
  · rw [if_pos hj]
    refine exs_step (loc' := Ld enc eol (d ++ eol) line j c) (ex_ifT (evT_cmp (ev_loc rfl) (ev_loc rfl) (eqi_t (by rw [hj]))) ?_) (gc_same _ _) rfl
    exact exs_step (ex_aug rfl (ev_loc rfl) (c := .str (d ++ eol)) (add_strP hd) rfl) (gc_same _ _) rfl
  · rw [if_neg hj, List.append_nil]
    exact exs_step (ex_ifF (evT_cmp (ev_loc rfl) (ev_loc rfl) (eqi_f (by lia))) rfl) (gc_same _ _) rfl
noncomputable def twoB (b : Nat) : List Nat → Bool
  | [] => false
  | b2 :: _ => (hexV b).isSome && (hexV b2).isSome
theorem dec_turn {g : G} (hq : ∀ a b x y K, hexV a = some x → hexV b = some y → g.call 0 [.p (.str [61, a, b])] K = some (.p (.str [16 * x + y]), K)) {enc eol d line : List Nat} {i c : Nat} {r : List Nat} {c0 : Option P} {H : List O}
    (hl : line.length ≤ 1000) (hd : d.length + eol.length ≤ 900000) (hr : line.drop i = c :: r) :
    ∃ (j : Nat) (c' : Option P) (d' : List Nat) (f : Fl), (f = .next ∨ f = .cont) ∧ exs g whD (Ld enc eol d line i c0) H = some (f, Ld enc eol d' line j c', H) ∧ i < j ∧ j ≤ line.length ∧ d' ++ decS eol (line.drop j) = d ++ decS eol (c :: r) ∧ d'.length ≤ d.length + eol.length + 1 := by
  have hlen : i + (r.length + 1) = line.length := by
    have := congrArg List.length hr
    simp at this
    lia
  have at0 : line[i]? = some c := by have := congrArg (·[0]?) hr; simpa using this
  have atk : ∀ k, line[i + 1 + k]? = r[k]? := fun k => by
    have := congrArg (·[k + 1]?) hr
    simp only [List.getElem?_drop, List.getElem?_cons_succ] at this
    rw [← this]; congr 1; lia
  have dropk : ∀ k, line.drop (i + 1 + k) = r.drop k := fun k => by
    rw [show i + 1 + k = i + (k + 1) by lia, ← List.drop_drop, hr]; rfl
  have s1 : ex g (.asg (.one 6) (.idx (.loc 3) (.loc 4))) (Ld enc eol d line i c0) H = some (.next, Ld enc eol d line i (some (.str [c])), H) :=
    ex_asg (ev_idx (ev_loc rfl) (ev_loc rfl) (idx_str at0 hl)) rfl
  let L1 := Ld enc eol d line i (some (.str [c]))
  by_cases h61 : c = 61
  · subst h61
    have b1 : evT g L1 (.cmp .ne (.loc 6) (.lit (.str [61]))) (ev g L1 (.cmp .ne (.loc 6) (.lit (.str [61]))) H) H = some (false, H) := evT_cmp (ev_loc rfl) rfl (z := false) rfl
    match r, hr, hlen, atk, dropk with
    | [], hr, hlen, atk, dropk =>
      refine ⟨i + 1, some (.str [61]), d, .cont, .inr rfl, ?_, by lia, by simp at hlen; lia, ?_, by lia⟩
      · refine exs_step s1 (gc_same _ _) (exs_stop (ex_ifF b1 ?_) (ne_next rfl))
        refine exs_stop (ex_ifT (evT_cmp (ev_bin (ev_loc rfl) rfl addI) (ev_loc rfl) (eqi_t (by rw [List.length_nil] at hlen; lia))) ?_) (by simp)
        exact exs_step (loc' := Ld enc eol d line (i + 1) (some (.str [61]))) (ex_aug rfl rfl rfl rfl) (gc_same _ _) (exs_stop rfl (ne_next rfl))
      · rw [List.drop_eq_nil_of_le (by simp at hlen; lia)]; simp [decS]
    | b :: q, hr, hlen, atk, dropk =>
      simp only [List.length_cons] at hlen
      have bE : evT g L1 (.cmp .eq (.bin .add (.loc 4) (.lit (.int (1)))) (.loc 5)) (ev g L1 (.cmp .eq (.bin .add (.loc 4) (.lit (.int (1)))) (.loc 5)) H) H = some (false, H) :=
        evT_cmp (ev_bin (ev_loc rfl) rfl addI) (ev_loc rfl) (eqi_f (by lia))
      have at1 : line[i + 1]? = some b := atk 0
      have plain : exs g [.aug 2 .add (.loc 6), .aug 4 .add (.lit (.int (1)))] L1 H = some (.next, Ld enc eol (d ++ [61]) line (i + 1) (some (.str [61])), H) :=
        exs_step (loc' := Ld enc eol (d ++ [61]) line i (some (.str [61]))) (ex_aug rfl (ev_loc rfl) (c := .str (d ++ [61])) (add_strP1 (by lia)) rfl) (gc_same _ _) (exs_step (ex_aug rfl rfl rfl rfl) (gc_same _ _) rfl)
      have b3 : ∃ t, evT g L1 (.and [(.cmp .lt (.bin .add (.loc 4) (.lit (.int (2)))) (.loc 5)), (.cmp .inn (.idx (.loc 3) (.bin .add (.loc 4) (.lit (.int (1))))) (.lit (.str hexDs))), (.cmp .inn (.idx (.loc 3) (.bin .add (.loc 4) (.lit (.int (2))))) (.lit (.str hexDs)))]) (ev g L1 (.and [(.cmp .lt (.bin .add (.loc 4) (.lit (.int (2)))) (.loc 5)), (.cmp .inn (.idx (.loc 3) (.bin .add (.loc 4) (.lit (.int (1))))) (.lit (.str hexDs))), (.cmp .inn (.idx (.loc 3) (.bin .add (.loc 4) (.lit (.int (2))))) (.lit (.str hexDs)))]) H) H = some (t, H) ∧
          t = twoB b q := by
        rcases q with _ | ⟨b2, q⟩
        · refine ⟨false, evT_and (evC_f (evT_cmp (ev_bin (ev_loc rfl) rfl addI) (ev_loc rfl) (lt_f (by rw [List.length_nil] at hlen; lia)))), rfl⟩
        · have at2 : line[i + 2]? = some b2 := atk 1
          refine ⟨_, evT_and (evC_t (evT_cmp (ev_bin (ev_loc rfl) rfl addI) (ev_loc rfl) (lt_t (by rw [List.length_cons] at hlen; lia))) ?_), rfl⟩
          refine evC_cons (t := (hexV b).isSome) (evT_cmp (ev_idx (ev_loc rfl) (ev_bin (ev_loc rfl) rfl addI) (v := .p (.str [b])) (idx_str at1 hl)) rfl (z := (hexV b).isSome) (by simp only [cmpV, hexDs_iff, cmpP, cmpIn, pstr_mk, one_mk, Option.bind_some])) ?_
          cases hb : (hexV b).isSome with
          | false => simp [twoB, hb]
          | true =>
            refine evC_cons (t := (hexV b2).isSome) (evT_cmp (ev_idx (ev_loc rfl) (ev_bin (ev_loc rfl) rfl addI) (v := .p (.str [b2])) (idx_str at2 hl)) rfl (z := (hexV b2).isSome) (by simp only [cmpV, hexDs_iff, cmpP, cmpIn, pstr_mk, one_mk, Option.bind_some])) ?_
            cases hb2 : (hexV b2).isSome <;> simp [twoB, hb, hb2, evC_nilE]
      obtain ⟨t, b3, ht⟩ := b3
      by_cases htt : t = true
      · rcases q with _ | ⟨b2, q⟩
        · rw [ht] at htt; cases htt
        · rw [htt] at ht b3
          simp only [List.length_cons] at hlen
          have ht := ht.symm
          simp only [twoB, Bool.and_eq_true, Option.isSome_iff_exists] at ht
          obtain ⟨⟨x, hx⟩, y, hy⟩ := ht
          have k3 : (if i + 3 = line.length then eol else []) ++ decS eol (line.drop (i + 3)) = if q = [] then eol else decS eol q := by
            have := dropk 2
            rw [show i + 1 + 2 = i + 3 by lia] at this
            rw [this]
            show _ ++ decS eol q = _
            cases q with
            | nil => rw [if_pos (by simp at hlen; lia)]; simp [decS]
            | cons z q => rw [if_neg (by simp at hlen; lia)]; simp
          have e3 : (line.drop i).take 3 = [61, b, b2] := by rw [hr]; rfl
          have s2 : ex g (.aug 2 .add (.cal 0 [(.sl (.loc 3) (some (.loc 4)) (some (.bin .add (.loc 4) (.lit (.int (3))))))])) L1 H = some (.next, Ld enc eol (d ++ [16 * x + y]) line i (some (.str [61])), H) := by
            refine ex_aug (a := .str d) rfl (ev_cal (evs_cons (x := .p (.str [61, b, b2])) (ev_sl (ev_loc rfl) (evo_some (ev_loc rfl)) (evo_some (ev_bin (ev_loc rfl) rfl addI)) ?_) (evs_nil _ _ _)) (hq _ _ _ _ H hx hy)) (c := .str (d ++ [16 * x + y])) (add_strP1 (by lia)) rfl
            have o1 : oki (i : Int) = true := oki_nat (by lia)
            have o2 : oki ((i + 3 : Nat) : Int) = true := oki_nat (by lia)
            have e := cut_3 (l := line) (i := i) (by lia)
            rw [e3] at e
            have o3 : ok line.length = true := ok_of (by lia)
            have o2' : oki ((i : Int) + 3) = true := o2
            rw [slV_str (bnds_int o1) (bnds_int o2') o3]
            rw [show ((i : Int) + 3) = ((i + 3 : Nat) : Int) by lia, e]
          refine ⟨i + 3, some (.str [61]), (d ++ [16 * x + y]) ++ (if i + 3 = line.length then eol else []), .next, .inl rfl, ?_, by lia, by lia, ?_, ?_⟩
          · refine exs_step s1 (gc_same _ _) (exs_step (loc' := Ld enc eol (d ++ [16 * x + y]) line (i + 3) (some (.str [61]))) (ex_ifF b1 ?_) (gc_same _ _) (tail_turn (by simp; lia)))
            refine exs_step (ex_ifF bE ?_) (gc_same _ _) rfl
            refine exs_step (ex_ifT b3 ?_) (gc_same _ _) rfl
            exact exs_step s2 (gc_same _ _) (exs_step (ex_aug rfl rfl rfl rfl) (gc_same _ _) rfl)
          · rw [List.append_assoc, k3]
            simp [decS, hx, hy]
          · simp only [List.length_append, List.length_cons, List.length_nil]
            split <;> simp <;> lia
      · have htf : t = false := by simpa using htt
        rw [htf] at ht b3
        refine ⟨i + 1, some (.str [61]), (d ++ [61]) ++ (if i + 1 = line.length then eol else []), .next, .inl rfl, ?_, by lia, by lia, ?_, ?_⟩
        · refine exs_step s1 (gc_same _ _) (exs_step (loc' := Ld enc eol (d ++ [61]) line (i + 1) (some (.str [61]))) (ex_ifF b1 ?_) (gc_same _ _) (tail_turn (by simp; lia)))
          refine exs_step (ex_ifF bE ?_) (gc_same _ _) rfl
          refine exs_step (ex_ifF b3 ?_) (gc_same _ _) rfl
          exact plain
        · rw [if_neg (by lia), List.append_nil, show line.drop (i + 1) = b :: q from dropk 0, List.append_assoc]
          congr 1
          rcases q with _ | ⟨b2, q⟩
          · simp [decS]
          · have : ¬ ((∃ x, hexV b = some x) ∧ ∃ y, hexV b2 = some y) := by
              rintro ⟨⟨x, hx⟩, y, hy⟩
              simp [twoB, hx, hy] at ht
            conv => rhs; unfold decS
            simp only [if_true]
            cases hx : hexV b with
            | none => rfl
            | some x =>
              cases hy : hexV b2 with
              | none => rfl
              | some y => exact absurd ⟨⟨x, hx⟩, y, hy⟩ this
        · rw [if_neg (by lia)]; simp
  · refine ⟨i + 1, some (.str [c]), (d ++ [c]) ++ (if i + 1 = line.length then eol else []), .next, .inl rfl, ?_, by lia, by lia, ?_, ?_⟩
    · refine exs_step s1 (gc_same _ _) (exs_step (loc' := Ld enc eol (d ++ [c]) line (i + 1) (some (.str [c]))) (ex_ifT (evT_cmp (ev_loc rfl) rfl (nec_t h61)) ?_) (gc_same _ _) (tail_turn (by simp; lia)))
      exact exs_step (loc' := Ld enc eol (d ++ [c]) line i (some (.str [c]))) (ex_aug rfl (ev_loc rfl) (c := .str (d ++ [c])) (add_strP1 (by lia)) rfl) (gc_same _ _) (exs_step (ex_aug rfl rfl rfl rfl) (gc_same _ _) rfl)
    · have e1 : line.drop (i + 1) = r := dropk 0
      rw [e1, List.append_assoc, List.append_assoc]
      congr 1
      conv => rhs; unfold decS
      rw [if_neg h61]
      cases r with
      | nil => rw [if_pos (by simp at hlen; lia)]; simp [decS]
      | cons z q => rw [if_neg (by simp at hlen; lia)]; simp
    · simp only [List.length_append, List.length_cons, List.length_nil]
      split <;> simp <;> lia
end Mine
end
section
open PySem PySem.W PyProof.Rows PyProof.V
set_option Elab.async false
set_option maxRecDepth 20000
set_option linter.unusedSimpArgs false
namespace Mine
theorem decS_len (eol : List Nat) : ∀ (n : Nat) (l : List Nat), l.length ≤ n → (decS eol l).length ≤ l.length + eol.length
  | _, [], _ => by simp [decS]
  | 0, a :: r, h => by simp at h
  | n + 1, c :: r, h => by
    simp only [List.length_cons] at h
    have ih := fun q (hq : q.length ≤ n) => decS_len eol n q hq
    unfold decS
    split
    · match r, h with
      | [], _ => simp
      | [b], h => have := ih [b] (by simpa using h); simp at this ⊢; lia
      | a :: b :: q, h =>
        simp only [List.length_cons] at h ⊢
        have i1 := ih (a :: b :: q) (by simp; exact Nat.lt_of_succ_lt_succ ‹_›)
        have i2 := ih q (by lia)
        simp only [List.length_cons] at i1
        split
        · split <;> simp <;> lia
        · simp; lia
    · have := ih r (by exact Nat.le_of_lt_succ ‹_›)
      split <;> simp <;> lia
theorem dec_while {g : G} (hq : ∀ a b x y K, hexV a = some x → hexV b = some y → g.call 0 [.p (.str [61, a, b])] K = some (.p (.str [16 * x + y]), K)) {enc eol line : List Nat} {H : List O} (hl : line.length ≤ 1000) (he : eol.length ≤ 5) :
    ∀ (m i n : Nat) (d : List Nat) (c0 : Option P), line.length - i ≤ m → i ≤ line.length → d.length + 6 * (line.length - i) ≤ 800000 →
    ∃ c1, whlL (fun loc H => evT g loc (.cmp .lt (.loc 4) (.loc 5)) (ev g loc (.cmp .lt (.loc 4) (.loc 5)) H) H) (fun loc H => exs g whD loc H) (m + n + 1) (Ld enc eol d line i c0) H =
      some (.next, Ld enc eol (d ++ decS eol (line.drop i)) line line.length c1, H) := by
  intro m
  induction m with
  | zero =>
    intro i n d c0 hm hi hd
    have h : i = line.length := by lia
    refine ⟨c0, (whl_stop (evT_cmp (ev_loc rfl) (ev_loc rfl) (lt_f (by lia)))).trans ?_⟩
    rw [h, List.drop_length]
    simp [decS]
  | succ m im =>
    intro i n d c0 hm hi hd
    rw [Nat.add_right_comm m 1 n]
    by_cases h : i = line.length
    · refine ⟨c0, (whl_stop (evT_cmp (ev_loc rfl) (ev_loc rfl) (lt_f (by lia)))).trans ?_⟩
      rw [h, List.drop_length]
      simp [decS]
    · obtain ⟨j, c', d', f, hf, h1, h2, h3, h4, h5⟩ := dec_turn (g := g) hq (enc := enc) (eol := eol) (d := d) (line := line) (i := i) (c0 := c0) (H := H) hl (by lia) (List.drop_eq_getElem_cons (show i < line.length by lia))
      obtain ⟨c1, ih⟩ := im j n d' c' (by lia) h3 (by lia)
      refine ⟨c1, whl_go (evT_cmp (ev_loc rfl) (ev_loc rfl) (lt_t (by lia))) ?_ (ih.trans ?_)⟩
      · rcases hf with rfl | rfl
        · exact .inl h1
        · exact .inr h1
      · rw [h4, ← List.drop_eq_getElem_cons (show i < line.length by exact Nat.lt_of_lt_of_le ‹_› ‹_›)]
noncomputable def decR (eol line : List Nat) : List Nat := if rstr line = [] then eol else decS eol (rstr line)
theorem rstr_le (l : List Nat) : (rstr l).length ≤ l.length := by
  unfold rstr
  rw [List.length_reverse]
  exact Nat.le_trans (List.dropWhile_sublist _).length_le (by simp)
theorem decR_len (eol line : List Nat) : (decR eol line).length ≤ line.length + eol.length := by
  unfold decR
  split
  · exact Nat.le_add_left _ _
  · have h1 := decS_len eol _ (rstr line) (Nat.le_refl _)
    have h2 := rstr_le line
    lia
noncomputable def Ldd (enc eol d : List Nat) (o3 o4 o5 o6 : Option P) : List (Option V) := [some (.p (.str enc)), some (.p (.str eol)), some (.p (.str d)), o3.map V.p, o4.map V.p, o5.map V.p, o6.map V.p]
noncomputable def lnD : List T := [.asg (.one 3) (.sm .rstrip (.loc 3) []),
  .ifs (.not (.loc 3)) [.aug 2 .add (.loc 1),
  .cont] [],
  .asg (.one 4) (.lit (.int (0))),
  .asg (.one 5) (.bi .len [(.loc 3)]),
  .whl (.cmp .lt (.loc 4) (.loc 5)) whD]
theorem evT_not {g : G} {L : List (Option V)} {i : Nat} {H : List O} {l : List Nat} (hi : L[i]? = some (some (.p (.str l)))) (hl : l.length ≤ 100000) : evT g L (.not (.loc i)) (ev g L (.not (.loc i)) H) H = some (l.isEmpty, H) := by
  simp only [evT_notE, evT_locE, ev_locE, ev_notE, hi, Option.bind_some, truV, ok_of (show l.length ≤ 1000000 by exact Nat.le_trans ‹_› (by decide)), if_true, Bool.not_not, truP, Option.join_some]
theorem dec_line {g : G} (hq : ∀ a b x y K, hexV a = some x → hexV b = some y → g.call 0 [.p (.str [61, a, b])] K = some (.p (.str [16 * x + y]), K)) {enc eol line d : List Nat} {H : List O} {o4 o5 o6 : Option P} (hl : line.length ≤ 1000) (he : eol.length ≤ 5) (ha : asc line = true) (hd : d.length + 6 * (line.length + 1) ≤ 800000) :
    ∃ o3' o4' o5' o6' f, (f = .next ∨ f = .cont) ∧ exs g lnD (Ldd enc eol d (some (.str line)) o4 o5 o6) H = some (f, Ldd enc eol (d ++ decR eol line) o3' o4' o5' o6', H) := by
  have hr := rstr_le line
  have s1 : ex g (.asg (.one 3) (.sm .rstrip (.loc 3) [])) (Ldd enc eol d (some (.str line)) o4 o5 o6) H = some (.next, Ldd enc eol d (some (.str (rstr line))) o4 o5 o6, H) := by
    refine ex_asg (ev_sm (ev_loc rfl) rfl (evs_nil _ _ _) (z := (.p (.str (rstr line)), H)) ?_) rfl
    simp only [smV, ok_of (show line.length ≤ 1000000 by exact Nat.le_trans ‹_› (by decide)), ha, Bool.and_self, if_true, smT, nul_mk, pstr_mk, Option.bind_some]
  by_cases h0 : rstr line = []
  · refine ⟨some (.str (rstr line)), o4, o5, o6, .cont, .inr rfl, exs_step s1 (gc_same _ _) (exs_stop (ex_ifT (H₁ := H) ((evT_not rfl (by lia)).trans (by simp [h0])) ?_) (by simp))⟩
    refine exs_step (loc' := Ldd enc eol (d ++ decR eol line) (some (.str (rstr line))) o4 o5 o6) (ex_aug rfl (ev_loc rfl) (c := .str (d ++ eol)) (by simp [binP, addP, pstr_mk, Option.bind_some]; exact ok_of (by lia)) ?_) (gc_same _ _) (exs_stop rfl (by simp))
    simp only [decR, h0, if_true]
    rfl
  · obtain ⟨c1, hw⟩ := dec_while (g := g) hq (enc := enc) (eol := eol) (line := rstr line) (H := H) (by exact Nat.le_trans ‹_› ‹_›) he (rstr line).length 0 (fuel - (rstr line).length - 1) d o6 (by exact Nat.sub_le _ _) (by exact Nat.zero_le _) (by lia)
    rw [show (rstr line).length + (fuel - (rstr line).length - 1) + 1 = fuel by have : fuel = 100000 := rfl; lia] at hw
    refine ⟨some (.str (rstr line)), some (pN (rstr line).length), some (pN (rstr line).length), c1, .next, .inl rfl, exs_step s1 (gc_same _ _) (exs_step (ex_ifF ((evT_not rfl (by lia)).trans (by simp [h0])) rfl) (gc_same _ _) (exs_step (loc' := Ldd enc eol d (some (.str (rstr line))) (some (.int 0)) o5 o6) rfl (gc_same _ _) (exs_step (loc' := Ld enc eol d (rstr line) 0 o6) ?_ (gc_same _ _) (exs_step (ex_whl hw) (gc_same _ _) ?_))))⟩
    · refine ex_asg (ev_bi (evs_cons (ev_loc rfl) (evs_nil _ _ _)) (z := (.p (pN (rstr line).length), H)) ?_) rfl
      simp only [biV, ok_of (show (rstr line).length ≤ 1000000 by lia), if_true, biA, lenV, lenP, nul_mk, Option.bind_some]
    · simp only [decR, h0, if_false, List.drop_zero]
      rfl
theorem dec_lines {g : G} (hq : ∀ a b x y K, hexV a = some x → hexV b = some y → g.call 0 [.p (.str [61, a, b])] K = some (.p (.str [16 * x + y]), K)) {enc eol : List Nat} {H : List O} {all : List P} {w : Option Nat} (hw : stays w all H = true) (he : eol.length ≤ 5) :
    ∀ (ls : List (List Nat)) (d : List Nat) (o3 o4 o5 o6 : Option P), (∀ l ∈ ls, l.length ≤ 1000 ∧ asc l = true) → d.length + 20 * (ls.map fun l => l.length + 1).sum ≤ 700000 →
    ∃ o3' o4' o5' o6', forL all w (.one 3) (fun loc H => exs g lnD loc H) (ls.map P.str) (Ldd enc eol d o3 o4 o5 o6) H = some (.next, Ldd enc eol (d ++ ls.flatMap (decR eol)) o3' o4' o5' o6', H) := by
  intro ls
  induction ls with
  | nil => exact fun d o3 o4 o5 o6 _ _ => ⟨o3, o4, o5, o6, by rw [List.flatMap_nil, List.append_nil]; exact forL_nil hw⟩
  | cons l ls ih =>
    intro d o3 o4 o5 o6 h hd
    obtain ⟨h1, h2⟩ := h l (.head _)
    rw [List.map_cons, List.sum_cons] at hd
    obtain ⟨a3, a4, a5, a6, f, hf, he1⟩ := dec_line (g := g) hq (enc := enc) (eol := eol) (line := l) (d := d) (H := H) (o4 := o4) (o5 := o5) (o6 := o6) h1 he h2 (by lia)
    have hlen := decR_len eol l
    obtain ⟨b3, b4, b5, b6, ih⟩ := ih (d ++ decR eol l) a3 a4 a5 a6 (fun x hx => h x (.tail _ hx)) (by rw [List.length_append]; lia)
    refine ⟨b3, b4, b5, b6, ?_⟩
    rw [List.flatMap_cons, ← List.append_assoc]
    exact forL_go hw (q := (Ldd enc eol d (some (.str l)) o4 o5 o6, H)) rfl he1 hf ih
noncomputable def LWP (l : List Nat) (ls : List (List Nat)) : Prop := (ls.map fun x => x.length + 1).sum ≤ 2 * l.length ∧ ∀ x ∈ ls, x.length ≤ l.length ∧ ∀ c ∈ x, c ∈ l
theorem LWP.skip {a : Nat} {r : List Nat} {ls : List (List Nat)} (h : LWP r ls) : LWP (a :: r) ls :=
  ⟨Nat.le_trans h.1 (Nat.mul_le_mul_left 2 (Nat.le_succ _)), fun x hx => ⟨Nat.le_succ_of_le (h.2 x hx).1, fun c hc => .tail _ ((h.2 x hx).2 c hc)⟩⟩
theorem LWP.brk {a : Nat} {r : List Nat} {ls : List (List Nat)} (h : LWP r ls) : LWP (a :: r) ([] :: ls) := by
  refine ⟨?_, fun x hx => ?_⟩
  · rw [List.map_cons, List.sum_cons, List.length_cons, Nat.mul_succ, Nat.add_comm]
    exact Nat.add_le_add h.1 (by decide)
  · rcases List.mem_cons.mp hx with rfl | hx
    · exact ⟨Nat.zero_le _, fun c hc => nomatch hc⟩
    · exact h.skip.2 x hx
theorem LWP.one (a : Nat) (r : List Nat) : LWP (a :: r) [[a]] := by
  refine ⟨?_, fun x hx => ?_⟩
  · rw [List.length_cons, Nat.mul_succ]
    exact Nat.le_add_left _ _
  · rw [List.mem_singleton.mp hx]
    exact ⟨Nat.le_add_left 1 _, fun c hc => by rw [List.mem_singleton.mp hc]; exact .head _⟩
theorem LWP.sign {a : Nat} {r x : List Nat} {q : List (List Nat)} (h : LWP r (x :: q)) : LWP (a :: r) ((a :: x) :: q) := by
  have h1 := h.1
  refine ⟨?_, fun y hy => ?_⟩
  · rw [List.map_cons, List.sum_cons] at h1 ⊢
    rw [List.length_cons, List.length_cons, Nat.mul_succ, Nat.add_right_comm (x.length + 1)]
    exact Nat.le_trans (Nat.succ_le_succ h1) (Nat.le_succ _)
  · rcases List.mem_cons.mp hy with rfl | hy
    · obtain ⟨k1, k2⟩ := h.2 x (.head _)
      refine ⟨Nat.succ_le_succ k1, fun c hc => ?_⟩
      rcases List.mem_cons.mp hc with rfl | hc
      · exact .head _
      · exact .tail _ (k2 c hc)
    · exact h.skip.2 y (.tail _ hy)
theorem lns_wP (n : Nat) : ∀ l : List Nat, l.length ≤ n → LWP l (lns l) := by
  induction n with
  | zero =>
    intro l h
    rw [List.length_eq_zero_iff.mp (Nat.le_zero.mp h)]
    exact ⟨Nat.le_refl _, fun x hx => nomatch hx⟩
  | succ n ih =>
    intro l h
    cases l with
    | nil => exact ⟨Nat.le_refl _, fun x hx => nomatch hx⟩
    | cons a r =>
      have hr : r.length ≤ n := Nat.le_of_succ_le_succ h
      cases ha : isNl a with
      | true =>
        by_cases hc : (a == 13 && r[0]? == some 10) = true
        · rw [Bool.and_eq_true, beq_iff_eq, beq_iff_eq] at hc
          obtain ⟨rfl, h10⟩ := hc
          cases r with
          | nil => cases h10
          | cons b q =>
            cases h10
            have e : lns (13 :: 10 :: q) = [] :: lns q := by simp [lns]
            rw [e]
            exact (ih q (Nat.le_of_succ_le hr)).skip.brk
        · rw [lns_brk ha (Bool.eq_false_iff.mpr hc)]
          exact (ih r hr).brk
      | false =>
        rw [lns_sign ha]
        unfold app
        rw [if_neg (List.cons_ne_nil _ _)]
        have i := ih r hr
        cases hl : lns r with
        | nil => exact .one a r
        | cons x q => rw [hl] at i; exact i.sign
theorem lns_w (n : Nat) (l : List Nat) (h : l.length ≤ n) : ((lns l).map fun x => x.length + 1).sum ≤ 2 * l.length ∧ ∀ x ∈ lns l, x.length ≤ l.length ∧ ∀ c ∈ x, c ∈ l := lns_wP n l h
/-- decode -/
noncomputable def decA (eol enc : List Nat) : List Nat :=
  let d := (lns enc).flatMap (decR eol)
  if !(enc.getLast? == some 13 || enc.getLast? == some 10) && sfx d eol then d.take (d.length - eol.length) else d
theorem decA_len {eol enc : List Nat} (he : eol.length ≤ 5) (hl : enc.length ≤ 1000) : ((lns enc).flatMap (decR eol)).length ≤ 20000 := by
  obtain ⟨h1, _⟩ := lns_w _ enc (Nat.le_refl _)
  have key : ∀ ls : List (List Nat), (ls.flatMap (decR eol)).length ≤ 5 * (ls.map fun x => x.length + 1).sum := by
    intro ls
    induction ls with
    | nil => simp
    | cons a r ih =>
      have := decR_len eol a
      simp only [List.flatMap_cons, List.length_append, List.map_cons, List.sum_cons]
      lia
  have := key (lns enc)
  lia
theorem run_decode {g : G} (hq : ∀ a b x y K, hexV a = some x → hexV b = some y → g.call 0 [.p (.str [61, a, b])] K = some (.p (.str [16 * x + y]), K)) {enc eol : List Nat} {H : List O} (h0 : enc ≠ []) (hl : enc.length ≤ 1000) (ha : asc enc = true) (he : eol.length ≤ 5) (he0 : eol ≠ []) :
    runF g pF_decode [.p (.str enc), .p (.str eol)] H = some (.p (.str (decA eol enc)), H) := by
  let d := (lns enc).flatMap (decR eol)
  have hdl : d.length ≤ 20000 := decA_len he hl
  obtain ⟨w1, w2⟩ := lns_w _ enc (Nat.le_refl _)
  let Hl := H ++ [O.list ((lns enc).map P.str)]
  obtain ⟨a3, a4, a5, a6, hloop⟩ := dec_lines (g := g) hq (enc := enc) (eol := eol) (H := Hl) (all := (lns enc).map P.str) (w := some H.length) (stays_of (getL_last _ _)) he (lns enc) [] none none none none (fun l hx => ⟨by have := (w2 l hx).1; exact Nat.le_trans ‹_› ‹_›, List.all_eq_true.mpr fun c hc => List.all_eq_true.mp ha c ((w2 l hx).2 c hc)⟩) (by simp; lia)
  rw [List.nil_append] at hloop
  suffices hs : ∃ loc', exs g pb_decode (loc0 pF_decode [.p (.str enc), .p (.str eol)]) H = some (.ret (.p (.str (decA eol enc))), loc', H) by
    obtain ⟨loc', hs⟩ := hs
    exact runF_ret (v := .p (.str (decA eol enc))) rfl hs (by simp [tidy])
  let L0 : List (Option V) := [some (.p (.str enc)), some (.p (.str eol)), none, none, none, none, none]
  have t1 : ex g (.ifs (.not (.loc 0)) [.ret (.loc 0)] []) L0 H = some (.next, L0, H) := ex_ifF ((evT_not rfl (by exact Nat.le_trans ‹_› (by decide))).trans (by simp [h0])) rfl
  have t3 : ex g (.fore (.one 3) (.sm .splitlines (.loc 0) []) lnD) (Ldd enc eol [] none none none none) H = some (.next, Ldd enc eol d a3 a4 a5 a6, Hl) := by
    refine ex_for (v := .ref H.length) (H₁ := Hl) (ps := (lns enc).map P.str) (w := some H.length) (ev_sm (ev_loc rfl) rfl (evs_nil _ _ _) ?_) ?_ hloop
    · simp only [smV, ok_of (show enc.length ≤ 1000000 by exact Nat.le_trans ‹_› (by decide)), ha, Bool.and_self, if_true, smT, nul_mk, pstr_mk, Option.bind_some]
      rfl
    · simp only [itemsOf, Hl, getL_last, Option.map_some]
  have hlb : lb (Ldd enc eol d a3 a4 a5 a6) = 0 := by
    cases a3 <;> cases a4 <;> cases a5 <;> cases a6 <;> simp [lb, vb, Ldd]
  have g3 : gc H.length (Ldd enc eol d a3 a4 a5 a6) Hl = H := by
    rw [gc_eq (k := H.length) (by rw [hlb]; lia)]
    exact take_sh0 _ _
  obtain ⟨z, hz⟩ : ∃ z, enc.getLast? = some z := ⟨enc.getLast h0, List.getLast?_eq_some_getLast h0⟩
  have ez : ev g (Ldd enc eol d a3 a4 a5 a6) (.idx (.loc 0) (.neg (.lit (.int (1))))) H = some (.p (.str [z]), H) := by
    refine ev_idx (ev_loc rfl) (y := .p (.int (-1))) rfl ?_
    have hpos : 0 < enc.length := List.length_pos_iff.mpr h0
    have i1 : inIdx (-1) enc.length = true := by
      simp [inIdx, oki]
      lia
    have i2 : nIdx (-1) enc.length = enc.length - 1 := by unfold nIdx; rw [if_pos (by exact Int.natCast_nonneg _)]; lia
    have i3 : enc[enc.length - 1]? = some z := by rw [← hz, List.getLast?_eq_getElem?]
    simp only [idxV, i1, if_true, i2, i3, Option.map_some, idxA, idxP, int_mk, Option.bind_some]
  have c1 : evT g (Ldd enc eol d a3 a4 a5 a6) (.and [(.cmp .nin (.idx (.loc 0) (.neg (.lit (.int (1))))) (.lit (.str [13, 10]))), (.sm .endswith (.loc 2) [(.loc 1)])]) (ev g (Ldd enc eol d a3 a4 a5 a6) (.and [(.cmp .nin (.idx (.loc 0) (.neg (.lit (.int (1))))) (.lit (.str [13, 10]))), (.sm .endswith (.loc 2) [(.loc 1)])]) H) H =
      some ((!(enc.getLast? == some 13 || enc.getLast? == some 10) && sfx d eol), H) := by
    refine evT_and (evC_cons (t := !(enc.getLast? == some 13 || enc.getLast? == some 10)) (evT_cmp ez rfl ?_) ?_)
    · rw [hz]
      simp only [cmpV, cmpP, cmpIn, pstr_mk, one_mk, Option.bind_some]
      by_cases q1 : z = 13 <;> by_cases q2 : z = 10 <;> simp [q1, q2]
    · cases hcb : !(enc.getLast? == some 13 || enc.getLast? == some 10) with
      | false => rfl
      | true =>
        simp only [if_true, Bool.true_and]
        refine evC_cons (t := sfx d eol) (H₁ := H) ?_ ?_
        · have : ev g (Ldd enc eol d a3 a4 a5 a6) (.sm .endswith (.loc 2) [(.loc 1)]) H = some (.p (.bool (sfx d eol)), H) := ev_sm (ev_loc rfl) rfl (evs_cons (ev_loc rfl) (evs_nil _ _ _)) rfl
          simp only [evT_smE, this, Option.bind_some, truV, truP]
        · cases sfx d eol <;> rfl
  have fin : ∃ loc', exs g [.ifs (.and [(.cmp .nin (.idx (.loc 0) (.neg (.lit (.int (1))))) (.lit (.str [13, 10]))), (.sm .endswith (.loc 2) [(.loc 1)])]) [.asg (.one 2) (.sl (.loc 2) none (some (.neg (.bi .len [(.loc 1)]))))] [], .ret (.loc 2)] (Ldd enc eol d a3 a4 a5 a6) H = some (.ret (.p (.str (decA eol enc))), loc', H) := by
    have hdA : decA eol enc = if (!(enc.getLast? == some 13 || enc.getLast? == some 10) && sfx d eol) then d.take (d.length - eol.length) else d := rfl
    rw [hdA]
    cases hc : (!(enc.getLast? == some 13 || enc.getLast? == some 10) && sfx d eol) with
    | false =>
      rw [hc] at c1
      exact ⟨_, exs_step (ex_ifF c1 rfl) (gc_same _ _) (exs_stop rfl (by simp))⟩
    | true =>
      rw [hc] at c1
      refine ⟨Ldd enc eol (d.take (d.length - eol.length)) a3 a4 a5 a6, exs_step (loc' := Ldd enc eol (d.take (d.length - eol.length)) a3 a4 a5 a6) (ex_ifT c1 ?_) (gc_same _ _) (exs_stop rfl (by simp))⟩
      have hpos : 0 < eol.length := List.length_pos_iff.mpr he0
      refine exs_step (ex_asg (ev_sl (ev_loc rfl) (evo_none _ _ _) (evo_some (x := .p (.int (-(eol.length : Int)))) (H₁ := H) ?_) (r := (.p (.str (d.take (d.length - eol.length))), H)) ?_) rfl) (gc_same _ _) rfl
      · have e1 : ev g (Ldd enc eol d a3 a4 a5 a6) (.bi .len [(.loc 1)]) H = some (.p (.int eol.length), H) := ev_bi (evs_cons (ev_loc rfl) (evs_nil _ _ _)) (by simp only [biV, ok_of (show eol.length ≤ 1000000 by exact Nat.le_trans ‹_› (by decide)), if_true, biA, lenV, lenP, nul_mk, Option.bind_some])
        simp only [ev_negE, ev_biE] at e1 ⊢
        rw [e1]
        rfl
      · have o1 : oki (-(eol.length : Int)) = true := oki_of (by lia)
        simp only [slV, bnds, o1, if_true, Option.bind_some, ok_of (show d.length ≤ 1000000 by exact Nat.le_trans ‹_› (by decide)), pstr_mk, int_mk]
        congr 3
        unfold cut clip
        simp only [Option.map_some, Option.map_none, Option.getD_some, Option.getD_none, List.drop_zero, Nat.sub_zero]
        rw [if_pos (by lia), show (-(eol.length : Int) + (d.length : Int)).toNat = d.length - eol.length by lia]
  obtain ⟨loc', fin⟩ := fin
  exact ⟨loc', exs_step t1 (gc_same _ _) (exs_step (loc' := Ldd enc eol [] none none none none) rfl (gc_same _ _) (exs_step t3 g3 fin))⟩
end Mine
end
section
open PySem PySem.W PyProof.Rows PyProof.V
set_option Elab.async false
set_option maxRecDepth 20000
set_option linter.unusedSimpArgs false
namespace Mine
noncomputable abbrev Hb (H : List O) (acc : List P) (K : List O) : List O := H ++ O.list acc :: K
theorem Hb_get (H : List O) (acc : List P) (K : List O) : getL (Hb H acc K) H.length = some acc := by simp [getL]
theorem Hb_set (H : List O) (acc acc' : List P) (K : List O) : (Hb H acc K).set H.length (.list acc') = Hb H acc' K := by
  rw [List.set_append_right _ _ (Nat.le_refl _)]; simp
theorem Hb_gc {H : List O} {acc acc' : List P} {K : List O} {loc : List (Option V)} : gc (Hb H acc K).length loc (Hb H acc' K) = Hb H acc' K := by
  unfold gc
  refine List.take_of_length_le (Nat.le_trans ?_ (Nat.le_max_left _ _))
  simp
theorem Hb_add {H : List O} {acc : List P} {K : List O} {x : P} (h : acc.length ≤ 900000) : addTo H.length (.p x) (Hb H acc K) = some (Hb H (acc ++ [x]) K) := by
  simp only [addTo, Hb_get, Option.bind_some, Hb_set, pl_mk]
  rw [if_pos (ok_of (by exact Nat.le_trans ‹_› (by decide)))]
noncomputable def stepW (size : Nat) (r : List Nat) : Nat × List Nat := if r[size - 2]? = some 61 then (size - 2, r.take (size - 1)) else if r[size - 1]? = some 61 then (size - 1, r.take size) else (size, r.take size ++ [61])
noncomputable def encW (size : Nat) : Nat → List Nat → List (List Nat) × List Nat
  | 0, r => ([], r)
  | f + 1, r => if size + 2 ≤ r.length then ((stepW size r).2 :: (encW size f (r.drop (stepW size r).1)).1, (encW size f (r.drop (stepW size r).1)).2) else ([], r)
theorem stepW_le {size : Nat} {r : List Nat} (h3 : 3 ≤ size) : 1 ≤ (stepW size r).1 ∧ (stepW size r).1 ≤ size := by
  unfold stepW
  split
  · simp; lia
  · split <;> simp <;> (first | exact Nat.zero_lt_of_lt ‹_› | omega)
theorem encW_suffix {size : Nat} : ∀ (f : Nat) (r : List Nat), (encW size f r).2 <:+ r
  | 0, r => List.suffix_refl _
  | f + 1, r => by
    unfold encW
    split
    · exact (encW_suffix f _).trans (List.drop_suffix _ _)
    · exact List.suffix_refl _
noncomputable def Lb2 (bt : List Nat) (size : Nat) (eol : List Nat) (n : Nat) (o7 o8 o9 o10 o11 o12 : Option P) : List (Option V) :=
  [some (.p (.str bt)), some (.p (.int ((size : Int) + 1))), some (.p (.str eol)), some (.p (.str (61 :: eol))), some (.p (.int (size : Int))), some (.ref n), some (.bm n), o7.map V.p, o8.map V.p, o9.map V.p, o10.map V.p, o11.map V.p, o12.map V.p]
theorem wh_turn2 {g : G} {bt : List Nat} {size : Nat} {eol : List Nat} {line : List Nat} {s : Nat} {la : Int} {o1 o2 o3 : Option P} {H K : List O} {acc : List P} (h3 : 3 ≤ size) (hs : s + size + 2 ≤ line.length) (hl : line.length ≤ 1000) (ha : acc.length ≤ 5000) :
    exs g whB (Lb bt size eol H.length line s la o1 o2 o3) (Hb H acc K) = some (.next, Lb bt size eol H.length line ((s + (stepW size (line.drop s)).1 : Nat) : Int) la (some (pN (s + size))) o2 o3, Hb H (acc ++ [.str (stepW size (line.drop s)).2]) K) := by
  have q0 : ((s : Int) + (size : Int)) = ((s + size : Nat) : Int) := by push_cast; rfl
  have okl : ok line.length = true := ok_of (by exact Nat.le_trans ‹_› (by decide))
  have okr : ok (size + 1) = true := ok_of (by lia)
  have okn : ∀ k : Nat, k ≤ 1000 → oki (k : Int) = true := fun k h => oki_nat (by exact Nat.le_trans ‹_› (by decide))
  have cutN : ∀ k : Nat, s + k ≤ line.length → ∀ K : List O, slV (.p (.str line)) (some (.p (.int (s : Int)))) (some (.p (.int ((s + k : Nat) : Int)))) K = some (.p (.str ((line.drop s).take k)), K) := fun k hk K => by
    have e := cut_nat line (a := s) (b := s + k) (by exact Nat.le_trans (Nat.le_add_right _ _) ‹_›) hk
    rw [show s + k - s = k by lia] at e
    simp only [slV, bnds, okn s (by lia), okn (s + k) (by exact Nat.le_trans ‹_› ‹_›), if_true, Option.bind_some, okl, e, pstr_mk, int_mk]
  have at_ : ∀ k, k < size → ∃ c, (line.drop s)[k]? = some c ∧ line[s + k]? = some c := fun k hk => by
    refine ⟨line[s + k]'(by lia), ?_, ?_⟩
    · rw [List.getElem?_drop]; exact List.getElem?_eq_getElem (by lia)
    · exact List.getElem?_eq_getElem (by lia)
  obtain ⟨c2, d2, i2⟩ := at_ (size - 2) (by omega)
  obtain ⟨c1, d1, i1⟩ := at_ (size - 1) (by omega)
  let L1 := Lb bt size eol H.length line s la (some (pN (s + size))) o2 o3
  have s1 : ex g (.asg (.one 10) (.bin .add (.loc 8) (.loc 4))) (Lb bt size eol H.length line s la o1 o2 o3) (Hb H acc K) = some (.next, L1, Hb H acc K) :=
    ex_asg (ev_bin (ev_loc rfl) (ev_loc rfl) (z := (.p (pN (s + size)), _)) (by simp [binV, binP, addP, pint_mk, Option.bind_some, pl_mk])) rfl
  have x2 : ev g L1 (.idx (.loc 7) (.bin .sub (.loc 10) (.lit (.int (2))))) (Hb H acc K) = some (.p (.str [c2]), Hb H acc K) := by
    refine ev_idx (ev_loc rfl) (ev_bin (ev_loc rfl) rfl rfl) ?_
    rw [show ((s + size : Nat) : Int) - 2 = ((s + (size - 2) : Nat) : Int) by lia]
    exact idx_str i2 hl
  have x1 : ev g L1 (.idx (.loc 7) (.bin .sub (.loc 10) (.lit (.int (1))))) (Hb H acc K) = some (.p (.str [c1]), Hb H acc K) := by
    refine ev_idx (ev_loc rfl) (ev_bin (ev_loc rfl) rfl rfl) ?_
    rw [show ((s + size : Nat) : Int) - 1 = ((s + (size - 1) : Nat) : Int) by lia]
    exact idx_str i1 hl
  have b2 : evT g L1 (.cmp .eq (.idx (.loc 7) (.bin .sub (.loc 10) (.lit (.int (2))))) (.lit (.str [61]))) (ev g L1 (.cmp .eq (.idx (.loc 7) (.bin .sub (.loc 10) (.lit (.int (2))))) (.lit (.str [61]))) (Hb H acc K)) (Hb H acc K) = some (decide (c2 = 61), Hb H acc K) :=
    evT_cmp x2 rfl (by simp only [cmpV, eqP, cmpP, pstr_mk, Option.bind_some]; by_cases h : c2 = 61 <;> simp [h])
  have b1 : evT g L1 (.cmp .eq (.idx (.loc 7) (.bin .sub (.loc 10) (.lit (.int (1))))) (.lit (.str [61]))) (ev g L1 (.cmp .eq (.idx (.loc 7) (.bin .sub (.loc 10) (.lit (.int (1))))) (.lit (.str [61]))) (Hb H acc K)) (Hb H acc K) = some (decide (c1 = 61), Hb H acc K) :=
    evT_cmp x1 rfl (by simp only [cmpV, eqP, cmpP, pstr_mk, Option.bind_some]; by_cases h : c1 = 61 <;> simp [h])
  refine exs_step s1 Hb_gc ?_
  by_cases e2 : c2 = 61
  · have hst : stepW size (line.drop s) = (size - 2, (line.drop s).take (size - 1)) := by unfold stepW; rw [d2, e2, if_pos rfl]
    rw [hst]
    refine exs_step (ex_ifT (by rw [b2, decide_eq_true e2]) ?_) Hb_gc rfl
    refine exs_step (loc' := L1) (ex_ex (ev_app (ev_loc rfl) (ev_sl (ev_loc rfl) (evo_some (ev_loc rfl)) (evo_some (ev_bin (ev_loc rfl) rfl rfl)) (r := (.p (.str ((line.drop s).take (size - 1))), _)) ?_) (Hb_add (acc := acc) (by exact Nat.le_trans ‹_› (by decide))))) Hb_gc ?_
    · rw [show ((s + size : Nat) : Int) - 1 = ((s + (size - 1) : Nat) : Int) by lia]
      exact cutN _ (by lia) _
    · refine exs_step (ex_asg (ev_bin (ev_loc rfl) rfl rfl) rfl) Hb_gc ?_
      rw [show ((s + size : Nat) : Int) - 2 = ((s + (size - 2) : Nat) : Int) by lia]
      rfl
  · have f2 : (line.drop s)[size - 2]? ≠ some 61 := by rw [d2]; intro h; cases h; exact e2 rfl
    refine exs_step (ex_ifF (by rw [b2, decide_eq_false e2]) ?_) Hb_gc rfl
    by_cases e1 : c1 = 61
    · have hst : stepW size (line.drop s) = (size - 1, (line.drop s).take size) := by unfold stepW; rw [if_neg f2, d1, e1, if_pos rfl]
      rw [hst]
      refine exs_step (ex_ifT (by rw [b1, decide_eq_true e1]) ?_) Hb_gc rfl
      refine exs_step (loc' := L1) (ex_ex (ev_app (ev_loc rfl) (ev_sl (ev_loc rfl) (evo_some (ev_loc rfl)) (evo_some (ev_loc rfl)) (r := (.p (.str ((line.drop s).take size)), _)) (cutN _ (by exact Nat.le_trans (Nat.le_add_right _ _) ‹_›) _)) (Hb_add (acc := acc) (by exact Nat.le_trans ‹_› (by decide))))) Hb_gc ?_
      refine exs_step (ex_asg (ev_bin (ev_loc rfl) rfl rfl) rfl) Hb_gc ?_
      rw [show ((s + size : Nat) : Int) - 1 = ((s + (size - 1) : Nat) : Int) by lia]
      rfl
    · have f1 : (line.drop s)[size - 1]? ≠ some 61 := by rw [d1]; intro h; cases h; exact e1 rfl
      have hst : stepW size (line.drop s) = (size, (line.drop s).take size ++ [61]) := by unfold stepW; rw [if_neg f2, if_neg f1]
      rw [hst]
      refine exs_step (ex_ifF (by rw [b1, decide_eq_false e1]) ?_) Hb_gc rfl
      have tl : ((line.drop s).take size).length = size := by simp; lia
      refine exs_step (loc' := L1) (ex_ex (ev_app (ev_loc rfl) (ev_bin (ev_sl (ev_loc rfl) (evo_some (ev_loc rfl)) (evo_some (ev_loc rfl)) (r := (.p (.str ((line.drop s).take size)), _)) (cutN _ (by exact Nat.le_trans (Nat.le_add_right _ _) ‹_›) _)) rfl (z := (.p (.str ((line.drop s).take size ++ [61])), _)) (by simp [binV, binP, tl, okr, addP, pstr_mk, Option.bind_some, pl_mk])) (Hb_add (acc := acc) (by exact Nat.le_trans ‹_› (by decide))))) Hb_gc ?_
      exact exs_step (ex_asg (ev_loc rfl) rfl) Hb_gc rfl
theorem wh_run2 {g : G} {bt : List Nat} {size : Nat} {eol : List Nat} {line : List Nat} {o2 o3 : Option P} {H K : List O} (h3 : 3 ≤ size) (hz : size ≤ 500) (hl : line.length ≤ 1000) :
    ∀ (f s n : Nat) (acc : List P) (o1 : Option P), line.length - s ≤ f → s ≤ line.length → acc.length + (line.length - s) ≤ 5000 →
    ∃ o1', whlL (fun loc H => evT g loc (.cmp .le (.loc 8) (.loc 9)) (ev g loc (.cmp .le (.loc 8) (.loc 9)) H) H) (fun loc H => exs g whB loc H) (f + n + 1) (Lb bt size eol H.length line (s : Int) ((line.length : Int) - 1 - ((size : Int) + 1)) o1 o2 o3) (Hb H acc K) =
      some (.next, Lb bt size eol H.length line ((line.length - (encW size f (line.drop s)).2.length : Nat) : Int) ((line.length : Int) - 1 - ((size : Int) + 1)) o1' o2 o3, Hb H (acc ++ (encW size f (line.drop s)).1.map P.str) K) := by
  intro f
  have stop : ∀ (f s n : Nat) (acc : List P) (o1 : Option P), s ≤ line.length → ¬ s + size + 2 ≤ line.length → ∃ o1', whlL (fun loc H => evT g loc (.cmp .le (.loc 8) (.loc 9)) (ev g loc (.cmp .le (.loc 8) (.loc 9)) H) H) (fun loc H => exs g whB loc H) (n + 1) (Lb bt size eol H.length line (s : Int) ((line.length : Int) - 1 - ((size : Int) + 1)) o1 o2 o3) (Hb H acc K) =
      some (.next, Lb bt size eol H.length line ((line.length - (encW size f (line.drop s)).2.length : Nat) : Int) ((line.length : Int) - 1 - ((size : Int) + 1)) o1' o2 o3, Hb H (acc ++ (encW size f (line.drop s)).1.map P.str) K) := fun f s n acc o1 hs hc => by
    refine ⟨o1, (whl_stop (evT_cmp (ev_loc rfl) (ev_loc rfl) (le_f (by lia)))).trans ?_⟩
    have dl : (line.drop s).length = line.length - s := List.length_drop
    have e : encW size f (line.drop s) = ([], line.drop s) := by
      cases f with
      | zero => rfl
      | succ f => rw [encW, if_neg (by omega)]
    rw [e, dl, show line.length - (line.length - s) = s by lia, List.map_nil, List.append_nil]
  induction f with
  | zero => exact fun s n acc o1 hf hs ha => stop _ _ _ _ _ hs (by lia)
  | succ f iw =>
    intro s n acc o1 hf hs ha
    rw [Nat.add_right_comm f 1 n]
    by_cases hc : s + size + 2 ≤ line.length
    · have dl : (line.drop s).length = line.length - s := List.length_drop
      have st := stepW_le (size := size) (r := line.drop s) h3
      obtain ⟨o1', ih⟩ := iw (s + (stepW size (line.drop s)).1) n (acc ++ [.str (stepW size (line.drop s)).2]) (some (pN (s + size))) (by lia) (by lia) (by rw [List.length_append, List.length_singleton]; lia)
      refine ⟨o1', whl_go (evT_cmp (ev_loc rfl) (ev_loc rfl) (le_t (by lia))) (.inl (wh_turn2 h3 hc hl (by exact Nat.le_trans (Nat.le_add_right _ _) ‹_›))) (ih.trans ?_)⟩
      have e : encW size (f + 1) (line.drop s) = ((stepW size (line.drop s)).2 :: (encW size f ((line.drop s).drop (stepW size (line.drop s)).1)).1, (encW size f ((line.drop s).drop (stepW size (line.drop s)).1)).2) := by
        rw [encW, if_pos (by lia)]
      rw [e, List.drop_drop, List.append_assoc]
      rfl
    · exact stop _ _ _ _ _ hs hc
/-- a line's last element -/
noncomputable def tailL (size : Nat) (eol r line : List Nat) : List Nat := if line.getLast? = some 32 then r.take (r.length - 1) ++ (if r.length + 1 ≤ size then [61, 50, 48] else if r.length = size then 32 :: 61 :: eol else 61 :: eol ++ [61, 50, 48]) else r
noncomputable def encL (size : Nat) (eol line : List Nat) : List (List Nat) := (encW size line.length line).1 ++ [tailL size eol (encW size line.length line).2 line]
theorem encW_rest {size : Nat} (h3 : 3 ≤ size) : ∀ (f : Nat) (r : List Nat), r.length ≤ f → (encW size f r).2.length ≤ size + 1 ∧ (r ≠ [] → (encW size f r).2 ≠ []) ∧ (encW size f r).1.length + (encW size f r).2.length ≤ r.length
  | 0, r, h => by
    have : r = [] := List.length_eq_zero_iff.mp (by lia)
    subst this
    simp [encW]
  | f + 1, r, h => by
    unfold encW
    split
    · rename_i hc
      have st := stepW_le (size := size) (r := r) h3
      obtain ⟨a, b, c⟩ := encW_rest (size := size) h3 f (r.drop (stepW size r).1) (by simp; lia)
      refine ⟨a, fun _ => b (fun h0 => ?_), ?_⟩
      · have := congrArg List.length h0
        simp at this
        lia
      · simp at c ⊢; lia
    · rename_i hc
      refine ⟨by simp; exact Nat.le_of_not_lt ‹_›, fun h0 => h0, by simp⟩
noncomputable def lnE : List T := [.asg (.one 8) (.lit (.int (0))),
  .asg (.one 9) (.bin .sub (.bin .sub (.bi .len [(.loc 7)]) (.lit (.int (1)))) (.loc 1)),
  .whl (.cmp .le (.loc 8) (.loc 9)) whB,
  .ifs (.and [(.loc 7), (.cmp .inn (.idx (.loc 7) (.neg (.lit (.int (1))))) (.lit (.str [32, 9])))]) [.asg (.one 11) (.bin .sub (.loc 8) (.loc 9)),
  .ifs (.cmp .ge (.loc 11) (.lit (.int (3)))) [.asg (.one 12) (.cal 1 [(.idx (.loc 7) (.neg (.lit (.int (1)))))])] [.ifs (.cmp .eq (.loc 11) (.lit (.int (2)))) [.asg (.one 12) (.bin .add (.idx (.loc 7) (.neg (.lit (.int (1))))) (.loc 3))] [.asg (.one 12) (.bin .add (.loc 3) (.cal 1 [(.idx (.loc 7) (.neg (.lit (.int (1)))))]))]],
  .ex (.app (.loc 6) (.bin .add (.sl (.loc 7) (some (.loc 8)) (some (.neg (.lit (.int (1)))))) (.loc 12)))] [.ex (.app (.loc 6) (.sl (.loc 7) (some (.loc 8)) none))]]
theorem ev_last {g : G} {L : List (Option V)} {i : Nat} {H : List O} {l : List Nat} {z : Nat} (hi : L[i]? = some (some (.p (.str l)))) (hz : l.getLast? = some z) (hl : l.length ≤ 1000) : ev g L (.idx (.loc i) (.neg (.lit (.int (1))))) H = some (.p (.str [z]), H) := by
  refine ev_idx (ev_loc hi) (y := .p (.int (-1))) rfl ?_
  have hpos : 0 < l.length := List.length_pos_iff.mpr (by rintro rfl; cases hz)
  have i1 : inIdx (-1) l.length = true := by
    simp [inIdx, oki]
    lia
  have i2 : nIdx (-1) l.length = l.length - 1 := by unfold nIdx; rw [if_pos (by exact Int.natCast_nonneg _)]; lia
  have i3 : l[l.length - 1]? = some z := by rw [← hz, List.getLast?_eq_getElem?]
  simp only [idxV, i1, if_true, i2, i3, Option.map_some, idxA, idxP, int_mk, Option.bind_some]
theorem tn_sub {l r : Nat} (hr : 0 < r) (h : r ≤ l) : ((-1 : Int) + (l : Int)).toNat - (l - r) = r - 1 := by
  obtain ⟨k, rfl⟩ := Nat.exists_eq_add_of_le' h
  rw [Nat.add_sub_cancel, show (-1 : Int) + ((k + r : Nat) : Int) = ((k + (r - 1) : Nat) : Int) by lia, Int.toNat_natCast, Nat.add_sub_cancel_left]
theorem rm_eq {l r s : Nat} (h : r ≤ l) : ((l - r : Nat) : Int) - ((l : Int) - 1 - ((s : Int) + 1)) = (s : Int) + 2 - (r : Int) := by lia
theorem rm_ge {s r : Nat} (h : r + 1 ≤ s) : 3 ≤ (s : Int) + 2 - (r : Int) := by lia
theorem rm_lt {s r : Nat} (h : ¬ r + 1 ≤ s) : ¬ 3 ≤ (s : Int) + 2 - (r : Int) := by lia
theorem rm_two {s r : Nat} (h : r = s) : (s : Int) + 2 - (r : Int) = 2 := by lia
theorem rm_ne {s r : Nat} (h : ¬ r = s) : ¬ (s : Int) + 2 - (r : Int) = 2 := by lia
theorem enc_line {g : G} (hq : ∀ K, g.call 1 [.p (.str [32])] K = some (.p (.str [61, 50, 48]), K)) {bt : List Nat} {size : Nat} {eol : List Nat} {line : List Nat} {o8 o9 o10 o11 o12 : Option P} {H K : List O} {acc : List P} (h3 : 3 ≤ size) (hz : size ≤ 500) (hl : line.length ≤ 1000) (he : eol.length ≤ 5) (h9 : 9 ∉ line) (ha : acc.length + line.length ≤ 4000) :
    ∃ o8' o9' o10' o11' o12', exs g lnE (Lb2 bt size eol H.length (some (.str line)) o8 o9 o10 o11 o12) (Hb H acc K) = some (.next, Lb2 bt size eol H.length (some (.str line)) o8' o9' o10' o11' o12', Hb H (acc ++ (encL size eol line).map P.str) K) := by
  have okl : ok line.length = true := ok_of (by exact Nat.le_trans ‹_› (by decide))
  have s1 : ex g (.asg (.one 8) (.lit (.int (0)))) (Lb2 bt size eol H.length (some (.str line)) o8 o9 o10 o11 o12) (Hb H acc K) = some (.next, Lb2 bt size eol H.length (some (.str line)) (some (.int 0)) o9 o10 o11 o12, Hb H acc K) := rfl
  have s2 : ex g (.asg (.one 9) (.bin .sub (.bin .sub (.bi .len [(.loc 7)]) (.lit (.int (1)))) (.loc 1))) (Lb2 bt size eol H.length (some (.str line)) (some (.int 0)) o9 o10 o11 o12) (Hb H acc K) = some (.next, Lb bt size eol H.length line ((0 : Nat) : Int) ((line.length : Int) - 1 - ((size : Int) + 1)) o10 o11 o12, Hb H acc K) :=
    ex_asg (ev_bin (ev_bin (ev_bi (evs_cons (ev_loc rfl) (evs_nil _ _ _)) (z := (.p (.int line.length), _)) (by simp only [biV, okl, if_true, biA, lenV, lenP, nul_mk, Option.bind_some])) rfl rfl) (ev_loc rfl) rfl) rfl
  obtain ⟨o10', hw⟩ := wh_run2 (g := g) (bt := bt) (size := size) (eol := eol) (line := line) (o2 := o11) (o3 := o12) (H := H) (K := K) h3 hz hl line.length 0 (fuel - line.length - 1) acc o10 (by exact Nat.sub_le _ _) (by exact Nat.zero_le _) (by exact Nat.le_trans ‹_› (by decide))
  rw [show line.length + (fuel - line.length - 1) + 1 = fuel by have : fuel = 100000 := rfl; lia] at hw
  rw [List.drop_zero] at hw
  obtain ⟨r1, r2, r4⟩ := encW_rest (size := size) h3 line.length line (Nat.le_refl _)
  have r3 := encW_suffix (size := size) line.length line
  have rl : (encW size line.length line).2.length ≤ line.length := r3.length_le
  let r := (encW size line.length line).2
  let acc1 := acc ++ (encW size line.length line).1.map P.str
  have hacc1 : acc1.length ≤ 900000 := by simp [acc1]; lia
  have rl' : r.length ≤ line.length := rl
  have r1' : r.length ≤ size + 1 := r1
  let s := line.length - r.length
  have hdrop : line.drop s = r := (List.suffix_iff_eq_drop.mp r3).symm
  let la : Int := (line.length : Int) - 1 - ((size : Int) + 1)
  let L3 := Lb bt size eol H.length line ((s : Nat) : Int) la o10' o11 o12
  have oks : oki ((s : Nat) : Int) = true := oki_nat (by lia)
  have hend : ∀ x, tailL size eol r line = x → acc1 ++ [.str x] = acc ++ (encL size eol line).map P.str := fun x hx => by
    simp only [acc1, encL, List.map_append, List.map_cons, List.map_nil, List.append_assoc]
    rw [← hx]
  have plainE : line.getLast? ≠ some 32 → exs g [.ex (.app (.loc 6) (.sl (.loc 7) (some (.loc 8)) none))] L3 (Hb H acc1 K) = some (.next, L3, Hb H (acc ++ (encL size eol line).map P.str) K) := fun hne => by
    rw [← hend r (by unfold tailL; rw [if_neg hne])]
    refine exs_step (ex_ex (ev_app (ev_loc rfl) (ev_sl (ev_loc rfl) (evo_some (ev_loc rfl)) (evo_none _ _ _) (r := (.p (.str r), _)) ?_) (Hb_add (acc := acc1) hacc1))) Hb_gc rfl
    simp only [slV, bnds, oks, if_true, Option.bind_some, okl, pstr_mk, int_mk]
    rw [cut_drop, hdrop]
  refine ?_
  by_cases h0 : line = []
  · refine ⟨some (.int (s : Int)), some (.int la), o10', o11, o12, exs_step s1 Hb_gc (exs_step s2 Hb_gc (exs_step (ex_whl hw) Hb_gc (exs_step (ex_ifF ?_ (plainE (by rw [h0]; simp))) Hb_gc ?_)))⟩
    · refine evT_and (evC_cons (t := false) (H₁ := Hb H acc1 K) ?_ rfl)
      subst h0
      rfl
    · rfl
  · obtain ⟨z, hzl⟩ : ∃ z, line.getLast? = some z := ⟨line.getLast h0, List.getLast?_eq_some_getLast h0⟩
    have z9 : z ≠ 9 := fun h => h9 (h ▸ List.mem_of_getLast? hzl)
    have elast : ∀ K', ev g L3 (.idx (.loc 7) (.neg (.lit (.int (1))))) K' = some (.p (.str [z]), K') := fun K' => ev_last rfl hzl hl
    have tst : evT g L3 (.and [(.loc 7), (.cmp .inn (.idx (.loc 7) (.neg (.lit (.int (1))))) (.lit (.str [32, 9])))]) (ev g L3 (.and [(.loc 7), (.cmp .inn (.idx (.loc 7) (.neg (.lit (.int (1))))) (.lit (.str [32, 9])))]) (Hb H acc1 K)) (Hb H acc1 K) = some (decide (z = 32), Hb H acc1 K) := by
      refine evT_and (evC_cons (t := true) (H₁ := Hb H acc1 K) ?_ ?_)
      · have : ev g L3 (.loc 7) (Hb H acc1 K) = some (.p (.str line), Hb H acc1 K) := ev_loc rfl
        simp only [evT_locE, this, Option.bind_some, truV, okl, if_true, truP]
        cases line with
        | nil => exact absurd rfl h0
        | cons _ _ => rfl
      · simp only [if_true]
        refine evC_cons (t := decide (z = 32)) (evT_cmp (elast _) rfl ?_) ?_
        · by_cases h : z = 32 <;> simp [cmpV, h, z9, cmpP, cmpIn, pstr_mk, one_mk, Option.bind_some]
        · by_cases h : z = 32 <;> simp [h, evC_nilE]
    by_cases h32 : z = 32
    · subst h32
      have rne : r ≠ [] := r2 h0
      have rpos : 0 < r.length := List.length_pos_iff.mpr rne
      let rm : Int := (s : Int) - la
      have hrm : rm = (size : Int) + 2 - (r.length : Int) := rm_eq rl
      let L4 := Lb bt size eol H.length line ((s : Nat) : Int) la o10' (some (.int rm)) o12
      have s5 : ex g (.asg (.one 11) (.bin .sub (.loc 8) (.loc 9))) L3 (Hb H acc1 K) = some (.next, L4, Hb H acc1 K) := ex_asg (ev_bin (ev_loc rfl) (ev_loc rfl) rfl) rfl
      let q : List Nat := if r.length + 1 ≤ size then [61, 50, 48] else if r.length = size then 32 :: 61 :: eol else 61 :: eol ++ [61, 50, 48]
      have hql : q.length ≤ 20 := by
        simp only [q]
        split
        · simp
        · split <;> simp <;> exact Nat.le_trans ‹_› (by decide)
      let L5 := Lb bt size eol H.length line ((s : Nat) : Int) la o10' (some (.int rm)) (some (.str q))
      have elast4 : ∀ K', ev g L4 (.idx (.loc 7) (.neg (.lit (.int (1))))) K' = some (.p (.str [32]), K') := fun K' => ev_last rfl hzl hl
      have s6 : ex g (.ifs (.cmp .ge (.loc 11) (.lit (.int (3)))) [.asg (.one 12) (.cal 1 [(.idx (.loc 7) (.neg (.lit (.int (1)))))])] [.ifs (.cmp .eq (.loc 11) (.lit (.int (2)))) [.asg (.one 12) (.bin .add (.idx (.loc 7) (.neg (.lit (.int (1))))) (.loc 3))] [.asg (.one 12) (.bin .add (.loc 3) (.cal 1 [(.idx (.loc 7) (.neg (.lit (.int (1)))))]))]]) L4 (Hb H acc1 K) = some (.next, L5, Hb H acc1 K) := by
        by_cases q1 : r.length + 1 ≤ size
        · refine ex_ifT (evT_cmp (ev_loc rfl) rfl (ge_t (by rw [hrm]; exact rm_ge q1))) ?_
          refine exs_step (loc' := L5) (ex_asg (ev_cal (evs_cons (elast4 _) (evs_nil _ _ _)) (hq _)) ?_) Hb_gc rfl
          simp only [L5, q, if_pos q1]
          rfl
        · refine ex_ifF (evT_cmp (ev_loc rfl) rfl (ge_f (by rw [hrm]; exact rm_lt q1))) ?_
          by_cases q2 : r.length = size
          · refine exs_step (loc' := L5) (ex_ifT (evT_cmp (ev_loc rfl) rfl (eqi_t (by rw [hrm]; exact rm_two q2))) ?_) Hb_gc rfl
            refine exs_step (loc' := L5) (ex_asg (ev_bin (elast4 _) (ev_loc rfl) (z := (.p (.str (32 :: 61 :: eol)), Hb H acc1 K)) (add_strV (by simp; lia))) ?_) Hb_gc rfl
            simp only [L5, q, if_neg q1, if_pos q2]
            rfl
          · refine exs_step (loc' := L5) (ex_ifF (evT_cmp (ev_loc rfl) rfl (eqi_f (by rw [hrm]; exact rm_ne q2))) ?_) Hb_gc rfl
            refine exs_step (loc' := L5) (ex_asg (ev_bin (ev_loc rfl) (ev_cal (evs_cons (elast4 _) (evs_nil _ _ _)) (hq _)) (z := (.p (.str (61 :: eol ++ [61, 50, 48])), Hb H acc1 K)) (add_strV (by simp; exact Nat.le_trans ‹_› (by decide)))) ?_) Hb_gc rfl
            simp only [L5, q, if_neg q1, if_neg q2]
            rfl
      have s7 : ex g (.ex (.app (.loc 6) (.bin .add (.sl (.loc 7) (some (.loc 8)) (some (.neg (.lit (.int (1)))))) (.loc 12)))) L5 (Hb H acc1 K) = some (.next, L5, Hb H (acc ++ (encL size eol line).map P.str) K) := by
        rw [← hend (r.take (r.length - 1) ++ q) (by unfold tailL; rw [if_pos hzl])]
        refine ex_ex (ev_app (ev_loc rfl) (ev_bin (ev_sl (ev_loc rfl) (evo_some (ev_loc rfl)) (evo_some (x := .p (.int (-1))) rfl) (r := (.p (.str (r.take (r.length - 1))), Hb H acc1 K)) ?_) (ev_loc rfl) (z := (.p (.str (r.take (r.length - 1) ++ q)), Hb H acc1 K)) ?_) (Hb_add (acc := acc1) hacc1))
        · have om : oki (-1) = true := by decide
          simp only [slV, bnds, oks, om, if_true, Option.bind_some, okl, pstr_mk, int_mk]
          congr 3
          unfold cut clip
          simp only [Option.map_some, Option.getD_some]
          rw [if_neg (show ¬ ((s : Int) < 0) by lia), if_pos (show (-1 : Int) < 0 by decide), Int.toNat_natCast, Nat.min_eq_left (show s ≤ line.length by exact Nat.sub_le _ _), hdrop, show ((-1 : Int) + (line.length : Int)).toNat - s = r.length - 1 from tn_sub rpos rl]
        · exact add_strV (Nat.le_trans (Nat.add_le_add (Nat.le_trans (List.length_take_le' _ _) (Nat.le_trans rl hl)) hql) (by decide))
      exact ⟨some (.int (s : Int)), some (.int la), o10', some (.int rm), some (.str q), exs_step s1 Hb_gc (exs_step s2 Hb_gc (exs_step (ex_whl hw) Hb_gc (exs_step (ex_ifT (by rw [tst]; simp) (exs_step s5 Hb_gc (exs_step s6 Hb_gc (exs_step s7 Hb_gc rfl)))) Hb_gc rfl)))⟩
    · exact ⟨some (.int (s : Int)), some (.int la), o10', o11, o12, exs_step s1 Hb_gc (exs_step s2 Hb_gc (exs_step (ex_whl hw) Hb_gc (exs_step (ex_ifF (by rw [tst, decide_eq_false h32]) (plainE (by rw [hzl]; intro h; cases h; exact h32 rfl))) Hb_gc rfl)))⟩
end Mine
end
section
open PySem PySem.W PyProof.Rows PyProof.V
set_option Elab.async false
set_option maxRecDepth 20000
set_option linter.unusedSimpArgs false
namespace Mine
noncomputable def trC (n : Nat) : List Nat := if ((32 ≤ n && n ≤ 126 && n != 61) || n == 9 || n == 10 || n == 13) then [n] else hex2 n
theorem tabsX1 : tabsX 1 = ((List.range 256).map trC).map P.str := by
  simp only [tabsX, List.map_map]
  refine List.map_congr_left fun n _ => ?_
  simp only [Function.comp_apply, trC]
  split <;> rfl
theorem pStrs_str (l : List (List Nat)) : pStrs (l.map P.str) = some l := by
  induction l with
  | nil => rfl
  | cons a r ih => simp only [List.map_cons, pStrs, ih, Option.map_some]
theorem trC_all : ((List.range 256).all fun n => (trC n).all (fun c => decide (c < 128)) && !(trC n).isEmpty && decide ((trC n).length ≤ 3) && (n == 9 || !(trC n).contains 9)) = true := by decide +kernel
theorem trC_ok {n : Nat} (h : n < 256) : (∀ c ∈ trC n, c < 128) ∧ trC n ≠ [] ∧ (trC n).length ≤ 3 ∧ (n ≠ 9 → 9 ∉ trC n) := by
  have := List.all_eq_true.mp trC_all n (List.mem_range.mpr h)
  simp only [Bool.and_eq_true, List.all_eq_true, decide_eq_true_eq, Bool.not_eq_true', List.isEmpty_eq_false_iff, Bool.or_eq_true, beq_iff_eq] at this
  obtain ⟨⟨⟨h1, h2⟩, h3⟩, h4⟩ := this
  refine ⟨h1, h2, h3, fun h9 hm => ?_⟩
  rcases h4 with h4 | h4
  · exact h9 h4
  · rw [List.contains_eq_mem, decide_eq_false_iff_not] at h4
    exact h4 hm
theorem sm_translate {l : List Nat} {H : List O} (hl : l.length ≤ 1000) (hc : ∀ c ∈ l, c < 256) : smV tabsX .translate (.p (.str l)) [.glob 1] H = some (.p (.str (l.flatMap trC)), H) := by
  have e : pStrs (tabsX 1) = some ((List.range 256).map trC) := by rw [tabsX1, pStrs_str]
  simp only [smV, e, Option.bind_some, smT, one_mk, gl_mk, pstr_mk]
  rw [if_pos]
  · congr 3
    have key : ∀ l : List Nat, (∀ c ∈ l, c < 256) → (l.flatMap fun c => ((List.range 256).map trC).getD c []) = l.flatMap trC := by
      intro l
      induction l with
      | nil => intro _; rfl
      | cons a r ih =>
        intro h
        have ha := h a (.head _)
        rw [List.flatMap_cons, List.flatMap_cons, ih fun c hc => h c (.tail _ hc)]
        congr 1
        simp [ha]
    exact congrArg P.str (key l hc)
  · simp only [Bool.and_eq_true, List.all_eq_true, decide_eq_true_eq]
    refine ⟨⟨ok_of (by simp; exact Nat.le_trans ‹_› (by decide)), fun c hcm => by simp; exact hc c hcm⟩, fun x hx => ?_⟩
    obtain ⟨n, hn, rfl⟩ := List.mem_map.mp hx
    obtain ⟨_, h2, h3, _⟩ := trC_ok (List.mem_range.mp hn)
    refine ⟨by simpa using h2, by exact Nat.le_trans ‹_› (by decide)⟩
theorem encW_rows {size : Nat} (h3 : 3 ≤ size) : ∀ (f : Nat) (r : List Nat), ∀ x ∈ (encW size f r).1, x.length ≤ size + 1
  | 0, r, x, h => by simp [encW] at h
  | f + 1, r, x, h => by
    unfold encW at h
    split at h
    · rcases List.mem_cons.mp h with rfl | h
      · unfold stepW
        split
        · simp; omega
        · split <;> simp <;> lia
      · exact encW_rows h3 f _ x h
    · simp at h
theorem encL_rows {size : Nat} {eol line : List Nat} (h3 : 3 ≤ size) (he : eol.length ≤ 5) : (∀ x ∈ encL size eol line, x.length ≤ size + 20) ∧ (encL size eol line).length ≤ line.length + 1 := by
  obtain ⟨r1, r2, r4⟩ := encW_rest (size := size) h3 line.length line (Nat.le_refl _)
  refine ⟨fun x hx => ?_, by simp [encL]; lia⟩
  rcases List.mem_append.mp hx with hx | hx
  · have := encW_rows h3 _ _ x hx; lia
  · simp only [List.mem_singleton] at hx
    subst hx
    unfold tailL
    split
    · split
      · simp; lia
      · split <;> simp <;> lia
    · lia
theorem enc_lines {g : G} (hq : ∀ K, g.call 1 [.p (.str [32])] K = some (.p (.str [61, 50, 48]), K)) {bt : List Nat} {size : Nat} {eol : List Nat} {H : List O} {all : List P} (h3 : 3 ≤ size) (hz : size ≤ 500) (he : eol.length ≤ 5) :
    ∀ (ls : List (List Nat)) (acc : List P) (o7 o8 o9 o10 o11 o12 : Option P), (∀ l ∈ ls, l.length ≤ 1000 ∧ 9 ∉ l) → acc.length + (ls.map fun l => l.length + 1).sum ≤ 3000 →
    ∃ o7' o8' o9' o10' o11' o12', forL all (some (H.length + 1)) (.one 7) (fun loc H => exs g lnE loc H) (ls.map P.str) (Lb2 bt size eol H.length o7 o8 o9 o10 o11 o12) (Hb H acc [.list all]) =
      some (.next, Lb2 bt size eol H.length o7' o8' o9' o10' o11' o12', Hb H (acc ++ (ls.flatMap (encL size eol)).map P.str) [.list all]) := by
  have hw : ∀ acc, stays (some (H.length + 1)) all (Hb H acc [.list all]) = true := fun acc => stays_of (by rw [getL_sh]; rfl)
  intro ls
  induction ls with
  | nil => exact fun acc o7 o8 o9 o10 o11 o12 _ _ => ⟨o7, o8, o9, o10, o11, o12, by rw [List.flatMap_nil, List.map_nil, List.append_nil]; exact forL_nil (hw _)⟩
  | cons l ls ih =>
    intro acc o7 o8 o9 o10 o11 o12 h hd
    obtain ⟨h1, h2⟩ := h l (.head _)
    rw [List.map_cons, List.sum_cons] at hd
    obtain ⟨a8, a9, a10, a11, a12, he1⟩ := enc_line (g := g) hq (bt := bt) (size := size) (eol := eol) (line := l) (o8 := o8) (o9 := o9) (o10 := o10) (o11 := o11) (o12 := o12) (H := H) (K := [.list all]) (acc := acc) h3 hz h1 he h2 (by lia)
    have hlen := (encL_rows (size := size) (eol := eol) (line := l) h3 he).2
    obtain ⟨b7, b8, b9, b10, b11, b12, ih⟩ := ih (acc ++ (encL size eol l).map P.str) (some (.str l)) a8 a9 a10 a11 a12 (fun x hx => h x (.tail _ hx)) (by rw [List.length_append, List.length_map]; lia)
    refine ⟨b7, b8, b9, b10, b11, b12, ?_⟩
    rw [List.flatMap_cons, List.map_append, ← List.append_assoc]
    exact forL_go (hw acc) (q := (Lb2 bt size eol H.length (some (.str l)) o8 o9 o10 o11 o12, Hb H acc [.list all])) rfl he1 (.inl rfl) ih
/-- body_encode -/
noncomputable def bodyA (size : Nat) (eol T : List Nat) : List Nat := joinL eol ((lns T).flatMap (encL size eol) ++ if T.getLast? = some 13 ∨ T.getLast? = some 10 then [[]] else [])
theorem sum_le {l : List (List Nat)} {k : Nat} (h : ∀ x ∈ l, x.length ≤ k) : (l.map List.length).sum ≤ l.length * k := by
  induction l with
  | nil => simp
  | cons a r ih =>
    have h1 := h a (.head _)
    have h2 := ih fun x hx => h x (.tail _ hx)
    simp only [List.map_cons, List.sum_cons, List.length_cons, Nat.succ_mul]
    lia
theorem run_body {g : G} (hq : ∀ K, g.call 1 [.p (.str [32])] K = some (.p (.str [61, 50, 48]), K)) (ht : g.tabs = tabsX) {body : List Nat} {size : Nat} {eol : List Nat} {H : List O} (h3 : 3 ≤ size) (hz : size ≤ 300) (he : eol.length ≤ 5) (h0 : body ≠ []) (hc : ∀ c ∈ body, c < 256 ∧ c ≠ 9) (hl : body.length ≤ 200) :
    ∃ loc' K, exs g pb_body_encode [some (.p (.str body)), some (.p (.int ((size : Int) + 1))), some (.p (.str eol)), none, none, none, none, none, none, none, none, none, none] H = some (.ret (.p (.str (bodyA size eol (body.flatMap trC)))), loc', H ++ K) := by
  generalize hT : body.flatMap trC = T
  have hTl : T.length ≤ 600 := by
    rw [← hT]
    have key : ∀ b : List Nat, (∀ c ∈ b, c < 256) → (b.flatMap trC).length ≤ 3 * b.length := by
      intro b
      induction b with
      | nil => simp
      | cons a r ih =>
        intro h
        have h1 := (trC_ok (h a (.head _))).2.2.1
        have h2 := ih fun c hc => h c (.tail _ hc)
        simp only [List.flatMap_cons, List.length_append, List.length_cons]
        lia
    have := key body fun c h => (hc c h).1
    lia
  have hTa : asc T = true := by
    rw [← hT]
    refine List.all_eq_true.mpr fun c hcm => ?_
    obtain ⟨n, hn, hcn⟩ := List.mem_flatMap.mp hcm
    exact decide_eq_true ((trC_ok (hc n hn).1).1 c hcn)
  have hT9 : 9 ∉ T := by
    rw [← hT]
    intro hcm
    obtain ⟨n, hn, hcn⟩ := List.mem_flatMap.mp hcm
    exact (trC_ok (hc n hn).1).2.2.2 (hc n hn).2 hcn
  have hT0 : T ≠ [] := by
    rw [← hT]
    cases body with
    | nil => exact absurd rfl h0
    | cons a r =>
      intro h
      simp only [List.flatMap_cons, List.append_eq_nil_iff] at h
      exact (trC_ok (hc a (.head _)).1).2.1 h.1
  obtain ⟨w1, w2⟩ := lns_w _ T (Nat.le_refl _)
  let all := (lns T).map P.str
  obtain ⟨a7, a8, a9, a10, a11, a12, hloop⟩ := enc_lines (g := g) hq (bt := T) (size := size) (eol := eol) (H := H) (all := all) h3 (by exact Nat.le_trans ‹_› (by decide)) he (lns T) [] none none none none none none (fun l hx => ⟨by have := (w2 l hx).1; lia, fun h => hT9 ((w2 l hx).2 9 h)⟩) (by simp; lia)
  rw [List.nil_append] at hloop
  let rows := (lns T).flatMap (encL size eol)
  have hrl : rows.length ≤ 1200 := by
    have key : ∀ ls : List (List Nat), (ls.flatMap (encL size eol)).length ≤ (ls.map fun x => x.length + 1).sum := by
      intro ls
      induction ls with
      | nil => simp
      | cons a r ih =>
        have := (encL_rows (size := size) (eol := eol) (line := a) h3 he).2
        simp only [List.flatMap_cons, List.length_append, List.map_cons, List.sum_cons]
        lia
    have := key (lns T)
    simp only [rows]
    lia
  have hrs : (rows.map List.length).sum ≤ rows.length * 320 := by
    refine sum_le fun x hx => ?_
    obtain ⟨l, _, hxl⟩ := List.mem_flatMap.mp hx
    have := (encL_rows (size := size) (eol := eol) (line := l) h3 he).1 x hxl
    lia
  let LL : Nat → List (Option V) := fun k => [some (.p (.str T)), some (.p (.int ((size : Int) + 1))), some (.p (.str eol)), if 1 ≤ k then some (.p (.str (61 :: eol))) else none, if 2 ≤ k then some (.p (.int (size : Int))) else none, if 3 ≤ k then some (.ref H.length) else none, if 4 ≤ k then some (.bm H.length) else none, none, none, none, none, none, none]
  let Li : List (Option V) := [some (.p (.str body)), some (.p (.int ((size : Int) + 1))), some (.p (.str eol)), none, none, none, none, none, none, none, none, none, none]
  have t1 : ex g (.ifs (.cmp .lt (.loc 1) (.lit (.int (4)))) [.bad] []) Li H = some (.next, Li, H) := ex_ifF (evT_cmp (ev_loc rfl) rfl (lt_f (by lia))) rfl
  have t2 : ex g (.ifs (.not (.loc 0)) [.ret (.loc 0)] []) Li H = some (.next, Li, H) := ex_ifF ((evT_not rfl (by exact Nat.le_trans ‹_› (by decide))).trans (by simp [h0])) rfl
  have t3 : ex g (.asg (.one 0) (.sm .translate (.loc 0) [(.tab 1)])) Li H = some (.next, LL 0, H) := by
    refine ex_asg (ev_sm (ev_loc rfl) rfl (evs_cons (x := .glob 1) rfl (evs_nil _ _ _)) (z := (.p (.str T), H)) ?_) rfl
    rw [ht, sm_translate (by exact Nat.le_trans ‹_› (by decide)) fun c h => (hc c h).1, hT]
  have t4 : ex g (.asg (.one 3) (.bin .add (.lit (.str [61])) (.loc 2))) (LL 0) H = some (.next, LL 1, H) := ex_asg (ev_bin rfl (ev_loc rfl) (add_strV (by simp; lia))) rfl
  have t5 : ex g (.asg (.one 4) (.bin .sub (.loc 1) (.lit (.int (1))))) (LL 1) H = some (.next, LL 2, H) := by
    refine ex_asg (ev_bin (ev_loc rfl) rfl (z := (.p (.int (size : Int)), H)) ?_) rfl
    simp only [binV, binP, Option.bind_some, pint_mk, pl_mk]
    congr 4
    lia
  have t6 : ex g (.asg (.one 5) (.lst [])) (LL 2) H = some (.next, LL 3, Hb H [] []) := rfl
  have t7 : ex g (.asg (.one 6) (.bnd (.loc 5))) (LL 3) (Hb H [] []) = some (.next, LL 4, Hb H [] []) := by
    refine ex_asg (v := .bm H.length) (H₁ := Hb H [] []) ?_ rfl
    simp only [ev_locE, ev_bndE, LL, List.getElem?_cons_succ, List.getElem?_cons_zero, Option.bind_some, Nat.le_refl, if_true, Hb_get, Option.join_some, rf_mk]
  have t8 : ex g (.fore (.one 7) (.sm .splitlines (.loc 0) []) lnE) (LL 4) (Hb H [] []) = some (.next, Lb2 T size eol H.length a7 a8 a9 a10 a11 a12, Hb H (rows.map P.str) [.list all]) := by
    refine ex_for (v := .ref (H.length + 1)) (H₁ := Hb H [] [.list all]) (ps := all) (w := some (H.length + 1)) (ev_sm (ev_loc rfl) rfl (evs_nil _ _ _) ?_) ?_ hloop
    · simp only [smV, ok_of (show T.length ≤ 1000000 by exact Nat.le_trans ‹_› (by decide)), hTa, Bool.and_self, if_true, smT, nul_mk, pstr_mk, Option.bind_some]
      simp [all]
    · simp only [itemsOf]
      rw [getL_sh]
      rfl
  have hlb : lb (Lb2 T size eol H.length a7 a8 a9 a10 a11 a12) = H.length + 1 := by
    simp only [Lb2, lb_q, lb_pm, lb, vb, Nat.max_self, Nat.max_zero, Nat.zero_max]
  have g8 : gc (Hb H [] []).length (Lb2 T size eol H.length a7 a8 a9 a10 a11 a12) (Hb H (rows.map P.str) [.list all]) = Hb H (rows.map P.str) [] := by
    rw [gc_eq (k := H.length + 1) (by rw [hlb]; simp), take_sh]
    rfl
  obtain ⟨z, hzl⟩ : ∃ z, T.getLast? = some z := ⟨T.getLast hT0, List.getLast?_eq_some_getLast hT0⟩
  let ext : List (List Nat) := if T.getLast? = some 13 ∨ T.getLast? = some 10 then [[]] else []
  have t9 : ex g (.ifs (.cmp .inn (.idx (.loc 0) (.neg (.lit (.int (1))))) (.lit (.str [13, 10]))) [.ex (.app (.loc 6) (.lit (.str [])))] []) (Lb2 T size eol H.length a7 a8 a9 a10 a11 a12) (Hb H (rows.map P.str) []) = some (.next, Lb2 T size eol H.length a7 a8 a9 a10 a11 a12, Hb H ((rows ++ ext).map P.str) []) := by
    by_cases hz : z = 13 ∨ z = 10
    · refine ex_ifT (evT_cmp (ev_last rfl hzl (by exact Nat.le_trans ‹_› (by decide))) rfl (z := true) (by rcases hz with rfl | rfl <;> rfl)) ?_
      have e : (rows ++ ext).map P.str = rows.map P.str ++ [.str []] := by
        simp only [ext, hzl]
        rw [if_pos (by simpa using hz)]
        simp
      rw [e]
      exact exs_step (ex_ex (ev_app (ev_loc rfl) rfl (Hb_add (by rw [List.length_map]; exact Nat.le_trans ‹_› (by decide))))) Hb_gc rfl
    · refine ex_ifF (evT_cmp (ev_last rfl hzl (by exact Nat.le_trans ‹_› (by decide))) rfl (z := false) (by simp [cmpV, cmpP, cmpIn, pstr_mk, one_mk, Option.bind_some]; lia)) ?_
      have e : (rows ++ ext).map P.str = rows.map P.str := by
        simp only [ext, hzl]
        rw [if_neg (by simpa using hz)]
        simp
      rw [e]
      rfl
  have t10 : ex g (.ret (.sm .join (.loc 2) [(.loc 5)])) (Lb2 T size eol H.length a7 a8 a9 a10 a11 a12) (Hb H ((rows ++ ext).map P.str) []) = some (.ret (.p (.str (bodyA size eol T))), Lb2 T size eol H.length a7 a8 a9 a10 a11 a12, Hb H ((rows ++ ext).map P.str) []) := by
    have he2 : ext.length ≤ 1 ∧ (ext.map List.length).sum = 0 := by
      simp only [ext]
      split <;> simp
    have e : ev g (Lb2 T size eol H.length a7 a8 a9 a10 a11 a12) (.sm .join (.loc 2) [(.loc 5)]) (Hb H ((rows ++ ext).map P.str) []) = some (.p (.str (bodyA size eol T)), Hb H ((rows ++ ext).map P.str) []) := by
      refine ev_sm (ev_loc rfl) rfl (evs_cons (ev_loc rfl) (evs_nil _ _ _)) ?_
      simp only [smV, Hb_get, Option.bind_some, pStrs_str, smT, one_mk, lst_mk, pstr_mk]
      rw [if_pos]
      · rfl
      · refine ok_of ?_
        rw [List.map_append, List.sum_append, List.length_append]
        have h1 : (rows.length + ext.length) * eol.length ≤ (rows.length + ext.length) * 5 := Nat.mul_le_mul_left _ he
        lia
    simp only [ex_retE, e, Option.bind_some]
  exact ⟨_, [.list ((rows ++ ext).map P.str)], exs_step t1 (gc_same _ _) (exs_step t2 (gc_same _ _) (exs_step t3 (gc_same _ _) (exs_step t4 (gc_same _ _) (exs_step t5 (gc_same _ _) (exs_step t6 (H'' := Hb H [] []) (gc_top (by simp [LL, lb, vb])) (exs_step t7 (gc_same _ _) (exs_step t8 g8 (exs_step t9 Hb_gc (exs_stop t10 (by simp))))))))))⟩
end Mine
end
section
open PySem PySem.W PyProof.Rows PyProof.V
set_option Elab.async false
set_option maxRecDepth 20000
set_option linter.unusedSimpArgs false
set_option linter.unusedVariables false
namespace Mine
theorem cut_m1 {α : Type} (l : List α) : cut l none (some (-1)) = l.dropLast := by
  unfold cut clip
  simp only [Option.map_none, Option.getD_none, Option.map_some, Option.getD_some, List.drop_zero, Nat.sub_zero]
  rw [if_pos (by decide), List.dropLast_eq_take]
  congr 1
  lia
theorem oki_m1 : oki (-1) = true := by decide
theorem modV {a b : Nat} {H : List O} (h : 0 < b) : binV .mod (.p (pN a)) (.p (pN b)) H = some (.p (pN (a % b)), H) := by
  have : (0 : Int) < (b : Int) := by lia
  simp only [binV, binP, this, decide_true, if_true, Option.bind_some, modP, pint_mk, pl_mk]
  rfl
theorem fdivV {a b : Nat} {H : List O} (h : 0 < b) (hb : b ≤ 1000000) : binV .fdiv (.p (pN a)) (.p (pN b)) H = some (.p (pN (a / b)), H) := by
  have : (0 : Int) < (b : Int) := by lia
  simp only [binV, binP, this, oki_nat hb, decide_true, Bool.and_self, if_true, Option.bind_some, pint_mk, pl_mk]
  rfl
theorem addN {a b : Nat} {H : List O} : binV .add (.p (pN a)) (.p (pN b)) H = some (.p (pN (a + b)), H) := rfl
/-- a comprehension without conditions -/
theorem ev_comp {g : G} {L : List (Option V)} {fr : List (Option Nat)} {elt it : E} {t : Tg} {H H₁ : List O} {v : V} {items : List P} {w : Option Nat} (f : P → Option P) (Gd : List (Option V) → Prop) (hfr : frOk fr L = true) (hit : ev g L it H = some (v, H₁)) (hi : itemsOf v H₁ = some (items, w)) (hw : stays w items H₁ = true) (h0 : Gd (frOf fr L)) (hn : items.length ≤ 1000000) {cs : List E}
    (h : ∀ x ∈ items, ∀ loc acc, Gd loc → acc.length < 1000000 → ∃ loc', Gd loc' ∧ tgt t (.p x) loc (H₁ ++ [.list acc]) = some (loc', H₁ ++ [.list acc]) ∧ ((evC g loc' cs (H₁ ++ [.list acc])).bind fun b => if b.1 then (ev g loc' elt b.2).bind fun v => addTo H₁.length v.1 v.2 else some b.2) = some (H₁ ++ [.list (acc ++ (f x).toList)])) :
    ev g L (.comp fr elt t it cs) H = some (.ref H₁.length, H₁ ++ [.list (items.filterMap f)]) := by
  have hrun := cmpL_run (all := items) (w := w) (t := t) (turn := fun l K => (evC g l cs K).bind fun b => if b.1 then (ev g l elt b.2).bind fun v => addTo H₁.length v.1 v.2 else some b.2) (H := H₁) f Gd hw (items := items) (acc := []) (loc := frOf fr L) h0 (by simpa using hn) h
  rw [ev_compE, if_pos hfr, hit]
  simp only [Option.bind_some, hi]
  rw [hrun]
  simp only [Option.bind_some, List.nil_append]
  rw [List.take_of_length_le (by simp)]
theorem ev_comp0 {g : G} {L : List (Option V)} {fr : List (Option Nat)} {elt it : E} {t : Tg} {H H₁ : List O} {v : V} {items : List P} {w : Option Nat} (f : P → P) (Gd : List (Option V) → Prop) (hfr : frOk fr L = true) (hit : ev g L it H = some (v, H₁)) (hi : itemsOf v H₁ = some (items, w)) (hw : stays w items H₁ = true) (h0 : Gd (frOf fr L)) (hn : items.length ≤ 1000000)
    (h : ∀ x ∈ items, ∀ loc K, Gd loc → ∃ loc', Gd loc' ∧ tgt t (.p x) loc K = some (loc', K) ∧ ev g loc' elt K = some (.p (f x), K)) :
    ev g L (.comp fr elt t it []) H = some (.ref H₁.length, H₁ ++ [.list (items.map f)]) := by
  have := ev_comp (g := g) (L := L) (fr := fr) (elt := elt) (it := it) (t := t) (H := H) (cs := []) (fun x => some (f x)) Gd hfr hit hi hw h0 hn (fun x hx loc acc hl ha => by
    obtain ⟨loc', h1, h2, h3⟩ := h x hx loc (H₁ ++ [.list acc]) hl
    refine ⟨loc', h1, h2, ?_⟩
    simp only [evC_nilE, Option.bind_some, if_true, h3, addTo_last ha]
    rfl)
  rw [this, List.filterMap_eq_map']
theorem split_hit (c : Nat) (r : List Nat) : splitG [c] 0 (c :: r) = [] :: splitG [c] 0 r := by
  rw [splitG, if_pos (by simp)]; rfl
theorem split_miss {c a : Nat} {r : List Nat} (h : a ≠ c) : splitG [c] 0 (a :: r) = match splitG [c] 0 r with | [] => [[a]] | x :: q => (a :: x) :: q := by
  rw [splitG, if_neg (by simp; exact fun h' => h h'.symm)] <;> (cases splitG [c] 0 r <;> rfl)
theorem split_cons {c : Nat} : ∀ {a r : List Nat}, c ∉ a → splitG [c] 0 (a ++ c :: r) = a :: splitG [c] 0 r
  | [], r, _ => split_hit c r
  | x :: a, r, h => by
    rw [List.cons_append, split_miss (a := x) (fun e => h (by subst e; exact .head _)), split_cons (a := a) fun hm => h (.tail _ hm)]
theorem split_end {c : Nat} : ∀ {a : List Nat}, c ∉ a → splitG [c] 0 a = [a]
  | [], _ => rfl
  | x :: a, h => by
    rw [split_miss (a := x) (fun e => h (by subst e; exact .head _)), split_end (a := a) fun hm => h (.tail _ hm)]
theorem join_cons {s a : List Nat} {r : List (List Nat)} (h : r ≠ []) : joinL s (a :: r) = a ++ s ++ joinL s r := by
  cases r with
  | nil => exact absurd rfl h
  | cons b r => rfl
theorem split_join {c : Nat} : ∀ {ls : List (List Nat)}, ls ≠ [] → (∀ l ∈ ls, c ∉ l) → splitG [c] 0 (joinL [c] ls) = ls
  | [], h, _ => absurd rfl h
  | [a], _, h => split_end (h a (.head _))
  | a :: b :: r, _, h => by
    rw [join_cons (by simp), List.append_assoc, List.singleton_append, split_cons (h a (.head _)), split_join (by simp) fun l hl => h l (.tail _ hl)]
theorem join_app {s : List Nat} : ∀ {A B : List (List Nat)}, A ≠ [] → B ≠ [] → joinL s (A ++ B) = joinL s A ++ s ++ joinL s B
  | [], B, h, _ => absurd rfl h
  | [a], B, _, hB => by rw [List.singleton_append, join_cons hB]; rfl
  | a :: b :: r, B, _, hB => by
    rw [List.cons_append, join_cons (by simp), join_cons (by simp), join_app (A := b :: r) (by simp) hB]
    simp
theorem bl_mem {c n : Nat} (h : c ∈ bl n) : c = 32 := (List.mem_replicate.mp h).2
theorem lns_end : ∀ {l : List Nat}, l ≠ [] → (∀ c ∈ l, isNl c = false) → lns l = [l]
  | [], h, _ => absurd rfl h
  | [a], _, h => by rw [lns_sign (h a (.head _))]; rfl
  | a :: b :: r, _, h => by
    rw [lns_sign (h a (.head _)), lns_end (l := b :: r) (by simp) fun c hc => h c (.tail _ hc)]
    rfl
theorem lns_10 : ∀ {l r : List Nat}, (∀ c ∈ l, isNl c = false) → lns (l ++ 10 :: r) = l :: lns r
  | [], r, _ => lns_brk rfl (by simp)
  | a :: l, r, h => by
    rw [List.cons_append, lns_sign (h a (.head _)), lns_10 fun c hc => h c (.tail _ hc)]
    rfl
theorem encL_ne (size : Nat) (eol line : List Nat) : encL size eol line ≠ [] := by unfold encL; simp
theorem getLast_app {a b : List Nat} (h : b ≠ []) : (a ++ b).getLast? = b.getLast? := by
  rw [List.getLast?_append, List.getLast?_eq_some_getLast h]; rfl
theorem okAt_strs {ls : List (List Nat)} {n : Nat} (h : ∀ l ∈ ls, ∀ c ∈ l, c < 0x110000) : (ls.map P.str).all (P.okAt n) = true := by
  rw [List.all_eq_true]
  intro x hx
  obtain ⟨l, hl, rfl⟩ := List.mem_map.mp hx
  simp only [okAt_str, List.all_eq_true, decide_eq_true_eq]
  exact h l hl
theorem beqs_refl (l : List P) : beqs l l = true := (beqs_iff l l).mpr rfl
theorem cmp_neV {H : List O} {r q : Nat} {x y : List P} (h1 : getL H r = some x) (h2 : getL H q = some y) (k1 : x.all (P.okAt 7) = true) (k2 : y.all (P.okAt 7) = true) : cmpV .ne (.ref r) (.ref q) H = some (!beqs x y) := by
  simp only [cmpV, h1, h2, Option.bind_some, k1, k2, Bool.and_self, if_true, cmpR, lst_mk]
theorem lenTwo {α : Type} {l : List α} (h : l.length = 2) : ∃ a b, l = [a, b] := by
  cases l with
  | nil => cases h
  | cons a r =>
    obtain ⟨b, rfl⟩ := List.length_eq_one_iff.mp (Nat.succ.inj h)
    exact ⟨a, b, rfl⟩
noncomputable def upO (o : Option Nat) : Nat := (o.map (· + 1)).getD 0
theorem lb_rm {o : Option Nat} {r : List (Option V)} : lb (o.map V.ref :: r) = max (upO o) (lb r) := by cases o <;> first | rfl | exact (Nat.zero_max _).symm
theorem lb_om {o : Option Nat} {r : List (Option V)} : lb (o.map V.obj :: r) = max (upO o) (lb r) := by cases o <;> first | rfl | exact (Nat.zero_max _).symm
theorem lb_sm {o : Option (List Nat)} {r : List (Option V)} : lb (o.map (fun l => V.p (.str l)) :: r) = lb r := by cases o <;> first | rfl | exact Nat.zero_max _
theorem lb_fx {n : List P} {r : List (Option V)} : lb (some (.fix n) :: r) = lb r := Nat.zero_max _
noncomputable def maxN : List Nat → Nat
  | [] => 0
  | a :: r => max a (maxN r)
theorem maxI_nat : ∀ {l : List Nat}, l ≠ [] → maxI (l.map fun n : Nat => (n : Int)) = (maxN l : Nat)
  | [], h => absurd rfl h
  | [a], _ => by simp [maxI, maxN]
  | a :: b :: r, _ => by
    have ih := maxI_nat (l := b :: r) (by simp)
    simp only [List.map_cons] at ih ⊢
    show max (a : Int) (maxI _) = ((max a (maxN (b :: r)) : Nat) : Int)
    rw [ih]
    omega
theorem pInts_nat (l : List Nat) : pInts (l.map pN) = some (l.map fun n : Nat => (n : Int)) := by
  induction l with
  | nil => rfl
  | cons a r ih => simp only [List.map_cons, pInts, ih, Option.map_some]
noncomputable def lens1 (lead told : List Nat) : List Nat := (splitG [9] 0 lead ++ splitG [9] 0 told).map List.length
noncomputable def topM (lead told : List Nat) : Nat := maxN (lens1 lead told) + 1
noncomputable abbrev Tr := Int × Int × Int
noncomputable def tp (r : Tr) : P := .tup [.int r.1, .int r.2.1, .int r.2.2]
theorem tp_ok (l : List Tr) : (l.map tp).all (P.okAt 7) = true := by
  rw [List.all_eq_true]
  intro x hx
  obtain ⟨r, _, rfl⟩ := List.mem_map.mp hx
  rfl
structure OkW (w : Ws) : Prop where
  c1 : 1 ≤ w.cnt.length
  c2 : w.cnt.length ≤ 900
  b : w.b ≤ 900
/-- all ints -/
theorem ev_ints {g : G} {L : List (Option V)} {H : List O} {r i : Nat} {tab : List Tr} (hi : L[i]? = some (some (.ref r))) (hr : getL H r = some (tab.map tp)) (hn : tab.length ≤ 100000) :
    ev g L (.comp2 [none, none] (.loc 1) (.one 0) (.loc i) (.one 1) (.loc 0) [(.not (.bi .isint [(.loc 1)]))]) H = some (.ref H.length, H ++ [.list []]) := by
  have hrun := cmpL_run (all := tab.map tp) (w := some r) (t := .one 0) (turn := fun l K => if tgFree (.one 1) l then (ev g l (.loc 0) K).bind fun x2 => (itemsOf x2.1 x2.2).bind fun q2 =>
        cmpL q2.1 q2.2 (.one 1) (fun l K => (evC g l [(.not (.bi .isint [(.loc 1)]))] K).bind fun b => if b.1 then (ev g l (.loc 1) b.2).bind fun v => addTo H.length v.1 v.2 else some b.2) l q2.1 x2.2 else none)
    (H := H) (fun _ => none) (fun l => ∃ u, l = [u, none]) (stays_of hr) (items := tab.map tp) (acc := []) (loc := [none, none]) ⟨none, rfl⟩ (by rw [List.length_nil, List.length_map]; lia) (by
      intro x hx loc acc hl ha
      obtain ⟨u, rfl⟩ := hl
      obtain ⟨⟨a, b, c⟩, hm, rfl⟩ := List.mem_map.mp hx
      refine ⟨[some (.p (tp (a, b, c))), none], ⟨_, rfl⟩, rfl, ?_⟩
      rw [show (acc ++ (none : Option P).toList) = acc by simp]
      rfl)
  rw [ev_comp2E, if_pos (show frOk [none, none] L = true from rfl), ev_loc hi]
  have hio : itemsOf (.ref r) H = some (tab.map tp, some r) := by simp only [itemsOf, hr, Option.map_some]
  simp only [Option.bind_some, hio]
  rw [show frOf [none, none] L = [none, none] from rfl]
  have hfm : (tab.map tp).filterMap (fun _ => (none : Option P)) = [] := by simp
  rw [hfm, List.append_nil] at hrun
  rw [hrun]
  simp only [Option.bind_some]
  rw [List.take_of_length_le (by simp)]
theorem fs_less (w : Ws) : w.fs.lookup (Str.ofString "less") = none := rfl
/-- a lead: runs of blanks, each closed by a tab, and blanks behind -/
noncomputable def mk (rs : List Nat) (c : Nat) : List Nat := rs.flatMap (fun a => bl a ++ [9]) ++ bl c
theorem mk_nil (c : Nat) : mk [] c = bl c := rfl
theorem mk_cons (a : Nat) (rs : List Nat) (c : Nat) : mk (a :: rs) c = bl a ++ 9 :: mk rs c := by simp [mk]
theorem bl_succ (n : Nat) : bl (n + 1) = 32 :: bl n := rfl
theorem bl_snoc (n : Nat) : bl n ++ [32] = bl (n + 1) := (List.replicate_succ' ..).symm
theorem mk_snoc (rs : List Nat) (c : Nat) : mk rs c ++ [32] = mk rs (c + 1) := by
  unfold mk; rw [List.append_assoc, bl_snoc]
noncomputable def sumR (f : Nat → Nat) : List Nat → Nat
  | [] => 0
  | a :: r => f a + sumR f r
theorem mk_len : ∀ (rs : List Nat) (c : Nat), (mk rs c).length = sumR (· + 1) rs + c
  | [], c => by simp [mk, sumR]
  | a :: r, c => by rw [mk_cons, List.length_append, List.length_cons, mk_len r c]; simp [sumR]; lia
/-- the column at a step -/
noncomputable def I (rs : List Nat) (c d : Nat) : Nat := sumR (fun a => (a / d + 1) * d) rs + c
theorem col_bl (d : Int) : ∀ (n : Nat) (z : Int), (bl n).foldl (colS d) z = z + n
  | 0, z => by simp
  | n + 1, z => by
    rw [bl_succ, List.foldl_cons, col_bl d n]
    simp only [colS, Nat.reduceEqDiff, if_false]
    lia
theorem col_mk (d : Nat) (hd : 0 < d) : ∀ (rs : List Nat) (c m : Nat), (mk rs c).foldl (colS d) ((m * d : Nat) : Int) = ((m * d + I rs c d : Nat) : Int)
  | [], c, m => by rw [mk_nil, col_bl]; simp [I, sumR]
  | a :: r, c, m => by
    rw [mk_cons, List.foldl_append, col_bl, List.foldl_cons]
    have e : colS (d : Int) (((m * d : Nat) : Int) + (a : Int)) 9 = (((m + (a / d + 1)) * d : Nat) : Int) := by
      simp only [colS, if_true]
      have h1 : ((m * d : Nat) : Int) + (a : Int) = ((m * d + a : Nat) : Int) := by push_cast; rfl
      have h2 : (m * d + a) % d = a % d := by rw [Nat.add_comm, Nat.mul_comm]; exact Nat.add_mul_mod_self_left _ _ _
      rw [h1, ← Int.natCast_emod, h2]
      have h3 := Nat.div_add_mod a d
      have h4 : (m + (a / d + 1)) * d = m * d + (d * (a / d) + d) := by rw [Nat.add_mul, Nat.add_mul, Nat.one_mul, Nat.mul_comm (a / d) d]
      rw [h4]
      have h5 : a % d ≤ a := Nat.mod_le _ _
      omega
    rw [e, col_mk d hd r c (m + (a / d + 1))]
    congr 1
    simp only [I, sumR]
    rw [Nat.add_mul]
    lia
theorem col_I (d : Nat) (hd : 0 < d) (rs : List Nat) (c : Nat) : col (d : Int) (mk rs c) = (I rs c d : Nat) := by
  have := col_mk d hd rs c 0
  simpa [col] using this
/-! the scan -/
theorem scan_bl : ∀ (n : Nat) (r : List Nat) (s : Is), scan (bl n ++ r) s = scan r ⟨s.cnt, s.b + n, s.n + n, s.nt⟩
  | 0, r, s => rfl
  | n + 1, r, s => by
    rw [bl_succ, List.cons_append, scan, if_pos rfl, scan_bl n]
    congr 1
    simp only [Is.mk.injEq]
    refine ⟨?_, ?_, ?_, ?_⟩ <;> first | trivial | lia
noncomputable def stopW (w : List Nat) : Prop := ∀ c r, w = c :: r → c ≠ 32 ∧ c ≠ 9
theorem scan_stop {w : List Nat} (h : stopW w) (s : Is) : scan w s = s := by
  cases w with
  | nil => rfl
  | cons c r =>
    obtain ⟨h1, h2⟩ := h c r rfl
    rw [scan, if_neg h1, if_neg h2]
noncomputable def cntR (rs : List Nat) : List Int := rs.foldl bump []
theorem scan_mk {w : List Nat} (h : stopW w) : ∀ (rs : List Nat) (c : Nat) (s : Is), s.b = 0 → scan (mk rs c ++ w) s = ⟨rs.foldl bump s.cnt, c, s.n + (sumR (· + 1) rs + c), s.nt + rs.length⟩
  | [], c, s, hb => by
    rw [mk_nil, scan_bl, scan_stop h]
    simp only [List.foldl_nil, Is.mk.injEq, sumR, List.length_nil]
    refine ⟨?_, ?_, ?_, ?_⟩ <;> first | trivial | lia
  | a :: r, c, s, hb => by
    rw [mk_cons, List.append_assoc, scan_bl, List.cons_append, scan, if_neg (by decide), if_pos rfl]
    rw [scan_mk h r c ⟨bump s.cnt (s.b + a), 0, s.n + a + 1, s.nt + 1⟩ rfl]
    simp only [Is.mk.injEq, List.foldl_cons, List.length_cons, sumR, hb, Nat.zero_add]
    refine ⟨trivial, trivial, by lia, by lia⟩
theorem ws_mk {w : List Nat} (h : stopW w) (rs : List Nat) (c : Nat) : wsOf (mk rs c ++ w) = ⟨mk rs c ++ w, ((sumR (· + 1) rs + c : Nat) : Int), (rs.length : Int), cntR rs, (c : Int)⟩ := by
  unfold wsOf
  simp only [scan_mk h rs c ⟨[], 0, 0, 0⟩ rfl, Nat.zero_add]
  rfl
/-! the counts -/
theorem pad_get (c : List Int) (b i : Nat) : (pad c b).getD i 0 = c.getD i 0 := by
  unfold pad
  split
  · simp only [List.getD_eq_getElem?_getD]
    by_cases h : i < c.length
    · rw [List.getElem?_append_left h]
    · rw [List.getElem?_append_right (by exact Nat.le_of_not_lt ‹_›), List.getElem?_eq_none (by exact Nat.le_of_not_lt ‹_› : c.length ≤ i)]
      rw [List.getElem?_replicate]
      split <;> rfl
  · rfl
theorem pad_length (c : List Int) (b : Nat) : (pad c b).length = max c.length (b + 1) := by
  unfold pad
  split
  · simp; lia
  · lia
theorem bump_length (c : List Int) (b : Nat) : (bump c b).length = max c.length (b + 1) := by
  unfold bump; rw [List.length_set, pad_length]
theorem bump_get (c : List Int) (b i : Nat) : (bump c b).getD i 0 = c.getD i 0 + (if i = b then 1 else 0) := by
  unfold bump
  have hp := pad_get c b
  have hl := pad_length c b
  rw [List.getD_eq_getElem?_getD, List.getElem?_set]
  by_cases h : b = i
  · subst h
    rw [if_pos rfl, if_pos (by lia), if_pos rfl, ← hp b]
    rfl
  · rw [if_neg h, if_neg (by lia), ← List.getD_eq_getElem?_getD, hp]
    lia
theorem cnt_get : ∀ (rs : List Nat) (c : List Int) (i : Nat), (rs.foldl bump c).getD i 0 = c.getD i 0 + (rs.count i : Nat)
  | [], c, i => by simp
  | a :: r, c, i => by
    rw [List.foldl_cons, cnt_get r, bump_get, List.count_cons]
    by_cases h : i = a
    · subst h; simp; lia
    · have : ¬ (a == i) = true := by simp; lia
      simp [h, this]
theorem cnt_length : ∀ (rs : List Nat) (c : List Int), (rs.foldl bump c).length = if rs = [] then c.length else max c.length (maxN rs + 1)
  | [], c => by simp
  | a :: r, c => by
    rw [List.foldl_cons, cnt_length r, bump_length, if_neg (List.cons_ne_nil a r)]
    by_cases h : r = []
    · subst h; simp [maxN]
    · rw [if_neg h, maxN, Nat.max_assoc, Nat.add_max_add_right]
theorem cntR_get (rs : List Nat) (i : Nat) : (cntR rs).getD i 0 = (rs.count i : Nat) := by
  unfold cntR; rw [cnt_get]; simp
theorem cntR_len {rs : List Nat} (h : rs ≠ []) : (cntR rs).length = maxN rs + 1 := by
  unfold cntR; rw [cnt_length, if_neg h]; simp
theorem maxN_le : ∀ {l : List Nat} {a : Nat}, a ∈ l → a ≤ maxN l
  | b :: r, a, h => by
    rcases List.mem_cons.mp h with rfl | h
    · exact Nat.le_max_left _ _
    · exact Nat.le_trans (maxN_le h) (Nat.le_max_right _ _)
/-! indent_level -/
noncomputable def sumZ (f : Nat → Int) : Nat → Int
  | 0 => 0
  | n + 1 => sumZ f n + f n
theorem foldl_range (f : Nat → Int) : ∀ (n : Nat) (z : Int), (List.range n).foldl (fun z k => z + f k) z = z + sumZ f n
  | 0, z => by simp [sumZ]
  | n + 1, z => by
    rw [List.range_succ, List.foldl_append, foldl_range f n]
    simp only [List.foldl_cons, List.foldl_nil, sumZ]
    lia
theorem sumZ_shift (f : Nat → Int) (t : Nat) : ∀ n, (∀ i, i < t → f i = 0) → sumZ (fun k => f (t + k)) (n - t) = sumZ f n := by
  intro n h0
  have hz : ∀ m, m ≤ t → sumZ f m = 0 := by
    intro m
    induction m with
    | zero => intro _; rfl
    | succ m ih => intro hm; rw [sumZ, ih (by exact Nat.le_of_lt ‹_›), h0 m (by assumption)]; rfl
  induction n with
  | zero => simp [sumZ]
  | succ n ih =>
    by_cases h : n < t
    · rw [show n + 1 - t = 0 by omega, hz _ (by assumption)]; rfl
    · rw [show n + 1 - t = (n - t) + 1 by lia, sumZ, sumZ, ih, show t + (n - t) = n by lia]
theorem sum_count (f : Nat → Nat) : ∀ (rs : List Nat) (n : Nat), (∀ a ∈ rs, a < n) → sumZ (fun i => (f i : Int) * (rs.count i : Nat)) n = ((sumR f rs : Nat) : Int)
  | [], n, _ => by
    have : ∀ n, sumZ (fun i => (f i : Int) * (([] : List Nat).count i : Nat)) n = 0 := by
      intro n
      induction n with
      | zero => rfl
      | succ n ih => rw [sumZ, ih]; simp
    rw [this]; rfl
  | a :: r, n, h => by
    have ih := sum_count f r n fun x hx => h x (.tail _ hx)
    have ha := h a (.head _)
    have key : ∀ n, sumZ (fun i => (f i : Int) * ((a :: r).count i : Nat)) n = sumZ (fun i => (f i : Int) * (r.count i : Nat)) n + (if a < n then (f a : Int) else 0) := by
      intro n
      induction n with
      | zero => simp [sumZ]
      | succ n ihn =>
        rw [sumZ, sumZ, ihn, List.count_cons]
        by_cases hn : a = n
        · subst hn
          rw [if_neg (Nat.lt_irrefl _), if_pos (Nat.lt_succ_self _)]
          simp only [beq_self_eq_true, if_true]
          push_cast
          rw [Int.mul_add, Int.mul_one]
          lia
        · have : ¬ (a == n) = true := by simpa using hn
          simp only [this]
          by_cases hlt : a < n
          · rw [if_pos hlt, if_pos (show a < n + 1 by exact Nat.le_succ_of_le ‹_›)]; simp; lia
          · rw [if_neg hlt, if_neg (show ¬ a < n + 1 by lia)]; simp
    rw [key, if_pos ha, ih]
    simp only [sumR]
    lia
theorem sumR_mul (d : Nat) : ∀ rs : List Nat, sumR (fun a => (a / d + 1) * d) rs = d * (sumR (· / d) rs + rs.length)
  | [] => by simp [sumR]
  | a :: r => by
    simp only [sumR, sumR_mul d r, List.length_cons]
    rw [← Nat.mul_comm d, ← Nat.mul_add]
    congr 1
    lia
theorem ind_mk {w : List Nat} (h : stopW w) {rs : List Nat} (hr : rs ≠ []) (c d : Nat) (hd : 0 < d) : (wsOf (mk rs c ++ w)).ind (d : Int) = (I rs c d : Nat) := by
  rw [ws_mk h]
  unfold Ws.ind
  simp only
  have e : (rngI (d : Int) ((cntR rs).length : Int)).foldl (ilF (cntR rs) (d : Int)) 0 = ((sumR (· / d) rs : Nat) : Int) := by
    unfold rngI
    rw [List.foldl_map]
    have e1 : (List.range (((cntR rs).length : Int) - (d : Int)).toNat).foldl (fun z k => ilF (cntR rs) (d : Int) z ((d : Int) + (k : Nat))) 0 = (List.range ((cntR rs).length - d)).foldl (fun z k => z + (fun i : Nat => ((i / d : Nat) : Int) * (rs.count i : Nat)) (d + k)) 0 := by
      rw [show (((cntR rs).length : Int) - (d : Int)).toNat = (cntR rs).length - d by lia]
      congr 1
      funext z k
      unfold ilF
      have h1 : (d : Int) + (k : Nat) = ((d + k : Nat) : Int) := by push_cast; rfl
      rw [h1, Int.toNat_natCast, cntR_get]
      rfl
    rw [e1, foldl_range, sumZ_shift (fun i : Nat => ((i / d : Nat) : Int) * (rs.count i : Nat)) d (cntR rs).length (fun i hi => by rw [Nat.div_eq_of_lt hi]; simp), sum_count (· / d) rs _ (fun a ha => by rw [cntR_len hr]; have := maxN_le ha; exact Nat.lt_succ_of_le ‹_›)]
    lia
  rw [e]
  unfold I
  rw [sumR_mul]
  push_cast
  lia
theorem split_mk : ∀ (rs : List Nat) (c : Nat), splitG [9] 0 (mk rs c) = rs.map bl ++ [bl c]
  | [], c => split_end fun h => by have := bl_mem h; contradiction
  | a :: r, c => by
    rw [mk_cons, split_cons (fun h => by have := bl_mem h; contradiction), split_mk r c]
    rfl
theorem maxN_app : ∀ (a b : List Nat), maxN (a ++ b) = max (maxN a) (maxN b)
  | [], b => by simp [maxN]
  | x :: a, b => by rw [List.cons_append, maxN, maxN_app a b, maxN, Nat.max_assoc]
theorem len_bl (rs : List Nat) : rs.map (List.length ∘ bl) = rs := by
  induction rs with
  | nil => rfl
  | cons a r ih => simp [ih]
theorem topM_mk (rs qs : List Nat) (c e : Nat) : topM (mk rs c) (mk qs e) = max (max (maxN rs) c) (max (maxN qs) e) + 1 := by
  unfold topM lens1
  rw [split_mk, split_mk]
  simp only [List.map_append, List.map_map, len_bl, List.map_cons, List.map_nil, List.length_replicate, maxN_app, maxN, Nat.max_zero]
theorem okWs_mk {w : List Nat} (h : stopW w) {rs : List Nat} (hr : rs ≠ []) {c : Nat} (hm : maxN rs ≤ 800) (hc : c ≤ 800) : OkW (wsOf (mk rs c ++ w)) := by
  rw [ws_mk h]
  refine ⟨?_, ?_, ?_⟩
  · show 1 ≤ (cntR rs).length
    rw [cntR_len hr]; exact Nat.succ_pos _
  · show (cntR rs).length ≤ 900
    rw [cntR_len hr]; exact Nat.lt_of_le_of_lt ‹_› (by decide)
  · show (c : Int) ≤ 900
    lia
theorem maxN_mk_le (rs : List Nat) (c : Nat) : maxN rs ≤ (mk rs c).length ∧ c ≤ (mk rs c).length := by
  rw [mk_len]
  refine ⟨?_, by exact Nat.le_add_left _ _⟩
  induction rs with
  | nil => simp [maxN]
  | cons a r ih => simp only [maxN, sumR]; lia
theorem long_mk {w : List Nat} (h : stopW w) {rs : List Nat} (hr : rs ≠ []) (c : Nat) : (wsOf (mk rs c ++ w)).long = ((max (maxN rs) c : Nat) : Int) := by
  rw [ws_mk h]
  unfold Ws.long
  simp only
  rw [cntR_len hr]
  lia
theorem topN_mk {w v : List Nat} (h : stopW w) (h' : stopW v) {rs qs : List Nat} (hr : rs ≠ []) (hq : qs ≠ []) (c e : Nat) : topN (wsOf (mk rs c ++ w)) (wsOf (mk qs e ++ v)) = ((max (max (maxN rs) c) (max (maxN qs) e) + 1 : Nat) : Int) := by
  unfold topN
  rw [long_mk h hr, long_mk h' hq]
  omega
theorem rngI_nat (a n : Nat) : rngI (a : Int) ((a + n : Nat) : Int) = (List.range n).map fun k => ((a + k : Nat) : Int) := by
  unfold rngI
  rw [show (((a + n : Nat) : Int) - (a : Int)).toNat = n by lia]
  refine List.map_congr_left fun k _ => ?_
  push_cast; rfl
theorem simple_mk {w : List Nat} (h : stopW w) {rs : List Nat} (hr : rs ≠ []) (c : Nat) : (wsOf (mk rs c ++ w)).simple = decide (maxN rs = 0) := by
  rw [ws_mk h]
  unfold Ws.simple
  simp only
  rw [cntR_len hr, Bool.eq_iff_iff, decide_eq_true_eq, decide_eq_true_eq]
  lia
theorem less_iff {w v : List Nat} (h : stopW w) (h' : stopW v) {rs qs : List Nat} (hr : rs ≠ []) (hq : qs ≠ []) (c e : Nat) :
    lessB (wsOf (mk rs c ++ w)) (wsOf (mk qs e ++ v)) = true ↔ I rs c 1 < I qs e 1 ∧ ((maxN rs = 0 ∧ maxN qs = 0 ∧ rs.length ≤ qs.length) ∨ (¬ (maxN rs = 0 ∧ maxN qs = 0) ∧ ∀ ts, 2 ≤ ts → ts ≤ max (max (maxN rs) c) (max (maxN qs) e) + 1 → I rs c ts < I qs e ts)) := by
  have I1 : ∀ (rs : List Nat) c, I rs c 1 = sumR (· + 1) rs + c := by
    intro rs c
    unfold I
    congr 1
    induction rs with
    | nil => rfl
    | cons a r ih => simp only [sumR, Nat.div_one, Nat.mul_one]
  unfold lessB
  have n1 : (wsOf (mk rs c ++ w)).n = ((I rs c 1 : Nat) : Int) := by rw [ws_mk h, I1]
  have n2 : (wsOf (mk qs e ++ v)).n = ((I qs e 1 : Nat) : Int) := by rw [ws_mk h', I1]
  have t1 : (wsOf (mk rs c ++ w)).nt = (rs.length : Int) := by rw [ws_mk h]
  have t2 : (wsOf (mk qs e ++ v)).nt = (qs.length : Int) := by rw [ws_mk h']
  rw [n1, n2, t1, t2, simple_mk h hr, simple_mk h' hq, topN_mk h h' hr hq]
  by_cases hn : I rs c 1 < I qs e 1
  · rw [if_neg (by lia)]
    by_cases hs : maxN rs = 0 ∧ maxN qs = 0
    · rw [if_pos (by rw [hs.1, hs.2]; rfl), decide_eq_true_eq]
      constructor
      · intro hl; exact ⟨hn, .inl ⟨hs.1, hs.2, by lia⟩⟩
      · rintro ⟨_, ⟨_, _, hl⟩ | ⟨hns, _⟩⟩
        · lia
        · exact absurd hs hns
    · have hsb : ¬ ((decide (maxN rs = 0) && decide (maxN qs = 0)) = true) := by
        simp only [Bool.and_eq_true, decide_eq_true_eq]; exact hs
      rw [if_neg hsb]
      generalize hM : max (max (maxN rs) c) (max (maxN qs) e) = M
      have hr2 : rngI 2 (((M + 1 : Nat) : Int) + 1) = (List.range M).map fun k => ((2 + k : Nat) : Int) := by
        have := rngI_nat 2 M
        rw [← this]
        congr 1
        push_cast; lia
      rw [hr2, List.all_eq_true]
      constructor
      · intro ha
        refine ⟨hn, .inr ⟨hs, fun ts h2 hT => ?_⟩⟩
        have := ha ((2 + (ts - 2) : Nat) : Int) (List.mem_map.mpr ⟨ts - 2, List.mem_range.mpr (by lia), rfl⟩)
        rw [show 2 + (ts - 2) = ts by lia, ind_mk h hr c ts (by exact Nat.zero_lt_of_lt ‹_›), ind_mk h' hq e ts (by exact Nat.zero_lt_of_lt ‹_›), decide_eq_true_eq] at this
        lia
      · rintro ⟨_, ⟨h1, h2, _⟩ | ⟨_, ha⟩⟩ x hx
        · exact absurd ⟨h1, h2⟩ hs
        · obtain ⟨k, hk, rfl⟩ := List.mem_map.mp hx
          have hk := List.mem_range.mp hk
          rw [ind_mk h hr c (2 + k) (by lia), ind_mk h' hq e (2 + k) (by lia), decide_eq_true_eq]
          have := ha (2 + k) (by exact Nat.le_add_right _ _) (by lia)
          lia
  · rw [if_pos (by lia)]
    constructor
    · intro hf; cases hf
    · rintro ⟨hl, _⟩; exact absurd hl hn
theorem I_succ (rs : List Nat) (c d : Nat) : I rs (c + 1) d = I rs c d + 1 := by unfold I; lia
/-- beyond all runs -/
theorem I_far {rs : List Nat} {d : Nat} (h : maxN rs < d) (c : Nat) : I rs c d = rs.length * d + c := by
  unfold I
  congr 1
  induction rs with
  | nil => simp [sumR]
  | cons a r ih =>
    simp only [maxN] at h
    simp only [sumR, List.length_cons]
    have h1 := ih (by lia)
    have h2 : (r.length + 1) * d = r.length * d + d := Nat.succ_mul _ _
    have h3 : (a / d + 1) * d = d := by rw [Nat.div_eq_of_lt (by lia)]; lia
    rw [h1, h2, h3]
    lia
theorem bl_inj {a b : Nat} (h : bl a = bl b) : a = b := by
  have := congrArg List.length h
  simpa using this
theorem count_bl (n : Nat) : (bl n).count 9 = 0 := List.count_eq_zero.mpr fun h => by have := bl_mem h; contradiction
theorem count_mk (rs : List Nat) (c : Nat) : (mk rs c).count 9 = rs.length := by
  induction rs with
  | nil => rw [mk_nil]; exact count_bl c
  | cons a r ih => rw [mk_cons, List.count_append, count_bl, List.count_cons, ih]; simp
end Mine
end
section
open PySem PySem.W PyProof.Rows PyProof.V
set_option Elab.async false
set_option maxRecDepth 20000
set_option linter.unusedSimpArgs false
namespace Mine
theorem wsg2 (k : Nat) : WsG (pg2.lvl (k + 1)) := ⟨fun h hl => lvl_call (f := 11) rfl (run_long h hl), fun h hl h0 h1 => lvl_call (f := 12) rfl (run_ind h hl h0 h1)⟩
theorem ev_ws2 {k : Nat} {L : List (Option V)} {e : E} {H H₁ : List O} {s : List Nat} (h : ev (pg2.lvl (k + 1)) L e H = some (.p (.str s), H₁)) (hl : s.length ≤ 900) : ev (pg2.lvl (k + 1)) L (.new [e]) H = some (.obj H₁.length, H₁ ++ [.inst (wsOf s).fs]) :=
  ev_new (evs_cons h (evs_nil _ _ _)) (lvl_call (f := 10) rfl (run_init hl))
noncomputable def witT (w u : Ws) (c : Int → Bool) : List Tr := ((rngI 1 (topN w u + 1)).filter c).map fun ts => (ts, w.ind ts, u.ind ts)
theorem wits_T (w u : Ws) (c : Int → Bool) : wits w u c = (witT w u c).map tp := by
  unfold wits witT
  rw [List.map_map]
  rfl
theorem fs_nless (w : Ws) : w.fs.lookup (Str.ofString "not_less_witness") = none := rfl
theorem ev_nlessV {k : Nat} {L : List (Option V)} {H : List O} {i j r q : Nat} {w u : Ws} (hi : L[i]? = some (some (.obj r))) (hj : L[j]? = some (some (.obj q))) (h1 : At1 H r w) (h2 : At1 H q u) (o1 : OkW w) (o2 : OkW u) :
    ev (pg2.lvl (k + 2)) L (.mth 16 (Str.ofString "not_less_witness") (.loc i) [(.loc j)]) H = some (.ref H.length, H ++ [.list ((witT w u fun ts => decide (u.ind ts ≤ w.ind ts)).map tp)]) := by
  rw [← wits_T]
  exact ev_mth (ev_loc hi) h1.f (fs_nless w) (evs_cons (ev_loc hj) (evs_nil _ _ _)) (lvl_call (f := 16) rfl (run_nless (wsg2 k) h1 h2 o1.c2 o2.c2 o1.b o2.b o1.c1))
theorem ev_lessV2 {k : Nat} {L : List (Option V)} {H H₁ : List O} {i r q : Nat} {e : E} {w u : Ws} (hi : L[i]? = some (some (.obj r))) (h0 : At1 H r w) (he : ev (pg2.lvl (k + 2)) L e H = some (.obj q, H₁)) (h1 : At1 H₁ r w) (h2 : At1 H₁ q u) (o1 : OkW w) (o2 : OkW u) :
    ev (pg2.lvl (k + 2)) L (.mth 15 (Str.ofString "less") (.loc i) [e]) H = some (.p (.bool (lessB w u)), H₁) :=
  ev_mth (ev_loc hi) h0.f (fs_less w) (evs_cons he (evs_nil _ _ _)) (lvl_call (f := 15) rfl (run_less (wsg2 k) h1 h2 o1.c2 o2.c2 o1.b o2.b o1.c1))
end Mine
end
section
open PySem PySem.W PyProof.Rows PyProof.V
set_option Elab.async false
set_option maxRecDepth 20000
set_option linter.unusedSimpArgs false
namespace Mine
section
variable {g : G} {L : List (Option V)} {H H₁ : List O} {es : List E} {vs : List V} {ps x y : List P} {r q : Nat} {tabs : Nat → List P} {l z : List Nat} {lo hi : Option V} {a b : Option Int}
theorem ev_tup' (h : evs g L es H = some (vs, H₁)) (hp : allP vs = some ps) (ho : ok ps.length = true) : ev g L (.tup es) H = some (.p (.tup ps), H₁) := bindS h (bindS (o := allP vs) hp (if_pos ho))
theorem ev_lst' (h : evs g L es H = some (vs, H₁)) (hp : allP vs = some ps) (ho : ok ps.length = true) : ev g L (.lst es) H = some (.ref H₁.length, H₁ ++ [.list ps]) := bindS h (bindS (o := allP vs) hp (if_pos ho))
theorem addR (h1 : getL H r = some x) (h2 : getL H q = some y) (h : x.length + y.length ≤ 1000000) : binV .add (.ref r) (.ref q) H = some (.ref H.length, H ++ [.list (x ++ y)]) := bindS (o := getL H r) h1 (bindS (o := getL H q) h2 (if_pos (ok_of h)))
theorem mulR {n : Int} (h1 : getL H r = some x) (hx : x.isEmpty = false) (hn : oki n = true) (h : x.length * n.toNat ≤ 1000000) : binV .mul (.ref r) (.p (.int n)) H = some (.ref H.length, H ++ [.list (rep n.toNat x)]) :=
  bindS (o := getL H r) h1 (if_pos (by rw [hn, ok_of h, hx]; rfl))
theorem slR (h1 : bnds lo = some a) (h2 : bnds hi = some b) (h : getL H r = some x) (hk : ok x.length = true) : slV (.ref r) lo hi H = some (.ref H.length, H ++ [.list (cut x a b)]) := by
  rw [slV, h1, h2]
  exact bindS (o := getL H r) h (if_pos hk)
theorem slF (h1 : bnds lo = some a) (h2 : bnds hi = some b) (hk : ok x.length = true) : slV (.fix x) lo hi H = some (.ref H.length, H ++ [.list (cut x a b)]) := by
  rw [slV, h1, h2]
  exact if_pos hk
theorem lenF (h : ok x.length = true) : biV .len [.fix x] H = some (.p (.int x.length), H) := if_pos h
theorem smv_replace {y : List Nat} (hy : y.isEmpty = false) (h : (l.length + 1) * (z.length + 1) ≤ 1000000) : smV tabs .replace (.p (.str l)) [.p (.str y), .p (.str z)] H = some (.p (.str (joinL z (splitG y 0 l))), H) :=
  if_pos (by rw [ok_of h, hy]; rfl)
theorem smv_join {ls : List (List Nat)} (hr : getL H r = some (ls.map P.str)) (h : (ls.map List.length).sum + ls.length * l.length ≤ 1000000) : smV tabs .join (.p (.str l)) [.ref r] H = some (.p (.str (joinL l ls)), H) :=
  bindS (o := getL H r) hr (bindS (pStrs_str ls) (if_pos (ok_of h)))
end
noncomputable def fixed2 : List Int := [7, 5, 4, 1, 0, 106, 6]
noncomputable def numbers2 (ns : List Int) : List Int := (ns.take 7).map (· % 1000000) ++ fixed2.drop ns.length
noncomputable def modP6 (p : P) : P := (p.int?.map fun i => P.int (i % 1000000)).getD p
theorem run_numbers2 {g : G} {ns : List Int} {H : List O} (hn : ns.length ≤ 63) : runF g qF_lw_numbers [.fix (ns.map .int)] H = some (.ref H.length, H ++ [.list ((numbers2 ns).map .int)]) := by
  let fx : List P := fixed2.map .int
  let L : List (Option V) := [some (.fix (ns.map .int)), some (.ref H.length)]
  let sl : List P := (ns.map .int).take 7
  let ct : List P := fx.drop ns.length
  have okn : ok (ns.map P.int).length = true := ok_of (by rw [List.length_map]; exact Nat.le_trans hn (by decide))
  have hsl : sl.length ≤ 7 := by simp only [sl, List.length_take]; exact Nat.min_le_left _ _
  have hit : ev g L (.sl (.loc 0) none (some (.lit (.int (7))))) (H ++ [.list fx]) = some (.ref (H.length + 1), H ++ [.list fx, .list sl]) := by
    refine (ev_sl (x := .fix (ns.map .int)) (ev_loc rfl) (evo_none _ _ _) (evo_some rfl) (slF rfl (bnds_int (i := 7) rfl) okn)).trans ?_
    rw [show cut (ns.map P.int) none (some 7) = sl from cut_take _ 7, List.length_append, List.append_assoc]
    rfl
  have e1 : ev g L (.comp [none] (.bin .mod (.loc 0) (.bin .pow (.lit (.int (10))) (.lit (.int (6))))) (.one 0) (.sl (.loc 0) none (some (.lit (.int (7))))) []) (H ++ [.list fx]) = some (.ref (H.length + 2), H ++ [.list fx, .list sl, .list (sl.map modP6)]) := by
    have e := ev_comp0 (g := g) (L := L) (fr := [none]) (t := .one 0) (elt := .bin .mod (.loc 0) (.bin .pow (.lit (.int (10))) (.lit (.int (6))))) (w := some (H.length + 1)) (items := sl) modP6 (fun l => l.length = 1) rfl hit (items_rf (by rw [getL_sh]; rfl)) (stays_of (by rw [getL_sh]; rfl)) rfl (Nat.le_trans hsl (by decide)) fun x hx loc K hl => by
      obtain ⟨o, rfl⟩ := List.length_eq_one_iff.mp hl
      obtain ⟨i, _, rfl⟩ := List.mem_map.mp (List.mem_of_mem_take hx)
      exact ⟨[some (.p (.int i))], rfl, rfl, ev_bin (ev_loc rfl) (ev_bin rfl rfl rfl) (modI (by decide))⟩
    rw [e, List.length_append, List.append_assoc]
    rfl
  have e2 : ev g L (.sl (.loc 1) (some (.bi .len [(.loc 0)])) none) (H ++ [.list fx, .list sl, .list (sl.map modP6)]) = some (.ref (H.length + 3), H ++ [.list fx, .list sl, .list (sl.map modP6), .list ct]) := by
    refine (ev_sl (x := .ref H.length) (ev_loc rfl) (evo_some (ev_bi (evs_cons (ev_loc rfl) (evs_nil _ _ _)) (lenF okn))) (evo_none _ _ _) (slR (bnds_int (oki_of (by rw [List.length_map]; lia))) rfl (x := fx) (by rw [getL_sh0]; rfl) rfl)).trans ?_
    rw [cut_drop, List.length_map, List.length_append, List.append_assoc]
    rfl
  have hm : sl.map modP6 = ((ns.take 7).map (· % 1000000)).map .int := by
    simp only [sl, ← List.map_take, List.map_map]
    rfl
  refine runF_ret (v := .ref (H.length + 4)) rfl (loc' := L) (H' := H ++ [.list fx, .list sl, .list (sl.map modP6), .list ct, .list (sl.map modP6 ++ ct)]) ?_ (by
    simp [tidy, numbers2, hm, ct, fx, List.map_drop])
  refine exs_step (loc' := L) (H' := H ++ [.list fx]) rfl (H'' := H ++ [.list fx]) (gc_top (by simp [lb, vb, L])) ?_
  refine exs_stop (ex_ret ((ev_bin e1 e2 (addR (by rw [getL_sh]; rfl) (by rw [getL_sh]; rfl) ?_)).trans ?_)) (ne_next rfl)
  · rw [List.length_map, List.length_drop]
    have : fx.length = 7 := rfl
    lia
  · rw [List.length_append, List.append_assoc]
    rfl
theorem numbers2_nat {ns : List Int} : ∃ xs : List Nat, numbers2 ns = xs.map (fun n : Nat => (n : Int)) ∧ xs.length = 7 ∧ ∀ x ∈ xs, x < 1000000 := by
  have h : ∀ x ∈ numbers2 ns, 0 ≤ x ∧ x < 1000000 := by
    intro x hx
    unfold numbers2 at hx
    rcases List.mem_append.mp hx with hx | hx
    · obtain ⟨y, _, rfl⟩ := List.mem_map.mp hx
      exact ⟨Int.emod_nonneg _ (by decide), Int.emod_lt_of_pos _ (by decide)⟩
    · have := List.mem_of_mem_drop hx
      exact of_decide_eq_true (List.all_eq_true.mp (show (fixed2.all fun x => decide (0 ≤ x ∧ x < 1000000)) = true by decide) x this)
  have hl : (numbers2 ns).length = 7 := by
    simp [numbers2, fixed2]
    omega
  refine ⟨(numbers2 ns).map Int.toNat, ?_, by simpa using hl, ?_⟩
  · rw [List.map_map]
    conv => lhs; rw [← List.map_id (numbers2 ns)]
    refine List.map_congr_left fun x hx => ?_
    have := h x hx
    simp
    lia
  · intro x hx
    obtain ⟨y, hy, rfl⟩ := List.mem_map.mp hx
    have := h y hy
    lia
end Mine
end
section
open PySem PySem.W PyProof.Rows PyProof.V
set_option Elab.async false
set_option maxRecDepth 20000
set_option linter.unusedSimpArgs false
namespace Mine
noncomputable def wordOf (l : List Nat) : List Nat := joinL [] (splitG [32] 0 l)
theorem wordOf_eq (l : List Nat) : wordOf l = l.filter (fun c => !(c == 32)) := by
  induction l with
  | nil => rfl
  | cons a r ih =>
    unfold wordOf at ih ⊢
    obtain ⟨h, q, e⟩ := splitG_ne [32] r 0
    by_cases ha : a = 32
    · subst ha
      rw [split_hit, e, join_cons (by simp), ← e, ih]
      rfl
    · rw [split_miss ha, e]
      rw [e] at ih
      have e2 : joinL [] ((a :: h) :: q) = a :: joinL [] (h :: q) := by cases q <;> rfl
      show joinL [] ((a :: h) :: q) = _
      rw [e2, ih, List.filter_cons, if_pos (by simpa using ha)]
theorem wordOf_le (l : List Nat) : (wordOf l).length ≤ l.length := by rw [wordOf_eq]; exact List.length_filter_le _ _
noncomputable def chunkS (size : Nat) : Nat → List Nat → List (List Nat × Bool)
  | 0, w => [(w, false)]
  | f + 1, w => if size + 1 < 3 * w.length then (w.take (size / 3), true) :: chunkS size f (w.drop (size / 3)) else [(w, false)]
noncomputable def rowsS (size : Nat) (part : List Nat) : List (List Nat × Bool) :=
  if wordOf part = [] ∨ wordOf part = [105, 102] then List.replicate ((part.length - (wordOf part).length) / size) (bl size, true) ++ [(bl ((part.length - (wordOf part).length) % size) ++ wordOf part, false)]
  else chunkS size (wordOf part).length (wordOf part)
noncomputable def rowS (r : List Nat × Bool) : P := .tup [.str r.1, .bool r.2]
theorem tidy_sh {k : Nat} {H K : List O} : tidy H.length (.ref (H.length + k)) (H ++ K) = (K[k]?).map fun o => (.ref H.length, H ++ [o]) := by
  show (if H.length + k < H.length then _ else _) = _
  rw [if_neg (by lia), List.take_left, List.getElem?_append_right (Nat.le_add_right _ _), Nat.add_sub_cancel_left]
theorem ev_replace {g : G} {L : List (Option V)} {H : List O} {i : Nat} {l : List Nat} (hi : L[i]? = some (some (.p (.str l)))) (hl : l.length ≤ 1000) : ev g L (.sm .replace (.loc i) [(.lit (.str [32])), (.lit (.str []))]) H = some (.p (.str (wordOf l)), H) :=
  ev_sm (ev_loc hi) rfl (evs_cons rfl (evs_cons rfl (evs_nil _ _ _))) (smv_replace rfl (by simp only [List.length_nil]; lia))
theorem ev_lenS {g : G} {L : List (Option V)} {H : List O} {i : Nat} {l : List Nat} (hi : L[i]? = some (some (.p (.str l)))) (hl : l.length ≤ 1000000) : ev g L (.bi .len [(.loc i)]) H = some (.p (pN l.length), H) :=
  ev_bi (evs_cons (ev_loc hi) (evs_nil _ _ _)) (lenS (ok_of hl))
theorem subN {a b : Nat} {H : List O} (h : b ≤ a) : binV .sub (.p (pN a)) (.p (pN b)) H = some (.p (pN (a - b)), H) := by
  show some (V.p (P.int ((a : Int) - (b : Int))), H) = some (V.p (P.int ((a - b : Nat) : Int)), H)
  rw [Int.ofNat_sub h]
theorem mulN {a b : Nat} {H : List O} (h : a ≤ 1000000) : binV .mul (.p (pN a)) (.p (pN b)) H = some (.p (pN (a * b)), H) := by
  rw [mulI (oki_nat h)]
  rfl
theorem evT_or {g : G} {L : List (Option V)} {es : List E} {H : List O} {z} (h : evD g L es H = some z) : evT g L (.or es) (ev g L (.or es) H) H = some z := h
theorem evD_t {g : G} {L : List (Option V)} {e : E} {r : List E} {H H₁ : List O} (h : evT g L e (ev g L e H) H = some (true, H₁)) : evD g L (e :: r) H = some (true, H₁) := bindS h rfl
theorem evD_f {g : G} {L : List (Option V)} {e : E} {r : List E} {H H₁ : List O} {z} (h : evT g L e (ev g L e H) H = some (false, H₁)) (h2 : evD g L r H₁ = some z) : evD g L (e :: r) H = some z := bindS h h2
theorem evD_2 {g : G} {L : List (Option V)} {a b : E} {H : List O} {s t : Bool} (h : evT g L a (ev g L a H) H = some (s, H)) (h2 : evT g L b (ev g L b H) H = some (t, H)) : evT g L (.or [a, b]) (ev g L (.or [a, b]) H) H = some (s || t, H) := by
  refine evT_or ?_
  cases s with
  | true => exact evD_t h
  | false =>
    refine evD_f h ?_
    cases t with
    | true => exact evD_t h2
    | false => exact evD_f h2 rfl
theorem eqS {a b : List Nat} {H : List O} : cmpV .eq (.p (.str a)) (.p (.str b)) H = some (decide (a = b)) := congrArg some (by rw [Bool.eq_iff_iff, beq_iff_eq, decide_eq_true_eq])
noncomputable def LR (part : List Nat) (size : Nat) (o2 : Option (List Nat)) (o3 : Option Nat) (o4 : Option Nat) : List (Option V) := [some (.p (.str part)), some (.p (pN size)), o2.map (fun l => V.p (.str l)), o3.map (fun n => V.p (pN n)), o4.map V.ref]
noncomputable def condR : E := .cmp .gt (.bin .mul (.lit (.int (3))) (.bi .len [(.loc 2)])) (.bin .add (.loc 1) (.lit (.int (1))))
noncomputable def cutR : E := .bin .fdiv (.loc 1) (.lit (.int (3)))
noncomputable def whR : List T := [.ex (.sm .append (.loc 4) [(.tup [(.sl (.loc 2) none (some cutR)), (.lit (.bool true))])]),
  .asg (.one 2) (.sl (.loc 2) (some cutR) none)]
theorem lb_LR {part : List Nat} {size : Nat} {o2 : Option (List Nat)} {o3 : Option Nat} {r : Nat} : lb (LR part size o2 o3 (some r)) = r + 1 := by
  cases o2 <;> cases o3 <;> simp [LR, lb, vb]
theorem gt_d {a b : Nat} {H : List O} : cmpV .gt (.p (pN a)) (.p (pN b)) H = some (decide (b < a)) := congrArg some (by rw [Bool.eq_iff_iff, decide_eq_true_eq, decide_eq_true_eq]; omega)
theorem rows_while {g : G} {part : List Nat} {size b : Nat} {H : List O} (h3 : 3 ≤ size) (hz : size ≤ 1000) : ∀ (f : Nat) (w : List Nat) (n : Nat) (acc : List (List Nat × Bool)), w.length ≤ f → f < n → w.length ≤ 1000 → acc.length + w.length ≤ 5000 →
    ∃ w' acc', whlL (fun loc H => evT g loc condR (ev g loc condR H) H) (fun loc H => exs g whR loc H) n (LR part size (some w) (some b) (some H.length)) (H ++ [.list (acc.map rowS)]) =
      some (.next, LR part size (some w') (some b) (some H.length), H ++ [.list (acc'.map rowS)]) ∧ acc' ++ [(w', false)] = acc ++ chunkS size f w ∧ acc'.length ≤ acc.length + w.length := by
  have hk : 1 ≤ size / 3 := Nat.div_pos h3 (by decide)
  have hk2 : size / 3 ≤ 1000000 := Nat.le_trans (Nat.div_le_self _ _) (Nat.le_trans hz (by decide))
  have cond : ∀ (w : List Nat) (K : List O), w.length ≤ 1000 → evT g (LR part size (some w) (some b) (some H.length)) condR (ev g (LR part size (some w) (some b) (some H.length)) condR K) K = some (decide (size + 1 < 3 * w.length), K) := fun w K hw =>
    evT_cmp (ev_bin rfl (ev_lenS rfl (Nat.le_trans hw (by decide))) (mulN (a := 3) (by decide))) (ev_bin (ev_loc rfl) rfl (addN (b := 1))) gt_d
  have efd : ∀ (w : List Nat) (K : List O), ev g (LR part size (some w) (some b) (some H.length)) cutR K = some (.p (pN (size / 3)), K) := fun w K => ev_bin (ev_loc rfl) rfl (fdivV (b := 3) (by decide) (by decide))
  have stop : ∀ (f n : Nat) (w : List Nat) (acc : List (List Nat × Bool)), ¬ size + 1 < 3 * w.length → w.length ≤ 1000 → chunkS size f w = [(w, false)] → 
      ∃ w' acc', whlL (fun loc H => evT g loc condR (ev g loc condR H) H) (fun loc H => exs g whR loc H) (n + 1) (LR part size (some w) (some b) (some H.length)) (H ++ [.list (acc.map rowS)]) =
      some (.next, LR part size (some w') (some b) (some H.length), H ++ [.list (acc'.map rowS)]) ∧ acc' ++ [(w', false)] = acc ++ chunkS size f w ∧ acc'.length ≤ acc.length + w.length := fun f n w acc hc hw e =>
    ⟨w, acc, whl_stop (by rw [cond w _ hw, decide_eq_false hc]), by rw [e], Nat.le_add_right _ _⟩
  intro f
  induction f with
  | zero =>
    intro w n acc hf hn hw ha
    obtain ⟨n, rfl⟩ : ∃ m, n = m + 1 := ⟨n - 1, by lia⟩
    exact stop 0 n w acc (by lia) hw rfl
  | succ f ih =>
    intro w n acc hf hn hw ha
    obtain ⟨n, rfl⟩ : ∃ m, n = m + 1 := ⟨n - 1, by lia⟩
    by_cases hc : size + 1 < 3 * w.length
    · have hlen : (w.drop (size / 3)).length + size / 3 = w.length := by rw [List.length_drop]; lia
      obtain ⟨w', acc', i1, i2, i3⟩ := ih (w.drop (size / 3)) n (acc ++ [(w.take (size / 3), true)]) (by lia) (Nat.lt_of_succ_lt_succ hn) (by lia) (by rw [List.length_append, List.length_singleton]; lia)
      rw [List.length_append, List.length_singleton] at i3
      refine ⟨w', acc', whl_go (by rw [cond w _ hw, decide_eq_true hc]) (.inl ?_) i1, ?_, by lia⟩
      · have okw : ok w.length = true := ok_of (Nat.le_trans hw (by decide))
        have esl : ∀ K, ev g (LR part size (some w) (some b) (some H.length)) (.sl (.loc 2) none (some cutR)) K = some (.p (.str (w.take (size / 3))), K) := fun K =>
          (ev_sl (ev_loc rfl) (evo_none _ _ _) (evo_some (efd w K)) (slV_str rfl (bnds_int (oki_nat hk2)) okw)).trans (by rw [cut_take])
        have esr : ∀ K, ev g (LR part size (some w) (some b) (some H.length)) (.sl (.loc 2) (some cutR) none) K = some (.p (.str (w.drop (size / 3))), K) := fun K =>
          (ev_sl (ev_loc rfl) (evo_some (efd w K)) (evo_none _ _ _) (slV_str (bnds_int (oki_nat hk2)) rfl okw)).trans (by rw [cut_drop])
        have etup : ∀ K, ev g (LR part size (some w) (some b) (some H.length)) (.tup [(.sl (.loc 2) none (some cutR)), (.lit (.bool true))]) K = some (.p (rowS (w.take (size / 3), true)), K) := fun K => ev_tup' (evs_cons (esl K) (evs_cons rfl (evs_nil _ _ _))) rfl rfl
        have hlb : ∀ (w : List Nat) (x : List P) (n : Nat), gc n (LR part size (some w) (some b) (some H.length)) (H ++ [.list x]) = H ++ [.list x] := fun w x n => gc_top (by rw [lb_LR, List.length_append]; exact Nat.le_refl _)
        refine exs_step (H'' := H ++ [.list ((acc ++ [(w.take (size / 3), true)]).map rowS)]) (ex_ex ((ev_append rfl (getL_last _ _) (etup _) (getL_last _ _) (ok_of (by rw [List.length_map]; lia))))) ?_ ?_
        · rw [set_last, hlb, List.map_append]; rfl
        · exact exs_one (ex_asg (esr _) rfl) (hlb _ _ _)
      · rw [i2, chunkS, if_pos hc, List.append_assoc]; rfl
    · exact stop (f + 1) n w acc hc hw (by rw [chunkS, if_neg hc])
theorem run_rows2 {g : G} {part : List Nat} {size : Nat} {H : List O} (h3 : 3 ≤ size) (hz : size ≤ 1000) (hl : part.length ≤ 500) : runF g qF_lw_rows [.p (.str part), .p (pN size)] H = some (.ref H.length, H ++ [.list ((rowsS size part).map rowS)]) := by
  have hwl := wordOf_le part
  let w := wordOf part
  have hwl' : w.length ≤ part.length := hwl
  let b := part.length - w.length
  have hb : b ≤ 500 := Nat.le_trans (Nat.sub_le _ _) hl
  have s0 : ex g (.asg (.one 2) (.sm .replace (.loc 0) [(.lit (.str [32])), (.lit (.str []))])) (LR part size none none none) H = some (.next, LR part size (some w) none none, H) := ex_asg (ev_replace rfl (Nat.le_trans hl (by decide))) rfl
  have s1 : ex g (.asg (.one 3) (.bin .sub (.bi .len [(.loc 0)]) (.bi .len [(.loc 2)]))) (LR part size (some w) none none) H = some (.next, LR part size (some w) (some b) none, H) :=
    ex_asg (ev_bin (ev_lenS rfl (Nat.le_trans hl (by decide))) (ev_lenS (l := w) rfl (by lia)) (subN hwl)) rfl
  let L2 := LR part size (some w) (some b) none
  have cond : evT g L2 (.or [(.cmp .eq (.loc 2) (.lit (.str []))), (.cmp .eq (.loc 2) (.lit (.str [105, 102])))]) (ev g L2 (.or [(.cmp .eq (.loc 2) (.lit (.str []))), (.cmp .eq (.loc 2) (.lit (.str [105, 102])))]) H) H = some (decide (w = []) || decide (w = [105, 102]), H) :=
    evD_2 (evT_cmp (ev_loc rfl) rfl eqS) (evT_cmp (ev_loc rfl) rfl eqS)
  have hds : 0 < size := Nat.lt_of_lt_of_le (by decide) h3
  by_cases hc : w = [] ∨ w = [105, 102]
  · have hr : rowsS size part = List.replicate (b / size) (bl size, true) ++ [(bl (b % size) ++ w, false)] := if_pos hc
    have hbd : b / size ≤ 500 := Nat.le_trans (Nat.div_le_self _ _) hb
    have hbm : b % size ≤ 500 := Nat.le_trans (Nat.mod_le _ _) hb
    have t1 : ev g L2 (.lst [(.tup [(.bin .mul (.lit (.str [32])) (.loc 1)), (.lit (.bool true))])]) H = some (.ref H.length, H ++ [.list [rowS (bl size, true)]]) :=
      ev_lst' (evs_cons (ev_tup' (evs_cons (ev_bin rfl (ev_loc rfl) (mul_blV (by exact Nat.le_trans ‹_› (by decide)))) (evs_cons rfl (evs_nil _ _ _))) rfl rfl) (evs_nil _ _ _)) rfl rfl
    let K2 : List O := [.list [rowS (bl size, true)], .list (List.replicate (b / size) (rowS (bl size, true)))]
    have t2 : ev g L2 (.bin .mul (.lst [(.tup [(.bin .mul (.lit (.str [32])) (.loc 1)), (.lit (.bool true))])]) (.bin .fdiv (.loc 3) (.loc 1))) H = some (.ref (H.length + 1), H ++ K2) := by
      refine (ev_bin t1 (ev_bin (ev_loc rfl) (ev_loc rfl) (fdivV (a := b) (b := size) (by omega) (by exact Nat.le_trans ‹_› (by decide)))) (mulR (getL_last _ _) rfl (oki_nat (by exact Nat.le_trans ‹_› (by decide))) (by show 1 * _ ≤ _; lia))).trans ?_
      rw [rep_one, List.length_append, List.append_assoc]
      rfl
    let K3 : List O := [.list [rowS (bl size, true)], .list (List.replicate (b / size) (rowS (bl size, true))), .list [rowS (bl (b % size) ++ w, false)]]
    have t3 : ev g L2 (.lst [(.tup [(.bin .add (.bin .mul (.lit (.str [32])) (.bin .mod (.loc 3) (.loc 1))) (.loc 2)), (.lit (.bool false))])]) (H ++ K2) = some (.ref (H.length + 2), H ++ K3) := by
      refine (ev_lst' (evs_cons (ev_tup' (evs_cons (ev_bin (ev_bin rfl (ev_bin (ev_loc rfl) (ev_loc rfl) (modV (a := b) (b := size) hds)) (mul_blV (by exact Nat.le_trans ‹_› (by decide)))) (ev_loc (v := .p (.str w)) rfl) (add_strV (b := w) (by rw [List.length_replicate]; lia))) (evs_cons rfl (evs_nil _ _ _))) rfl rfl) (evs_nil _ _ _)) rfl rfl).trans ?_
      rw [List.length_append, List.append_assoc]
      rfl
    have t4 : ev g L2 (.bin .add (.bin .mul (.lst [(.tup [(.bin .mul (.lit (.str [32])) (.loc 1)), (.lit (.bool true))])]) (.bin .fdiv (.loc 3) (.loc 1))) (.lst [(.tup [(.bin .add (.bin .mul (.lit (.str [32])) (.bin .mod (.loc 3) (.loc 1))) (.loc 2)), (.lit (.bool false))])])) H =
        some (.ref (H.length + 3), H ++ (K3 ++ [.list ((rowsS size part).map rowS)])) := by
      refine (ev_bin t2 t3 (addR (x := List.replicate (b / size) (rowS (bl size, true))) (y := [rowS (bl (b % size) ++ w, false)]) (by rw [getL_sh]; rfl) (by rw [getL_sh]; rfl) (by rw [List.length_replicate, List.length_singleton]; lia))).trans ?_
      rw [hr, List.map_append, List.map_replicate, List.length_append, List.append_assoc]
      rfl
    refine runF_ret (v := .ref (H.length + 3)) rfl (loc' := L2) (H' := H ++ (K3 ++ [.list ((rowsS size part).map rowS)])) ?_ (tidy_sh.trans rfl)
    exact exs_s s0 (exs_s s1 (exs_stop (ex_ifT (by rw [cond, show (decide (w = []) || decide (w = [105, 102])) = true by simpa using hc]) (exs_stop (ex_ret t4) (ne_next rfl))) (ne_next rfl)))
  · have hr : rowsS size part = chunkS size w.length w := if_neg hc
    obtain ⟨w', acc', i1, i2, i3⟩ := rows_while (g := g) (part := part) (size := size) (b := b) (H := H) h3 hz w.length w fuel [] (Nat.le_refl _) (by have : fuel = 100000 := rfl; lia) (by lia) (by simp; lia)
    rw [List.nil_append] at i2
    rw [List.length_nil, Nat.zero_add] at i3
    let L5 := LR part size (some w') (some b) (some H.length)
    let K5 : List O := [.list (acc'.map rowS)]
    have t4 : ev g L5 (.bin .add (.loc 4) (.lst [(.tup [(.loc 2), (.lit (.bool false))])])) (H ++ K5) = some (.ref (H.length + 2), H ++ (K5 ++ [.list [rowS (w', false)], .list ((rowsS size part).map rowS)])) := by
      refine (ev_bin (x := .ref H.length) (ev_loc rfl) (ev_lst' (evs_cons (ev_tup' (evs_cons (ev_loc (v := .p (.str w')) rfl) (evs_cons rfl (evs_nil _ _ _))) rfl rfl) (evs_nil _ _ _)) rfl rfl) (addR (x := acc'.map rowS) (y := [rowS (w', false)]) (getL_app (getL_last _ _) _) (getL_last _ _) (by rw [List.length_map, List.length_singleton]; lia))).trans ?_
      rw [hr, ← i2, List.map_append, List.length_append, List.length_append, List.append_assoc, List.append_assoc]
      rfl
    have hlb : ∀ (w : List Nat) (x : List P) (n : Nat), gc n (LR part size (some w) (some b) (some H.length)) (H ++ [.list x]) = H ++ [.list x] := fun w x n => gc_top (by rw [lb_LR, List.length_append]; exact Nat.le_refl _)
    refine runF_ret (v := .ref (H.length + 2)) rfl (loc' := L5) (H' := H ++ (K5 ++ [.list [rowS (w', false)], .list ((rowsS size part).map rowS)])) ?_ (tidy_sh.trans rfl)
    refine exs_s s0 (exs_s s1 (exs_s (ex_ifF (by rw [cond, show (decide (w = []) || decide (w = [105, 102])) = false by simpa using hc]) rfl) ?_))
    exact exs_step (loc' := LR part size (some w) (some b) (some H.length)) (H' := H ++ [O.list ([] : List P)]) rfl (hlb _ _ _) (exs_step (loc' := L5) (H' := H ++ K5) (ex_whl i1) (hlb _ _ _) (exs_stop (ex_ret t4) (ne_next rfl)))
end Mine
end
section
open PySem PySem.W PyProof.Rows PyProof.V
set_option Elab.async false
set_option maxRecDepth 20000
set_option linter.unusedSimpArgs false
namespace Mine
theorem gc_tmp {L : List (Option V)} {H K : List O} (h : lb L ≤ H.length) : gc H.length L (H ++ K) = H := by rw [gc_eq (k := H.length) (Nat.max_eq_left h), take_sh0]
theorem join_nil (ls : List (List Nat)) : joinL [] ls = ls.flatten := by
  induction ls with
  | nil => rfl
  | cons a r ih =>
    cases r with
    | nil => show a = _; simp
    | cons b r => rw [join_cons (by simp), ih, List.append_nil]; rfl
theorem cut_last {α : Type} (l : List α) : cut l (some (-1)) none = l.drop (l.length - 1) := by
  unfold cut clip
  simp only [Option.map_none, Option.getD_none, Option.map_some, Option.getD_some]
  rw [if_pos (by decide), show ((-1 : Int) + (l.length : Int)).toNat = l.length - 1 by lia, List.take_of_length_le (by rw [List.length_drop]; exact Nat.le_refl _)]
theorem last_iff (l : List Nat) (c : Nat) : l.drop (l.length - 1) = [c] ↔ l.getLast? = some c := by
  rcases List.eq_nil_or_concat l with rfl | ⟨i, a, rfl⟩
  · simp
  · rw [List.concat_eq_append, List.length_append, List.length_singleton, Nat.add_sub_cancel, List.drop_left, List.getLast?_append]
    simp
noncomputable def hexQ (c : Nat) : List Nat := [61, hexD (c / 16), hexD (c % 16)]
noncomputable def bodyS (text : List Nat) (soft : Bool) : List Nat := if wordOf text = [] ∨ wordOf text = [105, 102] then (if text.getLast? = some 32 ∧ soft = false then text.dropLast ++ [61, 50, 48] else text) else text.flatMap hexQ
noncomputable def writtenS (text : List Nat) (soft : Bool) : List Nat := if soft then bodyS text soft ++ [61] else bodyS text soft
noncomputable def LW (text : List Nat) (soft : Bool) (o2 : Option (List Nat)) : List (Option V) := [some (.p (.str text)), some (.p (.bool soft)), o2.map (fun l => V.p (.str l))]
theorem lb_LW {text : List Nat} {soft : Bool} {o2 : Option (List Nat)} : lb (LW text soft o2) = 0 := by cases o2 <;> rfl
theorem hexQ_len (text : List Nat) : (text.flatMap hexQ).length = 3 * text.length := by
  induction text with
  | nil => rfl
  | cons a r ih => rw [List.flatMap_cons, List.length_append, ih, List.length_cons]; simp only [hexQ, List.length_cons, List.length_nil]; lia
theorem bodyS_len {text : List Nat} {soft : Bool} : (bodyS text soft).length ≤ 3 * text.length + 3 := by
  unfold bodyS
  split
  · split
    · rw [List.length_append, List.length_dropLast]; simp only [List.length_cons, List.length_nil]; omega
    · lia
  · rw [hexQ_len]
    exact Nat.le_add_right _ _
noncomputable def hexP (p : P) : P := ((p.str?.bind one).map fun c => P.str (hexQ c)).getD p
theorem nin_W {w : List Nat} {H : List O} {r : Nat} (hr : getL H r = some [.str [], .str [105, 102]]) (hw : ∀ c ∈ w, c < 0x110000) : cmpV .nin (.p (.str w)) (.ref r) H = some (!(decide (w = []) || decide (w = [105, 102]))) := by
  refine bindS (o := getL H r) hr ((if_pos ?_).trans (congrArg (fun b => some (!b)) ?_))
  · rw [okAt_str, List.all_eq_true.mpr fun c hc => decide_eq_true (hw c hc)]
    rfl
  · rw [Bool.eq_iff_iff, List.any_cons, List.any_cons, List.any_nil, Bool.or_false, Bool.or_eq_true, Bool.or_eq_true, beq_iff, beq_iff, decide_eq_true_eq, decide_eq_true_eq, P.str.injEq, P.str.injEq]
theorem run_written2 {g : G} {text : List Nat} {soft : Bool} {H : List O} (hl : text.length ≤ 500) (hc : ∀ c ∈ text, c < 256) : runF g qF_lw_written [.p (.str text), .p (.bool soft)] H = some (.p (.str (writtenS text soft)), H) := by
  let w := wordOf text
  have hw : ∀ c ∈ w, c < 0x110000 := fun c h => by
    have h : c ∈ wordOf text := h
    rw [wordOf_eq] at h
    exact Nat.lt_trans (hc c (List.mem_filter.mp h).1) (by decide)
  have hl2 : text.length ≤ 1000 := Nat.le_trans hl (by decide)
  have okt : ok text.length = true := ok_of (Nat.le_trans hl (by decide))
  have hbl := bodyS_len (text := text) (soft := soft)
  let L := LW text soft (some text)
  let K : List O := [.list [.str [], .str [105, 102]]]
  have cond : evT g L (.cmp .nin (.sm .replace (.loc 0) [(.lit (.str [32])), (.lit (.str []))]) (.lst [(.lit (.str [])), (.lit (.str [105, 102]))])) (ev g L (.cmp .nin (.sm .replace (.loc 0) [(.lit (.str [32])), (.lit (.str []))]) (.lst [(.lit (.str [])), (.lit (.str [105, 102]))])) H) H = some (!(decide (w = []) || decide (w = [105, 102])), H ++ K) :=
    evT_cmp (ev_replace rfl hl2) (ev_lst' (evs_cons rfl (evs_cons rfl (evs_nil _ _ _))) rfl rfl) (nin_W (getL_last _ _) hw)
  have s0 : ex g (.asg (.one 2) (.loc 0)) (LW text soft none) H = some (.next, L, H) := ex_asg (ev_loc rfl) rfl
  have s1 : ex g (.ifs (.cmp .nin (.sm .replace (.loc 0) [(.lit (.str [32])), (.lit (.str []))]) (.lst [(.lit (.str [])), (.lit (.str [105, 102]))])) [.asg (.one 2) (.sm .join (.lit (.str [])) [(.comp [none] (.bin .mod (.lit (.str [61, 37, 48, 50, 88])) (.bi .ord [(.loc 0)])) (.one 0) (.loc 0) [])])] [.ifs (.and [(.cmp .eq (.sl (.loc 0) (some (.neg (.lit (.int (1))))) none) (.lit (.str [32]))), (.not (.loc 1))]) [.asg (.one 2) (.bin .add (.sl (.loc 0) none (some (.neg (.lit (.int (1)))))) (.lit (.str [61, 50, 48])))] []]) L H = some (.next, LW text soft (some (bodyS text soft)), H ++ K) := by
    by_cases hw2 : w = [] ∨ w = [105, 102]
    · refine ex_ifF (by rw [cond, show (decide (w = []) || decide (w = [105, 102])) = true by simpa using hw2]; rfl) ?_
      have c2 : evT g L (.and [(.cmp .eq (.sl (.loc 0) (some (.neg (.lit (.int (1))))) none) (.lit (.str [32]))), (.not (.loc 1))]) (ev g L (.and [(.cmp .eq (.sl (.loc 0) (some (.neg (.lit (.int (1))))) none) (.lit (.str [32]))), (.not (.loc 1))]) (H ++ K)) (H ++ K) = some (decide (text.getLast? = some 32) && !soft, H ++ K) := by
        have a1 : evT g L (.cmp .eq (.sl (.loc 0) (some (.neg (.lit (.int (1))))) none) (.lit (.str [32]))) (ev g L (.cmp .eq (.sl (.loc 0) (some (.neg (.lit (.int (1))))) none) (.lit (.str [32]))) (H ++ K)) (H ++ K) = some (decide (text.getLast? = some 32), H ++ K) := by
          refine evT_cmp (ev_sl (ev_loc rfl) (evo_some ev_m1) (evo_none _ _ _) (slV_str (bnds_int oki_m1) rfl okt)) rfl (eqS.trans (congrArg some ?_))
          rw [cut_last, Bool.eq_iff_iff, decide_eq_true_eq, decide_eq_true_eq, last_iff]
        refine evT_and ?_
        cases hd : decide (text.getLast? = some 32) with
        | false => rw [hd] at a1; exact evC_f a1
        | true => rw [hd] at a1; exact evC_t a1 (evC_cons (t := !soft) rfl (by cases soft <;> rfl))
      by_cases h3 : text.getLast? = some 32 ∧ soft = false
      · have e : bodyS text soft = text.dropLast ++ [61, 50, 48] := (if_pos hw2).trans (if_pos h3)
        rw [e]
        refine exs_one (ex_ifT (by rw [c2, decide_eq_true h3.1, h3.2]; rfl) (exs_one (ex_asg (ev_bin (ev_sl (ev_loc rfl) (evo_none _ _ _) (evo_some ev_m1) (slV_str rfl (bnds_int oki_m1) okt)) rfl (add_strV ?_)) ?_) (gc_same _ _))) (gc_same _ _)
        · rw [cut_m1, List.length_dropLast]; simp only [List.length_cons, List.length_nil]; omega
        · rw [cut_m1]; rfl
      · have e : bodyS text soft = text := (if_pos hw2).trans (if_neg h3)
        rw [e]
        refine exs_one (ex_ifF (by rw [c2, show (decide (text.getLast? = some 32) && !soft) = false by cases soft <;> simpa using h3]) rfl) (gc_same _ _)
    · have e : bodyS text soft = text.flatMap hexQ := if_neg hw2
      rw [e] at hbl ⊢
      refine ex_ifT (by rw [cond, show (decide (w = []) || decide (w = [105, 102])) = false by simpa using hw2]; rfl) ?_
      have hcomp := ev_comp0 (g := g) (L := L) (fr := [none]) (t := .one 0) (elt := .bin .mod (.lit (.str [61, 37, 48, 50, 88])) (.bi .ord [(.loc 0)])) (it := .loc 0) (H := H ++ K) (H₁ := H ++ K) (w := none) (items := text.map fun c => .str [c]) hexP (fun l => l.length = 1) rfl (ev_loc rfl) rfl rfl rfl (by rw [List.length_map]; exact Nat.le_trans ‹_› (by decide)) fun x hx loc K hl => by
        obtain ⟨o, rfl⟩ := List.length_eq_one_iff.mp hl
        obtain ⟨c, hcm, rfl⟩ := List.mem_map.mp hx
        refine ⟨[some (.p (.str [c]))], rfl, rfl, ev_bin rfl (ev_bi (evs_cons (ev_loc rfl) (evs_nil _ _ _)) rfl) (binP_v (if_pos ?_))⟩
        have := hc c hcm
        rw [show decide ((0 : Int) ≤ (c : Int) ∧ (c : Int) < 256) = true from decide_eq_true ⟨by lia, by lia⟩]
        rfl
      have hm : (text.map fun c => P.str [c]).map hexP = (text.map hexQ).map P.str := by rw [List.map_map, List.map_map]; rfl
      rw [hm] at hcomp
      refine exs_step (ex_asg (ev_sm rfl rfl (evs_cons hcomp (evs_nil _ _ _)) (smv_join (getL_last _ _) ?_)) rfl) (gc_tmp (L := LW text soft (some (joinL [] (text.map hexQ)))) (by rw [lb_LW]; exact Nat.zero_le _)) ?_
      · rw [← List.length_flatten, ← List.flatMap_def, List.length_nil, Nat.mul_zero, hexQ_len]; lia
      · rw [join_nil, ← List.flatMap_def]; rfl
  refine runF_ret (v := .p (.str (writtenS text soft))) rfl (loc' := LW text soft (some (writtenS text soft))) (H' := H) ?_ tidy_p
  refine exs_s s0 (exs_step s1 (gc_tmp (by rw [lb_LW]; exact Nat.zero_le _)) ?_)
  cases soft with
  | true => exact exs_s (ex_ifT rfl (exs_1 (ex_asg (ev_bin (ev_loc rfl) rfl (add_strV (by simp only [List.length_cons, List.length_nil]; lia))) rfl))) (exs_stop (ex_ret (ev_loc rfl)) (ne_next rfl))
  | false => exact exs_s (ex_ifF rfl rfl) (exs_stop (ex_ret (ev_loc rfl)) (ne_next rfl))
end Mine
end
section
open PySem PySem.W PyProof.Rows PyProof.V
set_option Elab.async false
set_option maxRecDepth 20000
set_option linter.unusedSimpArgs false
namespace Mine
noncomputable def x0 : T := .asg (.one 3) (.idx (.sm .split (.loc 0) [(.lit (.str [105, 102]))]) (.lit (.int (0))))
noncomputable def x1 : T := .asg (.one 4) (.idx (.sm .split (.loc 1) [(.lit (.str [105, 102]))]) (.lit (.int (0))))
noncomputable def x2 : T := .asg (.one 5) (.lst [])
noncomputable def bodyX : List T := [.ex (.sm .append (.loc 5) [(.tup [(.loc 6), (.cal 7 [(.loc 3), (.loc 6)]), (.cal 7 [(.loc 4), (.loc 6)])])])]
noncomputable def splX : E := .bin .add (.sm .split (.loc 3) [(.lit (.str [9]))]) (.sm .split (.loc 4) [(.lit (.str [9]))])
noncomputable def maxX : E := .bi .max [(.comp [none] (.bi .len [(.loc 0)]) (.one 0) splX [])]
noncomputable def x3 : T := .fore (.one 6) (.bi .range [(.lit (.int (1))), (.bin .add maxX (.lit (.int (2))))]) bodyX
noncomputable def x4 : T := .asg (.one 7) (.new [(.loc 0)])
noncomputable def x5 : T := .asg (.one 8) (.new [(.loc 1)])
noncomputable def x6 : T := .asg (.one 9) (.mth 16 (Str.ofString "not_less_witness") (.loc 7) [(.loc 8)])
noncomputable def retF : List T := [.ret (.lit (.bool false))]
noncomputable def leX : E := .comp [none, some 2] (.loc 0) (.one 0) (.loc 5) [(.or [(.cmp .le (.idx (.loc 0) (.lit (.int (0)))) (.cel 1)), (.cmp .eq (.idx (.loc 0) (.lit (.int (1)))) (.idx (.loc 0) (.lit (.int (2)))))])]
noncomputable def x7 : T := .ifs (.cmp .ne (.loc 9) leX) retF []
noncomputable def x8 : T := .ifs (.cmp .ne (.comp2 [none, none] (.loc 1) (.one 0) (.loc 9) (.one 1) (.loc 0) [(.not (.bi .isint [(.loc 1)]))]) (.lst [])) retF []
noncomputable def geX : E := .comp [none, none, none, some 2] (.tup [(.loc 0), (.loc 2), (.loc 1)]) (.tup [0, 1, 2]) (.loc 5) [(.or [(.cmp .ge (.loc 0) (.cel 3)), (.cmp .eq (.loc 1) (.loc 2))])]
noncomputable def x9 : T := .ifs (.cmp .ne (.mth 16 (Str.ofString "not_less_witness") (.loc 8) [(.loc 7)]) geX) retF []
noncomputable def x10 : T := .asg (.one 10) (.bin .mul (.lit (.str [32])) (.bin .sub (.bi .len [(.loc 3)]) (.bi .len [(.loc 4)])))
noncomputable def w11 : E := .sm .replace (.loc 1) [(.lit (.str [105, 102])), (.bin .add (.loc 10) (.lit (.str [105, 102])))]
noncomputable def w12 : E := .sm .replace (.loc 1) [(.lit (.str [105, 102])), (.bin .add (.loc 10) (.lit (.str [32, 105, 102])))]
noncomputable def w13 : E := .bin .add (.lit (.str [32])) (.loc 0)
noncomputable def w14 : E := .sm .replace (.loc 0) [(.lit (.str [105, 102])), (.lit (.str [32, 105, 102]))]
noncomputable def x11 : T := .ifs (.cmp .isn (.mth 15 (Str.ofString "less") (.loc 7) [(.new [w11])]) (.lit (.bool false))) retF []
noncomputable def x12 : T := .ifs (.cmp .isn (.mth 15 (Str.ofString "less") (.loc 7) [(.new [w12])]) (.lit (.bool true))) retF []
noncomputable def x13 : T := .ifs (.cmp .isn (.mth 15 (Str.ofString "less") (.loc 7) [(.new [w13])]) (.lit (.bool false))) retF []
noncomputable def x14 : T := .ret (.cmp .is (.mth 15 (Str.ofString "less") (.loc 8) [(.new [w14])]) (.cmp .eq (.loc 3) (.loc 4)))
theorem crossed_eq : qb_lw_crossed = [x0, x1, x2, x3, x4, x5, x6, x7, x8, x9, x10, x11, x12, x13, x14] := rfl
noncomputable def tri (p : P) : Option Tr := p.tup?.bind fun l => l.head?.bind fun a => a.int?.bind fun x => (l.tail?.bind two).bind fun q => q.1.int?.bind fun y => q.2.int?.map fun z => (x, y, z)
theorem tri_tp (r : Tr) : tri (tp r) = some r := rfl
noncomputable def keepT (c : Tr → Bool) (f : Tr → Tr) (p : P) : Option P := (tri p).bind fun r => if c r then some (tp (f r)) else none
theorem keep_T (c : Tr → Bool) (f : Tr → Tr) (u : Tr) : keepT c f (tp u) = if c u then some (tp (f u)) else none := rfl
theorem keepT_map (c : Tr → Bool) (f : Tr → Tr) (tab : List Tr) : (tab.map tp).filterMap (keepT c f) = ((tab.filter c).map f).map tp := by
  induction tab with
  | nil => rfl
  | cons a r ih =>
    rw [List.map_cons, List.filterMap_cons, List.filter_cons, keep_T]
    cases c a with
    | true => exact congrArg (tp (f a) :: ·) ih
    | false => exact ih
noncomputable def leC (size : Nat) (r : Tr) : Bool := decide (r.1 ≤ (size : Int)) || r.2.1 == r.2.2
noncomputable def geC (size : Nat) (r : Tr) : Bool := decide ((size : Int) ≤ r.1) || r.2.1 == r.2.2
section
variable {g : G} {L : List (Option V)} {H : List O} {r c : Nat} {tab : List Tr} {size : Nat}
theorem frX (hc : L[2]? = some (some (.ref c))) : frOk [none, some 2] L = true ∧ frOf [none, some 2] L = [none, some (.ref c)] ∧ frOk [none, none, none, some 2] L = true ∧ frOf [none, none, none, some 2] L = [none, none, none, some (.ref c)] := by
  refine ⟨?_, ?_, ?_, ?_⟩ <;> simp [frOk, frOf, hc]
theorem cel_X {l : List (Option V)} {i : Nat} {K : List O} (hl : l[i]? = some (some (.ref c))) (hC : H[c]? = some (.cell (some (.int (size : Int))))) : ev g l (.cel i) (H ++ K) = some (.p (pN size), H ++ K) := by
  refine bindS (o := (l[i]?).join) (congrArg Option.join hl) (bindS (o := V.rf (.ref c)) rfl (bindS (o := getC (H ++ K) c) (a := pN size) ?_ rfl))
  show ((H ++ K)[c]?).bind O.cel = _
  rw [List.getElem?_append_left (List.getElem?_eq_some_iff.mp hC).1, hC]
  rfl
theorem ev_leX (h5 : L[5]? = some (some (.ref r))) (h2 : L[2]? = some (some (.ref c))) (hC : H[c]? = some (.cell (some (.int (size : Int))))) (hr : getL H r = some (tab.map tp)) (hn : tab.length ≤ 100000) :
    ev g L leX H = some (.ref H.length, H ++ [.list ((tab.filter (leC size)).map tp)]) := by
  obtain ⟨f1, f2, _, _⟩ := frX (L := L) h2
  have h := ev_comp (g := g) (L := L) (fr := [none, some 2]) (elt := .loc 0) (it := .loc 5) (t := .one 0) (H := H) (H₁ := H) (v := .ref r) (items := tab.map tp) (w := some r) (cs := [(.or [(.cmp .le (.idx (.loc 0) (.lit (.int (0)))) (.cel 1)), (.cmp .eq (.idx (.loc 0) (.lit (.int (1)))) (.idx (.loc 0) (.lit (.int (2)))))])])
    (keepT (leC size) id) (fun l => ∃ o, l = [o, some (.ref c)]) f1 (ev_loc h5) (items_rf hr) (stays_of hr) ⟨none, f2⟩ (by rw [List.length_map]; exact Nat.le_trans hn (by decide)) fun x hx loc acc hl ha => by
      obtain ⟨o, rfl⟩ := hl
      obtain ⟨u, _, rfl⟩ := List.mem_map.mp hx
      refine ⟨[some (.p (tp u)), some (.ref c)], ⟨_, rfl⟩, rfl, ?_⟩
      have c1 : evT g [some (.p (tp u)), some (.ref c)] (.or [(.cmp .le (.idx (.loc 0) (.lit (.int (0)))) (.cel 1)), (.cmp .eq (.idx (.loc 0) (.lit (.int (1)))) (.idx (.loc 0) (.lit (.int (2)))))]) (ev g [some (.p (tp u)), some (.ref c)] (.or [(.cmp .le (.idx (.loc 0) (.lit (.int (0)))) (.cel 1)), (.cmp .eq (.idx (.loc 0) (.lit (.int (1)))) (.idx (.loc 0) (.lit (.int (2)))))]) (H ++ [.list acc])) (H ++ [.list acc]) = some (leC size u, H ++ [.list acc]) :=
        evD_2 (evT_cmp (x := .p (.int u.1)) rfl (cel_X rfl hC) rfl) (evT_cmp (x := .p (.int u.2.1)) (y := .p (.int u.2.2)) rfl rfl rfl)
      rw [evC_cons c1 (z := (leC size u, H ++ [.list acc])) (by cases leC size u <;> rfl), keep_T]
      cases leC size u with
      | true => exact bindS (o := ev g [some (.p (tp u)), some (.ref c)] (.loc 0) (H ++ [.list acc])) (f := fun v => addTo H.length v.1 v.2) (a := (.p (tp u), H ++ [.list acc])) (ev_loc rfl) (addTo_last ha)
      | false => exact congrArg (fun a => some (H ++ [O.list a])) (List.append_nil acc).symm
  exact h.trans (by rw [keepT_map, List.map_id])
theorem ev_geX (h5 : L[5]? = some (some (.ref r))) (h2 : L[2]? = some (some (.ref c))) (hC : H[c]? = some (.cell (some (.int (size : Int))))) (hr : getL H r = some (tab.map tp)) (hn : tab.length ≤ 100000) :
    ev g L geX H = some (.ref H.length, H ++ [.list (((tab.filter (geC size)).map fun r => (r.1, r.2.2, r.2.1)).map tp)]) := by
  obtain ⟨_, _, f1, f2⟩ := frX (L := L) h2
  have h := ev_comp (g := g) (L := L) (fr := [none, none, none, some 2]) (elt := .tup [(.loc 0), (.loc 2), (.loc 1)]) (it := .loc 5) (t := .tup [0, 1, 2]) (H := H) (H₁ := H) (v := .ref r) (items := tab.map tp) (w := some r) (cs := [(.or [(.cmp .ge (.loc 0) (.cel 3)), (.cmp .eq (.loc 1) (.loc 2))])])
    (keepT (geC size) fun r => (r.1, r.2.2, r.2.1)) (fun l => ∃ a b d, l = [a, b, d, some (.ref c)]) f1 (ev_loc h5) (items_rf hr) (stays_of hr) ⟨none, none, none, f2⟩ (by rw [List.length_map]; exact Nat.le_trans hn (by decide)) fun x hx loc acc hl ha => by
      obtain ⟨a, b, d, rfl⟩ := hl
      obtain ⟨u, _, rfl⟩ := List.mem_map.mp hx
      let l : List (Option V) := [some (.p (.int u.1)), some (.p (.int u.2.1)), some (.p (.int u.2.2)), some (.ref c)]
      refine ⟨l, ⟨_, _, _, rfl⟩, rfl, ?_⟩
      have c1 : evT g l (.or [(.cmp .ge (.loc 0) (.cel 3)), (.cmp .eq (.loc 1) (.loc 2))]) (ev g l (.or [(.cmp .ge (.loc 0) (.cel 3)), (.cmp .eq (.loc 1) (.loc 2))]) (H ++ [.list acc])) (H ++ [.list acc]) = some (geC size u, H ++ [.list acc]) :=
        evD_2 (evT_cmp (ev_loc rfl) (cel_X rfl hC) rfl) (evT_cmp (ev_loc rfl) (ev_loc rfl) rfl)
      rw [evC_cons c1 (z := (geC size u, H ++ [.list acc])) (by cases geC size u <;> rfl), keep_T]
      cases geC size u with
      | true => exact bindS (o := ev g l (.tup [(.loc 0), (.loc 2), (.loc 1)]) (H ++ [.list acc])) (f := fun v => addTo H.length v.1 v.2) (a := (.p (tp (u.1, u.2.2, u.2.1)), H ++ [.list acc])) (ev_tup' (evs_cons (ev_loc rfl) (evs_cons (ev_loc rfl) (evs_cons (ev_loc rfl) (evs_nil _ _ _)))) rfl rfl) (addTo_last ha)
      | false => exact congrArg (fun a => some (H ++ [O.list a])) (List.append_nil acc).symm
  exact h.trans (by rw [keepT_map])
end
end Mine
end
section
open PySem PySem.W PyProof.Rows PyProof.V
set_option Elab.async false
set_option maxRecDepth 20000
set_option linter.unusedSimpArgs false
namespace Mine
noncomputable def LX (r : Nat) (line read : List Nat) (o3 o4 : Option (List Nat)) (o5 : Option Nat) (o6 : Option P) (o7 o8 o9 : Option Nat) (o10 : Option (List Nat)) : List (Option V) :=
  [some (.p (.str line)), some (.p (.str read)), some (.ref r), o3.map (fun l => V.p (.str l)), o4.map (fun l => V.p (.str l)), o5.map V.ref, o6.map V.p, o7.map V.obj, o8.map V.obj, o9.map V.ref, o10.map (fun l => V.p (.str l))]
theorem lb_LX {r : Nat} {line read : List Nat} {o3 o4 : Option (List Nat)} {o5 : Option Nat} {o6 : Option P} {o7 o8 o9 : Option Nat} {o10 : Option (List Nat)} : lb (LX r line read o3 o4 o5 o6 o7 o8 o9 o10) = max (r + 1) (max (upO o5) (max (upO o7) (max (upO o8) (max (upO o9) 0)))) := by
  unfold LX
  simp only [lb_pm, lb_q, lb_rm, lb_om, lb_sm, lb_rf]
  rfl
theorem gcP {B T K : List O} {n : Nat} {L : List (Option V)} (hn : max n (lb L) = B.length + T.length) : gc n L (B ++ (T ++ K)) = B ++ T := by rw [gc_eq hn, take_sh, List.take_left]
theorem At1.sh {B T : List O} {k : Nat} {w : Ws} (h : T[k]? = some (.inst w.fs)) : At1 (B ++ T) (B.length + k) w := by
  show (B ++ T)[B.length + k]? = _
  rw [List.getElem?_append_right (Nat.le_add_right _ _), Nat.add_sub_cancel_left]
  exact h
theorem smv_splitY {tabs : Nat → List P} {l y : List Nat} {H : List O} (hy : y.isEmpty = false) (hl : l.length ≤ 1000000) : smV tabs .split (.p (.str l)) [.p (.str y)] H = some (.ref H.length, H ++ [.list ((splitG y 0 l).map P.str)]) :=
  if_pos (by rw [ok_of hl, hy]; rfl)
noncomputable def trX (old new : List Nat) (d : Nat) : Tr := ((d : Int), col (d : Int) old, col (d : Int) new)
noncomputable def tab2 (old new : List Nat) : List Tr := (List.range (topM old new)).map fun k => trX old new (1 + k)
noncomputable def lenP1 (p : P) : P := (p.str?.map fun l => pN l.length).getD p
theorem gc_all {n : Nat} {L : List (Option V)} {H : List O} (h : H.length ≤ n) : gc n L H = H := List.take_of_length_le (Nat.le_trans h (Nat.le_max_left _ _))
theorem loopX {k r : Nat} {line read old new : List Nat} {B K : List O} {all : List P} : ∀ (ds : List Nat) (acc : List Tr) (o6 : Option P), (∀ d ∈ ds, 1 ≤ d) → acc.length + ds.length ≤ 5000 →
    ∃ o6', forL all none (.one 6) (fun loc H => exs (pg2.lvl (k + 1)) bodyX loc H) (ds.map pN) (LX r line read (some old) (some new) (some B.length) o6 none none none none) (B ++ (.list (acc.map tp) :: K)) =
      some (.next, LX r line read (some old) (some new) (some B.length) o6' none none none none, B ++ (.list ((acc ++ ds.map (trX old new)).map tp) :: K)) := by
  intro ds
  induction ds with
  | nil => exact fun acc o6 _ _ => ⟨o6, by rw [List.map_nil, List.map_nil, List.append_nil]; exact forL_nil rfl⟩
  | cons d ds ih =>
    intro acc o6 hd hl
    have d1 := hd d (.head _)
    rw [List.length_cons] at hl
    obtain ⟨b6, ih⟩ := ih (acc ++ [trX old new d]) (some (pN d)) (fun x hx => hd x (.tail _ hx)) (by rw [List.length_append, List.length_singleton]; lia)
    refine ⟨b6, ?_⟩
    rw [List.append_assoc] at ih
    let L := LX r line read (some old) (some new) (some B.length) (some (pN d)) none none none none
    let Ha : List O := B ++ (.list (acc.map tp) :: K)
    have et : ev (pg2.lvl (k + 1)) L (.tup [(.loc 6), (.cal 7 [(.loc 3), (.loc 6)]), (.cal 7 [(.loc 4), (.loc 6)])]) Ha = some (.p (tp (trX old new d)), Ha) :=
      ev_tup' (evs_cons (ev_loc rfl) (evs_cons (ev_cal (evs_cons (ev_loc rfl) (evs_cons (ev_loc rfl) (evs_nil _ _ _))) (lvl_call (f := 7) rfl (run_column (by lia)))) (evs_cons (ev_cal (evs_cons (ev_loc rfl) (evs_cons (ev_loc rfl) (evs_nil _ _ _))) (lvl_call (f := 7) rfl (run_column (by lia)))) (evs_nil _ _ _)))) rfl rfl
    have hg : getL Ha B.length = some (acc.map tp) := getL_sh0 _ _
    refine forL_go (q := (L, Ha)) (l₂ := L) (H₂ := B ++ (.list ((acc ++ [trX old new d]).map tp) :: K)) rfl rfl ?_ (.inl rfl) ih
    refine exs_step (ex_ex (ev_append rfl hg et hg (ok_of (by rw [List.length_map]; lia)))) (H'' := B ++ (.list ((acc ++ [trX old new d]).map tp) :: K)) ?_ rfl
    rw [set_sh0, List.map_append]
    exact gc_all (by rw [List.length_append, List.length_append]; exact Nat.le_refl _)
theorem ev_maxX {g : G} {old new : List Nat} {L : List (Option V)} {H : List O} (h3 : L[3]? = some (some (.p (.str old)))) (h4 : L[4]? = some (some (.p (.str new)))) (l1 : old.length ≤ 200) (l2 : new.length ≤ 200) (h0 : ∃ a r, splitG [9] 0 old = a :: r) (hn : (splitG [9] 0 old ++ splitG [9] 0 new).length ≤ 1000) (hlen : ∀ l ∈ splitG [9] 0 old ++ splitG [9] 0 new, l.length ≤ 1000) :
    ∃ K, ev g L maxX H = some (.p (pN (maxN (lens1 old new))), H ++ K) := by
  let sp := splitG [9] 0 old ++ splitG [9] 0 new
  have e1 : ev g L splX H = some (.ref (H.length + 2), H ++ [.list ((splitG [9] 0 old).map P.str), .list ((splitG [9] 0 new).map P.str), .list (sp.map P.str)]) := by
    refine (ev_bin (ev_sm (ev_loc h3) rfl (evs_cons rfl (evs_nil _ _ _)) (smv_splitY rfl (Nat.le_trans l1 (by decide)))) (ev_sm (ev_loc h4) rfl (evs_cons rfl (evs_nil _ _ _)) (smv_splitY rfl (Nat.le_trans l2 (by decide)))) (addR (getL_app (getL_last _ _) _) (getL_last _ _) ?_)).trans ?_
    · rw [List.length_map, List.length_map]; rw [List.length_append] at hn; exact Nat.le_trans ‹_› (by decide)
    · rw [← List.map_append, List.length_append, List.length_append, List.append_assoc, List.append_assoc]; rfl
  have g2 : ∀ K, getL (H ++ ([.list ((splitG [9] 0 old).map P.str), .list ((splitG [9] 0 new).map P.str), .list (sp.map P.str)] ++ K)) (H.length + 2) = some (sp.map P.str) := fun K => by rw [getL_sh]; rfl
  have e2 := ev_comp0 (g := g) (L := L) (fr := [none]) (t := .one 0) (elt := .bi .len [(.loc 0)]) (w := some (H.length + 2)) (items := sp.map P.str) lenP1 (fun l => l.length = 1) rfl e1 (items_rf (g2 [])) (stays_of (g2 [])) rfl (by rw [List.length_map]; exact Nat.le_trans hn (by decide)) fun x hx loc K hl => by
    obtain ⟨o, rfl⟩ := List.length_eq_one_iff.mp hl
    obtain ⟨l, hl, rfl⟩ := List.mem_map.mp hx
    exact ⟨[some (.p (.str l))], rfl, rfl, ev_lenS rfl (Nat.le_trans (hlen l hl) (by decide))⟩
  have hm : (sp.map P.str).map lenP1 = (lens1 old new).map pN := by
    show _ = (sp.map List.length).map pN
    rw [List.map_map, List.map_map]
    rfl
  rw [hm, List.append_assoc, List.length_append] at e2
  have hl0 : lens1 old new ≠ [] := by
    obtain ⟨a, r, e⟩ := h0
    rw [lens1, e]
    exact List.cons_ne_nil _ _
  refine ⟨_, ev_bi (evs_cons e2 (evs_nil _ _ _)) (bindS (o := V.lst (.ref _) _) (a := (lens1 old new).map pN) ?_ (bindS (pInts_nat _) ((if_neg ?_).trans (by rw [maxI_nat hl0]))))⟩
  · show getL _ _ = _
    rw [getL_sh]
    rfl
  · rw [List.isEmpty_map]
    simpa using hl0
end Mine
end
section
open PySem PySem.W PyProof.Rows PyProof.V
set_option Elab.async false
set_option maxRecDepth 20000
set_option linter.unusedSimpArgs false
namespace Mine
theorem gcS {B T K : List O} {L : List (Option V)} (hl : lb L ≤ B.length + T.length) : gc (B ++ T).length L (B ++ (T ++ K)) = B ++ T := gcP (by rw [List.length_append]; exact Nat.max_eq_left hl)
theorem gcN {B T : List O} {n : Nat} {L : List (Option V)} (hl : lb L = B.length + T.length) : gc n L (B ++ T) = B ++ T := gc_top (by rw [List.length_append, hl]; exact Nat.le_refl _)
/-- what the two lines are to each other -/
structure Plain2 (size : Nat) (line read old new rl rr : List Nat) : Prop where
  s1 : splitG [105, 102] 0 line = [old, rl]
  s2 : splitG [105, 102] 0 read = [new, rr]
  l1 : line.length ≤ 200
  l2 : read.length ≤ 200
  lo : old.length ≤ 200
  ln : new.length ≤ old.length
  lr : rl.length ≤ 200 ∧ rr.length ≤ 200
  n9 : (splitG [9] 0 old ++ splitG [9] 0 new).length ≤ 1000
  m9 : ∀ l ∈ splitG [9] 0 old ++ splitG [9] 0 new, l.length ≤ 1000
  tm : topM old new ≤ 900
  w1 : OkW (wsOf line)
  w2 : OkW (wsOf read)
  w3 : OkW (wsOf (new ++ (bl (old.length - new.length) ++ [105, 102]) ++ rr))
  w4 : OkW (wsOf (new ++ (bl (old.length - new.length) ++ [32, 105, 102]) ++ rr))
  w5 : OkW (wsOf ([32] ++ line))
  w6 : OkW (wsOf (old ++ [32, 105, 102] ++ rl))
  e1 : witT (wsOf line) (wsOf read) (fun ts => decide ((wsOf read).ind ts ≤ (wsOf line).ind ts)) = (tab2 old new).filter (leC size)
  e2 : witT (wsOf read) (wsOf line) (fun ts => decide ((wsOf line).ind ts ≤ (wsOf read).ind ts)) = ((tab2 old new).filter (geC size)).map fun r => (r.1, r.2.2, r.2.1)
  e3 : lessB (wsOf line) (wsOf (new ++ (bl (old.length - new.length) ++ [105, 102]) ++ rr)) = false
  e4 : lessB (wsOf line) (wsOf (new ++ (bl (old.length - new.length) ++ [32, 105, 102]) ++ rr)) = true
  e5 : lessB (wsOf line) (wsOf ([32] ++ line)) = false
  e6 : lessB (wsOf read) (wsOf (old ++ [32, 105, 102] ++ rl)) = decide (old = new)
theorem beqs_ne {l : List P} {r q : Nat} {H : List O} (h1 : getL H r = some l) (h2 : getL H q = some l) (hk : l.all (P.okAt 7) = true) : cmpV .ne (.ref r) (.ref q) H = some false :=
  (cmp_neV h1 h2 hk hk).trans (by rw [beqs_refl]; rfl)
section
variable {k size : Nat} {line read old new rl rr : List Nat} {H : List O}
theorem mxr {a b m : Nat} (h : a ≤ m) (k : b = m) : max a b = m := by rw [k]; exact Nat.max_eq_right h
theorem mx5 (b : Nat) : max (b + 1) (max (b + 1 + 1) (max (b + 2 + 1) (max (b + 3 + 1) 0))) = b + 4 :=
  mxr (Nat.le_add_right (b + 1) 3) (mxr (Nat.le_add_right (b + 2) 2) (mxr (Nat.le_add_right (b + 3) 1) (Nat.max_eq_left (Nat.zero_le _))))
theorem crossed_run (F : Plain2 size line read old new rl rr) :
    ∃ L' K, exs (pg2.lvl (k + 2)) qb_lw_crossed (LX H.length line read none none none none none none none none) (H ++ [.cell (some (pN size))]) = some (.ret (.p (.bool true)), L', (H ++ [.cell (some (pN size))]) ++ K) := by
  rw [crossed_eq]
  let g := pg2.lvl (k + 2)
  generalize hBd : H ++ [O.cell (some (pN size))] = B
  have hB : B.length = H.length + 1 := by rw [← hBd, List.length_append]; rfl
  have hC : ∀ T : List O, (B ++ T)[H.length]? = some (.cell (some (.int (size : Int)))) := fun T => by
    rw [← hBd, List.append_assoc, List.getElem?_append_right (Nat.le_refl _), Nat.sub_self]
    rfl
  let r := H.length
  let tab := tab2 old new
  let W1 := wsOf line
  let W2 := wsOf read
  let fnd := tab.filter (leC size)
  let T1 : List O := [.list (tab.map tp)]
  let T2 : List O := [.list (tab.map tp), .inst W1.fs]
  let T3 : List O := [.list (tab.map tp), .inst W1.fs, .inst W2.fs]
  let T4 : List O := [.list (tab.map tp), .inst W1.fs, .inst W2.fs, .list (fnd.map tp)]
  have l1 := F.l1
  have l2 := F.l2
  have lo := F.lo
  have ln := F.ln
  have lr1 := F.lr.1
  have lr2 := F.lr.2
  have tl : tab.length ≤ 100000 := by rw [show tab.length = topM old new by simp [tab, tab2]]; exact Nat.le_trans F.tm (by decide)
  have fl : fnd.length ≤ 100000 := Nat.le_trans (List.length_filter_le _ _) tl
  have lst : ∀ (T K : List O) (a b c d : Option Nat) (o6 : Option P) (o3 o4 o10 : Option (List Nat)), max (upO a) (max (upO b) (max (upO c) (max (upO d) 0))) ≤ B.length + T.length → gc (B ++ T).length (LX r line read o3 o4 a o6 b c d o10) (B ++ (T ++ K)) = B ++ T := fun T K a b c d o6 o3 o4 o10 h => gcS (by rw [lb_LX]; exact Nat.max_le.mpr ⟨by lia, h⟩)
  have s0 : ex g x0 (LX r line read none none none none none none none none) (B ++ []) = some (.next, LX r line read (some old) none none none none none none none, B ++ ([] ++ [.list [.str old, .str rl]])) := by
    have e := smv_splitY (tabs := g.tabs) (l := line) (y := [105, 102]) (H := B ++ []) rfl (by exact Nat.le_trans ‹_› (by decide))
    rw [F.s1, List.append_assoc] at e
    exact ex_asg (ev_idx (ev_sm (ev_loc rfl) rfl (evs_cons rfl (evs_nil _ _ _)) e) rfl (idxR (x := [.str old, .str rl]) (by rw [List.append_nil, List.nil_append]; exact getL_last _ _) rfl rfl)) rfl
  have s1 : ex g x1 (LX r line read (some old) none none none none none none none) (B ++ []) = some (.next, LX r line read (some old) (some new) none none none none none none, B ++ ([] ++ [.list [.str new, .str rr]])) := by
    have e := smv_splitY (tabs := g.tabs) (l := read) (y := [105, 102]) (H := B ++ []) rfl (by exact Nat.le_trans ‹_› (by decide))
    rw [F.s2, List.append_assoc] at e
    exact ex_asg (ev_idx (ev_sm (ev_loc rfl) rfl (evs_cons rfl (evs_nil _ _ _)) e) rfl (idxR (x := [.str new, .str rr]) (by rw [List.append_nil, List.nil_append]; exact getL_last _ _) rfl rfl)) rfl
  have s2 : ex g x2 (LX r line read (some old) (some new) none none none none none none) (B ++ []) = some (.next, LX r line read (some old) (some new) (some B.length) none none none none none, B ++ [.list []]) := by
    rw [List.append_nil]
    exact ex_asg (ev_lst' (evs_nil _ _ _) rfl rfl) rfl
  have s3 : ∃ o6 K, ex g x3 (LX r line read (some old) (some new) (some B.length) none none none none none) (B ++ [.list []]) = some (.next, LX r line read (some old) (some new) (some B.length) o6 none none none none, B ++ (T1 ++ K)) := by
    obtain ⟨K, hmx⟩ := ev_maxX (g := g) (old := old) (new := new) (L := LX r line read (some old) (some new) (some B.length) none none none none none) (H := B ++ [.list []]) rfl rfl lo (by lia) (splitG_ne [9] old 0) F.n9 F.m9
    obtain ⟨o6, hl⟩ := loopX (k := k + 1) (r := r) (line := line) (read := read) (old := old) (new := new) (B := B) (K := K) (all := ((List.range (topM old new)).map (1 + ·)).map pN) ((List.range (topM old new)).map (1 + ·)) [] none (fun d hd => by
      obtain ⟨j, _, rfl⟩ := List.mem_map.mp hd
      exact Nat.le_add_right _ _) (by rw [List.length_map, List.length_range]; have := F.tm; simp only [List.length_nil]; lia)
    refine ⟨o6, K, ?_⟩
    have hr : rngL 1 ((maxN (lens1 old new) + 2 : Nat) : Int) = ((List.range (topM old new)).map (1 + ·)).map pN := by
      unfold rngL
      rw [show (((maxN (lens1 old new) + 2 : Nat) : Int) - 1).toNat = topM old new by unfold topM; lia, List.map_map]
      refine List.map_congr_left fun j _ => ?_
      simp
    have o2 := oki_nat (show maxN (lens1 old new) + 2 ≤ 1000000 by have h : maxN (lens1 old new) + 1 ≤ 900 := F.tm; lia)
    refine ex_for (v := .rng 1 ((maxN (lens1 old new) + 2 : Nat) : Int)) (H₁ := B ++ (.list [] :: K)) (ps := ((List.range (topM old new)).map (1 + ·)).map pN) (w := none) ?_ ((items_rg oki_one o2).trans (by rw [hr])) (hl.trans ?_)
    · rw [List.append_assoc] at hmx
      exact ev_bi (evs_cons rfl (evs_cons (ev_bin hmx rfl (addN (b := 2))) (evs_nil _ _ _))) (biV_range2 oki_one o2)
    · rw [List.nil_append, show ((List.range (topM old new)).map (1 + ·)).map (trX old new) = tab from List.map_map]
      rfl
  obtain ⟨o6, K3, s3⟩ := s3
  let Lc := fun (o7 o8 o9 : Option Nat) (o10 : Option (List Nat)) => LX r line read (some old) (some new) (some B.length) o6 o7 o8 o9 o10
  have s4 : ex g x4 (Lc none none none none) (B ++ T1) = some (.next, Lc (some (B.length + 1)) none none none, B ++ T2) := by
    have e := ev_ws2 (k := k + 1) (L := Lc none none none none) (e := .loc 0) (H := B ++ T1) (s := line) (ev_loc rfl) (by exact Nat.le_trans ‹_› (by decide))
    rw [List.length_append, List.append_assoc] at e
    exact ex_asg e rfl
  have s5 : ex g x5 (Lc (some (B.length + 1)) none none none) (B ++ T2) = some (.next, Lc (some (B.length + 1)) (some (B.length + 2)) none none, B ++ T3) := by
    have e := ev_ws2 (k := k + 1) (L := Lc (some (B.length + 1)) none none none) (e := .loc 1) (H := B ++ T2) (s := read) (ev_loc rfl) (by exact Nat.le_trans ‹_› (by decide))
    rw [List.length_append, List.append_assoc] at e
    exact ex_asg e rfl
  have s6 : ex g x6 (Lc (some (B.length + 1)) (some (B.length + 2)) none none) (B ++ T3) = some (.next, Lc (some (B.length + 1)) (some (B.length + 2)) (some (B.length + 3)) none, B ++ T4) := by
    have e := ev_nlessV (k := k) (L := Lc (some (B.length + 1)) (some (B.length + 2)) none none) (H := B ++ T3) (i := 7) (j := 8) (r := B.length + 1) (q := B.length + 2) (w := W1) (u := W2) rfl rfl (At1.sh rfl) (At1.sh rfl) F.w1 F.w2
    rw [F.e1, List.length_append, List.append_assoc] at e
    exact ex_asg e rfl
  let L4 := Lc (some (B.length + 1)) (some (B.length + 2)) (some (B.length + 3)) none
  have gT : ∀ K, getL (B ++ (T4 ++ K)) B.length = some (tab.map tp) := fun K => getL_sh0 _ _
  have gF : ∀ K, getL (B ++ (T4 ++ K)) (B.length + 3) = some (fnd.map tp) := fun K => getL_sh _ _ 3
  have s7 : ∃ K, ex g x7 L4 (B ++ T4) = some (.next, L4, B ++ (T4 ++ K)) := by
    have e := ev_leX (g := g) (L := L4) (H := B ++ T4) (r := B.length) (c := r) (tab := tab) (size := size) rfl rfl (hC _) (gT []) tl
    rw [List.length_append, List.append_assoc] at e
    exact ⟨_, ex_ifF (evT_cmp (ev_loc rfl) e (beqs_ne (gF _) (by rw [getL_sh]; rfl) (tp_ok _))) rfl⟩
  obtain ⟨K7, s7⟩ := s7
  have s8 : ∃ K, ex g x8 L4 (B ++ T4) = some (.next, L4, B ++ (T4 ++ K)) := by
    have e := ev_ints (g := g) (L := L4) (H := B ++ T4) (r := B.length + 3) (i := 9) (tab := fnd) rfl (gF []) fl
    rw [List.length_append, List.append_assoc] at e
    have e' := ev_lst' (g := g) (L := L4) (H := B ++ (T4 ++ [O.list []])) (evs_nil _ _ _) (ps := []) rfl rfl
    rw [List.length_append, List.append_assoc] at e'
    exact ⟨_, ex_ifF (evT_cmp e e' (beqs_ne (l := []) (by rw [getL_sh]; rfl) (by rw [getL_sh]; rfl) rfl)) rfl⟩
  obtain ⟨K8, s8⟩ := s8
  have s9 : ∃ K, ex g x9 L4 (B ++ T4) = some (.next, L4, B ++ (T4 ++ K)) := by
    have e := ev_nlessV (k := k) (L := L4) (H := B ++ T4) (i := 8) (j := 7) (r := B.length + 2) (q := B.length + 1) (w := W2) (u := W1) rfl rfl (At1.sh rfl) (At1.sh rfl) F.w2 F.w1
    rw [F.e2, List.length_append, List.append_assoc] at e
    have e' := ev_geX (g := g) (L := L4) (H := B ++ (T4 ++ [.list (((tab.filter (geC size)).map fun r => (r.1, r.2.2, r.2.1)).map tp)])) (r := B.length) (c := r) (tab := tab) (size := size) rfl rfl (hC _) (gT _) tl
    rw [List.length_append, List.append_assoc, List.append_assoc] at e'
    exact ⟨_, ex_ifF (evT_cmp e e' (beqs_ne (by rw [getL_sh]; rfl) (by rw [getL_sh]; rfl) (tp_ok _))) rfl⟩
  obtain ⟨K9, s9⟩ := s9
  let fill := bl (old.length - new.length)
  let L5 := Lc (some (B.length + 1)) (some (B.length + 2)) (some (B.length + 3)) (some fill)
  have s10 : ex g x10 L4 (B ++ T4) = some (.next, L5, B ++ T4) :=
    ex_asg (ev_bin rfl (ev_bin (ev_lenS (l := old) rfl (by exact Nat.le_trans ‹_› (by decide))) (ev_lenS (l := new) rfl (by lia)) (subN ln)) (mul_blV (by lia))) rfl
  have fll : fill.length = old.length - new.length := List.length_replicate
  -- a line's new form, and less
  have lessE : ∀ (i q : Nat) (e : E) (s : List Nat) (w : Ws) (b : Bool), L5[i]? = some (some (.obj q)) → At1 (B ++ T4) q w → OkW w → ev g L5 e (B ++ T4) = some (.p (.str s), B ++ T4) → s.length ≤ 900 → OkW (wsOf s) → lessB w (wsOf s) = b →
      ev g L5 (.mth 15 (Str.ofString "less") (.loc i) [(.new [e])]) (B ++ T4) = some (.p (.bool b), B ++ (T4 ++ [.inst (wsOf s).fs])) := fun i q e s w b hi hw okw he hs oks hb => by
    have a := ev_ws2 (k := k + 1) he hs
    rw [List.append_assoc] at a
    have h2 : At1 (B ++ (T4 ++ [.inst (wsOf s).fs])) (B ++ T4).length (wsOf s) := by
      rw [List.length_append]
      exact At1.sh rfl
    have h1 : At1 (B ++ (T4 ++ [.inst (wsOf s).fs])) q w := by
      rw [← List.append_assoc]
      exact hw.app _
    rw [ev_lessV2 (k := k) hi hw a h1 h2 okw oks, hb]
  have rp : ∀ (i : Nat) (l y z : List Nat) (q : List (List Nat)) (e : E), L5[i]? = some (some (.p (.str l))) → l.length ≤ 200 → splitG [105, 102] 0 l = q → ev g L5 e (B ++ T4) = some (.p (.str z), B ++ T4) → z.length ≤ 300 →
      ev g L5 (.sm .replace (.loc i) [(.lit (.str [105, 102])), e]) (B ++ T4) = some (.p (.str (joinL z q)), B ++ T4) := fun i l y z q e hi hl hq he hz => by
    rw [← hq]
    exact ev_sm (ev_loc hi) rfl (evs_cons rfl (evs_cons he (evs_nil _ _ _))) (smv_replace rfl (Nat.le_trans (Nat.mul_le_mul (Nat.succ_le_succ hl) (Nat.succ_le_succ hz)) (by decide)))
  have s11 : ∃ K, ex g x11 L5 (B ++ T4) = some (.next, L5, B ++ (T4 ++ K)) :=
    ⟨_, ex_ifF (evT_cmp (lessE 7 (B.length + 1) w11 _ W1 false rfl (At1.sh rfl) F.w1 (rp 1 read [] (fill ++ [105, 102]) [new, rr] _ rfl l2 F.s2 (ev_bin (ev_loc rfl) rfl (add_strV (by rw [fll]; simp only [List.length_cons, List.length_nil]; lia))) (by rw [List.length_append, fll]; simp only [List.length_cons, List.length_nil]; lia)) (by show (new ++ (fill ++ [105, 102]) ++ rr).length ≤ 900; simp only [List.length_append, List.length_cons, List.length_nil, fll]; lia) F.w3 F.e3) rfl rfl) rfl⟩
  obtain ⟨K11, s11⟩ := s11
  have s12 : ∃ K, ex g x12 L5 (B ++ T4) = some (.next, L5, B ++ (T4 ++ K)) :=
    ⟨_, ex_ifF (evT_cmp (lessE 7 (B.length + 1) w12 _ W1 true rfl (At1.sh rfl) F.w1 (rp 1 read [] (fill ++ [32, 105, 102]) [new, rr] _ rfl l2 F.s2 (ev_bin (ev_loc rfl) rfl (add_strV (by rw [fll]; simp only [List.length_cons, List.length_nil]; lia))) (by rw [List.length_append, fll]; simp only [List.length_cons, List.length_nil]; lia)) (by show (new ++ (fill ++ [32, 105, 102]) ++ rr).length ≤ 900; simp only [List.length_append, List.length_cons, List.length_nil, fll]; lia) F.w4 F.e4) rfl rfl) rfl⟩
  obtain ⟨K12, s12⟩ := s12
  have s13 : ∃ K, ex g x13 L5 (B ++ T4) = some (.next, L5, B ++ (T4 ++ K)) :=
    ⟨_, ex_ifF (evT_cmp (lessE 7 (B.length + 1) w13 ([32] ++ line) W1 false rfl (At1.sh rfl) F.w1 (ev_bin rfl (ev_loc rfl) (add_strV (by simp only [List.length_cons, List.length_nil]; lia))) (by simp only [List.length_append, List.length_cons, List.length_nil]; lia) F.w5 F.e5) rfl rfl) rfl⟩
  obtain ⟨K13, s13⟩ := s13
  have s14 : ∃ K, ex g x14 L5 (B ++ T4) = some (.ret (.p (.bool true)), L5, B ++ (T4 ++ K)) := by
    refine ⟨_, ex_ret (ev_cmp (lessE 8 (B.length + 2) w14 _ W2 (decide (old = new)) rfl (At1.sh rfl) F.w2 (rp 0 line [] [32, 105, 102] [old, rl] _ rfl l1 F.s1 rfl (by decide)) (by show (old ++ [32, 105, 102] ++ rl).length ≤ 900; simp only [List.length_append, List.length_cons, List.length_nil]; lia) F.w6 F.e6) (ev_cmp (ev_loc rfl) (ev_loc rfl) eqS) ?_)⟩
    show some (decide (old = new) == decide (old = new)) = some true
    rw [beq_self_eq_true]
  obtain ⟨K14, s14⟩ := s14
  have t4 : max (upO (some B.length)) (max (upO (some (B.length + 1))) (max (upO (some (B.length + 2))) (max (upO (some (B.length + 3))) 0))) ≤ B.length + T4.length := by
    exact Nat.le_of_eq (mx5 _)
  have rb : r + 1 ≤ B.length + 1 := Nat.le_succ_of_le (Nat.le_of_eq hB.symm)
  refine ⟨L5, T4 ++ K14, ?_⟩
  refine (congrArg (exs (pg2.lvl (k + 2)) _ _) (List.append_nil B).symm).trans ?_
  refine exs_step s0 (lst [] _ _ _ _ _ _ _ _ _ (Nat.zero_le _)) (exs_step s1 (lst [] _ _ _ _ _ _ _ _ _ (Nat.zero_le _)) (exs_step s2 (gcN ?_) (exs_step s3 ?_ (exs_step s4 (gcN ?_) (exs_step s5 (gcN ?_) (exs_step s6 (gcN ?_) (exs_step s7 (lst T4 _ _ _ _ _ _ _ _ _ ?_) (exs_step s8 (lst T4 _ _ _ _ _ _ _ _ _ ?_) (exs_step s9 (lst T4 _ _ _ _ _ _ _ _ _ ?_) (exs_step s10 (gcN ?_) (exs_step s11 (lst T4 _ _ _ _ _ _ _ _ _ ?_) (exs_step s12 (lst T4 _ _ _ _ _ _ _ _ _ ?_) (exs_step s13 (lst T4 _ _ _ _ _ _ _ _ _ ?_) (exs_stop s14 (ne_next rfl)))))))))))))))
  · rw [lb_LX]; exact mxr rb (Nat.max_eq_left (Nat.zero_le _))
  · exact gcP (by rw [lb_LX, List.length_append]; exact mxr (Nat.le_refl _) (mxr rb (Nat.max_eq_left (Nat.zero_le _))))
  · rw [lb_LX]; exact mxr (Nat.le_succ_of_le rb) (mxr (Nat.le_succ _) (Nat.max_eq_left (Nat.zero_le _)))
  · rw [lb_LX]; exact mxr (Nat.le_add_right_of_le (k := 2) rb) (mxr (Nat.le_add_right (B.length + 1) 2) (mxr (Nat.le_succ _) (Nat.max_eq_left (Nat.zero_le _))))
  · rw [lb_LX]; exact mxr (Nat.le_add_right_of_le (k := 3) rb) (mx5 _)
  all_goals first | exact t4 | (rw [lb_LX]; exact mxr (Nat.le_add_right_of_le (k := 3) rb) (mx5 _))
end
end Mine
end
section
open PySem PySem.W PyProof.Rows PyProof.V
set_option Elab.async false
set_option maxRecDepth 20000
set_option linter.unusedSimpArgs false
namespace Mine
theorem run_crossed {k size : Nat} {line read old new rl rr : List Nat} {H : List O} (F : Plain2 size line read old new rl rr) : (pg2.lvl (k + 3)).call 9 [.p (.str line), .p (.str read), .p (pN size)] H = some (.p (.bool true), H) := by
  obtain ⟨L', K, h⟩ := crossed_run (k := k) (H := H) F
  have e : (exs (pg2.lvl (k + 2)) qb_lw_crossed (LX H.length line read none none none none none none none none) (H ++ [.cell (some (pN size))])).bind (fun z => match z.1 with
    | .ret v => tidy H.length v z.2.2
    | .next => tidy H.length (.p .none) z.2.2
    | _ => none) = some (.p (.bool true), H) := by
    rw [h]
    show some (V.p (.bool true), ((H ++ [O.cell (some (pN size))]) ++ K).take H.length) = _
    rw [List.append_assoc, List.take_left]
  exact e
section
variable {all : List P} {w : Option Nat} {t : Tg} {turn : List (Option V) → List O → Option (List O)} {H : List O}
theorem addTo_mid {acc : List P} {x : P} {K : List O} (h : acc.length < 1000000) : addTo H.length (.p x) (H ++ (.list acc :: K)) = some (H ++ (.list (acc ++ [x]) :: K)) :=
  bindS (o := getL (H ++ (.list acc :: K)) H.length) (a := acc) (getL_sh0 _ _) ((if_pos (ok_of (Nat.le_of_lt h))).trans (congrArg some (set_sh0 _ _ _)))
/-- the turns of an inner loop: what stands behind the list stays -/
theorem cmpL_in (f : P → P) (Gd : List (Option V) → Prop) {K : List O} (hw : ∀ acc, stays w all (H ++ (.list acc :: K)) = true)
    (h : ∀ x ∈ all, ∀ loc acc, Gd loc → ∃ loc', Gd loc' ∧ tgt t (.p x) loc (H ++ (.list acc :: K)) = some (loc', H ++ (.list acc :: K)) ∧ (acc.length < 1000000 → turn loc' (H ++ (.list acc :: K)) = some (H ++ (.list (acc ++ [f x]) :: K)))) :
    ∀ (items acc : List P) (loc : List (Option V)), (∀ x ∈ items, x ∈ all) → Gd loc → acc.length + items.length ≤ 1000000 → cmpL all w t turn loc items (H ++ (.list acc :: K)) = some (H ++ (.list (acc ++ items.map f) :: K)) := by
  intro items
  induction items with
  | nil => exact fun acc loc _ _ _ => (if_pos (hw acc)).trans (by rw [List.map_nil, List.append_nil])
  | cons x r ih =>
    intro acc loc hs hl hn
    rw [List.length_cons] at hn
    obtain ⟨loc', h1, h2, h3⟩ := h x (hs x (.head _)) loc acc hl
    have e := ih (acc ++ [f x]) loc' (fun y hy => hs y (.tail _ hy)) h1 (by rw [List.length_append, List.length_singleton]; omega)
    rw [List.append_assoc] at e
    exact (if_pos (hw acc)).trans (bindS h2 (bindS (h3 (by omega)) e))
/-- the turns of an outer loop: what stands behind the list grows -/
theorem cmpL_out (f : P → List P) (Gd : List (Option V) → Prop) (hw : stays w all H = true)
    (h : ∀ x ∈ all, ∀ loc acc K, Gd loc → acc.length ≤ 5000 → ∃ loc' K', Gd loc' ∧ tgt t (.p x) loc (H ++ (.list acc :: K)) = some (loc', H ++ (.list acc :: K)) ∧ turn loc' (H ++ (.list acc :: K)) = some (H ++ (.list (acc ++ f x) :: K'))) :
    ∀ (items acc : List P) (loc : List (Option V)) (K : List O), (∀ x ∈ items, x ∈ all) → Gd loc → (acc ++ items.flatMap f).length ≤ 5000 → ∃ K', cmpL all w t turn loc items (H ++ (.list acc :: K)) = some (H ++ (.list (acc ++ items.flatMap f) :: K')) := by
  intro items
  induction items with
  | nil => exact fun acc loc K _ _ _ => ⟨K, (if_pos (stays_app hw _)).trans (by rw [List.flatMap_nil, List.append_nil])⟩
  | cons x r ih =>
    intro acc loc K hs hl hn
    rw [List.flatMap_cons, ← List.append_assoc] at hn ⊢
    obtain ⟨loc', K1, h1, h2, h3⟩ := h x (hs x (.head _)) loc acc K hl (by rw [List.length_append, List.length_append] at hn; omega)
    obtain ⟨K', e⟩ := ih (acc ++ f x) loc' K1 (fun y hy => hs y (.tail _ hy)) h1 hn
    exact ⟨K', (if_pos (stays_app hw _)).trans (bindS h2 (bindS h3 e))⟩
end
noncomputable def rowsE : E := .comp2 [none, none, some 5] (.loc 1) (.one 0) (.sm .split (.loc 2) [(.lit (.str [9]))]) (.one 1) (.cal 5 [(.loc 0), (.cel 2)]) []
noncomputable def rowsQ (size : Nat) (p : P) : List P := (p.str?.map fun l => (rowsS size l).map rowS).getD []
theorem ev_rowsE {k size : Nat} {L : List (Option V)} {T : List O} {line : List Nat} (h2 : L[2]? = some (some (.p (.str line)))) (h5 : L[5]? = some (some (.ref 0))) (h3 : 3 ≤ size) (hz : size ≤ 1000) (hl : line.length ≤ 200) (hp : ∀ l ∈ splitG [9] 0 line, l.length ≤ 200) (hn : ((splitG [9] 0 line).flatMap (rowsS size)).length ≤ 1000) :
    ev (pg2.lvl (k + 1)) L rowsE (.cell (some (pN size)) :: T) = some (.ref (T.length + 2), (.cell (some (pN size)) :: T) ++ [.list ((splitG [9] 0 line).map P.str), .list (((splitG [9] 0 line).flatMap (rowsS size)).map rowS)]) := by
  let g := pg2.lvl (k + 1)
  let C : List O := .cell (some (pN size)) :: T
  let ps : List P := (splitG [9] 0 line).map P.str
  let H1 : List O := C ++ [.list ps]
  have e1 : ev g L (.sm .split (.loc 2) [(.lit (.str [9]))]) C = some (.ref C.length, H1) := ev_sm (ev_loc h2) rfl (evs_cons rfl (evs_nil _ _ _)) (smv_splitY rfl (Nat.le_trans hl (by decide)))
  have hfr : frOk [none, none, some 5] L = true ∧ frOf [none, none, some 5] L = [none, none, some (.ref 0)] := by refine ⟨?_, ?_⟩ <;> simp [frOk, frOf, h5]
  have hcel : ∀ (l : List (Option V)) (K : List O), l[2]? = some (some (.ref 0)) → ev g l (.cel 2) (H1 ++ K) = some (.p (pN size), H1 ++ K) := fun l K h => cel_X (H := H1) h rfl
  have hst : stays (some C.length) ps H1 = true := stays_of (getL_last _ _)
  have hfm : ps.flatMap (rowsQ size) = ((splitG [9] 0 line).flatMap (rowsS size)).map rowS := by
    show ((splitG [9] 0 line).map P.str).flatMap (rowsQ size) = _
    rw [List.flatMap_map, List.map_flatMap]
    rfl
  obtain ⟨K', hrun⟩ := cmpL_out (all := ps) (w := some C.length) (t := .one 0) (H := H1) (turn := fun l K => if tgFree (.one 1) l then (ev g l (.cal 5 [(.loc 0), (.cel 2)]) K).bind fun x2 => (itemsOf x2.1 x2.2).bind fun q2 =>
        cmpL q2.1 q2.2 (.one 1) (fun l K => (evC g l [] K).bind fun b => if b.1 then (ev g l (.loc 1) b.2).bind fun v => addTo H1.length v.1 v.2 else some b.2) l q2.1 x2.2 else none)
      (rowsQ size) (fun l => ∃ u, l = [u, none, some (.ref 0)]) hst (fun x hx loc acc K hg ha => by
        obtain ⟨u, rfl⟩ := hg
        obtain ⟨l, hlm, rfl⟩ := List.mem_map.mp hx
        let l1 : List (Option V) := [some (.p (.str l)), none, some (.ref 0)]
        let rw' : List P := (rowsS size l).map rowS
        refine ⟨l1, K ++ [.list rw'], ⟨_, rfl⟩, rfl, (if_pos rfl).trans ?_⟩
        have ec : ev g l1 (.cal 5 [(.loc 0), (.cel 2)]) (H1 ++ (.list acc :: K)) = some (.ref (H1.length + (K.length + 1)), H1 ++ (.list acc :: (K ++ [.list rw']))) := by
          refine (ev_cal (evs_cons (ev_loc rfl) (evs_cons (hcel l1 _ rfl) (evs_nil _ _ _))) (lvl_call (f := 5) rfl (run_rows2 h3 hz (Nat.le_trans (hp l hlm) (by decide))))).trans ?_
          rw [List.length_append, List.append_assoc]
          rfl
        have hgt : ∀ acc, getL (H1 ++ (.list acc :: (K ++ [.list rw']))) (H1.length + (K.length + 1)) = some rw' := fun acc => by
          rw [getL_sh]
          exact getL_last K rw'
        refine bindS ec (bindS (items_rf (hgt acc)) ?_)
        have hle : rw'.length ≤ 1000 := by
          rw [List.length_map]
          exact Nat.le_trans (List.Sublist.length_le (List.sublist_flatten_of_mem (List.mem_map.mpr ⟨l, hlm, rfl⟩))) (by rw [← List.flatMap_def]; exact hn)
        exact (cmpL_in (all := rw') (w := some (H1.length + (K.length + 1))) (t := .one 1) (H := H1) id (fun l => ∃ o, l = [some (.p (.str _)), o, some (.ref 0)]) (fun acc => stays_of (hgt acc)) (fun x _ loc acc hg => by
          obtain ⟨o, rfl⟩ := hg
          exact ⟨[some (.p (.str l)), some (.p x), some (.ref 0)], ⟨_, rfl⟩, rfl, fun ha => addTo_mid ha⟩) rw' acc l1 (fun _ h => h) ⟨_, rfl⟩ (by omega)).trans (by rw [List.map_id]; rfl)) ps [] [none, none, some (.ref 0)] [] (fun _ h => h) ⟨_, rfl⟩ (by rw [List.nil_append, hfm, List.length_map]; omega)
  rw [List.nil_append, hfm] at hrun
  refine (if_pos hfr.1).trans (bindS e1 (bindS (items_rf (getL_last _ _)) ?_))
  rw [hfr.2]
  refine (bindS hrun (f := fun K => some (V.ref H1.length, K.take (H1.length + 1))) rfl).trans ?_
  rw [take_sh H1 _ 1, show H1.length = T.length + 2 from List.length_append]
  exact congrArg (fun K => some (V.ref (T.length + 2), K)) (List.append_assoc _ _ _)
end Mine
end
section
open PySem PySem.W PyProof.Rows PyProof.V
set_option Elab.async false
set_option maxRecDepth 20000
set_option linter.unusedSimpArgs false
namespace Mine
noncomputable def r0 : T := .asg (.one 6) (.cal 2 [(.sm .replace (.loc 2) [(.lit (.str [9])), (.lit (.str [10]))]), (.bin .add (.cel 5) (.lit (.int (1)))), (.loc 4)])
noncomputable def r1 : T := .asgC 7 rowsE
noncomputable def writE : E := .comp [none, none] (.cal 6 [(.loc 0), (.loc 1)]) (.tup [0, 1]) (.loc 7) []
noncomputable def r2 : T := .ifs (.cmp .ne (.sm .split (.loc 6) [(.loc 4)]) writE) retF []
noncomputable def r3 : T := .ifs (.cmp .ne (.cal 3 [(.loc 6), (.lit (.str [9]))]) (.loc 2)) retF []
noncomputable def r4 : T := .asg (.one 8) (.cal 3 [(.sm .replace (.loc 6) [(.bin .add (.lit (.str [61])) (.loc 4)), (.bin .add (.lit (.str [9])) (.loc 4))]), (.lit (.str [9]))])
noncomputable def sayE : E := .ife (.and [(.loc 1), (.cmp .eq (.sm .replace (.loc 0) [(.lit (.str [32])), (.lit (.str []))]) (.lit (.str [])))]) (.lit (.str [])) (.loc 0)
noncomputable def r5 : T := .ifs (.cmp .ne (.loc 8) (.sm .join (.lit (.str [9])) [(.comp [none, none] sayE (.tup [0, 1]) (.loc 7) [])])) retF []
noncomputable def r6 : T := .ifs (.not (.cal 9 [(.loc 2), (.loc 8), (.cel 5)])) retF []
noncomputable def r7 : T := .asg (.one 2) (.loc 8)
noncomputable def sizesE : E := .lst [(.loc 3), (.bin .add (.lit (.int (3))) (.bin .mod (.idx (.loc 1) (.lit (.int (4)))) (.bin .sub (.loc 3) (.lit (.int (3))))))]
noncomputable def y0 : T := .asg (.one 1) (.cal 4 [(.loc 0)])
noncomputable def y1 : T := .asg (.one 2) (.bin .add (.sm .join (.lit (.str [9])) [(.comp [none] (.bin .mul (.lit (.str [32])) (.bin .mod (.loc 0) (.lit (.int (12))))) (.one 0) (.sl (.loc 1) none (some (.lit (.int (3))))) [])]) (.lit (.str [105, 102, 9, 61])))
noncomputable def chrE (i : Int) : E := .bi .chr [(.bin .add (.lit (.int (127))) (.bin .mod (.idx (.loc 1) (.lit (.int i))) (.lit (.int (129)))))]
noncomputable def y2 : T := .asg (.one 2) (.bin .add (.bin .add (.loc 2) (chrE 5)) (chrE 6))
noncomputable def y3 : T := .asg (.one 3) (.bin .add (.lit (.int (4))) (.bin .mod (.idx (.loc 1) (.lit (.int (3)))) (.lit (.int (3)))))
noncomputable def y4 : T := .asg (.one 4) (.idx (.lst [(.lit (.str [10])), (.lit (.str [13, 10]))]) (.bin .mod (.bin .fdiv (.idx (.loc 1) (.lit (.int (3)))) (.lit (.int (3)))) (.lit (.int (2)))))
noncomputable def y5 : T := .fore (.cel 5) sizesE [r0, r1, r2, r3, r4, r5, r6, r7]
noncomputable def y6 : T := .ret (.lit (.bool true))
theorem law_eq : qb_law = [y0, y1, y2, y3, y4, y5, y6] := rfl
noncomputable def readS (r : List Nat × Bool) : List Nat := if r.2 = true ∧ wordOf r.1 = [] then [] else r.1
noncomputable def bodyL (line : List Nat) : List Nat := joinL [10] (splitG [9] 0 line)
noncomputable def rowsL (size : Nat) (line : List Nat) : List (List Nat × Bool) := (splitG [9] 0 line).flatMap (rowsS size)
noncomputable def letterL (size : Nat) (eol line : List Nat) : List Nat := bodyA size eol ((bodyL line).flatMap trC)
noncomputable def lostL (size : Nat) (eol line : List Nat) : List Nat := joinL ([9] ++ eol) (splitG ([61] ++ eol) 0 (letterL size eol line))
/-- what a round of the law asks -/
structure Plain3 (size : Nat) (eol line read : List Nat) : Prop where
  h3 : 3 ≤ size
  h6 : size ≤ 6
  el : eol.length ≤ 2
  ee : eol ≠ []
  l1 : line.length ≤ 200
  pl : ∀ l ∈ splitG [9] 0 line, l.length ≤ 200
  b0 : bodyL line ≠ []
  bc : ∀ c ∈ bodyL line, c < 256 ∧ c ≠ 9
  bl : (bodyL line).length ≤ 200
  ll : (letterL size eol line).length ≤ 1000
  la : asc (letterL size eol line) = true
  l0 : letterL size eol line ≠ []
  rn : (rowsL size line).length ≤ 1000
  rc : ∀ r ∈ rowsL size line, r.1.length ≤ 200 ∧ ∀ c ∈ r.1, c < 256
  sp : splitG eol 0 (letterL size eol line) = (rowsL size line).map fun r => writtenS r.1 r.2
  d1 : decA [9] (letterL size eol line) = line
  k0 : lostL size eol line ≠ []
  kl : (lostL size eol line).length ≤ 1000
  ka : asc (lostL size eol line) = true
  d2 : decA [9] (lostL size eol line) = read
  jr : read = joinL [9] ((rowsL size line).map readS)
  js : (((rowsL size line).map readS).map List.length).sum + ((rowsL size line).map readS).length ≤ 900000
  cr : ∃ old new rl rr, Plain2 size line read old new rl rr
noncomputable def LY (ns : List Int) (line : List Nat) (first : Nat) (eol : List Nat) (o6 : Option (List Nat)) (o7 : Option Nat) (o8 : Option (List Nat)) : List (Option V) :=
  [some (.fix (ns.map .int)), some (.ref 1), some (.p (.str line)), some (.p (pN first)), some (.p (.str eol)), some (.ref 0), o6.map (fun l => V.p (.str l)), o7.map V.ref, o8.map (fun l => V.p (.str l))]
theorem lb_LY {ns : List Int} {line : List Nat} {first : Nat} {eol : List Nat} {o6 : Option (List Nat)} {o7 : Option Nat} {o8 : Option (List Nat)} : lb (LY ns line first eol o6 o7 o8) = max 2 (max 1 (max (upO o7) 0)) := by
  unfold LY
  simp only [lb_pm, lb_q, lb_rm, lb_om, lb_sm, lb_rf, lb_fx]
  rfl
noncomputable def wrtP (p : P) : P := ((p.tup?.bind two).bind fun q => q.1.str?.bind fun b => q.2.bool?.map fun s => P.str (writtenS b s)).getD p
noncomputable def sayP (p : P) : P := ((p.tup?.bind two).bind fun q => q.1.str?.bind fun b => q.2.bool?.map fun s => P.str (readS (b, s))).getD p
theorem neS {a : List Nat} {H : List O} : cmpV .ne (.p (.str a)) (.p (.str a)) H = some false := congrArg (fun b => some (!b)) (beq_self_eq_true a)
theorem ev_celY {g : G} {ns : List Int} {line : List Nat} {first : Nat} {eol : List Nat} {o6 : Option (List Nat)} {o7 : Option Nat} {o8 : Option (List Nat)} {v : P} {T : List O} : ev g (LY ns line first eol o6 o7 o8) (.cel 5) (.cell (some v) :: T) = some (.p v, .cell (some v) :: T) := rfl
theorem run_be2 {k size : Nat} {body eol : List Nat} {H : List O} (h3 : 3 ≤ size) (hz : size ≤ 300) (he : eol.length ≤ 5) (h0 : body ≠ []) (hc : ∀ c ∈ body, c < 256 ∧ c ≠ 9) (hl : body.length ≤ 200) : runF (pg2.lvl (k + 1)) qF_body_encode [.p (.str body), .p (.int ((size : Int) + 1)), .p (.str eol)] H = some (.p (.str (bodyA size eol (body.flatMap trC))), H) := by
  obtain ⟨loc', K, h⟩ := run_body (g := pg2.lvl (k + 1)) (fun K => lvl_call (f := 1) rfl run_quote) (lvl_tabs _) (body := body) (size := size) (eol := eol) (H := H) h3 hz he h0 hc hl
  exact runF_ret (v := .p (.str (bodyA size eol (body.flatMap trC)))) rfl h (by simp [tidy])
theorem run_dec2 {k : Nat} {enc : List Nat} {H : List O} (h0 : enc ≠ []) (hl : enc.length ≤ 1000) (ha : asc enc = true) : runF (pg2.lvl (k + 1)) pF_decode [.p (.str enc), .p (.str [9])] H = some (.p (.str (decA [9] enc)), H) :=
  run_decode (fun a b x y K hx hy => lvl_call (f := 0) rfl (run_unquote hx hy)) h0 hl ha (by decide) (by decide)
end Mine
end
section
open PySem PySem.W PyProof.Rows PyProof.V
set_option Elab.async false
set_option maxRecDepth 20000
set_option linter.unusedSimpArgs false
namespace Mine
theorem ex_asgC {g : G} {L L' : List (Option V)} {i : Nat} {e : E} {H H₁ H₂ : List O} {v : V} (h : ev g L e H = some (v, H₁)) (h2 : tgt (.one i) v L H₁ = some (L', H₂)) : ex g (.asgC i e) L H = some (.next, L', H₂) := bindS h (bindS h2 rfl)
theorem evT_notC {g : G} {L : List (Option V)} {f : Nat} {es : List E} {b : Bool} {H H₁ : List O} (h : ev g L (.cal f es) H = some (.p (.bool b), H₁)) : evT g L (.not (.cal f es)) (ev g L (.not (.cal f es)) H) H = some (!b, H₁) := by
  rw [evT_notE, evT_calE, h]
  rfl
theorem ev_ife {g : G} {L : List (Option V)} {c a b : E} {H H₁ : List O} {t : Bool} {z} (h : evT g L c (ev g L c H) H = some (t, H₁)) (h2 : (if t then ev g L a H₁ else ev g L b H₁) = z) : ev g L (.ife c a b) H = z := bindS h h2
theorem hexD_le (n : Nat) : hexD n ≤ 55 + n := by
  unfold hexD
  split <;> (first | exact Nat.le_refl _ | lia)
theorem bodyS_ok {b : List Nat} {s : Bool} (h : ∀ c ∈ b, c < 256) : ∀ c ∈ bodyS b s, c < 0x110000 := by
  intro c hc
  unfold bodyS at hc
  split at hc
  · split at hc
    · rcases List.mem_append.mp hc with hc | hc
      · exact Nat.lt_trans (h c ((List.dropLast_sublist _).subset hc)) (by decide)
      · simp only [List.mem_cons, List.not_mem_nil, or_false] at hc; lia
    · exact Nat.lt_trans (h c hc) (by decide)
  · obtain ⟨a, ha, hc⟩ := List.mem_flatMap.mp hc
    have h1 := h a ha
    have h2 := hexD_le (a / 16)
    have h3 := hexD_le (a % 16)
    simp only [hexQ, List.mem_cons, List.not_mem_nil, or_false] at hc
    lia
theorem written_ok {b : List Nat} {s : Bool} (h : ∀ c ∈ b, c < 256) : ∀ c ∈ writtenS b s, c < 0x110000 := by
  intro c hc
  unfold writtenS at hc
  split at hc
  · rcases List.mem_append.mp hc with hc | hc
    · exact bodyS_ok h c hc
    · simp only [List.mem_cons, List.not_mem_nil, or_false] at hc; lia
  · exact bodyS_ok h c hc
theorem round_run {k size first : Nat} {eol line read : List Nat} {ns : List Int} {o6 : Option (List Nat)} {o7 : Option Nat} {o8 : Option (List Nat)} {T : List O} (F : Plain3 size eol line read) :
    ∃ X, exs (pg2.lvl (k + 3)) [r0, r1, r2, r3, r4, r5, r6, r7] (LY ns line first eol o6 o7 o8) (.cell (some (pN size)) :: T) = some (.next, LY ns read first eol (some (letterL size eol line)) (some (T.length + 2)) (some read), .cell (some (pN size)) :: (T ++ X)) ∧ X.length = 2 := by
  let g := pg2.lvl (k + 3)
  let letter := letterL size eol line
  let rows := rowsL size line
  let C : O := .cell (some (pN size))
  let X : List O := [.list ((splitG [9] 0 line).map P.str), .list (rows.map rowS)]
  let H0 : List O := C :: T
  let H1 : List O := C :: (T ++ X)
  have el := F.el
  have ll := F.ll
  have l1 := F.l1
  have h6 := F.h6
  have hz : size ≤ 1000 := Nat.le_trans h6 (by decide)
  have okl : letter.length ≤ 1000 := ll
  let L := fun (o6 : Option (List Nat)) (o7 : Option Nat) (o8 : Option (List Nat)) => LY ns line first eol o6 o7 o8
  have s0 : ex g r0 (L o6 o7 o8) H0 = some (.next, L (some letter) o7 o8, H0) := by
    have e1 : ev g (L o6 o7 o8) (.sm .replace (.loc 2) [(.lit (.str [9])), (.lit (.str [10]))]) H0 = some (.p (.str (bodyL line)), H0) := ev_sm (ev_loc rfl) rfl (evs_cons rfl (evs_cons rfl (evs_nil _ _ _))) (smv_replace rfl (by simp only [List.length_cons, List.length_nil]; lia))
    exact ex_asg (ev_cal (evs_cons e1 (evs_cons (ev_bin rfl rfl addI) (evs_cons (ev_loc rfl) (evs_nil _ _ _)))) (lvl_call (f := 2) rfl (run_be2 (k := k + 1) F.h3 (Nat.le_trans h6 (by decide)) (by exact Nat.le_trans ‹_› (by decide)) F.b0 F.bc F.bl))) rfl
  have s1 : ex g r1 (L (some letter) o7 o8) H0 = some (.next, L (some letter) (some (T.length + 2)) o8, H1) :=
    ex_asgC (ev_rowsE (k := k + 2) rfl rfl F.h3 hz l1 F.pl F.rn) rfl
  let L1 := L (some letter) (some (T.length + 2)) o8
  have hlen : H1.length = T.length + 3 := by show (T ++ X).length + 1 = _; rw [List.length_append]; rfl
  have hlb : ∀ (o8 : Option (List Nat)) (r : List Nat), lb (LY ns r first eol (some letter) (some (T.length + 2)) o8) = T.length + 3 := fun o8 r => by
    rw [lb_LY]
    show max 2 (max 1 (max (T.length + 2 + 1) 0)) = _
    lia
  have hgr : ∀ K, getL (H1 ++ K) (T.length + 2) = some (rows.map rowS) := fun K => by
    have e : H1 ++ K = (C :: T) ++ (X ++ K) := by show C :: (T ++ X) ++ K = _; rw [List.cons_append, List.append_assoc]; rfl
    rw [e]
    exact getL_sh (C :: T) (X ++ K) 1
  have rl : (rows.map rowS).length ≤ 1000000 := by rw [List.length_map]; exact Nat.le_trans F.rn (by decide)
  have gt : ∀ (o8 : Option (List Nat)) (r : List Nat) (K : List O), gc H1.length (LY ns r first eol (some letter) (some (T.length + 2)) o8) (H1 ++ K) = H1 := fun o8 r K => gc_tmp (by rw [hlb, hlen]; exact Nat.le_refl _)
  have s2 : ∃ K, ex g r2 L1 H1 = some (.next, L1, H1 ++ K) := by
    have e1 : ev g L1 (.sm .split (.loc 6) [(.loc 4)]) H1 = some (.ref H1.length, H1 ++ [.list ((splitG eol 0 letter).map P.str)]) := ev_sm (ev_loc rfl) rfl (evs_cons (ev_loc rfl) (evs_nil _ _ _)) (smv_splitY (by simpa using F.ee) (Nat.le_trans okl (by decide)))
    have e2 := ev_comp0 (g := g) (L := L1) (fr := [none, none]) (t := .tup [0, 1]) (elt := .cal 6 [(.loc 0), (.loc 1)]) (it := .loc 7) (H := H1 ++ [.list ((splitG eol 0 letter).map P.str)]) (w := some (T.length + 2)) (items := rows.map rowS) wrtP (fun l => l.length = 2) rfl (ev_loc rfl) (items_rf (hgr _)) (stays_of (hgr _)) rfl rl fun x hx loc K hl => by
      obtain ⟨a, b, rfl⟩ := lenTwo hl
      obtain ⟨r, hr, rfl⟩ := List.mem_map.mp hx
      obtain ⟨c1, c2⟩ := F.rc r hr
      exact ⟨[some (.p (.str r.1)), some (.p (.bool r.2))], rfl, rfl, ev_cal (evs_cons (ev_loc rfl) (evs_cons (ev_loc rfl) (evs_nil _ _ _))) (lvl_call (f := 6) rfl (run_written2 (Nat.le_trans c1 (by decide)) c2))⟩
    have hm : (rows.map rowS).map wrtP = (splitG eol 0 letter).map P.str := by
      rw [F.sp, List.map_map, List.map_map]
      rfl
    rw [hm] at e2
    refine ⟨_, (ex_ifF (evT_cmp e1 e2 (beqs_ne (l := (splitG eol 0 letter).map P.str) (getL_app (getL_last _ _) _) (getL_last _ _) ?_)) rfl).trans (congrArg (fun K => some (Fl.next, L1, K)) (List.append_assoc _ _ _))⟩
    rw [F.sp]
    refine okAt_strs fun l hl => ?_
    obtain ⟨r, hr, rfl⟩ := List.mem_map.mp hl
    exact written_ok (F.rc r hr).2
  obtain ⟨K2, s2⟩ := s2
  have s3 : ex g r3 L1 H1 = some (.next, L1, H1) := by
    have e := run_dec2 (k := k + 1) (enc := letter) (H := H1) F.l0 ll F.la
    rw [F.d1] at e
    exact ex_ifF (evT_cmp (ev_cal (evs_cons (ev_loc rfl) (evs_cons rfl (evs_nil _ _ _))) (lvl_call (f := 3) rfl e)) (ev_loc rfl) neS) rfl
  let L2 := L (some letter) (some (T.length + 2)) (some read)
  have s4 : ex g r4 L1 H1 = some (.next, L2, H1) := by
    have e := run_dec2 (k := k + 1) (enc := lostL size eol line) (H := H1) F.k0 F.kl F.ka
    rw [F.d2] at e
    have e1 : ev g L1 (.sm .replace (.loc 6) [(.bin .add (.lit (.str [61])) (.loc 4)), (.bin .add (.lit (.str [9])) (.loc 4))]) H1 = some (.p (.str (lostL size eol line)), H1) :=
      ev_sm (ev_loc rfl) rfl (evs_cons (ev_bin rfl (ev_loc rfl) (add_strV (b := eol) (by simp only [List.length_cons, List.length_nil]; lia))) (evs_cons (ev_bin rfl (ev_loc rfl) (add_strV (b := eol) (by simp only [List.length_cons, List.length_nil]; lia))) (evs_nil _ _ _)))
        (smv_replace rfl (Nat.le_trans (Nat.mul_le_mul (Nat.succ_le_succ okl) (show ([9] ++ eol).length + 1 ≤ 4 by rw [List.length_append]; simp only [List.length_cons, List.length_nil]; lia)) (by decide)))
    exact ex_asg (ev_cal (evs_cons e1 (evs_cons rfl (evs_nil _ _ _))) (lvl_call (f := 3) rfl e)) rfl
  have s5 : ∃ K, ex g r5 L2 H1 = some (.next, L2, H1 ++ K) := by
    have e2 := ev_comp0 (g := g) (L := L2) (fr := [none, none]) (t := .tup [0, 1]) (elt := sayE) (it := .loc 7) (H := H1) (w := some (T.length + 2)) (items := rows.map rowS) sayP (fun l => l.length = 2) rfl (ev_loc rfl) (items_rf (by have := hgr []; rwa [List.append_nil] at this)) (stays_of (by have := hgr []; rwa [List.append_nil] at this)) rfl rl fun x hx loc K hl => by
      obtain ⟨a, b, rfl⟩ := lenTwo hl
      obtain ⟨r, hr, rfl⟩ := List.mem_map.mp hx
      obtain ⟨c1, c2⟩ := F.rc r hr
      let l : List (Option V) := [some (.p (.str r.1)), some (.p (.bool r.2))]
      refine ⟨l, rfl, rfl, ?_⟩
      have ce : evT g l (.cmp .eq (.sm .replace (.loc 0) [(.lit (.str [32])), (.lit (.str []))]) (.lit (.str []))) (ev g l (.cmp .eq (.sm .replace (.loc 0) [(.lit (.str [32])), (.lit (.str []))]) (.lit (.str []))) K) K = some (decide (wordOf r.1 = []), K) := evT_cmp (ev_replace rfl (Nat.le_trans c1 (by decide))) rfl eqS
      have ca : evT g l (.and [(.loc 1), (.cmp .eq (.sm .replace (.loc 0) [(.lit (.str [32])), (.lit (.str []))]) (.lit (.str [])))]) (ev g l (.and [(.loc 1), (.cmp .eq (.sm .replace (.loc 0) [(.lit (.str [32])), (.lit (.str []))]) (.lit (.str [])))]) K) K = some (r.2 && decide (wordOf r.1 = []), K) := by
        refine evT_and ?_
        cases hr2 : r.2 with
        | false => exact evC_f (show evT g l (.loc 1) (ev g l (.loc 1) K) K = some (false, K) by simp only [l, hr2]; rfl)
        | true =>
          refine evC_t (show evT g l (.loc 1) (ev g l (.loc 1) K) K = some (true, K) by simp only [l, hr2]; rfl) (evC_cons ce ?_)
          cases decide (wordOf r.1 = []) <;> rfl
      refine ev_ife ca ?_
      show _ = some (V.p (P.str (readS r)), K)
      unfold readS
      by_cases hrr : r.2 = true ∧ wordOf r.1 = []
      · rw [if_pos (by rw [hrr.1, decide_eq_true hrr.2]; rfl), if_pos hrr]
        rfl
      · rw [if_neg (by rw [Bool.and_eq_true, decide_eq_true_eq]; exact hrr), if_neg hrr]
        exact ev_loc rfl
    have hm : (rows.map rowS).map sayP = (rows.map readS).map P.str := by
      rw [List.map_map, List.map_map]
      rfl
    rw [hm] at e2
    have e3 : ev g L2 (.sm .join (.lit (.str [9])) [(.comp [none, none] sayE (.tup [0, 1]) (.loc 7) [])]) H1 = some (.p (.str read), H1 ++ [.list ((rows.map readS).map P.str)]) := by
      refine (ev_sm rfl rfl (evs_cons e2 (evs_nil _ _ _)) (smv_join (getL_last _ _) (Nat.le_trans (by simp only [List.length_cons, List.length_nil, Nat.zero_add, Nat.mul_one]; exact F.js) (by decide)))).trans ?_
      rw [← F.jr]
    exact ⟨_, ex_ifF (evT_cmp (ev_loc rfl) e3 neS) rfl⟩
  obtain ⟨K5, s5⟩ := s5
  have s6 : ex g r6 L2 H1 = some (.next, L2, H1) := by
    obtain ⟨old, new, rl, rr, F2⟩ := F.cr
    exact ex_ifF (evT_notC (ev_cal (evs_cons (ev_loc rfl) (evs_cons (ev_loc rfl) (evs_cons rfl (evs_nil _ _ _)))) (run_crossed (k := k) F2))) rfl
  have s7 : ex g r7 L2 H1 = some (.next, LY ns read first eol (some letter) (some (T.length + 2)) (some read), H1) := ex_asg (ev_loc rfl) rfl
  refine ⟨X, exs_s s0 (exs_step s1 (gc_top (by rw [hlb, hlen]; exact Nat.le_refl _)) (exs_step s2 (gt _ _ _) (exs_s s3 (exs_s s4 (exs_step s5 (gt _ _ _) (exs_s s6 (exs_1 s7))))))), rfl⟩
end Mine
end
section
open PySem PySem.W PyProof.Rows PyProof.V
set_option Elab.async false
set_option maxRecDepth 20000
set_option linter.unusedSimpArgs false
namespace Mine
noncomputable def loc2 (ns : List Int) : List (Option V) := [some (.fix (ns.map .int)), none, none, none, none, some (.ref 0), none, none, none]
noncomputable def eolE (a : Nat) : List Nat := if a / 3 % 2 = 0 then [10] else [13, 10]
noncomputable def line0 (a b c o1 o2 : Nat) : List Nat := joinL [9] [bl (a % 12), bl (b % 12), bl (c % 12)] ++ [105, 102, 9, 61] ++ [127 + o1 % 129] ++ [127 + o2 % 129]
noncomputable def blP (p : P) : P := (p.int?.map fun i => P.str (bl (i.toNat % 12))).getD p
noncomputable def LZ (ns : List Int) (o2 : Option (List Nat)) (o3 : Option Nat) (o4 : Option (List Nat)) : List (Option V) :=
  [some (.fix (ns.map .int)), some (.ref 1), o2.map (fun l => V.p (.str l)), o3.map (fun n => V.p (pN n)), o4.map (fun l => V.p (.str l)), some (.ref 0), none, none, none]
theorem law2_walk {ns : List Int} {a0 a1 a2 a3 a4 a5 a6 : Nat} {read1 read2 : List Nat} (hn : ns.length ≤ 63) (hx : numbers2 ns = [a0, a1, a2, a3, a4, a5, a6].map fun n : Nat => (n : Int))
    (F1 : Plain3 (4 + a3 % 3) (eolE a3) (line0 a0 a1 a2 a5 a6) read1) (F2 : Plain3 (3 + a4 % (4 + a3 % 3 - 3)) (eolE a3) read1 read2) :
    ∃ loc' H', exs (pg2.lvl 3) qb_law (loc2 ns) [.cell none] = some (.ret (.p (.bool true)), loc', H') := by
  rw [law_eq]
  let g := pg2.lvl 3
  let num : List P := [pN a0, pN a1, pN a2, pN a3, pN a4, pN a5, pN a6]
  let H1 : List O := [.cell none, .list num]
  have hlb : ∀ (o2 : Option (List Nat)) (o3 : Option Nat) (o4 : Option (List Nat)), lb (LZ ns o2 o3 o4) = 2 := fun o2 o3 o4 => by cases o2 <;> cases o3 <;> cases o4 <;> rfl
  have gt : ∀ (o2 : Option (List Nat)) (o3 : Option Nat) (o4 : Option (List Nat)) (K : List O), gc H1.length (LZ ns o2 o3 o4) (H1 ++ K) = H1 := fun o2 o3 o4 K => gc_tmp (by rw [hlb]; exact Nat.le_refl _)
  have s0 : ex g y0 (loc2 ns) [.cell none] = some (.next, LZ ns none none none, H1) := by
    have e := run_numbers2 (g := pg2.lvl 2) (H := [.cell none]) hn
    rw [hx] at e
    exact ex_asg (ev_cal (evs_cons (ev_loc rfl) (evs_nil _ _ _)) (lvl_call (f := 4) rfl e)) rfl
  have nidx : ∀ (i : Nat) (p : P) (o2 : Option (List Nat)) (o3 : Option Nat) (o4 : Option (List Nat)) (K : List O), num[i]? = some p → i < 7 → ev g (LZ ns o2 o3 o4) (.idx (.loc 1) (.lit (.int (i : Int)))) (H1 ++ K) = some (.p p, H1 ++ K) := fun i p o2 o3 o4 K hp hi =>
    ev_idx (ev_loc rfl) rfl (idxR (x := num) rfl (by
      have : oki (i : Int) = true := oki_nat (Nat.le_trans (Nat.le_of_lt hi) (by decide))
      show (oki (i : Int) && (decide (0 ≤ (i : Int) ∧ (i : Int) < 7) || _)) = true
      rw [this, decide_eq_true (show 0 ≤ (i : Int) ∧ (i : Int) < 7 from ⟨Int.natCast_nonneg _, Int.ofNat_lt.mpr hi⟩)]
      rfl) (by
      show num[nIdx (i : Int) 7]? = some p
      unfold nIdx
      rw [if_neg (Int.not_lt.mpr (Int.natCast_nonneg i))]
      exact hp))
  have s1 : ∃ K, ex g y1 (LZ ns none none none) H1 = some (.next, LZ ns (some (joinL [9] [bl (a0 % 12), bl (a1 % 12), bl (a2 % 12)] ++ [105, 102, 9, 61])) none none, H1 ++ K) := by
    have e1 : ev g (LZ ns none none none) (.sl (.loc 1) none (some (.lit (.int (3))))) H1 = some (.ref 2, H1 ++ [.list [pN a0, pN a1, pN a2]]) :=
      (ev_sl (ev_loc rfl) (evo_none _ _ _) (evo_some rfl) (slR rfl (bnds_int (i := 3) rfl) (x := num) rfl rfl)).trans (by rw [show cut num none (some 3) = [pN a0, pN a1, pN a2] from cut_take num 3]; rfl)
    have e2 := ev_comp0 (g := g) (L := LZ ns none none none) (fr := [none]) (t := .one 0) (elt := .bin .mul (.lit (.str [32])) (.bin .mod (.loc 0) (.lit (.int (12))))) (w := some 2) (items := [a0, a1, a2].map pN) blP (fun l => l.length = 1) rfl e1 (items_rf rfl) (stays_of rfl) rfl (by simp only [List.length_map, List.length_cons, List.length_nil]; decide) fun x hx loc K hl => by
      obtain ⟨o, rfl⟩ := List.length_eq_one_iff.mp hl
      obtain ⟨i, _, rfl⟩ := List.mem_map.mp hx
      exact ⟨[some (.p (pN i))], rfl, rfl, ev_bin rfl (ev_bin (ev_loc rfl) rfl (modV (a := i) (b := 12) (by decide))) (mul_blV (Nat.le_trans (Nat.le_of_lt (Nat.mod_lt _ (by decide))) (by decide)))⟩
    have b0 := Nat.mod_lt a0 (show 0 < 12 by decide)
    have b1 := Nat.mod_lt a1 (show 0 < 12 by decide)
    have b2 := Nat.mod_lt a2 (show 0 < 12 by decide)
    exact ⟨_, ex_asg (ev_bin (ev_sm rfl rfl (evs_cons e2 (evs_nil _ _ _)) (smv_join (ls := [bl (a0 % 12), bl (a1 % 12), bl (a2 % 12)]) rfl (by simp only [List.map_cons, List.map_nil, List.sum_cons, List.sum_nil, List.length_cons, List.length_nil, List.length_replicate]; omega))) rfl (add_strV (by simp only [joinL, List.length_append, List.length_cons, List.length_nil, List.length_replicate]; omega))) rfl⟩
  obtain ⟨K1, s1⟩ := s1
  let ln : List Nat := line0 a0 a1 a2 a5 a6
  have chr : ∀ (i a : Nat) (o2 : Option (List Nat)), num[i]? = some (pN a) → i < 7 → ev g (LZ ns o2 none none) (chrE i) H1 = some (.p (.str [127 + a % 129]), H1) := fun i a o2 hp hi => by
    have e := nidx i _ o2 none none [] hp hi
    rw [List.append_nil] at e
    have hm := Nat.mod_lt a (show 0 < 129 by decide)
    refine (ev_bi (evs_cons (ev_bin rfl (ev_bin e rfl (modV (a := a) (b := 129) (by decide))) addI) (evs_nil _ _ _)) (biV_chr (by omega))).trans ?_
    rw [show ((127 : Int) + ((a % 129 : Nat) : Int)).toNat = 127 + a % 129 from rfl]
  have s2 : ex g y2 (LZ ns (some (joinL [9] [bl (a0 % 12), bl (a1 % 12), bl (a2 % 12)] ++ [105, 102, 9, 61])) none none) H1 = some (.next, LZ ns (some ln) none none, H1) := by
    have hl : ln.length ≤ 200 := F1.l1
    have hl2 : (joinL [9] [bl (a0 % 12), bl (a1 % 12), bl (a2 % 12)] ++ [105, 102, 9, 61]).length + 2 = ln.length := by
      show _ = (_ ++ [_] ++ [_]).length
      rw [List.length_append (bs := [127 + a6 % 129]), List.length_append (bs := [127 + a5 % 129])]
      rfl
    exact ex_asg (ev_bin (ev_bin (ev_loc rfl) (chr 5 a5 _ rfl (by decide)) (add_strV (by simp only [List.length_cons, List.length_nil] at hl2 ⊢; omega))) (chr 6 a6 _ rfl (by decide)) (add_strV (by rw [List.length_append]; simp only [List.length_cons, List.length_nil] at hl2 ⊢; omega))) rfl
  have s3 : ex g y3 (LZ ns (some ln) none none) H1 = some (.next, LZ ns (some ln) (some (4 + a3 % 3)) none, H1) := by
    have e := nidx 3 _ (some ln) none none [] rfl (by decide)
    rw [List.append_nil] at e
    exact ex_asg (ev_bin rfl (ev_bin e rfl (modV (a := a3) (b := 3) (by decide))) (addI.trans (congrArg (fun i => some (V.p (P.int i), H1)) (show (4 : Int) + ((a3 % 3 : Nat) : Int) = ((4 + a3 % 3 : Nat) : Int) from rfl)))) rfl
  have s4 : ∃ K, ex g y4 (LZ ns (some ln) (some (4 + a3 % 3)) none) H1 = some (.next, LZ ns (some ln) (some (4 + a3 % 3)) (some (eolE a3)), H1 ++ K) := by
    have e := nidx 3 _ (some ln) (some (4 + a3 % 3)) none [.list [.str [10], .str [13, 10]]] rfl (by decide)
    refine ⟨_, ex_asg (ev_idx (ev_lst' (evs_cons rfl (evs_cons rfl (evs_nil _ _ _))) rfl rfl) (ev_bin (ev_bin e rfl (fdivV (a := a3) (b := 3) (by decide) (by decide))) rfl (modV (a := a3 / 3) (b := 2) (by decide))) (idxR (x := [.str [10], .str [13, 10]]) (p := .str (eolE a3)) (getL_last _ _) ?_ ?_)) rfl⟩
    all_goals
      first | unfold eolE | skip
      rcases (Nat.mod_two_eq_zero_or_one (a3 / 3)) with h | h <;> rw [h] <;> rfl
  obtain ⟨K4, s4⟩ := s4
  let s1' := 4 + a3 % 3
  let s2' := 3 + a4 % (4 + a3 % 3 - 3)
  let sz : List P := [pN s1', pN s2']
  let T : List O := [.list num, .list sz]
  obtain ⟨X1, f1, g1⟩ := round_run (k := 0) (first := s1') (ns := ns) (o6 := none) (o7 := none) (o8 := none) (T := T) F1
  obtain ⟨X2, f2, g2⟩ := round_run (k := 0) (first := s1') (ns := ns) (o6 := some (letterL s1' (eolE a3) (line0 a0 a1 a2 a5 a6))) (o7 := some (T.length + 2)) (o8 := some read1) (T := T ++ X1) F2
  have s5 : ∃ L' K', ex g y5 (LZ ns (some ln) (some s1') (some (eolE a3))) H1 = some (.next, L', K') := by
    have e := nidx 4 _ (some ln) (some s1') (some (eolE a3)) [] rfl (by decide)
    rw [List.append_nil] at e
    have e1 : ev g (LZ ns (some ln) (some s1') (some (eolE a3))) sizesE H1 = some (.ref 2, .cell none :: T) := by
      refine (ev_lst' (evs_cons (ev_loc rfl) (evs_cons (ev_bin rfl (ev_bin e (ev_bin (ev_loc rfl) rfl (subN (a := s1') (b := 3) (Nat.le_trans (by decide) (Nat.le_add_right 4 (a3 % 3))))) (modV (a := a4) (b := s1' - 3) (Nat.sub_pos_of_lt (Nat.lt_of_lt_of_le (by decide) (Nat.le_add_right 4 (a3 % 3)))))) (addI.trans (congrArg (fun i => some (V.p (P.int i), H1)) (show (3 : Int) + ((a4 % (s1' - 3) : Nat) : Int) = ((s2' : Nat) : Int) from rfl)))) (evs_nil _ _ _))) (ps := sz) rfl rfl).trans rfl
    refine ⟨_, _, ex_for e1 (items_rf (x := sz) rfl) (forL_go (q := (LZ ns (some ln) (some s1') (some (eolE a3)), .cell (some (pN s1')) :: T)) (stays_of rfl) rfl f1 (.inl rfl) (forL_go (q := (LY ns read1 s1' (eolE a3) (some (letterL s1' (eolE a3) (line0 a0 a1 a2 a5 a6))) (some (T.length + 2)) (some read1), .cell (some (pN s2')) :: (T ++ X1))) (stays_of rfl) rfl f2 (.inl rfl) (forL_nil (stays_of rfl))))⟩
  obtain ⟨L5, K5, s5⟩ := s5
  exact ⟨_, _, exs_step s0 (gc_top (by rw [hlb]; exact Nat.le_refl _)) (exs_step s1 (gt _ _ _ _) (exs_s s2 (exs_s s3 (exs_step s4 (gt _ _ _ _) (exs_step s5 rfl (exs_stop (ex_ret rfl) (ne_next rfl)))))))⟩
end Mine
end
section
open PySem PySem.W PyProof.Rows PyProof.V
set_option Elab.async false
set_option maxRecDepth 20000
set_option linter.unusedSimpArgs false
namespace Mine
/-! cuts at a text, joins of rows -/
theorem split_pass (y : List Nat) (a r : List Nat) : splitG y a.length (a ++ r) = splitG y 0 r := by
  induction a with
  | nil => rfl
  | cons x a ih => exact ih
theorem split_hitY {y0 : Nat} {yt r : List Nat} : splitG (y0 :: yt) 0 (y0 :: (yt ++ r)) = [] :: splitG (y0 :: yt) 0 r := by
  rw [splitG, if_pos (by rw [List.isPrefixOf_iff_prefix]; exact ⟨r, rfl⟩)]
  exact congrArg ([] :: ·) (split_pass (y0 :: yt) yt r)
theorem split_missY {y : List Nat} {a : Nat} {r h : List Nat} {q : List (List Nat)} (hn : y.isPrefixOf (a :: r) = false) (e : splitG y 0 r = h :: q) : splitG y 0 (a :: r) = (a :: h) :: q := by
  rw [splitG, if_neg (by rw [hn]; decide), e]
theorem split_app {y0 : Nat} {yt : List Nat} {a r h : List Nat} {q : List (List Nat)} (ha : y0 ∉ a) (e : splitG (y0 :: yt) 0 r = h :: q) : splitG (y0 :: yt) 0 (a ++ r) = (a ++ h) :: q := by
  induction a with
  | nil => exact e
  | cons x a ih =>
    refine split_missY ?_ (ih fun hm => ha (.tail _ hm))
    have : (y0 == x) = false := beq_eq_false_iff_ne.mpr fun e => ha (by rw [e]; exact .head _)
    show (y0 == x && _) = false
    rw [this]; rfl
theorem split_joinY {y0 : Nat} {yt : List Nat} (ls : List (List Nat)) (h0 : ls ≠ []) (h : ∀ l ∈ ls, y0 ∉ l) : splitG (y0 :: yt) 0 (joinL (y0 :: yt) ls) = ls := by
  induction ls with
  | nil => exact absurd rfl h0
  | cons a r ih =>
    cases r with
    | nil =>
      have := split_app (r := []) (h := []) (q := []) (yt := yt) (h a (.head _)) rfl
      rw [List.append_nil] at this
      exact this
    | cons b r =>
      rw [join_cons (by simp), List.append_assoc]
      have e : splitG (y0 :: yt) 0 (y0 :: yt ++ joinL (y0 :: yt) (b :: r)) = [] :: (b :: r) := by
        rw [List.cons_append, split_hitY, ih (by simp) fun l hl => h l (.tail _ hl)]
      rw [split_app (h a (.head _)) e, List.append_nil]
theorem join_flat {s : List Nat} {α : Type} {f g : α → List (List Nat)} (ps : List α) (h : ∀ p ∈ ps, joinL s (f p) = joinL s (g p) ∧ f p ≠ [] ∧ g p ≠ []) : joinL s (ps.flatMap f) = joinL s (ps.flatMap g) := by
  induction ps with
  | nil => rfl
  | cons p r ih =>
    obtain ⟨h1, h2, h3⟩ := h p (.head _)
    have ih := ih fun q hq => h q (.tail _ hq)
    rw [List.flatMap_cons, List.flatMap_cons]
    cases r with
    | nil => rw [List.flatMap_nil, List.flatMap_nil, List.append_nil, List.append_nil, h1]
    | cons q r =>
      obtain ⟨_, k2, k3⟩ := h q (.tail _ (.head _))
      rw [join_app h2 (by rw [List.flatMap_cons]; simp [k2]), join_app h3 (by rw [List.flatMap_cons]; simp [k3]), h1, ih]
/-- what the law's two line ends share -/
noncomputable def okE (eol : List Nat) : Prop := eol = [10] ∨ eol = [13, 10]
theorem eolE_ok (a : Nat) : okE (eolE a) := by
  unfold eolE okE
  split
  · exact .inl rfl
  · exact .inr rfl
theorem lns_1310 {l r : List Nat} (h : ∀ c ∈ l, isNl c = false) : lns (l ++ 13 :: 10 :: r) = l :: lns r := by
  induction l with
  | nil => rfl
  | cons a l ih =>
    rw [List.cons_append, lns_sign (h a (.head _)), ih fun c hc => h c (.tail _ hc)]
    rfl
theorem lns_join {eol : List Nat} (he : okE eol) (ls : List (List Nat)) (h0 : ls ≠ []) (hl : ls.getLast? ≠ some []) (h : ∀ l ∈ ls, ∀ c ∈ l, isNl c = false) : lns (joinL eol ls) = ls := by
  induction ls with
  | nil => exact absurd rfl h0
  | cons a r ih =>
    cases r with
    | nil => exact lns_end (l := a) (fun e => hl (by rw [e]; rfl)) (h a (.head _))
    | cons b r =>
      have ih := ih (by simp) (fun e => hl (by rw [← e]; rfl)) fun l hx => h l (.tail _ hx)
      rw [join_cons (by simp), List.append_assoc]
      rcases he with rfl | rfl
      · rw [List.singleton_append, lns_10 (h a (.head _)), ih]
      · rw [show a ++ ([13, 10] ++ joinL [13, 10] (b :: r)) = a ++ 13 :: 10 :: joinL [13, 10] (b :: r) from rfl, lns_1310 (h a (.head _)), ih]
theorem join_lastY {s : List Nat} {wl : List Nat} (h : wl ≠ []) (ls : List (List Nat)) : (joinL s (ls ++ [wl])).getLast? = wl.getLast? ∧ joinL s (ls ++ [wl]) ≠ [] := by
  have key : (joinL s (ls ++ [wl])).getLast? = wl.getLast? := by
    induction ls with
    | nil => rfl
    | cons a r ih =>
      rw [List.cons_append, join_cons (by simp), getLast_app, ih]
      intro e
      rw [e, List.getLast?_eq_some_getLast h] at ih
      cases ih
  refine ⟨key, fun e => ?_⟩
  rw [e, List.getLast?_eq_some_getLast h] at key
  cases key
/-! rows: a body, and whether a = ends it -/
noncomputable def rowW (r : List Nat × Bool) : List Nat := if r.2 then r.1 ++ [61] else r.1
noncomputable def rowL (r : List Nat × Bool) : List Nat := if r.2 then r.1 ++ [9] else r.1
noncomputable def repE (eol l : List Nat) : List Nat := joinL ([9] ++ eol) (splitG ([61] ++ eol) 0 l)
theorem rep_hit {eol r : List Nat} : repE eol (61 :: (eol ++ r)) = 9 :: (eol ++ repE eol r) := by
  obtain ⟨h, q, e⟩ := splitG_ne ([61] ++ eol) r 0
  unfold repE
  rw [show [61] ++ eol = 61 :: eol from rfl] at e ⊢
  rw [split_hitY, e, join_cons (by simp)]
  rfl
theorem rep_miss {eol r : List Nat} {a : Nat} (hn : ([61] ++ eol).isPrefixOf (a :: r) = false) : repE eol (a :: r) = a :: repE eol r := by
  obtain ⟨h, q, e⟩ := splitG_ne ([61] ++ eol) r 0
  unfold repE
  rw [split_missY hn e, e]
  cases q <;> rfl
theorem repE_nil (eol : List Nat) : repE eol [] = [] := rfl
theorem pre_false {eol : List Nat} {x a : Nat} {t : List Nat} (he : okE eol) (ha : isNl a = false) : ([61] ++ eol).isPrefixOf (x :: a :: t) = false := by
  rcases he with rfl | rfl
  · show (61 == x && ((10 : Nat) == a && true)) = false
    have : ((10 : Nat) == a) = false := beq_eq_false_iff_ne.mpr fun e => by rw [← e] at ha; exact absurd ha (by decide)
    rw [this]; simp
  · show (61 == x && ((13 : Nat) == a && _)) = false
    have : ((13 : Nat) == a) = false := beq_eq_false_iff_ne.mpr fun e => by rw [← e] at ha; exact absurd ha (by decide)
    rw [this]; simp
/-- a body of signs: the = that stands ahead of another sign of the body, or of a =, is none that is lost -/
theorem rep_body {eol : List Nat} (he : okE eol) (b r : List Nat) (hb : ∀ c ∈ b, isNl c = false) (hx : ∃ x t, r = x :: t ∧ isNl x = false) : repE eol (b ++ r) = b ++ repE eol r := by
  induction b with
  | nil => rfl
  | cons a b ih =>
    have ih := ih fun c hc => hb c (.tail _ hc)
    rw [List.cons_append, rep_miss, ih]
    · rfl
    · cases b with
      | nil => obtain ⟨x, t, rfl, hx⟩ := hx; exact pre_false he hx
      | cons a' b => exact pre_false he (hb a' (.tail _ (.head _)))
theorem rep_plain {eol : List Nat} (he : okE eol) (b r : List Nat) (hb : ∀ c ∈ b, isNl c = false) (hl : b.getLast? ≠ some 61) : repE eol (b ++ (eol ++ r)) = b ++ (eol ++ repE eol r) ∧ repE eol b = b := by
  have e0 : repE eol (eol ++ r) = eol ++ repE eol r := by
    rcases he with rfl | rfl
    · exact rep_miss rfl
    · show repE [13, 10] (13 :: 10 :: r) = 13 :: 10 :: repE [13, 10] r
      rw [rep_miss rfl, rep_miss rfl]
  rcases List.eq_nil_or_concat b with rfl | ⟨i, a, rfl⟩
  · exact ⟨e0, rfl⟩
  · rw [List.concat_eq_append] at hb hl ⊢
    have ha : a ≠ 61 := fun e => hl (by rw [e, List.getLast?_append]; rfl)
    have hi : ∀ c ∈ i, isNl c = false := fun c hc => hb c (List.mem_append_left _ hc)
    have han : isNl a = false := hb a (List.mem_append_right _ (.head _))
    have hm : ∀ t, repE eol (a :: t) = a :: repE eol t := fun t => rep_miss (by
      show (61 == a && _) = false
      rw [beq_eq_false_iff_ne.mpr (Ne.symm ha)]; rfl)
    refine ⟨?_, ?_⟩
    · rw [List.append_assoc, List.append_assoc]
      exact (rep_body he i (a :: (eol ++ r)) hi ⟨a, _, rfl, han⟩).trans (by rw [hm, e0]; rfl)
    · exact (rep_body he i [a] hi ⟨a, _, rfl, han⟩).trans (by rw [hm, repE_nil])
theorem rep_rows {eol : List Nat} (he : okE eol) (R : List (List Nat × Bool)) (h : ∀ r ∈ R, (∀ c ∈ r.1, isNl c = false) ∧ (r.2 = false → r.1.getLast? ≠ some 61)) (hl : ∀ r, R.getLast? = some r → r.2 = false) : repE eol (joinL eol (R.map rowW)) = joinL eol (R.map rowL) := by
  induction R with
  | nil => rfl
  | cons r R ih =>
    obtain ⟨h1, h2⟩ := h r (.head _)
    cases R with
    | nil =>
      have hs := hl r rfl
      show repE eol (rowW r) = rowL r
      unfold rowW rowL
      rw [hs, if_neg Bool.false_ne_true, if_neg Bool.false_ne_true]
      exact (rep_plain he r.1 [] h1 (h2 hs)).2
    | cons q R =>
      have ih := ih (fun r hr => h r (.tail _ hr)) fun r hr => hl r (by rw [← hr]; rfl)
      rw [show (r :: q :: R).map rowW = rowW r :: (q :: R).map rowW from rfl, show (r :: q :: R).map rowL = rowL r :: (q :: R).map rowL from rfl, join_cons (s := eol) (a := rowW r) (r := (q :: R).map rowW) (by simp), join_cons (s := eol) (a := rowL r) (r := (q :: R).map rowL) (by simp), List.append_assoc, List.append_assoc, ← ih]
      generalize joinL eol ((q :: R).map rowW) = J
      cases hs : r.2 with
      | false =>
        rw [show rowW r = r.1 by unfold rowW; rw [hs]; rfl, show rowL r = r.1 by unfold rowL; rw [hs]; rfl]
        exact (rep_plain he r.1 _ h1 (h2 hs)).1
      | true =>
        rw [show rowW r = r.1 ++ [61] by unfold rowW; rw [hs]; rfl, show rowL r = r.1 ++ [9] by unfold rowL; rw [hs]; rfl, List.append_assoc, List.append_assoc]
        exact (rep_body he r.1 (61 :: (eol ++ J)) h1 ⟨61, _, rfl, rfl⟩).trans (by rw [rep_hit]; rfl)
end Mine
end
section
open PySem PySem.W PyProof.Rows PyProof.V
set_option Elab.async false
set_option maxRecDepth 20000
set_option linter.unusedSimpArgs false
namespace Mine
theorem decA_join {eol : List Nat} (he : okE eol) (rows : List (List Nat)) {wl : List Nat} (hw : wl ≠ []) (hn : ∀ l ∈ rows ++ [wl], ∀ c ∈ l, isNl c = false) {X : List Nat} (hd : (rows ++ [wl]).flatMap (decR [9]) = X ++ [9]) : decA [9] (joinL eol (rows ++ [wl])) = X := by
  have hln := lns_join he (rows ++ [wl]) (by simp) (by rw [List.getLast?_append]; simpa using hw) hn
  have hg := (join_lastY (s := eol) hw rows).1
  have hc : (!((joinL eol (rows ++ [wl])).getLast? == some 13 || (joinL eol (rows ++ [wl])).getLast? == some 10) && sfx (X ++ [9]) [9]) = true := by
    have h1 : ∀ d, isNl d = true → ((joinL eol (rows ++ [wl])).getLast? == some d) = false := fun d hd => by
      rw [hg]
      refine beq_eq_false_iff_ne.mpr fun e => ?_
      rw [hn wl (List.mem_append_right _ (.head _)) d (List.mem_of_getLast? e)] at hd
      cases hd
    rw [h1 13 rfl, h1 10 rfl]
    exact List.isSuffixOf_iff_suffix.mpr ⟨X, rfl⟩
  unfold decA
  rw [hln, hd]
  show (if _ then _ else _) = X
  rw [if_pos hc, List.length_append]
  show (X ++ [9]).take (X.length + 1 - 1) = X
  rw [Nat.add_sub_cancel, List.take_left]
/-- what a part of a line owes -/
structure PartOk (size : Nat) (eol p : List Nat) : Prop where
  e1 : joinL eol (encL size eol (p.flatMap trC)) = joinL eol ((rowsS size p).map fun r => writtenS r.1 r.2)
  tr : ∀ c ∈ p.flatMap trC, isNl c = false
  ch : ∀ c ∈ p, c < 256 ∧ c ≠ 9 ∧ c ≠ 10
  pl : p.length ≤ 14
  rc : ∀ r ∈ rowsS size p, r.1.length ≤ 14 ∧ (∀ c ∈ r.1, c < 256) ∧ (∀ c ∈ bodyS r.1 r.2, isNl c = false ∧ c < 128) ∧ (r.2 = false → (bodyS r.1 r.2).getLast? ≠ some 61)
  d1 : (rowsS size p).flatMap (fun r => decR [9] (writtenS r.1 r.2)) = p ++ [9]
  d2 : ∀ r ∈ rowsS size p, decR [9] (rowL (bodyS r.1 r.2, r.2)) = readS r ++ [9]
  la : (rowsS size p).getLast?.map Prod.snd = some false
  sz : ((rowsS size p).map fun r => (bodyS r.1 r.2).length + 3).sum ≤ 40
  ln : (rowsS size p).length ≤ 20
/-- the last part's last row says something -/
noncomputable def LastOk (size : Nat) (p : List Nat) : Prop := p.flatMap trC ≠ [] ∧ ∃ I t, rowsS size p = I ++ [(t, false)] ∧ bodyS t false ≠ []
theorem join_lenY {s : List Nat} (hs : s.length ≤ 2) (ls : List (List Nat)) : (joinL s ls).length ≤ (ls.map fun l => l.length + 2).sum := by
  induction ls with
  | nil => exact Nat.le_refl _
  | cons a r ih =>
    cases r with
    | nil => show a.length ≤ a.length + 2 + 0; lia
    | cons b r =>
      rw [join_cons (by simp), List.length_append, List.length_append, List.map_cons, List.sum_cons]
      lia
theorem mem_joinY {s : List Nat} {c : Nat} (ls : List (List Nat)) (h : c ∈ joinL s ls) : c ∈ s ∨ ∃ l ∈ ls, c ∈ l := by
  induction ls with
  | nil => cases h
  | cons a r ih =>
    cases r with
    | nil => exact .inr ⟨a, .head _, h⟩
    | cons b r =>
      rw [join_cons (by simp)] at h
      rcases List.mem_append.mp h with h | h
      · rcases List.mem_append.mp h with h | h
        · exact .inr ⟨a, .head _, h⟩
        · exact .inl h
      · rcases ih h with h | ⟨l, hl, hc⟩
        · exact .inl h
        · exact .inr ⟨l, .tail _ hl, hc⟩
theorem flatMap_join10 (ps : List (List Nat)) : (joinL [10] ps).flatMap trC = joinL [10] (ps.map fun p => p.flatMap trC) := by
  induction ps with
  | nil => rfl
  | cons a r ih =>
    cases r with
    | nil => rfl
    | cons b r =>
      rw [show (a :: b :: r).map (fun p => p.flatMap trC) = a.flatMap trC :: (b :: r).map (fun p => p.flatMap trC) from rfl, join_cons (s := [10]) (a := a) (r := b :: r) (by simp), join_cons (s := [10]) (a := a.flatMap trC) (r := (b :: r).map fun p => p.flatMap trC) (by simp), List.flatMap_append, List.flatMap_append, ih]
      rfl
theorem decs_join {α : Type} (f g : α → List Nat) (l : List α) (h0 : l ≠ []) (h : ∀ x ∈ l, f x = g x ++ [9]) : l.flatMap f = joinL [9] (l.map g) ++ [9] := by
  induction l with
  | nil => exact absurd rfl h0
  | cons a r ih =>
    cases r with
    | nil => rw [List.flatMap_cons, h a (.head _), List.flatMap_nil, List.append_nil]; rfl
    | cons b r =>
      rw [List.flatMap_cons, h a (.head _), ih (by simp) fun x hx => h x (.tail _ hx), show (a :: b :: r).map g = g a :: (b :: r).map g from rfl, join_cons (s := [9]) (a := g a) (r := (b :: r).map g) (by simp), List.append_assoc, List.append_assoc, List.append_assoc]
theorem rowW_eq (r : List Nat × Bool) : rowW (bodyS r.1 r.2, r.2) = writtenS r.1 r.2 := rfl
section
variable {size : Nat} {eol : List Nat} {ps : List (List Nat)} {pl : List Nat}
theorem sumS (ps : List (List Nat)) (h : ∀ p ∈ ps, PartOk size eol p) : ((ps.flatMap (rowsS size)).map fun r => (bodyS r.1 r.2).length + 3).sum ≤ 40 * ps.length ∧ (ps.flatMap (rowsS size)).length ≤ 20 * ps.length := by
  induction ps with
  | nil => exact ⟨Nat.le_refl _, Nat.le_refl _⟩
  | cons p r ih =>
    have h1 := h p (.head _)
    have h2 := h1.sz
    have h3 := h1.ln
    obtain ⟨i1, i2⟩ := ih fun q hq => h q (.tail _ hq)
    rw [List.flatMap_cons, List.map_append, List.sum_append, List.length_append, List.length_cons]
    lia
end
end Mine
end
section
open PySem PySem.W PyProof.Rows PyProof.V
set_option Elab.async false
set_option maxRecDepth 20000
set_option linter.unusedSimpArgs false
namespace Mine
theorem isNl_9 {c : Nat} (h : isNl c = false) : c ≠ 10 ∧ c ≠ 13 := ⟨fun e => by rw [e] at h; exact absurd h (by decide), fun e => by rw [e] at h; exact absurd h (by decide)⟩
theorem split_okE {eol : List Nat} (he : okE eol) (ls : List (List Nat)) (h0 : ls ≠ []) (h : ∀ l ∈ ls, ∀ c ∈ l, isNl c = false) : splitG eol 0 (joinL eol ls) = ls := by
  rcases he with rfl | rfl
  · exact split_joinY ls h0 fun l hl hc => (isNl_9 (h l hl _ hc)).1 rfl
  · exact split_joinY ls h0 fun l hl hc => (isNl_9 (h l hl _ hc)).2 rfl
theorem okE_lt {eol : List Nat} (he : okE eol) : eol.length ≤ 2 ∧ eol ≠ [] ∧ ∀ c ∈ eol, c < 128 := by
  rcases he with rfl | rfl
  · exact ⟨by decide, by decide, by decide⟩
  · exact ⟨by decide, by decide, by decide⟩
theorem sum_le2 {l : List (List Nat)} {k : Nat} (h : ∀ x ∈ l, x.length ≤ k) : (l.map fun x => x.length + 2).sum ≤ (k + 2) * l.length := by
  induction l with
  | nil => exact Nat.le_refl _
  | cons a r ih =>
    have h1 := h a (.head _)
    have h2 := ih fun x hx => h x (.tail _ hx)
    rw [List.map_cons, List.sum_cons, List.length_cons, Nat.mul_succ]
    lia
theorem sum_map_le {α : Type} {f g : α → Nat} {l : List α} (h : ∀ x ∈ l, f x ≤ g x) : (l.map f).sum ≤ (l.map g).sum := by
  induction l with
  | nil => exact Nat.le_refl _
  | cons a r ih =>
    rw [List.map_cons, List.map_cons, List.sum_cons, List.sum_cons]
    exact Nat.add_le_add (h a (.head _)) (ih fun x hx => h x (.tail _ hx))
theorem plain3 {size : Nat} {eol : List Nat} {qs : List (List Nat)} {pl : List Nat} (he : okE eol) (h3 : 3 ≤ size) (h6 : size ≤ 6) (hP : ∀ p ∈ qs ++ [pl], PartOk size eol p) (hL : LastOk size pl) (hn : (qs ++ [pl]).length ≤ 12)
    (cr : ∃ old new rl rr, Plain2 size (joinL [9] (qs ++ [pl])) (joinL [9] (((qs ++ [pl]).flatMap (rowsS size)).map readS)) old new rl rr) : Plain3 size eol (joinL [9] (qs ++ [pl])) (joinL [9] (((qs ++ [pl]).flatMap (rowsS size)).map readS)) := by
  obtain ⟨hT, I, t, hI, ht⟩ := hL
  obtain ⟨el, ee, ea⟩ := okE_lt he
  have hpl : pl ≠ [] := fun e => hT (by rw [e]; rfl)
  generalize hps : qs ++ [pl] = ps at *
  have hs : splitG [9] 0 (joinL [9] ps) = ps := split_join (by rw [← hps]; simp) fun p hp hc => ((hP p hp).ch 9 hc).2.1 rfl
  have hb : bodyL (joinL [9] ps) = joinL [10] ps := by unfold bodyL; rw [hs]
  let R := ps.flatMap (rowsS size)
  let W : List Nat × Bool → List Nat := fun r => writtenS r.1 r.2
  have hR : rowsL size (joinL [9] ps) = R := by unfold rowsL; rw [hs]
  let R0 := qs.flatMap (rowsS size) ++ I
  have hR0 : R = R0 ++ [(t, false)] := by
    show ps.flatMap (rowsS size) = _
    rw [← hps, List.flatMap_append, List.flatMap_singleton, hI, List.append_assoc]
  have rc : ∀ r ∈ R, r.1.length ≤ 14 ∧ (∀ c ∈ r.1, c < 256) ∧ (∀ c ∈ bodyS r.1 r.2, isNl c = false ∧ c < 128) ∧ (r.2 = false → (bodyS r.1 r.2).getLast? ≠ some 61) := fun r hr => by
    obtain ⟨p, hp, hr⟩ := List.mem_flatMap.mp hr
    exact (hP p hp).rc r hr
  obtain ⟨sz', szl'⟩ := sumS ps hP
  have sz : (R.map fun r => (bodyS r.1 r.2).length + 3).sum ≤ 1000 := Nat.le_trans sz' (by lia)
  have szl : R.length ≤ 240 := Nat.le_trans szl' (by lia)
  have hlen : ∀ p ∈ ps, p.length ≤ 14 := fun p hp => (hP p hp).pl
  have lj : ∀ s : List Nat, s.length ≤ 2 → (joinL s ps).length ≤ 200 := fun s hs => Nat.le_trans (join_lenY hs ps) (Nat.le_trans (sum_le2 hlen) (by lia))
  -- the letter
  have hlet : letterL size eol (joinL [9] ps) = joinL eol (R.map W) := by
    unfold letterL bodyA
    rw [hb, flatMap_join10]
    have hl : ps.map (fun p => p.flatMap trC) = qs.map (fun p => p.flatMap trC) ++ [pl.flatMap trC] := by rw [← hps, List.map_append]; rfl
    have hnl : ∀ l ∈ ps.map (fun p => p.flatMap trC), ∀ c ∈ l, isNl c = false := fun l hl c hc => by
      obtain ⟨p, hp, rfl⟩ := List.mem_map.mp hl
      exact (hP p hp).tr c hc
    rw [lns_join (.inl rfl) _ (by rw [hl]; simp) (by rw [hl, List.getLast?_append]; simpa using hT) hnl, if_neg, List.append_nil, List.flatMap_map]
    · rw [join_flat (f := fun p => encL size eol (p.flatMap trC)) (g := fun p => (rowsS size p).map W) ps fun p hp => ⟨(hP p hp).e1, encL_ne _ _ _, fun e => by
        have := (hP p hp).la
        rw [List.map_eq_nil_iff.mp e] at this
        cases this⟩]
      rw [← List.map_flatMap]
    · have hg := (join_lastY (s := [10]) hT (qs.map fun p => p.flatMap trC)).1
      rw [← hl] at hg
      rw [hg]
      have h1 := hnl (pl.flatMap trC) (by rw [hl]; exact List.mem_append_right _ (.head _))
      rintro (h | h)
      · exact (isNl_9 (h1 13 (List.mem_of_getLast? h))).2 rfl
      · exact (isNl_9 (h1 10 (List.mem_of_getLast? h))).1 rfl
  have wch : ∀ r ∈ R, ∀ c ∈ W r, isNl c = false ∧ c < 128 := fun r hr c hc => by
    have h1 := (rc r hr).2.2.1
    have hc : c ∈ writtenS r.1 r.2 := hc
    unfold writtenS at hc
    split at hc
    · rcases List.mem_append.mp hc with hc | hc
      · exact h1 c hc
      · simp only [List.mem_cons, List.not_mem_nil, or_false] at hc; subst hc; exact ⟨rfl, by decide⟩
    · exact h1 c hc
  have wnl : ∀ l ∈ R.map W, ∀ c ∈ l, isNl c = false := fun l hl c hc => by
    obtain ⟨r, hr, rfl⟩ := List.mem_map.mp hl
    exact (wch r hr c hc).1
  have hWl : R.map W = R0.map W ++ [bodyS t false] := by rw [hR0, List.map_append]; rfl
  have wlen : ∀ r : List Nat × Bool, (W r).length + 2 ≤ (bodyS r.1 r.2).length + 3 := fun r => by
    show (writtenS r.1 r.2).length + 2 ≤ _
    unfold writtenS
    split
    · rw [List.length_append]; simp only [List.length_cons, List.length_nil]; exact Nat.le_refl _
    · lia
  have asc_of : ∀ ls : List (List Nat), (∀ l ∈ ls, ∀ c ∈ l, c < 128) → asc (joinL eol ls) = true := fun ls h => List.all_eq_true.mpr fun c hc => decide_eq_true (by
    rcases mem_joinY ls hc with h1 | ⟨l, hl, h1⟩
    · exact ea c h1
    · exact h l hl c h1)
  -- the letter that lost its =
  let B : List Nat × Bool → List Nat × Bool := fun r => (bodyS r.1 r.2, r.2)
  have hBW : (R.map B).map rowW = R.map W := by rw [List.map_map]; rfl
  have hlost : lostL size eol (joinL [9] ps) = joinL eol ((R.map B).map rowL) := by
    show repE eol (letterL size eol (joinL [9] ps)) = _
    rw [hlet, ← hBW]
    refine rep_rows he (R.map B) (fun r hr => ?_) fun r hr => ?_
    · obtain ⟨q, hq, rfl⟩ := List.mem_map.mp hr
      exact ⟨fun c hc => ((rc q hq).2.2.1 c hc).1, (rc q hq).2.2.2⟩
    · rw [hR0, List.map_append, List.getLast?_append] at hr
      cases hr
      rfl
  have hLl : (R.map B).map rowL = (R0.map B).map rowL ++ [bodyS t false] := by rw [hR0, List.map_append, List.map_append]; rfl
  have lch : ∀ r ∈ R, ∀ c ∈ rowL (B r), isNl c = false ∧ c < 128 := fun r hr c hc => by
    have h1 := (rc r hr).2.2.1
    unfold rowL at hc
    split at hc
    · rcases List.mem_append.mp hc with hc | hc
      · exact h1 c hc
      · simp only [List.mem_cons, List.not_mem_nil, or_false] at hc; subst hc; exact ⟨rfl, by decide⟩
    · exact h1 c hc
  have lmem : ∀ l ∈ (R.map B).map rowL, ∃ r ∈ R, l = rowL (B r) := fun l hl => by
    obtain ⟨q, hq, rfl⟩ := List.mem_map.mp hl
    obtain ⟨r, hr, rfl⟩ := List.mem_map.mp hq
    exact ⟨r, hr, rfl⟩
  have llen : ∀ r : List Nat × Bool, (rowL (B r)).length + 2 ≤ (bodyS r.1 r.2).length + 3 := fun r => by
    unfold rowL
    split
    · rw [List.length_append]; simp only [List.length_cons, List.length_nil, B]; exact Nat.le_refl _
    · simp only [B]; lia
  refine ⟨h3, h6, el, ee, lj _ (by decide), ?pl, ?b0, ?bc, ?bl, ?ll, ?la, ?l0, ?rn, ?rc, ?sp, ?d1, ?k0, ?kl, ?ka, ?d2, ?jr, ?js, cr⟩
  case pl => rw [hs]; exact fun l hl => Nat.le_trans (hlen l hl) (by decide)
  case b0 => rw [hb, ← hps]; exact (join_lastY hpl qs).2
  case bc =>
    rw [hb]
    intro c hc
    rcases mem_joinY ps hc with h1 | ⟨p, hp, h1⟩
    · simp only [List.mem_cons, List.not_mem_nil, or_false] at h1; omega
    · exact ⟨((hP p hp).ch c h1).1, ((hP p hp).ch c h1).2.1⟩
  case bl => rw [hb]; exact lj _ (by decide)
  case ll =>
    rw [hlet]
    refine Nat.le_trans (join_lenY el _) ?_
    rw [List.map_map]
    exact Nat.le_trans (sum_map_le fun r _ => wlen r) sz
  case la =>
    rw [hlet]
    refine asc_of _ fun l hl c hc => ?_
    obtain ⟨r, hr, rfl⟩ := List.mem_map.mp hl
    exact (wch r hr c hc).2
  case l0 => rw [hlet, hWl]; exact (join_lastY ht _).2
  case rn => rw [hR]; exact Nat.le_trans szl (by decide)
  case rc => rw [hR]; exact fun r hr => ⟨Nat.le_trans (rc r hr).1 (by decide), (rc r hr).2.1⟩
  case sp => rw [hlet, hR]; exact split_okE he _ (by rw [hWl]; simp) wnl
  case d1 =>
    rw [hlet, hWl]
    rw [hWl] at wnl
    refine decA_join he _ ht wnl ?_
    rw [← hWl, List.flatMap_map]
    show (ps.flatMap (rowsS size)).flatMap (fun r => decR [9] (writtenS r.1 r.2)) = _
    rw [List.flatMap_assoc, decs_join (fun p => (rowsS size p).flatMap fun r => decR [9] (writtenS r.1 r.2)) id ps (by rw [← hps]; simp) fun p hp => (hP p hp).d1, List.map_id]
  case k0 => rw [hlost, hLl]; exact (join_lastY ht _).2
  case kl =>
    rw [hlost]
    refine Nat.le_trans (join_lenY el _) ?_
    rw [List.map_map, List.map_map]
    exact Nat.le_trans (sum_map_le fun r _ => llen r) sz
  case ka =>
    rw [hlost]
    refine asc_of _ fun l hl c hc => ?_
    obtain ⟨r, hr, rfl⟩ := lmem l hl
    exact (lch r hr c hc).2
  case d2 =>
    rw [hlost, hLl]
    refine decA_join he _ ht (fun l hl c hc => ?_) ?_
    · rw [← hLl] at hl
      obtain ⟨r, hr, rfl⟩ := lmem l hl
      exact (lch r hr c hc).1
    · rw [← hLl, List.flatMap_map, List.flatMap_map]
      exact decs_join (fun r => decR [9] (rowL (B r))) readS R (by rw [hR0]; simp) fun r hr => by
        obtain ⟨p, hp, hr⟩ := List.mem_flatMap.mp hr
        exact (hP p hp).d2 r hr
  case jr => rw [hR]
  case js =>
    rw [hR]
    have h1 : ∀ x ∈ R.map readS, x.length ≤ 14 := fun x hx => by
      obtain ⟨r, hr, rfl⟩ := List.mem_map.mp hx
      unfold readS
      split
      · exact Nat.zero_le _
      · exact (rc r hr).1
    have h2 := sum_le h1
    have h4 : R.length ≤ 240 := szl
    rw [List.length_map] at h2 ⊢
    lia
end Mine
end
section
open PySem PySem.W PyProof.Rows PyProof.V
set_option Elab.async false
set_option maxRecDepth 20000
set_option linter.unusedSimpArgs false
namespace Mine
noncomputable def chkP (size : Nat) (eol p : List Nat) : Bool :=
  (joinL eol (encL size eol (p.flatMap trC)) == joinL eol ((rowsS size p).map fun r => writtenS r.1 r.2)) &&
  ((p.flatMap trC).all (fun c => !isNl c) && (p.all (fun c => decide (c < 256 ∧ c ≠ 9 ∧ c ≠ 10)) && (decide (p.length ≤ 14) &&
  ((rowsS size p).all (fun r => decide (r.1.length ≤ 14) && (r.1.all (fun c => decide (c < 256)) && ((bodyS r.1 r.2).all (fun c => !isNl c && decide (c < 128)) && (r.2 || (bodyS r.1 r.2).getLast? != some 61)))) &&
  (((rowsS size p).flatMap (fun r => decR [9] (writtenS r.1 r.2)) == p ++ [9]) && ((rowsS size p).all (fun r => decR [9] (rowL (bodyS r.1 r.2, r.2)) == readS r ++ [9]) &&
  (((rowsS size p).getLast?.map Prod.snd == some false) && (decide (((rowsS size p).map fun r => (bodyS r.1 r.2).length + 3).sum ≤ 40) && decide ((rowsS size p).length ≤ 20)))))))))
theorem chk_ok {size : Nat} {eol p : List Nat} (h : chkP size eol p = true) : PartOk size eol p := by
  unfold chkP at h
  obtain ⟨a1, h⟩ := Bool.and_eq_true_iff.mp h
  obtain ⟨a2, h⟩ := Bool.and_eq_true_iff.mp h
  obtain ⟨a3, h⟩ := Bool.and_eq_true_iff.mp h
  obtain ⟨a4, h⟩ := Bool.and_eq_true_iff.mp h
  obtain ⟨a5, h⟩ := Bool.and_eq_true_iff.mp h
  obtain ⟨a6, h⟩ := Bool.and_eq_true_iff.mp h
  obtain ⟨a7, h⟩ := Bool.and_eq_true_iff.mp h
  obtain ⟨a8, h⟩ := Bool.and_eq_true_iff.mp h
  obtain ⟨a9, a10⟩ := Bool.and_eq_true_iff.mp h
  refine ⟨eq_of_beq a1, fun c hc => Bool.not_eq_true' _ |>.mp (List.all_eq_true.mp a2 c hc), fun c hc => of_decide_eq_true (List.all_eq_true.mp a3 c hc), of_decide_eq_true a4, fun r hr => ?_, eq_of_beq a6, fun r hr => eq_of_beq (List.all_eq_true.mp a7 r hr), eq_of_beq a8, of_decide_eq_true a9, of_decide_eq_true a10⟩
  obtain ⟨b1, h⟩ := Bool.and_eq_true_iff.mp (List.all_eq_true.mp a5 r hr)
  obtain ⟨b2, h⟩ := Bool.and_eq_true_iff.mp h
  obtain ⟨b3, b4⟩ := Bool.and_eq_true_iff.mp h
  refine ⟨of_decide_eq_true b1, fun c hc => of_decide_eq_true (List.all_eq_true.mp b2 c hc), fun c hc => ?_, fun h2 => ?_⟩
  · obtain ⟨d1, d2⟩ := Bool.and_eq_true_iff.mp (List.all_eq_true.mp b3 c hc)
    exact ⟨(Bool.not_eq_true' _).mp d1, of_decide_eq_true d2⟩
  · rw [h2, Bool.false_or] at b4
    rw [h2]
    exact bne_iff_ne.mp b4
theorem tab_bl : ((List.range 7).all fun size => decide (size < 3) || (List.range 12).all fun a => chkP size [10] (bl a) && (chkP size [13, 10] (bl a) && (chkP size [10] (bl a ++ [105, 102]) && chkP size [13, 10] (bl a ++ [105, 102])))) = true := by decide +kernel
theorem part_bl {size a : Nat} {eol : List Nat} (he : okE eol) (h3 : 3 ≤ size) (h6 : size ≤ 6) (ha : a < 12) : PartOk size eol (bl a) ∧ PartOk size eol (bl a ++ [105, 102]) := by
  have h := List.all_eq_true.mp tab_bl size (List.mem_range.mpr (Nat.lt_succ_of_le h6))
  rw [decide_eq_false (Nat.not_lt.mpr h3), Bool.false_or] at h
  have h := List.all_eq_true.mp h a (List.mem_range.mpr ha)
  obtain ⟨h1, h⟩ := Bool.and_eq_true_iff.mp h
  obtain ⟨h2, h⟩ := Bool.and_eq_true_iff.mp h
  obtain ⟨h3, h4⟩ := Bool.and_eq_true_iff.mp h
  rcases he with rfl | rfl
  · exact ⟨chk_ok h1, chk_ok h3⟩
  · exact ⟨chk_ok h2, chk_ok h4⟩
end Mine
end
section
open PySem PySem.W PyProof.Rows PyProof.V
set_option Elab.async false
set_option maxRecDepth 20000
set_option linter.unusedSimpArgs false
namespace Mine
/-! words: signs that are all escaped -/
noncomputable def wc (c : Nat) : Prop := c = 61 ∨ (127 ≤ c ∧ c < 256)
theorem wc_lt {c : Nat} (h : wc c) : c < 256 ∧ c ≠ 9 ∧ c ≠ 10 ∧ c ≠ 32 ∧ c ≠ 105 ∧ c ≠ 102 := by
  rcases h with rfl | ⟨h1, h2⟩
  · decide
  · lia
theorem trC_w {c : Nat} (h : wc c) : trC c = hexQ c := by
  rcases h with rfl | ⟨h1, h2⟩
  · rfl
  · unfold trC
    rw [if_neg]
    · rfl
    · simp only [Bool.or_eq_true, Bool.and_eq_true, decide_eq_true_eq, beq_iff_eq, not_or]
      lia
theorem trC_ws {w : List Nat} (h : ∀ c ∈ w, wc c) : w.flatMap trC = w.flatMap hexQ := by
  induction w with
  | nil => rfl
  | cons a r ih => rw [List.flatMap_cons, List.flatMap_cons, trC_w (h a (.head _)), ih fun c hc => h c (.tail _ hc)]
theorem word_w {w : List Nat} (h : ∀ c ∈ w, wc c) : wordOf w = w := by
  rw [wordOf_eq, List.filter_eq_self]
  intro c hc
  have := (wc_lt (h c hc)).2.2.2.1
  simpa using this
theorem not_if {w : List Nat} (h0 : w ≠ []) (h : ∀ c ∈ w, wc c) : ¬ (wordOf w = [] ∨ wordOf w = [105, 102]) := by
  rw [word_w h]
  rintro (e | e)
  · exact h0 e
  · subst e
    exact (wc_lt (h 105 (.head _))).2.2.2.2.1 rfl
theorem rows_w {size : Nat} {w : List Nat} (h0 : w ≠ []) (h : ∀ c ∈ w, wc c) : rowsS size w = chunkS size w.length w := by
  unfold rowsS
  rw [if_neg (not_if h0 h), word_w h]
theorem body_w {w : List Nat} {s : Bool} (h0 : w ≠ []) (h : ∀ c ∈ w, wc c) : bodyS w s = w.flatMap hexQ := if_neg (not_if h0 h)
theorem hexV_tab16 : ((List.range 16).all fun n => hexV (hexD n) == some n && (decide (hexD n ≠ 61) && (decide (hexD n ≠ 32) && (!isNl (hexD n) && (!isSp (hexD n) && decide (hexD n < 128)))))) = true := by decide +kernel
theorem hexD_ok {n : Nat} (h : n < 16) : hexV (hexD n) = some n ∧ hexD n ≠ 61 ∧ hexD n ≠ 32 ∧ isNl (hexD n) = false ∧ isSp (hexD n) = false ∧ hexD n < 128 := by
  have h := List.all_eq_true.mp hexV_tab16 n (List.mem_range.mpr h)
  simp only [Bool.and_eq_true, beq_iff_eq, decide_eq_true_eq, Bool.not_eq_true'] at h
  exact ⟨h.1, h.2.1, h.2.2.1, h.2.2.2.1, h.2.2.2.2.1, h.2.2.2.2.2⟩
theorem decS_hex {c : Nat} (h : c < 256) (r : List Nat) : decS [9] (hexQ c ++ r) = c :: (if r = [] then [9] else decS [9] r) := by
  have h1 := (hexD_ok (show c / 16 < 16 by lia)).1
  have h2 := (hexD_ok (show c % 16 < 16 by lia)).1
  show decS [9] (61 :: hexD (c / 16) :: hexD (c % 16) :: r) = _
  rw [decS, if_pos rfl, h1, h2]
  show (16 * (c / 16) + c % 16) :: _ = _
  rw [Nat.div_add_mod]
theorem decS_w (w : List Nat) (h0 : w ≠ []) (h : ∀ c ∈ w, wc c) : decS [9] (w.flatMap hexQ) = w ++ [9] ∧ decS [9] (w.flatMap hexQ ++ [61]) = w := by
  induction w with
  | nil => exact absurd rfl h0
  | cons a r ih =>
    have ha := (wc_lt (h a (.head _))).1
    rw [List.flatMap_cons, List.append_assoc, decS_hex ha, decS_hex ha, if_neg (show ¬ (r.flatMap hexQ ++ [61] = []) by simp)]
    cases r with
    | nil => exact ⟨rfl, rfl⟩
    | cons b r =>
      obtain ⟨i1, i2⟩ := ih (by simp) fun c hc => h c (.tail _ hc)
      rw [i1, i2, if_neg (by simp [hexQ])]
      exact ⟨rfl, rfl⟩
theorem rstr_last (l : List Nat) {c : Nat} (h : isSp c = false) : rstr (l ++ [c]) = l ++ [c] := by
  unfold rstr
  rw [List.reverse_append, List.reverse_singleton, List.singleton_append, List.dropWhile_cons_of_neg (by rw [h]; decide), List.reverse_cons, List.reverse_reverse]
theorem hex_last (w : List Nat) (h0 : w ≠ []) (h : ∀ c ∈ w, wc c) : ∃ i n, n < 16 ∧ w.flatMap hexQ = i ++ [hexD n] := by
  rcases List.eq_nil_or_concat w with rfl | ⟨i, a, rfl⟩
  · exact absurd rfl h0
  · rw [List.concat_eq_append]
    exact ⟨i.flatMap hexQ ++ [61, hexD (a / 16)], a % 16, Nat.mod_lt _ (by decide), by rw [List.flatMap_append, List.append_assoc]; rfl⟩
theorem hex_ch (w : List Nat) (h : ∀ c ∈ w, wc c) : ∀ c ∈ w.flatMap hexQ, isNl c = false ∧ c < 128 := by
  intro c hc
  obtain ⟨a, ha, hc⟩ := List.mem_flatMap.mp hc
  have hl := (wc_lt (h a ha)).1
  simp only [hexQ, List.mem_cons, List.not_mem_nil, or_false] at hc
  rcases hc with rfl | rfl | rfl
  · exact ⟨rfl, by decide⟩
  · exact ⟨(hexD_ok (by lia)).2.2.2.1, (hexD_ok (by lia)).2.2.2.2.2⟩
  · exact ⟨(hexD_ok (by lia)).2.2.2.1, (hexD_ok (by lia)).2.2.2.2.2⟩
/-- a row of a word -/
theorem row_w {w : List Nat} {s : Bool} (h0 : w ≠ []) (hl : w.length ≤ 3) (h : ∀ c ∈ w, wc c) :
    (w.length ≤ 14 ∧ (∀ c ∈ w, c < 256) ∧ (∀ c ∈ bodyS w s, isNl c = false ∧ c < 128) ∧ (s = false → (bodyS w s).getLast? ≠ some 61)) ∧ decR [9] (writtenS w s) = (if s then w else w ++ [9]) ∧ decR [9] (rowL (bodyS w s, s)) = readS (w, s) ++ [9] ∧ (bodyS w s).length = 3 * w.length := by
  have hb := body_w (s := s) h0 h
  obtain ⟨i, n, hn, hi⟩ := hex_last w h0 h
  obtain ⟨d1, d2⟩ := decS_w w h0 h
  have hx := hexD_ok hn
  have hrs : readS (w, s) = w := if_neg fun e => h0 (by rw [← word_w h]; exact e.2)
  have r1 : decR [9] (w.flatMap hexQ) = w ++ [9] := by
    unfold decR
    rw [hi, rstr_last i hx.2.2.2.2.1, ← hi, if_neg (by rw [hi]; simp), d1]
  refine ⟨⟨by exact Nat.le_trans ‹_› (by decide), fun c hc => (wc_lt (h c hc)).1, by rw [hb]; exact hex_ch w h, fun _ => ?_⟩, ?_, ?_, by rw [hb, hexQ_len]⟩
  · rw [hb, hi, List.getLast?_append]
    intro e
    exact hx.2.1 (Option.some.inj e)
  · unfold writtenS
    rw [hb]
    cases s with
    | false => exact r1
    | true =>
      show decR [9] (w.flatMap hexQ ++ [61]) = w
      unfold decR
      rw [rstr_last _ rfl, if_neg (by simp), d2]
  · rw [hb, hrs]
    cases s with
    | false => exact r1
    | true =>
      show decR [9] (w.flatMap hexQ ++ [9]) = w ++ [9]
      have e : rstr (w.flatMap hexQ ++ [9]) = w.flatMap hexQ := by
        unfold rstr
        rw [List.reverse_append, List.reverse_singleton, List.singleton_append, List.dropWhile_cons_of_pos rfl, hi, List.reverse_append, List.reverse_singleton, List.singleton_append, List.dropWhile_cons_of_neg (by rw [hx.2.2.2.2.1]; decide), List.reverse_cons, List.reverse_reverse]
      unfold decR
      rw [e, if_neg (by rw [hi]; simp), d1]
end Mine
end
section
open PySem PySem.W PyProof.Rows PyProof.V
set_option Elab.async false
set_option maxRecDepth 20000
set_option linter.unusedSimpArgs false
namespace Mine
theorem encW_f (size f : Nat) (r : List Nat) (h : r.length < size + 2) : encW size f r = ([], r) := by
  cases f with
  | zero => rfl
  | succ f => rw [encW, if_neg (Nat.not_le.mpr h)]
theorem encW_s (size f : Nat) (r : List Nat) (k : Nat) (o : List Nat) (h : size + 2 ≤ r.length) (hs : stepW size r = (k, o)) : encW size (f + 1) r = (o :: (encW size f (r.drop k)).1, (encW size f (r.drop k)).2) := by
  rw [encW, if_pos h, hs]
theorem tail_n (size : Nat) (eol r line : List Nat) (h : line.getLast? ≠ some 32) : tailL size eol r line = r := if_neg h
section
variable {a b c d e f : Nat} (ha : a ≠ 61) (hb : b ≠ 61) (hc : c ≠ 61) (hd : d ≠ 61) (he : e ≠ 61)
theorem step_1 {size : Nat} {r : List Nat} (h : r[size - 2]? = some 61) : stepW size r = (size - 2, r.take (size - 1)) := if_pos h
theorem step_2 {size : Nat} {r : List Nat} {x : Nat} (h : r[size - 2]? = some x) (hx : x ≠ 61) (h2 : r[size - 1]? = some 61) : stepW size r = (size - 1, r.take size) := (if_neg (by rw [h]; exact fun e => hx (Option.some.inj e))).trans (if_pos h2)
theorem step_3 {size : Nat} {r : List Nat} {x y : Nat} (h : r[size - 2]? = some x) (hx : x ≠ 61) (h2 : r[size - 1]? = some y) (hy : y ≠ 61) : stepW size r = (size, r.take size ++ [61]) := (if_neg (by rw [h]; exact fun e => hx (Option.some.inj e))).trans (if_neg (by rw [h2]; exact fun e => hy (Option.some.inj e)))
include ha hb hc hd in
theorem encs : (encW 3 9 [61, a, b, 61, c, d, 61, e, f] = ([[61, a, b, 61], [61, c, d, 61]], [61, e, f]) ∧ encW 4 9 [61, a, b, 61, c, d, 61, e, f] = ([[61, a, b, 61], [61, c, d, 61]], [61, e, f]) ∧ encW 5 9 [61, a, b, 61, c, d, 61, e, f] = ([[61, a, b, 61]], [61, c, d, 61, e, f]) ∧ encW 6 9 [61, a, b, 61, c, d, 61, e, f] = ([[61, a, b, 61, c, d, 61]], [61, e, f])) ∧
    (encW 3 6 [61, a, b, 61, c, d] = ([[61, a, b, 61]], [61, c, d]) ∧ encW 4 6 [61, a, b, 61, c, d] = ([[61, a, b, 61]], [61, c, d]) ∧ encW 5 6 [61, a, b, 61, c, d] = ([], [61, a, b, 61, c, d]) ∧ encW 6 6 [61, a, b, 61, c, d] = ([], [61, a, b, 61, c, d])) := by
  refine ⟨⟨?_, ?_, ?_, ?_⟩, ?_, ?_, encW_f _ _ _ (Nat.le_of_ble_eq_true rfl), encW_f _ _ _ (Nat.le_of_ble_eq_true rfl)⟩
  · rw [encW_s 3 8 _ 3 [61, a, b, 61] (Nat.le_of_ble_eq_true rfl) (step_3 rfl ha rfl hb), show [61, a, b, 61, c, d, 61, e, f].drop 3 = [61, c, d, 61, e, f] from rfl, encW_s 3 7 _ 3 [61, c, d, 61] (Nat.le_of_ble_eq_true rfl) (step_3 rfl hc rfl hd)]
    rw [show [61, c, d, 61, e, f].drop 3 = [61, e, f] from rfl, encW_f 3 7 _ (Nat.le_of_ble_eq_true rfl)]
  · rw [encW_s 4 8 _ 3 [61, a, b, 61] (Nat.le_of_ble_eq_true rfl) (step_2 rfl hb rfl), show [61, a, b, 61, c, d, 61, e, f].drop 3 = [61, c, d, 61, e, f] from rfl, encW_s 4 7 _ 3 [61, c, d, 61] (Nat.le_of_ble_eq_true rfl) (step_2 rfl hd rfl)]
    rw [show [61, c, d, 61, e, f].drop 3 = [61, e, f] from rfl, encW_f 4 7 _ (Nat.le_of_ble_eq_true rfl)]
  · rw [encW_s 5 8 _ 3 [61, a, b, 61] (Nat.le_of_ble_eq_true rfl) (step_1 rfl), show [61, a, b, 61, c, d, 61, e, f].drop 3 = [61, c, d, 61, e, f] from rfl, encW_f 5 8 _ (Nat.le_of_ble_eq_true rfl)]
  · rw [encW_s 6 8 _ 6 [61, a, b, 61, c, d, 61] (Nat.le_of_ble_eq_true rfl) (step_3 rfl hc rfl hd), show [61, a, b, 61, c, d, 61, e, f].drop 6 = [61, e, f] from rfl, encW_f 6 8 _ (Nat.le_of_ble_eq_true rfl)]
  · rw [encW_s 3 5 _ 3 [61, a, b, 61] (Nat.le_of_ble_eq_true rfl) (step_3 rfl ha rfl hb), show [61, a, b, 61, c, d].drop 3 = [61, c, d] from rfl, encW_f 3 5 _ (Nat.le_of_ble_eq_true rfl)]
  · rw [encW_s 4 5 _ 3 [61, a, b, 61] (Nat.le_of_ble_eq_true rfl) (step_2 rfl hb rfl), show [61, a, b, 61, c, d].drop 3 = [61, c, d] from rfl, encW_f 4 5 _ (Nat.le_of_ble_eq_true rfl)]
end
theorem enc_of {size : Nat} {eol l : List Nat} {A : List (List Nat)} {r : List Nat} (h : encW size l.length l = (A, r)) (hl : l.getLast? ≠ some 32) : encL size eol l = A ++ [r] := by
  unfold encL
  rw [h, tail_n _ _ _ _ hl]
theorem written_w {w : List Nat} {s : Bool} (h0 : w ≠ []) (h : ∀ c ∈ w, wc c) : writtenS w s = if s then w.flatMap hexQ ++ [61] else w.flatMap hexQ := by
  unfold writtenS
  rw [body_w h0 h]
theorem enc_w {size : Nat} {eol w : List Nat} (h3 : 3 ≤ size) (h6 : size ≤ 6) (h0 : w ≠ []) (hl : w.length ≤ 3) (h : ∀ c ∈ w, wc c) : encL size eol (w.flatMap trC) = (rowsS size w).map fun r => writtenS r.1 r.2 := by
  rw [trC_ws h, rows_w h0 h]
  have hlast : (w.flatMap hexQ).getLast? ≠ some 32 := by
    obtain ⟨i, n, hn, hi⟩ := hex_last w h0 h
    rw [hi, List.getLast?_append]
    exact fun e => (hexD_ok hn).2.2.1 (Option.some.inj e)
  have hx : ∀ {x : Nat}, wc x → hexD (x / 16) ≠ 61 ∧ hexD (x % 16) ≠ 61 := fun h => ⟨(hexD_ok (by have := (wc_lt h).1; lia)).2.1, (hexD_ok (by lia)).2.1⟩
  have one : ∀ {x : Nat} {s : Bool}, wc x → writtenS [x] s = if s then hexQ x ++ [61] else hexQ x := fun h => by
    rw [written_w (by simp) (by simpa using h)]; rfl
  have two : ∀ {x y : Nat} {s : Bool}, wc x → wc y → writtenS [x, y] s = if s then hexQ x ++ hexQ y ++ [61] else hexQ x ++ hexQ y := fun h k => by
    rw [written_w (by simp) (by simpa using ⟨h, k⟩)]; rfl
  match w, h0, hl, h, hlast with
  | [x], _, _, h, hlast =>
    have h1 := h x (.head _)
    rw [enc_of (A := []) (r := [x].flatMap hexQ) (encW_f _ _ _ (show 3 < size + 2 by lia)) hlast, List.length_singleton, chunkS, if_neg (by rw [List.length_singleton]; lia), List.map_singleton, one h1]
    rfl
  | [x, y], _, _, h, hlast =>
    have h1 := h x (.head _)
    have h2 := h y (.tail _ (.head _))
    obtain ⟨_, e3, e4, e5, e6⟩ := encs (e := 0) (f := 0) (hx h1).1 (hx h1).2 (hx h2).1 (hx h2).2
    rcases (show size = 3 ∨ size = 4 ∨ size = 5 ∨ size = 6 by lia) with rfl | rfl | rfl | rfl
    · rw [enc_of e3 hlast]; show _ = [writtenS [x] true, writtenS [y] false]; rw [one h1, one h2]; rfl
    · rw [enc_of e4 hlast]; show _ = [writtenS [x] true, writtenS [y] false]; rw [one h1, one h2]; rfl
    · rw [enc_of e5 hlast]; show _ = [writtenS [x, y] false]; rw [two h1 h2]; rfl
    · rw [enc_of e6 hlast]; show _ = [writtenS [x, y] false]; rw [two h1 h2]; rfl
  | [x, y, z], _, _, h, hlast =>
    have h1 := h x (.head _)
    have h2 := h y (.tail _ (.head _))
    have h3' := h z (.tail _ (.tail _ (.head _)))
    obtain ⟨⟨e3, e4, e5, e6⟩, _⟩ := encs (e := hexD (z / 16)) (f := hexD (z % 16)) (hx h1).1 (hx h1).2 (hx h2).1 (hx h2).2
    rcases (show size = 3 ∨ size = 4 ∨ size = 5 ∨ size = 6 by lia) with rfl | rfl | rfl | rfl
    · rw [enc_of e3 hlast]; show _ = [writtenS [x] true, writtenS [y] true, writtenS [z] false]; rw [one h1, one h2, one h3']; rfl
    · rw [enc_of e4 hlast]; show _ = [writtenS [x] true, writtenS [y] true, writtenS [z] false]; rw [one h1, one h2, one h3']; rfl
    · rw [enc_of e5 hlast]; show _ = [writtenS [x] true, writtenS [y, z] false]; rw [one h1, two h2 h3']; rfl
    · rw [enc_of e6 hlast]; show _ = [writtenS [x, y] true, writtenS [z] false]; rw [two h1 h2, one h3']; rfl
theorem chunk_dec {size : Nat} (h3 : 3 ≤ size) : ∀ (f : Nat) (w : List Nat), w ≠ [] → w.length ≤ f → ∃ R t, chunkS size f w = R.map (fun u => (u, true)) ++ [(t, false)] ∧ (∀ u ∈ R ++ [t], u ≠ [] ∧ (∀ c ∈ u, c ∈ w) ∧ u.length ≤ w.length) ∧ R.flatten ++ t = w ∧ R.length + 1 ≤ w.length := by
  intro f
  induction f with
  | zero => exact fun w h0 hl => absurd (List.length_eq_zero_iff.mp (Nat.le_zero.mp hl)) h0
  | succ f ih =>
    intro w h0 hl
    have hp : 0 < w.length := List.length_pos_iff.mpr h0
    by_cases hc : size + 1 < 3 * w.length
    · have hk : 1 ≤ size / 3 := Nat.div_pos h3 (by decide)
      have hd : (w.drop (size / 3)).length + size / 3 = w.length := by rw [List.length_drop]; lia
      obtain ⟨R, t, e1, e2, e3, e4⟩ := ih (w.drop (size / 3)) (fun e => by rw [e, List.length_nil] at hd; lia) (by lia)
      refine ⟨w.take (size / 3) :: R, t, ?_, ?_, ?_, by rw [List.length_cons]; lia⟩
      · rw [chunkS, if_pos hc, e1]; rfl
      · intro u hu
        rcases List.mem_cons.mp hu with rfl | hu
        · refine ⟨fun e => ?_, fun c hc => List.mem_of_mem_take hc, by rw [List.length_take]; lia⟩
          have := congrArg List.length e
          rw [List.length_take, List.length_nil] at this
          lia
        · obtain ⟨k1, k2, k3⟩ := e2 u hu
          exact ⟨k1, fun c hc => List.mem_of_mem_drop (k2 c hc), by lia⟩
      · rw [List.flatten_cons, List.append_assoc, e3, List.take_append_drop]
    · refine ⟨[], w, ?_, ?_, rfl, hp⟩
      · rw [chunkS, if_neg hc]; rfl
      · intro u hu
        rw [List.nil_append, List.mem_singleton] at hu
        subst hu
        exact ⟨h0, fun c hc => hc, Nat.le_refl _⟩
theorem sum_bound {α : Type} {f : α → Nat} {k : Nat} {l : List α} (h : ∀ x ∈ l, f x ≤ k) : (l.map f).sum ≤ k * l.length := by
  induction l with
  | nil => exact Nat.le_refl _
  | cons a r ih =>
    rw [List.map_cons, List.sum_cons, List.length_cons, Nat.mul_succ, Nat.add_comm]
    exact Nat.add_le_add (ih fun x hx => h x (.tail _ hx)) (h a (.head _))
theorem part_w {size : Nat} {eol w : List Nat} (h3 : 3 ≤ size) (h6 : size ≤ 6) (h0 : w ≠ []) (hl : w.length ≤ 3) (h : ∀ c ∈ w, wc c) :
    PartOk size eol w ∧ LastOk size w ∧ ∃ us : List (List Nat), (rowsS size w).map readS = us ∧ us ≠ [] ∧ us.flatten = w ∧ ∀ u ∈ us, u ≠ [] ∧ u.length ≤ 3 ∧ ∀ c ∈ u, wc c := by
  obtain ⟨R, t, e1, e2, e3, e4⟩ := chunk_dec h3 w.length w h0 (Nat.le_refl _)
  have hr : rowsS size w = R.map (fun u => (u, true)) ++ [(t, false)] := (rows_w h0 h).trans e1
  have row : ∀ r ∈ rowsS size w, r.1 ≠ [] ∧ r.1.length ≤ 3 ∧ (∀ c ∈ r.1, wc c) := fun r hm => by
    rw [hr] at hm
    have hu : r.1 ∈ R ++ [t] := by
      rcases List.mem_append.mp hm with hm | hm
      · obtain ⟨u, hu, rfl⟩ := List.mem_map.mp hm
        exact List.mem_append_left _ hu
      · rw [List.mem_singleton] at hm; subst hm; exact List.mem_append_right _ (.head _)
    obtain ⟨k1, k2, k3⟩ := e2 _ hu
    exact ⟨k1, Nat.le_trans k3 hl, fun c hc => h c (k2 c hc)⟩
  have rw' : ∀ r ∈ rowsS size w, _ := fun r hm => row_w (s := r.2) (row r hm).1 (row r hm).2.1 (row r hm).2.2
  have hlen : (rowsS size w).length ≤ 3 := by rw [hr, List.length_append, List.length_map, List.length_singleton]; lia
  refine ⟨⟨by rw [enc_w h3 h6 h0 hl h], by rw [trC_ws h]; exact fun c hc => (hex_ch w h c hc).1, fun c hc => ⟨(wc_lt (h c hc)).1, (wc_lt (h c hc)).2.1, (wc_lt (h c hc)).2.2.1⟩, Nat.le_trans hl (by decide), fun r hm => (rw' r hm).1, ?_, fun r hm => (rw' r hm).2.2.1, ?_, ?_, Nat.le_trans hlen (by decide)⟩, ⟨?_, _, t, hr, ?_⟩, _, rfl, ?_, ?_, ?_⟩
  · have e : (rowsS size w).flatMap (fun r => decR [9] (writtenS r.1 r.2)) = (rowsS size w).flatMap (fun r => if r.2 then r.1 else r.1 ++ [9]) := by
      rw [List.flatMap_def, List.flatMap_def]
      exact congrArg List.flatten (List.map_congr_left fun r hm => (rw' r hm).2.1)
    have e' : R.flatMap (fun u => if (u, true).2 = true then (u, true).1 else (u, true).1 ++ [9]) = R.flatten := by
      rw [List.flatMap_def]
      exact congrArg List.flatten (List.map_id _)
    rw [e, hr, List.flatMap_append, List.flatMap_map, List.flatMap_singleton, e', if_neg Bool.false_ne_true, ← List.append_assoc, e3]
  · rw [hr, List.getLast?_append]; rfl
  · refine Nat.le_trans (sum_bound (k := 12) fun r hm => ?_) (by lia)
    have := (rw' r hm).2.2.2
    have := (row r hm).2.1
    lia
  · rw [trC_ws h]
    obtain ⟨i, n, _, hi⟩ := hex_last w h0 h
    rw [hi]
    simp
  · have hm : (t, false) ∈ rowsS size w := by rw [hr]; exact List.mem_append_right _ (.head _)
    have := row _ hm
    obtain ⟨i, n, _, hi⟩ := hex_last t this.1 this.2.2
    rw [body_w this.1 this.2.2, hi]
    simp
  · rw [hr]; simp
  · have e : (rowsS size w).map readS = (rowsS size w).map Prod.fst := List.map_congr_left fun r hm => if_neg fun e => (row r hm).1 (by rw [← word_w (row r hm).2.2]; exact e.2)
    rw [e, hr, List.map_append, List.map_map, List.flatten_append, show R.map (Prod.fst ∘ fun u => (u, true)) = R from List.map_id _]
    show R.flatten ++ (t ++ []) = w
    rw [List.append_nil, e3]
  · intro u hu
    obtain ⟨r, hm, rfl⟩ := List.mem_map.mp hu
    have k := row r hm
    have e : readS r = r.1 := if_neg fun e => k.1 (by rw [← word_w k.2.2]; exact e.2)
    rw [e]
    exact k
end Mine
end
section
open PySem PySem.W PyProof.Rows PyProof.V
set_option Elab.async false
set_option maxRecDepth 20000
set_option linter.unusedSimpArgs false
namespace Mine
theorem sumR_app (f : Nat → Nat) (a b : List Nat) : sumR f (a ++ b) = sumR f a + sumR f b := by
  induction a with
  | nil => exact (Nat.zero_add _).symm
  | cons x a ih => rw [List.cons_append, sumR, sumR, ih, Nat.add_assoc]
theorem sumR_rep (f : Nat → Nat) (n x : Nat) : sumR f (List.replicate n x) = n * f x := by
  induction n with
  | zero => exact (Nat.zero_mul _).symm
  | succ n ih => rw [List.replicate_succ, sumR, ih, Nat.succ_mul, Nat.add_comm]
theorem sumR_flat (f : Nat → Nat) (g : Nat → List Nat) (l : List Nat) : sumR f (l.flatMap g) = sumR (fun a => sumR f (g a)) l := by
  induction l with
  | nil => rfl
  | cons a l ih => rw [List.flatMap_cons, sumR_app, ih, sumR]
theorem sumR_le {f g : Nat → Nat} (l : List Nat) (h : ∀ a, f a ≤ g a) : sumR f l ≤ sumR g l := by
  induction l with
  | nil => exact Nat.le_refl _
  | cons a l ih => exact Nat.add_le_add (h a) ih
theorem sumR_add (f g : Nat → Nat) (l : List Nat) : sumR (fun a => f a + g a) l = sumR f l + sumR g l := by
  induction l with
  | nil => rfl
  | cons a l ih => rw [sumR, sumR, sumR, ih]; lia
theorem sumR_one (l : List Nat) : sumR (fun _ => 1) l = l.length := by
  induction l with
  | nil => rfl
  | cons a l ih => rw [sumR, ih, List.length_cons]; lia
noncomputable def spl (size a : Nat) : List Nat := List.replicate (a / size) 0 ++ [a % size]
noncomputable def rs2 (size : Nat) (rs : List Nat) (c : Nat) : List Nat := rs.flatMap (spl size) ++ List.replicate (c / size) 0
noncomputable def Od (d a : Nat) : Nat := (a / d + 1) * d
noncomputable def Nd (size d a : Nat) : Nat := (a / size + a % size / d + 1) * d
theorem I_old (rs : List Nat) (c d : Nat) : I rs c d = sumR (Od d) rs + c := rfl
theorem I_new (size : Nat) (rs : List Nat) (c d : Nat) (hd : 0 < d) : I (rs2 size rs c) (c % size) d = sumR (Nd size d) rs + (c / size * d + c % size) := by
  have h0 : (0 / d + 1) * d = d := by rw [Nat.zero_div, Nat.zero_add, Nat.one_mul]
  have e : ∀ a, sumR (fun a => (a / d + 1) * d) (spl size a) = Nd size d a := fun a => by
    unfold spl Nd
    rw [sumR_app, sumR_rep, h0]
    show a / size * d + ((a % size / d + 1) * d + 0) = _
    rw [Nat.add_zero, ← Nat.add_mul, Nat.add_assoc]
  unfold I rs2
  rw [sumR_app, sumR_flat, sumR_rep, h0, Nat.add_assoc]
  exact congrArg (fun x => x + _) (congrArg (fun f => sumR f rs) (funext e))
section
variable {size d : Nat} (hs : 0 < size) (hd : 0 < d)
include hd in
theorem Nd_le (h : d ≤ size) (a : Nat) : Nd size d a ≤ Od d a := by
  refine Nat.mul_le_mul_right _ (Nat.succ_le_succ ?_)
  rw [← Nat.mul_add_div hd]
  refine Nat.div_le_div_right ?_
  have := Nat.div_add_mod a size
  have := Nat.mul_le_mul_right (a / size) h
  lia
include hs in
theorem Od_le (h : size ≤ d) (a : Nat) : Od d a ≤ Nd size d a := by
  refine Nat.mul_le_mul_right _ (Nat.succ_le_succ (Nat.le_trans (Nat.div_le_div_left h hs) (Nat.le_add_right _ _)))
theorem Od_1 (a : Nat) : Od 1 a = a + 1 := by unfold Od; rw [Nat.div_one, Nat.mul_one]
theorem Nd_1 (a : Nat) : Nd size 1 a = a / size + a % size + 1 := by unfold Nd; rw [Nat.div_one, Nat.mul_one]
include hd in
theorem fill_le (a : Nat) : Od d a + Nd size 1 a ≤ Nd size d a + Od 1 a := by
  rw [Od_1, Nd_1]
  unfold Od Nd
  rw [Nat.add_mul, Nat.add_mul, Nat.add_mul, Nat.one_mul]
  have h1 := Nat.div_add_mod' a d
  have h2 := Nat.div_add_mod' (a % size) d
  have h4 := Nat.mod_lt (a % size) hd
  rcases Nat.eq_zero_or_pos (a / size) with h | h
  · have h3 : a % size = a := by have := Nat.div_add_mod a size; rw [h, Nat.mul_zero, Nat.zero_add] at this; exact this
    rw [h, h3, Nat.zero_mul]
    lia
  · have h3 := Nat.div_add_mod' a size
    obtain ⟨q, hq⟩ : ∃ q, a / size = q + 1 := ⟨a / size - 1, by lia⟩
    rw [hq] at h3 ⊢
    have h5 : q * 1 ≤ q * d := Nat.mul_le_mul_left q hd
    rw [Nat.add_mul, Nat.one_mul] at h3 ⊢
    lia
end
section
variable {size : Nat} (rs : List Nat) (c : Nat) {d : Nat}
theorem T1 (hd : 0 < d) (h : d ≤ size) : I (rs2 size rs c) (c % size) d ≤ I rs c d := by
  rw [I_new size rs c d hd, I_old]
  have h1 := sumR_le rs (Nd_le hd h)
  have h2 := Nat.div_add_mod c size
  have h3 := Nat.mul_le_mul_left (c / size) h
  rw [Nat.mul_comm size] at h2
  lia
theorem T2 (hs : 0 < size) (h : size ≤ d) : I rs c d ≤ I (rs2 size rs c) (c % size) d := by
  rw [I_new size rs c d (Nat.lt_of_lt_of_le hs h), I_old]
  have h1 := sumR_le rs (Od_le hs h)
  have h2 := Nat.div_add_mod c size
  have h3 := Nat.mul_le_mul_left (c / size) h
  rw [Nat.mul_comm size] at h2
  lia
theorem T3 (hd : 0 < d) : I rs c d + I (rs2 size rs c) (c % size) 1 ≤ I (rs2 size rs c) (c % size) d + I rs c 1 := by
  rw [I_new size rs c d hd, I_new size rs c 1 (by decide), I_old, I_old]
  have h1 := sumR_le rs (fill_le (size := size) hd)
  rw [sumR_add, sumR_add] at h1
  have h3 : c / size * 1 ≤ c / size * d := Nat.mul_le_mul_left (c / size) hd
  lia
noncomputable def Qs (size : Nat) (rs : List Nat) (c : Nat) : Nat := sumR (· / size) rs + c / size
theorem len_rs2 : (rs2 size rs c).length = rs.length + Qs size rs c := by
  rw [← sumR_one, ← sumR_one rs]
  unfold rs2 Qs
  rw [sumR_app, sumR_flat, sumR_rep, Nat.mul_one]
  have e : ∀ a, sumR (fun _ => 1) (spl size a) = 1 + a / size := fun a => by
    rw [sumR_one]
    unfold spl
    rw [List.length_append, List.length_replicate, List.length_singleton, Nat.add_comm]
  rw [show sumR (fun a => sumR (fun _ => 1) (spl size a)) rs = sumR (fun a => 1 + a / size) rs from congrArg (fun f => sumR f rs) (funext e), sumR_add, Nat.add_assoc]
theorem same_rs2 (h : Qs size rs c = 0) : rs2 size rs c = rs ∧ c % size = c := by
  unfold Qs at h
  have hc : c / size = 0 := (Nat.add_eq_zero_iff.mp h).2
  have hcm : ∀ {a : Nat}, a / size = 0 → a % size = a := fun {a} h => by have := Nat.div_add_mod a size; rw [h, Nat.mul_zero, Nat.zero_add] at this; exact this
  refine ⟨?_, hcm hc⟩
  have hr : sumR (· / size) rs = 0 := (Nat.add_eq_zero_iff.mp h).1
  unfold rs2
  rw [hc, List.replicate_zero, List.append_nil]
  clear h hc
  induction rs with
  | nil => rfl
  | cons a r ih =>
    rw [sumR] at hr
    rw [List.flatMap_cons, ih (Nat.add_eq_zero_iff.mp hr).2]
    have ha : a / size = 0 := (Nat.add_eq_zero_iff.mp hr).1
    unfold spl
    rw [ha, hcm ha]
    rfl
end
theorem mk_inj_len {rs qs : List Nat} {c e : Nat} (h : mk rs c = mk qs e) : rs.length = qs.length := by
  rw [← count_mk rs c, h, count_mk]
theorem mk_head (a : Nat) (r : List Nat) (c : Nat) : [32] ++ mk (a :: r) c = mk ((a + 1) :: r) c := by rw [mk_cons, mk_cons]; rfl
theorem mk_add (rs : List Nat) (c n : Nat) : mk rs c ++ bl n = mk rs (c + n) := by
  unfold mk
  rw [List.append_assoc, List.replicate_append_replicate]
theorem I_add (rs : List Nat) (c n d : Nat) : I rs (c + n) d = I rs c d + n := by unfold I; rw [Nat.add_assoc]
end Mine
end
section
open PySem PySem.W PyProof.Rows PyProof.V
set_option Elab.async false
set_option maxRecDepth 20000
set_option linter.unusedSimpArgs false
namespace Mine
theorem stop_if (u : List Nat) : stopW ([105, 102] ++ u) := by
  intro c r e
  cases e
  exact ⟨by decide, by decide⟩
theorem mk_ch {rs : List Nat} {c x : Nat} (h : x ∈ mk rs c) : x = 32 ∨ x = 9 := by
  unfold mk at h
  rcases List.mem_append.mp h with h | h
  · obtain ⟨a, _, h⟩ := List.mem_flatMap.mp h
    rcases List.mem_append.mp h with h | h
    · exact .inl (bl_mem h)
    · rw [List.mem_singleton] at h; exact .inr h
  · exact .inl (bl_mem h)
theorem split_if {rs : List Nat} {c : Nat} {u : List Nat} (h : 105 ∉ u) : splitG [105, 102] 0 (mk rs c ++ ([105, 102] ++ u)) = [mk rs c, u] := by
  have e1 : splitG [105, 102] 0 u = [u] := split_joinY (y0 := 105) (yt := [102]) [u] (by simp) (by simpa using h)
  have e2 : splitG [105, 102] 0 ([105, 102] ++ u) = [] :: [u] := (split_hitY (y0 := 105) (yt := [102]) (r := u)).trans (by rw [e1])
  have := split_app (y0 := 105) (yt := [102]) (a := mk rs c) (fun h => by rcases mk_ch h with h | h <;> exact absurd h (by decide)) e2
  rw [List.append_nil] at this
  exact this
/-- a witness list, told by the table -/
theorem wit_tab {rs qs : List Nat} {c e M : Nat} {w v : List Nat} (h : stopW w) (h' : stopW v) (hr : rs ≠ []) (hq : qs ≠ []) (hM : M = max (max (maxN rs) c) (max (maxN qs) e) + 1) (f : Int → Int → Bool) (p : Tr → Bool) (g : Tr → Tr) (t : Nat → Tr)
    (ht : ∀ d, 0 < d → f (I rs c d : Nat) (I qs e d : Nat) = p (t d) ∧ g (t d) = ((d : Int), ((I rs c d : Nat) : Int), ((I qs e d : Nat) : Int))) :
    witT (wsOf (mk rs c ++ w)) (wsOf (mk qs e ++ v)) (fun ts => f ((wsOf (mk rs c ++ w)).ind ts) ((wsOf (mk qs e ++ v)).ind ts)) = (((List.range M).map fun k => t (1 + k)).filter p).map g := by
  unfold witT
  rw [topN_mk h h' hr hq, ← hM]
  have hr2 : rngI 1 ((M : Nat) + 1 : Int) = (List.range M).map fun k => ((1 + k : Nat) : Int) := by
    have := rngI_nat 1 M
    rw [← this]
    congr 1
    push_cast; lia
  rw [hr2]
  generalize List.range M = l
  induction l with
  | nil => rfl
  | cons k l ih =>
    obtain ⟨t1, t2⟩ := ht (1 + k) (by lia)
    rw [List.map_cons, List.map_cons, List.filter_cons, List.filter_cons, ind_mk h hr c (1 + k) (by lia), ind_mk h' hq e (1 + k) (by lia), t1]
    cases p (t (1 + k)) with
    | true =>
      rw [if_pos rfl, if_pos rfl, List.map_cons, List.map_cons, ih, ind_mk h hr c (1 + k) (by lia), ind_mk h' hq e (1 + k) (by lia), t2]
    | false => exact ih
theorem rs2_ne {size : Nat} {rs : List Nat} {c : Nat} (h : rs ≠ []) : rs2 size rs c ≠ [] := by
  intro e
  have := len_rs2 (size := size) rs c
  rw [e, List.length_nil] at this
  have := List.length_pos_iff.mpr h
  lia
theorem I_1 (rs : List Nat) (c : Nat) : I rs c 1 = (mk rs c).length := by
  rw [mk_len]
  unfold I
  exact congrArg (· + c) (congrArg (fun f => sumR f rs) (funext fun a => by rw [Nat.div_one, Nat.mul_one]))
theorem bool_eq {a b : Bool} (h : a = true ↔ b = true) : a = b := Bool.eq_iff_iff.mpr h
theorem mx_ll {a b c d : Nat} : a < max (max a b) (max c d) + 1 := Nat.lt_succ_of_le (Nat.le_trans (Nat.le_max_left _ _) (Nat.le_max_left _ _))
theorem mx_lr {a b c d : Nat} : b < max (max a b) (max c d) + 1 := Nat.lt_succ_of_le (Nat.le_trans (Nat.le_max_right _ _) (Nat.le_max_left _ _))
theorem mx_rl {a b c d : Nat} : c < max (max a b) (max c d) + 1 := Nat.lt_succ_of_le (Nat.le_trans (Nat.le_max_left _ _) (Nat.le_max_right _ _))
theorem mx_rr {a b c d : Nat} : d < max (max a b) (max c d) + 1 := Nat.lt_succ_of_le (Nat.le_trans (Nat.le_max_right _ _) (Nat.le_max_right _ _))
theorem mx_le {a b c d k : Nat} (ha : a ≤ k) (hb : b ≤ k) (hc : c ≤ k) (hd : d ≤ k) : max (max a b) (max c d) + 1 ≤ k + 1 := Nat.succ_le_succ (Nat.max_le.mpr ⟨Nat.max_le.mpr ⟨ha, hb⟩, Nat.max_le.mpr ⟨hc, hd⟩⟩)
theorem mx_up1 (a m : Nat) : max (a + 1) m ≤ max a m + 1 := Nat.max_le.mpr ⟨Nat.succ_le_succ (Nat.le_max_left _ _), Nat.le_succ_of_le (Nat.le_max_right _ _)⟩
theorem iff_le {i j d s : Nat} (h1 : d ≤ s → j ≤ i) (h2 : s ≤ d → i ≤ j) : ((j : Int) ≤ (i : Int)) ↔ (d : Int) ≤ (s : Int) ∨ (i : Int) = (j : Int) := by lia
theorem iff_ge {i j d s : Nat} (h1 : d ≤ s → j ≤ i) (h2 : s ≤ d → i ≤ j) : ((i : Int) ≤ (j : Int)) ↔ (s : Int) ≤ (d : Int) ∨ (i : Int) = (j : Int) := by lia
theorem lt_sub1 {a b p q : Nat} (h : a + q ≤ b + p) : a < b + (p - q) + 1 := by lia
theorem le_sub {e p q k : Nat} (he : e ≤ k) (hp : p ≤ k) : e + (p - q) ≤ k + k := Nat.add_le_add he (Nat.le_trans (Nat.sub_le _ _) hp)
theorem plain2 {size : Nat} {rs : List Nat} {c : Nat} {u v : List Nat} (hs : 3 ≤ size) (hr : rs ≠ []) (hu : 105 ∉ u) (hv : 105 ∉ v) (hl : (mk rs c).length ≤ 190) (hul : u.length ≤ 8) (hvl : v.length ≤ 8) :
    Plain2 size (mk rs c ++ ([105, 102] ++ u)) (mk (rs2 size rs c) (c % size) ++ ([105, 102] ++ v)) (mk rs c) (mk (rs2 size rs c) (c % size)) u v := by
  have s0 : 0 < size := by lia
  have su := stop_if u
  have sv := stop_if v
  have hq : rs2 size rs c ≠ [] := rs2_ne hr
  generalize hR : rs2 size rs c = qs at *
  generalize hE : c % size = e at *
  have t1 : ∀ d, 0 < d → d ≤ size → I qs e d ≤ I rs c d := fun d hd h => by rw [← hR, ← hE]; exact T1 rs c hd h
  have t2 : ∀ d, size ≤ d → I rs c d ≤ I qs e d := fun d h => by rw [← hR, ← hE]; exact T2 rs c s0 h
  have t3 : ∀ d, 0 < d → I rs c d + I qs e 1 ≤ I qs e d + I rs c 1 := fun d hd => by rw [← hR, ← hE]; exact T3 rs c hd
  have len : qs.length = rs.length + Qs size rs c := by rw [← hR]; exact len_rs2 rs c
  have same : Qs size rs c = 0 → qs = rs ∧ e = c := fun h => by rw [← hR, ← hE]; exact same_rs2 rs c h
  have ec : e + c / size * size = c := by rw [← hE]; have := Nat.div_add_mod c size; rw [Nat.mul_comm] at this; lia
  have Qc : c / size ≤ Qs size rs c := Nat.le_add_left _ _
  have l1 := I_1 rs c
  have l2 := I_1 qs e
  have ln : (mk qs e).length ≤ (mk rs c).length := by rw [← l1, ← l2]; exact t1 1 (by decide) (by lia)
  have m1 := maxN_mk_le rs c
  have m2 := maxN_mk_le qs e
  have rl : rs.length ≤ (mk rs c).length := by rw [← count_mk rs c]; exact List.count_le_length
  have ql : qs.length ≤ (mk qs e).length := by rw [← count_mk qs e]; exact List.count_le_length
  have r1 : maxN rs ≤ 190 := Nat.le_trans m1.1 hl
  have r2 : c ≤ 190 := Nat.le_trans m1.2 hl
  have q1 : maxN qs ≤ 190 := Nat.le_trans m2.1 (Nat.le_trans ln hl)
  have q2 : e ≤ 190 := Nat.le_trans m2.2 (Nat.le_trans ln hl)
  let n := (mk rs c).length - (mk qs e).length
  have e3 : mk qs e ++ (bl n ++ [105, 102]) ++ v = mk qs (e + n) ++ ([105, 102] ++ v) := by rw [← mk_add]; simp only [List.append_assoc]
  have e4 : mk qs e ++ (bl n ++ [32, 105, 102]) ++ v = mk qs (e + n + 1) ++ ([105, 102] ++ v) := by rw [← mk_snoc, ← mk_add]; simp only [List.append_assoc]; rfl
  have e6 : mk rs c ++ [32, 105, 102] ++ u = mk rs (c + 1) ++ ([105, 102] ++ u) := by rw [← mk_snoc]; simp only [List.append_assoc]; rfl
  obtain ⟨a0, rt, hrt⟩ := List.exists_cons_of_ne_nil hr
  have e5 : [32] ++ (mk rs c ++ ([105, 102] ++ u)) = mk ((a0 + 1) :: rt) c ++ ([105, 102] ++ u) := by rw [← List.append_assoc, hrt, mk_head]
  have hm5 : maxN ((a0 + 1) :: rt) ≤ maxN rs + 1 := by
    rw [hrt]
    exact mx_up1 a0 (maxN rt)
  have col2 : ∀ d, 0 < d → trX (mk rs c) (mk qs e) d = ((d : Int), ((I rs c d : Nat) : Int), ((I qs e d : Nat) : Int)) := fun d hd => by unfold trX; rw [col_I d hd, col_I d hd]
  refine ⟨split_if hu, split_if hv, ?_, ?_, by exact Nat.le_trans ‹_› (by decide), ln, ⟨by exact Nat.le_trans ‹_› (by decide), by exact Nat.le_trans ‹_› (by decide)⟩, ?_, ?_, ?_, okWs_mk su hr (Nat.le_trans r1 (by decide)) (Nat.le_trans r2 (by decide)), okWs_mk sv hq (Nat.le_trans q1 (by decide)) (Nat.le_trans q2 (by decide)), by rw [e3]; exact okWs_mk sv hq (Nat.le_trans q1 (by decide)) (Nat.le_trans (le_sub q2 hl) (by decide)), by rw [e4]; exact okWs_mk sv hq (Nat.le_trans q1 (by decide)) (Nat.le_trans (Nat.succ_le_succ (le_sub q2 hl)) (by decide)), by rw [e5]; exact okWs_mk su (List.cons_ne_nil _ _) (Nat.le_trans hm5 (Nat.le_trans (Nat.succ_le_succ r1) (by decide))) (Nat.le_trans r2 (by decide)), by rw [e6]; exact okWs_mk su hr (Nat.le_trans r1 (by decide)) (Nat.le_trans (Nat.succ_le_succ r2) (by decide)), ?e1, ?e2, ?e3, ?e4, ?e5, ?e6⟩
  · simp only [List.length_append, List.length_cons, List.length_nil]; lia
  · simp only [List.length_append, List.length_cons, List.length_nil]; lia
  · rw [split_mk, split_mk]
    simp only [List.length_append, List.length_map, List.length_cons, List.length_nil]
    lia
  · rw [split_mk, split_mk]
    intro l hl
    have hb : ∀ {x : Nat} {ys : List Nat} {z : Nat}, l ∈ ys.map bl ++ [bl z] → maxN ys ≤ 200 → z ≤ 200 → l.length ≤ 1000 := fun {x ys z} h h1 h2 => by
      rcases List.mem_append.mp h with h | h
      · obtain ⟨y, hy, rfl⟩ := List.mem_map.mp h
        rw [List.length_replicate]
        have := maxN_le hy
        lia
      · rw [List.mem_singleton] at h; subst h
        rw [List.length_replicate]
        exact Nat.le_trans ‹_› (by decide)
    rcases List.mem_append.mp hl with h | h
    · exact hb (x := 0) h (Nat.le_trans r1 (by decide)) (Nat.le_trans r2 (by decide))
    · exact hb (x := 0) h (Nat.le_trans q1 (by decide)) (Nat.le_trans q2 (by decide))
  · rw [topM_mk]; exact Nat.le_trans (mx_le r1 r2 q1 q2) (by decide)
  case e1 =>
    refine (wit_tab su sv hr hq (topM_mk rs qs c e) (fun a b => decide (b ≤ a)) (leC size) id (trX (mk rs c) (mk qs e)) fun d hd => ⟨?_, by rw [col2 d hd]; rfl⟩).trans (by rw [List.map_id]; rfl)
    rw [col2 d hd]
    show decide _ = (decide ((d : Int) ≤ (size : Int)) || (((I rs c d : Nat) : Int) == ((I qs e d : Nat) : Int)))
    refine bool_eq ?_
    rw [Bool.or_eq_true, decide_eq_true_eq, decide_eq_true_eq, beq_iff_eq]
    exact iff_le (t1 d hd) (t2 d)
  case e2 =>
    refine (wit_tab sv su hq hr ((topM_mk rs qs c e).trans (by rw [Nat.max_comm])) (fun a b => decide (b ≤ a)) (geC size) (fun r => (r.1, r.2.2, r.2.1)) (trX (mk rs c) (mk qs e)) fun d hd => ⟨?_, by rw [col2 d hd]⟩).trans rfl
    rw [col2 d hd]
    show decide _ = (decide ((size : Int) ≤ (d : Int)) || (((I rs c d : Nat) : Int) == ((I qs e d : Nat) : Int)))
    refine bool_eq ?_
    rw [Bool.or_eq_true, decide_eq_true_eq, decide_eq_true_eq, beq_iff_eq]
    exact iff_ge (t1 d hd) (t2 d)
  case e3 =>
    rw [e3, ← Bool.not_eq_true, less_iff su sv hr hq, I_add]
    rintro ⟨h, _⟩
    rw [l1, l2] at h
    exact Nat.ne_of_lt h (Nat.add_sub_of_le ln).symm
  case e4 =>
    rw [e4, less_iff su sv hr hq, I_add, I_add]
    refine ⟨lt_sub1 (by rw [l1, l2]; exact Nat.le_of_eq (Nat.add_comm _ _)), ?_⟩
    by_cases h : maxN rs = 0 ∧ maxN qs = 0
    · exact .inl ⟨h.1, h.2, by lia⟩
    · refine .inr ⟨h, fun ts h2 _ => ?_⟩
      rw [I_add, I_add]
      exact lt_sub1 (by rw [← l1, ← l2]; exact t3 ts (Nat.zero_lt_of_lt h2))
  case e5 =>
    rw [e5, ← Bool.not_eq_true, less_iff su su hr (by simp)]
    rintro ⟨_, h | ⟨_, h⟩⟩
    · have h2 := h.2.1
      have : max (a0 + 1) (maxN rt) = 0 := h2
      lia
    · have h := h (max (max (maxN rs) c) (max (maxN ((a0 + 1) :: rt)) c) + 1) (Nat.le_trans (Nat.succ_le_succ (Nat.le_trans (Nat.le_add_left 1 a0) (Nat.le_max_left _ (maxN rt)))) mx_rl) (Nat.le_refl _)
      rw [I_far mx_ll, I_far mx_rl, show ((a0 + 1) :: rt).length = rs.length by rw [hrt]; rfl] at h
      lia
  case e6 =>
    rw [e6]
    refine bool_eq ?_
    rw [less_iff sv su hq hr, decide_eq_true_eq, I_succ]
    constructor
    · intro h
      have hQ : Qs size rs c = 0 := by
        rcases h.2 with h | ⟨_, h⟩
        · lia
        · have hc : c < max (max (maxN qs) e) (max (maxN rs) (c + 1)) + 1 := Nat.lt_of_succ_lt mx_rr
          have h := h (max (max (maxN qs) e) (max (maxN rs) (c + 1)) + 1) (Nat.le_trans (Nat.succ_le_succ (Nat.le_add_left 1 c)) mx_rr) (Nat.le_refl _)
          have f1 : maxN qs < max (max (maxN qs) e) (max (maxN rs) (c + 1)) + 1 := mx_ll
          have f2 : maxN rs < max (max (maxN qs) e) (max (maxN rs) (c + 1)) + 1 := mx_rl
          generalize max (max (maxN qs) e) (max (maxN rs) (c + 1)) + 1 = M at h hc f1 f2
          rw [I_far f1, I_far f2, len, Nat.add_mul] at h
          rcases Nat.eq_zero_or_pos (Qs size rs c) with h0 | h0
          · exact h0
          · have := Nat.mul_le_mul_right M h0
            lia
      obtain ⟨h1, h2⟩ := same hQ
      rw [h1, h2]
    · intro h
      have hlen := mk_inj_len h
      obtain ⟨h1, h2⟩ := same (by lia)
      rw [h1, h2]
      refine ⟨by lia, ?_⟩
      by_cases h : maxN rs = 0 ∧ maxN rs = 0
      · exact .inl ⟨h.1, h.2, Nat.le_refl _⟩
      · refine .inr ⟨h, fun ts _ _ => by rw [I_succ]; lia⟩
end Mine
end
section
open PySem PySem.W PyProof.Rows PyProof.V
set_option Elab.async false
set_option maxRecDepth 20000
set_option linter.unusedSimpArgs false
namespace Mine
noncomputable def partsL (rs : List Nat) (c : Nat) (ws : List (List Nat)) : List (List Nat) := rs.map bl ++ (bl c ++ [105, 102]) :: ws
noncomputable def tailW (ws : List (List Nat)) : List Nat := ws.flatMap fun w => 9 :: w
theorem join_tail (x : List Nat) (ws : List (List Nat)) : joinL [9] (x :: ws) = x ++ tailW ws := by
  induction ws generalizing x with
  | nil => exact (List.append_nil x).symm
  | cons w ws ih => rw [join_cons (by simp), ih, List.append_assoc]; rfl
theorem line_mk (rs : List Nat) (c : Nat) (ws : List (List Nat)) : joinL [9] (partsL rs c ws) = mk rs c ++ ([105, 102] ++ tailW ws) := by
  induction rs with
  | nil => exact (join_tail _ _).trans (List.append_assoc _ _ _)
  | cons a r ih =>
    show joinL [9] (bl a :: partsL r c ws) = _
    rw [join_cons (by unfold partsL; simp), ih, mk_cons, List.append_assoc, List.append_assoc]
    rfl
theorem word_bl (n : Nat) : wordOf (bl n) = [] := by
  rw [wordOf_eq, List.filter_eq_nil_iff]
  intro c hc
  rw [bl_mem hc]
  decide
theorem word_if (n : Nat) : wordOf (bl n ++ [105, 102]) = [105, 102] := by
  rw [wordOf_eq, List.filter_append, ← wordOf_eq, word_bl]
  rfl
theorem read_bl (size a : Nat) : (rowsS size (bl a)).map readS = (spl size a).map bl := by
  have e : rowsS size (bl a) = List.replicate (a / size) (bl size, true) ++ [(bl (a % size) ++ [], false)] := by
    unfold rowsS
    rw [word_bl, if_pos (.inl rfl), List.length_replicate]
    rfl
  have h : readS (bl size, true) = [] := if_pos ⟨rfl, word_bl size⟩
  rw [e, List.map_append, List.map_replicate, h, List.append_nil]
  unfold spl
  rw [List.map_append, List.map_replicate]
  rfl
theorem read_if (size a : Nat) : (rowsS size (bl a ++ [105, 102])).map readS = List.replicate (a / size) [] ++ [bl (a % size) ++ [105, 102]] := by
  have e : rowsS size (bl a ++ [105, 102]) = List.replicate (a / size) (bl size, true) ++ [(bl (a % size) ++ [105, 102], false)] := by
    unfold rowsS
    rw [word_if, if_pos (.inr rfl), List.length_append, List.length_replicate]
    rfl
  have h : readS (bl size, true) = [] := if_pos ⟨rfl, word_bl size⟩
  rw [e, List.map_append, List.map_replicate, h]
  rfl
noncomputable def ws2 (size : Nat) (ws : List (List Nat)) : List (List Nat) := ws.flatMap fun w => (rowsS size w).map readS
theorem read_parts (size : Nat) (rs : List Nat) (c : Nat) (ws : List (List Nat)) : ((partsL rs c ws).flatMap (rowsS size)).map readS = partsL (rs2 size rs c) (c % size) (ws2 size ws) := by
  have e1 : ((rs.map bl).flatMap (rowsS size)).map readS = (rs.flatMap (spl size)).map bl := by
    rw [List.map_flatMap, List.map_flatMap, List.flatMap_map]
    exact congrArg (fun f => rs.flatMap f) (funext fun a => read_bl size a)
  have e2 : (ws.flatMap (rowsS size)).map readS = ws2 size ws := List.map_flatMap ..
  unfold partsL rs2
  rw [List.flatMap_append, List.map_append, e1, List.flatMap_cons, List.map_append, read_if, e2, List.map_append, List.map_replicate, List.append_assoc, List.append_assoc]
  rfl
/-- what the words owe -/
structure WsOk (ws : List (List Nat)) : Prop where
  ne : ws ≠ []
  w : ∀ w ∈ ws, w ≠ [] ∧ w.length ≤ 3 ∧ ∀ c ∈ w, wc c
  fl : ws.flatten.length ≤ 3
theorem WsOk.len {ws : List (List Nat)} (h : WsOk ws) : ws.length ≤ 3 ∧ (tailW ws).length ≤ 8 ∧ 105 ∉ tailW ws := by
  have key : ∀ ws : List (List Nat), (∀ w ∈ ws, w ≠ []) → ws.length ≤ ws.flatten.length ∧ (tailW ws).length = ws.length + ws.flatten.length := by
    intro ws
    induction ws with
    | nil => exact fun _ => ⟨Nat.le_refl _, rfl⟩
    | cons w ws ih =>
      intro h
      obtain ⟨h1, h2⟩ := ih fun x hx => h x (.tail _ hx)
      have h0 := List.length_pos_iff.mpr (h w (.head _))
      rw [List.flatten_cons, List.length_append, List.length_cons, show tailW (w :: ws) = (9 :: w) ++ tailW ws from rfl, List.length_append, List.length_cons, h2]
      lia
  obtain ⟨k1, k2⟩ := key ws fun w hw => (h.w w hw).1
  have := h.fl
  refine ⟨by lia, by lia, fun hm => ?_⟩
  obtain ⟨w, hw, hc⟩ := List.mem_flatMap.mp hm
  rcases List.mem_cons.mp hc with hc | hc
  · exact absurd hc (by decide)
  · exact (wc_lt ((h.w w hw).2.2 105 hc)).2.2.2.2.1 rfl
theorem WsOk.next {size : Nat} {ws : List (List Nat)} (h3 : 3 ≤ size) (h6 : size ≤ 6) (h : WsOk ws) : WsOk (ws2 size ws) := by
  have fl : ∀ ws : List (List Nat), (∀ w ∈ ws, w ≠ [] ∧ w.length ≤ 3 ∧ ∀ c ∈ w, wc c) → (ws2 size ws).flatten = ws.flatten ∧ (∀ w ∈ ws2 size ws, w ≠ [] ∧ w.length ≤ 3 ∧ ∀ c ∈ w, wc c) ∧ (ws ≠ [] → ws2 size ws ≠ []) := by
    intro ws
    induction ws with
    | nil => exact fun _ => ⟨rfl, (fun _ h => nomatch h), fun h => absurd rfl h⟩
    | cons w ws ih =>
      intro h
      obtain ⟨h1, h2, _⟩ := ih fun x hx => h x (.tail _ hx)
      obtain ⟨k1, k2, k3⟩ := h w (.head _)
      obtain ⟨_, _, us, e1, e2, e3, e4⟩ := part_w (eol := [10]) h3 h6 k1 k2 k3
      have e : ws2 size (w :: ws) = us ++ ws2 size ws := by rw [← e1]; rfl
      rw [e]
      refine ⟨by rw [List.flatten_append, List.flatten_cons, e3, h1], fun x hx => ?_, fun _ => by simp [e2]⟩
      rcases List.mem_append.mp hx with hx | hx
      · exact e4 x hx
      · exact h2 x hx
  obtain ⟨f1, f2, f3⟩ := fl ws h.w
  exact ⟨f3 h.ne, f2, by rw [f1]; exact h.fl⟩
theorem round3 {size : Nat} {eol : List Nat} {rs : List Nat} {c : Nat} {ws : List (List Nat)} (he : okE eol) (h3 : 3 ≤ size) (h6 : size ≤ 6) (hr : rs ≠ []) (ha : ∀ a ∈ rs, a < 12) (hc : c < 12) (hw : WsOk ws) (hl : (mk rs c).length ≤ 190) (hn : rs.length + 1 + ws.length ≤ 12) :
    Plain3 size eol (joinL [9] (partsL rs c ws)) (joinL [9] (partsL (rs2 size rs c) (c % size) (ws2 size ws))) := by
  obtain ⟨k1, k2, k3⟩ := hw.len
  obtain ⟨_, m2, m3⟩ := (hw.next h3 h6).len
  obtain ⟨wi, wl, hwl⟩ : ∃ i l, ws = i ++ [l] := by
    rcases List.eq_nil_or_concat ws with e | ⟨i, l, e⟩
    · exact absurd e hw.ne
    · exact ⟨i, l, by rw [e, List.concat_eq_append]⟩
  have hps : partsL rs c ws = (rs.map bl ++ (bl c ++ [105, 102]) :: wi) ++ [wl] := by
    unfold partsL
    rw [hwl, List.append_assoc]
    rfl
  have hP : ∀ p ∈ partsL rs c ws, PartOk size eol p := fun p hp => by
    rcases List.mem_append.mp hp with hp | hp
    · obtain ⟨a, hm, rfl⟩ := List.mem_map.mp hp
      exact (part_bl he h3 h6 (ha a hm)).1
    · rcases List.mem_cons.mp hp with rfl | hp
      · exact (part_bl he h3 h6 hc).2
      · obtain ⟨q1, q2, q3⟩ := hw.w p hp
        exact (part_w h3 h6 q1 q2 q3).1
  have hL : LastOk size wl := by
    obtain ⟨q1, q2, q3⟩ := hw.w wl (by rw [hwl]; exact List.mem_append_right _ (.head _))
    exact (part_w (eol := eol) h3 h6 q1 q2 q3).2.1
  have hlen : (partsL rs c ws).length ≤ 12 := by
    unfold partsL
    rw [List.length_append, List.length_map, List.length_cons]
    lia
  have cr : ∃ old new rl rr, Plain2 size (joinL [9] (partsL rs c ws)) (joinL [9] (((partsL rs c ws).flatMap (rowsS size)).map readS)) old new rl rr := by
    rw [read_parts, line_mk, line_mk]
    exact ⟨_, _, _, _, plain2 h3 hr k3 m3 hl k2 m2⟩
  rw [← read_parts]
  rw [hps] at hP hlen cr ⊢
  exact plain3 he h3 h6 hP hL hlen cr
theorem len_cons {xs : List Nat} {n : Nat} (h : xs.length = n + 1) : ∃ a r, xs = a :: r ∧ r.length = n := by
  obtain ⟨a, r, rfl⟩ := List.exists_cons_of_ne_nil (l := xs) (fun e => by rw [e] at h; exact Nat.succ_ne_zero n h.symm)
  exact ⟨a, r, rfl, Nat.succ.inj h⟩
theorem len_seven {xs : List Nat} (h : xs.length = 7) : ∃ a0 a1 a2 a3 a4 a5 a6, xs = [a0, a1, a2, a3, a4, a5, a6] := by
  obtain ⟨a0, x0, e0, h0⟩ := len_cons h
  obtain ⟨a1, x1, e1, h1⟩ := len_cons h0
  obtain ⟨a2, x2, e2, h2⟩ := len_cons h1
  obtain ⟨a3, x3, e3, h3⟩ := len_cons h2
  obtain ⟨a4, x4, e4, h4⟩ := len_cons h3
  obtain ⟨a5, x5, e5, h5⟩ := len_cons h4
  obtain ⟨a6, x6, e6, h6⟩ := len_cons h5
  exact ⟨a0, a1, a2, a3, a4, a5, a6, by rw [e0, e1, e2, e3, e4, e5, e6, List.length_eq_zero_iff.mp h6]⟩
theorem mod_le6 {a b : Nat} (h : b < 3) : 3 + a % (4 + b - 3) ≤ 6 := by
  have := Nat.mod_lt a (show 0 < 4 + b - 3 by omega)
  omega
theorem law2_run {ns : List Int} (hn : ns.length ≤ 63) : ∃ loc' H', exs (pg2.lvl 3) qb_law (loc2 ns) [.cell none] = some (.ret (.p (.bool true)), loc', H') := by
  obtain ⟨xs, hx, hxl, _⟩ := numbers2_nat (ns := ns)
  obtain ⟨a0, a1, a2, a3, a4, a5, a6, rfl⟩ : ∃ a0 a1 a2 a3 a4 a5 a6, xs = [a0, a1, a2, a3, a4, a5, a6] := by
    exact len_seven hxl
  have b0 := Nat.mod_lt a0 (show 0 < 12 by decide)
  have b1 := Nat.mod_lt a1 (show 0 < 12 by decide)
  have b2 := Nat.mod_lt a2 (show 0 < 12 by decide)
  have b3 := Nat.mod_lt a3 (show 0 < 3 by decide)
  have b5 := Nat.mod_lt a5 (show 0 < 129 by decide)
  have b6 := Nat.mod_lt a6 (show 0 < 129 by decide)
  let rs := [a0 % 12, a1 % 12]
  let c := a2 % 12
  let ws : List (List Nat) := [[61, 127 + a5 % 129, 127 + a6 % 129]]
  let size := 4 + a3 % 3
  have hw : WsOk ws := ⟨by simp [ws], fun w hw => by
    rw [List.mem_singleton] at hw; subst hw
    refine ⟨by simp, Nat.le_refl _, fun c hc => ?_⟩
    simp only [List.mem_cons, List.not_mem_nil, or_false] at hc
    rcases hc with rfl | rfl | rfl
    · exact .inl rfl
    · exact .inr ⟨Nat.le_add_right _ _, Nat.lt_of_lt_of_le (Nat.add_lt_add_left b5 127) (by decide)⟩
    · exact .inr ⟨Nat.le_add_right _ _, Nat.lt_of_lt_of_le (Nat.add_lt_add_left b6 127) (by decide)⟩, Nat.le_refl _⟩
  have h3 : 3 ≤ size := by show 3 ≤ 4 + a3 % 3; lia
  have h6 : size ≤ 6 := by show 4 + a3 % 3 ≤ 6; lia
  have hl : (mk rs c).length ≤ 190 := by
    rw [mk_len]
    show (a0 % 12 + 1) + ((a1 % 12 + 1) + 0) + a2 % 12 ≤ 190
    exact Nat.le_trans (Nat.add_le_add (Nat.add_le_add b0 b1) (Nat.le_of_lt b2)) (by decide)
  have F1 := round3 (size := size) (rs := rs) (c := c) (eolE_ok a3) h3 h6 (by simp [rs]) (fun a ha => by
    simp only [rs, List.mem_cons, List.not_mem_nil, or_false] at ha
    rcases ha with rfl | rfl
    · exact b0
    · exact b1) b2 hw hl (by show 2 + 1 + 1 ≤ 12; decide)
  have hQ : Qs size rs c ≤ 6 := by
    have h : ∀ {a : Nat}, a < 12 → a / size ≤ 2 := fun {a} h => Nat.le_trans (Nat.div_le_div_left (show 4 ≤ size by show 4 ≤ 4 + a3 % 3; exact Nat.le_add_right _ _) (by decide)) (by lia)
    have h1 := h b0
    have h2 := h b1
    have h3 := h b2
    show a0 % 12 / size + (a1 % 12 / size + 0) + a2 % 12 / size ≤ 6
    exact Nat.add_le_add (Nat.add_le_add h1 h2) h3
  have F2 := round3 (size := 3 + a4 % (4 + a3 % 3 - 3)) (eol := eolE a3) (rs := rs2 size rs c) (c := c % size) (ws := ws2 size ws) (eolE_ok a3) (by exact Nat.le_add_right _ _) (mod_le6 b3) (rs2_ne (by simp [rs])) (fun a ha => by
    have hm : ∀ x, x % size < 12 := fun x => Nat.lt_of_lt_of_le (Nat.mod_lt x (by lia)) (by exact Nat.le_trans ‹_› (by decide))
    unfold rs2 at ha
    rcases List.mem_append.mp ha with ha | ha
    · obtain ⟨x, _, ha⟩ := List.mem_flatMap.mp ha
      unfold spl at ha
      rcases List.mem_append.mp ha with ha | ha
      · rw [(List.mem_replicate.mp ha).2]; decide
      · rw [List.mem_singleton] at ha; rw [ha]; exact hm x
    · rw [(List.mem_replicate.mp ha).2]; decide) (Nat.lt_of_le_of_lt (Nat.mod_le _ _) b2) (hw.next h3 h6) (by
    rw [← I_1]
    exact Nat.le_trans (T1 rs c (by decide) (by lia)) (by rw [I_1]; exact hl)) (by
    rw [len_rs2]
    have := (hw.next h3 h6).len.1
    show 2 + Qs size rs c + 1 + (ws2 size ws).length ≤ 12
    exact Nat.add_le_add (Nat.add_le_add_right (Nat.add_le_add_left hQ 2) 1) this)
  have e : joinL [9] (partsL rs c ws) = line0 a0 a1 a2 a5 a6 := by
    rw [line_mk]
    unfold line0
    simp [rs, c, ws, mk, tailW, joinL]
  rw [e] at F1
  exact law2_walk hn hx F1 F2
end Mine
end
section
open PySem PySem.W PyProof.Rows PyProof.V
set_option Elab.async false
set_option maxRecDepth 100000
set_option maxHeartbeats 4000000
namespace Mine
noncomputable def fdAt (K : Frag) (a : Addr) : FuncData := match K.lookup a with
  | some ⟨_, _, .func fd, _⟩ => fd
  | _ => default
noncomputable def stmtsOf (fd : FuncData) : List Stmt := match fd.body with
  | .stmts b => b
  | _ => []
noncomputable def fa2 : Nat → Addr
  | 0 => 44 | 1 => 51 | 2 => 64 | 3 => 72 | 4 => 143 | 5 => 150 | 6 => 155 | 7 => 162 | 9 => 167 | 10 => 89 | 11 => 96 | 12 => 103 | 15 => 124 | 16 => 131 | _ => 0
/-- all that a list of pairs tells -/
noncomputable def AllP {α β : Type} (q : α → β → Prop) : List (α × β) → Prop
  | [] => True
  | (x, v) :: r => q x v ∧ AllP q r
theorem AllP.of {α β : Type} [BEq α] [LawfulBEq α] {q : α → β → Prop} {x : α} {v : β} {l : List (α × β)} (h : AllP q l) (hv : l.lookup x = some v) : q x v := by
  induction l with
  | nil => exact no hv
  | cons a l ih =>
    rw [List.lookup_cons] at hv
    cases e : x == a.1 with
    | true => rw [e] at hv; cases hv; rw [eq_of_beq e]; exact h.1
    | false => rw [e] at hv; exact ih h.2 hv
/-- what one look tells of a def -/
structure DefLook (X : Wd) (f : Nat) (F : FD) (fd : FuncData) (b : List Stmt) : Prop where
  la : X.K.lookup (fa2 f) = some ⟨.type "function", none, .func fd, #[]⟩
  lb : codeIn X.K fd.code fd.qualname = true
  lc : fd.body = .stmts b
  ld : trB ⟨F.nm, fd.scope, gl2, ml2, fl1⟩ 40 b = some F.body
  le : fd.scope.kind = .function
  lf : fd.scope.isCoroutine = false
  lg : fd.scope.isGenerator = false
  lh : fd.globals = mainGlobals
  li : fd.builtins = builtinsNs
  lj : decide (∀ x ∈ fd.scope.names, x.2 ≠ .cell) = true
  lk : decide F.nm.Nodup = true
  ll : decide (F.ar + F.dfl.length ≤ F.nm.length) = true
  lm : decide (∀ x ∈ F.nm.take (F.ar + F.dfl.length), fd.scope.names.lookup x = some .local) = true
theorem DefLook.ok {X : Wd} {f : Nat} {F : FD} {fd : FuncData} {b : List Stmt} (h : DefLook X f F fd b) (hb : ∀ ys : List Value, ys.length = F.ar → ∃ zs, DatAll [] zs (dats F.dfl) ∧ ∀ S, peek X.K S (bindArgs fd ⟨ys, []⟩) = some ((F.nm.take (F.ar + F.dfl.length)).zip (ys ++ zs))) : ∃ fd body, DefOk X gl2 ml2 fl1 F (fa2 f) fd body :=
  ⟨fd, b, ⟨_, _, _, h.la⟩, h.lb, h.lc, ⟨40, h.ld⟩, h.le, h.lf, h.lg, h.lh, h.li, of_decide_eq_true h.lj, of_decide_eq_true h.lk, of_decide_eq_true h.ll, of_decide_eq_true h.lm, hb⟩
theorem def1 {X : Wd} {f : Nat} {F : FD} {fd : FuncData} {b : List Stmt} (h : DefLook X f F fd b) (ha : F.ar = 1) (hd : F.dfl = []) (hb : ∀ y S, peek X.K S (bindArgs fd ⟨[y], []⟩) = some ((F.nm.take 1).zip [y])) : ∃ fd body, DefOk X gl2 ml2 fl1 F (fa2 f) fd body :=
  h.ok fun ys hy => by
    obtain ⟨y, rfl⟩ := List.length_eq_one_iff.mp (hy.trans ha)
    rw [hd, ha]
    exact ⟨[], .nil, hb y⟩
theorem len_two {ys : List Value} (h : ys.length = 2) : ∃ a b, ys = [a, b] := by
  cases ys with
  | nil => cases h
  | cons a r =>
    obtain ⟨b, rfl⟩ := List.length_eq_one_iff.mp (Nat.succ.inj h)
    exact ⟨a, b, rfl⟩
theorem def2 {X : Wd} {f : Nat} {F : FD} {fd : FuncData} {b : List Stmt} (h : DefLook X f F fd b) (ha : F.ar = 2) {zs : List Value} (hz : DatAll [] zs (dats F.dfl)) (hb : ∀ y z S, peek X.K S (bindArgs fd ⟨[y, z], []⟩) = some ((F.nm.take (2 + F.dfl.length)).zip ([y, z] ++ zs))) : ∃ fd body, DefOk X gl2 ml2 fl1 F (fa2 f) fd body :=
  h.ok fun ys hy => by
    obtain ⟨y, z, rfl⟩ := len_two (hy.trans ha)
    rw [ha]
    exact ⟨zs, hz, hb y z⟩
theorem def3 {X : Wd} {f : Nat} {F : FD} {fd : FuncData} {b : List Stmt} (h : DefLook X f F fd b) (ha : F.ar = 3) (hd : F.dfl = []) (hb : ∀ y z u S, peek X.K S (bindArgs fd ⟨[y, z, u], []⟩) = some ((F.nm.take 3).zip [y, z, u])) : ∃ fd body, DefOk X gl2 ml2 fl1 F (fa2 f) fd body :=
  h.ok fun ys hy => by
    cases ys with
    | nil => exact absurd (hy.trans ha) (by simp)
    | cons y r =>
      obtain ⟨z, u, rfl⟩ := len_two (Nat.succ.inj (hy.trans ha))
      rw [hd, ha]
      exact ⟨[], .nil, hb y z u⟩
noncomputable def tb2 : Nat → Option Addr
  | 0 => some 24 | 1 => some 53 | _ => none
noncomputable def wd2 (prog : Program) (w : World) (s : Shared) (loose : List Str) (mg mb : Str → Option Value) : Wd := ⟨prog, w, kF w.params, 134, tb2, s.gens, s.drawn, s.os, (qOf PySem.Challenge.pw_ku0010_02), loose, mg, mb⟩
section
variable {prog : Program} {w : World} {s : Shared} {loose : List Str} {mg mb : Str → Option Value}
theorem only_of {names : List (Str × NameKind)} {x : Str} (h : (names.all fun y => y.1 == x || !(y.2 == .cell)) = true) : ∀ n, names.lookup n = some .cell → n = x := fun n hn => by
  have hm := mem_of_lookup hn
  have := List.all_eq_true.mp h _ hm
  simpa using this
theorem crossed_loc {fd : FuncData} (h0 : fd.scope.names.lookup (Str.ofString "line") = some .local) (h1 : fd.scope.names.lookup (Str.ofString "read") = some .local) : ∀ j y, j < qF_lw_crossed.ar → j ≠ 2 → qF_lw_crossed.nm[j]? = some y → fd.scope.names.lookup y = some .local := by
  intro j y hj hji hy
  match j, hj, hji, hy with
  | 0, _, _, hy => cases hy; exact h0
  | 1, _, _, hy => cases hy; exact h1
  | 2, _, hji, _ => exact absurd rfl hji
  | j + 3, hj, _, _ => exact absurd hj (Nat.not_lt.mpr (Nat.le_add_left 3 j))
theorem crossed_bind {K : Frag} {fd : FuncData} (h : ∀ a b c S, peek K S (bindArgs fd ⟨[a, b, c], []⟩) = some ((qF_lw_crossed.nm.take 3).zip [a, b, c])) : ∀ ys : List Value, ys.length = qF_lw_crossed.ar → ∀ S, peek K S (bindArgs fd ⟨ys, []⟩) = some ((qF_lw_crossed.nm.take qF_lw_crossed.ar).zip ys) := by
  intro ys hy
  have hy : ys.length = 3 := hy
  cases ys with
  | nil => exact absurd hy (by decide)
  | cons a r =>
    obtain ⟨b, c, rfl⟩ := len_two (Nat.succ.inj hy)
    exact fun S => h a b c S
theorem d2_all : AllP (fun f (c : FC) => (c.ci = none ∧ ∃ fd body, DefOk (wd2 prog w s loose mg mb) gl2 ml2 fl1 c.F (fa2 f) fd body) ∨ ∃ i x fd body, c.ci = some i ∧ DefOkC (wd2 prog w s loose mg mb) gl2 ml2 fl1 c.F i x (fa2 f) fd body) pgDefs2L :=
  ⟨.inl ⟨rfl, def1 (fd := fdAt (kF w.params) (fa2 0)) (b := stmtsOf (fdAt (kF w.params) (fa2 0))) ⟨by kernel_rfl, by kernel_rfl, by kernel_rfl, by kernel_rfl, by kernel_rfl, by kernel_rfl, by kernel_rfl, by kernel_rfl, by kernel_rfl, by kernel_rfl, by kernel_rfl, by kernel_rfl, by kernel_rfl⟩ rfl rfl (fun y S => by kernel_rfl)⟩,
   .inl ⟨rfl, def1 (fd := fdAt (kF w.params) (fa2 1)) (b := stmtsOf (fdAt (kF w.params) (fa2 1))) ⟨by kernel_rfl, by kernel_rfl, by kernel_rfl, by kernel_rfl, by kernel_rfl, by kernel_rfl, by kernel_rfl, by kernel_rfl, by kernel_rfl, by kernel_rfl, by kernel_rfl, by kernel_rfl, by kernel_rfl⟩ rfl rfl (fun y S => by kernel_rfl)⟩,
   .inl ⟨rfl, def3 (fd := fdAt (kF w.params) (fa2 2)) (b := stmtsOf (fdAt (kF w.params) (fa2 2))) ⟨by kernel_rfl, by kernel_rfl, by kernel_rfl, by kernel_rfl, by kernel_rfl, by kernel_rfl, by kernel_rfl, by kernel_rfl, by kernel_rfl, by kernel_rfl, by kernel_rfl, by kernel_rfl, by kernel_rfl⟩ rfl rfl (fun y z u S => by kernel_rfl)⟩,
   .inl ⟨rfl, def2 (fd := fdAt (kF w.params) (fa2 3)) (b := stmtsOf (fdAt (kF w.params) (fa2 3))) ⟨by kernel_rfl, by kernel_rfl, by kernel_rfl, by kernel_rfl, by kernel_rfl, by kernel_rfl, by kernel_rfl, by kernel_rfl, by kernel_rfl, by kernel_rfl, by kernel_rfl, by kernel_rfl, by kernel_rfl⟩ rfl (zs := []) .nil (fun y z S => by kernel_rfl)⟩,
   .inl ⟨rfl, def1 (fd := fdAt (kF w.params) (fa2 4)) (b := stmtsOf (fdAt (kF w.params) (fa2 4))) ⟨by kernel_rfl, by kernel_rfl, by kernel_rfl, by kernel_rfl, by kernel_rfl, by kernel_rfl, by kernel_rfl, by kernel_rfl, by kernel_rfl, by kernel_rfl, by kernel_rfl, by kernel_rfl, by kernel_rfl⟩ rfl rfl (fun y S => by kernel_rfl)⟩,
   .inl ⟨rfl, def2 (fd := fdAt (kF w.params) (fa2 5)) (b := stmtsOf (fdAt (kF w.params) (fa2 5))) ⟨by kernel_rfl, by kernel_rfl, by kernel_rfl, by kernel_rfl, by kernel_rfl, by kernel_rfl, by kernel_rfl, by kernel_rfl, by kernel_rfl, by kernel_rfl, by kernel_rfl, by kernel_rfl, by kernel_rfl⟩ rfl (zs := []) .nil (fun y z S => by kernel_rfl)⟩,
   .inl ⟨rfl, def2 (fd := fdAt (kF w.params) (fa2 6)) (b := stmtsOf (fdAt (kF w.params) (fa2 6))) ⟨by kernel_rfl, by kernel_rfl, by kernel_rfl, by kernel_rfl, by kernel_rfl, by kernel_rfl, by kernel_rfl, by kernel_rfl, by kernel_rfl, by kernel_rfl, by kernel_rfl, by kernel_rfl, by kernel_rfl⟩ rfl (zs := []) .nil (fun y z S => by kernel_rfl)⟩,
   .inl ⟨rfl, def2 (fd := fdAt (kF w.params) (fa2 7)) (b := stmtsOf (fdAt (kF w.params) (fa2 7))) ⟨by kernel_rfl, by kernel_rfl, by kernel_rfl, by kernel_rfl, by kernel_rfl, by kernel_rfl, by kernel_rfl, by kernel_rfl, by kernel_rfl, by kernel_rfl, by kernel_rfl, by kernel_rfl, by kernel_rfl⟩ rfl (zs := []) .nil (fun y z S => by kernel_rfl)⟩,
   .inr ⟨2, Str.ofString "size", fdAt (kF w.params) (fa2 9), stmtsOf (fdAt (kF w.params) (fa2 9)), rfl, ⟨⟨_, _, _, show (kF w.params).lookup (fa2 9) = some ⟨.type "function", none, .func (fdAt (kF w.params) (fa2 9)), #[]⟩ by kernel_rfl⟩, by kernel_rfl, by kernel_rfl, ⟨40, by kernel_rfl⟩, by kernel_rfl, by kernel_rfl, by kernel_rfl, by kernel_rfl, by kernel_rfl, by kernel_rfl, ⟨fun _ => by kernel_rfl, fun _ => by kernel_rfl, only_of (by kernel_rfl)⟩, by kernel_rfl, (by decide), (by decide), rfl, rfl, (by decide), crossed_loc (by kernel_rfl) (by kernel_rfl), ⟨0, by decide, by decide⟩, crossed_bind fun a b c S => by kernel_rfl⟩⟩,
   .inl ⟨rfl, def2 (fd := fdAt (kF w.params) (fa2 10)) (b := stmtsOf (fdAt (kF w.params) (fa2 10))) ⟨by kernel_rfl, by kernel_rfl, by kernel_rfl, by kernel_rfl, by kernel_rfl, by kernel_rfl, by kernel_rfl, by kernel_rfl, by kernel_rfl, by kernel_rfl, by kernel_rfl, by kernel_rfl, by kernel_rfl⟩ rfl (zs := []) .nil (fun y z S => by kernel_rfl)⟩,
   .inl ⟨rfl, def1 (fd := fdAt (kF w.params) (fa2 11)) (b := stmtsOf (fdAt (kF w.params) (fa2 11))) ⟨by kernel_rfl, by kernel_rfl, by kernel_rfl, by kernel_rfl, by kernel_rfl, by kernel_rfl, by kernel_rfl, by kernel_rfl, by kernel_rfl, by kernel_rfl, by kernel_rfl, by kernel_rfl, by kernel_rfl⟩ rfl rfl (fun y S => by kernel_rfl)⟩,
   .inl ⟨rfl, def2 (fd := fdAt (kF w.params) (fa2 12)) (b := stmtsOf (fdAt (kF w.params) (fa2 12))) ⟨by kernel_rfl, by kernel_rfl, by kernel_rfl, by kernel_rfl, by kernel_rfl, by kernel_rfl, by kernel_rfl, by kernel_rfl, by kernel_rfl, by kernel_rfl, by kernel_rfl, by kernel_rfl, by kernel_rfl⟩ rfl (zs := []) .nil (fun y z S => by kernel_rfl)⟩,
   .inl ⟨rfl, def2 (fd := fdAt (kF w.params) (fa2 15)) (b := stmtsOf (fdAt (kF w.params) (fa2 15))) ⟨by kernel_rfl, by kernel_rfl, by kernel_rfl, by kernel_rfl, by kernel_rfl, by kernel_rfl, by kernel_rfl, by kernel_rfl, by kernel_rfl, by kernel_rfl, by kernel_rfl, by kernel_rfl, by kernel_rfl⟩ rfl (zs := []) .nil (fun y z S => by kernel_rfl)⟩,
   .inl ⟨rfl, def2 (fd := fdAt (kF w.params) (fa2 16)) (b := stmtsOf (fdAt (kF w.params) (fa2 16))) ⟨by kernel_rfl, by kernel_rfl, by kernel_rfl, by kernel_rfl, by kernel_rfl, by kernel_rfl, by kernel_rfl, by kernel_rfl, by kernel_rfl, by kernel_rfl, by kernel_rfl, by kernel_rfl, by kernel_rfl⟩ rfl (zs := []) .nil (fun y z S => by kernel_rfl)⟩,
   trivial⟩
end
end Mine
end
section
open PySem PySem.W PyProof.Rows PyProof.V
set_option Elab.async false
set_option maxRecDepth 100000
set_option maxHeartbeats 4000000
namespace Mine
noncomputable def chk1 (v : Value) (p : P) : Bool := match v with
  | .str s _ => (match p.str? with
    | some l => s.cps.toList == l
    | none => false)
  | _ => false
noncomputable def chkS : List Value → List P → Bool
  | [], ps => ps.isEmpty
  | v :: r, ps => match ps with
    | [] => false
    | p :: q => chk1 v p && chkS r q
theorem chk1_ok {v : Value} {p : P} (h : chk1 v p = true) : DatIn [] v p.dat := by
  cases v with
  | str s t =>
    cases p with
    | str l =>
      have h1 : s.cps.toList = l := eq_of_beq h
      rw [← h1, P.dat, S_of]
      exact .str _ _
    | _ => exact nob h
  | _ => exact nob h
theorem chkS_ok {vs : List Value} : ∀ {ps : List P}, chkS vs ps = true → DatAll [] vs (dats ps) := by
  induction vs with
  | nil =>
    intro ps h
    cases ps with
    | nil => exact .nil
    | cons => exact nob h
  | cons v r ih =>
    intro ps h
    cases ps with
    | nil => exact nob h
    | cons p q => exact andE h fun h1 h2 => .cons (chk1_ok h1) (ih h2)
noncomputable def tabOf (o : Option Obj) : List Value := match o with
  | some ⟨_, _, .seq a _, _⟩ => a.toList
  | _ => []
noncomputable def tabN (o : Option Obj) : Nat := match o with
  | some ⟨_, _, .seq _ n, _⟩ => n
  | _ => 0
theorem chkTab_ok {o : Option Obj} {ps : List P} (h1 : o = some (listOf (tabOf o).toArray (tabN o))) (h : chkS (tabOf o) ps = true) : ∃ vs n, o = some (listOf vs.toArray n) ∧ DatAll [] vs (dats ps) := ⟨_, _, h1, chkS_ok h⟩
section
variable {prog : Program} {w : World} {s : Shared} {loose : List Str} {mg mb : Str → Option Value}
noncomputable def AllL (q : Str → Prop) : List Str → Prop
  | [] => True
  | x :: r => q x ∧ AllL q r
theorem AllL.of {q : Str → Prop} {x : Str} {l : List Str} (h : AllL q l) (hv : x ∈ l) : q x := by
  induction l with
  | nil => cases hv
  | cons a l ih =>
    cases hv with
    | head => exact h.1
    | tail _ hm => exact ih h.2 hm
theorem gv2 : AllP (GVOk (wd2 prog w s loose mg mb) fa2) gl2 := by
  iterate 9 (refine ⟨⟨by kernel_rfl, by kernel_rfl⟩, ?_⟩)
  refine ⟨⟨by kernel_rfl, by kernel_rfl, .type "type", by kernel_rfl, by kernel_rfl, fun n q hn => AllP.of (q := fun (n : Str) (p : P) => ∃ v, findCls (kF w.params) (.ref 134) (.type "type") n = some (.val v) ∧ handedIn v = true ∧ DatIn [] v p.dat) ?_ hn⟩, ?_⟩
  · exact ⟨⟨.str (S [32]) 1810, by kernel_rfl, rfl, .str _ _⟩, ⟨.str (S [9]) 1811, by kernel_rfl, rfl, .str _ _⟩, trivial⟩
  refine ⟨⟨24, by kernel_rfl, rfl⟩, ⟨53, by kernel_rfl, rfl⟩, ⟨.str (S [13, 10]) 194, by kernel_rfl, .str _ _⟩, ⟨.str (S [10]) 196, by kernel_rfl, .str _ _⟩,
    ⟨.str (S [48, 49, 50, 51, 52, 53, 54, 55, 56, 57, 97, 98, 99, 100, 101, 102, 65, 66, 67, 68, 69, 70]) 1239, by kernel_rfl, .str _ _⟩, ?_⟩
  repeat' (first | exact trivial | refine ⟨⟨by kernel_rfl, by kernel_rfl, by decide, _, rfl⟩, ?_⟩)
theorem tabs2 : Tabs (wd2 prog w s loose mg mb) tabsX := by
  refine ⟨fun g a ha => ?_⟩
  have ha : tb2 g = some a := ha
  match g with
  | 0 => cases ha; exact chkTab_ok (by kernel_rfl) (by kernel_rfl)
  | 1 => cases ha; exact chkTab_ok (by kernel_rfl) (by kernel_rfl)
  | _ + 2 => exact no ha
theorem pgok2 : PgOkC (wd2 prog w s loose mg mb) fa2 gl2 ml2 fl1 pg2 := by
  refine ⟨by kernel_rfl, fun x hx => ?_, fun x v hv => AllP.of gv2 hv, fun x f hx => ?_, ?_, tabs2, fun f F hF => (AllP.of (d2_all (prog := prog) (w := w) (s := s) (loose := loose) (mg := mg) (mb := mb)) hF :)⟩
  · exact AllL.of (q := FldOk _) (by
      repeat' (first | exact trivial | refine ⟨⟨by kernel_rfl, by kernel_rfl, by kernel_rfl⟩, ?_⟩)) hx
  · exact AllP.of (q := MethOk _ fa2) (by
      repeat' (first | exact trivial | refine ⟨⟨by kernel_rfl, by kernel_rfl, by kernel_rfl, by kernel_rfl⟩, ?_⟩)) hx
  · exact ⟨by kernel_rfl, by kernel_rfl, by kernel_rfl, by kernel_rfl, by kernel_rfl, by kernel_rfl⟩
end
end Mine
end
section
open PySem PySem.W PyProof.Rows PyProof.V
set_option Elab.async false
set_option maxRecDepth 100000
set_option maxHeartbeats 200000
namespace Mine
noncomputable def notInts (o : Obj) : Bool := match o.cls with
  | .type c => c != "list" || (match o.data with
    | .seq its _ => (match its.toList with
      | [] => false
      | .int _ _ :: _ => false
      | _ => true)
    | _ => true)
  | _ => true
theorem notInts_of {vs : List Value} {ns : List Int} (h : IntsAre vs ns) : notInts (listOf vs.toArray 0) = false := by
  cases h with
  | nil => rfl
  | cons _ _ => rfl
theorem notInts2 (p : Params) : (kF p).all (fun x => notInts x.2) = true := by kernel_rfl
theorem mem_lookup_g {α β : Type} [BEq α] [LawfulBEq α] : ∀ {K : List (α × β)} {a : α} {o : β}, K.lookup a = some o → (a, o) ∈ K
  | [], a, o, h => by cases h
  | (b, p) :: r, a, o, h => by
    rw [List.lookup_cons] at h
    split at h
    · rename_i hb; cases h; rw [eq_of_beq hb]; exact .head _
    · exact .tail _ (mem_lookup_g h)
/-- the base without the script's own list -/
theorem base_hide {K : Frag} {h : Heap} {a : Addr} {vs : List Value} {ns : List Int} {p : Program} {loose : List Str} {mg mb : Str → Option Value} (KI : K.In h) (T : TopRead p loose mg mb h) (hk : K.all (fun x => notInts x.2) = true)
    (ha : h.get? a = some (listOf vs.toArray 0)) (hi : IntsAre vs ns) : K.In (hideAll h [a]) ∧ TopRead p loose mg mb (hideAll h [a]) := by
  have get : ∀ b o, b ≠ a → h.get? b = some o → (hideAll h [a]).get? b = some o := fun b o hb e => hideAll_get _ e (by simpa using hb)
  have ns : ∀ b m, h.Ns b m → (hideAll h [a]).Ns b m := fun b m hn => by
    obtain ⟨o, es, ep, ho, hd, r⟩ := hn
    refine ⟨o, es, ep, get b o (fun e => ?_) ho, hd, r⟩
    subst e
    rw [ha] at ho
    cases ho
    cases hd
  refine ⟨fun b o e => get b o (fun q => ?_) (KI b o e), ns _ _ T.g, ns _ _ T.b, ?_, T.builtins, T.free⟩
  · subst q
    have h1 := KI _ _ e
    rw [ha] at h1
    cases h1
    have := List.all_eq_true.mp hk _ (mem_lookup_g e)
    rw [notInts_of hi] at this
    cases this
  · obtain ⟨mc, h1, h2⟩ := T.nolimit
    exact ⟨mc, ns _ _ h1, h2⟩
theorem ints_dats {imm : List (Addr × Obj)} {vs : List Value} {ns : List Int} (h : IntsAre vs ns) : DatAll imm vs (dats (ns.map P.int)) := by
  induction h with
  | nil => exact .nil
  | cons => rename_i ih; exact .cons (.int _ _) ih
theorem finish2 {prog : Program} {w : World} {s : Shared} {loose : List Str} {mg mb : Str → Option Value} {a fa : Addr} {o : Obj} {fd : FuncData} {vs : List Value} {ns : List Int} {body : List Stmt} {A : Around} {R : Result → Shared → Prop}
    (run : ∃ loc' H', exs (pg2.lvl 3) qb_law (loc2 ns) [.cell none] = some (.ret (.p (.bool true)), loc', H'))
    (KX : (kF w.params).In s.heap) (T : TopRead (qOf PySem.Challenge.pw_ku0010_02) loose mg mb s.heap) (ha : s.heap.get? a = some (listOf vs.toArray 0)) (hi : IntsAre vs ns)
    (hroom : A.depth < recursionLimit) (ho : s.heap.get? fa = some o) (hd : o.data = .func fd) (hcd : s.heap.CodeRec fd.code fd.qualname) (hbody : fd.body = .stmts body) (hbind : bindArgs fd ⟨[.ref a], []⟩ = pure [(Str.ofString "script", .ref a)])
    (hclo : fd.closure = []) (hcell : OneCell fd.scope (Str.ofString "size")) (hkind : fd.scope.names.lookup (Str.ofString "script") = some .local) (hkc : fd.scope.names.lookup (Str.ofString "size") = some .cell)
    (hgl : fd.globals = mainGlobals) (hbi : fd.builtins = builtinsNs) (hco : fd.scope.isCoroutine = false) (hgen : fd.scope.isGenerator = false) (hk : fd.scope.kind = .function) (hnd : qnm_law.Nodup)
    (htr : trB ⟨qnm_law, fd.scope, gl2, ml2, fl1⟩ 40 body = some qb_law) (Rm : ∀ env, Room (A.deeper env) 7)
    (hQ : ∀ s' m', Fr s.heap s.heap.objs.size s'.heap m' → s'.gens = s.gens → s'.os = s.os → R (.ok (.ret (.bool true))) s') :
    codeAny (model prog w) A (.call (.ref fa) ⟨[.ref a], []⟩) R s := by
  obtain ⟨loc', H', hz⟩ := run
  obtain ⟨K', T'⟩ := base_hide KX T (notInts2 _) ha hi
  have I : (wd2 prog w s loose mg mb).In (hideAll s.heap [a]) := ⟨K', T'⟩
  have PO : PgOkC (wd2 prog w s loose mg mb) fa2 gl2 ml2 fl1 pg2 := pgok2
  refine enter_cell hroom ho hd T.nolimit hcd hbody (BindsTo.of_eq hbind) hclo hcell ⟨_, List.mem_singleton.mpr rfl, hkind⟩ (fun y hy => ?_) (fun h₁ tk htk hns hcl hkeep => ?_) hco hgen hk
  · rw [List.mem_singleton] at hy
    subst hy
    exact .inl hkind
  let L := s.heap.objs.size
  let env := callEnvC fd L fa
  have hkl : env.kindOf (Str.ofString "script") = some .local := hkind
  have hb1 : bind1 env.kindOf [(Str.ofString "script", Value.ref a)] none = none := bind1_none fun y hy => by
    rw [List.mem_singleton] at hy
    subst hy
    exact hkl
  rw [hb1] at hcl
  obtain ⟨co, hco1, hco2⟩ := hcl
  have hm : bindL env.kindOf [(Str.ofString "script", Value.ref a)] (fun _ => none) (Str.ofString "script") = some (.ref a) := bindL_get (by simp) (List.mem_singleton.mpr rfl) hkl
  generalize bindL env.kindOf [(Str.ofString "script", Value.ref a)] (fun _ => none) = m at hns hm
  have F : Fr s.heap L h₁ m := ⟨hns, hkeep, Nat.le_refl _⟩
  have F' : Fr (hideAll s.heap [a]) L h₁ m := ⟨F.ns, fun b o e => F.keep b o (of_hideAll _ e), Nat.le_of_eq (hideAll_size _ _)⟩
  have halt : a < L := Heap.lt_size ha
  have st : St (wd2 prog w s loose mg mb) (hideAll s.heap [a]) env.locals m [(L + 1, co)] [] [(a, listOf vs.toArray 0)] [.cell none] { s with heap := h₁, toks := tk } := by
    refine ⟨F', fun p hp => ?_, ?_, .cons (.cellN hco2) .nil, rfl, rfl, rfl⟩
    · simp only [List.nil_append, List.cons_append, List.mem_cons, List.not_mem_nil, or_false] at hp
      rcases hp with rfl | rfl
      · refine ⟨hco1, Nat.succ_ne_self _, ?_⟩
        cases q : (hideAll s.heap [a]).get? (L + 1) with
        | none => rfl
        | some o' => 
          have := Heap.lt_size (of_hideAll _ q)
          exact absurd this (Nat.not_lt.mpr (Nat.le_succ _))
      · exact ⟨F.keep _ _ ha, Nat.ne_of_lt halt, hideAll_none _ (by simp)⟩
    · simp only [List.nil_append, List.cons_append, List.map_cons, List.map_nil, List.nodup_cons, List.mem_singleton, List.not_mem_nil, not_false_eq_true, List.nodup_nil, and_true]
      exact Nat.ne_of_gt (Nat.lt_succ_of_lt halt)
  have lr : LRel (wd2 prog w s loose mg mb) qnm_law env m [(a, listOf vs.toArray 0)] (([(L + 1, co)] : List (Addr × Obj)).map Prod.fst) (loc2 ns) := by
    intro i v x hv hx
    match i, hv, hx with
    | 0, hv, hx =>
      cases hv
      have hx : x = Str.ofString "script" := (Option.some.inj hx).symm
      subst hx
      refine ⟨fun _ => ⟨.ref a, hm, a, vs, 0, rfl, .head _, ints_dats hi⟩, fun h => ?_⟩
      rw [hkl] at h
      rcases h with h | h <;> cases h
    | 1, hv, _ => cases hv
    | 2, hv, _ => cases hv
    | 3, hv, _ => cases hv
    | 4, hv, _ => cases hv
    | 5, hv, hx =>
      cases hv
      have hx : x = Str.ofString "size" := (Option.some.inj hx).symm
      subst hx
      have hkk : env.kindOf (Str.ofString "size") = some .cell := hkc
      refine ⟨fun h => ?_, fun _ => ⟨0, L + 1, rfl, ?_, rfl⟩⟩
      · rw [hkk] at h; cases h
      · show (cellsFrom (L + 1) fd.scope.names []).lookup _ = _
        rw [hcell.from_]
        simp
    | 6, hv, _ => cases hv
    | 7, hv, _ => cases hv
    | 8, hv, _ => cases hv
    | i + 9, hv, _ => cases hv
  have eo : EnvOk ⟨qnm_law, fd.scope, gl2, ml2, fl1⟩ env := ⟨rfl, hgl, hbi, hk, hnd⟩
  have at_ : At (wd2 prog w s loose mg mb) ⟨qnm_law, fd.scope, gl2, ml2, fl1⟩ env (hideAll s.heap [a]) m [] (loc2 ns) [(L + 1, co)] [(a, listOf vs.toArray 0)] [.cell none] { s with heap := h₁, toks := tk } := ⟨st, htk, lr⟩
  refine snd_block (X := wd2 prog w s loose mg mb) (n := 6) (fa := fa2) (g := pg2.lvl 3) (trS_sound PO.book 40) (c := ⟨qnm_law, fd.scope, gl2, ml2, fl1⟩) (PO.lvl 3) eo htr hz (Rm _) I at_ fun m' mu' imm' f s' a' g' r' => ?_
  cases r' with
  | ret hr =>
    cases hr
    have hmem : (a, listOf vs.toArray 0) ∈ mu' ++ ([] ++ imm') := List.mem_append_right _ (List.mem_append_right _ (g'.im _ (.head _)))
    have e1 := (a'.st.nw _ hmem).1
    refine hQ s' m' ⟨a'.st.fr.ns, fun b o e => ?_, Nat.le_refl _⟩ a'.st.g a'.st.os
    by_cases hb : b = a
    · subst hb; rw [ha] at e; cases e; exact e1
    · exact a'.st.fr.keep b o (hideAll_get _ e (by simpa using hb))
end Mine
end
section
open PySem PySem.W PyProof.Rows PyProof.V
set_option Elab.async false
set_option maxRecDepth 100000
set_option maxHeartbeats 400000
namespace Mine
theorem well_list {P : Params} {h : Heap} {v : Value} {d : WData} (w : Well P h v d) : ∀ {a : Addr} {xs : List WData}, v = .ref a → d = .list xs → ∃ vs : List Value, h.get? a = some (listOf vs.toArray 0) := by
  have nl : ∀ {d : WData} {xs : List WData} {C : Prop}, Nat.beq d.ctorIdx (WData.list []).ctorIdx = false → d = .list xs → C := fun h e => nob (h.symm.trans (congrArg (fun d : WData => Nat.beq d.ctorIdx (WData.list []).ctorIdx) e))
  refine @Well.casesOn P h (fun v d _ => ∀ {a : Addr} {xs : List WData}, v = .ref a → d = .list xs → ∃ vs : List Value, h.get? a = some (listOf vs.toArray 0)) v d w ?_ ?_ ?_ ?_ ?_ ?_ ?_ (fun hg _ _ _ e _ => Value.ref.inj e ▸ ⟨_, hg⟩) ?_ ?_ ?_ ?_ ?_
  all_goals (intros; exact nl rfl ‹_›)
theorem list_at {P : Params} {h : Heap} {a : Addr} {ns : List Int} {vs : List Value} (h1 : Well P h (.ref a) (ofPy (.list (ns.map PyData.int)))) (hL : h.IsList a vs.toArray) : h.get? a = some (listOf vs.toArray 0) := by
  obtain ⟨o, ho, hc, n, ho'⟩ := hL
  obtain ⟨vs', hg⟩ := well_list h1 rfl rfl
  have e := ho'
  rw [← Option.some.inj (hg.symm.trans ho)] at e
  rw [← (Data.seq.inj e).1]
  exact hg
theorem room2 (env : Env) : Room (callerA.deeper env) 7 := ⟨rfl, by rw [depth_deeper]; decide +kernel, by rw [Around.deeper_units]; decide +kernel⟩
theorem law2_holds : PySem.Challenge.rw_ku0010_02.Holds := by
  w_on
  refine holds_law (by kernel_rfl) fun said => ?_
  refine holds_open (q := qOf PySem.Challenge.pw_ku0010_02) (loose := looseL) (Xt := xtOf (qOf PySem.Challenge.pw_ku0010_02)) (XP := XL (qOf PySem.Challenge.pw_ku0010_02) []) (Yf := Hook.obs hkF) (Ya := Hook.val hkF) (YP := Hook.says hkF) (N := 20000)
    left_Q (Hook.of hkF) (Hook.keeps hkF) (fun s e => xl_of s (Bool.and_eq_true_iff.mp e).1) XL.keeps (by rfl) (by rfl) (by rfl) (fun s e => recFacts_of (Bool.and_eq_true_iff.mp e).2) (by rfl) (by first | assumption | decide +kernel) (by decide +kernel) ⟨rfl, rfl, rfl, rfl, rfl, by decide +kernel⟩ ?hw ?hc
  case hw => w_witness2
  case hc =>
    intro w s₀ s₁ mg mb G Y fa o pm cd doc dV kV ho hd hcd hD hmg hg args vals as hpre hlay hrd hwl hlo
    have KX := kIn_of Y
    have X := (Ground.X G).1
    have V := (Ground.X G).2
    refine Ground.open G ?_
    intro T B D TE TW
    try (refine guard_noD D (by decide +kernel) ?_; clear D)
    obtain ⟨_, _, M⟩ := bmod_of_top T
    have TA := at_of_top T
    obtain ⟨_, _, he, B0⟩ := based_of_top T rfl hmg ho hd
    have he' : cd = _ := he
    subst he'
    clear he hmg
    wrow_args hpre hlay hrd hwl hlo
    all_goals (
      refine enter_call ?_
      w_top on
      refine codeAny_mono ?_ (fun _ _ g => GoodW.toG g))
    have hdv := Dflts.none hD rfl
    have hkv := Dflts.noKw hD
    subst hdv hkv
    refine finish2 (fa := fa) (law2_run ?len) KX (topRead_of T) (list_at ‹Well _ _ _ _› ‹Heap.IsList _ _ _›) ‹IntsAre _ _› (by decide +kernel) ho hd hcd rfl ?bind rfl ⟨fun _ => rfl, fun _ => rfl, ?only⟩ rfl rfl rfl rfl rfl rfl rfl (show qnm_law.Nodup by decide) (by kernel_rfl) room2 ?_
    case len => omega
    case bind => kernel_rfl
    case only => exact only_of (by kernel_rfl)
    intro s' m' F' hg' hos'
    refine goodW_bool F' (hg'.trans hg) (raisesW_false ?_) ?_ hos'
    · wrow_none_raised
    · wrow_post
end Mine
end
theorem PySem.Challenge.cw_ku0010_02_holds : PySem.Challenge.rw_ku0010_02.Holds :=
  Mine.law2_holds

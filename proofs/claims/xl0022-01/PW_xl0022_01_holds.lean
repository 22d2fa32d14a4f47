import PyProof.Rows.All
import PySem.Builtin.Re_Pattern.W2All
import Wide.All
import OpenK.AllK
import Wide.FinOn
import Lean
import PySem.Challenge.RW_xl0022_01
set_option Elab.async false
section
open PySem PySem.W PySem.Calls PyProof.Rows
set_option linter.unusedVariables false
set_option linter.unusedSimpArgs false
set_option maxRecDepth 100000
namespace Mine

section

/-! data, representation, frames -/

/-- the program, its world, and the heap at the law's call -/
structure Wd where
  prog : Program
  w : World
  H : Heap

inductive D where
  | none
  | bool (b : Bool)
  | int (i : Int)
  | str (x : Str)
  | obj (v : Value)
  | list (ds : List D)
  | tuple (ds : List D)
  | dict (kv : List (Str × Str))
  | range (a b : Int)

abbrev PHeap := Addr → Option Obj

noncomputable def SeqAt (g : PHeap) (T : String) (a : Addr) (vs : List Value) : Prop := ∃ o, g a = some o ∧ o.cls = .type T ∧ ∃ n, o.data = .seq vs.toArray n

/-- a dict of strs to strs, as its object -/
noncomputable def DictOfStrs (W : Wd) (o : Obj) (kv : List (Str × Str)) : Prop :=
  o.ExactDict ∧ ∃ es ep, o.data = .dict es ep ∧ KeysOf (PySem.strKind W.prog W.w) es ∧
    ∀ k, (∀ v, kv.lookup k = some v → ∃ t, findBy (PySem.strKind W.prog W.w).is es k = some (.str v t)) ∧ (kv.lookup k = none → findBy (PySem.strKind W.prog W.w).is es k = none)

mutual
inductive Rep (W : Wd) (g : PHeap) : Value → D → Prop
  | none : Rep W g .none .none
  | bool (b : Bool) : Rep W g (.bool b) (.bool b)
  | int (i : Int) (t : Tok) : Rep W g (.int i t) (.int i)
  | str (x : Str) (t : Tok) : Rep W g (.str x t) (.str x)
  | obj (v : Value) : Rep W g v (.obj v)
  | list {a : Addr} {vs : List Value} {ds : List D} : SeqAt g "list" a vs → RepL W g vs ds → Rep W g (.ref a) (.list ds)
  | tuple {a : Addr} {vs : List Value} {ds : List D} : SeqAt g "tuple" a vs → RepL W g vs ds → Rep W g (.ref a) (.tuple ds)
  | dict {a : Addr} {o : Obj} {kv : List (Str × Str)} : g a = some o → a ≠ sysModules → DictOfStrs W o kv → Rep W g (.ref a) (.dict kv)
  | range {a : Addr} {x y : Int} {t u v : Tok} : g a = some { cls := .type "range", data := .fields #[.int x t, .int y u, .int 1 v] } → Rep W g (.ref a) (.range x y)
inductive RepL (W : Wd) (g : PHeap) : List Value → List D → Prop
  | nil : RepL W g [] []
  | cons {v : Value} {vs : List Value} {d : D} {ds : List D} : Rep W g v d → RepL W g vs ds → RepL W g (v :: vs) (d :: ds)
end

noncomputable def Sub (g g' : PHeap) : Prop := ∀ b o, g b = some o → g' b = some o
theorem Sub.refl (g : PHeap) : Sub g g := fun _ _ e => e
theorem Sub.trans {g g' g'' : PHeap} (a : Sub g g') (b : Sub g' g'') : Sub g g'' := fun x o e => b x o (a x o e)
theorem SeqAt.mono {g g' : PHeap} {T a vs} (h : SeqAt g T a vs) (s : Sub g g') : SeqAt g' T a vs := let ⟨o, e, r⟩ := h; ⟨o, s _ _ e, r⟩

mutual
theorem Rep.mono {W : Wd} {g g' : PHeap} (s : Sub g g') : ∀ {v : Value} {d : D}, Rep W g v d → Rep W g' v d
  | _, _, .none => .none
  | _, _, .bool b => .bool b
  | _, _, .int i t => .int i t
  | _, _, .str x t => .str x t
  | _, _, .obj v => .obj v
  | _, _, .list h r => .list (h.mono s) (RepL.mono s r)
  | _, _, .tuple h r => .tuple (h.mono s) (RepL.mono s r)
  | _, _, .dict h n r => .dict (s _ _ h) n r
  | _, _, .range h => .range (s _ _ h)
theorem RepL.mono {W : Wd} {g g' : PHeap} (s : Sub g g') : ∀ {vs : List Value} {ds : List D}, RepL W g vs ds → RepL W g' vs ds
  | _, _, .nil => .nil
  | _, _, .cons h r => .cons (Rep.mono s h) (RepL.mono s r)
end

section
variable {W : Wd} {g : PHeap} {v : Value} {d : D} {vs ws : List Value} {ds es : List D}
theorem RepL.length (h : RepL W g vs ds) : vs.length = ds.length := by
  induction vs generalizing ds with
  | nil => cases h; rfl
  | cons v vs ih => cases h with
    | cons _ r => rw [List.length_cons, List.length_cons, ih r]
theorem RepL.append (h : RepL W g vs ds) (k : RepL W g ws es) : RepL W g (vs ++ ws) (ds ++ es) := by
  induction vs generalizing ds with
  | nil => cases h; exact k
  | cons v vs ih => cases h with
    | cons h r => exact .cons h (ih r)
theorem RepL.one (h : Rep W g v d) : RepL W g [v] [d] := .cons h .nil
theorem RepL.get (h : RepL W g vs ds) {k : Nat} {d : D} (hk : ds[k]? = some d) : ∃ v, vs[k]? = some v ∧ Rep W g v d := by
  induction vs generalizing ds k with
  | nil => cases h; simp at hk
  | cons v vs ih => cases h with
    | cons h r => cases k with
      | zero => simp at hk; subst hk; exact ⟨v, rfl, h⟩
      | succ k => simp at hk; simpa using ih r hk
theorem RepL.drop (h : RepL W g vs ds) (k : Nat) : RepL W g (vs.drop k) (ds.drop k) := by
  induction k generalizing vs ds with
  | zero => simpa using h
  | succ k ih => cases h with
    | nil => simpa using RepL.nil
    | cons h r => simpa using ih r
theorem RepL.take (h : RepL W g vs ds) (k : Nat) : RepL W g (vs.take k) (ds.take k) := by
  induction k generalizing vs ds with
  | zero => simpa using RepL.nil
  | succ k ih => cases h with
    | nil => simpa using RepL.nil
    | cons h r => simpa using RepL.cons h (ih r)
theorem RepL.set (h : RepL W g vs ds) (k : Nat) (hv : Rep W g v d) : RepL W g (vs.set k v) (ds.set k d) := by
  induction k generalizing vs ds with
  | zero => cases h with
    | nil => exact .nil
    | cons h r => exact .cons hv r
  | succ k ih => cases h with
    | nil => exact .nil
    | cons h r => exact .cons h (ih r)
theorem RepL.eraseIdx (h : RepL W g vs ds) (k : Nat) : RepL W g (vs.eraseIdx k) (ds.eraseIdx k) := by
  induction k generalizing vs ds with
  | zero => cases h with
    | nil => exact .nil
    | cons h r => exact r
  | succ k ih => cases h with
    | nil => exact .nil
    | cons h r => exact .cons h (ih r)
end

/-- what a variable holds: shared data, or a list of the frame's own that may still be changed (b: as it was made) -/
inductive Sl where
  | sh (d : D)
  | ow (b : Bool) (ds : List D)

abbrev Ro := List (Str × Sl)

structure Fm where
  env : Env
  A : Around
  own : List Addr
  n : Nat

structure FmOk (F : Fm) : Prop where
  kind : F.env.scope.kind = .function
  hd : F.A.handled = none
  apart : F.env.cells.Pairwise fun x y => x.2 ≠ y.2
  glob : F.env.globals = mainGlobals
  bi : F.env.builtins = builtinsNs
  deep : F.A.depth + F.n ≤ 900
  unit : F.A.units + 16 * F.n + 300 ≤ 9900

noncomputable def VarAt (env : Env) (h : Heap) (x : Str) (v : Value) : Prop :=
  (env.kindOf x = some .local ∧ ∃ m, h.Ns env.locals m ∧ m x = some v) ∨
  (env.kindOf x = some .cell ∧ ∃ c, env.cells.lookup x = some c ∧ h.IsCell c (some v))

noncomputable def Off (kp g : PHeap) (a : Addr) : Prop := kp a = none ∧ g a = none

noncomputable def OwnL (b : Bool) (h : Heap) (a : Addr) (vs : List Value) : Prop := h.IsList a vs.toArray ∧ (b = true → h.PlainList a vs.toArray)

structure StV (W : Wd) (F : Fm) (kp g : PHeap) (ρ : Ro) (val : Str → Value) (s : Shared) : Prop where
  ok : FmOk F
  base : ∀ b o, W.H.get? b = some o → kp b = some o
  keep : ∀ b o, kp b = some o → s.heap.get? b = some o
  gin : ∀ b o, g b = some o → s.heap.get? b = some o
  ns : ∃ m, s.heap.Ns F.env.locals m
  cell : ∀ c ∈ F.own, ∃ v, s.heap.IsCell c v
  var : ∀ x sl, ρ.lookup x = some sl → VarAt F.env s.heap x (val x)
  sh : ∀ x d, ρ.lookup x = some (.sh d) → Rep W g (val x) d
  ow : ∀ x b ds, ρ.lookup x = some (.ow b ds) → ∃ a vs, val x = .ref a ∧ OwnL b s.heap a vs ∧ RepL W g vs ds ∧ Off kp g a
  loff : Off kp g F.env.locals
  coff : ∀ c ∈ F.own, Off kp g c
  apart : ∀ x y b c ds es, x ≠ y → ρ.lookup x = some (.ow b ds) → ρ.lookup y = some (.ow c es) → val x ≠ val y
  toks : 1 ≤ s.toks
  cellA : ∀ p ∈ F.env.cells, ∃ v, s.heap.IsCell p.2 v

noncomputable def St (W : Wd) (F : Fm) (kp g : PHeap) (ρ : Ro) (s : Shared) : Prop := ∃ val, StV W F kp g ρ val s

noncomputable def Gr (kp g g' : PHeap) : Prop := Sub g g' ∧ ∀ b, g' b ≠ none → g b ≠ none ∨ kp b = none
theorem Gr.refl (kp g : PHeap) : Gr kp g g := ⟨Sub.refl g, fun _ h => .inl h⟩
theorem Gr.trans {kp g g' g'' : PHeap} (a : Gr kp g g') (b : Gr kp g' g'') : Gr kp g g'' :=
  ⟨a.1.trans b.1, fun x h => (b.2 x h).elim (fun h' => a.2 x h') .inr⟩
theorem Gr.weaken {kp kp' g g' : PHeap} (a : Gr kp' g g') (h : Sub kp kp') : Gr kp g g' :=
  ⟨a.1, fun x q => (a.2 x q).imp id fun e => by
    cases hk : kp x with
    | none => rfl
    | some o => rw [h x o hk] at e; cases e⟩

noncomputable def Rst (s s' : Shared) : Prop := s'.gens = s.gens ∧ s'.drawn = s.drawn ∧ s'.os = s.os
theorem Rst.refl (s : Shared) : Rst s s := ⟨rfl, rfl, rfl⟩
theorem Rst.trans {s s' s'' : Shared} (a : Rst s s') (b : Rst s' s'') : Rst s s'' := ⟨b.1.trans a.1, b.2.1.trans a.2.1, b.2.2.trans a.2.2⟩

noncomputable def gadd (g : PHeap) (a : Addr) (o : Obj) : PHeap := fun b => if b = a then some o else g b
theorem gadd_self (g : PHeap) (a : Addr) (o : Obj) : gadd g a o a = some o := if_pos rfl
theorem gadd_sub {g : PHeap} {a : Addr} (o : Obj) (h : g a = none) : Sub g (gadd g a o) := fun b o' e => by
  unfold gadd
  by_cases hb : b = a
  · subst hb; rw [h] at e; cases e
  · rw [if_neg hb]; exact e

section
variable {W : Wd} {F : Fm} {kp g g' : PHeap} {ρ : Ro} {val : Str → Value} {s : Shared}

theorem VarAt.keeps {env : Env} {h h' : Heap} {x : Str} {v : Value} (X : VarAt env h x v) (hk : ∀ b o, h.get? b = some o → h'.get? b = some o) : VarAt env h' x v :=
  X.imp (fun ⟨a, m, b, c⟩ => ⟨a, m, b.keeps hk, c⟩) fun ⟨a, c, b, d⟩ => ⟨a, c, b, d.keeps hk⟩
theorem isList_keeps {h h' : Heap} {a : Addr} {vs : Array Value} (X : h.IsList a vs) (hk : ∀ o, h.get? a = some o → h'.get? a = some o) : h'.IsList a vs := let ⟨o, e, r⟩ := X; ⟨o, hk _ e, r⟩
theorem OwnL.at {b : Bool} {h h' : Heap} {a : Addr} {vs : List Value} (X : OwnL b h a vs) (hk : ∀ o, h.get? a = some o → h'.get? a = some o) : OwnL b h' a vs :=
  ⟨isList_keeps X.1 hk, fun e => (X.2 e).at hk⟩
theorem Ns.some {h : Heap} {a : Addr} {m : Str → Option Value} (X : h.Ns a m) : ∃ o, h.get? a = some o := let ⟨o, _, _, e, _⟩ := X; ⟨o, e⟩

/-- the heap has only grown, and new objects may be frozen -/
theorem StV.ext (X : StV W F kp g ρ val s) {h' : Heap} {tk : Nat} (hk : ∀ b o, s.heap.get? b = some o → h'.get? b = some o) (hg : Sub g g') (hg' : ∀ b o, g' b = some o → h'.get? b = some o)
    (hn : ∀ b, g' b ≠ none → g b ≠ none ∨ s.heap.get? b = none) (ht : 1 ≤ tk) : StV W F kp g' ρ val { s with heap := h', toks := tk } := by
  have off : ∀ a o, s.heap.get? a = some o → Off kp g a → Off kp g' a := fun a o e q => ⟨q.1, by
    cases h : g' a with
    | none => rfl
    | some o' => rcases hn a (by rw [h]; exact nofun) with h1 | h1
                 · exact absurd q.2 h1
                 · rw [h1] at e; cases e⟩
  refine ⟨X.ok, X.base, fun b o e => hk b o (X.keep b o e), hg', X.ns.imp fun m q => q.keeps hk, fun c hc => (X.cell c hc).imp fun v q => q.keeps hk, fun x sl e => (X.var x sl e).keeps hk,
    fun x d e => (X.sh x d e).mono hg, fun x b ds e => ?_, ?_, fun c hc => ?_, X.apart, ht, fun p hp => (X.cellA p hp).imp fun v q => q.keeps hk⟩
  · obtain ⟨a, vs, e1, e2, e3, e4⟩ := X.ow x b ds e
    obtain ⟨o, ho, _⟩ := e2.1
    exact ⟨a, vs, e1, e2.at fun o => hk a o, e3.mono hg, off a o ho e4⟩
  · obtain ⟨m, hm⟩ := X.ns
    obtain ⟨o, ho⟩ := Ns.some hm
    exact off _ o ho X.loff
  · obtain ⟨v, o, ho, _⟩ := X.cell c hc
    exact off c o ho (X.coff c hc)

theorem StV.grows (X : StV W F kp g ρ val s) (hn : ∀ b, g' b ≠ none → g b ≠ none ∨ s.heap.get? b = none) (hg : Sub g g') : Gr kp g g' :=
  ⟨hg, fun b h => (hn b h).imp id fun e => by
    cases hk : kp b with
    | none => rfl
    | some o => rw [X.keep b o hk] at e; cases e⟩

/-- a new object, frozen at once -/
theorem StV.alloc (X : StV W F kp g ρ val s) (o : Obj) (ho : o.isFreed = false) {tk : Nat} (ht : 1 ≤ tk) :
    StV W F kp (gadd g s.heap.objs.size o) ρ val { s with heap := s.heap.push o, toks := tk } ∧ Gr kp g (gadd g s.heap.objs.size o) := by
  have hfr : s.heap.get? s.heap.objs.size = none := by
    cases e : s.heap.get? s.heap.objs.size with
    | none => rfl
    | some o' => exact absurd (Heap.lt_size e) (Nat.lt_irrefl _)
  have hgn : g s.heap.objs.size = none := by
    cases e : g s.heap.objs.size with
    | none => rfl
    | some o' => rw [X.gin _ _ e] at hfr; cases hfr
  have hn : ∀ b, gadd g s.heap.objs.size o b ≠ none → g b ≠ none ∨ s.heap.get? b = none := fun b h => by
    unfold gadd at h
    by_cases hb : b = s.heap.objs.size
    · exact .inr (hb ▸ hfr)
    · rw [if_neg hb] at h; exact .inl h
  refine ⟨X.ext (fun b o' e => Heap.get?_push_of_some _ e) (gadd_sub o hgn) (fun b o' e => ?_) hn ht, X.grows hn (gadd_sub o hgn)⟩
  unfold gadd at e
  by_cases hb : b = s.heap.objs.size
  · rw [if_pos hb] at e; cases e; rw [hb]; exact Heap.get?_push_size _ ho
  · rw [if_neg hb] at e; exact Heap.get?_push_of_some _ (X.gin b o' e)

/-- a new object that is not frozen -/
theorem StV.pushed (X : StV W F kp g ρ val s) (o : Obj) {tk : Nat} (ht : 1 ≤ tk) : StV W F kp g ρ val { s with heap := s.heap.push o, toks := tk } :=
  X.ext (fun b o' e => Heap.get?_push_of_some _ e) (Sub.refl g) (fun b o' e => Heap.get?_push_of_some _ (X.gin b o' e)) (fun _ h => .inl h) ht

theorem StV.tok (X : StV W F kp g ρ val s) {tk : Nat} (ht : 1 ≤ tk) : StV W F kp g ρ val { s with toks := tk } :=
  X.ext (fun _ _ e => e) (Sub.refl g) X.gin (fun _ h => .inl h) ht

theorem StV.weaken (X : StV W F kp g ρ val s) {ρ' : Ro} (h : ∀ x sl, ρ'.lookup x = some sl → ρ.lookup x = some sl) : StV W F kp g ρ' val s :=
  ⟨X.ok, X.base, X.keep, X.gin, X.ns, X.cell, fun x sl e => X.var x sl (h _ _ e), fun x d e => X.sh x d (h _ _ e), fun x b ds e => X.ow x b ds (h _ _ e), X.loff, X.coff,
    fun x y b c ds es hxy e1 e2 => X.apart x y b c ds es hxy (h _ _ e1) (h _ _ e2), X.toks, X.cellA⟩
theorem St.weaken (X : St W F kp g ρ s) {ρ' : Ro} (h : ∀ x sl, ρ'.lookup x = some sl → ρ.lookup x = some sl) : St W F kp g ρ' s := X.imp fun _ X => X.weaken h

end

end

section

noncomputable def rset : Ro → Str → Sl → Ro
  | [], x, sl => [(x, sl)]
  | (y, t) :: r, x, sl => if x == y then (y, sl) :: r else (y, t) :: rset r x sl

theorem lookup_rset (ρ : Ro) (x : Str) (sl : Sl) (y : Str) : (rset ρ x sl).lookup y = if y = x then some sl else ρ.lookup y := by
  have nb : ∀ {a b : Str}, ¬ a = b → (a == b) = false := fun h => beq_eq_false_iff_ne.mpr h
  induction ρ with
  | nil =>
    unfold rset
    rw [List.lookup_cons, List.lookup_nil]
    by_cases h : y = x
    · subst h; rw [beq_self_eq_true, if_pos rfl]
    · rw [nb h, if_neg h]
  | cons p r ih =>
    obtain ⟨z, t⟩ := p
    unfold rset
    by_cases hx : x = z
    · subst hx
      rw [beq_self_eq_true, if_pos rfl, List.lookup_cons, List.lookup_cons]
      by_cases h : y = x
      · subst h; rw [beq_self_eq_true, if_pos rfl]
      · rw [nb h, if_neg h]
    · rw [nb hx, if_neg Bool.false_ne_true, List.lookup_cons, List.lookup_cons, ih]
      by_cases h : y = z
      · subst h
        have h' : ¬ y = x := fun e => hx e.symm
        rw [beq_self_eq_true]; simp only [h', if_false]
      · rw [nb h]

theorem ns_cell_ne {h : Heap} {a c : Addr} {m v} (hn : h.Ns a m) (hc : h.IsCell c v) : c ≠ a := by
  rintro rfl
  obtain ⟨o, es, ep, ho, hd, _⟩ := hn
  obtain ⟨o', ho', hd'⟩ := hc
  rw [ho] at ho'; cases ho'; rw [hd] at hd'; cases hd'
theorem ns_list_ne {h : Heap} {a c : Addr} {m v} (hn : h.Ns a m) (hc : h.IsList c v) : c ≠ a := by
  rintro rfl
  obtain ⟨o, es, ep, ho, hd, _⟩ := hn
  obtain ⟨o', ho', _, n, hd'⟩ := hc
  rw [ho] at ho'; cases ho'; rw [hd] at hd'; cases hd'
theorem cell_list_ne {h : Heap} {a c : Addr} {m v} (hn : h.IsCell a m) (hc : h.IsList c v) : c ≠ a := by
  rintro rfl
  obtain ⟨o, ho, hd⟩ := hn
  obtain ⟨o', ho', _, n, hd'⟩ := hc
  rw [ho] at ho'; cases ho'; rw [hd] at hd'; cases hd'

noncomputable def CanStore (F : Fm) (x : Str) : Prop :=
  F.env.kindOf x = some .local ∨ (F.env.kindOf x = some .cell ∧ ∃ c, F.env.cells.lookup x = some c ∧ c ∈ F.own)

noncomputable def SlOk (W : Wd) (kp g : PHeap) (ρ : Ro) (val : Str → Value) (h : Heap) (x : Str) (v : Value) : Sl → Prop
  | .sh d => Rep W g v d
  | .ow b ds => ∃ a vs, v = .ref a ∧ OwnL b h a vs ∧ RepL W g vs ds ∧ Off kp g a ∧ ∀ y c es, y ≠ x → ρ.lookup y = some (.ow c es) → val y ≠ .ref a

section
variable {W : Wd} {F : Fm} {kp g : PHeap} {ρ : Ro} {val : Str → Value} {s : Shared} {x : Str} {v : Value} {sl : Sl} {E : Value → Shared → Prop}

theorem StV.load {Q : Value → Shared → Prop} (X : StV W F kp g ρ val s) (hx : ρ.lookup x = some sl) (h : Q (val x) s) : wpAny (model W.prog W.w) F.A (loadName F.env x) Q E s := by
  rcases X.var x sl hx with ⟨hl, m, hn, hv⟩ | ⟨hl, c, hc, hv⟩
  · exact wpAny_loadName_local X.ok.kind hl hn hv h
  · exact wpAny_loadName_cell X.ok.kind hl hc hv h

noncomputable def vset (val : Str → Value) (x : Str) (v : Value) : Str → Value := fun y => if y = x then v else val y

/-- what a store leaves: shared by both kinds of a name -/
theorem StV.stored (X : StV W F kp g ρ val s) (hsl : SlOk W kp g ρ val s.heap x v sl) {h' : Heap} {z : Addr} {tk : Nat} (ht : 1 ≤ tk) (hs : Heap.SameBut z s.heap h') (hz : Off kp g z)
    (hns : ∃ m, h'.Ns F.env.locals m) (hcell : ∀ c ∈ F.own, ∃ v, h'.IsCell c v) (hcellA : ∀ p ∈ F.env.cells, ∃ v, h'.IsCell p.2 v) (hnl : ∀ a vs, s.heap.IsList a vs → a ≠ z)
    (hvx : VarAt F.env h' x v) (hvy : ∀ y sl, y ≠ x → ρ.lookup y = some sl → VarAt F.env h' y (val y)) :
    StV W F kp g (rset ρ x sl) (vset val x v) { s with heap := h', toks := tk } := by
  have keepAt : ∀ b o, s.heap.get? b = some o → b ≠ z → h'.get? b = some o := fun b o e hb => (hs.2 b hb).trans e
  have vx : vset val x v x = v := if_pos rfl
  have vy : ∀ y, y ≠ x → vset val x v y = val y := fun y h => if_neg h
  have lx : (rset ρ x sl).lookup x = some sl := by rw [lookup_rset, if_pos rfl]
  have ly : ∀ y, y ≠ x → (rset ρ x sl).lookup y = ρ.lookup y := fun y h => by rw [lookup_rset, if_neg h]
  refine ⟨X.ok, X.base, fun b o e => keepAt b o (X.keep b o e) (by rintro rfl; rw [hz.1] at e; cases e), fun b o e => keepAt b o (X.gin b o e) (by rintro rfl; rw [hz.2] at e; cases e), hns, hcell, ?_, ?_, ?_, X.loff, X.coff, ?_, ht, hcellA⟩
  · intro y t e
    by_cases hy : y = x
    · subst hy; rw [vx]; exact hvx
    · rw [vy y hy]; rw [ly y hy] at e; exact hvy y t hy e
  · intro y d e
    by_cases hy : y = x
    · subst hy; rw [vx]; rw [lx] at e; cases e; exact hsl
    · rw [vy y hy]; rw [ly y hy] at e; exact X.sh y d e
  · intro y b ds e
    by_cases hy : y = x
    · subst hy; rw [vx]; rw [lx] at e; cases e
      obtain ⟨a, vs, e1, e2, e3, e4, _⟩ := hsl
      exact ⟨a, vs, e1, e2.at fun o q => keepAt a o q (hnl _ _ e2.1), e3, e4⟩
    · rw [vy y hy]; rw [ly y hy] at e
      obtain ⟨a, vs, e1, e2, e3, e4⟩ := X.ow y b ds e
      exact ⟨a, vs, e1, e2.at fun o q => keepAt a o q (hnl _ _ e2.1), e3, e4⟩
  · intro y1 y2 b c ds es hne e1 e2
    by_cases h1 : y1 = x
    · subst h1
      have h2 : y2 ≠ y1 := fun e => hne e.symm
      rw [vx, vy y2 h2]
      rw [lx] at e1; cases e1
      rw [ly y2 h2] at e2
      obtain ⟨a, vs, rfl, _, _, _, q⟩ := hsl
      exact fun e => q y2 c es h2 e2 e.symm
    · rw [vy y1 h1]; rw [ly y1 h1] at e1
      by_cases h2 : y2 = x
      · subst h2
        rw [vx]; rw [lx] at e2; cases e2
        obtain ⟨a, vs, rfl, _, _, _, q⟩ := hsl
        exact q y1 b ds h1 e1
      · rw [vy y2 h2]; rw [ly y2 h2] at e2
        exact X.apart y1 y2 b c ds es hne e1 e2

theorem StV.store {Q : Unit → Shared → Prop} (X : StV W F kp g ρ val s) (hx : CanStore F x) (hsl : SlOk W kp g ρ val s.heap x v sl)
    (h : ∀ s', StV W F kp g (rset ρ x sl) (vset val x v) s' → Rst s s' → Q () s') : wpAny (model W.prog W.w) F.A (storeName F.env x v) Q E s := by
  rcases hx with hl | ⟨hl, c, hc, hco⟩
  · obtain ⟨m, hn⟩ := X.ns
    refine wpAny_storeName_local hl hn (fun h' hn' hs' => ?_) (by rw [X.ok.kind]; rfl)
    refine h { s with heap := h', toks := s.toks + 1 } (X.stored hsl (Nat.le_add_left _ _) hs' X.loff ⟨_, hn'⟩ ?_ (fun p hp => ?_) ?_ (.inl ⟨hl, _, hn', if_pos rfl⟩) ?_) ⟨rfl, rfl, rfl⟩
    · intro c hc
      obtain ⟨v, q⟩ := X.cell c hc
      exact ⟨v, q.sameBut hs' (ns_cell_ne hn q)⟩
    · obtain ⟨v, q⟩ := X.cellA p hp
      exact ⟨v, q.sameBut hs' (ns_cell_ne hn q)⟩
    · exact fun a vs q => ns_list_ne hn q
    · intro y t hy e
      rcases X.var y t e with ⟨kl, m₂, hn₂, hv₂⟩ | ⟨kl, c, hc, hv₂⟩
      · refine .inl ⟨kl, _, hn', ?_⟩
        show (if y = x then _ else m y) = _
        rw [if_neg hy, hn.agree hn₂]; exact hv₂
      · exact .inr ⟨kl, c, hc, hv₂.sameBut hs' (ns_cell_ne hn hv₂)⟩
  · obtain ⟨v₀, hcv⟩ := X.cell c hco
    obtain ⟨m, hn⟩ := X.ns
    refine wpAny_storeName_cell X.ok.kind hl hc hcv fun h' hc' hs' => ?_
    refine h { s with heap := h' } (X.stored (tk := s.toks) hsl X.toks hs' (X.coff c hco) ⟨_, hn.sameBut hs' (Ne.symm (ns_cell_ne hn hcv))⟩ ?_ (fun p hp => ?_) ?_ (.inr ⟨hl, c, hc, hc'⟩) ?_) ⟨rfl, rfl, rfl⟩
    · intro c' hc''
      by_cases hcc : c' = c
      · subst hcc; exact ⟨_, hc'⟩
      · obtain ⟨v, q⟩ := X.cell c' hc''
        exact ⟨v, q.sameBut hs' hcc⟩
    · by_cases hcc : p.2 = c
      · rw [hcc]; exact ⟨_, hc'⟩
      · obtain ⟨v, q⟩ := X.cellA p hp
        exact ⟨v, q.sameBut hs' hcc⟩
    · exact fun a vs q => cell_list_ne hcv q
    · intro y t hy e
      rcases X.var y t e with ⟨kl, m₂, hn₂, hv₂⟩ | ⟨kl, c', hk', hv₂⟩
      · exact .inl ⟨kl, _, hn₂.sameBut hs' (Ne.symm (ns_cell_ne hn₂ hcv)), hv₂⟩
      · refine .inr ⟨kl, c', hk', hv₂.sameBut hs' ?_⟩
        rintro rfl
        exact hy (name_of_addr X.ok.apart (PySem.mem_of_lookup hk') (PySem.mem_of_lookup hc))

/-- a list of the frame's own is changed in its place -/
theorem StV.mutate (X : StV W F kp g ρ val s) {b b' : Bool} {ds ds' : List D} {a : Addr} {vs' : List Value} {h' : Heap} {tk : Nat} (ht : 1 ≤ tk) (hx : ρ.lookup x = some (.ow b ds)) (ha : val x = .ref a)
    (hs : Heap.SameBut a s.heap h') (ho : OwnL b' h' a vs') (hr : RepL W g vs' ds') : StV W F kp g (rset ρ x (.ow b' ds')) val { s with heap := h', toks := tk } := by
  obtain ⟨a', vs, e1, e2, e3, e4⟩ := X.ow x b ds hx
  rw [ha] at e1; cases e1
  obtain ⟨m, hn⟩ := X.ns
  have keepAt : ∀ b o, s.heap.get? b = some o → b ≠ a → h'.get? b = some o := fun b o e hb => (hs.2 b hb).trans e
  have lx : ∀ t, (rset ρ x t).lookup x = some t := fun t => by rw [lookup_rset, if_pos rfl]
  have ly : ∀ t y, y ≠ x → (rset ρ x t).lookup y = ρ.lookup y := fun t y h => by rw [lookup_rset, if_neg h]
  refine ⟨X.ok, X.base, fun b o e => keepAt b o (X.keep b o e) (by rintro rfl; rw [e4.1] at e; cases e), fun b o e => keepAt b o (X.gin b o e) (by rintro rfl; rw [e4.2] at e; cases e),
    ⟨m, hn.sameBut hs (Ne.symm (ns_list_ne hn e2.1))⟩, ?_, ?_, ?_, ?_, X.loff, X.coff, ?_, ht, fun p hp => let ⟨v, q⟩ := X.cellA p hp; ⟨v, q.sameBut hs (Ne.symm (cell_list_ne q e2.1))⟩⟩
  · intro c hc
    obtain ⟨v, q⟩ := X.cell c hc
    exact ⟨v, q.sameBut hs (Ne.symm (cell_list_ne q e2.1))⟩
  · intro y t e
    have key : ∀ t, ρ.lookup y = some t → VarAt F.env h' y (val y) := fun t e => by
      rcases X.var y t e with ⟨kl, m₂, hn₂, hv₂⟩ | ⟨kl, c, hc, hv₂⟩
      · exact .inl ⟨kl, m₂, hn₂.sameBut hs (Ne.symm (ns_list_ne hn₂ e2.1)), hv₂⟩
      · exact .inr ⟨kl, c, hc, hv₂.sameBut hs (Ne.symm (cell_list_ne hv₂ e2.1))⟩
    by_cases hy : y = x
    · subst hy; exact key _ hx
    · rw [ly _ y hy] at e; exact key _ e
  · intro y d e
    by_cases hy : y = x
    · subst hy; rw [lx] at e; cases e
    · rw [ly _ y hy] at e; exact X.sh y d e
  · intro y c es e
    by_cases hy : y = x
    · subst hy; rw [lx] at e; cases e; exact ⟨a, vs', ha, ho, hr, e4⟩
    · rw [ly _ y hy] at e
      obtain ⟨a2, ws, q1, q2, q3, q4⟩ := X.ow y c es e
      exact ⟨a2, ws, q1, q2.at fun o q => keepAt a2 o q (by rintro rfl; exact X.apart y x c b es ds hy e hx (q1.trans ha.symm)), q3, q4⟩
  · intro y1 y2 c1 c2 es1 es2 hne q1 q2
    have f : ∀ y c es, (rset ρ x (.ow b' ds')).lookup y = some (.ow c es) → ∃ c es, ρ.lookup y = some (.ow c es) := fun y c es q => by
      by_cases hy : y = x
      · subst hy; exact ⟨_, _, hx⟩
      · rw [ly _ y hy] at q; exact ⟨_, _, q⟩
    obtain ⟨_, _, r1⟩ := f _ _ _ q1
    obtain ⟨_, _, r2⟩ := f _ _ _ q2
    exact X.apart y1 y2 _ _ _ _ hne r1 r2

/-- a list of the frame's own is handed on: from now on it stands still -/
theorem StV.freeze (X : StV W F kp g ρ val s) {b : Bool} {ds : List D} (hx : ρ.lookup x = some (.ow b ds)) : ∃ g', Gr kp g g' ∧ StV W F kp g' (rset ρ x (.sh (.list ds))) val s := by
  obtain ⟨a, vs, e1, e2, e3, e4⟩ := X.ow x b ds hx
  obtain ⟨o, ho, hc, n, hd⟩ := id e2.1
  obtain ⟨m, hn⟩ := X.ns
  have sub := gadd_sub o e4.2
  have off : ∀ z, z ≠ a → Off kp g z → Off kp (gadd g a o) z := fun z hz q => ⟨q.1, by unfold gadd; rw [if_neg hz]; exact q.2⟩
  have lx : ∀ t, (rset ρ x t).lookup x = some t := fun t => by rw [lookup_rset, if_pos rfl]
  have ly : ∀ t y, y ≠ x → (rset ρ x t).lookup y = ρ.lookup y := fun t y h => by rw [lookup_rset, if_neg h]
  have f : ∀ y c es, (rset ρ x (.sh (.list ds))).lookup y = some (.ow c es) → y ≠ x ∧ ρ.lookup y = some (.ow c es) := fun y c es q => by
    by_cases hy : y = x
    · subst hy; rw [lx] at q; cases q
    · rw [ly _ y hy] at q; exact ⟨hy, q⟩
  refine ⟨gadd g a o, ⟨sub, fun z h => ?_⟩, X.ok, X.base, X.keep, fun z o' e => ?_, X.ns, X.cell, ?_, ?_, ?_, off _ (Ne.symm (ns_list_ne hn e2.1)) X.loff, fun c hc => ?_, ?_, X.toks, X.cellA⟩
  · by_cases hz : z = a
    · subst hz; exact .inr e4.1
    · unfold gadd at h; rw [if_neg hz] at h; exact .inl h
  · unfold gadd at e
    by_cases hz : z = a
    · subst hz; rw [if_pos rfl] at e; cases e; exact ho
    · rw [if_neg hz] at e; exact X.gin z o' e
  · intro y t e
    by_cases hy : y = x
    · subst hy; exact X.var y _ hx
    · rw [ly _ y hy] at e; exact X.var y _ e
  · intro y d e
    by_cases hy : y = x
    · subst hy; rw [lx] at e; cases e; rw [e1]
      exact .list ⟨o, gadd_self _ _ _, hc, n, hd⟩ (e3.mono sub)
    · rw [ly _ y hy] at e; exact (X.sh y d e).mono sub
  · intro y c es e
    obtain ⟨hy, e⟩ := f _ _ _ e
    obtain ⟨a2, ws, q1, q2, q3, q4⟩ := X.ow y c es e
    exact ⟨a2, ws, q1, q2, q3.mono sub, off a2 (by rintro rfl; exact X.apart y x c b es ds hy e hx (q1.trans e1.symm)) q4⟩
  · obtain ⟨v, q⟩ := X.cell c hc
    exact off c (Ne.symm (cell_list_ne q e2.1)) (X.coff c hc)
  · intro y1 y2 c1 c2 es1 es2 hne q1 q2
    exact X.apart y1 y2 _ _ _ _ hne (f _ _ _ q1).2 (f _ _ _ q2).2

theorem StV.owned (X : StV W F kp g ρ val s) {b : Bool} {ds : List D} (hx : ρ.lookup x = some (.ow b ds)) : ∃ a vs, val x = .ref a ∧ OwnL b s.heap a vs ∧ RepL W g vs ds := by
  obtain ⟨a, vs, e1, e2, e3, _⟩ := X.ow x b ds hx; exact ⟨a, vs, e1, e2, e3⟩

/-- the kept part: one more object, made just now -/
noncomputable def kset (kp : PHeap) (I : Addr) (o : Obj) : PHeap := fun b => if b = I then some o else kp b
theorem kset_self {kp : PHeap} {I : Addr} {o : Obj} : kset kp I o I = some o := if_pos rfl
theorem sub_kset {kp : PHeap} {I : Addr} {o : Obj} (h : kp I = none) : Sub kp (kset kp I o) := fun b o' e => by
  unfold kset
  by_cases hb : b = I
  · subst hb; rw [h] at e; cases e
  · rw [if_neg hb]; exact e

theorem fresh_none (h : Heap) : h.get? h.objs.size = none := by
  cases e : h.get? h.objs.size with
  | none => rfl
  | some o' => exact absurd (Heap.lt_size e) (Nat.lt_irrefl _)

theorem StV.pushK (X : StV W F kp g ρ val s) (o : Obj) (ho : o.isFreed = false) {tk : Nat} (ht : 1 ≤ tk) :
    StV W F (kset kp s.heap.objs.size o) g ρ val { s with heap := s.heap.push o, toks := tk } ∧ kp s.heap.objs.size = none ∧ g s.heap.objs.size = none := by
  have hfr := fresh_none s.heap
  have hkn : kp s.heap.objs.size = none := by
    cases e : kp s.heap.objs.size with
    | none => rfl
    | some o' => rw [X.keep _ _ e] at hfr; cases hfr
  have hgn : g s.heap.objs.size = none := by
    cases e : g s.heap.objs.size with
    | none => rfl
    | some o' => rw [X.gin _ _ e] at hfr; cases hfr
  have Y := X.pushed o ht
  have off : ∀ z o', s.heap.get? z = some o' → Off kp g z → Off (kset kp s.heap.objs.size o) g z := fun z o' e q => ⟨by
    unfold kset
    rw [if_neg (by rintro rfl; rw [hfr] at e; cases e)]; exact q.1, q.2⟩
  refine ⟨⟨X.ok, fun b o' e => sub_kset hkn _ _ (X.base b o' e), fun b o' e => ?_, Y.gin, Y.ns, Y.cell, Y.var, Y.sh, fun x b ds e => ?_, ?_, fun c hc => ?_, X.apart, ht, Y.cellA⟩, hkn, hgn⟩
  · unfold kset at e
    by_cases hb : b = s.heap.objs.size
    · subst hb; rw [if_pos rfl] at e; cases e; exact Heap.get?_push_size _ ho
    · rw [if_neg hb] at e; exact Y.keep b o' e
  · obtain ⟨a, vs, e1, e2, e3, e4⟩ := X.ow x b ds e
    obtain ⟨o', ho', _⟩ := id e2.1
    exact ⟨a, vs, e1, e2.at fun o => Heap.get?_push_of_some _, e3, off a o' ho' e4⟩
  · obtain ⟨m, hm⟩ := X.ns
    obtain ⟨o', ho'⟩ := Ns.some hm
    exact off _ o' ho' X.loff
  · obtain ⟨v, o', ho', _⟩ := X.cell c hc
    exact off c o' ho' (X.coff c hc)

/-- the one kept object has been changed by the loop's own step -/
theorem StV.ktouch {I : Addr} {o o' : Obj} (X : StV W F (kset kp I o) g ρ val s) (hk : kp I = none) (hg : g I = none) (hH : W.H.get? I = none) (hoc : ∀ v, o.data ≠ .cell v) {h' : Heap} {tk : Nat} (ht : 1 ≤ tk)
    (hs : ∀ b ob, b ≠ I → s.heap.get? b = some ob → h'.get? b = some ob) (ho : h'.get? I = some o') : StV W F (kset kp I o') g ρ val { s with heap := h', toks := tk } := by
  have ne : ∀ z, Off (kset kp I o) g z → z ≠ I := fun z q e => by have := q.1; rw [e, kset_self] at this; cases this
  have off : ∀ z, Off (kset kp I o) g z → Off (kset kp I o') g z := fun z q => ⟨by
    have := q.1
    unfold kset at this ⊢
    rw [if_neg (ne z q)] at this ⊢; exact this, q.2⟩
  obtain ⟨m, hm⟩ := X.ns
  have hL := ne _ X.loff
  refine ⟨X.ok, fun b ob e => ?_, fun b ob e => ?_, fun b ob e => hs b ob (by rintro rfl; rw [hg] at e; cases e) (X.gin b ob e), ⟨m, hm.at' fun o e => hs _ o hL e⟩, fun c hc => ?_, fun x t e => ?_, X.sh,
    fun x b ds e => ?_, off _ X.loff, fun c hc => off c (X.coff c hc), X.apart, ht, fun p hp => ?cA⟩
  case cA =>
    obtain ⟨v, ob, q1, q2⟩ := X.cellA p hp
    refine ⟨v, ob, hs p.2 ob ?_ q1, q2⟩
    intro e
    rw [e, X.keep I o kset_self] at q1
    cases q1
    exact hoc _ q2
  · have h1 : b ≠ I := by rintro rfl; rw [hH] at e; cases e
    have := X.base b ob e
    unfold kset at this ⊢
    rw [if_neg h1] at this ⊢; exact this
  · unfold kset at e
    by_cases hb : b = I
    · subst hb; rw [if_pos rfl] at e; cases e; exact ho
    · rw [if_neg hb] at e
      exact hs b ob hb (X.keep b ob (by unfold kset; rw [if_neg hb]; exact e))
  · obtain ⟨v, ob, q1, q2⟩ := X.cell c hc
    exact ⟨v, ob, hs c ob (ne c (X.coff c hc)) q1, q2⟩
  · rcases X.var x t e with ⟨kl, m₂, hn₂, hv₂⟩ | ⟨kl, c, hc, ob, q1, q2⟩
    · exact .inl ⟨kl, m₂, hn₂.at' fun o e => hs _ o hL e, hv₂⟩
    · refine .inr ⟨kl, c, hc, ob, ?_, q2⟩
      by_cases hcI : c = I
      · subst hcI
        rw [X.keep c o kset_self] at q1
        cases q1
        exact absurd q2 (hoc _)
      · exact hs c ob hcI q1
  · obtain ⟨a, vs, e1, e2, e3, e4⟩ := X.ow x b ds e
    exact ⟨a, vs, e1, e2.at fun o q => hs a o (ne a e4) q, e3, off a e4⟩

end

end

section

noncomputable def Nev : Value → Shared → Prop := fun _ _ => False

noncomputable def PE (W : Wd) (F : Fm) (kp g : PHeap) (ρ : Ro) (val : Str → Value) (s : Shared) (d : D) (v : Value) (s' : Shared) : Prop :=
  ∃ g', Gr kp g g' ∧ StV W F kp g' ρ val s' ∧ Rep W g' v d ∧ Rst s s'
noncomputable def PT (W : Wd) (F : Fm) (kp g : PHeap) (ρ : Ro) (val : Str → Value) (s : Shared) (b : Bool) (c : Bool) (s' : Shared) : Prop :=
  c = b ∧ ∃ g', Gr kp g g' ∧ StV W F kp g' ρ val s' ∧ Rst s s'
noncomputable def PL (W : Wd) (F : Fm) (kp g : PHeap) (ρ : Ro) (val : Str → Value) (s : Shared) (ds : List D) (vs : List Value) (s' : Shared) : Prop :=
  ∃ g', Gr kp g g' ∧ StV W F kp g' ρ val s' ∧ RepL W g' vs ds ∧ Rst s s'

/-- the expression gives the datum -/
structure EvE (W : Wd) (F : Fm) (ρ : Ro) (e : Expr) (d : D) : Prop where
  run : ∀ kp g val s, StV W F kp g ρ val s → wpAny (model W.prog W.w) F.A (eval e F.env) (PE W F kp g ρ val s d) Nev s
/-- the test comes out so -/
structure EvT (W : Wd) (F : Fm) (ρ : Ro) (e : Expr) (b : Bool) : Prop where
  run : ∀ kp g val s, StV W F kp g ρ val s → wpAny (model W.prog W.w) F.A (isTrue e F.env (eval e F.env)) (PT W F kp g ρ val s b) Nev s
noncomputable def EvL (W : Wd) (F : Fm) (ρ : Ro) (es : List Expr) (ds : List D) : Prop :=
  (∃ ts : List (Sem Value), starEach es F.env = ts.map fun t => (false, t)) ∧
  ∀ kp g val s pos, StV W F kp g ρ val s → wpAny (model W.prog W.w) F.A (spliced (backTo pos (starEach es F.env))) (PL W F kp g ρ val s ds) Nev s

/-- a step on values gives the datum -/
noncomputable def Op (W : Wd) (t : List Value → Sem Value) (ds : List D) (d : D) : Prop :=
  ∀ F kp g ρ val s vs, StV W F kp g ρ val s → RepL W g vs ds → wpAny (model W.prog W.w) F.A (t vs) (PE W F kp g ρ val s d) Nev s
noncomputable def OpB (W : Wd) (op : Operator) (d1 d2 d : D) : Prop :=
  ∀ F kp g ρ val s a b, StV W F kp g ρ val s → Rep W g a d1 → Rep W g b d2 → wpAny (model W.prog W.w) F.A (binaryOp op a b) (PE W F kp g ρ val s d) Nev s
noncomputable def OpI (W : Wd) (op : Operator) (d1 d2 d : D) : Prop :=
  ∀ F kp g ρ val s a b, StV W F kp g ρ val s → Rep W g a d1 → Rep W g b d2 → wpAny (model W.prog W.w) F.A (inplaceOp op a b) (PE W F kp g ρ val s d) Nev s
noncomputable def OpC (W : Wd) (op : CmpOp) (d1 d2 : D) (b : Bool) : Prop :=
  ∀ F kp g ρ val s u v, StV W F kp g ρ val s → Rep W g u d1 → Rep W g v d2 → wpAny (model W.prog W.w) F.A (compareOp op u v) (PE W F kp g ρ val s (.bool b)) Nev s
noncomputable def OpT (W : Wd) (d : D) (b : Bool) : Prop :=
  ∀ F kp g ρ val s v, StV W F kp g ρ val s → Rep W g v d → wpAny (model W.prog W.w) F.A (truthy v) (PT W F kp g ρ val s b) Nev s

section
variable {W : Wd} {F : Fm} {kp g g₁ g₂ : PHeap} {ρ : Ro} {s s₁ : Shared} {d d1 d2 : D} {ds : List D} {v : Value} {e l r : Expr} {pos : Pos} {x : Str} {b c : Bool} {A : Around} {val : Str → Value}

theorem mono' {α : Type} {M : Model} {t : Sem α} {Q Q' : α → Shared → Prop} {E : Value → Shared → Prop} (h : wpAny M A t Q E s) (hQ : ∀ a s', Q a s' → Q' a s') : wpAny M A t Q' E s := wpAny_mono h hQ fun _ _ x => x

theorem PE.from {s' : Shared} (G : Gr kp g g₁) (r : Rst s s₁) (h : PE W F kp g₁ ρ val s₁ d v s') : PE W F kp g ρ val s d v s' := let ⟨g', G', X, R, r'⟩ := h; ⟨g', G.trans G', X, R, r.trans r'⟩
theorem PT.from {s' : Shared} {c : Bool} (G : Gr kp g g₁) (r : Rst s s₁) (h : PT W F kp g₁ ρ val s₁ b c s') : PT W F kp g ρ val s b c s' := let ⟨e, g', G', X, r'⟩ := h; ⟨e, g', G.trans G', X, r.trans r'⟩
theorem PL.from {s' : Shared} {vs : List Value} (G : Gr kp g g₁) (r : Rst s s₁) (h : PL W F kp g₁ ρ val s₁ ds vs s') : PL W F kp g ρ val s ds vs s' := let ⟨g', G', X, R, r'⟩ := h; ⟨g', G.trans G', X, R, r.trans r'⟩

/-- nothing but the token's number has moved -/
theorem PE.now {tk : Nat} (X : StV W F kp g ρ val s) (R : Rep W g v d) (ht : 1 ≤ tk) : PE W F kp g ρ val s d v { s with toks := tk } := ⟨g, Gr.refl _ _, X.tok ht, R, ⟨rfl, rfl, rfl⟩⟩
theorem PE.same (X : StV W F kp g ρ val s) (R : Rep W g v d) : PE W F kp g ρ val s d v s := ⟨g, Gr.refl _ _, X, R, Rst.refl s⟩
theorem PT.same (X : StV W F kp g ρ val s) : PT W F kp g ρ val s b b s := ⟨rfl, g, Gr.refl _ _, X, Rst.refl s⟩
theorem StV.based (X : StV W F kp g ρ val s) : ∀ b o, W.H.get? b = some o → s.heap.get? b = some o := fun b o e => X.keep b o (X.base b o e)
theorem StV.hd (X : StV W F kp g ρ val s) : F.A.handled = none := X.ok.hd

/-- a new object, frozen at once, is the value -/
theorem PE.alloc {o : Obj} {tk : Nat} (X : StV W F kp g ρ val s) (ho : o.isFreed = false) (ht : 1 ≤ tk) (hR : ∀ g', Sub g g' → g' s.heap.objs.size = some o → Rep W g' v d) : PE W F kp g ρ val s d v { s with heap := s.heap.push o, toks := tk } := by
  obtain ⟨Y, G⟩ := X.alloc o ho ht
  exact ⟨_, G, Y, hR _ G.1 (gadd_self _ _ _), ⟨rfl, rfl, rfl⟩⟩

/-! ### expressions -/

theorem ev_int {i : Int} {k : Nat} : EvE W F ρ (.Constant (.int i) k pos) (.int i) := .mk fun _ _ _ _ X => wpAny_Constant_int (PE.now X (.int _ _) (Nat.le_add_left _ _))
theorem ev_str {x : Str} {k : Nat} : EvE W F ρ (.Constant (.str x) k pos) (.str x) := .mk fun _ _ _ _ X => Calls.Constant_str (PE.now X (.str _ _) (Nat.le_add_left _ _))
theorem ev_bool {k : Nat} : EvE W F ρ (.Constant (.bool b) k pos) (.bool b) := .mk fun _ _ _ _ X => wpAny_Constant_bool (PE.same X (.bool _))
theorem ev_none {k : Nat} : EvE W F ρ (.Constant .none k pos) .none := .mk fun _ _ _ _ X => wpAny_Constant_none (PE.same X .none)

theorem ev_name (h : ρ.lookup x = some (.sh d)) (hd : (x == ("__debug__" : Str)) = false := by decide) : EvE W F ρ (.Name x pos) d := .mk fun _ _ _ _ X =>
  wpAny_Name (X.load h (PE.same X (X.sh _ _ h))) hd

/-- a name of the text's top, or a built-in's -/
inductive GlobAt (W : Wd) (x : Str) (v : Value) : Prop
  | top (mg : Str → Option Value) : W.H.Ns mainGlobals mg → mg x = some v → GlobAt W x v
  | bi (mg mb : Str → Option Value) : W.H.Ns mainGlobals mg → mg x = none → W.H.Ns builtinsNs mb → mb x = some v → GlobAt W x v

theorem glob_load {Q : Value → Shared → Prop} {E : Value → Shared → Prop} (X : StV W F kp g ρ val s) (hk : F.env.kindOf x = some .globalImplicit) (hg : GlobAt W x v) (h : Q v s) (hd : (x == ("__debug__" : Str)) = false := by decide) :
    wpAny (model W.prog W.w) F.A (eval (.Name x pos) F.env) Q E s := by
  refine Calls.Name_function_global X.ok.kind hk ?_ hd
  have e1 := X.ok.glob
  have e2 := X.ok.bi
  cases hg with
  | top mg hn hv => exact Calls.loadGlobal_global (by rw [e1]; exact hn.keeps X.based) hv h
  | bi mg mb hn hm hb hv => exact Calls.loadGlobal_builtin (by rw [e1]; exact hn.keeps X.based) hm (by rw [e2]; exact hb.keeps X.based) hv h
theorem ev_global (hk : F.env.kindOf x = some .globalImplicit) (hg : GlobAt W x v) (hd : (x == ("__debug__" : Str)) = false := by decide) : EvE W F ρ (.Name x pos) (.obj v) := .mk fun _ _ _ _ X =>
  glob_load X hk hg (PE.same X (.obj v)) hd
theorem ev_globalStr {y : Str} {t : Tok} (hk : F.env.kindOf x = some .globalImplicit) (hg : GlobAt W x (.str y t)) (hd : (x == ("__debug__" : Str)) = false := by decide) : EvE W F ρ (.Name x pos) (.str y) := .mk fun _ _ _ _ X =>
  glob_load X hk hg (PE.same X (.str y t)) hd

theorem ev_bin {op : Operator} (hl : EvE W F ρ l d1) (hr : EvE W F ρ r d2) (ho : OpB W op d1 d2 d) : EvE W F ρ (.BinOp l op r pos) d := .mk fun kp g val s X =>
  wpAny_BinOp (mono' (hl.run kp g val s X) fun a s₁ ⟨g₁, G₁, X₁, R₁, r₁⟩ => mono' (hr.run kp g₁ val s₁ X₁) fun b s₂ ⟨g₂, G₂, X₂, R₂, r₂⟩ =>
    mono' (ho F kp g₂ ρ val s₂ a b X₂ (R₁.mono G₂.1) R₂) fun _ _ h => h.from (G₁.trans G₂) (r₁.trans r₂))

theorem ev_cmp {op : CmpOp} (hl : EvE W F ρ l d1) (hr : EvE W F ρ r d2) (ho : OpC W op d1 d2 b) (hm : behindInMarks op r = false := by with_unfolding_all rfl) : EvE W F ρ (.Compare l [op] [r] pos) (.bool b) := .mk fun kp g val s X =>
  wpAny_Compare1 (mono' (hl.run kp g val s X) fun a s₁ ⟨g₁, G₁, X₁, R₁, r₁⟩ => mono' (hr.run kp g₁ val s₁ X₁) fun b s₂ ⟨g₂, G₂, X₂, R₂, r₂⟩ =>
    mono' (ho F kp g₂ ρ val s₂ a b X₂ (R₁.mono G₂.1) R₂) fun _ _ h => h.from (G₁.trans G₂) (r₁.trans r₂)) hm

theorem et_cmp {op : CmpOp} (hl : EvE W F ρ l d1) (hr : EvE W F ρ r d2) (ho : OpC W op d1 d2 b) (hm : behindInMarks op r = false := by with_unfolding_all rfl) : EvT W F ρ (.Compare l [op] [r] pos) b := .mk fun kp g val s X =>
  wpAny_isTrue_Compare1 (mono' (hl.run kp g val s X) fun a s₁ ⟨g₁, G₁, X₁, R₁, r₁⟩ => mono' (hr.run kp g₁ val s₁ X₁) fun b s₂ ⟨g₂, G₂, X₂, R₂, r₂⟩ =>
    mono' (ho F kp g₂ ρ val s₂ a b X₂ (R₁.mono G₂.1) R₂) fun v s₃ h => by
      obtain ⟨g₃, G₃, X₃, R₃, r₃⟩ := h.from (G₁.trans G₂) (r₁.trans r₂)
      cases R₃ with
      | bool => exact wpAny_truthy_bool ⟨rfl, g₃, G₃, X₃, r₃⟩) hm

theorem et_not (h : EvT W F ρ e b) : EvT W F ρ (.UnaryOp .Not e pos) (!b) := .mk fun kp g val s X =>
  wpAny_isTrue_Not (mono' (h.run kp g val s X) fun c s₁ ⟨e, q⟩ => ⟨by rw [e], q⟩)

theorem et_val (h : EvE W F ρ e d) (hd : OpT W d b) (he : ∀ whole, isTrue e F.env whole = (do let v ← whole; standAt e.pos; holding [v] (truthy v)) := by intro _; rfl) : EvT W F ρ e b := .mk fun kp g val s X =>
  wpAny_isTrue_value (mono' (h.run kp g val s X) fun v s₁ ⟨g₁, G₁, X₁, R₁, r₁⟩ => mono' (hd F kp g₁ ρ val s₁ v X₁ R₁) fun _ _ h => h.from G₁ r₁) (he _)

/-- the tests of an «and», an «or» -/
structure EvAll (W : Wd) (F : Fm) (ρ : Ro) (op : BoolOp) (es : List Expr) (b : Bool) : Prop where
  run : ∀ kp g val s, StV W F kp g ρ val s → wpAny (model W.prog W.w) F.A (allTrue op es F.env) (PT W F kp g ρ val s b) Nev s
theorem et_bool {op : BoolOp} {es : List Expr} (h : EvAll W F ρ op es b) : EvT W F ρ (.BoolOp op es pos) b := .mk fun kp g val s X => wpAny_isTrue_BoolOp (h.run kp g val s X)
theorem and_nil : EvAll W F ρ .And [] true := .mk fun _ _ _ _ X => wpAny_allTrue_And_nil (PT.same X)
theorem or_nil : EvAll W F ρ .Or [] false := .mk fun _ _ _ _ X => wpAny_allTrue_Or_nil (PT.same X)
theorem and_false {es : List Expr} (h : EvT W F ρ e false) : EvAll W F ρ .And (e :: es) false := .mk fun kp g val s X =>
  wpAny_allTrue_And_cons (mono' (h.run kp g val s X) fun c s₁ ⟨e, q⟩ => by subst e; exact ⟨rfl, q⟩)
theorem and_true {es : List Expr} (h : EvT W F ρ e true) (hs : EvAll W F ρ .And es b) : EvAll W F ρ .And (e :: es) b := .mk fun kp g val s X =>
  wpAny_allTrue_And_cons (mono' (h.run kp g val s X) fun c s₁ ⟨e, g₁, G₁, X₁, r₁⟩ => by subst e; exact mono' (hs.run kp g₁ val s₁ X₁) fun _ _ h => h.from G₁ r₁)
theorem and_cons {es : List Expr} (h : EvT W F ρ e b) (hs : b = true → EvAll W F ρ .And es c) : EvAll W F ρ .And (e :: es) (b && c) := by
  cases b with
  | false => exact and_false h
  | true => exact and_true h (hs rfl)
theorem or_true {es : List Expr} (h : EvT W F ρ e true) : EvAll W F ρ .Or (e :: es) true := .mk fun kp g val s X =>
  wpAny_allTrue_Or_cons (mono' (h.run kp g val s X) fun c s₁ ⟨e, q⟩ => by subst e; exact ⟨rfl, q⟩)
theorem or_false {es : List Expr} (h : EvT W F ρ e false) (hs : EvAll W F ρ .Or es b) : EvAll W F ρ .Or (e :: es) b := .mk fun kp g val s X =>
  wpAny_allTrue_Or_cons (mono' (h.run kp g val s X) fun c s₁ ⟨e, g₁, G₁, X₁, r₁⟩ => by subst e; exact mono' (hs.run kp g₁ val s₁ X₁) fun _ _ h => h.from G₁ r₁)
theorem or_cons {es : List Expr} (h : EvT W F ρ e b) (hs : b = false → EvAll W F ρ .Or es c) : EvAll W F ρ .Or (e :: es) (b || c) := by
  cases b with
  | true => exact or_true h
  | false => exact or_false h (hs rfl)

theorem ev_ite {t : Expr} (ht : EvT W F ρ t b) (h : EvE W F ρ (if b then l else r) d) : EvE W F ρ (.IfExp t l r pos) d := .mk fun kp g val s X =>
  wpAny_IfExp (mono' (ht.run kp g val s X) fun c s₁ ⟨e, g₁, G₁, X₁, r₁⟩ => by
    subst e
    cases c with
    | true => exact mono' (h.run kp g₁ val s₁ X₁) fun _ _ h => h.from G₁ r₁
    | false => exact mono' (h.run kp g₁ val s₁ X₁) fun _ _ h => h.from G₁ r₁)

noncomputable def notStar : Expr → Bool
  | .Starred .. => false
  | _ => true
theorem star_of {e : Expr} {es : List Expr} {env : Env} (h : notStar e = true) : starEach (e :: es) env = (false, eval e env) :: starEach es env := by
  cases e <;> first | rfl | cases h
theorem el_nil : EvL W F ρ [] [] := ⟨⟨[], rfl⟩, fun kp g val s pos X => Calls.spliced_nil ⟨g, Gr.refl _ _, X, .nil, Rst.refl s⟩⟩
theorem el_cons {es : List Expr} (h : EvE W F ρ e d) (hs : EvL W F ρ es ds) (hst : starEach (e :: es) F.env = (false, eval e F.env) :: starEach es F.env := by exact star_of rfl) : EvL W F ρ (e :: es) (d :: ds) := by
  obtain ⟨⟨ts, hts⟩, hs⟩ := hs
  refine ⟨⟨eval e F.env :: ts, by rw [hst, hts]; rfl⟩, fun kp g val s pos X => ?_⟩
  rw [hst]
  show wpAny _ _ (spliced ((false, eval e F.env) :: backTo pos (starEach es F.env))) _ _ s
  refine Calls.spliced_cons (mono' (h.run kp g val s X) fun v s₁ ⟨g₁, G₁, X₁, R₁, r₁⟩ => mono' (hs kp g₁ val s₁ pos X₁) fun vs s₂ ⟨g₂, G₂, X₂, R₂, r₂⟩ => ?_)
  exact ⟨g₂, G₁.trans G₂, X₂, .cons (R₁.mono G₂.1) R₂, r₁.trans r₂⟩

theorem ev_list {es : List Expr} (h : EvL W F ρ es ds) (hn : ds.length ≤ 1000) : EvE W F ρ (.List es pos) (.list ds) := .mk fun kp g val s X =>
  wpAny_List (mono' (h.2 kp g val s pos X) fun vs s₁ ⟨g₁, G₁, X₁, R₁, r₁⟩ => ⟨by rw [R₁.length, sizeLine_eq]; omega,
    (PE.alloc (tk := s₁.toks) X₁ rfl X₁.toks fun g' sub e => .list ⟨_, e, rfl, _, rfl⟩ (R₁.mono sub)).from G₁ r₁⟩)
theorem ev_tuple {es : List Expr} {k : Nat} (h : EvL W F ρ es ds) (hn : ds.length ≤ 1000) : EvE W F ρ (.Tuple es k pos) (.tuple ds) := .mk fun kp g val s X =>
  wpAny_Tuple (mono' (h.2 kp g val s pos X) fun vs s₁ ⟨g₁, G₁, X₁, R₁, r₁⟩ => ⟨by rw [R₁.length, sizeLine_eq]; omega,
    (PE.alloc (tk := s₁.toks) X₁ rfl X₁.toks fun g' sub e => .tuple ⟨_, e, rfl, _, rfl⟩ (R₁.mono sub)).from G₁ r₁⟩)

end

end

section

section
variable {W : Wd} {F : Fm} {kp g g₁ g₂ : PHeap} {ρ : Ro} {s s₁ : Shared} {d d1 d2 : D} {ds : List D} {v : Value} {e l r value slice : Expr} {pos p : Pos} {x : Str} {b c : Bool} {A : Around} {i : Int} {val : Str → Value}

theorem wp_Subscript {prog : Program} {w : World} {E : Value → Shared → Prop} {env : Env} {Q : Value → Shared → Prop}
    (h : wpAny (model prog w) A (eval value env) (fun o s₁ => wpAny (model prog w) A (eval slice env) (fun i s₂ => ItemOn (model prog w) A E o i Q s₂) E s₁) E s)
    (hs : ∀ o i, subscripted slice false o i = operate [o, i] (getItem o i) ∨ subscripted slice false o i = operate [i, o] (getItem o i)) :
    wpAny (model prog w) A (eval (.Subscript value slice pos) env) Q E s := by
  rw [eval_Subscript]
  refine wpAny_bind (wpAny_mono h (fun o s₁ h₁ => wpAny_bind (wpAny_holding (wpAny_mono h₁ (fun i s₂ h₂ => wpAny_bind (wpAny_standAt ?_)) fun _ _ x => x))) fun _ _ x => x)
  obtain ⟨T, id, hl, hT, hg⟩ := h₂
  have fin : ∀ vs, wpAny (model prog w) A (operate vs (getItem o i)) (fun r s₃ => wpAny (model prog w) A (letTemporaryGo value o r >>= fun _ => pure r) Q E s₃) E s₂ := fun vs =>
    wpAny_operating (wpAny_mono hg (fun r s₃ h₃ => wpAny_bind (wpAny_letTemporaryGo (wpAny_pure h₃))) fun _ _ x => x)
  refine wpAny_bind ?_
  rw [getitemInPython_of_ne hT.not_modules]
  refine wpAny_bind (wpAny_specialOf hT hl (wpAny_pure (wpAny_bind ?_)))
  rcases hs o i with e | e <;> rw [e] <;> exact fin _

/-- an item by a number -/
noncomputable def OpItem (W : Wd) (d1 : D) (i : Int) (d : D) : Prop :=
  ∀ F kp g ρ val s o t, StV W F kp g ρ val s → Rep W g o d1 → ItemOn (model W.prog W.w) F.A Nev o (.int i t) (PE W F kp g ρ val s d) s

theorem ev_sub (ho : EvE W F ρ value d1) (hi : EvE W F ρ slice (.int i)) (hop : OpItem W d1 i d)
    (hs : ∀ o i, subscripted slice false o i = operate [o, i] (getItem o i) ∨ subscripted slice false o i = operate [i, o] (getItem o i) := by intro _ _; exact .inl rfl) :
    EvE W F ρ (.Subscript value slice pos) d := .mk fun kp g val s X =>
  wp_Subscript (mono' (ho.run kp g val s X) fun o s₁ ⟨g₁, G₁, X₁, R₁, r₁⟩ => mono' (hi.run kp g₁ val s₁ X₁) fun iv s₂ ⟨g₂, G₂, X₂, R₂, r₂⟩ => by
    cases R₂ with
    | int i t =>
      obtain ⟨T, id, e1, e2, e3⟩ := hop F kp g₂ ρ val s₂ o t X₂ (R₁.mono G₂.1)
      exact ⟨T, id, e1, e2, mono' e3 fun _ _ h => h.from (G₁.trans G₂) (r₁.trans r₂)⟩) hs

theorem isList_of {g : PHeap} {h : Heap} {a : Addr} {vs : List Value} (H : SeqAt g "list" a vs) (hg : ∀ b o, g b = some o → h.get? b = some o) : h.IsList a vs.toArray := let ⟨o, e, r⟩ := H; ⟨o, hg _ _ e, r⟩
theorem isTup_of {g : PHeap} {h : Heap} {a : Addr} {vs : List Value} (H : SeqAt g "tuple" a vs) (hg : ∀ b o, g b = some o → h.get? b = some o) : IsTup h a vs.toArray := let ⟨o, e, r⟩ := H; ⟨o, hg _ _ e, r⟩

theorem item_at {prog : Program} {w : World} {a : Addr} {vs : List Value} {i : Int} {t : Tok} {v : Value} {Q : Value → Shared → Prop} (hl : s.heap.IsList a vs.toArray)
    (hi : (0 ≤ i ∧ vs[i.toNat]? = some v) ∨ (i < 0 ∧ 0 ≤ i + vs.length ∧ vs[(i + vs.length).toNat]? = some v)) (hb : i < 2 ^ 63 ∧ -2 ^ 63 ≤ i) (h : Q v s) : ItemOn (model prog w) A Nev (.ref a) (.int i t) Q s :=
  ⟨"list", _, slot_list_getitem.lookup, hl.typeIs, by
    rcases hi with ⟨h0, hv⟩ | ⟨h0, h1, hv⟩
    · exact wpAny_getItem_list hl h0 hb.1 (by simpa using hv) h
    · exact wpAny_getItem_list_neg hl h0 (by simp only [List.size_toArray]; omega) hb.2 (by simpa using hv) h⟩

/-- the place that an index names -/
noncomputable def IdxAt (i : Int) (ds : List D) (d : D) : Prop := ((0 ≤ i ∧ ds[i.toNat]? = some d) ∨ (i < 0 ∧ 0 ≤ i + ds.length ∧ ds[(i + ds.length).toNat]? = some d)) ∧ i < 2 ^ 63 ∧ -2 ^ 63 ≤ i

theorem idx_val (h : IdxAt i ds d) {vs : List Value} (R : RepL W g vs ds) : ∃ v, ((0 ≤ i ∧ vs[i.toNat]? = some v) ∨ (i < 0 ∧ 0 ≤ i + vs.length ∧ vs[(i + vs.length).toNat]? = some v)) ∧ Rep W g v d := by
  rcases h.1 with ⟨h0, h1⟩ | ⟨h0, h1, h2⟩
  · obtain ⟨v, hv, hr⟩ := R.get h1
    exact ⟨v, .inl ⟨h0, hv⟩, hr⟩
  · obtain ⟨v, hv, hr⟩ := R.get h2
    rw [R.length]
    exact ⟨v, .inr ⟨h0, h1, hv⟩, hr⟩

theorem item_list (h : IdxAt i ds d) : OpItem W (.list ds) i d := fun F kp g ρ val s o t X R => by
  cases R with
  | list H r =>
    obtain ⟨v, hv, hr⟩ := idx_val h r
    exact item_at (isList_of H X.gin) hv ⟨h.2.1, h.2.2⟩ (PE.same X hr)

theorem item_tuple (h : IdxAt i ds d) : OpItem W (.tuple ds) i d := fun F kp g ρ val s o t X R => by
  cases R with
  | tuple H r =>
    obtain ⟨v, hv, hr⟩ := idx_val h r
    have ht := isTup_of H X.gin
    refine ⟨"tuple", _, PySem.F.slot_tuple_getitem.lookup, ?_, ?_⟩
    · obtain ⟨o, ho, hc, _⟩ := ht; exact ⟨o, ho, hc⟩
    · rcases hv with ⟨h0, hv⟩ | ⟨h0, h1, hv⟩
      · have hlt : i.toNat < _ := (List.getElem?_eq_some_iff.mp hv).1
        refine PyProof.Rows.getItem_tuple ht h.2.2 h.2.1 (j := i.toNat) ?_ (by simpa using hv) (PE.same X hr)
        unfold seqIndex?
        simp only [List.size_toArray]
        rw [if_neg (show ¬ i < 0 by omega)]
        rw [if_pos (by simp; omega)]
      · have hlt := (List.getElem?_eq_some_iff.mp hv).1
        refine PyProof.Rows.getItem_tuple ht h.2.2 h.2.1 (j := (i + _).toNat) ?_ (by simpa using hv) (PE.same X hr)
        unfold seqIndex?
        simp only [List.size_toArray]
        rw [if_pos h0]
        rw [if_pos (by simp; omega)]

theorem item_str {x : Str} (hr : fitsSsize i = true) (hin : (Txt.charAt x i).isSome = true) : OpItem W (.str x) i (.str (Txt.item x i)) := fun F kp g ρ val s o t X R => by
  cases R with
  | str x u => exact ⟨"str", _, PySem.F.slot_str_getitem.lookup, typeIs_str _ _ _, SB.getItem hr hin (PE.now X (.str _ _) (Nat.le_add_left _ _))⟩

/-- an item of a list of the frame's own -/
theorem ev_subow {np : Pos} {bb : Bool} (hx : ρ.lookup x = some (.ow bb ds)) (hi : EvE W F ρ slice (.int i)) (h : IdxAt i ds d)
    (hs : ∀ o i, subscripted slice false o i = operate [o, i] (getItem o i) ∨ subscripted slice false o i = operate [i, o] (getItem o i) := by intro _ _; exact .inl rfl)
    (hd : (x == ("__debug__" : Str)) = false := by decide) : EvE W F ρ (.Subscript (.Name x np) slice pos) d := .mk fun kp g val s X => by
  refine wp_Subscript (wpAny_Name (X.load hx ?_) hd) hs
  refine mono' (hi.run kp g val s X) fun iv s₂ ⟨g₂, G₂, X₂, R₂, r₂⟩ => ?_
  cases R₂ with
  | int i t =>
    obtain ⟨a, vs, ea, ho, hr⟩ := X₂.owned hx
    obtain ⟨v, hv, hr⟩ := idx_val h hr
    rw [ea]
    exact item_at ho.1 hv h.2 ((PE.same X₂ hr).from G₂ r₂)

/-! slices -/
noncomputable def EvPart (W : Wd) (F : Fm) (ρ : Ro) : Option Expr → Option Int → Prop
  | none, none => True
  | some e, some i => EvE W F ρ e (.int i)
  | _, _ => False

theorem wp_part {o : Option Expr} {l : Option Int} (h : EvPart W F ρ o l) (X : StV W F kp g ρ val s) :
    wpAny (model W.prog W.w) F.A (evalPart o F.env) (fun v s' => (∃ lt : Option (Int × Tok), v = partValue lt ∧ lt.map (·.1) = l) ∧ ∃ g', Gr kp g g' ∧ StV W F kp g' ρ val s' ∧ Rst s s') Nev s := by
  match o, l, h with
  | none, none, _ => exact wpAny_evalPart_none ⟨⟨none, rfl, rfl⟩, g, Gr.refl _ _, X, Rst.refl s⟩
  | some e, some i, h =>
    refine wpAny_evalPart_some (mono' (h.run kp g val s X) fun v s₁ ⟨g₁, G₁, X₁, R₁, r₁⟩ => ?_)
    cases R₁ with
    | int i t => exact ⟨⟨some (i, t), rfl, rfl⟩, g₁, G₁, X₁, r₁⟩

theorem ev_slice_str {x : Str} {lo hi : Option Expr} {l u : Option Int} (ho : EvE W F ρ value (.str x)) (hl : EvPart W F ρ lo l) (hu : EvPart W F ρ hi u) (hsz : x.length ≤ 1000000) :
    EvE W F ρ (.Subscript value (.Slice lo hi none p) pos) (.str (Txt.slice x l u)) := .mk fun kp g val s X => by
  refine wp_Subscript (mono' (ho.run kp g val s X) fun o s₁ ⟨g₁, G₁, X₁, R₁, r₁⟩ => wpAny_Slice (mono' (wp_part hl X₁) fun vl s₂ ⟨⟨lt, el, e1⟩, g₂, G₂, X₂, r₂⟩ => mono' (wp_part hu X₂) fun vu s₃ ⟨⟨ut, eu, e2⟩, g₃, G₃, X₃, r₃⟩ => ?_)) fun _ _ => .inr rfl
  rw [evalPart_none]
  refine wpAny_pure ?_
  cases R₁ with
  | str x t =>
    subst el; subst eu; subst e1; subst e2
    have hle := Txt.slice_le x (lt.map (·.1)) (ut.map (·.1))
    refine ⟨"str", _, PySem.F.slot_str_getitem.lookup, typeIs_str _ x t, wpAny_with_toks (n := 1) X₃.toks (wpAny_getItem_str_slice (l := lt) (u := ut) (st := none) ⟨_, Heap.get?_push_size _ rfl, rfl, rfl⟩ rfl
      (post_val_or_str ⟨Nat.le_trans hle (by rw [sizeLine_eq]; omega), fun t' k hk => ?_⟩))⟩
    exact ⟨g₃, (G₁.trans G₂).trans G₃, X₃.pushed _ hk, .str _ _, ⟨rfl, rfl, rfl⟩ |> (fun q : Rst s₃ _ => ((r₁.trans r₂).trans r₃).trans q)⟩

theorem ev_slice_from {lo : Expr} {k : Nat} (ho : EvE W F ρ value (.list ds)) (hl : EvE W F ρ lo (.int k)) (hn : ds.length ≤ 1000) : EvE W F ρ (.Subscript value (.Slice (some lo) none none p) pos) (.list (ds.drop k)) := .mk fun kp g val s X => by
  refine wp_Subscript (mono' (ho.run kp g val s X) fun o s₁ ⟨g₁, G₁, X₁, R₁, r₁⟩ => wpAny_Slice (mono' (wp_part (o := some lo) (l := some k) hl X₁) fun vl s₂ ⟨⟨lt, el, e1⟩, g₂, G₂, X₂, r₂⟩ => wpAny_evalPart_none ?_)) fun _ _ => .inr rfl
  rw [evalPart_none]
  refine wpAny_pure ?_
  cases R₁ with
  | @list a vs ds H r =>
    match lt, e1 with
    | some (i, t), e1 =>
      simp only [Option.map_some, Option.some.injEq] at e1
      subst e1; subst el
      have hL : (s₂.heap.push { cls := .type "slice", data := .fields #[.int k t, .none, .none] }).IsList a vs.toArray := (isList_of (H.mono G₂.1) X₂.gin).push _
      have Y := X₂.pushed (tk := s₂.toks) { cls := .type "slice", data := .fields #[.int k t, .none, .none] } X₂.toks
      refine ⟨"list", _, slot_list_getitem.lookup, hL.typeIs, ?_⟩
      refine wpAny_getItem_list_slice (lo := some k) (hi := none) (st := none) hL (Heap.IsSliceOf.new ..) (.int _ _) .none .none (by simp) ?_ (by rw [List.size_toArray, r.length, sizeLine_eq]; omega)
      have hp : (slicePick vs.toArray (some (k : Int)) none none) = (vs.drop k).toArray := by rw [slicePick_from']
      rw [hp]
      exact (PE.alloc (tk := s₂.toks) Y rfl X₂.toks fun g' sub e => .list ⟨_, e, rfl, _, rfl⟩ ((r.mono (G₂.1.trans sub)).drop k)).from (G₁.trans G₂) ((r₁.trans r₂).trans ⟨rfl, rfl, rfl⟩)
end

end

section

section
variable {W : Wd} {F : Fm} {kp g g₁ g₂ : PHeap} {ρ : Ro} {s s₁ : Shared} {d d1 d2 : D} {ds : List D} {v : Value} {e l r value slice o : Expr} {pos p np apos : Pos} {x name : Str} {b c : Bool} {A : Around} {i : Int} {val : Str → Value}
  {args : List Expr} {f : Addr} {n : Nat} {T id : String}

theorem wp_evalArgs {M : Model} {E : Value → Shared → Prop} {fv : Value} {ts : List (Bool × Sem Value)} {Q : Args → Shared → Prop} (hp : ∃ us : List (Sem Value), ts = us.map fun t => (false, t))
    (h : wpAny M A (spliced ts) (fun vs s' => Q ⟨vs, []⟩ s') E s) : wpAny M A (evalArgs fv true ts []) Q E s := by
  obtain ⟨us, rfl⟩ := hp
  cases us with
  | nil =>
    unfold evalArgs
    show wpAny M A (spliced [] >>= _) Q E s
    refine wpAny_bind (wpAny_mono h (fun vs s' h' => ?_) fun _ _ x => x)
    refine wpAny_bind (wpAny_pure ?_)
    refine wpAny_holding ?_
    exact wpAny_bind (wpAny_pure (wpAny_bind (wpAny_pure (wpAny_pure h'))))
  | cons t us => exact Calls.evalArgs_plain h

theorem plain_back {es : List Expr} {env : Env} (h : ∃ ts : List (Sem Value), starEach es env = ts.map fun t => (false, t)) : ∃ us : List (Sem Value), backTo pos (starEach es env) = us.map fun t => (false, t) := by
  obtain ⟨ts, h⟩ := h
  refine ⟨ts, ?_⟩
  rw [h]
  unfold backTo
  rw [List.map_map]
  rfl
theorem plain_any {ts : List (Bool × Sem Value)} (hp : ∃ us : List (Sem Value), ts = us.map fun t => (false, t)) : ts.any (·.1) = false := by
  obtain ⟨us, rfl⟩ := hp
  induction us with
  | nil => rfl
  | cons t us ih => rw [List.map_cons, List.any_cons, ih]; rfl

/-- a function of the text's own: what a call of it gives -/
noncomputable def FnC (W : Wd) (f : Addr) (n : Nat) (ds : List D) (d : D) : Prop :=
  ∀ (A : Around) (g : PHeap) (s : Shared) (vs : List Value), A.handled = none → A.depth + n ≤ 900 → A.units + 16 * n + 300 ≤ 9900 → (∀ b o, W.H.get? b = some o → s.heap.get? b = some o) →
    (∀ b o, g b = some o → s.heap.get? b = some o) → 1 ≤ s.toks → RepL W g vs ds →
    wpAny (model W.prog W.w) A (call (.ref f) vs) (fun v s' => ∃ g', Sub g g' ∧ (∀ b, g' b ≠ none → g b ≠ none ∨ s.heap.get? b = none) ∧ (∀ b o, g' b = some o → s'.heap.get? b = some o) ∧
      (∀ b o, s.heap.get? b = some o → s'.heap.get? b = some o) ∧ 1 ≤ s'.toks ∧ Rep W g' v d ∧ Rst s s') Nev s

noncomputable def IsFn (W : Wd) (f : Addr) : Prop := ∃ o fd, W.H.get? f = some o ∧ o.data = .func fd

theorem ev_call (hfe : EvE W F ρ (.Name x np) (.obj (.ref f))) (hf : IsFn W f) (ha : EvL W F ρ args ds) (hc : FnC W f n ds d) (hn : n ≤ F.n) : EvE W F ρ (.Call (.Name x np) args [] pos) d := .mk fun kp g val s X => by
  refine wpAny_Call_ofName (mono' (hfe.run kp g val s X) fun fv s₁ ⟨g₁, G₁, X₁, R₁, r₁⟩ => ?_)
  cases R₁
  show wpAny _ _ (callWith pos (.ref f) [] (backTo pos (starEach args F.env)) []) _ _ _
  obtain ⟨ob, fd, ho, hd⟩ := hf
  refine Calls.callWith_function (o := ob) (fd := fd) (wp_evalArgs (plain_back ha.1) (mono' (ha.2 kp g₁ val s₁ pos X₁) fun vs s₂ ⟨g₂, G₂, X₂, R₂, r₂⟩ => ⟨⟨X₂.based _ _ ho, hd⟩, ?_⟩))
  have ok := X₂.ok
  refine mono' (hc F.A g₂ s₂ vs ok.hd (by have := ok.deep; omega) (by have := ok.unit; omega) X₂.based X₂.gin X₂.toks R₂) ?_
  rintro v s₃ ⟨g₃, sub, new, gin, keep, tk, R₃, r₃⟩
  have hs : s₃ = { s₂ with heap := s₃.heap, toks := s₃.toks } := by
    obtain ⟨h1, h2, h3⟩ := r₃
    cases s₃; cases s₂; simp_all
  rw [hs]
  exact ⟨g₃, (G₁.trans G₂).trans (X₂.grows new sub), X₂.ext keep sub gin new tk, R₃, (r₁.trans r₂).trans ⟨rfl, rfl, rfl⟩⟩

/-- a built-in function: what a call of it gives -/
noncomputable def BiC (W : Wd) (id : String) (ds : List D) (d : D) : Prop :=
  ∀ F kp g ρ val s vs, StV W F kp g ρ val s → RepL W g vs ds → wpAny (model W.prog W.w) F.A (call (.builtin id) vs) (PE W F kp g ρ val s d) Nev s
noncomputable def TyC (W : Wd) (T : String) (ds : List D) (d : D) : Prop :=
  ∀ F kp g ρ val s vs, StV W F kp g ρ val s → RepL W g vs ds → wpAny (model W.prog W.w) F.A (call (.type T) vs) (PE W F kp g ρ val s d) Nev s

theorem ev_callB (hfe : EvE W F ρ (.Name x np) (.obj (.builtin id))) (ha : EvL W F ρ args ds) (hc : BiC W id ds d) : EvE W F ρ (.Call (.Name x np) args [] pos) d := .mk fun kp g val s X => by
  refine wpAny_Call_ofName (mono' (hfe.run kp g val s X) fun fv s₁ ⟨g₁, G₁, X₁, R₁, r₁⟩ => ?_)
  cases R₁
  show wpAny _ _ (callWith pos (.builtin id) [] (backTo pos (starEach args F.env)) []) _ _ _
  refine Calls.callWith_builtin (plain_any (plain_back ha.1)) (wp_evalArgs (plain_back ha.1) (mono' (ha.2 kp g₁ val s₁ pos X₁) fun vs s₂ ⟨g₂, G₂, X₂, R₂, r₂⟩ => ?_))
  exact mono' (hc F kp g₂ ρ val s₂ vs X₂ R₂) fun _ _ h => h.from (G₁.trans G₂) (r₁.trans r₂)

theorem ev_callT (hfe : EvE W F ρ (.Name x np) (.obj (.type T))) (ha : EvL W F ρ args ds) (hc : TyC W T ds d) : EvE W F ρ (.Call (.Name x np) args [] pos) d := .mk fun kp g val s X => by
  refine wpAny_Call_ofName (mono' (hfe.run kp g val s X) fun fv s₁ ⟨g₁, G₁, X₁, R₁, r₁⟩ => ?_)
  cases R₁
  show wpAny _ _ (callWith pos (.type T) [] (backTo pos (starEach args F.env)) []) _ _ _
  refine PySem.callWith_type (plain_any (plain_back ha.1)) (wp_evalArgs (plain_back ha.1) (mono' (ha.2 kp g₁ val s₁ pos X₁) fun vs s₂ ⟨g₂, G₂, X₂, R₂, r₂⟩ => ?_))
  exact mono' (hc F kp g₂ ρ val s₂ vs X₂ R₂) fun _ _ h => h.from (G₁.trans G₂) (r₁.trans r₂)

/-- the type of what stands for the datum, and no dict on it -/
noncomputable def TyOf (W : Wd) (d : D) (T : String) : Prop := ∀ g h v, (∀ b o, g b = some o → Heap.get? h b = some o) → Rep W g v d → (∀ s : Shared, s.heap = h → s.TypeIs v T) ∧ ∀ a, v = .ref a → ∃ ob, h.get? a = some ob ∧ ob.dict = none

theorem ty_str {x : Str} : TyOf W (.str x) "str" := fun g h v hg R => by
  cases R with
  | str x t => exact ⟨fun s _ => typeIs_str _ _ _, fun a e => by cases e⟩

theorem ev_meth (ho : EvE W F ρ o d1) (ht : TyOf W d1 T) (pa : PlainAttrs T) (sl : Slot T name id) (ty : typeOf (.builtin id) = pure (.type "method_descriptor")) (ha : EvL W F ρ args ds) (hc : BiC W id (d1 :: ds) d)
    (hb : attributeBase o name F.env (eval o F.env) = eval o F.env := by rfl)
    (hfew : ((backTo pos (starEach args F.env)).all (fun x => !x.1) && (backToKw pos (keywordEach [] F.env)).all (fun x => x.1.isSome)
      && decide (args.length + ([] : List Keyword).length + (if ([] : List Keyword).isEmpty then 0 else 1) < 30)) = true := by rfl)
    (hline : (apos.endLine == pos.line) = true := by rfl) : EvE W F ρ (.Call (.Attribute o name apos) args [] pos) d := .mk fun kp g val s X => by
  refine wpAny_Call_method hb hfew hline pa sl ty (mono' (ho.run kp g val s X) fun ov s₁ ⟨g₁, G₁, X₁, R₁, r₁⟩ => ?_)
  obtain ⟨h1, h2⟩ := ht g₁ s₁.heap ov X₁.gin R₁
  refine ⟨h1 s₁ rfl, h2, ?_⟩
  refine Calls.callWith_builtin (plain_any (plain_back ha.1)) (wp_evalArgs (plain_back ha.1) (mono' (ha.2 kp g₁ val s₁ pos X₁) fun vs s₂ ⟨g₂, G₂, X₂, R₂, r₂⟩ => ?_))
  exact mono' (hc F kp g₂ ρ val s₂ (ov :: vs) X₂ (.cons (R₁.mono G₂.1) R₂)) fun _ _ h => h.from (G₁.trans G₂) (r₁.trans r₂)

/-! ### the methods of str -/
theorem inv1 {vs : List Value} (h : RepL W g vs [d]) : ∃ v, vs = [v] ∧ Rep W g v d := by cases h with | cons a b => cases b; exact ⟨_, rfl, a⟩
theorem inv2 {vs : List Value} (h : RepL W g vs [d, d1]) : ∃ u v, vs = [u, v] ∧ Rep W g u d ∧ Rep W g v d1 := by
  cases h with | cons a b => obtain ⟨v, rfl, q⟩ := inv1 b; exact ⟨_, _, rfl, a, q⟩
theorem inv3 {vs : List Value} (h : RepL W g vs [d, d1, d2]) : ∃ u v w, vs = [u, v, w] ∧ Rep W g u d ∧ Rep W g v d1 ∧ Rep W g w d2 := by
  cases h with | cons a b => obtain ⟨v, w, rfl, q, r⟩ := inv2 b; exact ⟨_, _, _, rfl, a, q, r⟩
theorem inv4 {d3 : D} {vs : List Value} (h : RepL W g vs [d, d1, d2, d3]) : ∃ u v w z, vs = [u, v, w, z] ∧ Rep W g u d ∧ Rep W g v d1 ∧ Rep W g w d2 ∧ Rep W g z d3 := by
  cases h with | cons a b => obtain ⟨v, w, z, rfl, q, r, t⟩ := inv3 b; exact ⟨_, _, _, _, rfl, a, q, r, t⟩
theorem repStr {x : Str} (h : Rep W g v (.str x)) : ∃ t, v = .str x t := by cases h; exact ⟨_, rfl⟩
theorem repInt {i : Int} (h : Rep W g v (.int i)) : ∃ t, v = .int i t := by cases h; exact ⟨_, rfl⟩

variable {y z : Str}
theorem m_startswith : BiC W "str.startswith" [.str x, .str y] (.bool (Txt.startswith x y)) := fun F kp g ρ val s vs X R => by
  obtain ⟨u, v, rfl, h1, h2⟩ := inv2 R
  obtain ⟨t, rfl⟩ := repStr h1
  obtain ⟨t', rfl⟩ := repStr h2
  exact SC.startswith (PE.same X (.bool _))
theorem m_endswith : BiC W "str.endswith" [.str x, .str y] (.bool (Txt.endswith x y)) := fun F kp g ρ val s vs X R => by
  obtain ⟨u, v, rfl, h1, h2⟩ := inv2 R
  obtain ⟨t, rfl⟩ := repStr h1
  obtain ⟨t', rfl⟩ := repStr h2
  exact SC.endswith (PE.same X (.bool _))
theorem m_find : BiC W "str.find" [.str x, .str y] (.int (Txt.find x y)) := fun F kp g ρ val s vs X R => by
  obtain ⟨u, v, rfl, h1, h2⟩ := inv2 R
  obtain ⟨t, rfl⟩ := repStr h1
  obtain ⟨t', rfl⟩ := repStr h2
  exact SC.find (PE.now X (.int _ _) (Nat.le_add_left _ _))
theorem m_count : BiC W "str.count" [.str x, .str y] (.int (Txt.count x y)) := fun F kp g ρ val s vs X R => by
  obtain ⟨u, v, rfl, h1, h2⟩ := inv2 R
  obtain ⟨t, rfl⟩ := repStr h1
  obtain ⟨t', rfl⟩ := repStr h2
  exact SC.count (PE.now X (.int _ _) (Nat.le_add_left _ _))
theorem m_find3 {i : Int} : BiC W "str.find" [.str x, .str y, .int i] (.int (Txt.find3 x y i)) := fun F kp g ρ val s vs X R => by
  obtain ⟨u, v, w, rfl, h1, h2, h3⟩ := inv3 R
  obtain ⟨t, rfl⟩ := repStr h1
  obtain ⟨t', rfl⟩ := repStr h2
  obtain ⟨t'', rfl⟩ := repInt h3
  exact SC.find3 (PE.now X (.int _ _) (Nat.le_add_left _ _))
theorem m_lower (hx : x.length ≤ 1000000) : BiC W "str.lower" [.str x] (.str (Txt.lower x)) := fun F kp g ρ val s vs X R => by
  obtain ⟨u, rfl, h1⟩ := inv1 R
  obtain ⟨t, rfl⟩ := repStr h1
  exact PyProof.Rows.SCL.lower (by omega) fun _ => PE.now X (.str _ _) (Nat.le_add_left _ _)
theorem m_upper (hx : x.length ≤ 1000000) : BiC W "str.upper" [.str x] (.str (Txt.upper x)) := fun F kp g ρ val s vs X R => by
  obtain ⟨u, rfl, h1⟩ := inv1 R
  obtain ⟨t, rfl⟩ := repStr h1
  exact PyProof.Rows.SCL.upper (by omega) fun _ => PE.now X (.str _ _) (Nat.le_add_left _ _)
theorem m_rstrip (hx : x.length ≤ 1000000) : BiC W "str.rstrip" [.str x] (.str (Txt.rstrip x)) := fun F kp g ρ val s vs X R => by
  obtain ⟨u, rfl, h1⟩ := inv1 R
  obtain ⟨t, rfl⟩ := repStr h1
  exact wpAny_with_toks (n := 1) X.toks (SC.rstrip (fun t' k hk => PE.now X (.str _ _) hk) (by rw [sizeLine_eq]; omega))

end

end

section

section
variable {W : Wd} {F : Fm} {kp g g₁ g₂ : PHeap} {ρ : Ro} {s s₁ : Shared} {d d1 d2 : D} {ds es : List D} {v : Value} {b c : Bool} {A : Around} {i j : Int} {val : Str → Value} {x y z : Str}

/-! ### numbers -/
theorem add_ints : OpB W .Add (.int i) (.int j) (.int (i + j)) := fun F kp g ρ val s a b X R1 R2 => by
  obtain ⟨t, rfl⟩ := repInt R1; obtain ⟨u, rfl⟩ := repInt R2
  exact PyProof.Rows.add_int (PE.now X (.int _ _) (Nat.le_add_left _ _))
theorem sub_ints : OpB W .Sub (.int i) (.int j) (.int (i - j)) := fun F kp g ρ val s a b X R1 R2 => by
  obtain ⟨t, rfl⟩ := repInt R1; obtain ⟨u, rfl⟩ := repInt R2
  exact PyProof.Rows.sub_int (PE.now X (.int _ _) (Nat.le_add_left _ _))
theorem mul_ints (hm : IntMulOk i j) : OpB W .Mult (.int i) (.int j) (.int (i * j)) := fun F kp g ρ val s a b X R1 R2 => by
  obtain ⟨t, rfl⟩ := repInt R1; obtain ⟨u, rfl⟩ := repInt R2
  exact PySem.AutoIntOps.mul_0 (show (Made.int _).post _ s from PE.now X (.int _ _) (Nat.le_add_left _ _)) hm
theorem div_ints (hj : j ≠ 0) (hs : Builtin.divisionGoesByPylong i j = false) : OpB W .FloorDiv (.int i) (.int j) (.int (i.fdiv j)) := fun F kp g ρ val s a b X R1 R2 => by
  obtain ⟨t, rfl⟩ := repInt R1; obtain ⟨u, rfl⟩ := repInt R2
  exact PyProof.Rows.floordiv_int hj (PE.now X (.int _ _) (Nat.le_add_left _ _)) (.inl hs)
theorem mod_ints (hj : j ≠ 0) : OpB W .Mod (.int i) (.int j) (.int (i.fmod j)) := fun F kp g ρ val s a b X R1 R2 => by
  obtain ⟨t, rfl⟩ := repInt R1; obtain ⟨u, rfl⟩ := repInt R2
  exact PyProof.Rows.mod_int' hj (PE.now X (.int _ _) (Nat.le_add_left _ _))
theorem iadd_ints : OpI W .Add (.int i) (.int j) (.int (i + j)) := fun F kp g ρ val s a b X R1 R2 => by
  obtain ⟨t, rfl⟩ := repInt R1; obtain ⟨u, rfl⟩ := repInt R2
  exact PySem.AutoIntOps.iadd_0 (show (Made.int _).post _ s from PE.now X (.int _ _) (Nat.le_add_left _ _))
theorem isub_ints : OpI W .Sub (.int i) (.int j) (.int (i - j)) := fun F kp g ρ val s a b X R1 R2 => by
  obtain ⟨t, rfl⟩ := repInt R1; obtain ⟨u, rfl⟩ := repInt R2
  exact PySem.AutoIntOps.isub_0 (show (Made.int _).post _ s from PE.now X (.int _ _) (Nat.le_add_left _ _))

/-! ### texts -/
theorem add_strs (hsz : x.length + y.length ≤ 1000000) : OpB W .Add (.str x) (.str y) (.str (x ++ y)) := fun F kp g ρ val s a b X R1 R2 => by
  obtain ⟨t, rfl⟩ := repStr R1; obtain ⟨u, rfl⟩ := repStr R2
  exact wpAny_with_toks (n := 1) X.toks (SB.add (fun t' k hk => PE.now X (.str _ _) hk) (by rw [sizeLine_eq]; omega))
theorem mul_str (hsz : x.length * j.toNat ≤ 1000000) (hj : 0 ≤ j ∧ j ≤ 1000) : OpB W .Mult (.str x) (.int j) (.str (Txt.mul x j)) := fun F kp g ρ val s a b X R1 R2 => by
  obtain ⟨t, rfl⟩ := repStr R1; obtain ⟨u, rfl⟩ := repInt R2
  refine wpAny_with_toks (n := 1) X.toks (PySem.SB.mul ⟨by simp; omega, fun h1 h2 => ?_, fun h1 h2 => ?_⟩ (fun t' k hk => PE.now X (.str _ _) hk))
  · intro h3
    have h4 : (1000000 : Int) ≤ (2 ^ 63 - 1) / j := by
      refine (Int.le_ediv_iff_mul_le (by omega)).mpr ?_
      omega
    have h5 : x.length ≤ 1000000 := by
      have : 1 ≤ j.toNat := by omega
      exact Nat.le_trans (Nat.le_mul_of_pos_right _ this) hsz
    omega
  · unfold Builtin.Str.tooLong
    refine decide_eq_false ?_
    have e : (2 : Nat) ^ 24 = 16777216 := by decide
    unfold sizeLine
    omega

/-! ### lists -/
theorem add_lists' (hn : ds.length + es.length ≤ 1000) : OpB W .Add (.list ds) (.list es) (.list (ds ++ es)) := fun F kp g ρ val s a b X R1 R2 => by
  cases R1 with
  | @list l vs _ H1 r1 =>
    cases R2 with
    | @list l2 ws _ H2 r2 =>
      obtain ⟨⟨cls, dd, data, sl⟩, ho, hc, n, hd⟩ := isList_of H1 X.gin
      obtain ⟨⟨cls2, dd2, data2, sl2⟩, ho2, hc2, n2, hd2⟩ := isList_of H2 X.gin
      simp only at hc hd hc2 hd2
      subst hc hd hc2 hd2
      have e : vs.toArray ++ ws.toArray = (vs ++ ws).toArray := by simp
      have l1 := r1.length
      have l2' := r2.length
      refine concat_meets ⟨_, ho, rfl⟩ ⟨_, ho2, rfl⟩ noFill_list_add seq_list_add PySem.F.slot_list_add PySem.F.entry_list_add (PySem.F.args_list_add_2 _ _) (list_addW l l2 vs.toArray ws.toArray n n2 dd dd2 sl sl2 (by simp only [List.size_toArray]; rw [sizeLine_eq]; omega)) ⟨ho, ho2, ?_⟩
      rw [e]
      exact PE.alloc X rfl X.toks fun g' sub e => .list ⟨_, e, rfl, _, rfl⟩ ((r1.mono sub).append (r2.mono sub))

theorem foldl_rep {α : Type} (xs : Array α) : ∀ (n : Nat) (acc : Array α), (List.foldl (fun x1 x2 => x1 ++ x2) acc (List.replicate n xs)).toList = acc.toList ++ (List.replicate n xs.toList).flatten
  | 0, acc => by simp
  | n + 1, acc => by
    rw [List.replicate_succ, List.foldl_cons, foldl_rep xs n, List.replicate_succ, List.flatten_cons]
    simp [List.append_assoc]
theorem RepL.rep {vs : List Value} (r : RepL W g vs ds) : ∀ n : Nat, RepL W g (List.replicate n vs).flatten (List.replicate n ds).flatten
  | 0 => .nil
  | n + 1 => by rw [List.replicate_succ, List.flatten_cons, List.replicate_succ, List.flatten_cons]; exact r.append (RepL.rep r n)

/-- a written list, so many times -/
theorem ev_listmul {es : List Expr} {n k : Nat} {p1 p2 pos : Pos} (h : EvL W F ρ es ds) (hn : ds.length ≤ 1000) (hds : 0 < ds.length) (hm : n ≤ 1000) : EvE W F ρ (.BinOp (.List es p1) .Mult (.Constant (.int n) k p2) pos) (.list (List.replicate n ds).flatten) := .mk fun kp g val s X =>
  wpAny_BinOp (wpAny_List (mono' (h.2 kp g val s p1 X) fun vs s₁ ⟨g₁, G₁, X₁, R₁, r₁⟩ => ⟨by rw [R₁.length, sizeLine_eq]; omega, by
    refine wpAny_Constant_int ?_
    have hl := R₁.length
    have hT : (s₁.heap.push { cls := .type "list", data := .seq vs.toArray }).get? s₁.heap.objs.size = some { cls := .type "list", dict := none, data := .seq vs.toArray 0, slots := #[] } := Heap.get?_push_size _ rfl
    refine wpAny_binaryOp_repeat_ref (T := "list") (U := "int") (by decide) ⟨_, hT, rfl⟩ (fun s' => typeIs_int s' _ _) noFill_list_mul PySem.F.fills_int_mul PySem.F.slot_int_rmul repeat_list PySem.F.slot_int_index.lookup
      (call_meets PySem.F.slot_int_rmul (typeIs_int _ _ _) PySem.F.entry_int_rmul (PySem.F.args_int_rmul_2 _ _) (int___rmul___int_list _ _ _ vs.toArray 0)
      ⟨hT, rfl, ⟨_, hT, rfl⟩, call_meets PySem.F.slot_list_mul ⟨_, hT, rfl⟩ PySem.F.entry_list_mul (PySem.F.args_list_mul_2 _ _)
        (AutoListH.list___mul___list_int_3 _ vs.toArray 0 _ _ ?h1 ?h2 ?h3)
        ⟨hT, ?_⟩⟩)
    case h1 => unfold Builtin.List.listFitsIndex; simp only [Bool.not_eq_true', Bool.and_eq_false_iff, decide_eq_false_iff_not]; omega
    case h2 =>
      have : vs.length * n ≤ 1000 * 1000 := Nat.mul_le_mul (by omega) hm
      rw [List.size_toArray, Int.toNat_natCast]; omega
    case h3 =>
      have : vs.length * n ≤ 1000 * 1000 := Nat.mul_le_mul (by omega) hm
      rw [List.size_toArray, Int.toNat_natCast]
      unfold Builtin.List.listTooLong
      rw [sizeLine_eq, decide_eq_true_eq]; omega
    have Y := X₁.pushed (tk := s₁.toks + 1) { cls := .type "list", data := .seq vs.toArray } (Nat.le_add_left _ _)
    have hne : vs.toArray.isEmpty = false := by
      cases vs with
      | nil => simp at hl; omega
      | cons a b => rfl
    rw [hne]
    refine (PE.alloc (tk := s₁.toks + 1) Y rfl (Nat.le_add_left _ _) fun g' sub e => ?_).from G₁ (r₁.trans ⟨rfl, rfl, rfl⟩)
    refine .list (vs := (List.replicate n vs).flatten) ⟨_, e, rfl, 0, ?_⟩ ((R₁.mono sub).rep n)
    have q := foldl_rep vs.toArray n #[]
    rw [show (#[] : Array Value).toList ++ (List.replicate n vs.toArray.toList).flatten = (List.replicate n vs).flatten by simp] at q
    have q' := congrArg List.toArray q
    rw [Array.toArray_toList] at q'
    exact congrArg (Data.seq · 0) q'⟩))

/-! ### equality -/
mutual
noncomputable def pyD : D → PyData
  | .none => .none
  | .bool b => .bool b
  | .int i => .int i
  | .str x => .str x
  | .list ds => .list (pyDs ds)
  | .tuple ds => .tuple (pyDs ds)
  | _ => .none
noncomputable def pyDs : List D → List PyData
  | [] => []
  | d :: ds => pyD d :: pyDs ds
end
mutual
noncomputable def okD : D → Bool
  | .none => true
  | .bool _ => true
  | .int _ => true
  | .str x => PyData.strOk x
  | .list ds => okDs ds
  | .tuple ds => okDs ds
  | _ => false
noncomputable def okDs : List D → Bool
  | [] => true
  | d :: ds => okD d && okDs ds
end
mutual
theorem readsD {h : Heap} (hg : ∀ b o, g b = some o → h.get? b = some o) : ∀ {v : Value} {d : D}, Rep W g v d → okD d = true → ∃ as, Reads h v (pyD d) as
  | _, _, .none, _ => ⟨_, Reads.none⟩
  | _, _, .bool b, _ => ⟨_, Reads.bool b⟩
  | _, _, .int i t, _ => ⟨_, Reads.int i t⟩
  | _, _, .str x t, _ => ⟨_, Reads.str x t⟩
  | _, _, .obj v, h => by simp [okD] at h
  | _, _, .dict _ _ _, h => by simp [okD] at h
  | _, _, .range _, h => by simp [okD] at h
  | _, _, .list ⟨o, e, hc, n, hd⟩ r, h => by
    obtain ⟨as, q⟩ := readsDs hg r (by simpa [okD] using h)
    rw [pyD]
    exact ⟨_, Reads.list (hg _ _ e) hc hd (by simpa using q)⟩
  | _, _, .tuple ⟨o, e, hc, n, hd⟩ r, h => by
    obtain ⟨as, q⟩ := readsDs hg r (by simpa [okD] using h)
    rw [pyD]
    exact ⟨_, Reads.tuple (hg _ _ e) hc hd (by simpa using q)⟩
theorem readsDs {h : Heap} (hg : ∀ b o, g b = some o → h.get? b = some o) : ∀ {vs : List Value} {ds : List D}, RepL W g vs ds → okDs ds = true → ∃ as, ReadsAll h vs (pyDs ds) as
  | _, _, .nil, _ => ⟨_, ReadsAll.nil⟩
  | _, _, .cons hd r, h => by
    rw [okDs, Bool.and_eq_true] at h
    have h' := h
    obtain ⟨as, q⟩ := readsD hg hd h'.1
    obtain ⟨bs, p⟩ := readsDs hg r h'.2
    rw [pyDs]
    exact ⟨_, ReadsAll.cons q p⟩
end
mutual
theorem canD : ∀ d : D, okD d = true → (pyD d).canLay0 = true
  | .none, _ => rfl
  | .bool _, _ => rfl
  | .int _, _ => rfl
  | .str x, h => h
  | .list ds, h => canDs ds h
  | .tuple ds, h => canDs ds h
  | .obj _, h => by simp [okD] at h
  | .dict _, h => by simp [okD] at h
  | .range _ _, h => by simp [okD] at h
theorem canDs : ∀ ds : List D, okDs ds = true → PyData.canLayAll0 (pyDs ds) = true
  | [], _ => rfl
  | d :: ds, h => by
    rw [okDs, Bool.and_eq_true] at h
    have h' := h
    rw [pyDs]
    simp [PyData.canLayAll0, canD d h'.1, canDs ds h'.2]
end

theorem cmp_eq (h1 : okD d1 = true) (h2 : okD d2 = true) (hu : min (pyD d1).depth (pyD d2).depth ≤ 50) : OpC W .Eq d1 d2 (PyData.eqv (pyD d1) (pyD d2)) := fun F kp g ρ val s u v X R1 R2 => by
  obtain ⟨as, ra⟩ := readsD X.gin R1 h1
  obtain ⟨bs, rb⟩ := readsD X.gin R2 h2
  refine PySem.SeqAt.compareEq_reads ra rb (canD _ h1) (canD _ h2) ?_ (PE.same X (.bool _))
  have := X.ok.unit
  have e : cLine = 9900 := rfl
  omega
theorem cmp_ne (h1 : okD d1 = true) (h2 : okD d2 = true) (hu : min (pyD d1).depth (pyD d2).depth ≤ 50) : OpC W .NotEq d1 d2 (!PyData.eqv (pyD d1) (pyD d2)) := fun F kp g ρ val s u v X R1 R2 => by
  obtain ⟨as, ra⟩ := readsD X.gin R1 h1
  obtain ⟨bs, rb⟩ := readsD X.gin R2 h2
  refine PySem.SeqAt.compareNe_reads ra rb (canD _ h1) (canD _ h2) ?_ (PE.same X (.bool _))
  have := X.ok.unit
  have e : cLine = 9900 := rfl
  omega
theorem cmp_eq_str : OpC W .Eq (.str x) (.str y) (x == y) := fun F kp g ρ val s u v X R1 R2 => by
  obtain ⟨t, rfl⟩ := repStr R1; obtain ⟨u, rfl⟩ := repStr R2
  exact PyProof.Rows.eq_str (PE.same X (.bool _))
theorem cmp_ne_str : OpC W .NotEq (.str x) (.str y) (x.cps.toList != y.cps.toList) := fun F kp g ρ val s u v X R1 R2 => by
  obtain ⟨t, rfl⟩ := repStr R1; obtain ⟨u, rfl⟩ := repStr R2
  exact PySem.P.ne_str (PE.same X (.bool _))
theorem cmp_eq_int : OpC W .Eq (.int i) (.int j) (i == j) := fun F kp g ρ val s u v X R1 R2 => by
  obtain ⟨t, rfl⟩ := repInt R1; obtain ⟨u, rfl⟩ := repInt R2
  exact PyProof.Rows.eq_int (PE.same X (.bool _))
theorem cmp_ne_int : OpC W .NotEq (.int i) (.int j) (i != j) := fun F kp g ρ val s u v X R1 R2 => by
  obtain ⟨t, rfl⟩ := repInt R1; obtain ⟨u, rfl⟩ := repInt R2
  exact PyProof.Rows.ne_int (PE.same X (.bool _))
theorem cmp_lt : OpC W .Lt (.int i) (.int j) (decide (i < j)) := fun F kp g ρ val s u v X R1 R2 => by
  obtain ⟨t, rfl⟩ := repInt R1; obtain ⟨u, rfl⟩ := repInt R2
  exact PyProof.Rows.lt_int (PE.same X (.bool _))
theorem cmp_le : OpC W .LtE (.int i) (.int j) (decide (i ≤ j)) := fun F kp g ρ val s u v X R1 R2 => by
  obtain ⟨t, rfl⟩ := repInt R1; obtain ⟨u, rfl⟩ := repInt R2
  exact PyProof.Rows.le_int (PE.same X (.bool _))
theorem cmp_gt : OpC W .Gt (.int i) (.int j) (decide (i > j)) := fun F kp g ρ val s u v X R1 R2 => by
  obtain ⟨t, rfl⟩ := repInt R1; obtain ⟨u, rfl⟩ := repInt R2
  exact PyProof.Rows.gt_int (PE.same X (.bool _))
theorem cmp_ge : OpC W .GtE (.int i) (.int j) (decide (i ≥ j)) := fun F kp g ρ val s u v X R1 R2 => by
  obtain ⟨t, rfl⟩ := repInt R1; obtain ⟨u, rfl⟩ := repInt R2
  exact PyProof.Rows.ge_int (PE.same X (.bool _))
theorem in_str : OpC W .In (.str y) (.str x) (Txt.contains x y) := fun F kp g ρ val s u v X R1 R2 => by
  obtain ⟨t, rfl⟩ := repStr R1; obtain ⟨u, rfl⟩ := repStr R2
  exact SB.contains (PE.same X (.bool _))
theorem notin_str : OpC W .NotIn (.str y) (.str x) (!Txt.contains x y) := fun F kp g ρ val s u v X R1 R2 => by
  obtain ⟨t, rfl⟩ := repStr R1; obtain ⟨u, rfl⟩ := repStr R2
  exact SB.notContains (PE.same X (.bool _))
theorem in_list (h1 : okD d = true) (h2 : okDs ds = true) (hu : min (PyData.depthAll (pyDs ds)) (pyD d).depth ≤ 50) : OpC W .In d (.list ds) ((pyDs ds).any fun y => PyData.eqv y (pyD d)) := fun F kp g ρ val s u v X R1 R2 => by
  obtain ⟨as, ra⟩ := readsD X.gin R1 h1
  obtain ⟨bs, rb⟩ := readsD (d := .list ds) X.gin R2 (by simpa [okD] using h2)
  rw [pyD] at rb
  refine PySem.SeqAt.in_list_reads rb ra (canDs _ h2) (canD _ h1) ?_ (PE.same X (.bool _))
  have := X.ok.unit
  have e : cLine = 9900 := rfl
  omega

/-! ### identity of plain things -/
theorem is_bool : OpC W .Is (.bool b) (.bool c) (b == c) := fun F kp g ρ val s u v X R1 R2 => by
  cases R1; cases R2; exact wpAny_is_plain rfl (by rw [show ((Value.bool b == Value.bool c) = (b == c)) by cases b <;> cases c <;> rfl]; exact PE.same X (.bool _))
theorem isnot_bool : OpC W .IsNot (.bool b) (.bool c) (b != c) := fun F kp g ρ val s u v X R1 R2 => by
  cases R1; cases R2; exact wpAny_isNot_plain rfl (by rw [show ((Value.bool b == Value.bool c) = (b == c)) by cases b <;> cases c <;> rfl]; exact PE.same X (.bool _))
theorem isnot_type {S T : String} (h : (S == T) = b) : OpC W .IsNot (.obj (.type S)) (.obj (.type T)) (!b) := fun F kp g ρ val s u v X R1 R2 => by
  cases R1; cases R2
  subst h
  by_cases hst : S = T
  · subst hst
    rw [beq_self_eq_true]
    exact wpAny_isNot_self rfl (PE.same X (.bool _))
  · rw [beq_eq_false_iff_ne.mpr hst]
    exact wpAny_isNot_other rfl (fun e => hst (by injection e)) (PE.same X (.bool _))

/-! ### truth -/
theorem tr_bool : OpT W (.bool b) b := fun F kp g ρ val s v X R => by
  cases R; exact wpAny_truthy_bool (PT.same X)
theorem tr_str (hx : x.length ≤ 1000000) : OpT W (.str x) (x.length != 0) := fun F kp g ρ val s v X R => by
  obtain ⟨t, rfl⟩ := repStr R
  refine PySem.P.truthy_str (by omega) ?_
  have e : ((x.length : Int) != 0) = (x.length != 0) := by
    cases x.length with
    | zero => rfl
    | succ n => rfl
  rw [e]
  exact ⟨rfl, g, Gr.refl _ _, X.tok (Nat.le_add_left _ _), ⟨rfl, rfl, rfl⟩⟩
theorem tr_int : OpT W (.int i) (i != 0) := fun F kp g ρ val s v X R => by
  obtain ⟨t, rfl⟩ := repInt R
  exact PyProof.Rows.truthy_int (PT.same X)

/-! ### built-in functions -/
theorem len_str' (hx : x.length ≤ 1000000) : BiC W "len" [.str x] (.int x.length) := fun F kp g ρ val s vs X R => by
  obtain ⟨u, rfl, h1⟩ := inv1 R
  obtain ⟨t, rfl⟩ := repStr h1
  exact PySem.P.len_str (by omega) (PE.now X (.int _ _) (Nat.le_add_left _ _))
theorem len_list' (hn : ds.length ≤ 1000) : BiC W "len" [.list ds] (.int ds.length) := fun F kp g ρ val s vs X R => by
  obtain ⟨u, rfl, h1⟩ := inv1 R
  cases h1 with
  | list H r =>
    have := r.length
    refine Calls.call_len_list (isList_of H X.gin) (by simp; omega) (PE.now X ?_ (Nat.le_add_left _ _))
    rw [List.size_toArray, this]
    exact .int _ _
theorem type_tuple : TyC W "type" [.tuple ds] (.obj (.type "tuple")) := fun F kp g ρ val s vs X R => by
  obtain ⟨u, rfl, h1⟩ := inv1 R
  cases h1 with
  | tuple H r =>
    obtain ⟨o, ho, hc, _⟩ := isTup_of H X.gin
    exact call_type_of ⟨o, ho, hc⟩ rfl (PE.same X (.obj _))
theorem type_int : TyC W "type" [.int i] (.obj (.type "int")) := fun F kp g ρ val s vs X R => by
  obtain ⟨u, rfl, h1⟩ := inv1 R
  obtain ⟨t, rfl⟩ := repInt h1
  exact call_type_of (typeIs_int _ _ _) rfl (PE.same X (.obj _))
theorem str_int' (hi : i.natAbs.log2 < 1920) : TyC W "str" [.int i] (.str (toString i)) := fun F kp g ρ val s vs X R => by
  obtain ⟨u, rfl, h1⟩ := inv1 R
  obtain ⟨t, rfl⟩ := repInt h1
  exact PySem.P.str_of_int hi (PE.now X (.str _ _) (Nat.le_add_left _ _))
theorem int_str' (hn : PySem.intText? x = some i) (hl : x.length ≤ 640) : TyC W "int" [.str x] (.int i) := fun F kp g ρ val s vs X R => by
  obtain ⟨u, rfl, h1⟩ := inv1 R
  obtain ⟨t, rfl⟩ := repStr h1
  exact KIN.call_text hn hl (PE.now X (.int _ _) (Nat.le_add_left _ _))
theorem range1' : TyC W "range" [.int i] (.range 0 i) := fun F kp g ρ val s vs X R => by
  obtain ⟨u, rfl, h1⟩ := inv1 R
  obtain ⟨t, rfl⟩ := repInt h1
  exact call_range_1 (PE.alloc X rfl (Nat.le_add_left _ _) fun g' sub e => .range e)
theorem range2' : TyC W "range" [.int i, .int j] (.range i j) := fun F kp g ρ val s vs X R => by
  obtain ⟨u, v, rfl, h1, h2⟩ := inv2 R
  obtain ⟨t, rfl⟩ := repInt h1
  obtain ⟨t', rfl⟩ := repInt h2
  exact call_range_2 (PE.alloc X rfl (Nat.le_add_left _ _) fun g' sub e => .range e)

end

end

section
open PySem PySem.W PySem.Calls PyProof.Rows PySem.Builtin PySem.Builtin.Str

/-! ### more built-ins -/
noncomputable def find4 (x y : Str) (i j : Int) : Int := match occurrences x y (fromIndex x.length i) (min (fromIndex x.length j) x.length) 1 with | k :: _ => (k : Int) | [] => -1
theorem gives_find4 (x y : Str) (i j : Int) (t u v v' : Tok) : Gives («str.find» ⟨[.str x t, .str y u, .int i v, .int j v'], []⟩) (.int (find4 x y i j)) := by
  show Gives (match occurrences x y (fromIndex x.length i) (min (fromIndex x.length j) x.length) 1 with | k :: _ => retInt k | [] => (do rule "str.find.not-found"; retInt (-1))) _
  unfold find4
  cases occurrences x y (fromIndex x.length i) (min (fromIndex x.length j) x.length) 1 with
  | nil => exact .rule (.of_eq rfl)
  | cons k _ => exact .of_eq rfl

section
variable {W : Wd} {F : Fm} {kp g g₁ g₂ : PHeap} {ρ : Ro} {s s₁ : Shared} {d d1 d2 : D} {ds es : List D} {v : Value} {b c : Bool} {A : Around} {i j : Int} {val : Str → Value} {x y z : Str} {pos p np apos : Pos}

theorem m_find4 : BiC W "str.find" [.str x, .str y, .int i, .int j] (.int (find4 x y i j)) := fun F kp g ρ val s vs X R => by
  obtain ⟨u, v, w, z, rfl, h1, h2, h3, h4⟩ := inv4 R
  obtain ⟨t, rfl⟩ := repStr h1
  obtain ⟨t', rfl⟩ := repStr h2
  obtain ⟨t'', rfl⟩ := repInt h3
  obtain ⟨t3, rfl⟩ := repInt h4
  exact call_gives PySem.F.slot_str_find (typeIs_str _ _ _) PySem.F.entry_str_find (PySem.F.args_str_find_4 _ _ _ _) (gives_find4 x y i j t t' t'' t3) (show (Made.int _).post _ s from PE.now X (.int _ _) (Nat.le_add_left _ _))

theorem wp_split {prog : Program} {w : World} {E : Value → Shared → Prop} {Q : Value → Shared → Prop} {t u : Tok} (hy : (y.length == 0) = false)
    (h : ∀ l : List (Str × Tok), ∀ k, l.map (·.1) = Txt.split x y → Q (.ref s.heap.objs.size) { s with heap := s.heap.push { cls := .type "list", data := .seq (strValues l).toArray }, toks := k })
    (hsz : x.length + 2 ≤ sizeLine) : wpAny (model prog w) A (call (.builtin "str.split") [.str x t, .str y u]) Q E s := by
  have hn : (partsBetween x (occurrences x y 0 x.length (x.length + 1)) y.length).length ≤ sizeLine := by
    have e1 := StrLaws.occ_length_le x y 0 x.length (x.length + 1)
    rw [length_partsBetween]; omega
  cases h1 : (decide (x.length < y.length) || decide (strKind x < strKind y))
  · cases hf : (occurrences x y 0 x.length (x.length + 1)).isEmpty
    · refine call_meets PySem.F.slot_str_split (typeIs_str _ _ _) PySem.F.entry_str_split (PySem.F.args_str_split_2 _ _) (meets_str_split_sep x y t u h1 hy hf (by omega) hn) ?_
      show wants Q E _ { s with toks := _, heap := s.heap.push { cls := .type "list", data := .seq (strsFrom s.toks (partsBetween x (occurrences x y 0 x.length (x.length + 1)) y.length)).toArray } }
      rw [strsFrom_eq]
      exact h (numbered s.toks _) _ ((numbered_texts _ _).trans ((if_neg (ne_true_of_eq_false h1)).trans (if_neg (ne_true_of_eq_false hf))).symm)
    · exact call_meets PySem.F.slot_str_split (typeIs_str _ _ _) PySem.F.entry_str_split (PySem.F.args_str_split_2 _ _) (meets_str_split_not_found x y t u h1 hy hf)
        (h [(x, t)] s.toks ((if_neg (ne_true_of_eq_false h1)).trans (if_pos hf)).symm)
  · exact call_meets PySem.F.slot_str_split (typeIs_str _ _ _) PySem.F.entry_str_split (PySem.F.args_str_split_2 _ _) (meets_str_split_cannot_occur x y t u h1)
      (h [(x, t)] s.toks (if_pos h1).symm)

theorem rep_strs (g : PHeap) : ∀ l : List (Str × Tok), RepL W g (strValues l) ((l.map (·.1)).map D.str)
  | [] => .nil
  | p :: r => .cons (.str _ _) (rep_strs g r)

theorem m_split (hy : (y.length == 0) = false) (hx : x.length ≤ 1000000) : BiC W "str.split" [.str x, .str y] (.list ((Txt.split x y).map .str)) := fun F kp g ρ val s vs X R => by
  obtain ⟨u, v, rfl, h1, h2⟩ := inv2 R
  obtain ⟨t, rfl⟩ := repStr h1
  obtain ⟨t', rfl⟩ := repStr h2
  refine wpAny_with_toks (n := 1) X.toks (wp_split hy (fun l k e hk => ?_) (by rw [sizeLine_eq]; omega))
  rw [← e]
  exact PE.alloc X rfl hk fun g' sub q => .list ⟨_, q, rfl, _, rfl⟩ (rep_strs g' l)

theorem m_join {ys : List Str} (hok : (ys.map (·.length)).sum + ys.length * x.length ≤ 1000000) : BiC W "str.join" [.str x, .list (ys.map .str)] (.str (Txt.join x ys)) := fun F kp g ρ val s vs X R => by
  obtain ⟨u, v, rfl, h1, h2⟩ := inv2 R
  obtain ⟨t, rfl⟩ := repStr h1
  generalize hd : ys.map D.str = ds at h2
  cases h2 with
  | @list a vs _ H r =>
    subst hd
    have st : ∀ (ys : List Str) (vs : List Value), RepL W g vs (ys.map .str) → StrsAre vs ys := by
      intro ys
      induction ys with
      | nil => intro vs r; cases r; exact .nil
      | cons y ys ih =>
        intro vs r
        cases r with
        | cons a b => obtain ⟨t, rfl⟩ := repStr a; exact .cons _ _ (ih _ b)
    exact wpAny_with_toks (n := 1) X.toks (PyProof.Rows.join_list (isList_of H X.gin) (by simpa using st ys vs r) (by omega) fun t' k hk => PE.now X (.str _ _) hk)

/-- replace, by two written texts -/
theorem ev_replace {o : Expr} {k1 k2 : Nat} {p1 p2 : Pos} (ho : EvE W F ρ o (.str x)) (hyz : (y == z) = false) (hx : x.length ≤ 100000) (hz : z.length ≤ 14)
    (hb : attributeBase o "replace" F.env (eval o F.env) = eval o F.env := by rfl) (hline : (apos.endLine == pos.line) = true := by rfl) :
    EvE W F ρ (.Call (.Attribute o "replace" apos) [.Constant (.str y) k1 p1, .Constant (.str z) k2 p2] [] pos) (.str (Txt.replace x y z)) := .mk fun kp g val s X => by
  refine wpAny_Call_method hb rfl hline PySem.F.plainAttrs_str PySem.F.slot_str_replace PySem.F.type_str_replace (mono' (ho.run kp g val s X) fun ov s₁ ⟨g₁, G₁, X₁, R₁, r₁⟩ => ?_)
  obtain ⟨t, rfl⟩ := repStr R₁
  refine ⟨typeIs_str _ _ _, fun a e => by (cases e), ?_⟩
  refine Calls.callWith_builtin rfl (Calls.evalArgs_plain (Calls.spliced_cons (Calls.Constant_str (pos := p1) (k := k1) (Calls.spliced_cons (Calls.Constant_str (pos := p2) (k := k2) (Calls.spliced_nil ?_))))))
  have := X₁.toks
  refine wpAny_with_toks (n := 1) (Nat.le_add_left _ _) (SC.replace (u := s₁.toks) (v := s₁.toks + 1) (Nat.ne_of_gt this) (Nat.succ_ne_zero _) (Nat.ne_of_lt (Nat.lt_succ_self _)) hyz ?_ fun t' k hk => ?_)
  · have : (x.length + 1) * z.length ≤ (x.length + 1) * 14 := Nat.mul_le_mul_left _ hz
    omega
  · exact (PE.now X₁ (.str _ _) hk).from G₁ (r₁.trans ⟨rfl, rfl, rfl⟩)

/-! sums, the greatest, the least -/
theorem ints_of {is : List Int} {vs : List Value} (r : RepL W g vs (is.map .int)) : IntsAre vs is := by
  induction is generalizing vs with
  | nil => cases r; exact .nil
  | cons i is ih =>
    cases r with
    | cons a b => obtain ⟨t, rfl⟩ := repInt a; exact .cons _ _ (ih b)

theorem PE.grown {h' : Heap} {tk : Nat} (X : StV W F kp g ρ val s) (hk : ∀ b o, s.heap.get? b = some o → h'.get? b = some o) (ht : 1 ≤ tk) (R : Rep W g v d) : PE W F kp g ρ val s d v { s with heap := h', toks := tk } :=
  ⟨g, Gr.refl _ _, X.ext hk (Sub.refl g) (fun b o e => hk b o (X.gin b o e)) (fun _ h => .inl h) ht, R, ⟨rfl, rfl, rfl⟩⟩

theorem sum_list' {is : List Int} : BiC W "sum" [.list (is.map .int)] (.int is.sum) := fun F kp g ρ val s vs X R => by
  obtain ⟨u, rfl, h1⟩ := inv1 R
  generalize hd : is.map D.int = ds at h1
  cases h1 with
  | @list a vs _ H r =>
    subst hd
    have hi := ints_of r
    have hl := isList_of H X.gin
    obtain ⟨xs, e⟩ := hi.allInts.items
    have hns : is = xs.toList.map (·.1) := by rw [← hi.numsOf, ← nums_intItems, ← e]
    rw [e] at hl
    refine wpAny_with_toks (n := 1) X.toks (sum_intListG X.hd hl fun h' tk t' hk ht => ?_)
    rw [preSum_eq, List.take_of_length_le (by simp), ← hns]
    exact PE.grown X hk ht (.int _ _)

theorem max_list' {is : List Int} {M : Int} (hm : M ∈ is) (hM : ∀ a ∈ is, a ≤ M) : BiC W "max" [.list (is.map .int)] (.int M) := fun F kp g ρ val s vs X R => by
  obtain ⟨u, rfl, h1⟩ := inv1 R
  generalize hd : is.map D.int = ds at h1
  cases h1 with
  | @list a vs _ H r =>
    subst hd
    have hi := ints_of r
    have hl := isList_of H X.gin
    obtain ⟨xs, e⟩ := hi.allInts.items
    have hns : is = xs.toList.map (·.1) := by rw [← hi.numsOf, ← nums_intItems, ← e]
    have hsz : 0 < xs.size := by
      have h3 : 0 < is.length := List.length_pos_of_mem hm
      rw [hns, List.length_map, Array.length_toList] at h3; exact h3
    rw [e] at hl
    refine wpAny_with_toks (n := 1) X.toks (max_intList X.hd hl hsz fun v h' tk hv hk ht => ?_)
    obtain ⟨t, rfl⟩ := intItems_at hv
    obtain ⟨h1, h2⟩ := argBest_gt (numAt xs) (xs.size - 1)
    have e1 : numAt xs (argBest (fun i j => decide (numAt xs i > numAt xs j)) (xs.size - 1)) ∈ is := by
      rw [hns, numAt_eq]; exact getD_mem (by rw [List.length_map, Array.length_toList]; omega)
    have e2 : M ≤ numAt xs (argBest (fun i j => decide (numAt xs i > numAt xs j)) (xs.size - 1)) := by
      rw [hns] at hm
      obtain ⟨j, hj, rfl⟩ := mem_getD hm
      rw [List.length_map, Array.length_toList] at hj
      rw [← numAt_eq]; exact h2 j (by omega)
    have e3 : numAt xs (argBest (fun i j => decide (numAt xs i > numAt xs j)) (xs.size - 1)) = M := Int.le_antisymm (hM _ e1) e2
    rw [e3]
    exact PE.grown X hk ht (.int _ _)

theorem min_list' {is : List Int} {M : Int} (hm : M ∈ is) (hM : ∀ a ∈ is, M ≤ a) : BiC W "min" [.list (is.map .int)] (.int M) := fun F kp g ρ val s vs X R => by
  obtain ⟨u, rfl, h1⟩ := inv1 R
  generalize hd : is.map D.int = ds at h1
  cases h1 with
  | @list a vs _ H r =>
    subst hd
    have hi := ints_of r
    have hl := isList_of H X.gin
    obtain ⟨xs, e⟩ := hi.allInts.items
    have hns : is = xs.toList.map (·.1) := by rw [← hi.numsOf, ← nums_intItems, ← e]
    have hsz : 0 < xs.size := by
      have h3 : 0 < is.length := List.length_pos_of_mem hm
      rw [hns, List.length_map, Array.length_toList] at h3; exact h3
    rw [e] at hl
    refine wpAny_with_toks (n := 1) X.toks (min_intList X.hd hl hsz fun v h' tk hv hk ht => ?_)
    obtain ⟨t, rfl⟩ := intItems_at hv
    obtain ⟨h1, h2⟩ := argBest_lt (numAt xs) (xs.size - 1)
    have e1 : numAt xs (argBest (fun i j => decide (numAt xs i < numAt xs j)) (xs.size - 1)) ∈ is := by
      rw [hns, numAt_eq]; exact getD_mem (by rw [List.length_map, Array.length_toList]; omega)
    have e2 : numAt xs (argBest (fun i j => decide (numAt xs i < numAt xs j)) (xs.size - 1)) ≤ M := by
      rw [hns] at hm
      obtain ⟨j, hj, rfl⟩ := mem_getD hm
      rw [List.length_map, Array.length_toList] at hj
      rw [← numAt_eq]; exact h2 j (by omega)
    have e3 : numAt xs (argBest (fun i j => decide (numAt xs i < numAt xs j)) (xs.size - 1)) = M := Int.le_antisymm e2 (hM _ e1)
    rw [e3]
    exact PE.grown X hk ht (.int _ _)

theorem max_two' : BiC W "max" [.int i, .int j] (.int (max i j)) := fun F kp g ρ val s vs X R => by
  obtain ⟨u, v, rfl, h1, h2⟩ := inv2 R
  obtain ⟨t, rfl⟩ := repInt h1
  obtain ⟨t', rfl⟩ := repInt h2
  refine wpAny_with_toks (n := 1) X.toks (max_two_ints X.hd fun h' tk hk ht => PE.grown X hk ht ?_)
  by_cases h : j > i
  · rw [if_pos h, show max i j = j by omega]; exact .int _ _
  · rw [if_neg h, show max i j = i by omega]; exact .int _ _
theorem min_two' : BiC W "min" [.int i, .int j] (.int (min i j)) := fun F kp g ρ val s vs X R => by
  obtain ⟨u, v, rfl, h1, h2⟩ := inv2 R
  obtain ⟨t, rfl⟩ := repInt h1
  obtain ⟨t', rfl⟩ := repInt h2
  refine wpAny_with_toks (n := 1) X.toks (min_two_ints X.hd fun h' tk hk ht => PE.grown X hk ht ?_)
  by_cases h : j < i
  · rw [if_pos h, show min i j = j by omega]; exact .int _ _
  · rw [if_neg h, show min i j = i by omega]; exact .int _ _

/-! dicts of strs -/
theorem ty_dict {kv : List (Str × Str)} : TyOf W (.dict kv) "dict" := fun g h v hg R => by
  cases R with
  | @dict a o _ e _ q =>
    refine ⟨fun s hs => ⟨o, by rw [hs]; exact hg _ _ e, q.1.1⟩, fun b e' => ?_⟩
    cases e'
    exact ⟨o, hg _ _ e, q.1.2.1⟩

theorem m_get {kv : List (Str × Str)} : BiC W "dict.get" [.dict kv, .str x, .str y] (.str ((kv.lookup x).getD y)) := fun F kp g ρ val s vs X R => by
  obtain ⟨u, v, w, rfl, h1, h2, h3⟩ := inv3 R
  obtain ⟨t, rfl⟩ := repStr h2
  obtain ⟨t', rfl⟩ := repStr h3
  cases h1 with
  | @dict a o _ e hne q =>
    obtain ⟨hx, es, ep, hd, hk, hf⟩ := q
    have hm : s.heap.MapOf (PySem.strKind W.prog W.w) a (fun k => findBy (PySem.strKind W.prog W.w).is es k) := ⟨o, es, ep, X.gin _ _ e, hx, hd, hk, fun _ => rfl⟩
    have his : (PySem.strKind W.prog W.w).is x (.str x t) = true := strKind_is _ _ _ _
    refine call_meetsIn PySem.F.slot_dict_get hm.typeIs PySem.F.entry_dict_get (PySem.F.args_dict_get_3 _ _ _) (meets_dict_get_default (PySem.strKind W.prog W.w) a his (by simpa using hne) (.str y t')) ⟨_, hm, ?_⟩
    cases hl : kv.lookup x with
    | none =>
      rw [(hf x).2 hl]
      exact PE.now X (.str _ _) (Nat.le_add_left _ _)
    | some v =>
      obtain ⟨t2, ht⟩ := (hf x).1 v hl
      rw [ht]
      exact PE.now X (.str _ _) (Nat.le_add_left _ _)

/-- a dict display of written strs -/
inductive Disp : List (Option Expr) → List Expr → List (Str × Str) → Prop
  | nil : Disp [] [] []
  | cons {k v : Str} {a b : Nat} {p q : Pos} {ks vs kv} : Disp ks vs kv → Disp (some (.Constant (.str k) a p) :: ks) (.Constant (.str v) b q :: vs) ((k, v) :: kv)
theorem Disp.all {ks vs kv} (h : Disp ks vs kv) : ks.all (·.isSome) = true ∧ ks.length = vs.length ∧ ks.length = kv.length := by
  induction h with
  | nil => exact ⟨rfl, rfl, rfl⟩
  | cons _ ih => exact ⟨by simpa using ih.1, by simp [ih.2.1], by simp [ih.2.2]⟩

theorem disp_pairs {prog : Program} {w : World} {E : Value → Shared → Prop} {env : Env} {ks vs kv} (h : Disp ks vs kv) : ∀ (s : Shared) (Q : List (Value × Value) → Shared → Prop),
    (∀ (ps : List (Value × Value)) (kvs : List (Str × Value)) (tk : Nat), Carries (PySem.strKind prog w) ps kvs → kvs.map (·.1) = kv.map (·.1) → (∀ k, (∀ v, kv.lookup k = some v → ∃ t, valueAt kvs k = some (.str v t)) ∧ (kv.lookup k = none → valueAt kvs k = none)) → s.toks ≤ tk → Q ps { s with toks := tk }) →
    wpAny (model prog w) A (evalPairs (pairTrees ks vs env pos)) Q E s := by
  induction h with
  | nil => intro s Q hQ; exact pairTrees_nil_walk (hQ [] [] s.toks trivial rfl (fun k => ⟨fun v e => (by cases e), fun _ => rfl⟩) (Nat.le_refl _))
  | @cons k v a b p q ks vs kv _ ih =>
    intro s Q hQ
    refine pairTrees_cons_walk (Calls.Constant_str (Calls.Constant_str (ih _ _ fun ps kvs tk hc hm hl ht => ?_)))
    refine hQ _ ((k, .str v (s.toks + 1)) :: kvs) tk ⟨strKind_is _ _ _ _, rfl, hc⟩ (by simp [hm]) (fun x => ?_) (by have ht' : s.toks + 1 + 1 ≤ tk := ht; omega)
    unfold valueAt
    rw [List.find?_cons, List.lookup_cons]
    by_cases hx : x = k
    · subst hx
      rw [beq_self_eq_true]
      simp only [decide_true]
      exact ⟨fun w e => by cases e; exact ⟨_, rfl⟩, fun e => by cases e⟩
    · rw [beq_eq_false_iff_ne.mpr hx]
      have : decide (k = x) = false := decide_eq_false fun e => hx e.symm
      simp only [this]
      exact hl x

theorem ev_dict {ks : List (Option Expr)} {vs : List Expr} {kv : List (Str × Str)} (h : Disp ks vs kv) (hn : (kv.map (·.1)).Nodup) (h0 : ks ≠ []) (hlen : ks.length ≤ 15) (hH : ∃ o, W.H.get? 2 = some o) :
    EvE W F ρ (.Dict ks vs pos) (.dict kv) := .mk fun kp g val s X => by
  obtain ⟨a1, a2, a3⟩ := h.all
  refine wpAny_Dict_walk (knd := PySem.strKind W.prog W.w) a1 a2 h0 hlen (disp_pairs h _ _ fun ps kvs tk hc hm hl ht => ⟨kvs, hc, Heap.DictOf.new s.heap, fun h' hd hs => ?_⟩)
  rw [merged_nil_of_nodup _ (by rw [hm]; exact hn)] at hd
  obtain ⟨o, es, ep, ho, hx, hd', hk, hf⟩ := hd.mapOf
  have hfr := fresh_none s.heap
  have hgn : g s.heap.objs.size = none := by
    cases e : g s.heap.objs.size with
    | none => rfl
    | some o' => rw [X.gin _ _ e] at hfr; cases hfr
  have hne : s.heap.objs.size ≠ sysModules := by
    obtain ⟨o2, e2⟩ := hH
    have := Heap.lt_size (X.based _ _ e2)
    exact Nat.ne_of_gt (Nat.lt_trans (by decide) this)
  have keep : ∀ b ob, s.heap.get? b = some ob → h'.get? b = some ob := fun b ob e => (hs.2 b (by rintro rfl; rw [hfr] at e; cases e)).trans (Heap.get?_push_of_some _ e)
  have new : ∀ b, gadd g s.heap.objs.size o b ≠ none → g b ≠ none ∨ s.heap.get? b = none := fun b h => by
    unfold gadd at h
    by_cases hb : b = s.heap.objs.size
    · exact .inr (hb ▸ hfr)
    · rw [if_neg hb] at h; exact .inl h
  have tk1 : 1 ≤ tk + ps.length := by have := X.toks; have ht' : s.toks ≤ tk := ht; omega
  refine ⟨gadd g s.heap.objs.size o, X.grows new (gadd_sub o hgn), X.ext keep (gadd_sub o hgn) (fun b ob e => ?_) new tk1, .dict (gadd_self _ _ _) hne ⟨hx, es, ep, hd', hk, fun k => ?_⟩, ⟨rfl, rfl, rfl⟩⟩
  · unfold gadd at e
    by_cases hb : b = s.heap.objs.size
    · subst hb; rw [if_pos rfl] at e; cases e; exact ho
    · rw [if_neg hb] at e; exact keep b ob (X.gin b ob e)
  · rw [hf k]; exact hl k
end

end

section

/-! ### statements -/
inductive Out where
  | next (ρ : Ro)
  | brk (ρ : Ro)
  | ret (d : D)

noncomputable def PO (W : Wd) (F : Fm) (kp g : PHeap) (s : Shared) (out : Out) (f : Flow) (s' : Shared) : Prop :=
  ∃ g', Gr kp g g' ∧ Rst s s' ∧ match out with
    | .next ρ' => f = .next ∧ St W F kp g' ρ' s'
    | .brk ρ' => f = .brk ∧ St W F kp g' ρ' s'
    | .ret d => ∃ v, f = .ret v ∧ Rep W g' v d ∧ St W F kp g' [] s'

structure ExS (W : Wd) (F : Fm) (ρ : Ro) (st : Stmt) (out : Out) : Prop where
  run : ∀ kp g val s, StV W F kp g ρ val s → wpAny (model W.prog W.w) F.A (exec st F.env) (PO W F kp g s out) Nev s
structure ExB (W : Wd) (F : Fm) (ρ : Ro) (sts : List Stmt) (out : Out) : Prop where
  run : ∀ kp g val s, StV W F kp g ρ val s → wpAny (model W.prog W.w) F.A (execs sts F.env) (PO W F kp g s out) Nev s

section
variable {W : Wd} {F : Fm} {kp g g₁ g₂ : PHeap} {ρ ρ' : Ro} {s s₁ : Shared} {d d1 d2 : D} {ds es : List D} {v : Value} {b c : Bool} {A : Around} {i j : Int} {val : Str → Value} {x y z : Str} {pos p np apos : Pos} {out : Out}
  {st : Stmt} {sts body : List Stmt} {e test idx : Expr}

theorem PO.from {f : Flow} {s' : Shared} (G : Gr kp g g₁) (r : Rst s s₁) (h : PO W F kp g₁ s₁ out f s') : PO W F kp g s out f s' := let ⟨g', G', r', h⟩ := h; ⟨g', G.trans G', r.trans r', h⟩

theorem xb_nil : ExB W F ρ [] (.next ρ) := .mk fun kp g val s X => wpAny_execs_nil ⟨g, Gr.refl _ _, Rst.refl s, rfl, val, X⟩
theorem xb_cons (h : ExS W F ρ st (.next ρ')) (hs : ExB W F ρ' sts out) : ExB W F ρ (st :: sts) out := .mk fun kp g val s X =>
  wpAny_execs_cons (mono' (h.run kp g val s X) fun f s₁ ⟨g₁, G₁, r₁, e, val₁, X₁⟩ => by subst e; exact mono' (hs.run kp g₁ val₁ s₁ X₁) fun _ _ h => h.from G₁ r₁)
theorem xb_ret (h : ExS W F ρ st (.ret d)) : ExB W F ρ (st :: sts) (.ret d) := .mk fun kp g val s X =>
  wpAny_execs_cons (mono' (h.run kp g val s X) fun f s₁ ⟨g₁, G₁, r₁, v, e, R, X₁⟩ => by subst e; exact ⟨g₁, G₁, r₁, v, rfl, R, X₁⟩)
theorem xb_brk (h : ExS W F ρ st (.brk ρ')) : ExB W F ρ (st :: sts) (.brk ρ') := .mk fun kp g val s X =>
  wpAny_execs_cons (mono' (h.run kp g val s X) fun f s₁ ⟨g₁, G₁, r₁, e, X₁⟩ => by subst e; exact ⟨g₁, G₁, r₁, rfl, X₁⟩)
theorem xb_freeze {bb : Bool} (hx : ρ.lookup x = some (.ow bb ds)) (h : ExB W F (rset ρ x (.sh (.list ds))) sts out) : ExB W F ρ sts out := .mk fun kp g val s X => by
  obtain ⟨g', G, Y⟩ := X.freeze hx
  exact mono' (h.run kp g' val s Y) fun _ _ h => h.from G (Rst.refl s)
theorem xb_weaken (hw : ∀ x sl, ρ'.lookup x = some sl → ρ.lookup x = some sl) (h : ExB W F ρ' sts out) : ExB W F ρ sts out := .mk fun kp g val s X => h.run kp g val s (X.weaken hw)

theorem xs_assign (h : EvE W F ρ e d) (hx : CanStore F x) (hs : swapsWith e (some (.Name x p)) pos.line F.env = pure false := by rfl) : ExS W F ρ (.Assign [.Name x p] e pos) (.next (rset ρ x (.sh d))) := .mk fun kp g val s X =>
  wpAny_Assign_Name (mono' (h.run kp g val s X) fun v s₁ ⟨g₁, G₁, X₁, R₁, r₁⟩ => X₁.store hx (sl := .sh d) R₁ fun s₂ X₂ r₂ => ⟨g₁, G₁, r₁.trans r₂, rfl, _, X₂⟩) hs

theorem xs_aug {op : Operator} (h1 : ρ.lookup x = some (.sh d1)) (h2 : EvE W F ρ e d2) (ho : OpI W op d1 d2 d) (hx : CanStore F x) : ExS W F ρ (.AugAssign (.Name x p) op e pos) (.next (rset ρ x (.sh d))) := .mk fun kp g val s X =>
  wpAny_AugAssign_Name (X.load h1 (mono' (h2.run kp g val s X) fun v s₁ ⟨g₁, G₁, X₁, R₁, r₁⟩ => mono' (ho F kp g₁ ρ val s₁ (val x) v X₁ (X₁.sh _ _ h1) R₁) fun v s₂ ⟨g₂, G₂, X₂, R₂, r₂⟩ =>
    X₂.store hx (sl := .sh d) R₂ fun s₃ X₃ r₃ => ⟨g₂, G₁.trans G₂, (r₁.trans r₂).trans r₃, rfl, _, X₃⟩))

theorem xs_if {orelse : List Stmt} (ht : EvT W F ρ test b) (h : ExB W F ρ (if b then body else orelse) out) : ExS W F ρ (.If test body orelse pos) out := .mk fun kp g val s X =>
  wpAny_If (mono' (ht.run kp g val s X) fun c s₁ ⟨e, g₁, G₁, X₁, r₁⟩ => by
    subst e
    cases c with
    | true => exact mono' (h.run kp g₁ val s₁ X₁) fun _ _ h => h.from G₁ r₁
    | false => exact mono' (h.run kp g₁ val s₁ X₁) fun _ _ h => h.from G₁ r₁)
theorem xs_return (h : EvE W F ρ e d) : ExS W F ρ (.Return (some e) pos) (.ret d) := .mk fun kp g val s X =>
  wpAny_Return_some (mono' (h.run kp g val s X) fun v s₁ ⟨g₁, G₁, X₁, R₁, r₁⟩ => ⟨g₁, G₁, r₁, v, rfl, R₁, val, X₁.weaken (fun _ _ e => by cases e)⟩)
theorem xs_break : ExS W F ρ (.Break pos) (.brk ρ) := .mk fun kp g val s X => wpAny_Break ⟨g, Gr.refl _ _, Rst.refl s, rfl, val, X⟩
theorem xs_assert {msg : Option Expr} (ht : EvT W F ρ test true) : ExS W F ρ (.Assert test msg pos) (.next ρ) := .mk fun kp g val s X =>
  wpAny_Assert_holds (mono' (ht.run kp g val s X) fun c s₁ ⟨e, g₁, G₁, X₁, r₁⟩ => ⟨e, g₁, G₁, r₁, rfl, val, X₁⟩)
theorem xs_try {orelse : List Stmt} {h₀ : ExceptHandler} {hs : List ExceptHandler} (h : ExB W F ρ body (.ret d)) : ExS W F ρ (.Try body (h₀ :: hs) orelse [] pos) (.ret d) := .mk fun kp g val s X =>
  wpAny_Try_except (wpAny_mono (h.run kp g val s X) (fun f s₁ ⟨g₁, G₁, r₁, v, e, R, X₁⟩ => by subst e; exact ⟨g₁, G₁, r₁, v, rfl, R, X₁⟩) fun _ _ f => f.elim)

/-! lists of the frame's own -/
noncomputable def PF (W : Wd) (F : Fm) (kp g : PHeap) (ρ : Ro) (val : Str → Value) (s : Shared) (b : Bool) (ds : List D) (v : Value) (s' : Shared) : Prop :=
  ∃ g' a vs, v = .ref a ∧ Gr kp g g' ∧ StV W F kp g' ρ val s' ∧ OwnL b s'.heap a vs ∧ RepL W g' vs ds ∧ Off kp g' a ∧ (∀ y c es, ρ.lookup y = some (.ow c es) → val y ≠ .ref a) ∧ Rst s s'
/-- the expression gives a new list that nothing else holds -/
structure EvF (W : Wd) (F : Fm) (ρ : Ro) (e : Expr) (b : Bool) (ds : List D) : Prop where
  run : ∀ kp g val s, StV W F kp g ρ val s → wpAny (model W.prog W.w) F.A (eval e F.env) (PF W F kp g ρ val s b ds) Nev s

theorem PF.alloc {vs : List Value} {tk : Nat} (X : StV W F kp g ρ val s) (r : RepL W g vs ds) (ht : 1 ≤ tk) :
    PF W F kp g ρ val s true ds (.ref s.heap.objs.size) { s with heap := s.heap.push { cls := .type "list", data := .seq vs.toArray }, toks := tk } := by
  have hfr := fresh_none s.heap
  have hkn : kp s.heap.objs.size = none := by
    cases e : kp s.heap.objs.size with
    | none => rfl
    | some o' => rw [X.keep _ _ e] at hfr; cases hfr
  have hgn : g s.heap.objs.size = none := by
    cases e : g s.heap.objs.size with
    | none => rfl
    | some o' => rw [X.gin _ _ e] at hfr; cases hfr
  have hp : (s.heap.push { cls := .type "list", data := .seq vs.toArray }).PlainList s.heap.objs.size vs.toArray := ⟨_, Heap.get?_push_size _ rfl⟩
  refine ⟨g, _, vs, rfl, Gr.refl _ _, X.pushed _ ht, ⟨hp.isList, fun _ => hp⟩, r, ⟨hkn, hgn⟩, fun y c es e q => ?_, ⟨rfl, rfl, rfl⟩⟩
  obtain ⟨a, ws, e1, e2, _⟩ := X.ow y c es e
  rw [q] at e1
  cases e1
  obtain ⟨⟨o, ho, _⟩, _⟩ := e2
  rw [hfr] at ho; cases ho

theorem PF.from {b : Bool} {s' : Shared} (G : Gr kp g g₁) (r : Rst s s₁) (h : PF W F kp g₁ ρ val s₁ b ds v s') : PF W F kp g ρ val s b ds v s' := let ⟨g', a, vs, e, G', X, o, R, f, q, r'⟩ := h; ⟨g', a, vs, e, G.trans G', X, o, R, f, q, r.trans r'⟩

theorem ef_list {es' : List Expr} (h : EvL W F ρ es' ds) (hn : ds.length ≤ 1000) : EvF W F ρ (.List es' pos) true ds := .mk fun kp g val s X =>
  wpAny_List (mono' (h.2 kp g val s pos X) fun vs s₁ ⟨g₁, G₁, X₁, R₁, r₁⟩ => ⟨by rw [R₁.length, sizeLine_eq]; omega, (PF.alloc (tk := s₁.toks) X₁ R₁ X₁.toks).from G₁ r₁⟩)

theorem ef_split {o sep : Expr} (ho : EvE W F ρ o (.str x)) (hs : EvE W F ρ sep (.str y)) (hy : (y.length == 0) = false) (hx : x.length ≤ 1000000)
    (hb : attributeBase o "split" F.env (eval o F.env) = eval o F.env := by rfl) (hst : starEach [sep] F.env = [(false, eval sep F.env)] := by exact star_of rfl)
    (hfew : ((backTo pos (starEach [sep] F.env)).all (fun x => !x.1) && (backToKw pos (keywordEach [] F.env)).all (fun x => x.1.isSome)
      && decide ([sep].length + ([] : List Keyword).length + (if ([] : List Keyword).isEmpty then 0 else 1) < 30)) = true := by rfl)
    (hline : (apos.endLine == pos.line) = true := by rfl) : EvF W F ρ (.Call (.Attribute o "split" apos) [sep] [] pos) true ((Txt.split x y).map .str) := .mk fun kp g val s X => by
  have ha : EvL W F ρ [sep] [.str y] := el_cons hs el_nil hst
  refine wpAny_Call_method hb hfew hline PySem.F.plainAttrs_str PySem.F.slot_str_split PySem.F.type_str_split (mono' (ho.run kp g val s X) fun ov s₁ ⟨g₁, G₁, X₁, R₁, r₁⟩ => ?_)
  obtain ⟨t, rfl⟩ := repStr R₁
  refine ⟨typeIs_str _ _ _, fun a e => by (cases e), ?_⟩
  refine Calls.callWith_builtin (plain_any (plain_back ha.1)) (wp_evalArgs (plain_back ha.1) (mono' (ha.2 kp g₁ val s₁ pos X₁) fun vs s₂ ⟨g₂, G₂, X₂, R₂, r₂⟩ => ?_))
  obtain ⟨u, rfl, h1⟩ := inv1 R₂
  obtain ⟨t', rfl⟩ := repStr h1
  refine wpAny_with_toks (n := 1) X₂.toks (wp_split hy (fun l k e hk => ?_) (by rw [sizeLine_eq]; omega))
  rw [← e]
  exact (PF.alloc X₂ (rep_strs g₂ l) hk).from (G₁.trans G₂) (r₁.trans r₂)

theorem xs_assignF (h : EvF W F ρ e b ds) (hx : CanStore F x) (hs : swapsWith e (some (.Name x p)) pos.line F.env = pure false := by rfl) : ExS W F ρ (.Assign [.Name x p] e pos) (.next (rset ρ x (.ow b ds))) := .mk fun kp g val s X =>
  wpAny_Assign_Name (mono' (h.run kp g val s X) fun v s₁ ⟨g₁, a, vs, ea, G₁, X₁, o, R₁, f, q, r₁⟩ => X₁.store hx (sl := .ow b ds) ⟨a, vs, ea, o, R₁, f, fun y c es _ => q y c es⟩ fun s₂ X₂ r₂ => ⟨g₁, G₁, r₁.trans r₂, rfl, _, X₂⟩) hs

theorem xs_append (hx : ρ.lookup x = some (.ow true ds)) (he : EvE W F ρ e d) (hn : ds.length ≤ 1000)
    (hst : starEach [e] F.env = [(false, eval e F.env)] := by exact star_of rfl) (hline : (apos.endLine == p.line) = true := by rfl)
    (hfew : ((backTo p (starEach [e] F.env)).all (fun x => !x.1) && (backToKw p (keywordEach [] F.env)).all (fun x => x.1.isSome)
      && decide ([e].length + ([] : List Keyword).length + (if ([] : List Keyword).isEmpty then 0 else 1) < 30)) = true := by rfl)
    (hd : (x == ("__debug__" : Str)) = false := by decide) (hi : interactive F.env = false := by rfl) :
    ExS W F ρ (.Expr (.Call (.Attribute (.Name x np) "append" apos) [e] [] p) pos) (.next (rset ρ x (.ow true (ds ++ [d])))) := .mk fun kp g val s X => by
  have ha : EvL W F ρ [e] [d] := el_cons he el_nil hst
  refine wpAny_Expr ?_ hi rfl
  refine wpAny_Call_method rfl hfew hline PySem.F.plainAttrs_list PySem.F.slot_list_append PySem.F.type_list_append (wpAny_Name (X.load hx ?_) hd)
  obtain ⟨a, vs, ea, ho, hr⟩ := X.owned hx
  rw [ea]
  refine ⟨ho.1.typeIs, fun a' e => ?_, ?_⟩
  · cases e
    obtain ⟨n, hp⟩ := ho.2 rfl
    exact ⟨_, hp, rfl⟩
  refine Calls.callWith_builtin (plain_any (plain_back ha.1)) (wp_evalArgs (plain_back ha.1) (mono' (ha.2 kp g val s p X) fun us s₂ ⟨g₂, G₂, X₂, R₂, r₂⟩ => ?_))
  obtain ⟨u, rfl, h1⟩ := inv1 R₂
  obtain ⟨a', vs', ea', ho', hr'⟩ := X₂.owned hx
  rw [ea] at ea'; cases ea'
  have hl := hr'.length
  refine wpAny_list_append_plain (ho'.2 rfl) (fun h' hp hs => ?_) (by rw [List.size_toArray, sizeLine_eq]; omega)
  have e2 : vs'.toArray.push u = (vs' ++ [u]).toArray := by simp
  rw [e2] at hp
  exact ⟨g₂, G₂, r₂.trans ⟨rfl, rfl, rfl⟩, rfl, _, X₂.mutate (tk := s₂.toks) X₂.toks hx ea hs ⟨hp.isList, fun _ => hp⟩ (hr'.append (.one h1))⟩

theorem xs_setitem {k : Int} {bb : Bool} (hx : ρ.lookup x = some (.ow bb ds)) (hi : EvE W F ρ idx (.int k)) (he : EvE W F ρ e d) (h0 : 0 ≤ k) (h1 : k < ds.length) (hn : ds.length ≤ 1000)
    (hd : (x == ("__debug__" : Str)) = false := by decide) (hs : swapsWith e (some (.Subscript (.Name x np) idx p)) pos.line F.env = pure false := by rfl) :
    ExS W F ρ (.Assign [.Subscript (.Name x np) idx p] e pos) (.next (rset ρ x (.ow false (ds.set k.toNat d)))) := .mk fun kp g val s X => by
  refine wpAny_Assign_Subscript (mono' (he.run kp g val s X) fun v s₁ ⟨g₁, G₁, X₁, R₁, r₁⟩ => wpAny_Name (X₁.load hx (mono' (hi.run kp g₁ val s₁ X₁) fun iv s₂ ⟨g₂, G₂, X₂, R₂, r₂⟩ => ?_)) hd) hs
  obtain ⟨t, rfl⟩ := repInt R₂
  obtain ⟨a, vs, ea, ho, hr⟩ := X₂.owned hx
  rw [ea]
  have hl := hr.length
  refine wpAny_setItem_list ho.1 h0 (by omega) (by rw [List.size_toArray]; omega) fun h' hl' hs' => ?_
  have e2 : vs.toArray.setIfInBounds k.toNat v = (vs.set k.toNat v).toArray := by simp
  rw [e2] at hl'
  exact ⟨g₂, G₁.trans G₂, (r₁.trans r₂).trans ⟨rfl, rfl, rfl⟩, rfl, _, X₂.mutate (tk := s₂.toks) X₂.toks hx ea hs' ⟨hl', fun e => by cases e⟩ (hr.set _ (R₁.mono G₂.1))⟩

theorem xs_del {k : Int} {j : Nat} (hx : ρ.lookup x = some (.ow true ds)) (hi : EvE W F ρ idx (.int k)) (hk : seqIndex? k ds.length = some j) (hb : Builtin.List.listFitsIndex k = true) (hn : ds.length ≤ 1000)
    (hd : (x == ("__debug__" : Str)) = false := by decide) : ExS W F ρ (.Delete [.Subscript (.Name x np) idx p] pos) (.next (rset ρ x (.ow true (ds.eraseIdx j)))) := .mk fun kp g val s X => by
  refine wpAny_Delete (wpAny_deleteEach_cons (wpAny_delete_Subscript (wpAny_Name (X.load hx (mono' (hi.run kp g val s X) fun iv s₂ ⟨g₂, G₂, X₂, R₂, r₂⟩ => ?_)) hd)))
  obtain ⟨t, rfl⟩ := repInt R₂
  obtain ⟨a, vs, ea, ho, hr⟩ := X₂.owned hx
  rw [ea]
  have hl := hr.length
  refine wpAny_delItem_plain (ho.2 rfl) hb (k := j) (by rw [List.size_toArray, hl]; exact hk) (fun h' hp hs => ?_) (by rw [List.size_toArray, sizeLine_eq]; omega)
  have e2 : vs.toArray.eraseIdxIfInBounds j = (vs.eraseIdx j).toArray := by simp
  rw [e2] at hp
  exact wpAny_deleteEach_nil ⟨g₂, G₂, r₂.trans ⟨rfl, rfl, rfl⟩, rfl, _, X₂.mutate (tk := s₂.toks) X₂.toks hx ea hs ⟨hp.isList, fun _ => hp⟩ (hr.eraseIdx _)⟩

/-- len of a list of the frame's own -/
theorem ev_lenow {f : Expr} {bb : Bool} {xp fp : Pos} (hx : ρ.lookup x = some (.ow bb ds)) (hf : EvE W F ρ (.Name y fp) (.obj (.builtin "len"))) (hn : ds.length ≤ 1000) (hd : (x == ("__debug__" : Str)) = false := by decide) :
    EvE W F ρ (.Call (.Name y fp) [.Name x xp] [] pos) (.int ds.length) := .mk fun kp g val s X => by
  refine wpAny_Call_ofName (mono' (hf.run kp g val s X) fun fv s₁ ⟨g₁, G₁, X₁, R₁, r₁⟩ => ?_)
  cases R₁
  show wpAny _ _ (callWith pos (.builtin "len") [] (backTo pos (starEach [.Name x xp] F.env)) []) _ _ _
  refine Calls.callWith_builtin rfl (Calls.evalArgs_plain (Calls.spliced_cons (wpAny_Name (X₁.load hx (Calls.spliced_nil ?_)) hd)))
  obtain ⟨a, vs, ea, ho, hr⟩ := X₁.owned hx
  rw [ea]
  have hl := hr.length
  refine Calls.call_len_list ho.1 (by rw [List.size_toArray]; omega) ?_
  rw [List.size_toArray, hl]
  exact (PE.now X₁ (.int _ _) (Nat.le_add_left _ _)).from G₁ r₁

end

end

section

/-! ### walks over lists, ranges, texts -/
noncomputable def rangeDs (a : Int) (n : Nat) : List D := (List.range n).map fun k : Nat => D.int (a + (k : Int))
noncomputable def signDs (x : Str) : List D := x.cps.toList.map fun c => D.str ⟨#[c]⟩

theorem rangeDs_succ (a : Int) (n : Nat) : rangeDs a (n + 1) = .int a :: rangeDs (a + 1) n := by
  unfold rangeDs
  rw [List.range_succ_eq_map, List.map_cons, List.map_map]
  congr 1
  · simp
  · apply List.map_congr_left
    intro k _
    show D.int _ = D.int _
    congr 1
    push_cast
    omega

inductive Iter : D → List D → Prop
  | list (ds : List D) : Iter (.list ds) ds
  | range (a b : Int) : Iter (.range a b) (rangeDs a (b - a).toNat)
  | str (x : Str) : Iter (.str x) (signDs x)

inductive ItAt (W : Wd) (g : PHeap) (h : Heap) (I : Addr) : List D → Prop
  | list {l : Addr} {i : Nat} {vs : List Value} {ds : List D} : h.IsListIter I l i → SeqAt g "list" l vs → RepL W g (vs.drop i) ds → l ≠ I → ItAt W g h I ds
  | range {a : Int} {n : Nat} : IsRangeIter h I a n 1 → ItAt W g h I (rangeDs a n)
  | ascii {x : Str} {t : Tok} {i : Nat} : h.IsStrIter I "str_ascii_iterator" x t i → ItAt W g h I ((signDs x).drop i)
  | wide {x : Str} {t : Tok} {i : Nat} : h.IsStrIter I "str_iterator" x t i → ItAt W g h I ((signDs x).drop i)

theorem ItAt.obj {W : Wd} {g : PHeap} {h : Heap} {I : Addr} {ds : List D} (X : ItAt W g h I ds) : ∃ o, h.get? I = some o ∧ ∃ vs, o.data = .fields vs := by
  cases X with
  | list h1 => obtain ⟨o, e, _, d⟩ := h1; exact ⟨o, e, _, d⟩
  | range h1 => exact ⟨_, h1, _, rfl⟩
  | ascii h1 => obtain ⟨o, e, _, d⟩ := h1; exact ⟨o, e, _, d⟩
  | wide h1 => obtain ⟨o, e, _, d⟩ := h1; exact ⟨o, e, _, d⟩

theorem ItAt.mono {W : Wd} {g g' : PHeap} {h h' : Heap} {I : Addr} {ds : List D} (X : ItAt W g h I ds) (hg : Sub g g') (hk : ∀ o, h.get? I = some o → h'.get? I = some o) : ItAt W g' h' I ds := by
  cases X with
  | list h1 h2 h3 h4 => exact .list (h1.at hk) (h2.mono hg) (h3.mono hg) h4
  | range h1 => exact .range (hk _ h1)
  | ascii h1 => obtain ⟨o, e, r⟩ := h1; exact .ascii ⟨o, hk _ e, r⟩
  | wide h1 => obtain ⟨o, e, r⟩ := h1; exact .wide ⟨o, hk _ e, r⟩

section
variable {W : Wd} {F : Fm} {kp g g₁ g₂ : PHeap} {ρ ρ' : Ro} {s s₁ : Shared} {d d1 d2 : D} {ds es : List D} {v : Value} {b c : Bool} {A : Around} {i j : Int} {val : Str → Value} {x y z : Str} {pos p np apos : Pos} {out : Out}
  {st : Stmt} {sts body : List Stmt} {e test idx iter : Expr} {I : Addr} {o o' : Obj}

/-- a walk stands at I, and everything else of the frame beside it -/
structure Walk (W : Wd) (F : Fm) (kp g : PHeap) (ρ : Ro) (val : Str → Value) (s : Shared) (I : Addr) (ds : List D) : Prop where
  base : ∀ b o, W.H.get? b = some o → kp b = some o
  it : ItAt W g s.heap I ds
  H : W.H.get? I = none
  st : ∃ o, StV W F (kset kp I o) g ρ val s ∧ ∃ vs, o.data = .fields vs
  gn : g I = none
  kn : kp I = none

theorem StV.kend (X : StV W F (kset kp I o) g ρ val s) (hb : ∀ b o, W.H.get? b = some o → kp b = some o) (hk : kp I = none) (hg : g I = none) (hoc : ∀ v, o.data ≠ .cell v) {h' : Heap} {tk : Nat} (ht : 1 ≤ tk)
    (hs : ∀ b ob, b ≠ I → s.heap.get? b = some ob → h'.get? b = some ob) : StV W F kp g ρ val { s with heap := h', toks := tk } := by
  have ne : ∀ z, Off (kset kp I o) g z → z ≠ I := fun z q e => by have := q.1; rw [e, kset_self] at this; cases this
  have off : ∀ z, Off (kset kp I o) g z → Off kp g z := fun z q => ⟨by
    have := q.1
    unfold kset at this
    rw [if_neg (ne z q)] at this; exact this, q.2⟩
  obtain ⟨m, hm⟩ := X.ns
  have hL := ne _ X.loff
  refine ⟨X.ok, hb, fun b ob e => ?_, fun b ob e => hs b ob (by rintro rfl; rw [hg] at e; cases e) (X.gin b ob e), ⟨m, hm.at' fun o e => hs _ o hL e⟩, fun c hc => ?_, fun x t e => ?_, X.sh,
    fun x b ds e => ?_, off _ X.loff, fun c hc => off c (X.coff c hc), X.apart, ht, fun p hp => ?cA⟩
  case cA =>
    obtain ⟨v, ob, q1, q2⟩ := X.cellA p hp
    refine ⟨v, ob, hs p.2 ob ?_ q1, q2⟩
    intro e
    rw [e, X.keep I o kset_self] at q1
    cases q1
    exact hoc _ q2
  · have h1 : b ≠ I := by rintro rfl; rw [hk] at e; cases e
    exact hs b ob h1 (X.keep b ob (by unfold kset; rw [if_neg h1]; exact e))
  · obtain ⟨v, ob, q1, q2⟩ := X.cell c hc
    exact ⟨v, ob, hs c ob (ne c (X.coff c hc)) q1, q2⟩
  · rcases X.var x t e with ⟨kl, m₂, hn₂, hv₂⟩ | ⟨kl, c, hc, ob, q1, q2⟩
    · exact .inl ⟨kl, m₂, hn₂.at' fun o e => hs _ o hL e, hv₂⟩
    · refine .inr ⟨kl, c, hc, ob, ?_, q2⟩
      by_cases hcI : c = I
      · subst hcI
        rw [X.keep c o kset_self] at q1
        cases q1
        exact absurd q2 (hoc _)
      · exact hs c ob hcI q1
  · obtain ⟨a, vs, e1, e2, e3, e4⟩ := X.ow x b ds e
    exact ⟨a, vs, e1, e2.at fun o q => hs a o (ne a e4) q, e3, off a e4⟩

theorem fields_noCell {o : Obj} (h : ∃ vs, o.data = .fields vs) : ∀ v, o.data ≠ .cell v := fun v e => by obtain ⟨vs, h⟩ := h; rw [h] at e; cases e

theorem walk_touch (X : Walk W F kp g ρ val s I ds) {h' : Heap} {tk : Nat} (ht : 1 ≤ tk) (hs : Heap.SameBut I s.heap h') {ds' : List D} (it : ItAt W g h' I ds') : Walk W F kp g ρ val { s with heap := h', toks := tk } I ds' := by
  obtain ⟨o, Y, q⟩ := X.st
  obtain ⟨o', e', q'⟩ := it.obj
  exact ⟨X.base, it, X.H, ⟨o', Y.ktouch X.kn X.gn X.H (fields_noCell q) ht (fun b ob hb e => (hs.2 b hb).trans e) e', q'⟩, X.gn, X.kn⟩

theorem Walk.toks (X : Walk W F kp g ρ val s I ds) : 1 ≤ s.toks := let ⟨_, Y, _⟩ := X.st; Y.toks
theorem Walk.hd (X : Walk W F kp g ρ val s I ds) : F.A.handled = none := let ⟨_, Y, _⟩ := X.st; Y.hd
theorem Walk.gin (X : Walk W F kp g ρ val s I ds) : ∀ b o, g b = some o → s.heap.get? b = some o := let ⟨_, Y, _⟩ := X.st; Y.gin

theorem walk_next (X : Walk W F kp g ρ val s I (d :: ds)) :
    wpAny (model W.prog W.w) F.A (pyNext (.ref I)) (fun r s' => ∃ v, r = some v ∧ Rep W g v d ∧ Walk W F kp g ρ val s' I ds ∧ Rst s s') Nev s := by
  generalize hD : d :: ds = D0 at X
  have it := X.it
  cases it with
  | @list l i vs _ h1 h2 h3 h4 =>
    subst hD
    cases hv : vs.drop i with
    | nil => rw [hv] at h3; cases h3
    | cons v rest =>
      rw [hv] at h3
      cases h3 with
      | cons hr hrs =>
        have hi : vs[i]? = some v := by rw [← List.head?_drop, hv]; rfl
        have hdrop : vs.drop (i + 1) = rest := by rw [← List.tail_drop, hv]; rfl
        refine wpAny_pyNext_list_item h1 (isList_of h2 X.gin) (x := v) (by simpa using hi) fun h' hit hs => ?_
        exact ⟨v, rfl, hr, walk_touch (tk := s.toks) X X.toks hs (.list hit h2 (by rw [hdrop]; exact hrs) h4), ⟨rfl, rfl, rfl⟩⟩
  | @range a n h1 =>
    cases n with
    | zero => simp [rangeDs] at hD
    | succ n =>
      rw [rangeDs_succ] at hD
      cases hD
      refine wpAny_pyNext_range_item h1 (by omega) fun h' hit hs => ?_
      refine ⟨_, rfl, .int _ _, walk_touch X (Nat.le_add_left _ _) hs (.range (a := a + 1) (n := n) ?_), ⟨rfl, rfl, rfl⟩⟩
      have e : ((n + 1 : Nat) : Int) - 1 = (n : Int) := by omega
      rw [e] at hit
      exact hit
  | @ascii x t i h1 =>
    have hi : (signDs x)[i]? = some d := by rw [← List.head?_drop, ← hD]; rfl
    have hdrop : (signDs x).drop (i + 1) = ds := by rw [← List.tail_drop, ← hD]; rfl
    unfold signDs at hi
    rw [List.getElem?_map] at hi
    cases hc : x.cps.toList[i]? with
    | none => rw [hc] at hi; cases hi
    | some c =>
      rw [hc] at hi
      cases hi
      refine wpAny_pyNext_ascii_item h1 (c := c) (by simpa using hc) fun h' hit hs => ?_
      refine ⟨_, rfl, .str _ _, walk_touch X (Nat.le_add_left _ _) hs ?_, ⟨rfl, rfl, rfl⟩⟩
      rw [← hdrop]; exact .ascii hit
  | @wide x t i h1 =>
    have hi : (signDs x)[i]? = some d := by rw [← List.head?_drop, ← hD]; rfl
    have hdrop : (signDs x).drop (i + 1) = ds := by rw [← List.tail_drop, ← hD]; rfl
    unfold signDs at hi
    rw [List.getElem?_map] at hi
    cases hc : x.cps.toList[i]? with
    | none => rw [hc] at hi; cases hi
    | some c =>
      rw [hc] at hi
      cases hi
      refine wpAny_pyNext_wide_item h1 (c := c) (by simpa using hc) fun h' hit hs => ?_
      refine ⟨_, rfl, .str _ _, walk_touch X (Nat.le_add_left _ _) hs ?_, ⟨rfl, rfl, rfl⟩⟩
      rw [← hdrop]; exact .wide hit

theorem walk_end (X : Walk W F kp g ρ val s I []) :
    wpAny (model W.prog W.w) F.A (pyNext (.ref I)) (fun r s' => r = none ∧ StV W F kp g ρ val s' ∧ Rst s s') Nev s := by
  generalize hD : ([] : List D) = D0 at X
  obtain ⟨o, Y, q⟩ := X.st
  have fin : ∀ h', Heap.ExtBut I s.heap h' → (none : Option Value) = none ∧ StV W F kp g ρ val { s with heap := h' } ∧ Rst s { s with heap := h' } := fun h' he =>
    ⟨rfl, Y.kend (tk := s.toks) X.base X.kn X.gn (fields_noCell q) X.toks he, ⟨rfl, rfl, rfl⟩⟩
  have it := X.it
  cases it with
  | @list l i vs _ h1 h2 h3 h4 =>
    subst hD
    cases hv : vs.drop i with
    | cons v rest => rw [hv] at h3; cases h3
    | nil =>
      have hi : vs[i]? = none := by rw [← List.head?_drop, hv]; rfl
      exact wpAny_pyNext_list_end X.hd h1 (isList_of h2 X.gin) (by simpa using hi) fun h' he => fin h' he
  | @range a n h1 =>
    cases n with
    | succ n => rw [rangeDs_succ] at hD; cases hD
    | zero => exact wpAny_pyNext_range_end X.hd h1 (by omega) fun h' he => fin h' he
  | @ascii x t i h1 =>
    have hi : (signDs x)[i]? = none := by rw [← List.head?_drop, ← hD]; rfl
    have hc : x.cps.toList[i]? = none := by
      unfold signDs at hi
      rw [List.getElem?_map] at hi
      cases hc : x.cps.toList[i]? with
      | none => rfl
      | some c => rw [hc] at hi; cases hi
    exact wpAny_pyNext_ascii_end X.hd h1 (by simpa using hc) fun h' he => fin h' he
  | @wide x t i h1 =>
    have hi : (signDs x)[i]? = none := by rw [← List.head?_drop, ← hD]; rfl
    have hc : x.cps.toList[i]? = none := by
      unfold signDs at hi
      rw [List.getElem?_map] at hi
      cases hc : x.cps.toList[i]? with
      | none => rfl
      | some c => rw [hc] at hi; cases hi
    exact wpAny_pyNext_wide_end X.hd h1 (by simpa using hc) fun h' he => fin h' he

theorem walk_self (X : Walk W F kp g ρ val s I ds) {Q : Value → Shared → Prop} (h : Q (.ref I) s) : wpAny (model W.prog W.w) F.A (pyIter (.ref I)) Q Nev s := by
  have it := X.it
  cases it with
  | list h1 => exact wpAny_pyIter_listiter h1 h
  | range h1 => exact wpAny_pyIter_rangeiter h1 h
  | ascii h1 => exact wpAny_pyIter_striter_ascii h1 h
  | wide h1 => exact wpAny_pyIter_striter_wide h1 h

theorem walk_made {vs : Array Value} {cl : String} (X : StV W F kp g ρ val s) (it : ItAt W g (s.heap.push { cls := .type cl, data := .fields vs }) s.heap.objs.size ds) :
    Walk W F kp g ρ val { s with heap := s.heap.push { cls := .type cl, data := .fields vs } } s.heap.objs.size ds := by
  obtain ⟨Y, h1, h2⟩ := X.pushK (tk := s.toks) { cls := .type cl, data := .fields vs } rfl X.toks
  refine ⟨X.base, it, ?_, ⟨_, Y, vs, rfl⟩, h2, h1⟩
  cases e : W.H.get? s.heap.objs.size with
  | none => rfl
  | some o => rw [X.base _ _ e] at h1; cases h1

theorem walk_make (X : StV W F kp g ρ val s) (R : Rep W g v d) (hi : Iter d ds) (hr : ∀ a b, d = .range a b → Builtin.Range.small a b 1 = true) :
    wpAny (model W.prog W.w) F.A (pyIter v) (fun it s' => ∃ I, it = .ref I ∧ Walk W F kp g ρ val s' I ds ∧ Rst s s') Nev s := by
  cases hi with
  | list ds =>
    cases R with
    | @list l vs _ H r =>
      refine wpAny_pyIter_list (isList_of H X.gin) ⟨_, rfl, walk_made X (.list ⟨_, Heap.get?_push_size _ rfl, rfl, rfl⟩ H (by simpa using r) ?_), ⟨rfl, rfl, rfl⟩⟩
      obtain ⟨o, e, _⟩ := H
      exact Nat.ne_of_lt (Heap.lt_size (X.gin _ _ e))
  | range a b =>
    cases R with
    | @range r _ _ t u v' e =>
      refine wpAny_pyIter_range (X.gin _ _ e) (hr a b rfl) ⟨_, rfl, walk_made X ?_, ⟨rfl, rfl, rfl⟩⟩
      have q := rangeSize_one a b
      rw [q]
      refine .range (a := a) (n := (b - a).toNat) ?_
      have e2 : (((b - a).toNat : Nat) : Int) = if a < b then b - a else 0 := by split <;> omega
      rw [← e2]
      exact Heap.get?_push_size _ rfl
  | str x =>
    obtain ⟨t, rfl⟩ := repStr R
    cases ha : x.cps.all (· < 128)
    · refine wpAny_pyIter_wide ha ⟨_, rfl, walk_made X (ds := signDs x) ?_, ⟨rfl, rfl, rfl⟩⟩
      exact (ItAt.wide (W := W) (g := g) (x := x) (t := t) (i := 0) ⟨_, Heap.get?_push_size _ rfl, rfl, rfl⟩)
    · refine wpAny_pyIter_ascii ha ⟨_, rfl, walk_made X (ds := signDs x) ?_, ⟨rfl, rfl, rfl⟩⟩
      exact (ItAt.ascii (W := W) (g := g) (x := x) (t := t) (i := 0) ⟨_, Heap.get?_push_size _ rfl, rfl, rfl⟩)

end

end

section

/-- what is handed on from a loop: its break is its end -/
noncomputable def Out.loop : Out → Out
  | .brk ρ => .next ρ
  | o => o

noncomputable def PR (W : Wd) (F : Fm) (kp g : PHeap) (s : Shared) (out : Out) (r : Result) (s' : Shared) : Prop := ∃ f, r = .ok f ∧ PO W F kp g s out f s'

/-- the loop over what is left -/
structure ForL (W : Wd) (F : Fm) (ρ : Ro) (x : Str) (p : Pos) (body : List Stmt) (ds : List D) (out : Out) : Prop where
  run : ∀ kp g val s I, Walk W F kp g ρ val s I ds → codeAny (model W.prog W.w) F.A (.forLoop (.Name x p) (.ref I) body [] F.env) (PR W F kp g s out) s

section
variable {W : Wd} {F : Fm} {kp g g₁ g₂ : PHeap} {ρ ρ' : Ro} {s s₁ : Shared} {d d1 d2 : D} {ds es : List D} {v : Value} {b c : Bool} {A : Around} {i j : Int} {val : Str → Value} {x y z : Str} {pos p np apos : Pos} {out : Out}
  {st : Stmt} {sts body : List Stmt} {e test idx iter : Expr} {I : Addr} {o o' : Obj}

theorem nev {α : Type} {M : Model} {t : Sem α} {Q : α → Shared → Prop} {E : Value → Shared → Prop} (h : wpAny M A t Q Nev s) : wpAny M A t Q E s := wpAny_mono h (fun _ _ x => x) fun _ _ f => f.elim

theorem for_step {prog : Program} {w : World} {R : Result → Shared → Prop} {it : Value} {env : Env} (h : wpAny (model prog w) A (pyNext it) (fun r s₁ => match r with
    | none => R (.ok .next) s₁
    | some v => wpAny (model prog w) A (assign (.Name x p) env v) (fun _ s₂ => wpAny (model prog w) A (execs body env) (fun f s₃ => match f with
        | .next | .cont => codeAny (model prog w) A (.forLoop (.Name x p) it body [] env) R s₃
        | .brk => R (.ok .next) s₃
        | .ret v => R (.ok (.ret v)) s₃) Nev s₂) Nev s₁) Nev s) : codeAny (model prog w) A (.forLoop (.Name x p) it body [] env) R s := by
  refine codeAny_of_tree ?_
  show wpAny _ A ((forTurn (.Name x p) it body [] env).onRaise (fun x => do noteFrame x env; theTreesLotGoes x)) _ _ s
  refine wpAny_noted (nev ?_)
  simp only [forTurn]
  refine wpAny_bind (wpAny_standAt (wpAny_bind (wpAny_onRaise (wpAny_mono h (fun r s₁ h₁ => ?_) fun _ _ f => f.elim))))
  cases r with
  | none => exact wpAny_pure ⟨rfl, codeAny_block (wpAny_execs_nil h₁)⟩
  | some v =>
    refine wpAny_bind (wpAny_of_eq (show letOwnedTupleGo (.Name x p) it v = pure () from rfl) ?_)
    refine wpAny_bind (wpAny_mono h₁ (fun _ s₂ h₂ => wpAny_bind (wpAny_mono h₂ (fun f s₃ h₃ => ?_) fun _ _ f => f.elim)) fun _ _ f => f.elim)
    cases f with
    | next => exact wpAny_pure ⟨rfl, h₃⟩
    | cont => exact wpAny_pure ⟨rfl, h₃⟩
    | brk => exact wpAny_pure h₃
    | ret v => exact wpAny_pure h₃

theorem forl_nil : ForL W F ρ x p body [] (.next ρ) := .mk fun kp g val s I X =>
  for_step (mono' (walk_end X) fun r s₁ ⟨e, Y, r₁⟩ => by subst e; exact ⟨.next, rfl, g, Gr.refl _ _, r₁, rfl, val, Y⟩)

theorem Gr.off {I : Addr} (G : Gr (kset kp I o) g g') (hg : g I = none) : g' I = none := by
  cases e : g' I with
  | none => rfl
  | some o' => rcases G.2 I (by rw [e]; exact nofun) with h | h
               · exact absurd hg h
               · rw [kset_self] at h; cases h

/-- one turn, from behind the step of the walk -/
theorem turn_store {Q : Unit → Shared → Prop} (X : Walk W F kp g ρ val s I ds) (hx : CanStore F x) (R : Rep W g v d)
    (h : ∀ s', Walk W F kp g (rset ρ x (.sh d)) (vset val x v) s' I ds → Rst s s' → Q () s') : wpAny (model W.prog W.w) F.A (assign (.Name x p) F.env v) Q Nev s := by
  obtain ⟨o, Y, q⟩ := X.st
  refine wpAny_assign_Name (Y.store hx (sl := .sh d) R fun s' Z r => h s' ⟨X.base, X.it.mono (Sub.refl g) fun o₂ e₂ => ?_, X.H, ⟨o, Z, q⟩, X.gn, X.kn⟩ r)
  have e1 := Y.keep I o kset_self
  rw [e1] at e₂; cases e₂
  exact Z.keep I o kset_self

theorem forl_body (hx : CanStore F x) (R : Rep W g v d) (X : Walk W F kp g ρ val s I ds) (hb : ExB W F (rset ρ x (.sh d)) body out) {Q : Flow → Shared → Prop}
    (hQ : ∀ f s' g', Gr kp g g' → Rst s s' → (match out with
      | .next ρ' => f = .next ∧ ∃ val', Walk W F kp g' ρ' val' s' I ds
      | .brk ρ' => f = .brk ∧ St W F kp g' ρ' s'
      | .ret d => ∃ v, f = .ret v ∧ Rep W g' v d ∧ St W F kp g' [] s') → Q f s') :
    wpAny (model W.prog W.w) F.A (assign (.Name x p) F.env v) (fun _ s₂ => wpAny (model W.prog W.w) F.A (execs body F.env) Q Nev s₂) Nev s := by
  refine turn_store X hx R fun s₂ X₂ r₂ => ?_
  obtain ⟨o, Y, q⟩ := X₂.st
  refine mono' (hb.run _ _ _ _ Y) fun f s₃ ⟨g₃, G₃, r₃, h⟩ => ?_
  have G : Gr kp g g₃ := G₃.weaken (sub_kset X.kn)
  have gI : g₃ I = none := G₃.off X.gn
  have e1 := Y.keep I o kset_self
  refine hQ f s₃ g₃ G (r₂.trans r₃) ?_
  cases out with
  | next ρ' =>
    obtain ⟨e, val', Z⟩ := h
    refine ⟨e, val', X.base, X₂.it.mono G₃.1 fun o₂ e₂ => ?_, X.H, ⟨o, Z, q⟩, gI, X.kn⟩
    rw [e1] at e₂; cases e₂
    exact Z.keep I o kset_self
  | brk ρ' =>
    obtain ⟨e, val', Z⟩ := h
    exact ⟨e, val', Z.kend (tk := s₃.toks) X.base X.kn gI (fields_noCell q) Z.toks fun _ _ _ e => e⟩
  | ret d =>
    obtain ⟨v, e, R, val', Z⟩ := h
    exact ⟨v, e, R, val', Z.kend (tk := s₃.toks) X.base X.kn gI (fields_noCell q) Z.toks fun _ _ _ e => e⟩

theorem forl_cons (hx : CanStore F x) (hb : ExB W F (rset ρ x (.sh d)) body (.next ρ')) (hr : ForL W F ρ' x p body ds out) : ForL W F ρ x p body (d :: ds) out := .mk fun kp g val s I X =>
  for_step (mono' (walk_next X) fun r s₁ ⟨v, e, R, Y, r₁⟩ => by
    subst e
    refine forl_body hx R Y hb fun f s₂ g₂ G₂ r₂ h => ?_
    obtain ⟨rfl, val', Z⟩ := h
    exact codeAny_mono (hr.run kp g₂ val' s₂ I Z) fun r s₃ ⟨f, e, q⟩ => ⟨f, e, q.from G₂ (r₁.trans r₂)⟩)
theorem forl_ret (hx : CanStore F x) (hb : ExB W F (rset ρ x (.sh d)) body (.ret d1)) : ForL W F ρ x p body (d :: ds) (.ret d1) := .mk fun kp g val s I X =>
  for_step (mono' (walk_next X) fun r s₁ ⟨v, e, R, Y, r₁⟩ => by
    subst e
    refine forl_body hx R Y hb fun f s₂ g₂ G₂ r₂ h => ?_
    obtain ⟨v', rfl, R', Z⟩ := h
    exact ⟨_, rfl, g₂, G₂, r₁.trans r₂, v', rfl, R', Z⟩)
theorem forl_brk (hx : CanStore F x) (hb : ExB W F (rset ρ x (.sh d)) body (.brk ρ')) : ForL W F ρ x p body (d :: ds) (.next ρ') := .mk fun kp g val s I X =>
  for_step (mono' (walk_next X) fun r s₁ ⟨v, e, R, Y, r₁⟩ => by
    subst e
    refine forl_body hx R Y hb fun f s₂ g₂ G₂ r₂ h => ?_
    obtain ⟨rfl, Z⟩ := h
    exact ⟨_, rfl, g₂, G₂, r₁.trans r₂, rfl, Z⟩)

theorem forl_weaken (hw : ∀ x sl, ρ'.lookup x = some sl → ρ.lookup x = some sl) (h : ForL W F ρ' x p body ds out) : ForL W F ρ x p body ds out := .mk fun kp g val s I X => by
  obtain ⟨o, Y, q⟩ := X.st
  exact h.run kp g val s I ⟨X.base, X.it, X.H, ⟨o, Y.weaken hw, q⟩, X.gn, X.kn⟩

/-- a loop by an invariant: what the names hold before each turn -/
theorem forl_inv (hx : CanStore F x) (ds : List D) (R : Nat → Ro) (ht : ∀ k d, ds[k]? = some d → ExB W F (rset (R k) x (.sh d)) body (.next (R (k + 1)))) : ForL W F (R 0) x p body ds (.next (R ds.length)) := by
  have key : ∀ (n k : Nat), n + k = ds.length → ForL W F (R k) x p body (ds.drop k) (.next (R ds.length)) := by
    intro n
    induction n with
    | zero => intro k hk; rw [show k = ds.length by omega, List.drop_length]; exact forl_nil
    | succ n ih =>
      intro k hk
      have hlt : k < ds.length := by omega
      rw [List.drop_eq_getElem_cons hlt]
      exact forl_cons hx (ht k _ (by simp [hlt])) (ih (k + 1) (by omega))
  simpa using key ds.length 0 (by omega)

theorem xs_for (hi : EvE W F ρ iter d) (hd : Iter d ds) (hr : ∀ a b, d = .range a b → Builtin.Range.small a b 1 = true) (hl : ForL W F ρ x p body ds out)
    (hs : ∀ x, foldedSetIterable iter F.env x = pure x := by intro _; rfl) : ExS W F ρ (.For (.Name x p) iter body [] pos) out := .mk fun kp g val s X =>
  wpAny_For (mono' (hi.run kp g val s X) fun v s₁ ⟨g₁, G₁, X₁, R₁, r₁⟩ => mono' (walk_make X₁ R₁ hd hr) fun it s₂ ⟨I, e, Y, r₂⟩ => by
    subst e
    exact codeAny_mono (hl.run kp g₁ val s₂ I Y) fun r s₃ ⟨f, e, q⟩ => by subst e; exact q.from G₁ (r₁.trans r₂)) hs

/-! while -/
structure WhL (W : Wd) (F : Fm) (ρ : Ro) (test : Expr) (body : List Stmt) (out : Out) : Prop where
  run : ∀ kp g val s, StV W F kp g ρ val s → codeAny (model W.prog W.w) F.A (.whileLoop test body [] F.env) (PR W F kp g s out) s

theorem while_step {prog : Program} {w : World} {R : Result → Shared → Prop} {env : Env} (h : wpAny (model prog w) A (isTrue test env (eval test env)) (fun b s₁ =>
    if b then wpAny (model prog w) A (execs body env) (fun f s₃ => match f with
        | .next | .cont => codeAny (model prog w) A (.whileLoop test body [] env) R s₃
        | .brk => R (.ok .next) s₃
        | .ret v => R (.ok (.ret v)) s₃) Nev s₁
    else R (.ok .next) s₁) Nev s) : codeAny (model prog w) A (.whileLoop test body [] env) R s := by
  refine codeAny_of_tree ?_
  show wpAny _ A ((whileTurn test body [] env).onRaise (fun x => do noteFrame x env; theTreesLotGoes x)) _ _ s
  refine wpAny_noted (nev ?_)
  simp only [whileTurn]
  refine wpAny_bind (mono' h fun b s₂ h₂ => ?_)
  cases b with
  | false =>
    simp only [Bool.false_eq_true, if_false] at h₂ ⊢
    exact wpAny_bind (wpAny_execs_nil (wpAny_pure h₂))
  | true =>
    simp only [if_true] at h₂ ⊢
    refine wpAny_bind (mono' h₂ fun f s₃ h₃ => ?_)
    cases f with
    | next => exact wpAny_pure ⟨rfl, h₃⟩
    | cont => exact wpAny_pure ⟨rfl, h₃⟩
    | brk => exact wpAny_pure h₃
    | ret v => exact wpAny_pure h₃

theorem wh_end (ht : EvT W F ρ test false) : WhL W F ρ test body (.next ρ) := .mk fun kp g val s X =>
  while_step (mono' (ht.run kp g val s X) fun c s₁ ⟨e, g₁, G₁, X₁, r₁⟩ => by subst e; exact ⟨_, rfl, g₁, G₁, r₁, rfl, val, X₁⟩)
theorem wh_step (ht : EvT W F ρ test true) (hb : ExB W F ρ body (.next ρ')) (hr : WhL W F ρ' test body out) : WhL W F ρ test body out := .mk fun kp g val s X =>
  while_step (mono' (ht.run kp g val s X) fun c s₁ ⟨e, g₁, G₁, X₁, r₁⟩ => by
    subst e
    exact mono' (hb.run kp g₁ val s₁ X₁) fun f s₂ ⟨g₂, G₂, r₂, e, val₂, X₂⟩ => by
      subst e
      exact codeAny_mono (hr.run kp g₂ val₂ s₂ X₂) fun r s₃ ⟨f, e, q⟩ => ⟨f, e, q.from (G₁.trans G₂) (r₁.trans r₂)⟩)
theorem wh_brk (ht : EvT W F ρ test true) (hb : ExB W F ρ body (.brk ρ')) : WhL W F ρ test body (.next ρ') := .mk fun kp g val s X =>
  while_step (mono' (ht.run kp g val s X) fun c s₁ ⟨e, g₁, G₁, X₁, r₁⟩ => by
    subst e
    exact mono' (hb.run kp g₁ val s₁ X₁) fun f s₂ ⟨g₂, G₂, r₂, e, X₂⟩ => by
      subst e
      exact ⟨_, rfl, g₂, G₁.trans G₂, r₁.trans r₂, rfl, X₂⟩)
theorem xs_while (h : WhL W F ρ test body out) : ExS W F ρ (.While test body [] pos) out := .mk fun kp g val s X =>
  wpAny_While (codeAny_mono (h.run kp g val s X) fun r s₁ ⟨f, e, q⟩ => by subst e; exact q)

/-! two names at once -/
theorem xs_tuple2 {e1 e2 : Expr} {p1 p2 tp vp : Pos} {k1 k2 : Nat} (h1 : EvE W F ρ e1 d1) (h2 : EvE W F ρ e2 d2) (hx : CanStore F x) (hy : CanStore F y)
    (hst : starEach [e1, e2] F.env = [(false, eval e1 F.env), (false, eval e2 F.env)] := by rfl)
    (hw : swapsWithSole [.Tuple [.Name x p1, .Name y p2] k1 tp] (.Tuple [e1, e2] k2 vp) pos.line F.env = pure false := by rfl)
    (hss : swappedStores [.Tuple [.Name x p1, .Name y p2] k1 tp] (.Tuple [e1, e2] k2 vp) F.env = pure (some [x, y]) := by rfl) :
    ExS W F ρ (.Assign [.Tuple [.Name x p1, .Name y p2] k1 tp] (.Tuple [e1, e2] k2 vp) pos) (.next (rset (rset ρ y (.sh d2)) x (.sh d1))) := .mk fun kp g val s X => by
  have hst2 : starEach [e2] F.env = [(false, eval e2 F.env)] := by
    have : starEach [e1, e2] F.env = (false, eval e1 F.env) :: starEach [e2] F.env := by
      cases e1 <;> first | rfl | (simp [starEach] at hst)
    rw [this] at hst
    exact (List.cons.inj hst).2
  have hL : EvL W F ρ [e1, e2] [d1, d2] := el_cons h1 (el_cons h2 el_nil hst2) (by rw [hst, hst2])
  have hT : EvE W F ρ (.Tuple [e1, e2] k2 vp) (.tuple [d1, d2]) := ev_tuple hL (by show 2 ≤ 1000; decide)
  have e0 : exec (.Assign [.Tuple [.Name x p1, .Name y p2] k1 tp] (.Tuple [e1, e2] k2 vp) pos) F.env = (do
      standAt pos
      if ← swapsWithSole [.Tuple [.Name x p1, .Name y p2] k1 tp] (.Tuple [e1, e2] k2 vp) pos.line F.env then do
        evalThenUse (.Tuple [e1, e2] k2 vp) F.env fun v => assignAll v ((assignEach [.Tuple [.Name x p1, .Name y p2] k1 tp] F.env).map (·.2))
        pure .next
      else do
        let v ← eval (.Tuple [e1, e2] k2 vp) F.env
        assignStores F.env v (← swappedStores [.Tuple [.Name x p1, .Name y p2] k1 tp] (.Tuple [e1, e2] k2 vp) F.env) ((assignEach [.Tuple [.Name x p1, .Name y p2] k1 tp] F.env).map (·.2))) := rfl
  rw [e0, hw, hss]
  refine wpAny_bind (wpAny_standAt (wpAny_bind (wpAny_pure ?_)))
  simp only [Bool.false_eq_true, if_false]
  refine wpAny_bind (mono' (hT.run kp g val s X) fun v s₁ ⟨g₁, G₁, X₁, R₁, r₁⟩ => wpAny_bind (wpAny_pure ?_))
  cases R₁ with
  | @tuple a vs _ H r =>
    obtain ⟨u, v, rfl, q1, q2⟩ := inv2 r
    obtain ⟨o, ho, hc, n, hd⟩ := isTup_of H X₁.gin
    have hit : s₁.heap.IsTuple a [u, v].toArray := ⟨o, ho, hc, n, hd⟩
    show wpAny _ _ (do rule "assign.swapped-stores"; let items ← unpackItems (.ref a) 2 none; assignInOrder ([x, y].reverse.map fun n => bindName F.env n) items.reverse; pure Flow.next) _ _ s₁
    have hun : ∀ Q : List Value → Shared → Prop, (∀ h', Heap.ExtBut s₁.heap.objs.size s₁.heap h' → Q [u, v] { s₁ with heap := h' }) → wpAny (model W.prog W.w) F.A (unpackItems (.ref a) 2 none) Q Nev s₁ := fun Q hQ => by
      have q := wpAny_unpackItems_tuple (prog := W.prog) (w := W.w) (Q := Q) (E := Nev) X₁.hd hit hQ
      rw [show [u, v].toArray.size = 2 from rfl] at q
      exact q
    refine wpAny_bind (wpAny_rule (wpAny_bind (hun _ fun h' he => ?_)))
    have Y : StV W F kp g₁ ρ val { s₁ with heap := h' } := X₁.ext (tk := s₁.toks) (fun b o e => he b o (Nat.ne_of_lt (Heap.lt_size e)) e) (Sub.refl _) (fun b o e => he b o (Nat.ne_of_lt (Heap.lt_size (X₁.gin _ _ e))) (X₁.gin b o e)) (fun _ h => .inl h) X₁.toks
    show wpAny _ _ (assignInOrder [bindName F.env y, bindName F.env x] [v, u] >>= fun _ => pure Flow.next) _ _ _
    refine wpAny_bind (wpAny_assignInOrder_more (wpAny_bindName (Y.store hy (sl := .sh d2) q2 fun s₂ X₂ r₂ => wpAny_assignInOrder_more (wpAny_bindName (X₂.store hx (sl := .sh d1) q1 fun s₃ X₃ r₃ => wpAny_assignInOrder_none ?_)))))
    have r12 : Rst s₁ s₂ := ⟨r₂.1, r₂.2.1, r₂.2.2⟩
    refine wpAny_pure ?_
    have G : Gr kp g g₁ := G₁
    have r : Rst s s₃ := (r₁.trans r12).trans r₃
    exact ⟨g₁, G, r, rfl, _, X₃⟩

end

end

section

/-! ### comprehensions -/
noncomputable def closCells (cells : List (Str × Addr)) : List (Str × NameKind) → List (Str × Addr) → List (Str × Addr)
  | [], acc => acc
  | (n, k) :: r, acc => if k == .free then closCells cells r ((n, (cells.lookup n).getD 0) :: acc) else closCells cells r acc

noncomputable def closOk (cells : List (Str × Addr)) (names : List (Str × NameKind)) : Bool := names.all fun x => x.2 != .free || (cells.lookup x.1).isSome

theorem closureFor_go (env : Env) (f : Str × NameKind → List (Str × Addr) → Sem (ForInStep (List (Str × Addr))))
    (hf : ∀ name kind cs, f (name, kind) cs = if kind == .free then (do let a ← cellOf env name; pure (.yield ((name, a) :: cs))) else pure (.yield cs)) :
    ∀ (names : List (Str × NameKind)) (acc : List (Str × Addr)), closOk env.cells names = true → forIn names acc f = pure (closCells env.cells names acc)
  | [], acc, _ => by rw [List.forIn_nil]; rfl
  | (n, k) :: r, acc, h => by
    unfold closOk at h
    rw [List.all_cons, Bool.and_eq_true] at h
    rw [List.forIn_cons, hf]
    unfold closCells
    by_cases hk : (k == NameKind.free) = true
    · rw [if_pos hk, if_pos hk]
      have h1 : (env.cells.lookup n).isSome = true := by
        have := h.1
        rw [Bool.or_eq_true] at this
        rcases this with h2 | h2
        · rw [bne_iff_ne] at h2; exact absurd (by simpa using hk) h2
        · exact h2
      obtain ⟨c, hc⟩ := Option.isSome_iff_exists.mp h1
      have e : cellOf env n = pure c := by unfold cellOf; rw [hc]
      rw [e, hc]
      exact closureFor_go env f hf r _ h.2
    · rw [if_neg hk, if_neg hk]
      exact closureFor_go env f hf r _ h.2

theorem closureFor_eq {scope : Scope} {env : Env} (h : closOk env.cells scope.names = true) : closureFor scope env = pure (closCells env.cells scope.names []) := by
  simp only [closureFor]
  rw [closureFor_go env _ (fun name kind cs => by cases hk : kind == NameKind.free <;> simp [hk]) scope.names [] h]
  rfl

theorem cellsFrom_acc : ∀ (names : List (Str × NameKind)) (n : Nat) (acc : List (Str × Addr)), cellsFrom n names acc = cellsFrom n names [] ++ acc
  | [], _, _ => rfl
  | (name, kind) :: r, n, acc => by
    unfold cellsFrom
    split
    · rw [cellsFrom_acc r (n + 1) ((name, n) :: acc), cellsFrom_acc r (n + 1) [(name, n)], List.append_assoc]; rfl
    · exact cellsFrom_acc r n acc

theorem cellsFrom_ge : ∀ (names : List (Str × NameKind)) (n : Nat) (x : Str × Addr), x ∈ cellsFrom n names [] → n ≤ x.2
  | [], _, _, h => nomatch h
  | (name, kind) :: r, n, x, h => by
    unfold cellsFrom at h
    split at h
    · rw [cellsFrom_acc] at h
      rcases List.mem_append.mp h with h | h
      · exact Nat.le_of_succ_le (cellsFrom_ge r (n + 1) x h)
      · rcases List.mem_cons.mp h with rfl | h
        · exact Nat.le_refl _
        · cases h
    · exact cellsFrom_ge r n x h

theorem cellsFrom_kind : ∀ (names : List (Str × NameKind)) (n : Nat) (x : Str × Addr), x ∈ cellsFrom n names [] → (x.1, NameKind.cell) ∈ names
  | [], _, _, h => nomatch h
  | (name, kind) :: r, n, x, h => by
    unfold cellsFrom at h
    split at h
    · rename_i hk
      rw [cellsFrom_acc] at h
      rcases List.mem_append.mp h with h | h
      · exact List.mem_cons_of_mem _ (cellsFrom_kind r (n + 1) x h)
      · rcases List.mem_cons.mp h with rfl | h
        · have : kind = .cell := by simpa using hk
          rw [this]; exact List.mem_cons_self
        · cases h
    · exact List.mem_cons_of_mem _ (cellsFrom_kind r n x h)

theorem closCells_mem (cells : List (Str × Addr)) : ∀ (names : List (Str × NameKind)) (acc : List (Str × Addr)) (x : Str × Addr), closOk cells names = true → x ∈ closCells cells names acc → x ∈ acc ∨ ((x.1, NameKind.free) ∈ names ∧ cells.lookup x.1 = some x.2)
  | [], _, _, _, h => .inl h
  | (n, k) :: r, acc, x, ok, h => by
    unfold closOk at ok
    rw [List.all_cons, Bool.and_eq_true] at ok
    unfold closCells at h
    by_cases hk : (k == NameKind.free) = true
    · rw [if_pos hk] at h
      rcases closCells_mem cells r _ x ok.2 h with h | h
      · rcases List.mem_cons.mp h with rfl | h
        · have hkf : k = .free := by simpa using hk
          have h1 : (cells.lookup n).isSome = true := by
            have := ok.1
            rw [Bool.or_eq_true] at this
            rcases this with h2 | h2
            · rw [bne_iff_ne] at h2; exact absurd hkf h2
            · exact h2
          obtain ⟨c, hc⟩ := Option.isSome_iff_exists.mp h1
          refine .inr ⟨by rw [hkf]; exact List.mem_cons_self, ?_⟩
          simp only [hc, Option.getD_some]
        · exact .inl h
      · exact .inr ⟨List.mem_cons_of_mem _ h.1, h.2⟩
    · rw [if_neg hk] at h
      rcases closCells_mem cells r _ x ok.2 h with h | h
      · exact .inl h
      · exact .inr ⟨List.mem_cons_of_mem _ h.1, h.2⟩

theorem closCells_has (cells : List (Str × Addr)) : ∀ (names : List (Str × NameKind)) (acc : List (Str × Addr)) (n : Str), (n, NameKind.free) ∈ names → (n, (cells.lookup n).getD 0) ∈ closCells cells names acc
  | [], _, _, h => nomatch h
  | (m, k) :: r, acc, n, h => by
    have sub : ∀ (names : List (Str × NameKind)) (acc : List (Str × Addr)) (y : Str × Addr), y ∈ acc → y ∈ closCells cells names acc := by
      intro names
      induction names with
      | nil => intro acc y hy; exact hy
      | cons p q ih =>
        intro acc y hy
        unfold closCells
        split
        · exact ih _ _ (List.mem_cons_of_mem _ hy)
        · exact ih _ _ hy
    unfold closCells
    rcases List.mem_cons.mp h with e | h
    · cases e
      rw [if_pos (show (NameKind.free == NameKind.free) = true from rfl)]
      exact sub _ _ _ List.mem_cons_self
    · split
      · exact closCells_has cells r _ n h
      · exact closCells_has cells r _ n h

theorem lookup_of_mem {α : Type} : ∀ {l : List (Str × α)} {n : Str} {a : α}, (l.map (·.1)).Nodup → (n, a) ∈ l → l.lookup n = some a
  | (k, v) :: r, n, a, hn, h => by
    rw [List.map_cons, List.nodup_cons] at hn
    rw [List.lookup_cons]
    rcases List.mem_cons.mp h with e | hr
    · cases e; rw [beq_self_eq_true]
    · have : (n == k) = false := beq_eq_false_iff_ne.mpr fun e => hn.1 (by rw [← e]; exact List.mem_map.mpr ⟨(n, a), hr, rfl⟩)
      rw [this]
      exact lookup_of_mem hn.2 hr

/-- the frame of a comprehension -/
noncomputable def compFm (F : Fm) (scope : Scope) (C : Addr) : Fm where
  env := { scope := relabel scope F.env, locals := C, globals := F.env.globals, cells := cellsFrom (C + 1) scope.names (closCells F.env.cells scope.names []), qual := F.env.qual, func := none, code := F.env.code, frame := F.env.frame, builtins := F.env.builtins }
  A := F.A
  own := (cellsFrom (C + 1) scope.names []).map (·.2)
  n := F.n

/-- what the comprehension sees of the frame around it -/
noncomputable def capt (ρ : Ro) : List (Str × NameKind) → Ro
  | [] => []
  | (n, k) :: r => match k, ρ.lookup n with
    | .free, some (.sh d) => (n, .sh d) :: capt ρ r
    | _, _ => capt ρ r

theorem capt_mem (ρ : Ro) : ∀ (names : List (Str × NameKind)) (x : Str) (sl : Sl), (x, sl) ∈ capt ρ names → (∃ d, sl = .sh d) ∧ ρ.lookup x = some sl ∧ (x, NameKind.free) ∈ names
  | [], _, _, h => nomatch h
  | (n, k) :: r, x, sl, h => by
    unfold capt at h
    split at h
    · rename_i d hl
      rcases List.mem_cons.mp h with e | h
      · cases e; exact ⟨⟨_, rfl⟩, hl, List.mem_cons_self⟩
      · obtain ⟨a, b, c⟩ := capt_mem ρ r x sl h
        exact ⟨a, b, List.mem_cons_of_mem _ c⟩
    · obtain ⟨a, b, c⟩ := capt_mem ρ r x sl h
      exact ⟨a, b, List.mem_cons_of_mem _ c⟩

/-- the comprehension's table is in order -/
structure ScopeOk (F : Fm) (scope : Scope) : Prop where
  kind : scope.kind = .function
  nodup : (scope.names.map (·.1)).Nodup
  clos : closOk F.env.cells scope.names = true
  free : (scope.names.all fun x => x.2 != .free || F.env.kindOf x.1 == some .cell) = true

theorem lookup_map_snd {α β : Type} (f : Str → α → β) : ∀ (l : List (Str × α)) (x : Str), (l.map fun p => (p.1, f p.1 p.2)).lookup x = (l.lookup x).map (f x)
  | [], _ => rfl
  | (k, v) :: r, x => by
    rw [List.map_cons, List.lookup_cons, List.lookup_cons]
    by_cases h : x = k
    · subst h; rw [beq_self_eq_true]; rfl
    · rw [beq_eq_false_iff_ne.mpr h]; exact lookup_map_snd f r x

theorem relabel_lookup (scope : Scope) (env : Env) (x : Str) : (relabel scope env).names.lookup x = (scope.names.lookup x).map fun k => if (k == .free && env.scope.kind == .function && env.kindOf x == some .cell) then .cell else k := by
  have := lookup_map_snd (fun (n : Str) (k : NameKind) => if (k == .free && env.scope.kind == .function && env.kindOf n == some .cell) then NameKind.cell else k) scope.names x
  rw [← this]
  unfold relabel
  show List.lookup x (scope.names.map _) = _
  congr 1
  apply List.map_congr_left
  intro p _
  obtain ⟨n, k⟩ := p
  show (if _ then _ else _) = _
  split <;> rfl

section
variable {W : Wd} {F : Fm} {kp g g' g₁ g₂ : PHeap} {ρ ρ' : Ro} {s s' s₁ : Shared} {d d1 d2 : D} {ds es : List D} {v : Value} {b c : Bool} {A : Around} {i j : Int} {val : Str → Value} {x y z : Str} {pos p np apos : Pos} {out : Out}
  {st : Stmt} {sts body : List Stmt} {e test idx iter : Expr} {I : Addr} {o o' : Obj} {scope : Scope}

theorem wp_compEnv {M : Model} {E : Value → Shared → Prop} {globals : Addr} {cl : List (Str × Addr)} {qual : Str} {outer : Env} {Q : Env → Shared → Prop}
    (h : Q (newEnv scope s.heap.objs.size globals (cellsFrom (s.heap.objs.size + 1) scope.names cl) qual none .none (some outer) builtinsNs) { s with heap := pushCells (s.heap.push { cls := .type "dict", data := .dict #[] }) scope.names }) :
    wpAny M A (newFunctionEnv scope globals cl [] qual none .none (some outer)) Q E s := by
  simp only [newFunctionEnv, Option.isSome_some, if_true]
  refine wpAny_bind (wpAny_alloc ?_)
  refine wpAny_bind (wpAny_layCells _ (fun name kind cells => by cases hkc : kind == NameKind.cell <;> simp [hkc]) _ _ _ _ ?_)
  have e : (s.heap.push { cls := .type "dict", data := .dict #[] }).objs.size = s.heap.objs.size + 1 := Heap.size_push ..
  simp only [e]
  rw [List.forIn_nil]
  exact wpAny_bind (wpAny_pure (wpAny_pure h))

theorem StV.leave (X : StV W F (kset kp I o) g ρ val s) (hoc : ∀ v, o.data ≠ .cell v)
    (hs : ∀ b ob, b ≠ I → s.heap.get? b = some ob → s'.heap.get? b = some ob) (hsub : Sub g g') (hgin : ∀ b ob, g' b = some ob → s'.heap.get? b = some ob) (hnew : ∀ b, b ≠ I → g' b ≠ none → g b ≠ none ∨ s.heap.get? b = none)
    {kp' : PHeap} (hb : ∀ b o, W.H.get? b = some o → kp' b = some o) (hk' : ∀ b o, kp' b = some o → s'.heap.get? b = some o) (hoff : ∀ z ob, s.heap.get? z = some ob → z ≠ I → kp z = none → kp' z = none) (ht : 1 ≤ s'.toks) :
    StV W F kp' g' ρ val s' := by
  have ne : ∀ z, Off (kset kp I o) g z → z ≠ I := fun z q e => by have := q.1; rw [e, kset_self] at this; cases this
  have off : ∀ z ob, s.heap.get? z = some ob → Off (kset kp I o) g z → Off kp' g' z := fun z ob e q => by
    have hz := ne z q
    refine ⟨hoff z ob e hz ?_, ?_⟩
    · have := q.1
      unfold kset at this
      rw [if_neg hz] at this; exact this
    · cases h : g' z with
      | none => rfl
      | some o' => rcases hnew z hz (by rw [h]; exact nofun) with h1 | h1
                   · exact absurd q.2 h1
                   · rw [h1] at e; cases e
  obtain ⟨m, hm⟩ := X.ns
  have hL := ne _ X.loff
  refine ⟨X.ok, hb, hk', hgin, ⟨m, hm.at' fun o e => hs _ o hL e⟩, fun c hc => ?_, fun x t e => ?_, fun x d e => (X.sh x d e).mono hsub,
    fun x b ds e => ?_, ?_, fun c hc => ?_, X.apart, ht, fun p hp => ?cA⟩
  case cA =>
    obtain ⟨v, ob, q1, q2⟩ := X.cellA p hp
    refine ⟨v, ob, hs p.2 ob ?_ q1, q2⟩
    intro e
    rw [e, X.keep I o kset_self] at q1
    cases q1
    exact hoc _ q2
  · obtain ⟨v, ob, q1, q2⟩ := X.cell c hc
    exact ⟨v, ob, hs c ob (ne c (X.coff c hc)) q1, q2⟩
  · rcases X.var x t e with ⟨kl, m₂, hn₂, hv₂⟩ | ⟨kl, c, hc, ob, q1, q2⟩
    · exact .inl ⟨kl, m₂, hn₂.at' fun o e => hs _ o hL e, hv₂⟩
    · refine .inr ⟨kl, c, hc, ob, ?_, q2⟩
      by_cases hcI : c = I
      · subst hcI
        rw [X.keep c o kset_self] at q1
        cases q1
        exact absurd q2 (hoc _)
      · exact hs c ob hcI q1
  · obtain ⟨a, vs, e1, e2, e3, e4⟩ := X.ow x b ds e
    obtain ⟨ob, hob, _⟩ := id e2.1
    exact ⟨a, vs, e1, e2.at fun o q => hs a o (ne a e4) q, e3.mono hsub, off a ob hob e4⟩
  · obtain ⟨ob, hob⟩ := Ns.some hm
    exact off _ ob hob X.loff
  · obtain ⟨v, ob, q1, q2⟩ := X.cell c hc
    exact off c ob q1 (X.coff c hc)

end

end

section

noncomputable def PObj (o : Obj) (vs : List Value) : Prop := ∃ n, o = { cls := .type "list", data := .seq vs.toArray n }
theorem PObj.noCell {o : Obj} {vs : List Value} (h : PObj o vs) : ∀ v, o.data ≠ .cell v := fun v e => by obtain ⟨n, rfl⟩ := h; cases e

/-- the list under way -/
structure Acc (W : Wd) (kp g : PHeap) (a : Addr) (o : Obj) (vs : List Value) (acc : List D) : Prop where
  kn : kp a = none
  gn : g a = none
  H : W.H.get? a = none
  ob : PObj o vs
  rep : RepL W g vs acc

noncomputable def PA (W : Wd) (F : Fm) (kp g : PHeap) (s : Shared) (ρ : Ro) (a : Addr) (accs : List D) (s' : Shared) : Prop :=
  ∃ g' val' o' vs', Gr kp g g' ∧ StV W F (kset kp a o') g' ρ val' s' ∧ Acc W kp g' a o' vs' accs ∧ Rst s s'

noncomputable def Act (W : Wd) (F : Fm) (ρ : Ro) (t : Value → Sem Unit) (outs : List D) : Prop :=
  ∀ kp g val s a o vs acc, (∀ b o, W.H.get? b = some o → kp b = some o) → StV W F (kset kp a o) g ρ val s → Acc W kp g a o vs acc → vs.length + outs.length ≤ 1000 →
    wpAny (model W.prog W.w) F.A (t (.ref a)) (fun _ => PA W F kp g s ρ a (acc ++ outs)) Nev s

structure CompL (W : Wd) (F : Fm) (ρ : Ro) (e : Expr) (depth : Nat) (ds outs : List D) : Prop where
  run : ∀ kp g val s I a o vs acc, (∀ b o, W.H.get? b = some o → kp b = some o) → Walk W F (kset kp a o) g ρ val s I ds → Acc W kp g a o vs acc → I ≠ a → vs.length + outs.length ≤ 1000 →
    codeAny (model W.prog W.w) F.A (.compLoop e depth (.ref I) (.ref a) F.env) (fun r s' => r = .ok .next ∧ PA W F kp g s ρ a (acc ++ outs) s') s

structure EvIfs (W : Wd) (F : Fm) (ρ : Ro) (ifs : List Expr) (b : Bool) : Prop where
  run : ∀ kp g val s, StV W F kp g ρ val s → wpAny (model W.prog W.w) F.A (forIn ifs true fun c r => if r = true then do let ok ← isTrue c F.env (eval c F.env); pure (ForInStep.yield ok) else pure (ForInStep.yield r)) (PT W F kp g ρ val s b) Nev s

noncomputable def TurnEq (e : Expr) (depth : Nat) (x : Str) (p : Pos) (ifs : List Expr) (t : Value → Env → Sem Unit) : Prop := ∃ sp, ∀ it acc env, compTurn e depth it acc env = (do
      standAt sp
      match ← pyNext it with
      | none => pure (.done .next)
      | some v =>
        letOwnedTupleGo (.Name x p) it v
        assign (.Name x p) env v
        let mut ok := true
        for c in ifs do
          if ok then ok ← isTrue c env (eval c env)
        if ok then t acc env
        again (.compLoop e depth it acc env))

section
variable {W : Wd} {F : Fm} {kp g g' g₁ g₂ : PHeap} {ρ ρ' : Ro} {s s' s₁ : Shared} {d d1 d2 : D} {ds es : List D} {v : Value} {b c : Bool} {A : Around} {i j : Int} {val : Str → Value} {x y z : Str} {pos p np apos : Pos} {out : Out}
  {st : Stmt} {sts body ifs : List Stmt} {e test idx iter elt : Expr} {I : Addr} {o o' : Obj} {scope : Scope}

theorem ifs_nil : EvIfs W F ρ [] true := .mk fun kp g val s X => by rw [List.forIn_nil]; exact wpAny_pure (PT.same X)
theorem ifs_one (h : EvT W F ρ e b) : EvIfs W F ρ [e] b := .mk fun kp g val s X => wpAny_tests_one (h.run kp g val s X)

theorem turn1 (elt iter : Expr) (x : Str) (p : Pos) (ifs : List Expr) (scope : Scope) (pos : Pos) :
    TurnEq (.ListComp elt [⟨.Name x p, iter, ifs, 0⟩] scope pos) 0 x p ifs (fun acc env => do let _ ← call (.builtin "list.append") [acc, ← eval elt env]) := ⟨_, fun it acc env => by rfl⟩
theorem turn2 (elt iter : Expr) (x : Str) (p : Pos) (ifs : List Expr) (c0 : Comprehension) (scope : Scope) (pos : Pos) :
    TurnEq (.ListComp elt [c0, ⟨.Name x p, iter, ifs, 0⟩] scope pos) 1 x p ifs (fun acc env => do let _ ← call (.builtin "list.append") [acc, ← eval elt env]) := ⟨_, fun it acc env => by rfl⟩
theorem turn3 (elt iter iter1 : Expr) (x y : Str) (p q : Pos) (ifs ifs1 : List Expr) (scope : Scope) (pos : Pos) :
    TurnEq (.ListComp elt [⟨.Name x p, iter, ifs, 0⟩, ⟨.Name y q, iter1, ifs1, 0⟩] scope pos) 0 x p ifs (fun acc env => do
      let x₁ ← eval iter1 env
      standAt iter1.pos
      let x₂ ← foldedSetIterable iter1 env x₁
      let it ← holding [x₂] (pyIter x₂)
      let _ ← runOwn (.compStart (.ListComp elt [⟨.Name x p, iter, ifs, 0⟩, ⟨.Name y q, iter1, ifs1, 0⟩] scope pos) 1 it acc env) env) := ⟨iter.pos, fun it acc env => by
  simp only [bind_assoc, pure_bind]
  rfl⟩

theorem Acc.mono {a : Addr} {vs : List Value} {acc : List D} (X : Acc W kp g a o vs acc) (G : Gr (kset kp a o) g g') : Acc W kp g' a o vs acc :=
  ⟨X.kn, G.off X.gn, X.H, X.ob, X.rep.mono G.1⟩

theorem act_emit (h : EvE W F ρ elt d) : Act W F ρ (fun acc => do let _ ← call (.builtin "list.append") [acc, ← eval elt F.env]) [d] := fun kp g val s a o vs acc hb X C hn => by
  refine wpAny_bind (mono' (h.run _ _ _ _ X) fun v s₁ ⟨g₁, G₁, X₁, R₁, r₁⟩ => ?_)
  have C₁ := C.mono G₁
  obtain ⟨n, ho⟩ := C.ob
  have hp : s₁.heap.PlainList a vs.toArray := ⟨n, by rw [← ho]; exact X₁.keep a o kset_self⟩
  refine wpAny_bind (wpAny_list_append_plain hp (fun h' hp' hs => wpAny_pure ?_) (by rw [List.size_toArray, sizeLine_eq]; simp at hn; omega))
  obtain ⟨n', ho'⟩ := hp'
  have e2 : vs.toArray.push v = (vs ++ [v]).toArray := by simp
  rw [e2] at ho'
  exact ⟨g₁, val, _, vs ++ [v], G₁.weaken (sub_kset C.kn), X₁.ktouch (tk := s₁.toks) C.kn C₁.gn C.H C.ob.noCell X₁.toks (fun b ob hb e => (hs.2 b hb).trans e) ho', ⟨C.kn, C₁.gn, C.H, ⟨n', rfl⟩, C₁.rep.append (.one R₁)⟩, ⟨r₁.1, r₁.2.1, r₁.2.2⟩⟩

theorem kset_comm {a c : Addr} {o o' : Obj} (h : a ≠ c) : kset (kset kp a o) c o' = kset (kset kp c o') a o := by
  funext z
  unfold kset
  by_cases h1 : z = c
  · rw [if_pos h1, if_neg (by rw [h1]; exact Ne.symm h), if_pos h1]
  · rw [if_neg h1]
    by_cases h2 : z = a
    · rw [if_pos h2, if_pos h2]
    · rw [if_neg h2, if_neg h2, if_neg h1]

theorem comp_step {prog : Program} {w : World} {R : Result → Shared → Prop} {a : Value} {it : Value} {env : Env} {depth : Nat} {ifs : List Expr} {t : Value → Env → Sem Unit} {el : Expr} {gens : List Comprehension} (hT : TurnEq (.ListComp el gens scope pos) depth x p ifs t)
    (h : wpAny (model prog w) A (pyNext it) (fun r s₁ => match r with
      | none => R (.ok .next) s₁
      | some v => wpAny (model prog w) A (assign (.Name x p) env v) (fun _ s₂ =>
          wpAny (model prog w) A (forIn ifs true fun c r => if r = true then do let ok ← isTrue c env (eval c env); pure (ForInStep.yield ok) else pure (ForInStep.yield r)) (fun ok s₃ =>
            if ok = true then wpAny (model prog w) A (t a env) (fun _ s₄ => codeAny (model prog w) A (.compLoop (.ListComp el gens scope pos) depth it a env) R s₄) Nev s₃
            else codeAny (model prog w) A (.compLoop (.ListComp el gens scope pos) depth it a env) R s₃) Nev s₂) Nev s₁) Nev s) :
    codeAny (model prog w) A (.compLoop (.ListComp el gens scope pos) depth it a env) R s := by
  refine codeAny_of_tree ?_
  show wpAny _ A ((compTurn (.ListComp el gens scope pos) depth it a env).onRaise (fun x => do noteFrame x env; theTreesLotGoes x)) _ _ s
  refine wpAny_noted (nev ?_)
  obtain ⟨sp, hT⟩ := hT
  rw [hT]
  refine wpAny_bind (wpAny_standAt (wpAny_bind (mono' h fun r s₁ h₁ => ?_)))
  cases r with
  | none => exact wpAny_pure h₁
  | some v =>
    refine wpAny_bind (wpAny_of_eq (show letOwnedTupleGo (.Name x p) it v = pure () from rfl) ?_)
    refine wpAny_bind (mono' h₁ fun _ s₂ h₂ => wpAny_bind (mono' h₂ fun ok s₃ h₃ => ?_))
    cases ok with
    | false => exact wpAny_pure ⟨rfl, h₃⟩
    | true => exact wpAny_bind (mono' h₃ fun _ s₄ h₄ => wpAny_pure ⟨rfl, h₄⟩)

theorem comp_loop {depth : Nat} {ifs : List Expr} {t : Value → Env → Sem Unit} {el : Expr} {gens : List Comprehension} (hT : TurnEq (.ListComp el gens scope pos) depth x p ifs t) (hx : CanStore F x) (hxρ : ρ.lookup x = none)
    (q : D → Bool) (f : D → List D) : ∀ ds : List D, (∀ d ∈ ds, EvIfs W F (rset ρ x (.sh d)) ifs (q d)) → (∀ d ∈ ds, q d = true → Act W F (rset ρ x (.sh d)) (fun a => t a F.env) (f d)) →
    CompL W F ρ (.ListComp el gens scope pos) depth ds (ds.flatMap fun d => if q d then f d else [])
  | [], _, _ => .mk fun kp g val s I a o vs acc hb X C hI hn => comp_step hT (mono' (walk_end X) fun r s₁ ⟨e, Y, r₁⟩ => by
      subst e
      refine ⟨rfl, g, val, o, vs, Gr.refl _ _, Y, ?_, r₁⟩
      simpa using C)
  | d :: ds, h1, h2 => .mk fun kp g val s I a o vs acc hb X C hI hn => comp_step hT (mono' (walk_next X) fun r s₁ ⟨v, e, R, Y, r₁⟩ => by
      subst e
      refine turn_store Y hx R fun s₂ Y₂ r₂ => ?_
      obtain ⟨oI, Z, hf⟩ := Y₂.st
      refine mono' ((h1 d (.head _)).run _ _ (vset val x v) _ Z) fun ok s₃ ⟨e, g₃, G₃, Z₃, r₃⟩ => ?_
      subst e
      have hw : ∀ y sl, ρ.lookup y = some sl → (rset ρ x (.sh d)).lookup y = some sl := fun y sl e => by
        rw [lookup_rset, if_neg (by rintro rfl; rw [hxρ] at e; cases e)]; exact e
      have Ga : Gr (kset kp a o) g g₃ := G₃.weaken (sub_kset Y₂.kn)
      have C₃ : Acc W kp g₃ a o vs acc := C.mono Ga
      have gI₃ : g₃ I = none := G₃.off Y₂.gn
      have it₃ : ItAt W g₃ s₃.heap I ds := Y₂.it.mono G₃.1 fun o₂ e₂ => by
        rw [Z.keep I oI kset_self] at e₂; cases e₂
        exact Z₃.keep I oI kset_self
      have ih := comp_loop hT hx hxρ q f ds (fun d hd => h1 d (.tail _ hd)) (fun d hd => h2 d (.tail _ hd))
      rw [List.flatMap_cons, List.length_append] at hn
      cases hq : q d with
      | false =>
        rw [if_neg Bool.false_ne_true]
        rw [hq] at hn
        simp only [Bool.false_eq_true, if_false, List.length_nil, Nat.zero_add] at hn
        have Wk : Walk W F (kset kp a o) g₃ ρ (vset val x v) s₃ I ds := ⟨Y₂.base, it₃, X.H, ⟨oI, Z₃.weaken hw, hf⟩, gI₃, Y₂.kn⟩
        refine codeAny_mono (ih.run kp g₃ (vset val x v) s₃ I a o vs acc hb Wk C₃ hI hn) ?_
        rintro r s₄ ⟨e, g₄, val₄, o₄, vs₄, G₄, Z₄, C₄, r₄⟩
        refine ⟨e, g₄, val₄, o₄, vs₄, (Ga.weaken (sub_kset C.kn)).trans G₄, Z₄, ?_, ((r₁.trans r₂).trans r₃).trans r₄⟩
        rw [List.flatMap_cons, hq]
        simpa using C₄
      | true =>
        rw [if_pos rfl]
        rw [hq, if_pos rfl] at hn
        have kI : kp I = none := by
          have := Y₂.kn
          unfold kset at this
          rw [if_neg hI] at this; exact this
        have Z' : StV W F (kset (kset kp I oI) a o) g₃ (rset ρ x (.sh d)) (vset val x v) s₃ := by rw [← kset_comm (Ne.symm hI)]; exact Z₃
        have hb' : ∀ b o, W.H.get? b = some o → (kset kp I oI) b = some o := fun b o e => sub_kset kI _ _ (hb b o e)
        have C' : Acc W (kset kp I oI) g₃ a o vs acc := ⟨by unfold kset; rw [if_neg (Ne.symm hI)]; exact C.kn, C₃.gn, C.H, C.ob, C₃.rep⟩
        refine mono' (h2 d (.head _) hq (kset kp I oI) g₃ (vset val x v) s₃ a o vs acc hb' Z' C' (by omega)) ?_
        rintro _ s₄ ⟨g₄, val₄, o₄, vs₄, G₄, Z₄, C₄, r₄⟩
        have gI₄ : g₄ I = none := G₄.off gI₃
        have Z₄' : StV W F (kset (kset kp a o₄) I oI) g₄ (rset ρ x (.sh d)) val₄ s₄ := by rw [kset_comm (Ne.symm hI)]; exact Z₄
        have Wk : Walk W F (kset kp a o₄) g₄ ρ val₄ s₄ I ds := ⟨fun b ob e => sub_kset C.kn _ _ (hb b ob e), it₃.mono G₄.1 (fun o₂ e₂ => by
            rw [Z₃.keep I oI kset_self] at e₂; cases e₂
            exact Z₄'.keep I oI kset_self), X.H, ⟨oI, Z₄'.weaken hw, hf⟩, gI₄, by unfold kset; rw [if_neg hI]; exact kI⟩
        have C₄' : Acc W kp g₄ a o₄ vs₄ (acc ++ f d) := ⟨C.kn, C₄.gn, C.H, C₄.ob, C₄.rep⟩
        have hl4 := C₄.rep.length
        have hl := C.rep.length
        rw [List.length_append] at hl4
        refine codeAny_mono (ih.run kp g₄ val₄ s₄ I a o₄ vs₄ (acc ++ f d) hb Wk C₄' hI (by omega)) ?_
        rintro r s₅ ⟨e, g₅, val₅, o₅, vs₅, G₅, Z₅, C₅, r₅⟩
        refine ⟨e, g₅, val₅, o₅, vs₅, ((Ga.weaken (sub_kset C.kn)).trans (G₄.weaken (sub_kset kI))).trans G₅, Z₅, ?_, (((r₁.trans r₂).trans r₃).trans r₄).trans r₅⟩
        rw [List.flatMap_cons, hq, if_pos rfl, ← List.append_assoc]
        exact C₅)

end

end

section

theorem lookup_some_of_mem {α : Type} : ∀ {l : List (Str × α)} {n : Str} {a : α}, (n, a) ∈ l → ∃ b, l.lookup n = some b
  | (k, v) :: r, n, a, h => by
    rw [List.lookup_cons]
    by_cases e : n = k
    · subst e; rw [beq_self_eq_true]; exact ⟨_, rfl⟩
    · rw [beq_eq_false_iff_ne.mpr e]
      rcases List.mem_cons.mp h with h | h
      · cases h; exact absurd rfl e
      · exact lookup_some_of_mem h

theorem closCells_keys (cells : List (Str × Addr)) : ∀ (names : List (Str × NameKind)) (acc : List (Str × Addr)), (names.map (·.1)).Nodup → (acc.map (·.1)).Nodup → (∀ p ∈ names, p.1 ∉ acc.map (·.1)) → ((closCells cells names acc).map (·.1)).Nodup
  | [], _, _, h, _ => h
  | (n, k) :: r, acc, hn, ha, hd => by
    rw [List.map_cons, List.nodup_cons] at hn
    unfold closCells
    split
    · refine closCells_keys cells r _ hn.2 ?_ fun p hp => ?_
      · rw [List.map_cons, List.nodup_cons]; exact ⟨hd (n, k) List.mem_cons_self, ha⟩
      · rw [List.map_cons, List.mem_cons]
        rintro (h | h)
        · exact hn.1 (by rw [← h]; exact List.mem_map.mpr ⟨p, hp, rfl⟩)
        · exact hd p (List.mem_cons_of_mem _ hp) h
    · exact closCells_keys cells r acc hn.2 ha fun p hp => hd p (List.mem_cons_of_mem _ hp)

theorem kind_unique {l : List (Str × NameKind)} {n : Str} {a b : NameKind} (hn : (l.map (·.1)).Nodup) (h1 : (n, a) ∈ l) (h2 : (n, b) ∈ l) : a = b := by
  have e1 := lookup_of_mem hn h1
  have e2 := lookup_of_mem hn h2
  rw [e1] at e2; cases e2; rfl

theorem pw_of_keys {l : List (Str × Addr)} (hk : (l.map (·.1)).Nodup) (hi : ∀ p ∈ l, ∀ q ∈ l, p.2 = q.2 → p.1 = q.1) : l.Pairwise fun x y => x.2 ≠ y.2 := by
  induction l with
  | nil => exact .nil
  | cons p r ih =>
    rw [List.map_cons, List.nodup_cons] at hk
    refine List.pairwise_cons.mpr ⟨fun q hq e => hk.1 ?_, ih hk.2 fun a ha b hb => hi a (List.mem_cons_of_mem _ ha) b (List.mem_cons_of_mem _ hb)⟩
    rw [hi p List.mem_cons_self q (List.mem_cons_of_mem _ hq) e]
    exact List.mem_map.mpr ⟨q, hq, rfl⟩

section
variable {W : Wd} {F : Fm} {kp g g' g₁ g₂ : PHeap} {ρ ρ' : Ro} {s s' s₁ : Shared} {d d1 d2 : D} {ds es outs : List D} {v : Value} {b c : Bool} {A : Around} {i j : Int} {val : Str → Value} {x y z : Str} {pos p np apos : Pos} {out : Out}
  {st : Stmt} {sts body : List Stmt} {e test idx iter elt : Expr} {I : Addr} {o o' : Obj} {scope : Scope} {gens : List Comprehension}

theorem comp_clos_lookup (ok : ScopeOk F scope) (C : Addr) (hx : (x, NameKind.free) ∈ scope.names) {c : Addr} (hc : F.env.cells.lookup x = some c) : (compFm F scope C).env.cells.lookup x = some c := by
  show (cellsFrom (C + 1) scope.names (closCells F.env.cells scope.names [])).lookup x = some c
  rw [cellsFrom_acc, List.lookup_append]
  have h1 : (cellsFrom (C + 1) scope.names []).lookup x = none := by
    cases e : (cellsFrom (C + 1) scope.names []).lookup x with
    | none => rfl
    | some c' => exact absurd (kind_unique ok.nodup (cellsFrom_kind _ _ _ (PySem.mem_of_lookup e)) hx) (by decide)
  rw [h1, Option.none_or]
  obtain ⟨c', e'⟩ := lookup_some_of_mem (closCells_has F.env.cells scope.names [] x hx)
  rcases closCells_mem _ _ _ _ ok.clos (PySem.mem_of_lookup e') with h | h
  · cases h
  · rw [e']; exact h.2.symm.trans hc

theorem comp_canstore (ok : ScopeOk F scope) (C : Addr) (hx : scope.names.lookup x = some .local ∨ scope.names.lookup x = some .cell) : CanStore (compFm F scope C) x := by
  rcases hx with h | h
  · refine .inl ?_
    show (relabel scope F.env).names.lookup x = some .local
    rw [relabel_lookup, h]; rfl
  · refine .inr ⟨?_, ?_⟩
    · show (relabel scope F.env).names.lookup x = some .cell
      rw [relabel_lookup, h]; rfl
    · have hm := PySem.mem_of_lookup h
      have : ∀ (names : List (Str × NameKind)) (n : Nat), (x, NameKind.cell) ∈ names → ∃ c, (x, c) ∈ cellsFrom n names [] := by
        intro names
        induction names with
        | nil => intro n h; cases h
        | cons q r ih =>
          intro n h
          obtain ⟨m, k⟩ := q
          unfold cellsFrom
          rcases List.mem_cons.mp h with e | h
          · cases e
            rw [if_pos (show (NameKind.cell == NameKind.cell) = true from rfl), cellsFrom_acc]
            exact ⟨n, List.mem_append_right _ List.mem_cons_self⟩
          · split
            · obtain ⟨c, hc⟩ := ih (n + 1) h
              rw [cellsFrom_acc]
              exact ⟨c, List.mem_append_left _ hc⟩
            · exact ih n h
      obtain ⟨c, hc⟩ := this scope.names (C + 1) hm
      obtain ⟨c', hc'⟩ := lookup_some_of_mem hc
      refine ⟨c', ?_, ?_⟩
      · show (cellsFrom (C + 1) scope.names (closCells F.env.cells scope.names [])).lookup x = some c'
        rw [cellsFrom_acc, List.lookup_append, hc']; rfl
      · exact List.mem_map.mpr ⟨_, PySem.mem_of_lookup hc', rfl⟩

/-- the frame of a comprehension, as it is made -/
theorem comp_enter (ok : ScopeOk F scope) (X : Walk W F kp g ρ val s I ds) (a : Addr) (ha : a = s.heap.objs.size) (C : Addr) (hC : C = a + 1) (ob : Obj) (hob : ob = { cls := .type "list", data := .seq ([] : List Value).toArray }) :
    Walk W (compFm F scope C) (kset (fun b => if b = I then none else s.heap.get? b) a ob) g (capt ρ scope.names) val
      { s with heap := pushCells ((s.heap.push ob).push { cls := .type "dict", data := .dict #[] }) scope.names } I ds := by
  obtain ⟨oI, Y, hf⟩ := X.st
  have hsz1 : (s.heap.push ob).objs.size = C := by rw [Heap.size_push, hC, ha]
  have hsz2 : ((s.heap.push ob).push { cls := .type "dict", data := .dict #[] }).objs.size = C + 1 := by rw [Heap.size_push, hsz1]
  have ext : ∀ b o, s.heap.get? b = some o → (pushCells ((s.heap.push ob).push { cls := .type "dict", data := .dict #[] }) scope.names).get? b = some o := fun b o e =>
    pushCells_keeps _ _ _ _ (Heap.get?_push_of_some _ (Heap.get?_push_of_some _ e))
  have lt : ∀ b o, s.heap.get? b = some o → b < a := fun b o e => ha ▸ Heap.lt_size e
  have eI := Y.keep I oI kset_self
  have hIa : I ≠ a := Nat.ne_of_lt (lt _ _ eI)
  have gnone : ∀ b, a ≤ b → g b = none := fun b hb => by
    cases e : g b with
    | none => rfl
    | some o => exact absurd (lt b o (Y.gin _ _ e)) (Nat.not_lt.mpr hb)
  have knone : ∀ b, a < b → kset (kset (fun b => if b = I then none else s.heap.get? b) a ob) I oI b = none := fun b hb => by
    have h1 : b ≠ I := fun e => by rw [e] at hb; exact Nat.lt_asymm hb (lt _ _ eI)
    have h2 : b ≠ a := Nat.ne_of_gt hb
    unfold kset
    rw [if_neg h1, if_neg h2]
    show (if b = I then none else s.heap.get? b) = none
    rw [if_neg h1]
    cases e : s.heap.get? b with
    | none => rfl
    | some o => exact absurd (lt b o e) (Nat.not_lt.mpr (Nat.le_of_lt hb))
  have cok := cellsFrom_ok scope.names ((s.heap.push ob).push { cls := .type "dict", data := .dict #[] }) (C + 1) [] ⟨fun _ _ hm => (nomatch hm), List.Pairwise.nil⟩ (by rw [hsz2]; exact Nat.le_refl _)
  rw [hsz2] at cok
  have hnames : ∀ y sl, (capt ρ scope.names).lookup y = some sl → (∃ d, sl = .sh d) ∧ ρ.lookup y = some sl ∧ (y, NameKind.free) ∈ scope.names := fun y sl e => capt_mem ρ scope.names y sl (PySem.mem_of_lookup e)
  refine ⟨fun b o e => ?_, X.it.mono (Sub.refl g) fun o e => ext _ _ e, X.H, ⟨oI, ⟨⟨ok.kind, Y.ok.hd, ?_, Y.ok.glob, Y.ok.bi, Y.ok.deep, Y.ok.unit⟩, fun b o e => ?_, fun b o e => ?_, fun b o e => ext b o (Y.gin b o e), ?_, fun c hc => ?_, fun y sl e => ?_, fun y d e => Y.sh y d (hnames y _ e).2.1, fun y b ds e => ?_, ?_, fun c hc => ?_, fun x y b c ds es hxy e1 e2 => ?_, Y.toks, fun q hq => ?_⟩, hf⟩, X.gn, ?_⟩
  · -- base
    unfold kset
    rw [if_neg (Nat.ne_of_lt (lt b o (Y.keep b o (Y.base b o e))))]
    show (if b = I then none else s.heap.get? b) = some o
    rw [if_neg (by rintro rfl; rw [X.H] at e; cases e)]
    exact Y.keep b o (Y.base b o e)
  · -- apart
    show (cellsFrom (C + 1) scope.names (closCells F.env.cells scope.names [])).Pairwise fun x y => x.2 ≠ y.2
    rw [cellsFrom_acc]
    refine List.pairwise_append.mpr ⟨cok.apart, pw_of_keys (closCells_keys _ _ _ ok.nodup List.nodup_nil fun _ _ h => nomatch h) fun p hp q hq e => ?_, fun p hp q hq e => ?_⟩
    · rcases closCells_mem _ _ _ _ ok.clos hp with h | h
      · cases h
      rcases closCells_mem _ _ _ _ ok.clos hq with h' | h'
      · cases h'
      exact name_of_addr Y.ok.apart (PySem.mem_of_lookup h.2) (e ▸ PySem.mem_of_lookup h'.2)
    · have h1 := cellsFrom_ge _ _ _ hp
      rcases closCells_mem _ _ _ _ ok.clos hq with h' | h'
      · cases h'
      obtain ⟨v, ob', e', _⟩ := Y.cellA _ (PySem.mem_of_lookup h'.2)
      have h2 := lt _ _ e'
      simp only at h2
      rw [← e] at h2
      have h3 : a ≤ C + 1 := by rw [hC]; exact Nat.le_add_right a 2
      exact absurd (Nat.lt_of_lt_of_le h2 (Nat.le_trans h3 h1)) (Nat.lt_irrefl _)
  · -- base of the whole
    have h1 := lt b o (Y.keep b o (Y.base b o e))
    unfold kset
    rw [if_neg (by rintro rfl; rw [X.H] at e; cases e), if_neg (Nat.ne_of_lt h1)]
    show (if b = I then none else s.heap.get? b) = some o
    rw [if_neg (by rintro rfl; rw [X.H] at e; cases e)]
    exact Y.keep b o (Y.base b o e)
  · -- keep
    unfold kset at e
    by_cases h1 : b = I
    · subst h1; rw [if_pos rfl] at e; cases e; exact ext _ _ eI
    · rw [if_neg h1] at e
      by_cases h2 : b = a
      · subst h2; rw [if_pos rfl] at e; cases e
        exact pushCells_keeps _ _ _ _ (Heap.get?_push_of_some _ (by rw [ha]; exact Heap.get?_push_size _ (by rw [hob]; rfl)))
      · rw [if_neg h2] at e
        have e' : (if b = I then none else s.heap.get? b) = some o := e
        rw [if_neg h1] at e'
        exact ext b o e'
  · -- the locals
    refine ⟨_, Heap.Ns.keeps (m := fun _ => none) ?_ (pushCells_keeps _ _)⟩
    show ((s.heap.push ob).push { cls := .type "dict", data := .dict #[] }).Ns C fun _ => none
    rw [← hsz1]
    exact Heap.Ns.new (s.heap.push ob) (.type "dict")
  · obtain ⟨q, hq, rfl⟩ := List.mem_map.mp hc
    exact ⟨none, (cok.empty q.1 q.2 hq).1⟩
  · -- what is seen of the frame around
    obtain ⟨⟨d, rfl⟩, h2, h3⟩ := hnames y sl e
    have hfr := List.all_eq_true.mp ok.free _ h3
    have hkc : F.env.kindOf y = some .cell := by simpa using hfr
    rcases Y.var y _ h2 with ⟨kl, _⟩ | ⟨_, c, hc, hv⟩
    · rw [hkc] at kl; cases kl
    · refine .inr ⟨?_, c, comp_clos_lookup ok C h3 hc, hv.keeps ext⟩
      show (relabel scope F.env).names.lookup y = some .cell
      rw [relabel_lookup, lookup_of_mem ok.nodup h3, hkc, Y.ok.kind]; rfl
  · obtain ⟨⟨d, h⟩, _⟩ := hnames y _ e; cases h
  · exact ⟨knone C (by rw [hC]; exact Nat.lt_succ_self _), gnone C (by rw [hC]; exact Nat.le_succ _)⟩
  · obtain ⟨q, hq, rfl⟩ := List.mem_map.mp hc
    have := cellsFrom_ge _ _ _ hq
    have h3 : a < q.2 := Nat.lt_of_lt_of_le (by rw [hC]; exact Nat.lt_succ_of_lt (Nat.lt_succ_self a)) this
    exact ⟨knone q.2 h3, gnone q.2 (Nat.le_of_lt h3)⟩
  · obtain ⟨⟨d, h⟩, _⟩ := hnames x _ e1; cases h
  · -- all cells
    have hq' : q ∈ cellsFrom (C + 1) scope.names (closCells F.env.cells scope.names []) := hq
    rw [cellsFrom_acc] at hq'
    rcases List.mem_append.mp hq' with h | h
    · exact ⟨none, (cok.empty q.1 q.2 h).1⟩
    · rcases closCells_mem _ _ _ _ ok.clos h with h' | h'
      · cases h'
      · obtain ⟨v, hv⟩ := Y.cellA _ (PySem.mem_of_lookup h'.2)
        exact ⟨v, hv.keeps ext⟩
  · -- the walk's own place
    unfold kset
    rw [if_neg hIa]
    show (if I = I then none else s.heap.get? I) = none
    rw [if_pos rfl]

end

end

section

section
variable {W : Wd} {F : Fm} {kp g g' g₁ g₂ : PHeap} {ρ ρ' : Ro} {s s' s₁ : Shared} {d d1 d2 : D} {ds es outs : List D} {v : Value} {b c : Bool} {A : Around} {i j : Int} {val : Str → Value} {x y z : Str} {pos p np apos : Pos} {out : Out}
  {st : Stmt} {sts body : List Stmt} {e test idx iter elt : Expr} {I : Addr} {o o' : Obj} {scope : Scope} {gens : List Comprehension} {ifs : List Expr}

theorem compStart_at {prog : Program} {w : World} {R : Result → Shared → Prop} {it acc : Value} {env : Env} {depth : Nat} {g0 : Comprehension} (hg : gens[depth]? = some g0) (ha : g0.is_async = 0)
    (h0 : codeAny (model prog w) A (.compLoop (.ListComp elt gens scope pos) depth it acc env) R s)
    (h : wpAny (model prog w) A (pyIter it) (fun it' s' => codeAny (model prog w) A (.compLoop (.ListComp elt gens scope pos) depth it' acc env) R s') Nev s) :
    codeAny (model prog w) A (.compStart (.ListComp elt gens scope pos) depth it acc env) R s := by
  refine codeAny_of_tree ?_
  show wpAny _ A ((compStart (.ListComp elt gens scope pos) depth it acc env).onRaise (fun x => do noteFrame x env; standAt theWindowsPlace)) _ _ s
  refine wpAny_notedAt (nev ?_)
  unfold compStart
  have hc : (clausesOf (.ListComp elt gens scope pos))[depth]? = some g0 := hg
  rw [hc]
  simp only [Option.elim, ha, bne_self_eq_false, Bool.false_eq_true, if_false]
  show wpAny _ _ (ask >>= _) _ _ s
  refine wpAny_bind (wpAny_askSetting (wpAny_ite ?_))
  split
  · first
      | exact wpAny_bind (wpAny_pure (wpAny_pure (And.intro rfl h0)))
      | exact wpAny_pure (And.intro rfl h0)
  · refine wpAny_bind (wpAny_rule ?_)
    show wpAny _ _ (standAt g0.iter.pos >>= _) _ _ s
    exact wpAny_bind (wpAny_standAt (wpAny_bind (mono' h fun it' s' h' => wpAny_pure (And.intro rfl h'))))

/-- what stands behind a comprehension, before its names are let go -/
noncomputable def CompPost (W : Wd) (F : Fm) (kp g : PHeap) (ρ : Ro) (val : Str → Value) (s : Shared) (outs : List D) (acc : Value) (C : Addr) (r : Result) (s' : Shared) : Prop :=
  r = .ok .next ∧ ∃ oC g', (∃ m, s'.heap.Ns C m) ∧ (∀ v, oC.data ≠ .cell v) ∧ Gr kp g g' ∧ StV W F (kset kp C oC) g' ρ val s' ∧ kp C = none ∧ g' C = none ∧ Rep W g' acc (.list outs) ∧ Rst s s'

theorem comp_core (ok : ScopeOk F scope) (X : Walk W F kp g ρ val s I ds) {g0 : Comprehension} {gs : List Comprehension} (hg : gens = g0 :: gs) (ha : g0.is_async = 0) (hn : outs.length ≤ 1000)
    (hL : ∀ C, CompL W (compFm F scope C) (capt ρ scope.names) (.ListComp elt gens scope pos) 0 ds outs) :
    wpAny (model W.prog W.w) F.A (newList []) (fun acc s₃ => wpAny (model W.prog W.w) F.A (newFunctionEnv scope F.env.globals (closCells F.env.cells scope.names []) [] F.env.qual none .none (some F.env)) (fun cenv s₄ =>
      codeAny (model W.prog W.w) F.A (.compStart (.ListComp elt gens scope pos) 0 (.ref I) acc { cenv with scope := relabel scope F.env }) (CompPost W F kp g ρ val s outs acc cenv.locals) s₄) Nev s₃) Nev s := by
  refine wpAny_newObj_type (wp_compEnv ?_)
  generalize hob : ({ cls := .type "list", data := .seq ([] : List Value).toArray } : Obj) = ob
  have hC : (s.heap.push ob).objs.size = s.heap.objs.size + 1 := Heap.size_push ..
  have Z := comp_enter ok X s.heap.objs.size rfl (s.heap.objs.size + 1) rfl ob hob.symm
  have lt : ∀ b o, s.heap.get? b = some o → b < s.heap.objs.size := fun b o e => Heap.lt_size e
  obtain ⟨oI, Y, hf⟩ := X.st
  have eI := Y.keep I oI kset_self
  have fr := fresh_none s.heap
  have hH : W.H.get? s.heap.objs.size = none := by
    cases e : W.H.get? s.heap.objs.size with
    | none => rfl
    | some o => have := Y.keep _ _ (Y.base _ _ e); rw [fr] at this; cases this
  have hgn : g s.heap.objs.size = none := by
    cases e : g s.heap.objs.size with
    | none => rfl
    | some o => rw [Y.gin _ _ e] at fr; cases fr
  have hIa : I ≠ s.heap.objs.size := Nat.ne_of_lt (lt _ _ eI)
  have hbase : ∀ b o, W.H.get? b = some o → (if b = I then none else s.heap.get? b) = some o := fun b o e => by
    rw [if_neg (by rintro rfl; rw [X.H] at e; cases e)]
    exact Y.keep b o (Y.base b o e)
  have hAcc : Acc W (fun b => if b = I then none else s.heap.get? b) g s.heap.objs.size ob [] [] := ⟨by
      show (if _ = I then none else s.heap.get? _) = none
      rw [if_neg (Ne.symm hIa)]; exact fr, hgn, hH, ⟨0, hob.symm⟩, .nil⟩
  have hloop : ∀ env : Env, env = (compFm F scope (s.heap.objs.size + 1)).env → codeAny (model W.prog W.w) F.A (.compLoop (.ListComp elt gens scope pos) 0 (.ref I) (.ref s.heap.objs.size) env)
      (CompPost W F kp g ρ val s outs (.ref s.heap.objs.size) (s.heap.objs.size + 1)) { s with heap := pushCells ((s.heap.push ob).push { cls := .type "dict", data := .dict #[] }) scope.names } := by
    rintro env rfl
    refine codeAny_mono ((hL (s.heap.objs.size + 1)).run _ g val _ I s.heap.objs.size ob [] [] hbase Z hAcc hIa (by simpa using hn)) ?_
    rintro r s₅ ⟨er, g₅, val₅, o₅, vs₅, G₅, Z₅, C₅, r₅⟩
    rw [List.nil_append] at C₅
    obtain ⟨m, hm⟩ := Z₅.ns
    obtain ⟨oC, hoC⟩ := Ns.some hm
    have keep5 : ∀ b ob, b ≠ I → s.heap.get? b = some ob → s₅.heap.get? b = some ob := fun b ob' hb e => by
      refine Z₅.keep b ob' ?_
      unfold kset
      rw [if_neg (Nat.ne_of_lt (lt b ob' e))]
      show (if b = I then none else s.heap.get? b) = some ob'
      rw [if_neg hb]; exact e
    have hnew : ∀ b, b ≠ I → b ≠ s.heap.objs.size → g₅ b ≠ none → g b ≠ none ∨ s.heap.get? b = none := fun b h1 h2 h3 => (G₅.2 b h3).imp id fun e => by
      have e' : (if b = I then none else s.heap.get? b) = none := e
      rw [if_neg h1] at e'; exact e'
    have hg5 : ∀ b, gadd g₅ s.heap.objs.size o₅ b ≠ none → b = s.heap.objs.size ∨ g₅ b ≠ none := fun b h => by
      unfold gadd at h
      by_cases hb : b = s.heap.objs.size
      · exact .inl hb
      · rw [if_neg hb] at h; exact .inr h
    have hCn : kp (s.heap.objs.size + 1) = none := by
      cases e : kp (s.heap.objs.size + 1) with
      | none => rfl
      | some o => exact absurd (lt _ _ (Y.keep _ _ (sub_kset X.kn _ _ e))) (Nat.not_lt.mpr (Nat.le_succ _))
    have hgC : g₅ (s.heap.objs.size + 1) = none := Z₅.loff.2
    have sub5 : Sub g₅ (gadd g₅ s.heap.objs.size o₅) := gadd_sub o₅ C₅.gn
    have gr : Gr kp g (gadd g₅ s.heap.objs.size o₅) := ⟨G₅.1.trans sub5, fun b h => by
      rcases hg5 b h with rfl | h'
      · refine .inr ?_
        cases e : kp s.heap.objs.size with
        | none => rfl
        | some o => have := Y.keep _ _ (sub_kset X.kn _ _ e); rw [fr] at this; cases this
      · by_cases hb : b = I
        · subst hb; exact .inr X.kn
        · by_cases hb2 : b = s.heap.objs.size
          · subst hb2; exact absurd C₅.gn h'
          · refine (hnew b hb hb2 h').imp id fun e => ?_
            cases e' : kp b with
            | none => rfl
            | some o => have := Y.keep _ _ (sub_kset X.kn _ _ e'); rw [e] at this; cases this⟩
    refine ⟨er, oC, gadd g₅ s.heap.objs.size o₅, ⟨m, hm⟩, fun v e => ?_, gr, ?_, hCn, ?_, ?_, ⟨r₅.1, r₅.2.1, r₅.2.2⟩⟩
    · obtain ⟨o2, es, ep, ho2, hd2, _⟩ := hm
      rw [hoC] at ho2; cases ho2; rw [hd2] at e; cases e
    · refine Y.leave (s' := s₅) (fields_noCell hf) keep5 (G₅.1.trans sub5) (fun b ob' e => ?_) (fun b hb h => ?_) (fun b ob' e => sub_kset hCn _ _ (X.base b ob' e)) (fun b ob' e => ?_) (fun z ob' e h1 h2 => ?_) Z₅.toks
      · unfold gadd at e
        by_cases hb : b = s.heap.objs.size
        · subst hb; rw [if_pos rfl] at e; cases e; exact Z₅.keep _ _ kset_self
        · rw [if_neg hb] at e; exact Z₅.gin b ob' e
      · rcases hg5 b h with rfl | h'
        · exact .inr fr
        · by_cases hb2 : b = s.heap.objs.size
          · subst hb2; exact .inr fr
          · exact hnew b hb hb2 h'
      · unfold kset at e
        by_cases hb : b = s.heap.objs.size + 1
        · subst hb; rw [if_pos rfl] at e; cases e; exact hoC
        · rw [if_neg hb] at e
          have e1 := sub_kset (I := I) (o := oI) X.kn _ _ e
          exact keep5 b ob' (by rintro rfl; rw [X.kn] at e; cases e) (Y.keep _ _ e1)
      · unfold kset
        rw [if_neg (Nat.ne_of_lt (Nat.lt_succ_of_lt (lt z ob' e)))]
        exact h2
    · unfold gadd
      rw [if_neg (Nat.succ_ne_self _)]; exact hgC
    · obtain ⟨n₅, ho₅⟩ := C₅.ob
      exact .list ⟨o₅, gadd_self _ _ _, by rw [ho₅], n₅, by rw [ho₅]⟩ (C₅.rep.mono sub5)
  have henv : ∀ q : Addr, q = s.heap.objs.size + 1 → ({ (newEnv scope q F.env.globals (cellsFrom (q + 1) scope.names (closCells F.env.cells scope.names [])) F.env.qual none .none (some F.env) builtinsNs) with scope := relabel scope F.env } : Env) = (compFm F scope (s.heap.objs.size + 1)).env := fun q h => by
    subst h; rfl
  refine compStart_at (g0 := g0) (by rw [hg]; rfl) ha (codeAny_mono (hloop _ (henv _ hC)) fun r s' h => ?_) (walk_self Z (codeAny_mono (hloop _ (henv _ hC)) fun r s' h => ?_))
  · show CompPost W F kp g ρ val s outs (.ref s.heap.objs.size) (s.heap.push ob).objs.size r s'
    rw [hC]; exact h
  · show CompPost W F kp g ρ val s outs (.ref s.heap.objs.size) (s.heap.push ob).objs.size r s'
    rw [hC]; exact h

end

end

section

section
variable {W : Wd} {F : Fm} {kp g g' g₁ g₂ : PHeap} {ρ ρ' : Ro} {s s' s₁ : Shared} {d d1 d2 : D} {ds es outs : List D} {v : Value} {b c : Bool} {A : Around} {i j : Int} {val : Str → Value} {x y z : Str} {pos p np apos spos : Pos} {out : Out}
  {st : Stmt} {sts body : List Stmt} {e test idx iter elt : Expr} {I : Addr} {o o' : Obj} {scope : Scope} {gens gs : List Comprehension} {ifs : List Expr}

theorem scope_locals (ok : ScopeOk F scope) : ∀ x ∈ scope.names, x.2 = .local → scope.names.lookup x.1 = some .local := fun x hx h => lookup_of_mem ok.nodup (by rw [← h]; exact hx)

theorem ev_compG (ok : ScopeOk F scope) (hi : EvE W F ρ iter d) (hd : Iter d ds) (hr : ∀ a b, d = .range a b → Builtin.Range.small a b 1 = true) (hn : outs.length ≤ 1000)
    (hL : ∀ C, CompL W (compFm F scope C) (capt ρ scope.names) (.ListComp elt (⟨.Name x p, iter, ifs, 0⟩ :: gs) scope pos) 0 ds outs)
    (hs : ∀ x, foldedSetIterable iter F.env x = pure x := by intro _; rfl) : EvE W F ρ (.ListComp elt (⟨.Name x p, iter, ifs, 0⟩ :: gs) scope pos) (.list outs) := .mk fun kp g val s X => by
  rw [eval_ListComp]
  show wpAny _ _ (comprehension _ scope F.env _ (newList []) false (eval iter F.env)) _ _ s
  refine wpAny_comprehension_free (use := none) rfl hs (closureFor_eq ok.clos) ok.kind (scope_locals ok) (mono' (hi.run kp g val s X) fun v s₁ ⟨g₁, G₁, X₁, R₁, r₁⟩ => mono' (walk_make X₁ R₁ hd hr) fun it s₂ ⟨I, e, Y, r₂⟩ => ?_)
  subst e
  refine mono' (comp_core ok Y rfl rfl hn hL) fun acc s₃ h₃ => mono' h₃ fun cenv s₄ h₄ => codeAny_mono h₄ ?_
  rintro r s₅ ⟨rfl, oC, g₅, ⟨m, hm⟩, hoc, G₅, X₅, hkn, hgn, R₅, r₅⟩
  refine ⟨m, hm, fun h' hs' => ⟨g₅, G₁.trans G₅, ?_, R₅, ((r₁.trans r₂).trans r₅).trans ⟨rfl, rfl, rfl⟩⟩⟩
  exact X₅.kend (tk := s₅.toks) Y.base hkn hgn hoc X₅.toks hs'.extBut

theorem flat_filter {ds : List D} (q : D → Bool) (f : D → D) : ds.flatMap (fun d => if q d then [f d] else []) = (ds.filter q).map f := by
  induction ds with
  | nil => rfl
  | cons d ds ih =>
    rw [List.flatMap_cons, ih, List.filter_cons]
    cases q d <;> rfl

/-- a comprehension of one clause -/
theorem ev_comp (ok : ScopeOk F scope) (hi : EvE W F ρ iter d) (hd : Iter d ds) (hr : ∀ a b, d = .range a b → Builtin.Range.small a b 1 = true) (hx : scope.names.lookup x = some .local ∨ scope.names.lookup x = some .cell) (hxρ : (capt ρ scope.names).lookup x = none)
    (q : D → Bool) (f : D → D) (hn : ds.length ≤ 1000)
    (h1 : ∀ C, ∀ d ∈ ds, EvIfs W (compFm F scope C) (rset (capt ρ scope.names) x (.sh d)) ifs (q d))
    (h2 : ∀ C, ∀ d ∈ ds, q d = true → EvE W (compFm F scope C) (rset (capt ρ scope.names) x (.sh d)) elt (f d))
    (hs : ∀ x, foldedSetIterable iter F.env x = pure x := by intro _; rfl) : EvE W F ρ (.ListComp elt [⟨.Name x p, iter, ifs, 0⟩] scope pos) (.list ((ds.filter q).map f)) := by
  have e := (flat_filter (ds := ds) q f).symm
  rw [e]
  refine ev_compG ok hi hd hr ?_ (fun C => comp_loop (turn1 elt iter x p ifs scope pos) (comp_canstore ok C hx) hxρ q (fun d => [f d]) ds (h1 C) fun d hd hq => act_emit (h2 C d hd hq)) hs
  rw [← e, List.length_map]
  exact Nat.le_trans (List.length_filter_le _ _) hn

/-- a comprehension, put straight into a local name -/
theorem xs_compG (ok : ScopeOk F scope) (hi : EvE W F ρ iter d) (hd : Iter d ds) (hr : ∀ a b, d = .range a b → Builtin.Range.small a b 1 = true) (hn : outs.length ≤ 1000) (hy : CanStore F y)
    (hL : ∀ C, CompL W (compFm F scope C) (capt ρ scope.names) (.ListComp elt (⟨.Name x p, iter, ifs, 0⟩ :: gs) scope pos) 0 ds outs)
    (hsw : swapsWith (.ListComp elt (⟨.Name x p, iter, ifs, 0⟩ :: gs) scope pos) (some (.Name y np)) spos.line F.env = pure true := by rfl)
    (hs : ∀ x, foldedSetIterable iter F.env x = pure x := by intro _; rfl) : ExS W F ρ (.Assign [.Name y np] (.ListComp elt (⟨.Name x p, iter, ifs, 0⟩ :: gs) scope pos) spos) (.next (rset ρ y (.sh (.list outs)))) := .mk fun kp g val s X => by
  rw [exec_Assign_Name_used _ _ _ _ hsw]
  refine wpAny_bind (wpAny_standAt (wpAny_bind ?_))
  show wpAny _ _ (do let _ ← comprehension (.ListComp elt (⟨.Name x p, iter, ifs, 0⟩ :: gs) scope pos) scope F.env _ (newList []) false (eval iter F.env) (some (assign (.Name y np) F.env))) _ _ s
  refine wpAny_bind (mono' (wpAny_comprehension_free (use := some (assign (.Name y np) F.env)) (Q := fun _ s' => PO W F kp g s (.next (rset ρ y (.sh (.list outs)))) .next s') rfl hs (closureFor_eq ok.clos) ok.kind (scope_locals ok)
    (mono' (hi.run kp g val s X) fun v s₁ ⟨g₁, G₁, X₁, R₁, r₁⟩ => mono' (walk_make X₁ R₁ hd hr) fun it s₂ ⟨I, e, Y, r₂⟩ => ?_)) fun _ s' hq => wpAny_pure (wpAny_pure hq))
  subst e
  refine mono' (comp_core ok Y rfl rfl hn hL) fun acc s₃ h₃ => mono' h₃ fun cenv s₄ h₄ => codeAny_mono h₄ ?_
  rintro r s₅ ⟨rfl, oC, g₅, ⟨m, hm⟩, hoc, G₅, X₅, hkn, hgn, R₅, r₅⟩
  show wpAny _ _ (assign (.Name y np) F.env acc) _ _ s₅
  refine wpAny_assign_Name (X₅.store hy (sl := .sh (.list outs)) R₅ fun s₆ X₆ r₆ => ?_)
  refine ⟨m, hm.at' fun o e => ?_, fun h' hs' => ⟨g₅, G₁.trans G₅, (((r₁.trans r₂).trans r₅).trans r₆).trans ⟨rfl, rfl, rfl⟩, rfl, _, X₆.kend (tk := s₆.toks) Y.base hkn hgn hoc X₆.toks hs'.extBut⟩⟩
  rw [X₅.keep _ _ kset_self] at e; cases e
  exact X₆.keep _ _ kset_self

theorem xs_comp (ok : ScopeOk F scope) (hi : EvE W F ρ iter d) (hd : Iter d ds) (hr : ∀ a b, d = .range a b → Builtin.Range.small a b 1 = true) (hy : CanStore F y) (hx : scope.names.lookup x = some .local ∨ scope.names.lookup x = some .cell) (hxρ : (capt ρ scope.names).lookup x = none)
    (q : D → Bool) (f : D → D) (hn : ds.length ≤ 1000)
    (h1 : ∀ C, ∀ d ∈ ds, EvIfs W (compFm F scope C) (rset (capt ρ scope.names) x (.sh d)) ifs (q d))
    (h2 : ∀ C, ∀ d ∈ ds, q d = true → EvE W (compFm F scope C) (rset (capt ρ scope.names) x (.sh d)) elt (f d))
    (hsw : swapsWith (.ListComp elt [⟨.Name x p, iter, ifs, 0⟩] scope pos) (some (.Name y np)) spos.line F.env = pure true := by rfl)
    (hs : ∀ x, foldedSetIterable iter F.env x = pure x := by intro _; rfl) : ExS W F ρ (.Assign [.Name y np] (.ListComp elt [⟨.Name x p, iter, ifs, 0⟩] scope pos) spos) (.next (rset ρ y (.sh (.list ((ds.filter q).map f))))) := by
  rw [← flat_filter]
  refine xs_compG ok hi hd hr ?_ hy (fun C => comp_loop (turn1 elt iter x p ifs scope pos) (comp_canstore ok C hx) hxρ q (fun d => [f d]) ds (h1 C) fun d hd hq => act_emit (h2 C d hd hq)) hsw hs
  rw [flat_filter, List.length_map]
  exact Nat.le_trans (List.length_filter_le _ _) hn

/-- the inner clause, as what the outer one does in a turn -/
theorem act_nest {iter1 : Expr} {el : Expr} {gens : List Comprehension} {g1 : Comprehension} (hg : gens[1]? = some g1) (ha : g1.is_async = 0) (hi : EvE W F ρ iter1 d) (hd : Iter d ds) (hr : ∀ a b, d = .range a b → Builtin.Range.small a b 1 = true)
    (hL : CompL W F ρ (.ListComp el gens scope pos) 1 ds outs) (hs : ∀ x, foldedSetIterable iter1 F.env x = pure x := by intro _; rfl) :
    Act W F ρ (fun acc => do
      let x₁ ← eval iter1 F.env
      standAt iter1.pos
      let x₂ ← foldedSetIterable iter1 F.env x₁
      let it ← holding [x₂] (pyIter x₂)
      let _ ← runOwn (.compStart (.ListComp el gens scope pos) 1 it acc F.env) F.env) outs := fun kp g val s a o vs acc hb X C hn => by
  refine wpAny_bind (mono' (hi.run _ _ _ _ X) fun v s₁ ⟨g₁, G₁, X₁, R₁, r₁⟩ => wpAny_bind (wpAny_standAt (wpAny_bind (wpAny_of_eq (hs v) (wpAny_bind (wpAny_holding (mono' (walk_make X₁ R₁ hd hr) fun it s₂ ⟨I, e, Y, r₂⟩ => ?_)))))))
  subst e
  have C₁ := C.mono G₁
  have hIa : I ≠ a := by
    rintro rfl
    have := Y.kn
    rw [kset_self] at this; cases this
  have fin : codeAny (model W.prog W.w) F.A (.compStart (.ListComp el gens scope pos) 1 (.ref I) (.ref a) F.env) (fun r s' => r = .ok .next ∧ PA W F kp g s ρ a (acc ++ outs) s') s₂ := by
    have lp := codeAny_mono (hL.run kp g₁ val s₂ I a o vs acc hb Y C₁ hIa hn) (R' := fun r s' => r = .ok .next ∧ PA W F kp g s ρ a (acc ++ outs) s') (by
      rintro r s₃ ⟨e, g₃, val₃, o₃, vs₃, G₃, X₃, C₃, r₃⟩
      exact ⟨e, g₃, val₃, o₃, vs₃, (G₁.weaken (sub_kset C.kn)).trans G₃, X₃, C₃, (r₁.trans r₂).trans r₃⟩)
    exact compStart_at hg ha lp (walk_self Y lp)
  refine wpAny_bind (wpAny_runOwn (codeAny_mono fin ?_))
  rintro r s₃ ⟨e, q⟩
  subst e
  exact wpAny_pure q

/-- a comprehension of two clauses, without tests -/
theorem ev_comp2 {iter1 : Expr} {p1 : Pos} (ok : ScopeOk F scope) (hi : EvE W F ρ iter d) (hd : Iter d ds) (hr : ∀ a b, d = .range a b → Builtin.Range.small a b 1 = true) (hx : scope.names.lookup x = some .local ∨ scope.names.lookup x = some .cell) (hy : scope.names.lookup y = some .local ∨ scope.names.lookup y = some .cell)
    (hxρ : (capt ρ scope.names).lookup x = none) (hyρ : ∀ d, (rset (capt ρ scope.names) x (.sh d)).lookup y = none)
    (m : D → D) (ls : D → List D) (f : D → D → D) (hm : ∀ d ∈ ds, Iter (m d) (ls d) ∧ ∀ a b, m d = .range a b → Builtin.Range.small a b 1 = true)
    (hn : (ds.flatMap fun d => (ls d).map (f d)).length ≤ 1000)
    (h1 : ∀ C, ∀ d ∈ ds, EvE W (compFm F scope C) (rset (capt ρ scope.names) x (.sh d)) iter1 (m d))
    (h2 : ∀ C, ∀ d ∈ ds, ∀ e ∈ ls d, EvE W (compFm F scope C) (rset (rset (capt ρ scope.names) x (.sh d)) y (.sh e)) elt (f d e))
    (hs : ∀ x, foldedSetIterable iter F.env x = pure x := by intro _; rfl) (hs1 : ∀ env x, foldedSetIterable iter1 env x = pure x := by intro _ _; rfl) :
    EvE W F ρ (.ListComp elt [⟨.Name x p, iter, [], 0⟩, ⟨.Name y p1, iter1, [], 0⟩] scope pos) (.list (ds.flatMap fun d => (ls d).map (f d))) := by
  refine ev_compG ok hi hd hr hn (fun C => ?_) hs
  have := comp_loop (W := W) (F := compFm F scope C) (turn3 elt iter iter1 x y p p1 [] [] scope pos) (comp_canstore ok C hx) hxρ (fun _ => true) (fun d => (ls d).map (f d)) ds (fun d hd => ifs_nil) (fun d hd _ => by
    refine act_nest (g1 := ⟨.Name y p1, iter1, [], 0⟩) rfl rfl (h1 C d hd) (hm d hd).1 (hm d hd).2 ?_ (hs1 _)
    have q := comp_loop (W := W) (F := compFm F scope C) (turn2 elt iter1 y p1 [] ⟨.Name x p, iter, [], 0⟩ scope pos) (comp_canstore ok C hy) (hyρ d) (fun _ => true) (fun e => [f d e]) (ls d) (fun d hd => ifs_nil) (fun e he _ => act_emit (h2 C d hd e he))
    rw [flat_filter, List.filter_eq_self.mpr (fun _ _ => rfl)] at q
    exact q)
  simpa using this

end

end

section

/-! ### functions of the text -/
structure FnAt (W : Wd) (name : Str) (params : Arguments) (body : List Stmt) (scope : Scope) (f : Addr) : Prop where
  at' : ∃ o pm cd doc, W.H.get? f = some o ∧ o.data = .func (Calls.docDef name params body scope pm cd doc) ∧ W.H.CodeRec cd name
  lim : W.H.NoLimit

noncomputable def fnFm (name : Str) (scope : Scope) (L f : Addr) (cd : Value) (A : Around) (n : Nat) : Fm where
  env := envOfC name scope L f cd
  A := A.deeper (envOfC name scope L f cd)
  own := (cellsFrom (L + 1) scope.names []).map (·.2)
  n := n

theorem FnAt.isFn {W : Wd} {name params body scope f} (h : FnAt W name params body scope f) : IsFn W f := by
  obtain ⟨o, pm, cd, doc, ho, hd, _⟩ := h.at'
  exact ⟨o, _, ho, hd⟩

theorem cellsFrom_has : ∀ (names : List (Str × NameKind)) (n : Nat) (x : Str), (x, NameKind.cell) ∈ names → ∃ c, (cellsFrom n names []).lookup x = some c
  | [], _, _, h => nomatch h
  | (m, k) :: r, n, x, h => by
    unfold cellsFrom
    rcases List.mem_cons.mp h with e | h
    · cases e
      rw [if_pos (show (NameKind.cell == NameKind.cell) = true from rfl), cellsFrom_acc]
      exact lookup_some_of_mem (List.mem_append_right _ List.mem_cons_self)
    · split
      · obtain ⟨c, hc⟩ := cellsFrom_has r (n + 1) x h
        rw [cellsFrom_acc]
        exact lookup_some_of_mem (List.mem_append_left _ (PySem.mem_of_lookup hc))
      · exact cellsFrom_has r n x h

theorem cellsFrom_nodup : ∀ (names : List (Str × NameKind)) (n : Nat), (names.map (·.1)).Nodup → ((cellsFrom n names []).map (·.1)).Nodup
  | [], _, _ => List.nodup_nil
  | (m, k) :: r, n, h => by
    rw [List.map_cons, List.nodup_cons] at h
    unfold cellsFrom
    split
    · rw [cellsFrom_acc, List.map_append, List.nodup_append]
      refine ⟨cellsFrom_nodup r (n + 1) h.2, List.nodup_cons.mpr ⟨List.not_mem_nil, List.nodup_nil⟩, ?_⟩
      intro a ha b hb e
      rw [List.map_cons, List.map_nil, List.mem_singleton] at hb
      subst hb; subst e
      obtain ⟨q, hq, e⟩ := List.mem_map.mp ha
      exact h.1 (e ▸ List.mem_map.mpr ⟨_, cellsFrom_kind _ _ _ hq, rfl⟩)
    · exact cellsFrom_nodup r n h.2

theorem bindL_at (kindOf : Str → Option NameKind) : ∀ (names : List Str) (vs : List Value) (m : Str → Option Value) (x : Str) (v : Value), names.Nodup → (names.zip vs).lookup x = some v → kindOf x = some .local → bindL kindOf (names.zip vs) m x = some v
  | [], _, _, _, _, _, h, _ => by rw [List.zip_nil_left] at h; cases h
  | _ :: _, [], _, _, _, _, h, _ => by rw [List.zip_nil_right] at h; cases h
  | n :: ns, u :: us, m, x, v, hn, h, hk => by
    rw [List.nodup_cons] at hn
    rw [List.zip_cons_cons] at h ⊢
    unfold bindL
    rw [List.lookup_cons] at h
    by_cases e : x = n
    · subst e
      rw [beq_self_eq_true] at h
      cases h
      rw [if_pos hk]
      have : ∀ (ns : List Str) (us : List Value) (m : Str → Option Value), x ∉ ns → bindL kindOf (ns.zip us) m x = m x := by
        intro ns
        induction ns with
        | nil => intro us m _; rw [List.zip_nil_left]; rfl
        | cons a as ih =>
          intro us m hx
          cases us with
          | nil => rw [List.zip_nil_right]; rfl
          | cons b bs =>
            rw [List.mem_cons, not_or] at hx
            rw [List.zip_cons_cons]
            unfold bindL
            rw [ih bs _ hx.2]
            split
            · exact if_neg hx.1
            · rfl
      rw [this ns us _ hn.1]
      exact if_pos rfl
    · rw [beq_eq_false_iff_ne.mpr e] at h
      exact bindL_at kindOf ns us _ x v hn.2 h hk

theorem bindC_at (kindOf : Str → Option NameKind) : ∀ (names : List Str) (vs : List Value) (m : Str → Option Value) (x : Str) (v : Value), names.Nodup → (names.zip vs).lookup x = some v → kindOf x = some .cell → bindC kindOf (names.zip vs) m x = some v
  | [], _, _, _, _, _, h, _ => by rw [List.zip_nil_left] at h; cases h
  | _ :: _, [], _, _, _, _, h, _ => by rw [List.zip_nil_right] at h; cases h
  | n :: ns, u :: us, m, x, v, hn, h, hk => by
    rw [List.nodup_cons] at hn
    rw [List.zip_cons_cons] at h ⊢
    unfold bindC
    rw [List.lookup_cons] at h
    by_cases e : x = n
    · subst e
      rw [beq_self_eq_true] at h
      cases h
      rw [if_neg (by rw [hk]; decide)]
      have : ∀ (ns : List Str) (us : List Value) (m : Str → Option Value), x ∉ ns → bindC kindOf (ns.zip us) m x = m x := by
        intro ns
        induction ns with
        | nil => intro us m _; rw [List.zip_nil_left]; rfl
        | cons a as ih =>
          intro us m hx
          cases us with
          | nil => rw [List.zip_nil_right]; rfl
          | cons b bs =>
            rw [List.mem_cons, not_or] at hx
            rw [List.zip_cons_cons]
            unfold bindC
            rw [ih bs _ hx.2]
            split
            · rfl
            · exact if_neg hx.1
      rw [this ns us _ hn.1]
      exact if_pos rfl
    · rw [beq_eq_false_iff_ne.mpr e] at h
      exact bindC_at kindOf ns us _ x v hn.2 h hk

theorem zip_look {W : Wd} {g : PHeap} : ∀ (names : List Str) (vs : List Value) (ds : List D) (x : Str) (sl : Sl), RepL W g vs ds → (names.zip (ds.map .sh)).lookup x = some sl →
    x ∈ names ∧ ∃ v d, sl = .sh d ∧ (names.zip vs).lookup x = some v ∧ Rep W g v d
  | [], _, _, _, _, _, h => by rw [List.zip_nil_left] at h; cases h
  | _ :: _, _, [], _, _, _, h => by rw [List.map_nil, List.zip_nil_right] at h; cases h
  | n :: ns, vs, d :: ds, x, sl, R, h => by
    cases R with
    | cons r R =>
      rw [List.map_cons, List.zip_cons_cons, List.lookup_cons] at h
      rw [List.zip_cons_cons, List.lookup_cons]
      by_cases e : x = n
      · subst e
        rw [beq_self_eq_true] at h ⊢
        cases h
        exact ⟨List.mem_cons_self, _, d, rfl, rfl, r⟩
      · rw [beq_eq_false_iff_ne.mpr e] at h ⊢
        obtain ⟨h1, h2⟩ := zip_look ns _ ds x sl R h
        exact ⟨List.mem_cons_of_mem _ h1, h2⟩

/-- the tables of a function are in order -/
structure FnOk (params : Arguments) (scope : Scope) (names : List Str) : Prop where
  bind : ∀ name body pm cd doc vs, vs.length = names.length → bindArgs (Calls.docDef name params body scope pm cd doc) ⟨vs, []⟩ = pure (names.zip vs)
  keys : (scope.names.map (·.1)).Nodup
  args : names.Nodup
  kinds : ∀ x ∈ names, scope.names.lookup x = some .local ∨ scope.names.lookup x = some .cell
  co : scope.isCoroutine = false
  gen : scope.isGenerator = false
  kind : scope.kind = .function

section
variable {W : Wd} {name : Str} {params : Arguments} {body : List Stmt} {scope : Scope} {f : Addr} {names : List Str} {ds : List D} {d : D} {n : Nat}

theorem call_tok {prog : Program} {w : World} {A : Around} {s : Shared} {R : Result → Shared → Prop} {a : Addr} {o : Obj} {fd : FuncData} {body : List Stmt} {vals : List Value} {binds : List (Str × Value)}
    (hroom : A.depth < recursionLimit) (ho : s.heap.get? a = some o) (hdata : o.data = .func fd) (hlim : s.heap.NoLimit) (hcd : s.heap.CodeRec fd.code fd.qualname)
    (hbody : fd.body = .stmts body) (hbind : bindArgs fd ⟨vals, []⟩ = pure binds) (hclo : fd.closure = []) (ht : 1 ≤ s.toks)
    (hkind : ∀ x ∈ binds, fd.scope.names.lookup x.1 = some .local ∨ (fd.scope.names.lookup x.1 = some .cell ∧ ((cellsFrom (s.heap.objs.size + 1) fd.scope.names []).lookup x.1).isSome = true))
    (h : ∀ s₁, InCallC s (callEnvC fd s.heap.objs.size a).locals (bindL (callEnvC fd s.heap.objs.size a).kindOf binds fun _ => none) (callEnvC fd s.heap.objs.size a).cells
        (bindC (callEnvC fd s.heap.objs.size a).kindOf binds fun _ => none) s₁ → 1 ≤ s₁.toks →
      wpAny (model prog w) (A.deeper (callEnvC fd s.heap.objs.size a)) (execs body (callEnvC fd s.heap.objs.size a)) (fun f s' => R (.ok (.ret (match f with | .ret v => v | _ => .none))) s')
        (fun e s' => wpAny (model prog w) (A.deeper (callEnvC fd s.heap.objs.size a)) (leaving (callEnvC fd s.heap.objs.size a) e) (fun _ s'' => R (.error e) s'') (fun e' s'' => R (.error e') s'') s') s₁)
    (hco : fd.scope.isCoroutine = false) (hgen : fd.scope.isGenerator = false) (hk : fd.scope.kind = .function) :
    codeAny (model prog w) A (.call (.ref a) ⟨vals, []⟩) R s := by
  refine codeAny_call_function hroom ho hdata hco hgen hbody hcd ?_
  rw [hbind, hclo]
  refine wpAny_pure (wpAny_with_toks ht (wpAny_newFunctionEnv_cells hk hkind fun env he s' x htk => ?_))
  subst he
  exact ⟨hlim.keeps x.toInCall.keep, codeAny_func (h s' x htk)⟩

theorem fn_entry (hf : FnAt W name params body scope f) (ok : FnOk params scope names) (hl : ds.length = names.length)
    (h : ∀ L cd A, ExB W (fnFm name scope L f cd A n) (names.zip (ds.map .sh)) body (.ret d)) : FnC W f (n + 1) ds d := fun A g s vs hh hdp hun hb hg ht R => by
  obtain ⟨o, pm, cd, doc, ho, hd, hcd⟩ := hf.at'
  have hvl : vs.length = names.length := R.length.trans hl
  have fr := fresh_none s.heap
  have hzip : ∀ x ∈ names.zip vs, x.1 ∈ names := fun x hx => (List.of_mem_zip hx).1
  refine wpAny_call (call_tok (fd := Calls.docDef name params body scope pm cd doc) (by show A.depth < 1000; omega) (hb _ _ ho) hd (hf.lim.keeps hb) (hcd.keeps hb) rfl (ok.bind _ _ _ _ _ vs hvl) rfl ht
    (fun x hx => (ok.kinds _ (hzip x hx)).imp id fun h => ⟨h, ?_⟩) (fun s₁ X₁ htk => ?_) ok.co ok.gen ok.kind)
  · obtain ⟨c, hc⟩ := cellsFrom_has scope.names (s.heap.objs.size + 1) x.1 (PySem.mem_of_lookup h)
    show (((cellsFrom (s.heap.objs.size + 1) scope.names []).lookup x.1).isSome = true)
    rw [hc]; rfl
  obtain ⟨h₁, tk, rfl, _⟩ := X₁.done
  have F : Fr s.heap s.heap.objs.size h₁ (bindL (envOfC name scope s.heap.objs.size f cd).kindOf (names.zip vs) fun _ => none) := ⟨X₁.toInCall.ns, X₁.toInCall.keep, X₁.toInCall.fresh⟩
  have X : Cl s.heap.objs.size (cellsFrom (s.heap.objs.size + 1) scope.names []) h₁ (bindC (envOfC name scope s.heap.objs.size f cd).kindOf (names.zip vs) fun _ => none) := ⟨X₁.cell, X₁.apart, X₁.above⟩
  show wpAny (model W.prog W.w) (A.deeper (envOfC name scope s.heap.objs.size f cd)) (execs body (envOfC name scope s.heap.objs.size f cd)) _ _ _
  have gnone : ∀ b, s.heap.objs.size ≤ b → g b = none := fun b hb' => by
    cases e : g b with
    | none => rfl
    | some o => exact absurd (Heap.lt_size (hg _ _ e)) (Nat.not_lt.mpr hb')
  have knone : ∀ b, s.heap.objs.size ≤ b → s.heap.get? b = none := fun b hb' => by
    cases e : s.heap.get? b with
    | none => rfl
    | some o => exact absurd (Heap.lt_size e) (Nat.not_lt.mpr hb')
  have ck := cellsFrom_nodup scope.names (s.heap.objs.size + 1) ok.keys
  have Y : StV W (fnFm name scope s.heap.objs.size f cd A n) s.heap.get? g (names.zip (ds.map .sh)) (fun x => ((names.zip vs).lookup x).getD .none) { s with heap := h₁, toks := tk } :=
    { ok := ⟨ok.kind, hh, X.apart, rfl, rfl, by show A.depth + 1 + n ≤ 900; omega, by show A.units + 3 + 16 * n + 300 ≤ 9900; omega⟩
      base := hb
      keep := F.keep
      gin := fun b o e => F.keep b o (hg b o e)
      ns := ⟨_, F.ns⟩
      cell := fun c hc => by
        obtain ⟨q, hq, rfl⟩ := List.mem_map.mp hc
        exact ⟨_, X.cell q.1 q.2 (lookup_of_mem ck hq)⟩
      var := fun x sl e => by
        obtain ⟨hx, v, d, rfl, hv, _⟩ := zip_look names vs ds x sl R e
        rw [hv]
        rcases ok.kinds x hx with k | k
        · exact .inl ⟨k, _, F.ns, bindL_at _ names vs _ x v ok.args hv k⟩
        · obtain ⟨c, hc⟩ := cellsFrom_has scope.names (s.heap.objs.size + 1) x (PySem.mem_of_lookup k)
          refine .inr ⟨k, c, hc, ?_⟩
          have := X.cell x c hc
          rw [bindC_at _ names vs _ x v ok.args hv k] at this
          exact this
      sh := fun x d e => by
        obtain ⟨hx, v, d', e', hv, r⟩ := zip_look names vs ds x _ R e
        cases e'
        simp only [hv]; exact r
      ow := fun x b es e => by
        obtain ⟨hx, v, d', e', hv, r⟩ := zip_look names vs ds x _ R e
        cases e'
      loff := ⟨knone _ (Nat.le_refl _), gnone _ (Nat.le_refl _)⟩
      coff := fun c hc => by
        obtain ⟨q, hq, rfl⟩ := List.mem_map.mp hc
        have := cellsFrom_ge _ _ _ hq
        have h2 := Nat.le_of_succ_le this
        exact ⟨knone _ h2, gnone _ h2⟩
      apart := fun x y b c ds' es hxy e1 e2 => by
        obtain ⟨hx, v, d', e', hv, r⟩ := zip_look names vs ds x _ R e1
        cases e'
      toks := htk
      cellA := fun p hp => ⟨_, X.cell p.1 p.2 (lookup_of_mem ck hp)⟩ }
  refine wpAny_mono ((h s.heap.objs.size cd A).run s.heap.get? g _ _ Y) (fun fl s' ⟨g', G, r, v, e, R', val', Z⟩ => ?_) fun _ _ x => x.elim
  subst e
  exact ⟨g', G.1, G.2, Z.gin, Z.keep, Z.toks, R', r⟩

end

end

section

/-! ### the text's functions and names -/
noncomputable def dName : Stmt → Str
  | .FunctionDef n .. => n
  | _ => ""
noncomputable def dBody : Stmt → List Stmt
  | .FunctionDef _ _ b .. => b
  | _ => []
noncomputable def dParams : Stmt → Arguments
  | .FunctionDef _ a .. => a
  | _ => { posonlyargs := [], args := [], vararg := none, kwonlyargs := [], kw_defaults := [], kwarg := none, defaults := [] }
noncomputable def dScope : Stmt → Scope
  | .FunctionDef _ _ _ _ _ _ s .. => s
  | _ => { kind := .module, names := [], isGenerator := false, isCoroutine := false }
noncomputable def theSt (k : Nat) : Stmt := PySem.Challenge.pw_xl0022_01.main.body.getD k (.Pass ⟨0, 0, 0, 0⟩)
abbrev FnK (W : Wd) (k : Nat) (f : Addr) : Prop := FnAt W (dName (theSt k)) (dParams (theSt k)) (dBody (theSt k)) (dScope (theSt k)) f
noncomputable abbrev FmK (k : Nat) (L f : Addr) (cd : Value) (A : Around) (n : Nat) : Fm := fnFm (dName (theSt k)) (dScope (theSt k)) L f cd A n

/-- what the names of the text's top and the built-ins' names stand for: the functions' addresses are `a k` -/
noncomputable def tab (a : Nat → Addr) : List (Str × Value) := [
  ("is_HDN", .ref (a 3)), ("liberal_is_HDN", .ref (a 4)), ("user_domain_match", .ref (a 5)), ("reach", .ref (a 6)), ("_ellipsis_match", .ref (a 9)), ("_comment_line", .ref (a 10)),
  ("parse229", .ref (a 15)), ("parse257", .ref (a 16)), ("_escape_cdata", .ref (a 19)), ("_escape_attrib", .ref (a 20)), ("_escape_attrib_html", .ref (a 21)), ("_escape_cdata_c14n", .ref (a 22)), ("_escape_attrib_c14n", .ref (a 23)),
  ("_law_cells", .ref (a 25)), ("_law_figures", .ref (a 26)), ("_law_hand", .ref (a 27)), ("_law_table", .ref (a 28)), ("_law_written", .ref (a 29)), ("_law_port", .ref (a 30)), ("_law_ladder", .ref (a 31)),
  ("_law_truly_below", .ref (a 32)), ("_law_between", .ref (a 33)),
  ("len", .builtin "len"), ("sum", .builtin "sum"), ("max", .builtin "max"), ("min", .builtin "min"),
  ("range", .type "range"), ("int", .type "int"), ("str", .type "str"), ("tuple", .type "tuple"), ("type", .type "type"), ("IPV4_RE", .ref (a 2))]

structure Gl (W : Wd) (a : Nat → Addr) : Prop where
  look : ∀ x v, (tab a).lookup x = some v → GlobAt W x v
  marker : ∃ t, GlobAt W "ELLIPSIS_MARKER" (.str "..." t)
  fn : ∀ k, k ∈ [3, 4, 5, 6, 9, 10, 15, 16, 19, 20, 21, 22, 23, 25, 26, 27, 28, 29, 30, 31, 32, 33] → FnK W k (a k)
  two : ∃ o, W.H.get? 2 = some o

section
variable {W : Wd} {F : Fm} {kp g g₁ g₂ : PHeap} {ρ ρ' ρ₁ : Ro} {s s₁ : Shared} {d d1 d2 : D} {ds es : List D} {v : Value} {b c : Bool} {A : Around} {i j : Int} {val : Str → Value} {x y z : Str} {pos p np apos : Pos} {out : Out}
  {st : Stmt} {sts body : List Stmt} {e test idx l r : Expr} {a : Nat → Addr}

theorem gl_is_HDN (G : Gl W a) : GlobAt W "is_HDN" (.ref (a 3)) := G.look _ _ rfl
theorem gl_liberal_is_HDN (G : Gl W a) : GlobAt W "liberal_is_HDN" (.ref (a 4)) := G.look _ _ rfl
theorem gl_user_domain_match (G : Gl W a) : GlobAt W "user_domain_match" (.ref (a 5)) := G.look _ _ rfl
theorem gl_reach (G : Gl W a) : GlobAt W "reach" (.ref (a 6)) := G.look _ _ rfl
theorem gl_ellipsis_match (G : Gl W a) : GlobAt W "_ellipsis_match" (.ref (a 9)) := G.look _ _ rfl
theorem gl_comment_line (G : Gl W a) : GlobAt W "_comment_line" (.ref (a 10)) := G.look _ _ rfl
theorem gl_parse229 (G : Gl W a) : GlobAt W "parse229" (.ref (a 15)) := G.look _ _ rfl
theorem gl_parse257 (G : Gl W a) : GlobAt W "parse257" (.ref (a 16)) := G.look _ _ rfl
theorem gl_escape_cdata (G : Gl W a) : GlobAt W "_escape_cdata" (.ref (a 19)) := G.look _ _ rfl
theorem gl_escape_attrib (G : Gl W a) : GlobAt W "_escape_attrib" (.ref (a 20)) := G.look _ _ rfl
theorem gl_escape_attrib_html (G : Gl W a) : GlobAt W "_escape_attrib_html" (.ref (a 21)) := G.look _ _ rfl
theorem gl_escape_cdata_c14n (G : Gl W a) : GlobAt W "_escape_cdata_c14n" (.ref (a 22)) := G.look _ _ rfl
theorem gl_escape_attrib_c14n (G : Gl W a) : GlobAt W "_escape_attrib_c14n" (.ref (a 23)) := G.look _ _ rfl
theorem gl_law_cells (G : Gl W a) : GlobAt W "_law_cells" (.ref (a 25)) := G.look _ _ rfl
theorem gl_law_figures (G : Gl W a) : GlobAt W "_law_figures" (.ref (a 26)) := G.look _ _ rfl
theorem gl_law_hand (G : Gl W a) : GlobAt W "_law_hand" (.ref (a 27)) := G.look _ _ rfl
theorem gl_law_table (G : Gl W a) : GlobAt W "_law_table" (.ref (a 28)) := G.look _ _ rfl
theorem gl_law_written (G : Gl W a) : GlobAt W "_law_written" (.ref (a 29)) := G.look _ _ rfl
theorem gl_law_port (G : Gl W a) : GlobAt W "_law_port" (.ref (a 30)) := G.look _ _ rfl
theorem gl_law_ladder (G : Gl W a) : GlobAt W "_law_ladder" (.ref (a 31)) := G.look _ _ rfl
theorem gl_law_truly_below (G : Gl W a) : GlobAt W "_law_truly_below" (.ref (a 32)) := G.look _ _ rfl
theorem gl_law_between (G : Gl W a) : GlobAt W "_law_between" (.ref (a 33)) := G.look _ _ rfl
theorem gl_len (G : Gl W a) : GlobAt W "len" (.builtin "len") := G.look _ _ rfl
theorem gl_sum (G : Gl W a) : GlobAt W "sum" (.builtin "sum") := G.look _ _ rfl
theorem gl_max (G : Gl W a) : GlobAt W "max" (.builtin "max") := G.look _ _ rfl
theorem gl_min (G : Gl W a) : GlobAt W "min" (.builtin "min") := G.look _ _ rfl
theorem gl_range (G : Gl W a) : GlobAt W "range" (.type "range") := G.look _ _ rfl
theorem gl_int (G : Gl W a) : GlobAt W "int" (.type "int") := G.look _ _ rfl
theorem gl_str (G : Gl W a) : GlobAt W "str" (.type "str") := G.look _ _ rfl
theorem gl_tuple (G : Gl W a) : GlobAt W "tuple" (.type "tuple") := G.look _ _ rfl
theorem gl_type (G : Gl W a) : GlobAt W "type" (.type "type") := G.look _ _ rfl
theorem gl_IPV4_RE (G : Gl W a) : GlobAt W "IPV4_RE" (.ref (a 2)) := G.look _ _ rfl
theorem ev_gl (G : Gl W a) (hk : F.env.kindOf x = some .globalImplicit) (h : (tab a).lookup x = some v) (hd : (x == ("__debug__" : Str)) = false := by decide) : EvE W F ρ (.Name x pos) (.obj v) := ev_global hk (G.look _ _ h) hd
theorem ev_marker (G : Gl W a) (hk : F.env.kindOf "ELLIPSIS_MARKER" = some .globalImplicit) : EvE W F ρ (.Name "ELLIPSIS_MARKER" pos) (.str "...") := let ⟨_, h⟩ := G.marker; ev_globalStr hk h

theorem ev_neg (h : EvE W F ρ e (.int i)) : EvE W F ρ (.UnaryOp .USub e pos) (.int (-i)) := .mk fun kp g val s X =>
  wpAny_UnaryOp (mono' (h.run kp g val s X) fun v s₁ ⟨g₁, G₁, X₁, R₁, r₁⟩ => by
    obtain ⟨t, rfl⟩ := repInt R₁
    exact neg_int ((PE.now X₁ (.int _ _) (Nat.le_add_left _ _)).from G₁ r₁))

theorem ev_iteS {t : Expr} (ht : EvT W F ρ t b) (h1 : b = true → EvE W F ρ l (.str x)) (h2 : b = false → EvE W F ρ r (.str y)) : EvE W F ρ (.IfExp t l r pos) (.str (if b then x else y)) := by
  refine ev_ite ht ?_
  cases b with
  | true => exact h1 rfl
  | false => exact h2 rfl

theorem str_beq (x y : String) : (Str.ofString x == Str.ofString y) = (x == y) := by
  by_cases h : x = y
  · subst h; rw [beq_self_eq_true, beq_self_eq_true]
  · rw [beq_eq_false_iff_ne.mpr h, beq_eq_false_iff_ne]
    intro e
    rw [Str.ofString_eq_toList, Str.ofString_eq_toList] at e
    injection e with e
    have e := congrArg Array.toList e
    simp only at e
    have inj : ∀ (a b : List Char), a.map Char.toNat = b.map Char.toNat → a = b := by
      intro a
      induction a with
      | nil => intro b h; cases b with
        | nil => rfl
        | cons _ _ => cases h
      | cons c cs ih => intro b h; cases b with
        | nil => cases h
        | cons d ds =>
          rw [List.map_cons, List.map_cons] at h
          injection h with h1 h2
          rw [ih ds h2]
          have : c = d := Char.ext (UInt32.toNat_inj.mp h1)
          rw [this]
    exact h (String.toList_inj.mp (inj _ _ e))
theorem rset_of (r : Ro) (x y : String) (sl t : Sl) : rset ((Str.ofString y, t) :: r) (Str.ofString x) sl = if (x == y) = true then (Str.ofString y, sl) :: r else (Str.ofString y, t) :: rset r (Str.ofString x) sl := by
  show (if (Str.ofString x == Str.ofString y) = true then _ else _) = _
  rw [str_beq]
theorem rset_ne {x y : String} {sl t : Sl} {r r' : Ro} (h : (x == y) = false) (q : rset r (Str.ofString x) sl = r') : rset ((Str.ofString y, t) :: r) (Str.ofString x) sl = (Str.ofString y, t) :: r' := by
  rw [rset_of, h, q]; rfl
theorem rset_eq {x : String} {sl t : Sl} {r : Ro} : rset ((Str.ofString x, t) :: r) (Str.ofString x) sl = (Str.ofString x, sl) :: r := by
  rw [rset_of, beq_self_eq_true]; rfl
theorem rset_none (x : Str) (sl : Sl) : rset [] x sl = [(x, sl)] := rfl
theorem xb_n (h : ExS W F ρ st (.next ρ₁)) (q : ρ₁ = ρ') (hs : ExB W F ρ' sts out) : ExB W F ρ (st :: sts) out := xb_cons (q ▸ h) hs
theorem xb_q (q : ρ = ρ') (hs : ExB W F ρ' sts out) : ExB W F ρ sts out := q ▸ hs
theorem fl_q {ds : List D} (q : ρ = ρ') (hs : ForL W F ρ' x p body ds out) : ForL W F ρ x p body ds out := q ▸ hs
theorem xb_frz {bb : Bool} (hx : ρ.lookup x = some (.ow bb ds)) (q : rset ρ x (.sh (.list ds)) = ρ') (h : ExB W F ρ' sts out) : ExB W F ρ sts out := xb_freeze hx (q ▸ h)
theorem forl_c (hx : CanStore F x) (hb : ∀ ρ₁, rset ρ x (.sh d) = ρ₁ → ExB W F ρ₁ body (.next ρ')) (hr : ForL W F ρ' x p body ds out) : ForL W F ρ x p body (d :: ds) out := forl_cons hx (hb _ rfl) hr

/-- the frame's table, told anew -/
noncomputable def Has (ρ : Ro) : Ro → Prop
  | [] => True
  | (x, sl) :: r => ρ.lookup x = some sl ∧ Has ρ r
theorem Has.look {ρ : Ro} : ∀ {ρ' : Ro}, Has ρ ρ' → ∀ x sl, ρ'.lookup x = some sl → ρ.lookup x = some sl
  | [], _, _, _, e => by cases e
  | (y, t) :: r, h, x, sl, e => by
    rw [List.lookup_cons] at e
    by_cases q : x = y
    · subst q; rw [beq_self_eq_true] at e; cases e; exact h.1
    · rw [beq_eq_false_iff_ne.mpr q] at e; exact Has.look h.2 x sl e
theorem xb_to {W : Wd} {F : Fm} {ρ : Ro} (ρ' : Ro) {sts : List Stmt} {out : Out} (h : Has ρ ρ') (hs : ExB W F ρ' sts out) : ExB W F ρ sts out := xb_weaken h.look hs
theorem fl_to {W : Wd} {F : Fm} {ρ : Ro} (ρ' : Ro) {x : Str} {p : Pos} {body : List Stmt} {ds : List D} {out : Out} (h : Has ρ ρ') (hs : ForL W F ρ' x p body ds out) : ForL W F ρ x p body ds out := forl_weaken h.look hs

theorem ev_eq {d' : D} (h : EvE W F ρ e d) (q : d = d') : EvE W F ρ e d' := q ▸ h
theorem et_eq (h : EvT W F ρ e b) (q : b = c) : EvT W F ρ e c := q ▸ h
theorem xb_ifRet {orelse : List Stmt} (ht : EvT W F ρ test true) (h : ExB W F ρ body (.ret d)) : ExB W F ρ (.If test body orelse pos :: sts) (.ret d) := xb_ret (xs_if ht h)
theorem xb_ifNext {orelse : List Stmt} (ht : EvT W F ρ test true) (h : ExB W F ρ body (.next ρ')) (hs : ExB W F ρ' sts out) : ExB W F ρ (.If test body orelse pos :: sts) out := xb_cons (xs_if ht h) hs
theorem xb_ifSkip (ht : EvT W F ρ test false) (hs : ExB W F ρ sts out) : ExB W F ρ (.If test body [] pos :: sts) out := xb_cons (xs_if ht xb_nil) hs
theorem xb_ifElse {orelse : List Stmt} (ht : EvT W F ρ test false) (h : ExB W F ρ orelse (.ret d)) : ExB W F ρ (.If test body orelse pos :: sts) (.ret d) := xb_ret (xs_if ht h)
theorem xb_ifElseN {orelse : List Stmt} (ht : EvT W F ρ test false) (h : ExB W F ρ orelse (.next ρ')) (hs : ExB W F ρ' sts out) : ExB W F ρ (.If test body orelse pos :: sts) out := xb_cons (xs_if ht h) hs
end

theorem len1 {vs : List Value} (h : vs.length = 1) : ∃ a, vs = [a] := by
  match vs, h with
  | [a], _ => exact ⟨a, rfl⟩
theorem len2 {vs : List Value} (h : vs.length = 2) : ∃ a b, vs = [a, b] := by
  match vs, h with
  | [a, b], _ => exact ⟨a, b, rfl⟩
theorem len4 {vs : List Value} (h : vs.length = 4) : ∃ a b c d, vs = [a, b, c, d] := by
  match vs, h with
  | [a, b, c, d], _ => exact ⟨a, b, c, d, rfl⟩
theorem ok3 : FnOk (dParams (theSt 3)) (dScope (theSt 3)) ["text"] where
  bind := fun name body pm cd doc vs h => by obtain ⟨v0, rfl⟩ := len1 h; rfl
  keys := by decide +kernel
  args := by decide +kernel
  kinds := by decide +kernel
  co := by rfl
  gen := by rfl
  kind := by rfl

theorem ok4 : FnOk (dParams (theSt 4)) (dScope (theSt 4)) ["text"] where
  bind := fun name body pm cd doc vs h => by obtain ⟨v0, rfl⟩ := len1 h; rfl
  keys := by decide +kernel
  args := by decide +kernel
  kinds := by decide +kernel
  co := by rfl
  gen := by rfl
  kind := by rfl

theorem ok5 : FnOk (dParams (theSt 5)) (dScope (theSt 5)) ["A", "B"] where
  bind := fun name body pm cd doc vs h => by obtain ⟨v0, v1, rfl⟩ := len2 h; rfl
  keys := by decide +kernel
  args := by decide +kernel
  kinds := by decide +kernel
  co := by rfl
  gen := by rfl
  kind := by rfl

theorem ok6 : FnOk (dParams (theSt 6)) (dScope (theSt 6)) ["h"] where
  bind := fun name body pm cd doc vs h => by obtain ⟨v0, rfl⟩ := len1 h; rfl
  keys := by decide +kernel
  args := by decide +kernel
  kinds := by decide +kernel
  co := by rfl
  gen := by rfl
  kind := by rfl

theorem ok9 : FnOk (dParams (theSt 9)) (dScope (theSt 9)) ["want", "got"] where
  bind := fun name body pm cd doc vs h => by obtain ⟨v0, v1, rfl⟩ := len2 h; rfl
  keys := by decide +kernel
  args := by decide +kernel
  kinds := by decide +kernel
  co := by rfl
  gen := by rfl
  kind := by rfl

theorem ok10 : FnOk (dParams (theSt 10)) (dScope (theSt 10)) ["line"] where
  bind := fun name body pm cd doc vs h => by obtain ⟨v0, rfl⟩ := len1 h; rfl
  keys := by decide +kernel
  args := by decide +kernel
  kinds := by decide +kernel
  co := by rfl
  gen := by rfl
  kind := by rfl

theorem ok15 : FnOk (dParams (theSt 15)) (dScope (theSt 15)) ["resp", "peer"] where
  bind := fun name body pm cd doc vs h => by obtain ⟨v0, v1, rfl⟩ := len2 h; rfl
  keys := by decide +kernel
  args := by decide +kernel
  kinds := by decide +kernel
  co := by rfl
  gen := by rfl
  kind := by rfl

theorem ok16 : FnOk (dParams (theSt 16)) (dScope (theSt 16)) ["resp"] where
  bind := fun name body pm cd doc vs h => by obtain ⟨v0, rfl⟩ := len1 h; rfl
  keys := by decide +kernel
  args := by decide +kernel
  kinds := by decide +kernel
  co := by rfl
  gen := by rfl
  kind := by rfl

theorem ok19 : FnOk (dParams (theSt 19)) (dScope (theSt 19)) ["text"] where
  bind := fun name body pm cd doc vs h => by obtain ⟨v0, rfl⟩ := len1 h; rfl
  keys := by decide +kernel
  args := by decide +kernel
  kinds := by decide +kernel
  co := by rfl
  gen := by rfl
  kind := by rfl

theorem ok20 : FnOk (dParams (theSt 20)) (dScope (theSt 20)) ["text"] where
  bind := fun name body pm cd doc vs h => by obtain ⟨v0, rfl⟩ := len1 h; rfl
  keys := by decide +kernel
  args := by decide +kernel
  kinds := by decide +kernel
  co := by rfl
  gen := by rfl
  kind := by rfl

theorem ok21 : FnOk (dParams (theSt 21)) (dScope (theSt 21)) ["text"] where
  bind := fun name body pm cd doc vs h => by obtain ⟨v0, rfl⟩ := len1 h; rfl
  keys := by decide +kernel
  args := by decide +kernel
  kinds := by decide +kernel
  co := by rfl
  gen := by rfl
  kind := by rfl

theorem ok22 : FnOk (dParams (theSt 22)) (dScope (theSt 22)) ["text"] where
  bind := fun name body pm cd doc vs h => by obtain ⟨v0, rfl⟩ := len1 h; rfl
  keys := by decide +kernel
  args := by decide +kernel
  kinds := by decide +kernel
  co := by rfl
  gen := by rfl
  kind := by rfl

theorem ok23 : FnOk (dParams (theSt 23)) (dScope (theSt 23)) ["text"] where
  bind := fun name body pm cd doc vs h => by obtain ⟨v0, rfl⟩ := len1 h; rfl
  keys := by decide +kernel
  args := by decide +kernel
  kinds := by decide +kernel
  co := by rfl
  gen := by rfl
  kind := by rfl

theorem ok25 : FnOk (dParams (theSt 25)) (dScope (theSt 25)) ["script"] where
  bind := fun name body pm cd doc vs h => by obtain ⟨v0, rfl⟩ := len1 h; rfl
  keys := by decide +kernel
  args := by decide +kernel
  kinds := by decide +kernel
  co := by rfl
  gen := by rfl
  kind := by rfl

theorem ok26 : FnOk (dParams (theSt 26)) (dScope (theSt 26)) ["cell", "bases"] where
  bind := fun name body pm cd doc vs h => by obtain ⟨v0, v1, rfl⟩ := len2 h; rfl
  keys := by decide +kernel
  args := by decide +kernel
  kinds := by decide +kernel
  co := by rfl
  gen := by rfl
  kind := by rfl

theorem ok27 : FnOk (dParams (theSt 27)) (dScope (theSt 27)) ["number"] where
  bind := fun name body pm cd doc vs h => by obtain ⟨v0, rfl⟩ := len1 h; rfl
  keys := by decide +kernel
  args := by decide +kernel
  kinds := by decide +kernel
  co := by rfl
  gen := by rfl
  kind := by rfl

theorem ok28 : FnOk (dParams (theSt 28)) (dScope (theSt 28)) ["number"] where
  bind := fun name body pm cd doc vs h => by obtain ⟨v0, rfl⟩ := len1 h; rfl
  keys := by decide +kernel
  args := by decide +kernel
  kinds := by decide +kernel
  co := by rfl
  gen := by rfl
  kind := by rfl

theorem ok29 : FnOk (dParams (theSt 29)) (dScope (theSt 29)) ["table", "text"] where
  bind := fun name body pm cd doc vs h => by obtain ⟨v0, v1, rfl⟩ := len2 h; rfl
  keys := by decide +kernel
  args := by decide +kernel
  kinds := by decide +kernel
  co := by rfl
  gen := by rfl
  kind := by rfl

theorem ok30 : FnOk (dParams (theSt 30)) (dScope (theSt 30)) ["figure"] where
  bind := fun name body pm cd doc vs h => by obtain ⟨v0, rfl⟩ := len1 h; rfl
  keys := by decide +kernel
  args := by decide +kernel
  kinds := by decide +kernel
  co := by rfl
  gen := by rfl
  kind := by rfl

theorem ok31 : FnOk (dParams (theSt 31)) (dScope (theSt 31)) ["host"] where
  bind := fun name body pm cd doc vs h => by obtain ⟨v0, rfl⟩ := len1 h; rfl
  keys := by decide +kernel
  args := by decide +kernel
  kinds := by decide +kernel
  co := by rfl
  gen := by rfl
  kind := by rfl

theorem ok32 : FnOk (dParams (theSt 32)) (dScope (theSt 32)) ["hosts", "heads", "tails", "ups"] where
  bind := fun name body pm cd doc vs h => by obtain ⟨v0, v1, v2, v3, rfl⟩ := len4 h; rfl
  keys := by decide +kernel
  args := by decide +kernel
  kinds := by decide +kernel
  co := by rfl
  gen := by rfl
  kind := by rfl

theorem ok33 : FnOk (dParams (theSt 33)) (dScope (theSt 33)) ["one", "two"] where
  bind := fun name body pm cd doc vs h => by obtain ⟨v0, v1, rfl⟩ := len2 h; rfl
  keys := by decide +kernel
  args := by decide +kernel
  kinds := by decide +kernel
  co := by rfl
  gen := by rfl
  kind := by rfl

theorem ok34 : FnOk (dParams (theSt 34)) (dScope (theSt 34)) ["script"] where
  bind := fun name body pm cd doc vs h => by obtain ⟨v0, rfl⟩ := len1 h; rfl
  keys := by decide +kernel
  args := by decide +kernel
  kinds := by decide +kernel
  co := by rfl
  gen := by rfl
  kind := by rfl

section
variable {W : Wd} {name : String} {params : Arguments} {st : Stmt} {body : List Stmt} {k : ScopeKind} {ns : List (Str × NameKind)} {ig ic : Bool} {mo : List (Str × Const)} {f : Addr} {x1 x2 x3 x4 : Str} {d1 d2 d3 d4 d : D} {n : Nat}
theorem fn1 (hf : FnAt W (Str.ofString name) params (st :: body) ⟨k, ns, ig, ic, mo⟩ f) (ok : FnOk params ⟨k, ns, ig, ic, mo⟩ [x1]) (h : ∀ L cd A, ExB W (fnFm (Str.ofString name) ⟨k, ns, ig, ic, mo⟩ L f cd A n) [(x1, .sh d1)] (st :: body) (.ret d)) : FnC W f (n + 1) [d1] d := fn_entry hf ok rfl h
theorem fn2 (hf : FnAt W (Str.ofString name) params (st :: body) ⟨k, ns, ig, ic, mo⟩ f) (ok : FnOk params ⟨k, ns, ig, ic, mo⟩ [x1, x2]) (h : ∀ L cd A, ExB W (fnFm (Str.ofString name) ⟨k, ns, ig, ic, mo⟩ L f cd A n) [(x1, .sh d1), (x2, .sh d2)] (st :: body) (.ret d)) : FnC W f (n + 1) [d1, d2] d := fn_entry hf ok rfl h
theorem fn4 (hf : FnAt W (Str.ofString name) params (st :: body) ⟨k, ns, ig, ic, mo⟩ f) (ok : FnOk params ⟨k, ns, ig, ic, mo⟩ [x1, x2, x3, x4]) (h : ∀ L cd A, ExB W (fnFm (Str.ofString name) ⟨k, ns, ig, ic, mo⟩ L f cd A n) [(x1, .sh d1), (x2, .sh d2), (x3, .sh d3), (x4, .sh d4)] (st :: body) (.ret d)) : FnC W f (n + 1) [d1, d2, d3, d4] d := fn_entry hf ok rfl h
end
theorem forl_fold {W : Wd} {F : Fm} {x : Str} {p : Pos} {body : List Stmt} {σ β : Type} (f : β → D) (R : σ → Ro) (step : σ → β → σ) (P : σ → List β → Prop) (hx : CanStore F x)
    (h : ∀ s b bs, P s (b :: bs) → ExB W F (rset (R s) x (.sh (f b))) body (.next (R (step s b))) ∧ P (step s b) bs) : ∀ bs s, P s bs → ForL W F (R s) x p body (bs.map f) (.next (R (bs.foldl step s)))
  | [], s, _ => forl_nil
  | b :: bs, s, hp => forl_cons hx (h s b bs hp).1 (forl_fold f R step P hx h bs _ (h s b bs hp).2)
theorem small_of {a b : Int} (h1 : 0 ≤ a) (h2 : a ≤ b) (h3 : b ≤ 1000000) : Builtin.Range.small a b 1 = true := by
  have f : ∀ i : Int, 0 ≤ i → i ≤ 2000000 → Builtin.Range.rangeFitsLong i = true := fun i h1 h2 => by
    unfold Builtin.Range.rangeFitsLong
    rw [Bool.and_eq_true, decide_eq_true_eq, decide_eq_true_eq]
    omega
  have e : Builtin.Range.rangeSize a b 1 = b - a ∨ Builtin.Range.rangeSize a b 1 = 0 := by
    unfold Builtin.Range.rangeSize
    split
    · left; simp; omega
    · rename_i h; exact absurd (by decide) h
  unfold Builtin.Range.small
  have g1 : Builtin.Range.rangeFitsLong (Builtin.Range.rangeSize a b 1) = true := by
    rcases e with e | e <;> rw [e]
    · exact f _ (by omega) (by omega)
    · exact f _ (by omega) (by omega)
  rw [f a h1 (by omega), f b (by omega) (by omega), f 1 (by decide) (by decide), g1]
  have g2 := f (b + (1 - 1)) (by omega) (by omega)
  simp only [g2]
  simp
theorem can_fn {name : Str} {scope : Scope} {L f : Addr} {cd : Value} {A : Around} {n : Nat} {x : Str} (h : scope.names.lookup x = some .local ∨ scope.names.lookup x = some .cell) : CanStore (fnFm name scope L f cd A n) x := by
  rcases h with h | h
  · exact .inl h
  · obtain ⟨c, hc⟩ := cellsFrom_has scope.names (L + 1) x (PySem.mem_of_lookup h)
    exact .inr ⟨h, c, hc, List.mem_map.mpr ⟨_, PySem.mem_of_lookup hc, rfl⟩⟩

end

section
/-! ### strs as lists of code points -/
noncomputable def S (l : List Nat) : Str := ⟨l.toArray⟩
theorem S_cps (l : List Nat) : (S l).cps.toList = l := by simp [S]
theorem S_len (l : List Nat) : (S l).length = l.length := by simp [S, Str.length]
theorem S_app (a b : List Nat) : S a ++ S b = S (a ++ b) := Str.ext' (by simp [S, Str.cps_append])
theorem S_inj {a b : List Nat} (h : S a = S b) : a = b := by rw [← S_cps a, h, S_cps]
theorem S_of (x : Str) : x = S x.cps.toList := Str.ext' (by simp [S])
theorem S_beq (a b : List Nat) : (S a == S b) = decide (a = b) := by
  by_cases h : a = b
  · subst h; simp
  · rw [decide_eq_false h, beq_eq_false_iff_ne]
    exact fun e => h (S_inj e)

noncomputable def sub1 (c : Nat) (z : List Nat) (k : Nat) : List Nat := if k = c then z else [k]
theorem sub1_free (c : Nat) (z : List Nat) : ∀ l : List Nat, c ∉ l → l.flatMap (sub1 c z) = l
  | [], _ => rfl
  | k :: r, h => by
    rw [List.flatMap_cons, sub1_free c z r fun m => h (List.mem_cons_of_mem _ m)]
    have : ¬ k = c := fun e => h (e ▸ List.mem_cons_self ..)
    unfold sub1
    rw [if_neg this]; rfl
theorem sub1_join (c : Nat) (z : List Nat) : ∀ parts : List Str, (∀ p ∈ parts, c ∉ p.cps.toList) → (Str.join (S [c]) parts).cps.toList.flatMap (sub1 c z) = (Str.join (S z) parts).cps.toList
  | [], _ => rfl
  | [p], h => sub1_free c z _ (h p (List.mem_singleton.mpr rfl))
  | p :: q :: r, h => by
    have ih := sub1_join c z (q :: r) fun a ha => h a (List.mem_cons_of_mem _ ha)
    show (p ++ S [c] ++ Str.join (S [c]) (q :: r)).cps.toList.flatMap (sub1 c z) = (p ++ S z ++ Str.join (S z) (q :: r)).cps.toList
    simp only [Str.cps_append, Array.toList_append, List.flatMap_append]
    rw [ih, sub1_free c z _ (h p (List.mem_cons_self ..)), S_cps, S_cps]
    congr 2
    simp [sub1]
theorem replace_S (l : List Nat) (c : Nat) (z : List Nat) : Txt.replace (S l) (S [c]) (S z) = S (l.flatMap (sub1 c z)) := by
  have h := sub1_join c z (Txt.split (S l) (S [c])) (StrLaws.split_free (S l) c)
  have e : Str.join (S [c]) (Txt.split (S l) (S [c])) = S l := StrLaws.join_split _ _
  rw [e, S_cps] at h
  rw [S_of (Txt.replace _ _ _), h]
  congr 3
  exact StrLaws.replace_one (S l) (S z) c
theorem contains_S (l : List Nat) (c : Nat) : Txt.contains (S l) (S [c]) = decide (c ∈ l) := by
  have := StrLaws.found_one (S l) c
  rw [S_cps] at this
  exact this

theorem length_flatMap_le (l : List Nat) (f : Nat → List Nat) (n : Nat) (h : ∀ c, (f c).length ≤ n) : (l.flatMap f).length ≤ n * l.length := by
  induction l with
  | nil => simp
  | cons c r ih =>
    rw [List.flatMap_cons, List.length_append, List.length_cons, Nat.mul_succ]
    have := h c
    omega

end

section
/-! more on strs as lists -/
theorem slice_eq (x : Str) (l u : Option Int) : Txt.slice x l u = StrLaws.sliceText x l u := rfl
theorem slice_from (l : List Nat) {k : Nat} (h : k ≤ l.length) : Txt.slice (S l) (some k) none = S (l.drop k) := by
  rw [slice_eq, StrLaws.sliceText_from (by rw [S_cps]; omega), S_cps]
  have : ((l.length : Int) - (k : Int)).toNat = (l.drop k).length := by rw [List.length_drop]; omega
  rw [this, Int.toNat_natCast, List.take_length]
  rfl
theorem slice_to (l : List Nat) {k : Nat} (h : k ≤ l.length) : Txt.slice (S l) none (some k) = S (l.take k) := by
  rw [slice_eq, StrLaws.sliceText_to (by rw [S_cps]; omega), S_cps]
  rfl
theorem slice_mid (l : List Nat) {a b : Nat} (h : a ≤ b) (hb : b ≤ l.length) : Txt.slice (S l) (some a) (some b) = S ((l.drop a).take (b - a)) := by
  rw [slice_eq, StrLaws.sliceText_plain (by rw [S_cps]; omega), S_cps]
  simp only [Int.toNat_natCast, S]
  congr 3
  omega
theorem charAt_S (l : List Nat) {k c : Nat} (h : l[k]? = some c) : Txt.charAt (S l) k = some c := by
  refine StrLaws.at_nonneg (by omega) ?_
  rw [Int.toNat_natCast]
  simpa [S] using h
theorem item_S (l : List Nat) {k c : Nat} (h : l[k]? = some c) : Txt.item (S l) k = S [c] := by
  unfold Txt.item
  rw [charAt_S l h]; rfl
theorem charAt_neg (l : List Nat) {c : Nat} (h : l.getLast? = some c) : Txt.charAt (S l) (-1) = some c := by
  have hl : 1 ≤ l.length := by cases l with
    | nil => cases h
    | cons a b => simp
  refine StrLaws.at_neg (by decide) (by rw [S_len]; omega) ?_
  rw [S_len]
  rw [List.getLast?_eq_getElem?] at h
  have : (-1 + (l.length : Int)).toNat = l.length - 1 := by omega
  rw [this]
  simpa [S] using h
theorem item_neg (l : List Nat) {c : Nat} (h : l.getLast? = some c) : Txt.item (S l) (-1) = S [c] := by
  unfold Txt.item
  rw [charAt_neg l h]; rfl

end

section
set_option maxHeartbeats 4000000
/-! ### the machine of the one pattern: a dot, digits, the end -/
noncomputable def Cod : Array Nat := #[14, 8, 1, 2, 4294967295, 1, 1, 46, 0, 16, 46, 24, 9, 1, 4294967295, 13, 4, 8, 0, 0, 1, 6, 5, 1]
open PySem.Sre

noncomputable def mst (t : Array Nat) (s start handed : Nat) (u o : Bool) (seen : Sre.Seen) : M :=
  { code := Cod, text := t, lim := t.size, start := start, lastStart := t.size, pc := 9, pos := s, handed := handed, outermost := u, marks := #[], frames := [{ wait := .nextStart, pc := 9, pos := s, outermost := o }], weight := 1, seen := seen }

theorem mst_start (t : Array Nat) (h : 2 ≤ t.size) : ∃ seen, Sre.forSearch Cod t 0 0 t.size false = mst t 0 0 0 true true seen := by
  have h1 : ¬ (0 > t.size) := by omega
  have h2 : ¬ (t.size - 0 < 2) := by omega
  refine ⟨({} : Sre.Seen).add 14, ?_⟩
  unfold Sre.forSearch
  have e : (header Cod) = (2, 9) := by rfl
  have h4 : (decide (0 > t.size) || decide (t.size - 0 < (header Cod).1)) = false := by
    rw [e, decide_eq_false h1, decide_eq_false h2]; rfl
  simp only [h4, Bool.false_eq_true, if_false]
  rfl

theorem mst_short (t : Array Nat) (h : t.size < 2) : ∃ m : M, Sre.forSearch Cod t 0 0 t.size false = m.say false ∧ m.frames = [] ∧ m.outcome = none := by
  have e : (header Cod) = (2, 9) := by rfl
  have h4 : (decide (0 > t.size) || decide (t.size - 0 < (header Cod).1)) = true := by
    rw [e, Bool.or_eq_true]; right; exact decide_eq_true (by omega)
  unfold Sre.forSearch
  simp only [h4, if_true]
  exact ⟨_, rfl, rfl, rfl⟩

section
variable {t : Array Nat} {s start handed : Nat} {u o : Bool} {seen : Sre.Seen}

/-- no dot here -/
theorem step_other (h : t.getD s 0 ≠ 46) (hs : s < t.size) : ∃ st' hd' u' o' seen', (mst t s start handed u o seen).step.step = mst t (s + 1) st' hd' u' o' seen' := by
  have hb : (t.getD s 0 == 46) = false := beq_eq_false_iff_ne.mpr h
  have h1 : (mst t s start handed u o seen).step = { mst t s start handed u o seen with answer := some false, seen := seen.add 16 } := by
    show M.exec (mst t s start handed u o seen) = _
    unfold M.exec
    have w : (mst t s start handed u o seen).word 0 = 16 := rfl
    rw [w]
    show (if s ≥ t.size then _ else _) = _
    rw [if_neg (by omega)]
    have a : accepts Cod 9 (t.getD s 0) (seen.add 16) = .ok (t.getD s 0 == 46, seen.add 16) := rfl
    show (match accepts Cod 9 (t.getD s 0) (seen.add 16) with | .error why => _ | .ok (false, seen) => _ | .ok (true, seen) => _) = _
    rw [a, hb]; rfl
  rw [h1]
  refine ⟨s + 1, s + 1, false, false, seen.add 16, ?_⟩
  show (if s < t.size then _ else _) = _
  rw [if_pos hs]; rfl

/-- the end: nothing more to try -/
theorem step_end : ∃ m : M, (mst t t.size start handed u o seen).step.step.step = m ∧ m.outcome = some .failed := by
  have h1 : (mst t t.size start handed u o seen).step = { mst t t.size start handed u o seen with answer := some false, seen := seen.add 16 } := by
    show M.exec (mst t t.size start handed u o seen) = _
    unfold M.exec
    have w : (mst t t.size start handed u o seen).word 0 = 16 := rfl
    rw [w]
    show (if t.size ≥ t.size then _ else _) = _
    rw [if_pos (Nat.le_refl _)]; rfl
  refine ⟨_, rfl, ?_⟩
  rw [h1]
  have h2 : ({ mst t t.size start handed u o seen with answer := some false, seen := seen.add 16 } : M).step = { mst t t.size start handed o o (seen.add 16) with answer := some false, frames := [], weight := 0 } := by
    show (if t.size < t.size then _ else _) = _
    rw [if_neg (Nat.lt_irrefl _)]; rfl
  rw [h2]; rfl

theorem step_lit (h : t.getD s 0 = 46) (hs : s < t.size) : (mst t s start handed u o seen).step = { mst t s start handed u o seen with pc := 11, pos := s + 1, seen := seen.add 16 } := by
  show M.exec (mst t s start handed u o seen) = _
  unfold M.exec
  have w : (mst t s start handed u o seen).word 0 = 16 := rfl
  rw [w]
  show (if s ≥ t.size then _ else _) = _
  rw [if_neg (by omega)]
  have a : accepts Cod 9 (t.getD s 0) (seen.add 16) = .ok (t.getD s 0 == 46, seen.add 16) := rfl
  show (match accepts Cod 9 (t.getD s 0) (seen.add 16) with | .error why => _ | .ok (false, seen) => _ | .ok (true, seen) => _) = _
  rw [a, h]; rfl

theorem acc_digit (c : Nat) (seen : Sre.Seen) : ∃ seen', accepts Cod 15 c seen = .ok (Sre.isDigit c, seen') := by
  cases h : Sre.isDigit c with
  | true =>
    refine ⟨((seen.add 8).add 55), ?_⟩
    show (do if (← (Except.ok (Sre.isDigit c != false) : Except String Bool)) = true then pure (true, _) else _) = _
    rw [h]; rfl
  | false =>
    refine ⟨(((seen.add 8).add 55).add 0), ?_⟩
    show (do if (← (Except.ok (Sre.isDigit c != false) : Except String Bool)) = true then pure (true, _) else _) = _
    rw [h]; rfl

/-- a dot, and no digit behind it -/
theorem step_dot (h : t.getD s 0 = 46) (hs : s < t.size) (hd : s + 1 < t.size → Sre.isDigit (t.getD (s + 1) 0) = false) : ∃ st' hd' u' o' seen', (mst t s start handed u o seen).step.step.step = mst t (s + 1) st' hd' u' o' seen' := by
  rw [step_lit h hs]
  have h2 : ∃ seen', ({ mst t s start handed u o seen with pc := 11, pos := s + 1, seen := seen.add 16 } : M).step = { mst t s start handed u o seen with pc := 11, pos := s + 1, seen := seen', answer := some false } := by
    show ∃ seen', M.exec ({ mst t s start handed u o seen with pc := 11, pos := s + 1, seen := seen.add 16 } : M) = _
    unfold M.exec
    have w : ({ mst t s start handed u o seen with pc := 11, pos := s + 1, seen := seen.add 16 } : M).word 0 = 24 := rfl
    rw [w]
    show ∃ seen', (if (1 : Int) > (t.size : Int) - ((s + 1 : Nat) : Int) then _ else _) = _
    by_cases hr : (1 : Int) > (t.size : Int) - ((s + 1 : Nat) : Int)
    · rw [if_pos hr]; exact ⟨_, rfl⟩
    · rw [if_neg hr]
      have hlt : s + 1 < t.size := by omega
      have hn : ∃ n, min 4294967295 ((t.size : Int) - ((s + 1 : Nat) : Int)).toNat = n + 1 := ⟨min 4294967295 ((t.size : Int) - ((s + 1 : Nat) : Int)).toNat - 1, by omega⟩
      obtain ⟨n, hn⟩ := hn
      obtain ⟨seen', ha⟩ := acc_digit (t.getD (s + 1) 0) (((seen.add 16).add 24).add 13)
      rw [hd hlt] at ha
      refine ⟨seen', ?_⟩
      show (match Sre.run Cod t 15 (min 4294967295 ((t.size : Int) - ((s + 1 : Nat) : Int)).toNat) (s + 1) 0 (((seen.add 16).add 24).add 13) with | .error why => _ | .ok (n, seen) => _) = _
      rw [hn]
      unfold Sre.run
      rw [ha]; rfl
  obtain ⟨seen', h2⟩ := h2
  rw [h2]
  refine ⟨s + 1, s + 1, false, false, seen', ?_⟩
  show (if s < t.size then _ else _) = _
  rw [if_pos hs]; rfl
end

end

section
set_option maxHeartbeats 4000000
open PySem.Sre

noncomputable def stepN : Nat → M → M
  | 0, m => m
  | n + 1, m => stepN n m.step
theorem step_done {m : M} (h : m.outcome.isSome = true) : m.step = m := by unfold M.step; rw [if_pos h]
theorem stepN_done : ∀ (n : Nat) {m : M}, m.outcome.isSome = true → stepN n m = m
  | 0, _, _ => rfl
  | n + 1, m, h => by unfold stepN; rw [step_done h]; exact stepN_done n h
theorem runFor_eq : ∀ (n : Nat) (m : M), m.runFor n = stepN n m
  | 0, _ => rfl
  | n + 1, m => by
    unfold M.runFor
    by_cases h : m.outcome.isSome = true
    · rw [if_pos h, stepN_done _ h]
    · rw [if_neg h]; exact runFor_eq n m.step
theorem stepN_add : ∀ (a b : Nat) (m : M), stepN (a + b) m = stepN b (stepN a m)
  | 0, b, m => by rw [Nat.zero_add]; rfl
  | a + 1, b, m => by rw [Nat.add_right_comm]; exact stepN_add a b m.step

/-- no dot with a digit behind it -/
noncomputable def NoIp (t : Array Nat) : Prop := ∀ s, s < t.size → t.getD s 0 = 46 → s + 1 < t.size → Sre.isDigit (t.getD (s + 1) 0) = false

noncomputable def mhit (t : Array Nat) (k start : Nat) (u o : Bool) (pc : Nat) (seen : Sre.Seen) : M :=
  { mst t k start (k + 1 + 1) u o seen with pc := pc, pos := k + 1 + 1, weight := 2, frames := [{ wait := .giveBack, pc := 11, pos := k + 1 + 1, outermost := u, count := 1, kept := { lastmark := -1, lastindex := -1, whole := false, marks := #[] } }, { wait := .nextStart, pc := 9, pos := k, outermost := o }] }
section
variable {t : Array Nat} {k : Nat}
theorem go_one {s start handed : Nat} {u o : Bool} {seen : Sre.Seen} (hs : s < t.size) (h : t.getD s 0 = 46 → s + 1 < t.size → Sre.isDigit (t.getD (s + 1) 0) = false) :
    ∃ n st' hd' u' o' seen', n ≤ 3 ∧ stepN n (mst t s start handed u o seen) = mst t (s + 1) st' hd' u' o' seen' := by
  by_cases q : t.getD s 0 = 46
  · obtain ⟨a, b, c, d, e, h⟩ := step_dot (start := start) (handed := handed) (u := u) (o := o) (seen := seen) q hs (h q)
    exact ⟨3, a, b, c, d, e, by decide, h⟩
  · obtain ⟨a, b, c, d, e, h⟩ := step_other (start := start) (handed := handed) (u := u) (o := o) (seen := seen) q hs
    exact ⟨2, a, b, c, d, e, by decide, h⟩

theorem go_no (hn : NoIp t) : ∀ (j s start handed : Nat) (u o : Bool) (seen : Sre.Seen), s + j = t.size → ∃ n, n ≤ 3 * j + 3 ∧ (stepN n (mst t s start handed u o seen)).outcome = some .failed
  | 0, s, start, handed, u, o, seen, hj => by
    obtain rfl : s = t.size := by omega
    obtain ⟨m, h1, h2⟩ := step_end (t := t) (start := start) (handed := handed) (u := u) (o := o) (seen := seen)
    exact ⟨3, by omega, by show M.outcome (M.step (M.step (M.step _))) = _; rw [h1]; exact h2⟩
  | j + 1, s, start, handed, u, o, seen, hj => by
    obtain ⟨n, a, b, c, d, e, hn1, h⟩ := go_one (t := t) (s := s) (start := start) (handed := handed) (u := u) (o := o) (seen := seen) (by omega) (hn s (by omega))
    obtain ⟨n', hn2, h'⟩ := go_no hn j (s + 1) a b c d e (by omega)
    exact ⟨n + n', by omega, by rw [stepN_add, h]; exact h'⟩

theorem hit (hk : t.size = k + 2) (h1 : t.getD k 0 = 46) (h2 : Sre.isDigit (t.getD (k + 1) 0) = true) {start handed : Nat} {u o : Bool} {seen : Sre.Seen} : (stepN 7 (mst t k start handed u o seen)).outcome = some .matched := by
  have e1 := step_lit (start := start) (handed := handed) (u := u) (o := o) (seen := seen) h1 (by omega)
  show M.outcome (stepN 6 (mst t k start handed u o seen).step) = _
  rw [e1]
  have e2 : ∃ seen', ({ mst t k start handed u o seen with pc := 11, pos := k + 1, seen := seen.add 16 } : M).step =
      mhit t k start u o 21 seen' := by
    show ∃ seen', M.exec ({ mst t k start handed u o seen with pc := 11, pos := k + 1, seen := seen.add 16 } : M) = _
    unfold M.exec
    have w : ({ mst t k start handed u o seen with pc := 11, pos := k + 1, seen := seen.add 16 } : M).word 0 = 24 := rfl
    rw [w]
    show ∃ seen', (if (1 : Int) > (t.size : Int) - ((k + 1 : Nat) : Int) then _ else _) = _
    rw [if_neg (by omega)]
    obtain ⟨seen', ha⟩ := acc_digit (t.getD (k + 1) 0) (((seen.add 16).add 24).add 13)
    rw [h2] at ha
    refine ⟨seen', ?_⟩
    show (match Sre.run Cod t 15 (min 4294967295 ((t.size : Int) - ((k + 1 : Nat) : Int)).toNat) (k + 1) 0 (((seen.add 16).add 24).add 13) with | .error why => _ | .ok (n, seen) => _) = _
    have hm : min 4294967295 ((t.size : Int) - ((k + 1 : Nat) : Int)).toNat = 1 := by omega
    rw [hm]
    have hr : Sre.run Cod t 15 1 (k + 1) 0 (((seen.add 16).add 24).add 13) = .ok (1, seen') := by
      unfold Sre.run
      rw [ha]; rfl
    rw [hr]; rfl
  obtain ⟨seen', e2⟩ := e2
  show M.outcome (stepN 5 (M.step _)) = _
  rw [e2]
  show M.outcome (stepN 4 (M.step _)) = _
  have e3 : (mhit t k start u o 21 seen').step =
      mhit t k start u o 23 ((seen'.add 6).add 48) := by
    show M.exec (mhit t k start u o 21 seen') = _
    unfold M.exec
    have w : (mhit t k start u o 21 seen').word 0 = 6 := rfl
    rw [w]
    have e : (k + 1 + 1 == t.size) = true := by rw [hk]; exact beq_self_eq_true _
    show (if ((k + 1 + 1 == t.size) || _) = true then _ else _) = _
    rw [e, Bool.true_or, if_pos rfl]; rfl
  rw [e3]
  cases u <;> rfl

theorem go_yes (hk : t.size = k + 2) (h1 : t.getD k 0 = 46) (h2 : Sre.isDigit (t.getD (k + 1) 0) = true) (hn : ∀ s, s < k → t.getD s 0 = 46 → Sre.isDigit (t.getD (s + 1) 0) = false) :
    ∀ (j s start handed : Nat) (u o : Bool) (seen : Sre.Seen), s + j = k → ∃ n, n ≤ 3 * j + 7 ∧ (stepN n (mst t s start handed u o seen)).outcome = some .matched
  | 0, s, start, handed, u, o, seen, hj => by
    obtain rfl : s = k := by omega
    exact ⟨7, by omega, hit hk h1 h2⟩
  | j + 1, s, start, handed, u, o, seen, hj => by
    obtain ⟨n, a, b, c, d, e, hn1, h⟩ := go_one (t := t) (s := s) (start := start) (handed := handed) (u := u) (o := o) (seen := seen) (by omega) (fun q _ => hn s (by omega) q)
    obtain ⟨n', hn2, h'⟩ := go_yes hk h1 h2 hn j (s + 1) a b c d e (by omega)
    exact ⟨n + n', by omega, by rw [stepN_add, h]; exact h'⟩
end

/-- what the search of a text comes to -/
theorem search_no {t : Array Nat} (hn : NoIp t) : ∃ n, n ≤ 3 * t.size + 3 ∧ (stepN n (Sre.forSearch Cod t 0 0 t.size false)).outcome = some .failed := by
  rcases Nat.lt_or_ge t.size 2 with h | h
  · obtain ⟨m, e, e1, e2⟩ := mst_short t h
    refine ⟨1, by omega, ?_⟩
    rw [e]
    show M.outcome (M.step (m.say false)) = _
    unfold M.step
    have : (m.say false).outcome.isSome = false := by show m.outcome.isSome = false; rw [e2]; rfl
    rw [this]
    show M.outcome (match (some false : Option Bool), m.frames with | some yes, [] => _ | some yes, f :: rest => _ | none, _ => _) = _
    rw [e1]; rfl
  · obtain ⟨seen, e⟩ := mst_start t h
    rw [e]
    exact go_no hn t.size 0 _ _ _ _ _ (by omega)
theorem search_yes {t : Array Nat} {k : Nat} (hk : t.size = k + 2) (h1 : t.getD k 0 = 46) (h2 : Sre.isDigit (t.getD (k + 1) 0) = true) (hn : ∀ s, s < k → t.getD s 0 = 46 → Sre.isDigit (t.getD (s + 1) 0) = false) :
    ∃ n, n ≤ 3 * t.size + 3 ∧ (stepN n (Sre.forSearch Cod t 0 0 t.size false)).outcome = some .matched := by
  obtain ⟨seen, e⟩ := mst_start t (by omega)
  rw [e]
  obtain ⟨n, h3, h4⟩ := go_yes hk h1 h2 hn k 0 0 0 true true seen (by omega)
  exact ⟨n, by omega, h4⟩

end

section
/-! ### the tree of hosts, plainly -/
noncomputable def sufL : List (List Nat) := [[], [38], [60], [62], [34], [9], [38, 13], [10, 62]]
noncomputable def rootL : List (List Nat) := [[108, 111, 99, 97, 108], [121, 46, 110, 101, 116], [121, 46, 120, 108, 111, 99, 97, 108]]
noncomputable def hdL (lab : Nat → Nat) (k : Nat) : List Nat := if k = 0 then [] else (97 + k) :: sufL.getD (lab k % 8) []
noncomputable def anc (shp : Nat → Nat) : Nat → Nat → List Nat
  | 0, _ => [0]
  | f + 1, k => if k = 0 then [0] else k :: anc shp f (shp k)
noncomputable def UL (shp : Nat → Nat) (k : Nat) : List Nat := anc shp k k
noncomputable def joinH (r : List Nat) (lab : Nat → Nat) : List Nat → List Nat
  | [] => r
  | k :: rest => if k = 0 then r else hdL lab k ++ 46 :: joinH r lab rest
noncomputable def hL (r : List Nat) (lab shp : Nat → Nat) (k : Nat) : List Nat := joinH r lab (UL shp k)

section
variable {shp lab : Nat → Nat} {r : List Nat}
theorem anc_fuel (up : ∀ k, 1 ≤ k → k < 6 → shp k < k) : ∀ (f k : Nat), k < 6 → k ≤ f → anc shp f k = anc shp k k := by
  intro f
  induction f using Nat.strongRecOn with
  | ind f ih =>
    intro k hk hf
    match f, k with
    | 0, 0 => rfl
    | f + 1, 0 => rfl
    | f + 1, k + 1 =>
      have h := up (k + 1) (by omega) hk
      show (if k + 1 = 0 then _ else _) = (if k + 1 = 0 then _ else _)
      rw [if_neg (by omega), if_neg (by omega), ih f (by omega) (shp (k + 1)) (by omega) (by omega)]
      by_cases q : k = f
      · subst q
        rw [ih k (by omega) (shp (k + 1)) (by omega) (by omega)]
      · rw [ih k (by omega) (shp (k + 1)) (by omega) (by omega)]
theorem UL_zero : UL shp 0 = [0] := rfl
theorem UL_succ (up : ∀ k, 1 ≤ k → k < 6 → shp k < k) {k : Nat} (h1 : 1 ≤ k) (h2 : k < 6) : UL shp k = k :: UL shp (shp k) := by
  have h := up k h1 h2
  unfold UL
  match k, h1 with
  | k + 1, _ =>
    show (if k + 1 = 0 then _ else _) = _
    rw [if_neg (by omega), anc_fuel up k (shp (k + 1)) (by omega) (by omega)]
theorem hL_zero : hL r lab shp 0 = r := rfl
theorem hL_succ (up : ∀ k, 1 ≤ k → k < 6 → shp k < k) {k : Nat} (h1 : 1 ≤ k) (h2 : k < 6) : hL r lab shp k = hdL lab k ++ 46 :: hL r lab shp (shp k) := by
  unfold hL
  rw [UL_succ up h1 h2]
  show (if k = 0 then _ else _) = _
  rw [if_neg (by omega)]

/-- all below six, and the first on the way is the host itself -/
theorem UL_lt (up : ∀ k, 1 ≤ k → k < 6 → shp k < k) : ∀ k, k < 6 → ∀ u ∈ UL shp k, u ≤ k := by
  intro k
  induction k using Nat.strongRecOn with
  | ind k ih =>
    intro hk u hu
    rcases Nat.eq_zero_or_pos k with h | h
    · subst h; rw [UL_zero, List.mem_singleton] at hu; omega
    · rw [UL_succ up h hk] at hu
      have := up k h hk
      rcases List.mem_cons.mp hu with rfl | hu
      · exact Nat.le_refl _
      · have := ih (shp k) this (by omega) u hu; omega
theorem UL_len (up : ∀ k, 1 ≤ k → k < 6 → shp k < k) : ∀ k, k < 6 → (UL shp k).length ≤ k + 1 := by
  intro k
  induction k using Nat.strongRecOn with
  | ind k ih =>
    intro hk
    rcases Nat.eq_zero_or_pos k with h | h
    · subst h; exact Nat.le_refl _
    · rw [UL_succ up h hk, List.length_cons]
      have := up k h hk
      have := ih (shp k) this (by omega)
      omega
theorem UL_zero_mem (up : ∀ k, 1 ≤ k → k < 6 → shp k < k) : ∀ k, k < 6 → 0 ∈ UL shp k := by
  intro k
  induction k using Nat.strongRecOn with
  | ind k ih =>
    intro hk
    rcases Nat.eq_zero_or_pos k with h | h
    · subst h; exact List.mem_singleton.mpr rfl
    · rw [UL_succ up h hk]
      exact List.mem_cons_of_mem _ (ih (shp k) (up k h hk) (by have := up k h hk; omega))
/-- what lies above a host on the way up has its own way up as the rest -/
theorem UL_suffix (up : ∀ k, 1 ≤ k → k < 6 → shp k < k) : ∀ k, k < 6 → ∀ u ∈ UL shp k, ∃ pre, UL shp k = pre ++ UL shp u ∧ (u ≠ k → pre ≠ []) := by
  intro k
  induction k using Nat.strongRecOn with
  | ind k ih =>
    intro hk u hu
    rcases Nat.eq_zero_or_pos k with h | h
    · subst h
      rw [UL_zero, List.mem_singleton] at hu
      subst hu
      exact ⟨[], rfl, fun h => absurd rfl h⟩
    · rw [UL_succ up h hk] at hu ⊢
      rcases List.mem_cons.mp hu with rfl | hu
      · exact ⟨[], by rw [UL_succ up h hk]; rfl, fun h => absurd rfl h⟩
      · have hs := up k h hk
        obtain ⟨pre, e, _⟩ := ih (shp k) hs (by omega) u hu
        exact ⟨k :: pre, by rw [e]; rfl, fun _ => by simp⟩
end

end

section
/-- the signs of hosts -/
noncomputable def okc (c : Nat) : Bool := c == 46 || (decide (97 ≤ c) && decide (c ≤ 122)) || [38, 60, 62, 34, 9, 13, 10].contains c
theorem suf_ok (j : Nat) : (sufL.getD j []).length ≤ 2 ∧ ∀ c ∈ sufL.getD j [], okc c = true ∧ c ≠ 46 ∧ ¬ (97 ≤ c) := by
  rcases Nat.lt_or_ge j 8 with h | h
  · have q : ∀ j, j < 8 → ((sufL.getD j []).length ≤ 2 ∧ ∀ c ∈ sufL.getD j [], okc c = true ∧ c ≠ 46 ∧ ¬ (97 ≤ c)) := by decide
    exact q j h
  · have : sufL.getD j [] = [] := by rw [List.getD_eq_getElem?_getD, List.getElem?_eq_none (by exact h)]; rfl
    rw [this]
    exact ⟨by decide, fun c hc => by cases hc⟩
section
variable {shp lab : Nat → Nat} {r : List Nat}
theorem hd_ok {k : Nat} (hk : k < 6) : ∀ c ∈ hdL lab k, okc c = true ∧ c ≠ 46 := by
  unfold hdL
  by_cases h : k = 0
  · rw [if_pos h]; intro c hc; cases hc
  · rw [if_neg h]
    intro c hc
    rcases List.mem_cons.mp hc with rfl | hc
    · refine ⟨?_, by omega⟩
      unfold okc
      rw [decide_eq_true (by omega), decide_eq_true (by omega)]
      simp
    · exact ⟨((suf_ok _).2 c hc).1, ((suf_ok _).2 c hc).2.1⟩
theorem hd_len (k : Nat) : (hdL lab k).length ≤ 3 := by
  unfold hdL
  split
  · exact Nat.zero_le _
  · rw [List.length_cons]; have := (suf_ok (lab k % 8)).1; omega
theorem root_ok (hr : r ∈ rootL) : r.length ≤ 8 ∧ (∀ c ∈ r, okc c = true) ∧ (∃ c, r[0]? = some c ∧ c ≠ 46) ∧ ∃ c, r.getLast? = some c ∧ 97 ≤ c ∧ c ≤ 122 := by
  rcases List.mem_cons.mp hr with rfl | hr
  · exact ⟨by decide, by decide, ⟨108, by decide, by decide⟩, 108, by decide, by decide, by decide⟩
  rcases List.mem_cons.mp hr with rfl | hr
  · exact ⟨by decide, by decide, ⟨121, by decide, by decide⟩, 116, by decide, by decide, by decide⟩
  rcases List.mem_cons.mp hr with rfl | hr
  · exact ⟨by decide, by decide, ⟨121, by decide, by decide⟩, 108, by decide, by decide, by decide⟩
  cases hr

theorem hL_ok (hr : r ∈ rootL) (up : ∀ k, 1 ≤ k → k < 6 → shp k < k) : ∀ k, k < 6 → (hL r lab shp k).length ≤ 8 + 4 * k ∧ (∀ c ∈ hL r lab shp k, okc c = true) ∧ (∃ c, (hL r lab shp k)[0]? = some c ∧ c ≠ 46) ∧ ∃ c, (hL r lab shp k).getLast? = some c ∧ 97 ≤ c ∧ c ≤ 122 := by
  intro k
  induction k using Nat.strongRecOn with
  | ind k ih =>
    intro hk
    rcases Nat.eq_zero_or_pos k with h | h
    · subst h; exact root_ok hr
    · have hs := up k h hk
      obtain ⟨h1, h2, h3, c, h4, h5⟩ := ih (shp k) hs (by omega)
      have hl := hd_len (lab := lab) k
      rw [hL_succ up h hk]
      refine ⟨by rw [List.length_append, List.length_cons]; omega, fun c hc => ?_, ?_, c, ?_, h5⟩
      · rcases List.mem_append.mp hc with hc | hc
        · exact (hd_ok hk c hc).1
        · rcases List.mem_cons.mp hc with rfl | hc
          · decide
          · exact h2 c hc
      · refine ⟨97 + k, ?_, by omega⟩
        have : hdL lab k = (97 + k) :: sufL.getD (lab k % 8) [] := if_neg (by omega)
        rw [this]; rfl
      · have e : hdL lab k ++ 46 :: hL r lab shp (shp k) = (hdL lab k ++ [46]) ++ hL r lab shp (shp k) := by simp
        rw [e, List.getLast?_append, h4]; rfl
end

end

section
noncomputable def lowA (c : Nat) : Nat := if 65 ≤ c ∧ c ≤ 90 then c + 32 else c
noncomputable def uppA (c : Nat) : Nat := if 97 ≤ c ∧ c ≤ 122 then c - 32 else c
theorem mapIdx_arr : ∀ (l : List Nat) (f : Nat → Nat → List Nat) (g : Nat → Nat), (∀ i c, l[i]? = some c → f i c = [g c]) → ((l.mapIdx fun i c => (f i c).toArray).map Array.toList).flatten = l.map g
  | [], _, _, _ => rfl
  | c :: l, f, g, h => by
    rw [List.mapIdx_cons, List.map_cons, List.flatten_cons, h 0 c rfl, List.map_cons, mapIdx_arr l (fun i => f (i + 1)) g fun i d hd => h (i + 1) d (by simpa using hd)]
    rfl
theorem placed_S (l : List Nat) (f : Nat → Nat → List Nat) (g : Nat → Nat) (h : ∀ i c, l[i]? = some c → f i c = [g c]) : (⟨placed (S l) f⟩ : Str) = S (l.map g) := by
  refine Str.ext' ?_
  show placed (S l) f = (l.map g).toArray
  apply Array.toList_inj.mp
  rw [← mapIdx_arr l f g h]
  simp [placed, S]
theorem upper_S (l : List Nat) (h : ∀ c ∈ l, c < 128) : Txt.upper (S l) = S (l.map uppA) := by
  refine placed_S l _ _ fun i c hc => ?_
  have q : ∀ c, c < 128 → Unicode.upperOf c = [uppA c] := by decide +kernel
  exact q c (h c (List.mem_of_getElem? hc))
theorem lower_S (l : List Nat) (h : ∀ c ∈ l, c < 128) : Txt.lower (S l) = S (l.map lowA) := by
  refine placed_S l _ _ fun i c hc => ?_
  have q : ∀ c, c < 128 → Unicode.lowerOf c = [lowA c] := by decide +kernel
  have e : (S l).cps[i]? = some c := by simpa [S] using hc
  have hlt := h c (List.mem_of_getElem? hc)
  unfold Unicode.lowerAt
  rw [e]
  have : (c == 0x3A3) = false := beq_eq_false_iff_ne.mpr (by omega)
  show (if (c == 0x3A3 && _) = true then _ else _) = _
  rw [this, Bool.false_and, if_neg Bool.false_ne_true]
  exact q c hlt
theorem okc_lt {c : Nat} (h : okc c = true) : c < 128 ∧ ¬ (65 ≤ c ∧ c ≤ 90) ∧ c ≠ 32 ∧ ¬ (48 ≤ c ∧ c ≤ 57) ∧ c ≠ 35 := by
  unfold okc at h
  simp only [Bool.or_eq_true, beq_iff_eq, Bool.and_eq_true, decide_eq_true_eq, List.contains_iff_mem] at h
  rcases h with (h | h) | h
  · omega
  · omega
  · simp at h; omega

end

section
theorem map_same {l : List Nat} {f : Nat → Nat} (h : ∀ c ∈ l, f c = c) : l.map f = l := by
  induction l with
  | nil => rfl
  | cons c l ih => rw [List.map_cons, h c List.mem_cons_self, ih fun d hd => h d (List.mem_cons_of_mem _ hd)]
/-- hosts in small letters stay; in great letters, and back -/
theorem lower_same {l : List Nat} (h : ∀ c ∈ l, c < 128 ∧ ¬ (65 ≤ c ∧ c ≤ 90)) : Txt.lower (S l) = S l := by
  rw [lower_S l fun c hc => (h c hc).1, map_same fun c hc => by unfold lowA; rw [if_neg (h c hc).2]]
theorem lower_upper {l : List Nat} (h : ∀ c ∈ l, c < 128 ∧ ¬ (65 ≤ c ∧ c ≤ 90)) : Txt.lower (Txt.upper (S l)) = S l := by
  rw [upper_S l fun c hc => (h c hc).1, lower_S, List.map_map, map_same]
  · intro c hc
    have := h c hc
    show lowA (uppA c) = c
    unfold lowA uppA
    split <;> split <;> omega
  · intro c hc
    obtain ⟨d, hd, rfl⟩ := List.mem_map.mp hc
    have := h d hd
    unfold uppA
    split <;> omega

/-- startswith, endswith on lists -/
theorem sub_at (a b : List Nat) (i : Nat) : Builtin.Str.subAt (S a) (S b) i = ((a.drop i).take b.length == b) := by
  rw [StrLaws.subAt_eq, S_cps, S_cps, S_len]
theorem startswith_S (a b : List Nat) : Txt.startswith (S a) (S b) = decide (b <+: a) := by
  unfold Txt.startswith
  rw [sub_at, S_len, S_len, Bool.eq_iff_iff, Bool.and_eq_true, decide_eq_true_eq, decide_eq_true_eq, beq_iff_eq, List.drop_zero, List.prefix_iff_eq_take]
  constructor
  · intro h; exact h.2.symm
  · intro h
    refine ⟨?_, h.symm⟩
    have := congrArg List.length h
    rw [List.length_take] at this
    omega
theorem endswith_S (a b : List Nat) : Txt.endswith (S a) (S b) = decide (b <:+ a) := by
  unfold Txt.endswith
  rw [sub_at, S_len, S_len, Bool.eq_iff_iff, Bool.and_eq_true, decide_eq_true_eq, decide_eq_true_eq, beq_iff_eq, List.suffix_iff_eq_drop]
  constructor
  · intro ⟨h1, h2⟩
    rw [List.take_of_length_le (by rw [List.length_drop]; omega)] at h2
    exact h2.symm
  · intro h
    have e := congrArg List.length h
    rw [List.length_drop] at e
    refine ⟨by omega, ?_⟩
    rw [List.take_of_length_le (by rw [List.length_drop]; omega)]
    exact h.symm
theorem at_one (l : List Nat) (c i : Nat) : StrLaws.At (S l) (S [c]) (S l).length i ↔ l[i]? = some c := by
  have := StrLaws.subAt_one (S l) c i
  rw [S_cps] at this
  exact this
/-- find of a dot: the first -/
theorem find_dot {h p : List Nat} {c : Nat} (hh : c ∉ h) : Txt.find (S (h ++ c :: p)) (S [c]) = (h.length : Int) := by
  unfold Txt.find
  have hat : StrLaws.At (S (h ++ c :: p)) (S [c]) (S (h ++ c :: p)).length h.length := (at_one _ _ _).mpr (by rw [List.getElem?_append_right (Nat.le_refl _), Nat.sub_self]; rfl)
  rcases StrLaws.occ_head (S (h ++ c :: p)) (S [c]) 1 (Nat.le_refl _) with ⟨e, hn⟩ | ⟨i, r, e, hi, hk⟩
  · exact absurd hat (hn _)
  · rw [e]
    have : i = h.length := by
      rcases Nat.lt_trichotomy i h.length with q | q | q
      · have h1 := (at_one _ _ _).mp hi
        rw [List.getElem?_append_left q] at h1
        exact absurd (List.mem_of_getElem? h1) hh
      · exact q
      · exact absurd hat (hk _ q)
    rw [this]
theorem find_no {l : List Nat} {c : Nat} (hh : c ∉ l) : Txt.find (S l) (S [c]) = -1 := by
  unfold Txt.find
  rcases StrLaws.occ_head (S l) (S [c]) 1 (Nat.le_refl _) with ⟨e, hn⟩ | ⟨i, r, e, hi, hk⟩
  · rw [e]
  · exact absurd (List.mem_of_getElem? ((at_one _ _ _).mp hi)) hh

end

section
theorem rstrip_S (l : List Nat) : Txt.rstrip (S l) = S (l.take (l.length - (l.reverse.takeWhile Unicode.isSpace).length)) := by
  have hi : stripHi Unicode.isSpace true (S l) 0 = l.length - (l.reverse.takeWhile Unicode.isSpace).length := by
    unfold stripHi
    rw [if_pos rfl, S_len, S_cps, List.drop_zero]
  have lo : stripLo Unicode.isSpace false (S l) = 0 := if_neg Bool.false_ne_true
  unfold Txt.rstrip Txt.stripBy
  by_cases h : stripSame Unicode.isSpace false true (S l) = true
  · rw [if_pos h]
    unfold stripSame at h
    rw [lo, hi, Bool.and_eq_true, beq_iff_eq, beq_iff_eq, S_len] at h
    rw [h.2, List.take_length]
  · rw [if_neg h]
    unfold PySem.stripped
    rw [lo, hi, S_of (Builtin.Str.strSub _ _ _), StrLaws.strSub_toList, S_cps, List.drop_zero, Nat.sub_zero]
/-- what is white behind goes, and no more -/
theorem rstrip_app {h t : List Nat} {e : Nat} (ht : ∀ c ∈ t, Unicode.isSpace c = true) (he : h.getLast? = some e) (hs : Unicode.isSpace e = false) : Txt.rstrip (S (h ++ t)) = S h := by
  rw [rstrip_S]
  have e1 : (h ++ t).reverse.takeWhile Unicode.isSpace = t.reverse := by
    rw [List.reverse_append, List.takeWhile_append_of_pos (by intro c hc; exact ht c (List.mem_reverse.mp hc))]
    obtain ⟨h', rfl⟩ : ∃ h', h = h' ++ [e] := List.getLast?_eq_some_iff.mp he
    rw [List.reverse_append]
    show t.reverse ++ (e :: h'.reverse).takeWhile Unicode.isSpace = _
    rw [List.takeWhile_cons_of_neg (by rw [hs]; exact Bool.false_ne_true), List.append_nil]
  rw [e1, List.length_reverse, List.length_append, Nat.add_sub_cancel, List.take_left]
theorem rstrip_white {t : List Nat} (ht : ∀ c ∈ t, Unicode.isSpace c = true) : Txt.rstrip (S t) = S [] := by
  rw [rstrip_S]
  have e1 : t.reverse.takeWhile Unicode.isSpace = t.reverse := by
    have h := List.takeWhile_append_of_pos (p := Unicode.isSpace) (l₁ := t.reverse) (l₂ := []) fun c hc => ht c (List.mem_reverse.mp hc)
    rw [List.append_nil] at h
    rw [h]; simp
  rw [e1, List.length_reverse, Nat.sub_self]; rfl
theorem space_small : Unicode.isSpace 32 = true ∧ Unicode.isSpace 9 = true ∧ ∀ c, 97 ≤ c → c ≤ 122 → Unicode.isSpace c = false := by
  refine ⟨by decide +kernel, by decide +kernel, ?_⟩
  have q : ∀ c, c < 123 → 97 ≤ c → Unicode.isSpace c = false := by decide +kernel
  intro c h1 h2
  exact q c (by omega) h1

end

local macro_rules | `(tactic| walk_at "sb") => `(tactic| first | assumption | decide | omega | (simp only [List.length_append, List.length_map, List.length_cons, List.length_nil, List.length_singleton]; omega))
local macro_rules | `(tactic| walk_at "op") => `(tactic| first | exact add_ints | exact sub_ints | exact mod_ints (by walk_at "sb") | exact add_strs (by walk_at "sb") | exact add_lists' (by walk_at "sb"))
local macro_rules | `(tactic| walk_at "cm") => `(tactic| first | exact cmp_eq_str | exact cmp_ne_str | exact cmp_eq_int | exact cmp_ne_int | exact cmp_lt | exact cmp_le | exact cmp_gt | exact cmp_ge | exact in_str | exact notin_str | exact is_bool | exact isnot_bool)
local macro_rules | `(tactic| walk_at "bi") => `(tactic| first | exact len_str' (by walk_at "sb") | exact len_list' (by walk_at "sb"))
local macro_rules | `(tactic| walk_at "ty") => `(tactic| first | exact range1' | exact range2' | exact type_tuple | exact type_int)
local macro_rules | `(tactic| walk_at "tr") => `(tactic| first | exact tr_bool | exact tr_str (by walk_at "sb") | exact tr_int)
local macro_rules | `(tactic| walk_at "ix") => `(tactic| first | exact ⟨.inl ⟨by decide, rfl⟩, by decide, by decide⟩ | exact ⟨.inr ⟨by decide, of_decide_eq_true rfl, rfl⟩, by decide, by decide⟩ | assumption)
local macro_rules | `(tactic| walk_at "it") => `(tactic| first | exact item_list (by walk_at "ix") | exact item_tuple (by walk_at "ix") | exact item_str (by decide) (by assumption))
local macro_rules | `(tactic| walk_at "nr") => `(tactic| first | ((repeat (apply rset_ne; · simp only [String.reduceBEq])); first | exact rset_eq | exact rset_none _ _) | ((try simp only [rset_of, rset_none, reduceIte, String.reduceBEq, Bool.false_eq_true, List.eraseIdx_cons_zero, List.eraseIdx_cons_succ]); first | done | exact rfl))
section

section
variable {W : Wd} {a : Nat → Addr}
noncomputable def commentS (x : Str) : Str := if ((Txt.rstrip x).length != 0) = true then "# " ++ Txt.rstrip x else "#"
theorem c10 (G : Gl W a) {x : Str} (hx : x.length ≤ 100000) (hr : (Txt.rstrip x).length ≤ 100000) : FnC W (a 10) 1 [.str x] (.str (commentS x)) := by
  refine fn1 (G.fn 10 (by decide)) ok10 fun L cd A => ?_
  have l2 : (Str.ofString "# ").length = 2 := by decide +kernel
  refine xb_n (xs_assign (ev_meth (ev_name rfl) ty_str PySem.F.plainAttrs_str PySem.F.slot_str_rstrip PySem.F.type_str_rstrip el_nil (m_rstrip (by walk_at "sb"))) (.inl rfl)) (by walk_at "nr") ?_
  unfold commentS
  cases hb : ((Txt.rstrip x).length != 0) with
  | true => exact xb_ifRet (et_eq (et_val (ev_name rfl) (by walk_at "tr")) hb) (xb_ret (xs_return (ev_bin ev_str (ev_name rfl) (by walk_at "op"))))
  | false => exact xb_ifElse (et_eq (et_val (ev_name rfl) (by walk_at "tr")) hb) (xb_ret (xs_return ev_str))

/-! _ellipsis_match -/
theorem c9_no (G : Gl W a) {x y : Str} (h : Txt.contains x "..." = false) : FnC W (a 9) 1 [.str x, .str y] (.bool (x == y)) := by
  refine fn2 (G.fn 9 (by decide)) ok9 fun L cd A => ?_
  exact xb_ifRet (et_eq (et_cmp (ev_marker G rfl) (ev_name rfl) (by walk_at "cm")) (by rw [h]; rfl)) (xb_ret (xs_return (ev_cmp (ev_name rfl) (ev_name rfl) (by walk_at "cm"))))

theorem c9_two (G : Gl W a) {x y w0 w2 : Str} (hx : x.length ≤ 100000) (hy : y.length ≤ 100000) (hw0 : w0.length ≤ 100000) (hw2 : w2.length ≤ 100000) (h : Txt.contains x "..." = true) (hs : Txt.split x "..." = [w0, w2]) (h0 : w0.length ≠ 0) (h2 : w2.length ≠ 0) :
    FnC W (a 9) 1 [.str x, .str y] (.bool (Txt.startswith y w0 && (Txt.endswith y w2 && !decide ((w0.length : Int) > (y.length : Int) - w2.length)))) := by
  refine fn2 (G.fn 9 (by decide)) ok9 fun L cd A => ?_
  refine xb_ifSkip (et_eq (et_cmp (ev_marker G rfl) (ev_name rfl) (by walk_at "cm")) (by rw [h]; rfl)) ?_
  refine xb_n (xs_assignF (ef_split (ev_name rfl) (ev_marker G rfl) (by decide +kernel) (by walk_at "sb")) (.inl rfl)) (by walk_at "nr") ?_
  rw [hs]
  refine xb_n (xs_assert (et_eq (et_cmp (ev_lenow (f := .Constant .none 0 ⟨0, 0, 0, 0⟩) rfl (ev_global rfl (gl_len G)) (by walk_at "sb")) ev_int (by walk_at "cm")) (by rfl))) (by walk_at "nr") ?_
  refine xb_n (xs_tuple2 ev_int (ev_callB (ev_global rfl (gl_len G)) (el_cons (ev_name rfl) el_nil) (by walk_at "bi")) (.inl rfl) (.inl rfl)) (by walk_at "nr") ?_
  refine xb_n (xs_assign (ev_subow rfl ev_int (by walk_at "ix")) (.inl rfl)) (by walk_at "nr") ?_
  have e0 : (w0.length != 0) = true := by simpa using h0
  have e2 : (w2.length != 0) = true := by simpa using h2
  cases hb : Txt.startswith y w0 with
  | false => exact xb_ifRet (et_eq (et_val (ev_name rfl) (by walk_at "tr")) e0) (xb_ifElse (et_eq (et_val (ev_meth (ev_name rfl) ty_str PySem.F.plainAttrs_str PySem.F.slot_str_startswith PySem.F.type_str_startswith (el_cons (ev_name rfl) el_nil) m_startswith) (by walk_at "tr")) hb) (xb_ret (xs_return ev_bool)))
  | true =>
    refine xb_ifNext (et_eq (et_val (ev_name rfl) (by walk_at "tr")) e0) (xb_ifNext (et_eq (et_val (ev_meth (ev_name rfl) ty_str PySem.F.plainAttrs_str PySem.F.slot_str_startswith PySem.F.type_str_startswith (el_cons (ev_name rfl) el_nil) m_startswith) (by walk_at "tr")) hb) (xb_cons (xs_assign (ev_callB (ev_global rfl (gl_len G)) (el_cons (ev_name rfl) el_nil) (by walk_at "bi")) (.inl rfl)) (xb_cons (xs_del (j := 0) rfl ev_int rfl rfl (of_decide_eq_true rfl)) xb_nil)) xb_nil) ?_
    refine xb_q (by walk_at "nr") ?_
    refine xb_n (xs_assign (ev_subow rfl (ev_neg ev_int) (by walk_at "ix")) (.inl rfl)) (by walk_at "nr") ?_
    cases hc : Txt.endswith y w2 with
    | false => exact xb_ifRet (et_eq (et_val (ev_name rfl) (by walk_at "tr")) e2) (xb_ifElse (et_eq (et_val (ev_meth (ev_name rfl) ty_str PySem.F.plainAttrs_str PySem.F.slot_str_endswith PySem.F.type_str_endswith (el_cons (ev_name rfl) el_nil) m_endswith) (by walk_at "tr")) hc) (xb_ret (xs_return ev_bool)))
    | true =>
      refine xb_ifNext (et_eq (et_val (ev_name rfl) (by walk_at "tr")) e2) (xb_ifNext (et_eq (et_val (ev_meth (ev_name rfl) ty_str PySem.F.plainAttrs_str PySem.F.slot_str_endswith PySem.F.type_str_endswith (el_cons (ev_name rfl) el_nil) m_endswith) (by walk_at "tr")) hc) (xb_cons (xs_aug rfl (ev_callB (ev_global rfl (gl_len G)) (el_cons (ev_name rfl) el_nil) (by walk_at "bi")) isub_ints (.inl rfl)) (xb_cons (xs_del (j := 0) rfl (ev_neg ev_int) rfl rfl (of_decide_eq_true rfl)) xb_nil)) xb_nil) ?_
      refine xb_q (by walk_at "nr") ?_
      cases hd : decide ((w0.length : Int) > (y.length : Int) - w2.length) with
      | true => exact xb_ifRet (et_eq (et_cmp (ev_name rfl) (ev_name rfl) (by walk_at "cm")) hd) (xb_ret (xs_return ev_bool))
      | false =>
        refine xb_ifSkip (et_eq (et_cmp (ev_name rfl) (ev_name rfl) (by walk_at "cm")) hd) ?_
        refine xb_frz (x := "ws") rfl (by walk_at "nr") ?_
        refine xb_n (xs_for (ev_name rfl) (.list _) (fun _ _ e => by cases e) forl_nil) (by walk_at "nr") ?_
        exact xb_ret (xs_return ev_bool)

theorem c9_three (G : Gl W a) {x y w0 w1 w2 : Str} (hx : x.length ≤ 100000) (hy : y.length ≤ 100000) (hw0 : w0.length ≤ 100000) (hw1 : w1.length ≤ 100000) (hw2 : w2.length ≤ 100000) (h : Txt.contains x "..." = true) (hs : Txt.split x "..." = [w0, w1, w2]) (h0 : w0.length ≠ 0) (h2 : w2.length ≠ 0) :
    FnC W (a 9) 1 [.str x, .str y] (.bool (Txt.startswith y w0 && (Txt.endswith y w2 && (!decide ((w0.length : Int) > (y.length : Int) - w2.length) && !decide (find4 y w1 w0.length ((y.length : Int) - w2.length) < 0))))) := by
  refine fn2 (G.fn 9 (by decide)) ok9 fun L cd A => ?_
  refine xb_ifSkip (et_eq (et_cmp (ev_marker G rfl) (ev_name rfl) (by walk_at "cm")) (by rw [h]; rfl)) ?_
  refine xb_n (xs_assignF (ef_split (ev_name rfl) (ev_marker G rfl) (by decide +kernel) (by walk_at "sb")) (.inl rfl)) (by walk_at "nr") ?_
  rw [hs]
  refine xb_n (xs_assert (et_eq (et_cmp (ev_lenow (f := .Constant .none 0 ⟨0, 0, 0, 0⟩) rfl (ev_global rfl (gl_len G)) (by walk_at "sb")) ev_int (by walk_at "cm")) (by rfl))) (by walk_at "nr") ?_
  refine xb_n (xs_tuple2 ev_int (ev_callB (ev_global rfl (gl_len G)) (el_cons (ev_name rfl) el_nil) (by walk_at "bi")) (.inl rfl) (.inl rfl)) (by walk_at "nr") ?_
  refine xb_n (xs_assign (ev_subow rfl ev_int (by walk_at "ix")) (.inl rfl)) (by walk_at "nr") ?_
  have e0 : (w0.length != 0) = true := by simpa using h0
  have e2 : (w2.length != 0) = true := by simpa using h2
  cases hb : Txt.startswith y w0 with
  | false => exact xb_ifRet (et_eq (et_val (ev_name rfl) (by walk_at "tr")) e0) (xb_ifElse (et_eq (et_val (ev_meth (ev_name rfl) ty_str PySem.F.plainAttrs_str PySem.F.slot_str_startswith PySem.F.type_str_startswith (el_cons (ev_name rfl) el_nil) m_startswith) (by walk_at "tr")) hb) (xb_ret (xs_return ev_bool)))
  | true =>
    refine xb_ifNext (et_eq (et_val (ev_name rfl) (by walk_at "tr")) e0) (xb_ifNext (et_eq (et_val (ev_meth (ev_name rfl) ty_str PySem.F.plainAttrs_str PySem.F.slot_str_startswith PySem.F.type_str_startswith (el_cons (ev_name rfl) el_nil) m_startswith) (by walk_at "tr")) hb) (xb_cons (xs_assign (ev_callB (ev_global rfl (gl_len G)) (el_cons (ev_name rfl) el_nil) (by walk_at "bi")) (.inl rfl)) (xb_cons (xs_del (j := 0) rfl ev_int rfl rfl (of_decide_eq_true rfl)) xb_nil)) xb_nil) ?_
    refine xb_q (by walk_at "nr") ?_
    refine xb_n (xs_assign (ev_subow rfl (ev_neg ev_int) (by walk_at "ix")) (.inl rfl)) (by walk_at "nr") ?_
    cases hc : Txt.endswith y w2 with
    | false => exact xb_ifRet (et_eq (et_val (ev_name rfl) (by walk_at "tr")) e2) (xb_ifElse (et_eq (et_val (ev_meth (ev_name rfl) ty_str PySem.F.plainAttrs_str PySem.F.slot_str_endswith PySem.F.type_str_endswith (el_cons (ev_name rfl) el_nil) m_endswith) (by walk_at "tr")) hc) (xb_ret (xs_return ev_bool)))
    | true =>
      refine xb_ifNext (et_eq (et_val (ev_name rfl) (by walk_at "tr")) e2) (xb_ifNext (et_eq (et_val (ev_meth (ev_name rfl) ty_str PySem.F.plainAttrs_str PySem.F.slot_str_endswith PySem.F.type_str_endswith (el_cons (ev_name rfl) el_nil) m_endswith) (by walk_at "tr")) hc) (xb_cons (xs_aug rfl (ev_callB (ev_global rfl (gl_len G)) (el_cons (ev_name rfl) el_nil) (by walk_at "bi")) isub_ints (.inl rfl)) (xb_cons (xs_del (j := 1) rfl (ev_neg ev_int) rfl rfl (of_decide_eq_true rfl)) xb_nil)) xb_nil) ?_
      refine xb_q (by walk_at "nr") ?_
      cases hd : decide ((w0.length : Int) > (y.length : Int) - w2.length) with
      | true => exact xb_ifRet (et_eq (et_cmp (ev_name rfl) (ev_name rfl) (by walk_at "cm")) hd) (xb_ret (xs_return ev_bool))
      | false =>
        refine xb_ifSkip (et_eq (et_cmp (ev_name rfl) (ev_name rfl) (by walk_at "cm")) hd) ?_
        refine xb_frz (x := "ws") rfl (by walk_at "nr") ?_
        cases he : decide (find4 y w1 w0.length ((y.length : Int) - w2.length) < 0) with
        | true =>
          refine xb_ret (xs_for (ev_name rfl) (.list _) (fun _ _ e => by cases e) (forl_ret (.inl rfl) ?_))
          refine xb_n (xs_assign (ev_meth (ev_name rfl) ty_str PySem.F.plainAttrs_str PySem.F.slot_str_find PySem.F.type_str_find (el_cons (ev_name rfl) (el_cons (ev_name rfl) (el_cons (ev_name rfl) el_nil))) m_find4) (.inl rfl)) (by walk_at "nr") ?_
          exact xb_ifRet (et_eq (et_cmp (ev_name rfl) ev_int (by walk_at "cm")) he) (xb_ret (xs_return ev_bool))
        | false =>
          refine xb_cons (xs_for (ev_name rfl) (.list _) (fun _ _ e => by cases e) (forl_cons (ρ' := []) (.inl rfl) ?b forl_nil)) ?c
          case b =>
            refine xb_q (by walk_at "nr") ?_
            refine xb_n (xs_assign (ev_meth (ev_name rfl) ty_str PySem.F.plainAttrs_str PySem.F.slot_str_find PySem.F.type_str_find (el_cons (ev_name rfl) (el_cons (ev_name rfl) (el_cons (ev_name rfl) el_nil))) m_find4) (.inl rfl)) (by walk_at "nr") ?_
            refine xb_ifSkip (et_eq (et_cmp (ev_name rfl) ev_int (by walk_at "cm")) he) ?_
            exact xb_cons (xs_aug rfl (ev_callB (ev_global rfl (gl_len G)) (el_cons (ev_name rfl) el_nil) (by walk_at "bi")) iadd_ints (.inl rfl)) (xb_to [] trivial xb_nil)
          case c => exact xb_ret (xs_return ev_bool)
end

end

section

/-! ### the five hands -/
noncomputable def tb (ps : List (Nat × List Nat)) (c : Nat) : List Nat := ps.foldl (fun acc p => acc.flatMap (sub1 p.1 p.2)) [c]
theorem tb_free (c : Nat) : ∀ ps : List (Nat × List Nat), (∀ p ∈ ps, p.1 ≠ c) → tb ps c = [c]
  | [], _ => rfl
  | p :: ps, h => by
    have e : [c].flatMap (sub1 p.1 p.2) = [c] := sub1_free _ _ _ (by simpa using h p List.mem_cons_self)
    unfold tb
    rw [List.foldl_cons, e]
    exact tb_free c ps fun q hq => h q (List.mem_cons_of_mem _ hq)
theorem tb_le {ps : List (Nat × List Nat)} (h : (ps.all fun p => decide ((tb ps p.1).length ≤ 6)) = true) (c : Nat) : (tb ps c).length ≤ 6 := by
  by_cases q : ∃ p ∈ ps, p.1 = c
  · obtain ⟨p, hp, rfl⟩ := q
    exact of_decide_eq_true (List.all_eq_true.mp h p hp)
  · rw [tb_free c ps fun p hp e => q ⟨p, hp, e⟩]; show 1 ≤ 6; decide
theorem tb_len {l : List Nat} {ps : List (Nat × List Nat)} (hl : l.length ≤ 10000) (h : (ps.all fun p => decide ((tb ps p.1).length ≤ 6)) = true) : (S (l.flatMap (tb ps))).length ≤ 100000 := by
  rw [S_len]
  have := length_flatMap_le l (tb ps) 6 (tb_le h)
  omega
theorem tb_snoc (l : List Nat) (ps : List (Nat × List Nat)) (c : Nat) (z : List Nat) : (l.flatMap (tb ps)).flatMap (sub1 c z) = l.flatMap (tb (ps ++ [(c, z)])) := by
  rw [List.flatMap_assoc]
  congr 1
  funext k
  unfold tb
  rw [List.foldl_append]; rfl
theorem tb_one {l : List Nat} {c : Nat} {z : List Nat} : l.flatMap (sub1 c z) = l.flatMap (tb [(c, z)]) := by
  congr 1
  funext k
  show _ = [k].flatMap (sub1 c z)
  simp

section
variable {W : Wd} {a : Nat → Addr}
theorem esc_if {F : Fm} {t p r : Str} {m z : List Nat} {c : Nat} {test : Expr} {body sts : List Stmt} {pos : Pos} {out : Out} (T : EvT W F [("text", .sh (.str t))] test (Txt.contains t p))
    (A : ExB W F [("text", .sh (.str t))] body (.next [("text", .sh (.str (Txt.replace t p r)))])) (e1 : p = S [c]) (e2 : r = S z) (e3 : t = S m) (hs : ExB W F [("text", .sh (.str (S (m.flatMap (sub1 c z)))))] sts out) :
    ExB W F [("text", .sh (.str t))] (.If test body [] pos :: sts) out := by
  subst e1 e2 e3
  rw [replace_S] at A
  cases hb : Txt.contains (S m) (S [c]) with
  | true => exact xb_ifNext (et_eq T hb) A hs
  | false =>
    refine xb_ifSkip (et_eq T hb) ?_
    rw [contains_S, decide_eq_false_iff_not] at hb
    rw [sub1_free c z m hb] at hs
    exact hs
noncomputable def ps19 : List (Nat × List Nat) := [(38, [38, 97, 109, 112, 59]), (60, [38, 108, 116, 59]), (62, [38, 103, 116, 59])]
theorem c19 (G : Gl W a) {l : List Nat} (hl : l.length ≤ 10000) : FnC W (a 19) 1 [.str (S l)] (.str (S (l.flatMap (tb ps19)))) := by
  have h0 : (S l).length ≤ 100000 := by rw [S_len]; omega
  refine fn1 (G.fn 19 (by decide)) ok19 fun L cd A => ?_
  refine xb_ret (xs_try ?_)
  refine esc_if (t := S l) (m := l) (c := 38) (z := [38, 97, 109, 112, 59]) (et_cmp ev_str (ev_name rfl) (by walk_at "cm")) (xb_n (xs_assign (ev_replace (ev_name rfl) (by decide +kernel) (by walk_at "sb") (by decide +kernel)) (.inl rfl)) (by walk_at "nr") xb_nil) (by decide +kernel) (by decide +kernel) rfl ?_
  rw [tb_one]
  have h1 : (S (l.flatMap (tb [(38, [38, 97, 109, 112, 59])]))).length ≤ 100000 := tb_len hl (by decide)
  refine esc_if (t := S (l.flatMap (tb [(38, [38, 97, 109, 112, 59])]))) (m := (l.flatMap (tb [(38, [38, 97, 109, 112, 59])]))) (c := 60) (z := [38, 108, 116, 59]) (et_cmp ev_str (ev_name rfl) (by walk_at "cm")) (xb_n (xs_assign (ev_replace (ev_name rfl) (by decide +kernel) (by walk_at "sb") (by decide +kernel)) (.inl rfl)) (by walk_at "nr") xb_nil) (by decide +kernel) (by decide +kernel) rfl ?_
  rw [tb_snoc l [(38, [38, 97, 109, 112, 59])] 60 [38, 108, 116, 59]]
  have h2 : (S (l.flatMap (tb [(38, [38, 97, 109, 112, 59]), (60, [38, 108, 116, 59])]))).length ≤ 100000 := tb_len hl (by decide)
  refine esc_if (t := S (l.flatMap (tb [(38, [38, 97, 109, 112, 59]), (60, [38, 108, 116, 59])]))) (m := (l.flatMap (tb [(38, [38, 97, 109, 112, 59]), (60, [38, 108, 116, 59])]))) (c := 62) (z := [38, 103, 116, 59]) (et_cmp ev_str (ev_name rfl) (by walk_at "cm")) (xb_n (xs_assign (ev_replace (ev_name rfl) (by decide +kernel) (by walk_at "sb") (by decide +kernel)) (.inl rfl)) (by walk_at "nr") xb_nil) (by decide +kernel) (by decide +kernel) rfl ?_
  rw [tb_snoc l [(38, [38, 97, 109, 112, 59]), (60, [38, 108, 116, 59])] 62 [38, 103, 116, 59]]
  exact xb_ret (xs_return (ev_name rfl))
noncomputable def ps20 : List (Nat × List Nat) := [(38, [38, 97, 109, 112, 59]), (60, [38, 108, 116, 59]), (62, [38, 103, 116, 59]), (34, [38, 113, 117, 111, 116, 59]), (13, [38, 35, 49, 51, 59]), (10, [38, 35, 49, 48, 59]), (9, [38, 35, 48, 57, 59])]
theorem c20 (G : Gl W a) {l : List Nat} (hl : l.length ≤ 10000) : FnC W (a 20) 1 [.str (S l)] (.str (S (l.flatMap (tb ps20)))) := by
  have h0 : (S l).length ≤ 100000 := by rw [S_len]; omega
  refine fn1 (G.fn 20 (by decide)) ok20 fun L cd A => ?_
  refine xb_ret (xs_try ?_)
  refine esc_if (t := S l) (m := l) (c := 38) (z := [38, 97, 109, 112, 59]) (et_cmp ev_str (ev_name rfl) (by walk_at "cm")) (xb_n (xs_assign (ev_replace (ev_name rfl) (by decide +kernel) (by walk_at "sb") (by decide +kernel)) (.inl rfl)) (by walk_at "nr") xb_nil) (by decide +kernel) (by decide +kernel) rfl ?_
  rw [tb_one]
  have h1 : (S (l.flatMap (tb [(38, [38, 97, 109, 112, 59])]))).length ≤ 100000 := tb_len hl (by decide)
  refine esc_if (t := S (l.flatMap (tb [(38, [38, 97, 109, 112, 59])]))) (m := (l.flatMap (tb [(38, [38, 97, 109, 112, 59])]))) (c := 60) (z := [38, 108, 116, 59]) (et_cmp ev_str (ev_name rfl) (by walk_at "cm")) (xb_n (xs_assign (ev_replace (ev_name rfl) (by decide +kernel) (by walk_at "sb") (by decide +kernel)) (.inl rfl)) (by walk_at "nr") xb_nil) (by decide +kernel) (by decide +kernel) rfl ?_
  rw [tb_snoc l [(38, [38, 97, 109, 112, 59])] 60 [38, 108, 116, 59]]
  have h2 : (S (l.flatMap (tb [(38, [38, 97, 109, 112, 59]), (60, [38, 108, 116, 59])]))).length ≤ 100000 := tb_len hl (by decide)
  refine esc_if (t := S (l.flatMap (tb [(38, [38, 97, 109, 112, 59]), (60, [38, 108, 116, 59])]))) (m := (l.flatMap (tb [(38, [38, 97, 109, 112, 59]), (60, [38, 108, 116, 59])]))) (c := 62) (z := [38, 103, 116, 59]) (et_cmp ev_str (ev_name rfl) (by walk_at "cm")) (xb_n (xs_assign (ev_replace (ev_name rfl) (by decide +kernel) (by walk_at "sb") (by decide +kernel)) (.inl rfl)) (by walk_at "nr") xb_nil) (by decide +kernel) (by decide +kernel) rfl ?_
  rw [tb_snoc l [(38, [38, 97, 109, 112, 59]), (60, [38, 108, 116, 59])] 62 [38, 103, 116, 59]]
  have h3 : (S (l.flatMap (tb [(38, [38, 97, 109, 112, 59]), (60, [38, 108, 116, 59]), (62, [38, 103, 116, 59])]))).length ≤ 100000 := tb_len hl (by decide)
  refine esc_if (t := S (l.flatMap (tb [(38, [38, 97, 109, 112, 59]), (60, [38, 108, 116, 59]), (62, [38, 103, 116, 59])]))) (m := (l.flatMap (tb [(38, [38, 97, 109, 112, 59]), (60, [38, 108, 116, 59]), (62, [38, 103, 116, 59])]))) (c := 34) (z := [38, 113, 117, 111, 116, 59]) (et_cmp ev_str (ev_name rfl) (by walk_at "cm")) (xb_n (xs_assign (ev_replace (ev_name rfl) (by decide +kernel) (by walk_at "sb") (by decide +kernel)) (.inl rfl)) (by walk_at "nr") xb_nil) (by decide +kernel) (by decide +kernel) rfl ?_
  rw [tb_snoc l [(38, [38, 97, 109, 112, 59]), (60, [38, 108, 116, 59]), (62, [38, 103, 116, 59])] 34 [38, 113, 117, 111, 116, 59]]
  have h4 : (S (l.flatMap (tb [(38, [38, 97, 109, 112, 59]), (60, [38, 108, 116, 59]), (62, [38, 103, 116, 59]), (34, [38, 113, 117, 111, 116, 59])]))).length ≤ 100000 := tb_len hl (by decide)
  refine esc_if (t := S (l.flatMap (tb [(38, [38, 97, 109, 112, 59]), (60, [38, 108, 116, 59]), (62, [38, 103, 116, 59]), (34, [38, 113, 117, 111, 116, 59])]))) (m := (l.flatMap (tb [(38, [38, 97, 109, 112, 59]), (60, [38, 108, 116, 59]), (62, [38, 103, 116, 59]), (34, [38, 113, 117, 111, 116, 59])]))) (c := 13) (z := [38, 35, 49, 51, 59]) (et_cmp ev_str (ev_name rfl) (by walk_at "cm")) (xb_n (xs_assign (ev_replace (ev_name rfl) (by decide +kernel) (by walk_at "sb") (by decide +kernel)) (.inl rfl)) (by walk_at "nr") xb_nil) (by decide +kernel) (by decide +kernel) rfl ?_
  rw [tb_snoc l [(38, [38, 97, 109, 112, 59]), (60, [38, 108, 116, 59]), (62, [38, 103, 116, 59]), (34, [38, 113, 117, 111, 116, 59])] 13 [38, 35, 49, 51, 59]]
  have h5 : (S (l.flatMap (tb [(38, [38, 97, 109, 112, 59]), (60, [38, 108, 116, 59]), (62, [38, 103, 116, 59]), (34, [38, 113, 117, 111, 116, 59]), (13, [38, 35, 49, 51, 59])]))).length ≤ 100000 := tb_len hl (by decide)
  refine esc_if (t := S (l.flatMap (tb [(38, [38, 97, 109, 112, 59]), (60, [38, 108, 116, 59]), (62, [38, 103, 116, 59]), (34, [38, 113, 117, 111, 116, 59]), (13, [38, 35, 49, 51, 59])]))) (m := (l.flatMap (tb [(38, [38, 97, 109, 112, 59]), (60, [38, 108, 116, 59]), (62, [38, 103, 116, 59]), (34, [38, 113, 117, 111, 116, 59]), (13, [38, 35, 49, 51, 59])]))) (c := 10) (z := [38, 35, 49, 48, 59]) (et_cmp ev_str (ev_name rfl) (by walk_at "cm")) (xb_n (xs_assign (ev_replace (ev_name rfl) (by decide +kernel) (by walk_at "sb") (by decide +kernel)) (.inl rfl)) (by walk_at "nr") xb_nil) (by decide +kernel) (by decide +kernel) rfl ?_
  rw [tb_snoc l [(38, [38, 97, 109, 112, 59]), (60, [38, 108, 116, 59]), (62, [38, 103, 116, 59]), (34, [38, 113, 117, 111, 116, 59]), (13, [38, 35, 49, 51, 59])] 10 [38, 35, 49, 48, 59]]
  have h6 : (S (l.flatMap (tb [(38, [38, 97, 109, 112, 59]), (60, [38, 108, 116, 59]), (62, [38, 103, 116, 59]), (34, [38, 113, 117, 111, 116, 59]), (13, [38, 35, 49, 51, 59]), (10, [38, 35, 49, 48, 59])]))).length ≤ 100000 := tb_len hl (by decide)
  refine esc_if (t := S (l.flatMap (tb [(38, [38, 97, 109, 112, 59]), (60, [38, 108, 116, 59]), (62, [38, 103, 116, 59]), (34, [38, 113, 117, 111, 116, 59]), (13, [38, 35, 49, 51, 59]), (10, [38, 35, 49, 48, 59])]))) (m := (l.flatMap (tb [(38, [38, 97, 109, 112, 59]), (60, [38, 108, 116, 59]), (62, [38, 103, 116, 59]), (34, [38, 113, 117, 111, 116, 59]), (13, [38, 35, 49, 51, 59]), (10, [38, 35, 49, 48, 59])]))) (c := 9) (z := [38, 35, 48, 57, 59]) (et_cmp ev_str (ev_name rfl) (by walk_at "cm")) (xb_n (xs_assign (ev_replace (ev_name rfl) (by decide +kernel) (by walk_at "sb") (by decide +kernel)) (.inl rfl)) (by walk_at "nr") xb_nil) (by decide +kernel) (by decide +kernel) rfl ?_
  rw [tb_snoc l [(38, [38, 97, 109, 112, 59]), (60, [38, 108, 116, 59]), (62, [38, 103, 116, 59]), (34, [38, 113, 117, 111, 116, 59]), (13, [38, 35, 49, 51, 59]), (10, [38, 35, 49, 48, 59])] 9 [38, 35, 48, 57, 59]]
  exact xb_ret (xs_return (ev_name rfl))
noncomputable def ps21 : List (Nat × List Nat) := [(38, [38, 97, 109, 112, 59]), (62, [38, 103, 116, 59]), (34, [38, 113, 117, 111, 116, 59])]
theorem c21 (G : Gl W a) {l : List Nat} (hl : l.length ≤ 10000) : FnC W (a 21) 1 [.str (S l)] (.str (S (l.flatMap (tb ps21)))) := by
  have h0 : (S l).length ≤ 100000 := by rw [S_len]; omega
  refine fn1 (G.fn 21 (by decide)) ok21 fun L cd A => ?_
  refine xb_ret (xs_try ?_)
  refine esc_if (t := S l) (m := l) (c := 38) (z := [38, 97, 109, 112, 59]) (et_cmp ev_str (ev_name rfl) (by walk_at "cm")) (xb_n (xs_assign (ev_replace (ev_name rfl) (by decide +kernel) (by walk_at "sb") (by decide +kernel)) (.inl rfl)) (by walk_at "nr") xb_nil) (by decide +kernel) (by decide +kernel) rfl ?_
  rw [tb_one]
  have h1 : (S (l.flatMap (tb [(38, [38, 97, 109, 112, 59])]))).length ≤ 100000 := tb_len hl (by decide)
  refine esc_if (t := S (l.flatMap (tb [(38, [38, 97, 109, 112, 59])]))) (m := (l.flatMap (tb [(38, [38, 97, 109, 112, 59])]))) (c := 62) (z := [38, 103, 116, 59]) (et_cmp ev_str (ev_name rfl) (by walk_at "cm")) (xb_n (xs_assign (ev_replace (ev_name rfl) (by decide +kernel) (by walk_at "sb") (by decide +kernel)) (.inl rfl)) (by walk_at "nr") xb_nil) (by decide +kernel) (by decide +kernel) rfl ?_
  rw [tb_snoc l [(38, [38, 97, 109, 112, 59])] 62 [38, 103, 116, 59]]
  have h2 : (S (l.flatMap (tb [(38, [38, 97, 109, 112, 59]), (62, [38, 103, 116, 59])]))).length ≤ 100000 := tb_len hl (by decide)
  refine esc_if (t := S (l.flatMap (tb [(38, [38, 97, 109, 112, 59]), (62, [38, 103, 116, 59])]))) (m := (l.flatMap (tb [(38, [38, 97, 109, 112, 59]), (62, [38, 103, 116, 59])]))) (c := 34) (z := [38, 113, 117, 111, 116, 59]) (et_cmp ev_str (ev_name rfl) (by walk_at "cm")) (xb_n (xs_assign (ev_replace (ev_name rfl) (by decide +kernel) (by walk_at "sb") (by decide +kernel)) (.inl rfl)) (by walk_at "nr") xb_nil) (by decide +kernel) (by decide +kernel) rfl ?_
  rw [tb_snoc l [(38, [38, 97, 109, 112, 59]), (62, [38, 103, 116, 59])] 34 [38, 113, 117, 111, 116, 59]]
  exact xb_ret (xs_return (ev_name rfl))
noncomputable def ps22 : List (Nat × List Nat) := [(38, [38, 97, 109, 112, 59]), (60, [38, 108, 116, 59]), (62, [38, 103, 116, 59]), (13, [38, 35, 120, 68, 59])]
theorem c22 (G : Gl W a) {l : List Nat} (hl : l.length ≤ 10000) : FnC W (a 22) 1 [.str (S l)] (.str (S (l.flatMap (tb ps22)))) := by
  have h0 : (S l).length ≤ 100000 := by rw [S_len]; omega
  refine fn1 (G.fn 22 (by decide)) ok22 fun L cd A => ?_
  refine xb_ret (xs_try ?_)
  refine esc_if (t := S l) (m := l) (c := 38) (z := [38, 97, 109, 112, 59]) (et_cmp ev_str (ev_name rfl) (by walk_at "cm")) (xb_n (xs_assign (ev_replace (ev_name rfl) (by decide +kernel) (by walk_at "sb") (by decide +kernel)) (.inl rfl)) (by walk_at "nr") xb_nil) (by decide +kernel) (by decide +kernel) rfl ?_
  rw [tb_one]
  have h1 : (S (l.flatMap (tb [(38, [38, 97, 109, 112, 59])]))).length ≤ 100000 := tb_len hl (by decide)
  refine esc_if (t := S (l.flatMap (tb [(38, [38, 97, 109, 112, 59])]))) (m := (l.flatMap (tb [(38, [38, 97, 109, 112, 59])]))) (c := 60) (z := [38, 108, 116, 59]) (et_cmp ev_str (ev_name rfl) (by walk_at "cm")) (xb_n (xs_assign (ev_replace (ev_name rfl) (by decide +kernel) (by walk_at "sb") (by decide +kernel)) (.inl rfl)) (by walk_at "nr") xb_nil) (by decide +kernel) (by decide +kernel) rfl ?_
  rw [tb_snoc l [(38, [38, 97, 109, 112, 59])] 60 [38, 108, 116, 59]]
  have h2 : (S (l.flatMap (tb [(38, [38, 97, 109, 112, 59]), (60, [38, 108, 116, 59])]))).length ≤ 100000 := tb_len hl (by decide)
  refine esc_if (t := S (l.flatMap (tb [(38, [38, 97, 109, 112, 59]), (60, [38, 108, 116, 59])]))) (m := (l.flatMap (tb [(38, [38, 97, 109, 112, 59]), (60, [38, 108, 116, 59])]))) (c := 62) (z := [38, 103, 116, 59]) (et_cmp ev_str (ev_name rfl) (by walk_at "cm")) (xb_n (xs_assign (ev_replace (ev_name rfl) (by decide +kernel) (by walk_at "sb") (by decide +kernel)) (.inl rfl)) (by walk_at "nr") xb_nil) (by decide +kernel) (by decide +kernel) rfl ?_
  rw [tb_snoc l [(38, [38, 97, 109, 112, 59]), (60, [38, 108, 116, 59])] 62 [38, 103, 116, 59]]
  have h3 : (S (l.flatMap (tb [(38, [38, 97, 109, 112, 59]), (60, [38, 108, 116, 59]), (62, [38, 103, 116, 59])]))).length ≤ 100000 := tb_len hl (by decide)
  refine esc_if (t := S (l.flatMap (tb [(38, [38, 97, 109, 112, 59]), (60, [38, 108, 116, 59]), (62, [38, 103, 116, 59])]))) (m := (l.flatMap (tb [(38, [38, 97, 109, 112, 59]), (60, [38, 108, 116, 59]), (62, [38, 103, 116, 59])]))) (c := 13) (z := [38, 35, 120, 68, 59]) (et_cmp ev_str (ev_name rfl) (by walk_at "cm")) (xb_n (xs_assign (ev_replace (ev_name rfl) (by decide +kernel) (by walk_at "sb") (by decide +kernel)) (.inl rfl)) (by walk_at "nr") xb_nil) (by decide +kernel) (by decide +kernel) rfl ?_
  rw [tb_snoc l [(38, [38, 97, 109, 112, 59]), (60, [38, 108, 116, 59]), (62, [38, 103, 116, 59])] 13 [38, 35, 120, 68, 59]]
  exact xb_ret (xs_return (ev_name rfl))
noncomputable def ps23 : List (Nat × List Nat) := [(38, [38, 97, 109, 112, 59]), (60, [38, 108, 116, 59]), (34, [38, 113, 117, 111, 116, 59]), (9, [38, 35, 120, 57, 59]), (10, [38, 35, 120, 65, 59]), (13, [38, 35, 120, 68, 59])]
theorem c23 (G : Gl W a) {l : List Nat} (hl : l.length ≤ 10000) : FnC W (a 23) 1 [.str (S l)] (.str (S (l.flatMap (tb ps23)))) := by
  have h0 : (S l).length ≤ 100000 := by rw [S_len]; omega
  refine fn1 (G.fn 23 (by decide)) ok23 fun L cd A => ?_
  refine xb_ret (xs_try ?_)
  refine esc_if (t := S l) (m := l) (c := 38) (z := [38, 97, 109, 112, 59]) (et_cmp ev_str (ev_name rfl) (by walk_at "cm")) (xb_n (xs_assign (ev_replace (ev_name rfl) (by decide +kernel) (by walk_at "sb") (by decide +kernel)) (.inl rfl)) (by walk_at "nr") xb_nil) (by decide +kernel) (by decide +kernel) rfl ?_
  rw [tb_one]
  have h1 : (S (l.flatMap (tb [(38, [38, 97, 109, 112, 59])]))).length ≤ 100000 := tb_len hl (by decide)
  refine esc_if (t := S (l.flatMap (tb [(38, [38, 97, 109, 112, 59])]))) (m := (l.flatMap (tb [(38, [38, 97, 109, 112, 59])]))) (c := 60) (z := [38, 108, 116, 59]) (et_cmp ev_str (ev_name rfl) (by walk_at "cm")) (xb_n (xs_assign (ev_replace (ev_name rfl) (by decide +kernel) (by walk_at "sb") (by decide +kernel)) (.inl rfl)) (by walk_at "nr") xb_nil) (by decide +kernel) (by decide +kernel) rfl ?_
  rw [tb_snoc l [(38, [38, 97, 109, 112, 59])] 60 [38, 108, 116, 59]]
  have h2 : (S (l.flatMap (tb [(38, [38, 97, 109, 112, 59]), (60, [38, 108, 116, 59])]))).length ≤ 100000 := tb_len hl (by decide)
  refine esc_if (t := S (l.flatMap (tb [(38, [38, 97, 109, 112, 59]), (60, [38, 108, 116, 59])]))) (m := (l.flatMap (tb [(38, [38, 97, 109, 112, 59]), (60, [38, 108, 116, 59])]))) (c := 34) (z := [38, 113, 117, 111, 116, 59]) (et_cmp ev_str (ev_name rfl) (by walk_at "cm")) (xb_n (xs_assign (ev_replace (ev_name rfl) (by decide +kernel) (by walk_at "sb") (by decide +kernel)) (.inl rfl)) (by walk_at "nr") xb_nil) (by decide +kernel) (by decide +kernel) rfl ?_
  rw [tb_snoc l [(38, [38, 97, 109, 112, 59]), (60, [38, 108, 116, 59])] 34 [38, 113, 117, 111, 116, 59]]
  have h3 : (S (l.flatMap (tb [(38, [38, 97, 109, 112, 59]), (60, [38, 108, 116, 59]), (34, [38, 113, 117, 111, 116, 59])]))).length ≤ 100000 := tb_len hl (by decide)
  refine esc_if (t := S (l.flatMap (tb [(38, [38, 97, 109, 112, 59]), (60, [38, 108, 116, 59]), (34, [38, 113, 117, 111, 116, 59])]))) (m := (l.flatMap (tb [(38, [38, 97, 109, 112, 59]), (60, [38, 108, 116, 59]), (34, [38, 113, 117, 111, 116, 59])]))) (c := 9) (z := [38, 35, 120, 57, 59]) (et_cmp ev_str (ev_name rfl) (by walk_at "cm")) (xb_n (xs_assign (ev_replace (ev_name rfl) (by decide +kernel) (by walk_at "sb") (by decide +kernel)) (.inl rfl)) (by walk_at "nr") xb_nil) (by decide +kernel) (by decide +kernel) rfl ?_
  rw [tb_snoc l [(38, [38, 97, 109, 112, 59]), (60, [38, 108, 116, 59]), (34, [38, 113, 117, 111, 116, 59])] 9 [38, 35, 120, 57, 59]]
  have h4 : (S (l.flatMap (tb [(38, [38, 97, 109, 112, 59]), (60, [38, 108, 116, 59]), (34, [38, 113, 117, 111, 116, 59]), (9, [38, 35, 120, 57, 59])]))).length ≤ 100000 := tb_len hl (by decide)
  refine esc_if (t := S (l.flatMap (tb [(38, [38, 97, 109, 112, 59]), (60, [38, 108, 116, 59]), (34, [38, 113, 117, 111, 116, 59]), (9, [38, 35, 120, 57, 59])]))) (m := (l.flatMap (tb [(38, [38, 97, 109, 112, 59]), (60, [38, 108, 116, 59]), (34, [38, 113, 117, 111, 116, 59]), (9, [38, 35, 120, 57, 59])]))) (c := 10) (z := [38, 35, 120, 65, 59]) (et_cmp ev_str (ev_name rfl) (by walk_at "cm")) (xb_n (xs_assign (ev_replace (ev_name rfl) (by decide +kernel) (by walk_at "sb") (by decide +kernel)) (.inl rfl)) (by walk_at "nr") xb_nil) (by decide +kernel) (by decide +kernel) rfl ?_
  rw [tb_snoc l [(38, [38, 97, 109, 112, 59]), (60, [38, 108, 116, 59]), (34, [38, 113, 117, 111, 116, 59]), (9, [38, 35, 120, 57, 59])] 10 [38, 35, 120, 65, 59]]
  have h5 : (S (l.flatMap (tb [(38, [38, 97, 109, 112, 59]), (60, [38, 108, 116, 59]), (34, [38, 113, 117, 111, 116, 59]), (9, [38, 35, 120, 57, 59]), (10, [38, 35, 120, 65, 59])]))).length ≤ 100000 := tb_len hl (by decide)
  refine esc_if (t := S (l.flatMap (tb [(38, [38, 97, 109, 112, 59]), (60, [38, 108, 116, 59]), (34, [38, 113, 117, 111, 116, 59]), (9, [38, 35, 120, 57, 59]), (10, [38, 35, 120, 65, 59])]))) (m := (l.flatMap (tb [(38, [38, 97, 109, 112, 59]), (60, [38, 108, 116, 59]), (34, [38, 113, 117, 111, 116, 59]), (9, [38, 35, 120, 57, 59]), (10, [38, 35, 120, 65, 59])]))) (c := 13) (z := [38, 35, 120, 68, 59]) (et_cmp ev_str (ev_name rfl) (by walk_at "cm")) (xb_n (xs_assign (ev_replace (ev_name rfl) (by decide +kernel) (by walk_at "sb") (by decide +kernel)) (.inl rfl)) (by walk_at "nr") xb_nil) (by decide +kernel) (by decide +kernel) rfl ?_
  rw [tb_snoc l [(38, [38, 97, 109, 112, 59]), (60, [38, 108, 116, 59]), (34, [38, 113, 117, 111, 116, 59]), (9, [38, 35, 120, 57, 59]), (10, [38, 35, 120, 65, 59])] 13 [38, 35, 120, 68, 59]]
  exact xb_ret (xs_return (ev_name rfl))

end

end

section

section
variable {W : Wd} {a : Nat → Addr}

theorem has_nil {ρ : Ro} : Has ρ [] := trivial
theorem has_c {ρ r : Ro} {x : Str} {sl : Sl} (h : ρ.lookup x = some sl) (hr : Has ρ r) : Has ρ ((x, sl) :: r) := ⟨h, hr⟩
theorem xb_end {W : Wd} {F : Fm} {ρ ρ' : Ro} (h : Has ρ ρ') : ExB W F ρ [] (.next ρ') := xb_to ρ' h xb_nil
theorem dgp {x b : Int} (h0 : 0 < b) (h1 : b ≤ 100) : Builtin.divisionGoesByPylong x b = false := by
  unfold Builtin.divisionGoesByPylong
  have : b.natAbs.log2 ≤ 6 := by
    have : b.natAbs < 2 ^ 7 := by omega
    have h := (Nat.log2_lt (n := b.natAbs) (k := 7) (by omega)).mpr this
    omega
  have h2 : decide ((if (b == 0) = true then 0 else b.natAbs.log2 / 30 + 1) > 300) = false := by
    rw [decide_eq_false_iff_not]
    split <;> omega
  simp only [h2, Bool.false_and]

/-! the figures of a cell -/
noncomputable def figStep (s : Int × List Int) (b : Int) : Int × List Int := (s.1.fdiv b, s.2 ++ [s.1.fmod b])
noncomputable def figsF (c : Int) (bs : List Int) : List Int := (bs.foldl figStep (c, [])).2

theorem c26 (G : Gl W a) {c : Int} {bs : List Int} (hb : ∀ b ∈ bs, 0 < b ∧ b ≤ 100) (hn : bs.length ≤ 900) : FnC W (a 26) 1 [.int c, .list (bs.map .int)] (.list ((figsF c bs).map .int)) := by
  refine fn2 (G.fn 26 (by decide)) ok26 fun L cd A => ?_
  refine xb_n (xs_assignF (ef_list el_nil (by decide)) (.inl rfl)) (by walk_at "nr") ?_
  refine xb_cons (xs_for (ev_name rfl) (.list _) (fun _ _ e => by cases e) (forl_fold .int (fun s : Int × List Int => [("cell", .sh (.int s.1)), ("bases", .sh (.list (bs.map .int))), ("figures", .ow true (s.2.map .int))]) figStep
    (fun s bs => (∀ b ∈ bs, 0 < b ∧ b ≤ 100) ∧ s.2.length + bs.length ≤ 900) (.inl rfl) ?_ bs (c, []) ⟨hb, by simpa using hn⟩)) ?_
  · rintro ⟨c, fs⟩ b bs ⟨hb, hn⟩
    have hbb := hb b List.mem_cons_self
    have hn : fs.length + (bs.length + 1) ≤ 900 := hn
    refine ⟨?_, fun x hx => hb x (List.mem_cons_of_mem _ hx), by show (fs ++ [c.fmod b]).length + _ ≤ 900; rw [List.length_append, List.length_singleton]; omega⟩
    refine xb_q (by walk_at "nr") ?_
    refine xb_n (xs_append rfl (ev_bin (ev_name rfl) (ev_name rfl) (by walk_at "op")) (by rw [List.length_map]; omega)) (by walk_at "nr") ?_
    refine xb_n (xs_assign (ev_bin (ev_name rfl) (ev_name rfl) (div_ints (by omega) (dgp hbb.1 hbb.2))) (.inl rfl)) (by walk_at "nr") ?_
    exact xb_end (has_c rfl (has_c rfl (has_c (by show _ = some (Sl.ow true ((fs ++ [c.fmod b]).map .int)); rw [List.map_append]; rfl) has_nil)))
  refine xb_frz (x := "figures") rfl (by walk_at "nr") ?_
  exact xb_ret (xs_return (ev_name rfl))
end

end

local macro_rules | `(tactic| walk_at "sk") => `(tactic| exact ⟨rfl, by decide +kernel, rfl, rfl⟩)
section

/-! generic loops -/
section
variable {W : Wd} {F : Fm} {x : Str} {p : Pos} {body : List Stmt} {test : Expr}
theorem forl_until {dr : D} : ∀ (m : Nat) (R : Nat → Ro), CanStore F x → (∀ i d, i < m → ExB W F (rset (R i) x (.sh d)) body (.next (R (i + 1)))) → (∀ d, ExB W F (rset (R m) x (.sh d)) body (.ret dr)) →
    ∀ ds : List D, m < ds.length → ForL W F (R 0) x p body ds (.ret dr)
  | _, _, _, _, _, [], h => absurd h (Nat.not_lt_zero _)
  | 0, R, hx, _, stop, d :: ds, _ => forl_ret hx (stop d)
  | m + 1, R, hx, step, stop, d :: ds, h => forl_cons hx (step 0 d (Nat.succ_pos m)) (forl_until m (fun i => R (i + 1)) hx (fun i d hi => step (i + 1) d (Nat.succ_lt_succ hi)) stop ds (Nat.lt_of_succ_lt_succ h))
theorem wh_until {out : Out} : ∀ (m : Nat) (R : Nat → Ro), (∀ i, i < m → EvT W F (R i) test true ∧ ExB W F (R i) body (.next (R (i + 1)))) → WhL W F (R m) test body out → WhL W F (R 0) test body out
  | 0, R, _, h => h
  | m + 1, R, step, h => wh_step (step 0 (Nat.succ_pos m)).1 (step 0 (Nat.succ_pos m)).2 (wh_until m (fun i => R (i + 1)) (fun i hi => step (i + 1) (Nat.succ_lt_succ hi)) h)

theorem StV.unplain {kp g : PHeap} {ρ : Ro} {val : Str → Value} {s : Shared} {y : Str} {bb : Bool} {ds : List D} (X : StV W F kp g ρ val s) (hy : ρ.lookup y = some (.ow bb ds)) : StV W F kp g (rset ρ y (.ow false ds)) val s := by
  have lx : ∀ t, (rset ρ y t).lookup y = some t := fun t => by rw [lookup_rset, if_pos rfl]
  have ly : ∀ t z, z ≠ y → (rset ρ y t).lookup z = ρ.lookup z := fun t z h => by rw [lookup_rset, if_neg h]
  have f : ∀ z c es, (rset ρ y (.ow false ds)).lookup z = some (.ow c es) → ∃ c', ρ.lookup z = some (.ow c' es) ∧ (c = true → c' = true) := fun z c es q => by
    by_cases hz : z = y
    · subst hz; rw [lx] at q; cases q; exact ⟨bb, hy, nofun⟩
    · rw [ly _ z hz] at q; exact ⟨c, q, id⟩
  refine ⟨X.ok, X.base, X.keep, X.gin, X.ns, X.cell, fun z t e => ?_, fun z d e => ?_, fun z c es e => ?_, X.loff, X.coff, fun z1 z2 b c ds es hne e1 e2 => ?_, X.toks, X.cellA⟩
  · by_cases hz : z = y
    · subst hz; exact X.var z _ hy
    · rw [ly _ z hz] at e; exact X.var z _ e
  · by_cases hz : z = y
    · subst hz; rw [lx] at e; cases e
    · rw [ly _ z hz] at e; exact X.sh z d e
  · obtain ⟨c', q, hc⟩ := f z c es e
    obtain ⟨a, vs, e1, e2, e3, e4⟩ := X.ow z c' es q
    exact ⟨a, vs, e1, ⟨e2.1, fun h => e2.2 (hc h)⟩, e3, e4⟩
  · obtain ⟨_, q1, _⟩ := f _ _ _ e1
    obtain ⟨_, q2, _⟩ := f _ _ _ e2
    exact X.apart z1 z2 _ _ _ _ hne q1 q2
theorem xb_unplain {ρ ρ' : Ro} {sts : List Stmt} {out : Out} {y : Str} {bb : Bool} {ds : List D} (hy : ρ.lookup y = some (.ow bb ds)) (q : rset ρ y (.ow false ds) = ρ') (h : ExB W F ρ' sts out) : ExB W F ρ sts out := .mk fun kp g val s X =>
  h.run kp g val s (q ▸ X.unplain hy)
end

theorem idxN {ds : List D} {d : D} {k : Nat} (h : ds[k]? = some d) (hn : ds.length ≤ 1000) : IdxAt (k : Int) ds d := by
  have : k < ds.length := by
    rcases Nat.lt_or_ge k ds.length with q | q
    · exact q
    · rw [List.getElem?_eq_none q] at h; cases h
  exact ⟨.inl ⟨by omega, by rw [Int.toNat_natCast]; exact h⟩, by omega, by omega⟩
theorem idxL {ds : List D} {d : D} (h : ds.getLast? = some d) (hn : ds.length ≤ 1000) : IdxAt (-1) ds d := by
  have hl : 1 ≤ ds.length := by cases ds with
    | nil => cases h
    | cons a b => simp
  refine ⟨.inr ⟨by decide, by omega, ?_⟩, by decide, by decide⟩
  rw [List.getLast?_eq_getElem?] at h
  rw [← h]
  congr 1
  omega

section
variable {W : Wd} {a : Nat → Addr}

/-! the three cells -/
noncomputable def cellStep (is : List Int) (s : List Int) (k : Nat) : List Int := s.set (k % 3) (s.getD (k % 3) 0 + is.getD k 0)
noncomputable def cellsF (is : List Int) : List Int := (List.range is.length).foldl (cellStep is) [585, 70530561, 15593883841]
theorem cellStep_len (is s : List Int) (k : Nat) : (cellStep is s k).length = s.length := List.length_set
theorem cellsF_len (is : List Int) : (cellsF is).length = 3 := by
  unfold cellsF
  generalize List.range is.length = ks
  suffices h : ∀ s : List Int, s.length = 3 → (ks.foldl (cellStep is) s).length = 3 from h _ rfl
  induction ks with
  | nil => exact fun s h => h
  | cons k ks ih => exact fun s h => ih _ ((cellStep_len is s k).trans h)
theorem fmodN (k m : Nat) (hm : 0 < m) : (k : Int).fmod (m : Int) = ((k % m : Nat) : Int) := by
  rw [Int.fmod_eq_emod_of_nonneg _ (by omega)]; omega
theorem fdivN (k m : Nat) : (k : Int).fdiv (m : Int) = ((k / m : Nat) : Int) := by
  rw [Int.fdiv_eq_ediv_of_nonneg _ (by omega)]; omega

theorem c25 (G : Gl W a) {is : List Int} (hn : is.length ≤ 900) : FnC W (a 25) 1 [.list (is.map .int)] (.list ((cellsF is).map .int)) := by
  refine fn1 (G.fn 25 (by decide)) ok25 fun L cd A => ?_
  refine xb_n (xs_assignF (ef_list (el_cons ev_int (el_cons ev_int (el_cons ev_int el_nil))) (by decide)) (.inl rfl)) (by walk_at "nr") ?_
  refine xb_unplain (y := "cells") rfl (by walk_at "nr") ?_
  have hl : ((is.map D.int).length : Int) = (is.length : Int) := by rw [List.length_map]
  refine xb_cons (xs_for (ev_eq (ev_callT (ev_global rfl (gl_range G)) (el_cons (ev_callB (ev_global rfl (gl_len G)) (el_cons (ev_name rfl) el_nil) (by walk_at "bi")) el_nil) (by walk_at "ty")) (by rw [hl])) (.range _ _) (fun u v e => by cases e; exact small_of (by decide) (by omega) (by omega))
    (forl_fold (fun k : Nat => D.int (0 + (k : Int))) (fun s : List Int => [("script", .sh (.list (is.map .int))), ("cells", .ow false (s.map .int))]) (cellStep is)
    (fun s ks => s.length = 3 ∧ ∀ k ∈ ks, k < is.length) (.inl rfl) ?_ _ [585, 70530561, 15593883841] ⟨rfl, fun k hk => ?_⟩)) ?_
  · rintro s k ks ⟨hs, hk⟩
    have hki := hk k List.mem_cons_self
    refine ⟨?_, (cellStep_len is s k).trans hs, fun x hx => hk x (List.mem_cons_of_mem _ hx)⟩
    refine xb_q (by walk_at "nr") ?_
    have hm : (D.int ((0 + (k : Int)).fmod 3)) = .int ((k % 3 : Nat) : Int) := by rw [Int.zero_add]; exact congrArg D.int (fmodN k 3 (by decide))
    have h3 : k % 3 < s.length := by rw [hs]; exact Nat.mod_lt _ (by decide)
    have i1 : IdxAt ((k % 3 : Nat) : Int) (s.map .int) (.int (s.getD (k % 3) 0)) := idxN (by rw [List.getElem?_map, List.getD_eq_getElem?_getD, List.getElem?_eq_getElem h3]; rfl) (by rw [List.length_map]; omega)
    have i2 : IdxAt (0 + (k : Int)) (is.map .int) (.int (is.getD k 0)) := by
      rw [Int.zero_add]
      exact idxN (by rw [List.getElem?_map, List.getD_eq_getElem?_getD, List.getElem?_eq_getElem hki]; rfl) (by rw [List.length_map]; omega)
    refine xb_n (xs_setitem (k := ((k % 3 : Nat) : Int)) rfl (ev_eq (ev_bin (ev_name rfl) ev_int (by walk_at "op")) hm) (ev_bin (ev_subow rfl (ev_eq (ev_bin (ev_name rfl) ev_int (by walk_at "op")) hm) i1) (ev_sub (ev_name rfl) (ev_name rfl) (item_list i2)) add_ints) (by omega) (by rw [List.length_map]; omega) (by rw [List.length_map]; omega)) (by walk_at "nr") ?_
    refine xb_end (has_c rfl (has_c ?_ has_nil))
    show some (Sl.ow false ((s.map D.int).set ((k % 3 : Nat) : Int).toNat (.int _))) = some (Sl.ow false ((s.set _ _).map D.int))
    rw [List.map_set, Int.toNat_natCast]
  · have := List.mem_range.mp hk
    rw [show ((is.length : Int) - 0).toNat = is.length by omega] at this
    exact this
  rw [show ((is.length : Int) - 0).toNat = is.length by omega]
  refine xb_frz (x := "cells") rfl (by walk_at "nr") ?_
  exact xb_ret (xs_return (ev_name rfl))
end

end

section
set_option maxHeartbeats 8000000

section
variable {W : Wd} {a : Nat → Addr}
noncomputable def kvs : List (List (Str × Str)) := [
  [("&", "&amp;"), ("<", "&lt;"), (">", "&gt;")],
  [("&", "&amp;"), ("<", "&lt;"), (">", "&gt;"), ("\"", "&quot;"), ("\t", "&#09;"), ("\n", "&#10;"), ("\r", "&#13;")],
  [("&", "&amp;"), (">", "&gt;"), ("\"", "&quot;")],
  [("&", "&amp;"), ("<", "&lt;"), (">", "&gt;"), ("\r", "&#xD;")],
  [("&", "&amp;"), ("<", "&lt;"), ("\"", "&quot;"), ("\t", "&#x9;"), ("\n", "&#xA;"), ("\r", "&#xD;")]]
theorem c28 (G : Gl W a) {n : Nat} {kv : List (Str × Str)} (hn : kvs[n]? = some kv) : FnC W (a 28) 1 [.int n] (.dict kv) := by
  refine fn1 (G.fn 28 (by decide)) ok28 fun L cd A => ?_
  refine xb_ret (xs_return (ev_sub (ev_list (el_cons (ev_dict (kv := [("&", "&amp;"), ("<", "&lt;"), (">", "&gt;")]) (.cons (.cons (.cons .nil))) (by decide +kernel) (by simp) (by decide) G.two)
    (el_cons (ev_dict (kv := [("&", "&amp;"), ("<", "&lt;"), (">", "&gt;"), ("\"", "&quot;"), ("\t", "&#09;"), ("\n", "&#10;"), ("\r", "&#13;")]) (.cons (.cons (.cons (.cons (.cons (.cons (.cons .nil))))))) (by decide +kernel) (by simp) (by decide) G.two)
    (el_cons (ev_dict (kv := [("&", "&amp;"), (">", "&gt;"), ("\"", "&quot;")]) (.cons (.cons (.cons .nil))) (by decide +kernel) (by simp) (by decide) G.two)
    (el_cons (ev_dict (kv := [("&", "&amp;"), ("<", "&lt;"), (">", "&gt;"), ("\r", "&#xD;")]) (.cons (.cons (.cons (.cons .nil)))) (by decide +kernel) (by simp) (by decide) G.two)
    (el_cons (ev_dict (kv := [("&", "&amp;"), ("<", "&lt;"), ("\"", "&quot;"), ("\t", "&#x9;"), ("\n", "&#xA;"), ("\r", "&#xD;")]) (.cons (.cons (.cons (.cons (.cons (.cons .nil)))))) (by decide +kernel) (by simp) (by decide) G.two)
    el_nil))))) (by decide)) (ev_name rfl) (item_list (idxN (ds := kvs.map .dict) ?_ (by decide)))))
  rw [List.getElem?_map, hn]; rfl
theorem c27 (G : Gl W a) {n : Nat} (hn : n < 5) : FnC W (a 27) 1 [.int n] (.obj (.ref (a (19 + n)))) := by
  refine fn1 (G.fn 27 (by decide)) ok27 fun L cd A => ?_
  refine xb_ret (xs_return (ev_sub (ev_list (el_cons (ev_global rfl (gl_escape_cdata G)) (el_cons (ev_global rfl (gl_escape_attrib G)) (el_cons (ev_global rfl (gl_escape_attrib_html G)) (el_cons (ev_global rfl (gl_escape_cdata_c14n G)) (el_cons (ev_global rfl (gl_escape_attrib_c14n G)) el_nil))))) (by walk_at "sb")) (ev_name rfl) (item_list (idxN ?_ (by show 5 ≤ 1000; decide)))))
  match n, hn with
  | 0, _ => rfl
  | 1, _ => rfl
  | 2, _ => rfl
  | 3, _ => rfl
  | 4, _ => rfl

/-! what a table writes -/
noncomputable def wrS (kv : List (Str × Str)) (x : Str) : List Str := x.cps.toList.map fun c => (kv.lookup ⟨#[c]⟩).getD ⟨#[c]⟩
theorem c29 (G : Gl W a) {kv : List (Str × Str)} {x : Str} (hx : x.length ≤ 900) (hw : ((wrS kv x).map (·.length)).sum ≤ 100000) : FnC W (a 29) 1 [.dict kv, .str x] (.str (Txt.join "" (wrS kv x))) := by
  refine fn2 (G.fn 29 (by decide)) ok29 fun L cd A => ?_
  have hl : (wrS kv x).length = x.length := by unfold wrS; rw [List.length_map]; simp [Str.length]
  have l0 : (Str.ofString "").length = 0 := by decide +kernel
  refine xb_ret (xs_return (ev_meth ev_str ty_str PySem.F.plainAttrs_str PySem.F.slot_str_join PySem.F.type_str_join (el_cons (ev_eq (d' := .list ((wrS kv x).map .str)) (ev_comp (by walk_at "sk") (ev_name rfl) (.str x) (fun _ _ e => by cases e) (.inl rfl) rfl (fun _ => true) (fun d => match d with | .str c => .str ((kv.lookup c).getD c) | d => d) (by show (x.cps.toList.map _).length ≤ 1000; rw [List.length_map]; simpa [Str.length] using Nat.le_trans hx (by decide)) (fun C d hd => ifs_nil) (fun C d hd _ => ?b)) ?c) el_nil) (m_join (by rw [hl, l0]; omega))))
  case b =>
    obtain ⟨c, _, rfl⟩ := List.mem_map.mp hd
    exact (ev_meth (ev_name rfl) ty_dict PySem.F.plainAttrs_dict PySem.F.slot_dict_get PySem.F.type_dict_get (el_cons (ev_name rfl) (el_cons (ev_name rfl) el_nil)) m_get)
  case c =>
    rw [List.filter_eq_self.mpr (fun _ _ => rfl)]
    unfold signDs wrS
    rw [List.map_map, List.map_map]
    rfl
end

end

section
set_option maxHeartbeats 8000000

/-! equality of lists of strs and of ints -/
theorem pyDs_str : ∀ ts : List Str, pyDs (ts.map .str) = ts.map .str
  | [] => rfl
  | t :: ts => congrArg _ (pyDs_str ts)
theorem pyDs_int : ∀ ts : List Int, pyDs (ts.map .int) = ts.map .int
  | [] => rfl
  | t :: ts => congrArg _ (pyDs_int ts)
theorem depth_str : ∀ ts : List Str, PyData.depthAll (pyDs (ts.map .str)) = 0
  | [] => rfl
  | t :: ts => by
    show max 0 (PyData.depthAll (pyDs (ts.map .str))) = 0
    rw [depth_str ts]; rfl
theorem depth_int : ∀ ts : List Int, PyData.depthAll (pyDs (ts.map .int)) = 0
  | [] => rfl
  | t :: ts => by
    show max 0 (PyData.depthAll (pyDs (ts.map .int))) = 0
    rw [depth_int ts]; rfl
theorem okDs_int : ∀ ts : List Int, okDs (ts.map .int) = true
  | [] => rfl
  | t :: ts => okDs_int ts
theorem okDs_str : ∀ {ts : List Str}, (∀ t ∈ ts, PyData.strOk t = true) → okDs (ts.map .str) = true
  | [], _ => rfl
  | t :: ts, h => by
    show (PyData.strOk t && okDs (ts.map .str)) = true
    rw [h t List.mem_cons_self, okDs_str fun x hx => h x (List.mem_cons_of_mem _ hx)]; rfl
theorem eqvAll_str : ∀ xs ys : List Str, PyData.eqvAll (xs.map .str) (ys.map .str) = decide (xs = ys)
  | [], [] => rfl
  | [], y :: ys => by simp [PyData.eqvAll]
  | x :: xs, [] => by simp [PyData.eqvAll]
  | x :: xs, y :: ys => by
    show ((x == y) && PyData.eqvAll (xs.map .str) (ys.map .str)) = _
    rw [eqvAll_str xs ys]
    by_cases h : x = y
    · subst h; simp
    · simp [h]
theorem eqvAll_int : ∀ xs ys : List Int, PyData.eqvAll (xs.map .int) (ys.map .int) = decide (xs = ys)
  | [], [] => rfl
  | [], y :: ys => by simp [PyData.eqvAll]
  | x :: xs, [] => by simp [PyData.eqvAll]
  | x :: xs, y :: ys => by
    show ((x == y) && PyData.eqvAll (xs.map .int) (ys.map .int)) = _
    rw [eqvAll_int xs ys]
    by_cases h : x = y
    · subst h; simp
    · simp [h]
theorem eqv_strs (xs ys : List Str) : PyData.eqv (pyD (.list (xs.map .str))) (pyD (.list (ys.map .str))) = decide (xs = ys) := by
  show PyData.eqvAll (pyDs (xs.map .str)) (pyDs (ys.map .str)) = _
  rw [pyDs_str, pyDs_str, eqvAll_str]
theorem eqv_ints (xs ys : List Int) : PyData.eqv (pyD (.list (xs.map .int))) (pyD (.list (ys.map .int))) = decide (xs = ys) := by
  show PyData.eqvAll (pyDs (xs.map .int)) (pyDs (ys.map .int)) = _
  rw [pyDs_int, pyDs_int, eqvAll_int]

section
variable {W : Wd} {a : Nat → Addr}
theorem filter_strs (os : List Str) (q : Str → Bool) : (((os.map D.str).filter (fun d => match d with | .str r => q r | _ => false)).map id) = (os.filter q).map .str := by
  rw [List.map_id]
  induction os with
  | nil => rfl
  | cons o os ih =>
    rw [List.map_cons, List.filter_cons, List.filter_cons, ih]
    cases h : q o <;> simp [h]

/-! the way between two hosts -/
theorem c33 (G : Gl W a) {os ts os' ts' ms' : List Str} {o t m : Str} (h1 : os = o :: os') (h2 : ts = t :: ts') (hm : os.filter (fun r => ts.any fun y => y == r) = m :: ms') (ho : m.length ≤ o.length) (ht : m.length ≤ t.length)
    (hol : o.length ≤ 1000) (htl : t.length ≤ 1000) (hn : os.length ≤ 900) (hn2 : ts.length ≤ 900) (hso : ∀ x ∈ os, PyData.strOk x = true) (hst : ∀ x ∈ ts, PyData.strOk x = true) :
    FnC W (a 33) 1 [.list (os.map .str), .list (ts.map .str)] (.str (Txt.slice o none (some ((o.length - m.length : Nat) : Int)) ++ Txt.slice t none (some ((t.length - m.length : Nat) : Int)))) := by
  refine fn2 (G.fn 33 (by decide)) ok33 fun L cd A => ?_
  have e1 : ((o.length : Int) - m.length) = ((o.length - m.length : Nat) : Int) := by omega
  have e2 : ((t.length : Int) - m.length) = ((t.length - m.length : Nat) : Int) := by omega
  have l1 : os.length = os'.length + 1 := by rw [h1]; rfl
  have hms : (m :: ms').length ≤ 900 := by rw [← hm]; exact Nat.le_trans (List.length_filter_le _ _) hn
  refine xb_n (xs_assign (ev_callB (ev_global rfl (gl_len G)) (el_cons (ev_sub (ev_eq (d' := .list ((m :: ms').map .str)) (ev_comp (by walk_at "sk") (ev_name rfl) (.list _) (fun _ _ e => by cases e) (.inl rfl) rfl (fun d => match d with | .str r => ts.any fun y => y == r | _ => false) id (by rw [List.length_map]; omega) (fun C d hd => ?q) (fun C d hd hq => (ev_name rfl))) ?e) ev_int (item_list (idxN (k := 0) rfl (by rw [List.length_map]; omega)))) el_nil) (len_str' (by omega))) (.inl rfl)) (by walk_at "nr") ?r
  case q =>
    obtain ⟨r, hr, rfl⟩ := List.mem_map.mp hd
    refine ifs_one (et_eq (et_cmp (ev_name rfl) (ev_name rfl) (in_list (hso r hr) (okDs_str hst) (by rw [depth_str]; exact Nat.le_trans (Nat.min_le_left _ _) (by decide)))) ?_)
    rw [pyDs_str, List.any_map]; rfl
  case e => rw [filter_strs os, hm]
  case r =>
    have t1 := Txt.slice_le o none (some ((o.length - m.length : Nat) : Int))
    have t2 := Txt.slice_le t none (some ((t.length - m.length : Nat) : Int))
    have i1 : IdxAt 0 (os.map .str) (.str o) := by rw [h1]; exact idxN (k := 0) rfl (by rw [List.length_map, ← h1]; omega)
    have i2 : IdxAt 0 (ts.map .str) (.str t) := by rw [h2]; exact idxN (k := 0) rfl (by rw [List.length_map, ← h2]; omega)
    refine xb_ret (xs_return (ev_bin (ev_slice_str (l := none) (u := some _) (ev_sub (ev_name rfl) ev_int (by walk_at "it")) trivial (ev_eq (ev_bin (ev_callB (ev_global rfl (gl_len G)) (el_cons (ev_sub (ev_name rfl) ev_int (by walk_at "it")) el_nil) (by walk_at "bi")) (ev_name rfl) (by walk_at "op")) (by rw [e1])) (by omega)) (ev_slice_str (l := none) (u := some _) (ev_sub (ev_name rfl) ev_int (by walk_at "it")) trivial (ev_eq (ev_bin (ev_callB (ev_global rfl (gl_len G)) (el_cons (ev_sub (ev_name rfl) ev_int (by walk_at "it")) el_nil) (by walk_at "bi")) (ev_name rfl) (by walk_at "op")) (by rw [e2])) (by omega)) (add_strs (by omega))))

/-! the ladder of a host -/

theorem c31 (G : Gl W a) {h up : Nat → Str} {m : Nat} (hm : m ≤ 5) (HR : ∀ i, i ≤ m → FnC W (a 6) 2 [.str (h i)] (.str (up i))) (hl : ∀ i, i ≤ m → (up i).length ≤ 1000) (hne : ∀ i, i < m → (up i == h i) = false) (hs : up m = h m)
    (hu : ∀ i, i < m → Txt.slice (up i) (some 1) none = h (i + 1)) : FnC W (a 31) 3 [.str (h 0)] (.list ((List.range (m + 1)).map fun i => .str (h i))) := by
  refine fn1 (G.fn 31 (by decide)) ok31 fun L cd A => ?_
  refine xb_n (xs_assignF (ef_list (el_cons (ev_name rfl) el_nil) (of_decide_eq_true rfl)) (.inl rfl)) (by walk_at "nr") ?_
  have il : ∀ i, i ≤ m → IdxAt (-1) ((List.range (i + 1)).map fun i => D.str (h i)) (.str (h i)) := fun i hi => idxL (by rw [List.range_succ, List.map_append]; simp) (by rw [List.length_map, List.length_range]; omega)
  refine xb_ret (xs_for (ev_callT (ev_global rfl (gl_range G)) (el_cons ev_int el_nil) (by walk_at "ty")) (.range _ _) (fun u v e => by cases e; decide) (forl_until m (fun i => [("host", .sh (.str (h 0))), ("ladder", .ow true ((List.range (i + 1)).map fun i => .str (h i)))]) (.inl rfl) (fun i d hi => ?_) (fun d => ?_) _ (by show m < 6; omega)))
  · have il := il i (by omega)
    have hR := HR i (by omega)
    have hL := hl i (by omega)
    refine xb_q (by walk_at "nr") ?_
    refine xb_n (xs_assign (ev_call (ev_global rfl (gl_reach G)) (G.fn 6 (by decide)).isFn (el_cons (ev_subow rfl (ev_neg ev_int) il) el_nil) hR (of_decide_eq_true rfl)) (.inl rfl)) (by walk_at "nr") ?_
    refine xb_ifSkip (et_eq (et_cmp (ev_name rfl) (ev_subow rfl (ev_neg ev_int) il) cmp_eq_str) (hne i hi)) ?_
    refine xb_n (xs_append rfl (ev_eq (ev_slice_str (l := (some _)) (u := none) (ev_name rfl) ev_int trivial (by walk_at "sb")) (by rw [hu i hi])) (by rw [List.length_map, List.length_range]; omega)) (by walk_at "nr") ?_
    refine xb_end (has_c rfl (has_c ?_ has_nil))
    rw [List.range_succ (n := i + 1), List.map_append]; rfl
  · have il := il m (by omega)
    have hR := HR m (by omega)
    refine xb_q (by walk_at "nr") ?_
    refine xb_n (xs_assign (ev_call (ev_global rfl (gl_reach G)) (G.fn 6 (by decide)).isFn (el_cons (ev_subow rfl (ev_neg ev_int) il) el_nil) hR (of_decide_eq_true rfl)) (.inl rfl)) (by walk_at "nr") ?_
    refine xb_ifRet (et_eq (et_cmp (ev_name rfl) (ev_subow rfl (ev_neg ev_int) il) cmp_eq_str) (by rw [hs]; exact beq_self_eq_true _)) ?_
    refine xb_frz (x := "ladder") rfl (by walk_at "nr") ?_
    exact xb_ret (xs_return (ev_name rfl))
end

end

section
set_option maxHeartbeats 8000000

local macro_rules | `(tactic| walk_at "sb") => `(tactic| (simp only [S_len, List.length_replicate, List.length_append, List.length_cons, List.length_nil]; omega))

theorem wh_to {W : Wd} {F : Fm} {ρ ρ₁ ρ' : Ro} {test : Expr} {body : List Stmt} (h : Has ρ₁ ρ') (q : WhL W F ρ test body (.next ρ₁)) : WhL W F ρ test body (.next ρ') := .mk fun kp g val s X =>
  codeAny_mono (q.run kp g val s X) fun r s₁ ⟨f, e, g', G, r', e', val', Y⟩ => ⟨f, e, g', G, r', e', val', Y.weaken h.look⟩
theorem wh_end' {W : Wd} {F : Fm} {ρ ρ' : Ro} {test : Expr} {body : List Stmt} (h : Has ρ ρ') (ht : EvT W F ρ test false) : WhL W F ρ test body (.next ρ') := wh_to h (wh_end ht)
theorem xb_brk' {W : Wd} {F : Fm} {ρ ρ₁ ρ' : Ro} {st : Stmt} {sts : List Stmt} (h : Has ρ₁ ρ') (q : ExS W F ρ st (.brk ρ₁)) : ExB W F ρ (st :: sts) (.brk ρ') := .mk fun kp g val s X =>
  mono' ((xb_brk (sts := sts) q).run kp g val s X) fun f s₁ ⟨g', G, r', e', val', Y⟩ => ⟨g', G, r', e', val', Y.weaken h.look⟩
section
variable {W : Wd} {a : Nat → Addr}
theorem ev_itemS {F : Fm} {ρ : Ro} {value slice : Expr} {pos : Pos} {l : List Nat} {i : Int} {c : Nat} (k : Nat) (ho : EvE W F ρ value (.str (S l))) (hi : EvE W F ρ slice (.int i)) (he : i = (k : Int)) (hk : l[k]? = some c) (hn : k ≤ 100000)
    (hs : ∀ o i, subscripted slice false o i = operate [o, i] (getItem o i) ∨ subscripted slice false o i = operate [i, o] (getItem o i) := by intro _ _; exact .inl rfl) : EvE W F ρ (.Subscript value slice pos) (.str (S [c])) := by
  subst he
  refine ev_eq (ev_sub ho hi (item_str (by unfold fitsSsize; rw [decide_eq_false (by omega), decide_eq_false (by omega)]; rfl) (by rw [charAt_S l hk]; rfl)) hs) ?_
  rw [item_S l hk]

/-! parse257 -/
theorem c16_no (G : Gl W a) {x : Str} (hx : x.length ≤ 1000) (h1 : Txt.slice x none (some 3) = "257") (h2 : (Txt.slice x (some 3) (some 5)).cps.toList ≠ (Str.ofString " \"").cps.toList) : FnC W (a 16) 1 [.str x] (.str "") := by
  refine fn1 (G.fn 16 (by decide)) ok16 fun L cd A => ?_
  refine xb_ifSkip (et_eq (et_cmp (ev_slice_str (l := none) (u := (some _)) (ev_name rfl) trivial ev_int (by walk_at "sb")) ev_str (by walk_at "cm")) (by rw [h1]; exact bne_self_eq_false _)) ?_
  exact xb_ifRet (et_eq (et_cmp (ev_slice_str (l := (some _)) (u := (some _)) (ev_name rfl) ev_int ev_int (by walk_at "sb")) ev_str (by walk_at "cm")) (by simpa using h2)) (xb_ret (xs_return ev_str))

theorem quot_S : (Str.ofString "\"") = S [34] := by decide +kernel
theorem c16_yes (G : Gl W a) {w : Nat} (hw : w ≤ 100) : FnC W (a 16) 1 [.str (S ([50, 53, 55, 32, 34] ++ (List.replicate w 34 ++ [122])))] (.str (S (List.replicate (w / 2) 34 ++ (if w % 2 = 0 then [122] else [])))) := by
  generalize hl : [50, 53, 55, 32, 34] ++ (List.replicate w 34 ++ [122]) = l
  have len : l.length = 5 + w + 1 := by rw [← hl]; simp; omega
  have at34 : ∀ k, k < w → l[5 + k]? = some 34 := fun k hk => by
    have e : 5 + k - ([50, 53, 55, 32, 34] : List Nat).length = k := by simp
    rw [← hl, List.getElem?_append_right (by simp), e, List.getElem?_append_left (by simpa using hk), List.getElem?_replicate, if_pos hk]
  have at122 : l[5 + w]? = some 122 := by
    rw [← hl, List.getElem?_append_right (by simp), List.getElem?_append_right (by simp)]
    simp
  have hx : (S l).length ≤ 1000 := by rw [S_len]; omega
  have h1 : Txt.slice (S l) none (some 3) = "257" := by
    refine (slice_to l (k := 3) (by omega)).trans ?_
    rw [← hl]
    show S [50, 53, 55] = _
    decide +kernel
  have h2 : Txt.slice (S l) (some 3) (some 5) = " \"" := by
    refine (slice_mid l (a := 3) (b := 5) (by omega) (by omega)).trans ?_
    rw [← hl]
    show S [32, 34] = _
    decide +kernel
  refine fn1 (G.fn 16 (by decide)) ok16 fun L cd A => ?_
  refine xb_ifSkip (et_eq (et_cmp (ev_slice_str (l := none) (u := (some _)) (ev_name rfl) trivial ev_int (by walk_at "sb")) ev_str (by walk_at "cm")) (by rw [h1]; exact bne_self_eq_false _)) ?_
  refine xb_ifSkip (et_eq (et_cmp (ev_slice_str (l := (some _)) (u := (some _)) (ev_name rfl) ev_int ev_int (by walk_at "sb")) ev_str (by walk_at "cm")) (by rw [h2]; exact bne_self_eq_false _)) ?_
  refine xb_n (xs_assign ev_str (.inl rfl)) (by walk_at "nr") ?_
  refine xb_n (xs_assign ev_int (.inl rfl)) (by walk_at "nr") ?_
  refine xb_n (xs_assign (ev_callB (ev_global rfl (gl_len G)) (el_cons (ev_name rfl) el_nil) (by walk_at "bi")) (.inl rfl)) (by walk_at "nr") ?_
  have e0 : Str.ofString "" = S (List.replicate 0 34) := by decide +kernel
  rw [e0]
  refine xb_cons (xs_while (wh_until (out := .next [("dirname", .sh (.str (S (List.replicate (w / 2) 34 ++ (if w % 2 = 0 then [122] else [])))))]) (w / 2)
    (fun j => [("resp", .sh (.str (S l))), ("dirname", .sh (.str (S (List.replicate j 34)))), ("i", .sh (.int ((5 + 2 * j : Nat) : Int))), ("n", .sh (.int ((S l).length : Int)))]) (fun j hj => ⟨?_, ?_⟩) ?_)) ?_
  · exact et_eq (et_cmp (ev_name rfl) (ev_name rfl) (by walk_at "cm")) (by rw [S_len, len, decide_eq_true_eq]; omega)
  · have i1 := at34 (2 * j) (by omega)
    have i2 : l[5 + 2 * j + 1]? = some 34 := at34 (2 * j + 1) (by omega)
    refine xb_n (xs_assign (ev_itemS (5 + 2 * j) (ev_name rfl) (ev_name rfl) rfl i1 (by omega)) (.inl rfl)) (by walk_at "nr") ?_
    refine xb_n (xs_assign (ev_bin (ev_name rfl) ev_int (by walk_at "op")) (.inl rfl)) (by walk_at "nr") ?_
    refine xb_ifNext (et_eq (et_cmp (ev_name rfl) ev_str (by walk_at "cm")) (by rw [quot_S]; exact beq_self_eq_true _)) (xb_ifSkip (et_eq (et_bool (or_cons (et_cmp (ev_name rfl) (ev_name rfl) (by walk_at "cm")) fun _ => or_cons (et_cmp (ev_itemS (5 + 2 * j + 1) (ev_name rfl) (ev_name rfl) (by omega) i2 (by omega)) ev_str cmp_ne_str) fun _ => or_nil)) ?_)
      (xb_n (xs_assign (ev_bin (ev_name rfl) ev_int (by walk_at "op")) (.inl rfl)) (by walk_at "nr") xb_nil)) ?_
    · rw [quot_S, bne_self_eq_false, S_len, len, decide_eq_false (by omega)]
      rfl
    refine xb_n (xs_assign (ev_bin (ev_name rfl) (ev_name rfl) (by walk_at "op")) (.inl rfl)) (by walk_at "nr") ?_
    refine xb_end (has_c rfl (has_c ?_ (has_c ?_ (has_c rfl has_nil))))
    · rw [S_app, ← List.replicate_succ']; rfl
    · show some (Sl.sh (D.int _)) = some (Sl.sh (D.int _))
      congr 3
  · by_cases hp : w % 2 = 0
    · refine wh_step (et_eq (et_cmp (ev_name rfl) (ev_name rfl) (by walk_at "cm")) (by rw [S_len, len, decide_eq_true_eq]; omega)) (ρ' := [("resp", .sh (.str (S l))), ("dirname", .sh (.str (S (List.replicate (w / 2) 34 ++ [122])))), ("i", .sh (.int ((5 + w + 1 : Nat) : Int))), ("n", .sh (.int ((S l).length : Int)))]) ?_ ?_
      · refine xb_n (xs_assign (ev_itemS (5 + w) (ev_name rfl) (ev_name rfl) (by omega) at122 (by omega)) (.inl rfl)) (by walk_at "nr") ?_
        refine xb_n (xs_assign (ev_bin (ev_name rfl) ev_int (by walk_at "op")) (.inl rfl)) (by walk_at "nr") ?_
        refine xb_ifSkip (et_eq (et_cmp (ev_name rfl) ev_str (by walk_at "cm")) (by rw [quot_S, S_beq]; decide)) ?_
        refine xb_n (xs_assign (ev_bin (ev_name rfl) (ev_name rfl) (by walk_at "op")) (.inl rfl)) (by walk_at "nr") ?_
        refine xb_end (has_c rfl (has_c ?_ (has_c ?_ (has_c rfl has_nil))))
        · rw [S_app]; rfl
        · show some (Sl.sh (D.int _)) = some (Sl.sh (D.int _))
          congr 3
          omega
      · rw [if_pos hp]
        exact wh_end' (has_c rfl has_nil) (et_eq (et_cmp (ev_name rfl) (ev_name rfl) (by walk_at "cm")) (by rw [S_len, len, decide_eq_false_iff_not]; omega))
    · have i1 : l[5 + 2 * (w / 2)]? = some 34 := at34 (2 * (w / 2)) (by omega)
      have e1 : 5 + 2 * (w / 2) + 1 = 5 + w := by omega
      rw [if_neg hp, List.append_nil]
      refine wh_brk (et_eq (et_cmp (ev_name rfl) (ev_name rfl) (by walk_at "cm")) (by rw [S_len, len, decide_eq_true_eq]; omega)) ?_
      refine xb_n (xs_assign (ev_itemS (5 + 2 * (w / 2)) (ev_name rfl) (ev_name rfl) rfl i1 (by omega)) (.inl rfl)) (by walk_at "nr") ?_
      refine xb_n (xs_assign (ev_bin (ev_name rfl) ev_int (by walk_at "op")) (.inl rfl)) (by walk_at "nr") ?_
      refine xb_brk' (has_c rfl has_nil) (xs_if (b := true) (et_eq (et_cmp (ev_name rfl) ev_str (by walk_at "cm")) (by rw [quot_S]; exact beq_self_eq_true _)) (xb_brk (xs_if (b := true) (et_eq (et_bool (or_cons (et_cmp (ev_name rfl) (ev_name rfl) (by walk_at "cm")) fun _ => or_cons (et_cmp (ev_itemS (5 + w) (ev_name rfl) (ev_name rfl) (by omega) at122 (by omega)) ev_str cmp_ne_str) fun _ => or_nil)) ?_) (xb_brk xs_break))))
      rw [quot_S, S_len, len, S_cps, S_cps, decide_eq_false (by omega)]
      rfl
  · exact xb_ret (xs_return (ev_name rfl))
end

end

section
set_option maxHeartbeats 8000000

section
variable {W : Wd} {a : Nat → Addr}

/-- a reply 229 that tells a port -/
structure P229 (x : Str) (port : Int) (parts : List Str) (r : Nat) : Prop where
  head : ((Txt.slice x none (some 3)).cps.toList != (Str.ofString "229").cps.toList) = false
  left : Txt.find x "(" = 13
  right : Txt.find3 x ")" (13 + 1) = (r : Int)
  some1 : (Txt.charAt x (13 + 1)).isSome = true
  some2 : (Txt.charAt x ((r : Int) - 1)).isSome = true
  mark : ((Txt.item x (13 + 1)).cps.toList != (Txt.item x ((r : Int) - 1)).cps.toList) = false
  split : Txt.split (Txt.slice x (some (13 + 1)) (some (r : Int))) (Txt.item x (13 + 1)) = parts
  five : parts.length = 5
  len : (Txt.item x (13 + 1)).length = 1
  port : PySem.intText? (parts.getD 3 "") = some port
  plen : (parts.getD 3 "").length ≤ 640
  size : x.length ≤ 1000
  rle : r ≤ 1000

theorem c15 (G : Gl W a) {x : Str} {port : Int} {parts : List Str} {r : Nat} (P : P229 x port parts r) : FnC W (a 15) 1 [.str x, .tuple [.str "h", .int 21]] (.tuple [.str "h", .int port]) := by
  have hx := P.size
  have f1 : fitsSsize (13 + 1) = true := by decide
  have f2 : fitsSsize ((r : Int) - 1) = true := by
    have := P.rle
    unfold fitsSsize; rw [decide_eq_false (by omega), decide_eq_false (by omega)]; rfl
  refine fn2 (G.fn 15 (by decide)) ok15 fun L cd A => ?_
  refine xb_ifSkip (et_eq (et_cmp (ev_slice_str (l := none) (u := (some _)) (ev_name rfl) trivial ev_int (by walk_at "sb")) ev_str (by walk_at "cm")) P.head) ?_
  refine xb_n (xs_assign (ev_eq (ev_meth (ev_name rfl) ty_str PySem.F.plainAttrs_str PySem.F.slot_str_find PySem.F.type_str_find (el_cons ev_str el_nil) m_find) (by rw [P.left])) (.inl rfl)) (by walk_at "nr") ?_
  refine xb_ifSkip (et_eq (et_cmp (ev_name rfl) ev_int (by walk_at "cm")) (by decide)) ?_
  refine xb_n (xs_assign (ev_eq (ev_meth (ev_name rfl) ty_str PySem.F.plainAttrs_str PySem.F.slot_str_find PySem.F.type_str_find (el_cons ev_str (el_cons (ev_bin (ev_name rfl) ev_int (by walk_at "op")) el_nil)) m_find3) (by rw [P.right])) (.inl rfl)) (by walk_at "nr") ?_
  refine xb_ifSkip (et_eq (et_cmp (ev_name rfl) ev_int (by walk_at "cm")) (by rw [decide_eq_false_iff_not]; omega)) ?_
  refine xb_ifSkip (et_eq (et_cmp (ev_sub (ev_name rfl) (ev_bin (ev_name rfl) ev_int (by walk_at "op")) (item_str f1 P.some1)) (ev_sub (ev_name rfl) (ev_bin (ev_name rfl) ev_int (by walk_at "op")) (item_str f2 P.some2)) cmp_ne_str) P.mark) ?_
  have sl := Txt.slice_le x (some (13 + 1)) (some (r : Int))
  refine xb_n (xs_assignF (ef_split (ev_slice_str (l := some _) (u := some _) (ev_name rfl) (ev_bin (ev_name rfl) ev_int (by walk_at "op")) (ev_name rfl) (by omega)) (ev_sub (ev_name rfl) (ev_bin (ev_name rfl) ev_int (by walk_at "op")) (item_str f1 P.some1)) (by rw [P.len]; rfl) (by omega)) (.inl rfl)) (by walk_at "nr") ?_
  rw [P.split]
  have h5 : (parts.map D.str).length = 5 := by rw [List.length_map, P.five]
  refine xb_ifSkip (et_eq (et_cmp (ev_lenow (f := .Constant .none 0 ⟨0, 0, 0, 0⟩) rfl (ev_global rfl (gl_len G)) (by omega)) ev_int cmp_ne_int) (by rw [h5]; rfl)) ?_
  refine xb_n (xs_assign (ev_sub (ev_name rfl) ev_int (by walk_at "it")) (.inl rfl)) (by walk_at "nr") ?_
  have i3 : IdxAt 3 (parts.map D.str) (.str (parts.getD 3 "")) := idxN (k := 3) (by
    rw [List.getElem?_map, List.getD_eq_getElem?_getD, List.getElem?_eq_getElem (by rw [P.five]; decide)]; rfl) (by omega)
  refine xb_n (xs_assign (ev_callT (ev_global rfl (gl_int G)) (el_cons (ev_subow rfl ev_int i3) el_nil) (int_str' P.port P.plen)) (.inl rfl)) (by walk_at "nr") ?_
  exact xb_ret (xs_return (ev_tuple (el_cons (ev_name rfl) (el_cons (ev_name rfl) el_nil)) (of_decide_eq_true rfl)))

/-! the port that a figure makes -/
noncomputable def markF (f : Nat) : Str := Txt.item "|!#=" ((f / 6 % 4 : Nat) : Int)
noncomputable def portF (f : Nat) : Str := toString (40 + ((f % 6 : Nat) : Int))
noncomputable def insF (f : Nat) : List Str := [Txt.mul (markF f) 3 ++ portF f ++ markF f, markF f ++ "2" ++ markF f ++ "::1" ++ markF f ++ portF f ++ markF f, Txt.mul (markF f) 3 ++ " " ++ portF f ++ "  " ++ markF f]
noncomputable def respF (f : Nat) : Str := "229 Entering (" ++ (insF f).getD (f / 24) "" ++ ")"
noncomputable def partsF (f : Nat) : List Str := Txt.split (Txt.slice (respF f) (some (13 + 1)) (some ((respF f).length - 1))) (Txt.item (respF f) (13 + 1))
noncomputable def okF (f : Nat) : Bool :=
  !((Txt.slice (respF f) none (some 3)).cps.toList != (Str.ofString "229").cps.toList) && Txt.find (respF f) "(" == 13 && Txt.find3 (respF f) ")" (13 + 1) == (respF f).length - 1 &&
  (Txt.charAt (respF f) (13 + 1)).isSome && (Txt.charAt (respF f) ((respF f).length - 1 - 1)).isSome && !((Txt.item (respF f) (13 + 1)).cps.toList != (Txt.item (respF f) ((respF f).length - 1 - 1)).cps.toList) &&
  decide ((partsF f).length = 5) && decide ((Txt.item (respF f) (13 + 1)).length = 1) && (PySem.intText? ((partsF f).getD 3 "") == some (40 + ((f % 6 : Nat) : Int))) && decide (((partsF f).getD 3 "").length ≤ 640) && decide ((respF f).length ≤ 1000) && decide (1 ≤ (respF f).length) &&
  (Txt.charAt "|!#=" ((f / 6 % 4 : Nat) : Int)).isSome && decide ((markF f).length = 1) && decide ((portF f).length ≤ 2) && decide ((Txt.mul (markF f) 3).length ≤ 3) && decide (((insF f).getD (f / 24) "").length ≤ 100)
theorem okF_row : ∀ a, a < 9 → ((List.range' (8 * a) 8).all okF) = true := by
  intro a ha
  match a, ha with
  | 0, _ => decide +kernel
  | 1, _ => decide +kernel
  | 2, _ => decide +kernel
  | 3, _ => decide +kernel
  | 4, _ => decide +kernel
  | 5, _ => decide +kernel
  | 6, _ => decide +kernel
  | 7, _ => decide +kernel
  | 8, _ => decide +kernel
theorem okF_all (f : Nat) (hf : f < 72) : okF f = true :=
  List.all_eq_true.mp (okF_row (f / 8) (by omega)) f (by rw [List.mem_range'_1]; omega)
end

end

section
set_option maxHeartbeats 8000000

section
variable {W : Wd} {a : Nat → Addr}
theorem and_l {a b : Bool} (h : (a && b) = true) : a = true ∧ b = true := by simpa using h
theorem P229_of {f : Nat} (hf : f < 72) : P229 (respF f) (40 + ((f % 6 : Nat) : Int)) (partsF f) ((respF f).length - 1) ∧ (Txt.charAt "|!#=" ((f / 6 % 4 : Nat) : Int)).isSome = true ∧ (markF f).length = 1 ∧ (portF f).length ≤ 2 ∧ (Txt.mul (markF f) 3).length ≤ 3 ∧ ((insF f).getD (f / 24) "").length ≤ 100 := by
  have h := okF_all f hf
  unfold okF at h
  simp only [Bool.and_eq_true, Bool.not_eq_true', beq_iff_eq, decide_eq_true_eq] at h
  obtain ⟨⟨⟨⟨⟨⟨⟨⟨⟨⟨⟨⟨⟨⟨⟨⟨h1, h2⟩, h3⟩, h4⟩, h5⟩, h6⟩, h7⟩, h8⟩, h9⟩, h10⟩, h11⟩, h12⟩, h13⟩, h14⟩, h15⟩, h16⟩, h17⟩ := h
  have e : (((respF f).length - 1 : Nat) : Int) = ((respF f).length : Int) - 1 := by omega
  refine ⟨⟨h1, h2, by rw [e]; exact h3, h4, by rw [e]; exact h5, by rw [e]; exact h6, by rw [e]; rfl, h7, h8, h9, h10, h11, by omega⟩, h13, h14, h15, h16, h17⟩

theorem c30 (G : Gl W a) {f : Nat} (hf : f < 72) : FnC W (a 30) 2 [.int f] (.int ((f % 6 : Nat) : Int)) := by
  obtain ⟨P, s1, s2, s3, s4, s5⟩ := P229_of hf
  have e6 : ((f : Int).fmod 6) = ((f % 6 : Nat) : Int) := fmodN f 6 (by decide)
  have e4 : ((f : Int).fdiv 6).fmod 4 = ((f / 6 % 4 : Nat) : Int) := by
    have h1 := fdivN f 6
    have h2 := fmodN (f / 6) 4 (by decide)
    rw [← h2, ← h1]; rfl
  have e24 : ((f : Int).fdiv 24) = ((f / 24 : Nat) : Int) := fdivN f 24
  have l1 : (Str.ofString "2").length = 1 := by decide +kernel
  have l2 : (Str.ofString "::1").length = 3 := by decide +kernel
  have l3 : (Str.ofString " ").length = 1 := by decide +kernel
  have l4 : (Str.ofString "  ").length = 2 := by decide +kernel
  have l5 : (Str.ofString "229 Entering (").length = 14 := by decide +kernel
  have l6 : (Str.ofString ")").length = 1 := by decide +kernel
  have f1 : fitsSsize ((f / 6 % 4 : Nat) : Int) = true := by
    unfold fitsSsize; rw [decide_eq_false (by omega), decide_eq_false (by omega)]; rfl
  refine fn1 (G.fn 30 (by decide)) ok30 fun L cd A => ?_
  refine xb_n (xs_assign (ev_eq (ev_bin (ev_name rfl) ev_int (by walk_at "op")) (by rw [e6])) (.inl rfl)) (by walk_at "nr") ?_
  refine xb_n (xs_assign (d := .str (markF f)) (ev_sub ev_str (ev_eq (ev_bin (ev_bin (ev_name rfl) ev_int (div_ints (by decide) (dgp (by decide) (by decide)))) ev_int (mod_ints (by decide))) (by rw [e4])) (item_str f1 s1)) (.inl rfl)) (by walk_at "nr") ?_
  refine xb_n (xs_assign (d := .str (portF f)) (ev_callT (ev_global rfl (gl_str G)) (el_cons (ev_bin ev_int (ev_name rfl) (by walk_at "op")) el_nil) (str_int' (by
    have : (40 + ((f % 6 : Nat) : Int)).natAbs < 2 ^ 7 := by omega
    have h := (Nat.log2_lt (n := (40 + ((f % 6 : Nat) : Int)).natAbs) (k := 7) (by omega)).mpr this
    omega))) (.inl rfl)) (by walk_at "nr") ?_
  have m3 : ∀ {F : Fm} {ρ : Ro} {e1 : Expr} {k : Nat} {p1 p2 : Pos}, EvE W F ρ e1 (.str (markF f)) → EvE W F ρ (.BinOp e1 .Mult (.Constant (.int 3) k p1) p2) (.str (Txt.mul (markF f) 3)) := fun h => ev_bin h ev_int (mul_str (by rw [s2]; decide) (by decide))
  have sa : ∀ {F : Fm} {ρ : Ro} {e1 e2 : Expr} {p : Pos} {x y : Str}, EvE W F ρ e1 (.str x) → EvE W F ρ e2 (.str y) → x.length + y.length ≤ 1000000 → EvE W F ρ (.BinOp e1 .Add e2 p) (.str (x ++ y)) := fun h1 h2 h3 => ev_bin h1 h2 (add_strs h3)
  have la := Str.length_append
  refine xb_n (xs_assign (d := .list ((insF f).map .str)) (ev_list (el_cons (sa (sa (m3 (ev_name rfl)) (ev_name rfl) (by omega)) (ev_name rfl) (by rw [la]; omega)) (el_cons (sa (sa (sa (sa (sa (sa (ev_name rfl) ev_str (by omega)) (ev_name rfl) (by simp only [la]; omega)) ev_str (by simp only [la]; omega)) (ev_name rfl) (by simp only [la]; omega)) (ev_name rfl) (by simp only [la]; omega)) (ev_name rfl) (by simp only [la]; omega))
    (el_cons (sa (sa (sa (sa (m3 (ev_name rfl)) ev_str (by omega)) (ev_name rfl) (by simp only [la]; omega)) ev_str (by simp only [la]; omega)) (ev_name rfl) (by simp only [la]; omega)) el_nil))) (of_decide_eq_true rfl)) (.inl rfl)) (by walk_at "nr") ?_
  have iF : IdxAt ((f / 24 : Nat) : Int) ((insF f).map .str) (.str ((insF f).getD (f / 24) "")) := idxN (by
    rw [List.getElem?_map, List.getD_eq_getElem?_getD, List.getElem?_eq_getElem (show f / 24 < (insF f).length by show f / 24 < 3; omega)]; rfl) (by show 3 ≤ 1000; decide)
  refine xb_n (xs_assign (ev_call (ev_global rfl (gl_parse229 G)) (G.fn 15 (by decide)).isFn (el_cons (sa (sa ev_str (ev_sub (ev_name rfl) (ev_eq (ev_bin (ev_name rfl) ev_int (div_ints (by decide) (dgp (by decide) (by decide)))) (by rw [e24])) (item_list iF)) (by omega)) ev_str (by rw [la]; omega)) (el_cons (ev_tuple (el_cons ev_str (el_cons ev_int el_nil)) (by walk_at "sb")) el_nil)) (c15 G P) (Nat.le_refl _)) (.inl rfl)) (by walk_at "nr") ?_
  have i1 : IdxAt 1 [D.str "h", D.int (40 + ((f % 6 : Nat) : Int))] (.int (40 + ((f % 6 : Nat) : Int))) := idxN (k := 1) rfl (by show 2 ≤ 1000; decide)
  have okh : okD (D.tuple [D.str "h", D.int (40 + ((f % 6 : Nat) : Int))]) = true := by
    have h : PyData.strOk (Str.ofString "h") = true := by decide +kernel
    show (PyData.strOk (Str.ofString "h") && _) = true
    rw [h]; rfl
  refine xb_ifSkip (et_eq (et_bool (or_cons (et_cmp (ev_callT (ev_global rfl (gl_type G)) (el_cons (ev_name rfl) el_nil) type_tuple) (ev_global rfl (gl_tuple G)) (isnot_type rfl)) fun _ => or_cons (et_cmp (ev_name rfl) (ev_tuple (el_cons ev_str (el_cons (ev_bin ev_int (ev_name rfl) (by walk_at "op")) el_nil)) (by walk_at "sb")) (cmp_ne okh okh (of_decide_eq_true rfl))) fun _ => or_cons (et_cmp (ev_callT (ev_global rfl (gl_type G)) (el_cons (ev_sub (ev_name rfl) ev_int (item_tuple i1)) el_nil) type_int) (ev_global rfl (gl_int G)) (isnot_type rfl)) fun _ => or_nil)) ?_) ?_
  · simp [pyD, pyDs, PyData.eqv, PyData.eqvAll]
  refine xb_ret (xs_return (ev_eq (ev_bin (ev_sub (ev_name rfl) ev_int (item_tuple i1)) ev_int sub_ints) ?_))
  congr 1
  omega
end

end

section
set_option maxHeartbeats 4000000
open PySem.Builtin.Re

theorem pa_re : PlainAttrs "re.Pattern" :=
  ⟨⟨"object.__getattribute__", by rw [typeLookup_type, builtinLookup_eq_fast]; kernel_rfl, by decide +kernel⟩, by rw [typeLookup_type, builtinLookup_eq_fast]; kernel_rfl⟩
theorem owner_re : Manifest.owners.lookup (String.ofList ['n', 'r', 'e', 't', 't', 'a', 'P', '.', 'e', 'r'].reverse) = some Manifest.sig_re_Pattern := by kernel_rfl
theorem slot_search : Slot "re.Pattern" "search" "re.Pattern.search" :=
  .of (owner := "re.Pattern") (n := "search") (by rw [typeLookup_type, builtinLookup_eq_fast]; kernel_rfl) (by decide +kernel) (by decide +kernel) (by decide +kernel)
    (by first | exact .inl (by decide +kernel) | exact .inr (by decide +kernel)) (by rw [isSubtype_type]; kernel_rfl)
theorem type_search : typeOf (.builtin "re.Pattern.search") = pure (.type "method_descriptor") := by show builtinType _ = _; rw [builtinType_eq_fast]; kernel_rfl
theorem entry_search : entryFor table "re.Pattern.search" = some Builtin.«re.Pattern.search» := entryFor_of_tree (by kernel_rfl)
theorem args_search (a b : Value) : argsOk "re.Pattern.search" ⟨[a, b], []⟩ := by
  unfold argsOk; rw [signature?_of (id := "re.Pattern.search") (n := ['h', 'c', 'r', 'a', 'e', 's']) (o := ['n', 'r', 'e', 't', 't', 'a', 'P', '.', 'e', 'r']) (by kernel_rfl) owner_re]; kernel_rfl

theorem named (id f : String) (v : Value) : reNamed id f ["string", "pos", "endpos"] 1 [v] [] = pure [some v, none, none] := by rfl

section
variable {M : Model} {A : Around} {E : Value → Shared → Prop} {s : Shared}
theorem drive : ∀ (turns : Nat) (m fin : Sre.M) (n0 : Nat) (Q : Sre.M → Shared → Prop), (∀ n, n0 ≤ n → stepN n m = fin) → fin.outcome.isSome = true → n0 ≤ 4 * turns → 1 ≤ turns → Q fin s → wpAny M A (reDrive turns m) Q E s
  | 0, _, _, _, _, _, _, _, h, _ => absurd h (by decide)
  | turns + 1, m, fin, n0, Q, hf, ho, hn, _, hQ => by
    unfold reDrive
    have e4 : m.runFor reTurnSteps = stepN 4 m := runFor_eq 4 m
    simp only [e4]
    by_cases q : (stepN 4 m).outcome.isSome = true
    · rw [if_pos q]
      have : stepN 4 m = fin := by
        rw [← hf (n0 + 4) (by omega), Nat.add_comm, stepN_add, stepN_done _ q]
      rw [this]; exact wpAny_pure hQ
    · rw [if_neg q]
      have ht : 1 ≤ turns := by
        rcases Nat.eq_zero_or_pos turns with h | h
        · subst h
          exact absurd (by rw [hf 4 hn]; exact ho) q
        · exact h
      refine wpAny_bind (wpAny_rule (drive turns _ fin (n0 - 4) Q (fun n h => ?_) ho (by omega) ht hQ))
      rw [← stepN_add]
      exact hf _ (by omega)

theorem runEnd {m fin : Sre.M} {n0 : Nat} {Q : Option Sre.M → Shared → Prop} (hf : stepN n0 m = fin) (hn : n0 ≤ 2 ^ 60) (b : Bool) (ho : fin.outcome = some (if b then .matched else .failed)) (hQ : Q (if b then some fin else none) s) : wpAny M A (reRunToEnd m) Q E s := by
  unfold reRunToEnd
  have hs : fin.outcome.isSome = true := by rw [ho]; rfl
  refine wpAny_bind (drive _ m fin n0 _ (fun n h => ?_) hs (by omega) (by decide) ?_)
  · obtain ⟨k, rfl⟩ := Nat.exists_eq_add_of_le h
    rw [stepN_add, hf, stepN_done _ hs]
  have loop : ∀ (l : List Nat) (Q : PUnit → Shared → Prop), Q ⟨⟩ s → wpAny M A (forIn l PUnit.unit fun i _ => do
      if fin.seen.has i = true then do rule (Sre.names.getD i ""); pure (ForInStep.yield PUnit.unit) else pure (ForInStep.yield PUnit.unit)) Q E s := by
    intro l
    induction l with
    | nil => intro Q hQ; rw [List.forIn_nil]; exact wpAny_pure hQ
    | cons i r ih =>
      intro Q hQ
      rw [List.forIn_cons]
      refine wpAny_bind ?_
      split
      · exact wpAny_bind (wpAny_rule (wpAny_pure (ih Q hQ)))
      · exact wpAny_pure (ih Q hQ)
  refine wpAny_bind (loop _ _ ?_)
  rw [ho]
  cases b with
  | true => exact wpAny_pure hQ
  | false => exact wpAny_pure hQ
end

/-- the pattern, as the text's top has made it -/
structure PatAt (h : Heap) (f : Addr) : Prop where
  at' : ∃ p0 p1 c oc, h.get? f = some { cls := .type "re.Pattern", data := .fields #[p0, p1, .int 0 0, .none, .none, .ref c, .int 0 0] } ∧ h.get? c = some oc ∧ oc.data = .seq (Cod.map fun (n : Nat) => Value.int (Int.ofNat n) 0)

theorem search_call {prog : Program} {w : World} {A : Around} {E : Value → Shared → Prop} {s : Shared} {f : Addr} {x : Str} {t : Tok} {b : Bool} {Q : Value → Shared → Prop} (P : PatAt s.heap f) (hx : x.length ≤ 1000000)
    (hm : ∃ n, n ≤ 3 * x.cps.size + 3 ∧ (stepN n (Sre.forSearch Cod x.cps 0 0 x.cps.size false)).outcome = some (if b then .matched else .failed))
    (h0 : b = false → Q .none s) (h1 : b = true → ∀ vs ws, Q (.ref (s.heap.objs.size + 1)) { s with heap := (s.heap.push { cls := .type "tuple", data := .seq vs }).push { cls := .type "re.Match", data := .fields ws } }) :
    wpAny (model prog w) A (call (.builtin "re.Pattern.search") [.ref f, .str x t]) Q E s := by
  obtain ⟨p0, p1, c, oc, ho, hoc, hd⟩ := P.at'
  obtain ⟨n, hn, hout⟩ := hm
  have hT : s.TypeIs (.ref f) "re.Pattern" := ⟨_, ho, rfl⟩
  refine wpAny_call (codeAny_call_builtin slot_search.plain entry_search (slot_search.check _ _ _ _ _ _ _ _ hT (args_search _ _) ?_))
  show wpAny _ _ (do let t ← reTarget "re.Pattern.search" "search" ⟨[.ref f, .str x t], []⟩; reAnswer t (Sre.forSearch t.code t.text t.groups t.pos t.lim false)) _ _ s
  have e : ∀ (Q : ReTarget → Shared → Prop) (E : Value → Shared → Prop) (A : Around), Q ⟨.ref f, .str x t, Cod, x.cps, 0, 0, 0, x.cps.size⟩ s → wpAny (model prog w) A (reTarget "re.Pattern.search" "search" ⟨[.ref f, .str x t], []⟩) Q E s := by
    intro Q E A hQ
    unfold reTarget
    show wpAny _ _ (do
      let xs ← reNamed "re.Pattern.search" "search" ["string", "pos", "endpos"] 1 [.str x t] []
      _) _ _ s
    rw [named]
    refine wpAny_bind (wpAny_pure ?_)
    refine wpAny_bind (wpAny_pure ?_)
    refine wpAny_bind (wpAny_pure ?_)
    refine wpAny_bind (wpAny_bind (wpAny_load ho (wpAny_pure ?_)))
    refine wpAny_bind (wpAny_bind (wpAny_pure (wpAny_pure ?_)))
    refine wpAny_bind (wpAny_pure ?_)
    refine wpAny_bind (wpAny_bind (wpAny_bind (wpAny_load hoc ?_)))
    rw [hd]
    refine wpAny_pure (wpAny_pure (wpAny_pure ?_))
    have e1 : ((((some (Cod.map fun (n : Nat) => Value.int (Int.ofNat n) 0)).getD #[]).map reRawOf).map fun i => i.toNat) = Cod := by decide +kernel
    have e2 : min ((2 ^ 63 - 1 : Int)).toNat x.cps.size = x.cps.size := by
      have : x.cps.size ≤ 1000000 := hx
      have e : ((2 ^ 63 - 1 : Int)).toNat = 2 ^ 63 - 1 := by decide
      rw [e]; omega
    have e3 : min ((0 : Int)).toNat x.cps.size = 0 := by simp
    have hQ' : Q ⟨.ref f, .str x t, ((((some (Cod.map fun (n : Nat) => Value.int (Int.ofNat n) 0)).getD #[]).map reRawOf).map fun i => i.toNat), x.cps, 0, 0, min ((0 : Int)).toNat x.cps.size, min ((2 ^ 63 - 1 : Int)).toNat x.cps.size⟩ s := by
      rw [e1, e2, e3]; exact hQ
    exact hQ'
  refine wpAny_bind (e _ _ _ ?_)
  show wpAny _ _ (reAnswer _ (Sre.forSearch Cod x.cps 0 0 x.cps.size false)) _ _ s
  unfold reAnswer
  refine wpAny_bind (runEnd rfl (by have : x.cps.size ≤ 1000000 := hx; omega) b hout ?_)
  cases b with
  | false => exact wpAny_pure (h0 rfl)
  | true =>
    show wpAny _ _ (do let v ← reNewMatch (.ref f) (.str x t) 0 0 x.cps.size _; ret v) _ _ s
    refine wpAny_bind ?_
    unfold reNewMatch
    refine wpAny_bind (wpAny_newTuple ?_ (by show 2 ≤ sizeLine; rw [sizeLine_eq]; decide))
    refine wpAny_newObj_type ?_ (by show 6 ≤ sizeLine + 2; rw [sizeLine_eq]; decide)
    refine wpAny_pure ?_
    have q := fun vs ws => h1 rfl vs ws
    have hsz : ∀ vs, (s.heap.push { cls := .type "tuple", data := .seq vs }).objs.size = s.heap.objs.size + 1 := fun vs => Heap.size_push ..
    show Q (.ref (s.heap.push { cls := .type "tuple", data := .seq _ }).objs.size) _
    rw [hsz]
    exact h1 rfl _ _

theorem truthy_match {prog : Program} {w : World} {A : Around} {E : Value → Shared → Prop} {s : Shared} {a : Addr} {Q : Bool → Shared → Prop} (hT : s.TypeIs (.ref a) "re.Match") (h : Q true s) : wpAny (model prog w) A (truthy (.ref a)) Q E s := by
  have l1 : typeLookup (.type "re.Match") "__bool__" = pure none := by rw [typeLookup_type, builtinLookup_eq_fast]; kernel_rfl
  have l2 : typeLookup (.type "re.Match") "__len__" = pure none := by rw [typeLookup_type, builtinLookup_eq_fast]; kernel_rfl
  unfold truthy
  refine wpAny_bind ?_
  unfold callSpecial?
  refine wpAny_bind (wpAny_specialOf hT l1 (wpAny_pure ?_))
  exact wpAny_bind (wpAny_specialOf hT l2 (wpAny_pure h))

end

section
set_option maxHeartbeats 8000000

/-- what the search of a text comes to -/
noncomputable def Ip (x : Str) (b : Bool) : Prop := ∃ n, n ≤ 3 * x.cps.size + 3 ∧ (stepN n (Sre.forSearch Cod x.cps 0 0 x.cps.size false)).outcome = some (if b then .matched else .failed)
theorem PatAt.keeps {h h' : Heap} {f : Addr} (P : PatAt h f) (hk : ∀ b o, h.get? b = some o → h'.get? b = some o) : PatAt h' f := let ⟨p0, p1, c, oc, h1, h2, h3⟩ := P.at'; ⟨p0, p1, c, oc, hk _ _ h1, hk _ _ h2, h3⟩

section
variable {W : Wd} {F : Fm} {ρ : Ro} {a : Nat → Addr}
theorem et_search (G : Gl W a) (P : PatAt W.H (a 2)) {x y : Str} {b : Bool} {np apos yp pos : Pos} (hx : x.length ≤ 100000) (hm : Ip x b) (hy : EvE W F ρ (.Name y yp) (.str x)) (hk : F.env.kindOf "IPV4_RE" = some .globalImplicit)
    (hb : attributeBase (.Name "IPV4_RE" np) "search" F.env (eval (.Name "IPV4_RE" np) F.env) = eval (.Name "IPV4_RE" np) F.env := by rfl)
    (hfew : ((backTo pos (starEach [.Name y yp] F.env)).all (fun x => !x.1) && (backToKw pos (keywordEach [] F.env)).all (fun x => x.1.isSome)
      && decide ([Expr.Name y yp].length + ([] : List Keyword).length + (if ([] : List Keyword).isEmpty then 0 else 1) < 30)) = true := by rfl)
    (hline : (apos.endLine == pos.line) = true := by rfl)
    (he : ∀ whole, isTrue (.Call (.Attribute (.Name "IPV4_RE" np) "search" apos) [.Name y yp] [] pos) F.env whole = (do let v ← whole; standAt pos; holding [v] (truthy v)) := by intro _; rfl) :
    EvT W F ρ (.Call (.Attribute (.Name "IPV4_RE" np) "search" apos) [.Name y yp] [] pos) b := .mk fun kp g val s X => by
  have ha : EvL W F ρ [.Name y yp] [.str x] := el_cons hy el_nil
  refine wpAny_isTrue_value (wpAny_Call_method hb hfew hline pa_re slot_search type_search (mono' ((ev_global hk (gl_IPV4_RE G)).run kp g val s X) fun ov s₁ ⟨g₁, G₁, X₁, R₁, r₁⟩ => ?_)) (he _)
  cases R₁
  have Q := P.keeps X₁.based
  obtain ⟨p0, p1, c, oc, ho, _⟩ := Q.at'
  refine ⟨⟨_, ho, rfl⟩, fun a' e => (by cases e; exact ⟨_, ho, rfl⟩), ?_⟩
  refine Calls.callWith_builtin (plain_any (plain_back ha.1)) (wp_evalArgs (plain_back ha.1) (mono' (ha.2 kp g₁ val s₁ pos X₁) fun vs s₂ ⟨g₂, G₂, X₂, R₂, r₂⟩ => ?_))
  obtain ⟨u, rfl, h1⟩ := inv1 R₂
  obtain ⟨t, rfl⟩ := repStr h1
  refine search_call (P.keeps X₂.based) (by omega) hm (fun e => ?_) (fun e vs ws => ?_)
  · subst e
    exact wpAny_pure ⟨rfl, g₂, G₁.trans G₂, X₂, r₁.trans r₂⟩
  · subst e
    have Y := (X₂.pushed (tk := s₂.toks) { cls := .type "tuple", data := .seq vs } X₂.toks).pushed (tk := s₂.toks) { cls := .type "re.Match", data := .fields ws } X₂.toks
    refine truthy_match ⟨{ cls := .type "re.Match", data := .fields ws }, ?_, rfl⟩ ⟨rfl, g₂, G₁.trans G₂, Y, (r₁.trans r₂).trans ⟨rfl, rfl, rfl⟩⟩
    have hsz : (s₂.heap.push { cls := .type "tuple", data := .seq vs }).objs.size = s₂.heap.objs.size + 1 := Heap.size_push ..
    show ((s₂.heap.push { cls := .type "tuple", data := .seq vs }).push { cls := .type "re.Match", data := .fields ws }).get? (s₂.heap.objs.size + 1) = _
    rw [← hsz]
    exact Heap.get?_push_size _ rfl
end
section
variable {W : Wd} {a : Nat → Addr}

theorem c4 (G : Gl W a) (P : PatAt W.H (a 2)) {x : Str} {b : Bool} (hx : x.length ≤ 100000) (hm : Ip x b) : FnC W (a 4) 1 [.str x] (.bool (!b)) := by
  refine fn1 (G.fn 4 (by decide)) ok4 fun L cd A => ?_
  cases b with
  | true => exact xb_ifRet (et_search G P hx hm (ev_name rfl) rfl) (xb_ret (xs_return ev_bool))
  | false => exact xb_ifSkip (et_search G P hx hm (ev_name rfl) rfl) (xb_ret (xs_return ev_bool))

/-- a host that is a name -/
theorem c3 (G : Gl W a) (P : PatAt W.H (a 2)) {l : List Nat} {c e : Nat} (hx : l.length ≤ 10000) (hm : Ip (S l) false) (h0 : l[0]? = some c) (h1 : l.getLast? = some e) (hc : c ≠ 46) (he : e ≠ 46) : FnC W (a 3) 1 [.str (S l)] (.bool true) := by
  have n0 : Str.ofString "" = S [] := by decide +kernel
  have n1 : Str.ofString "." = S [46] := by decide +kernel
  have hl : l ≠ [] := by rintro rfl; cases h0
  have i0 : Txt.item (S l) 0 = S [c] := item_S l (k := 0) h0
  have i1 : Txt.item (S l) (-1) = S [e] := item_neg l h1
  have s0 : (Txt.charAt (S l) 0).isSome = true := by
    have := charAt_S l (k := 0) h0
    show (Txt.charAt (S l) ((0 : Nat) : Int)).isSome = true
    rw [this]; rfl
  have s1 : (Txt.charAt (S l) (-1)).isSome = true := by rw [charAt_neg l h1]; rfl
  refine fn1 (G.fn 3 (by decide)) ok3 fun L cd A => ?_
  refine xb_ifSkip (et_search G P (by rw [S_len]; omega) hm (ev_name rfl) rfl) ?_
  refine xb_ifSkip (et_eq (et_cmp (ev_name rfl) ev_str (by walk_at "cm")) (by rw [n0, S_beq, decide_eq_false hl])) ?_
  refine xb_ifSkip (et_eq (et_bool (or_cons (et_cmp (ev_sub (ev_name rfl) ev_int (item_str (by decide) s0)) ev_str cmp_eq_str) fun _ => or_cons (et_cmp (ev_sub (ev_name rfl) (ev_neg ev_int) (item_str (by decide) s1)) ev_str cmp_eq_str) fun _ => or_nil)) ?_) ?_
  · rw [i0, i1, n1, S_beq, S_beq, decide_eq_false (by simpa using hc), decide_eq_false (by simpa using he)]; rfl
  exact xb_ret (xs_return ev_bool)

/-- reach, at a name with a host above it -/
theorem c6_up (G : Gl W a) (P : PatAt W.H (a 2)) {h p : List Nat} {c e : Nat} (hx : (h ++ 46 :: p).length ≤ 10000) (hm : Ip (S (h ++ 46 :: p)) false) (h0 : (h ++ 46 :: p)[0]? = some c) (h1 : (h ++ 46 :: p).getLast? = some e) (hc : c ≠ 46) (he : e ≠ 46)
    (hf : Txt.find (S (h ++ 46 :: p)) "." = (h.length : Int)) (hp : (decide (Txt.find (S p) "." ≥ 0) || (S p == "local")) = true) : FnC W (a 6) 2 [.str (S (h ++ 46 :: p))] (.str (S (46 :: p))) := by
  have n1 : Str.ofString "." = S [46] := by decide +kernel
  have hl : (h ++ 46 :: p).length = h.length + 1 + p.length := by simp; omega
  have sl : Txt.slice (S (h ++ 46 :: p)) (some ((h.length : Int) + 1)) none = S p := by
    have := slice_from (h ++ 46 :: p) (k := h.length + 1) (by omega)
    rw [show ((h.length : Int) + 1) = ((h.length + 1 : Nat) : Int) by omega, this]
    congr 1
    rw [List.drop_append]
    simp
  refine fn1 (G.fn 6 (by decide)) ok6 fun L cd A => ?_
  have hS : (S (h ++ 46 :: p)).length ≤ 1000000 := by rw [S_len]; omega
  refine xb_n (xs_assign (ev_eq (ev_meth (ev_name rfl) ty_str PySem.F.plainAttrs_str PySem.F.slot_str_find PySem.F.type_str_find (el_cons ev_str el_nil) m_find) (by rw [hf])) (.inl rfl)) (by walk_at "nr") ?_
  refine xb_ret (xs_if (b := true) (et_eq (et_cmp (ev_name rfl) ev_int (by walk_at "cm")) (by rw [decide_eq_true_eq]; omega)) ?_)
  refine xb_n (xs_assign (ev_eq (ev_slice_str (l := (some _)) (u := none) (ev_name rfl) (ev_bin (ev_name rfl) ev_int (by walk_at "op")) trivial (by walk_at "sb")) (by rw [sl])) (.inl rfl)) (by walk_at "nr") ?_
  refine xb_n (xs_assign (ev_meth (ev_name rfl) ty_str PySem.F.plainAttrs_str PySem.F.slot_str_find PySem.F.type_str_find (el_cons ev_str el_nil) m_find) (.inl rfl)) (by walk_at "nr") ?_
  refine xb_ret (xs_if (b := true) (et_eq (et_bool (and_cons (et_val (ev_call (ev_global rfl (gl_is_HDN G)) (G.fn 3 (by decide)).isFn (el_cons (ev_name rfl) el_nil) (c3 G P hx hm h0 h1 hc he) (Nat.le_refl _)) tr_bool) fun _ => and_cons (et_bool (or_cons (et_cmp (ev_name rfl) ev_int (by walk_at "cm")) fun hb => (or_cons (et_cmp (ev_name rfl) ev_str (by walk_at "cm")) fun hb => or_nil))) fun _ => and_nil)) (by rw [Bool.or_false, hp]; rfl)) ?_)
  refine xb_ret (xs_return (ev_eq (ev_bin ev_str (ev_name rfl) (add_strs (by rw [n1, S_len, S_len]; simp; omega))) ?_))
  rw [n1, S_app]; rfl

/-- reach, at the first host -/
theorem c6_none (G : Gl W a) {x : Str} (hx : x.length ≤ 10000) (hf : Txt.find x "." = -1) : FnC W (a 6) 2 [.str x] (.str x) := by
  refine fn1 (G.fn 6 (by decide)) ok6 fun L cd A => ?_
  refine xb_n (xs_assign (ev_eq (ev_meth (ev_name rfl) ty_str PySem.F.plainAttrs_str PySem.F.slot_str_find PySem.F.type_str_find (el_cons ev_str el_nil) m_find) (by rw [hf])) (.inl rfl)) (by walk_at "nr") ?_
  refine xb_ifSkip (et_eq (et_cmp (ev_name rfl) ev_int (by walk_at "cm")) (by decide)) ?_
  exact xb_ret (xs_return (ev_name rfl))
theorem c6_top (G : Gl W a) (P : PatAt W.H (a 2)) {h p : List Nat} {c e : Nat} (hx : (h ++ 46 :: p).length ≤ 10000) (hm : Ip (S (h ++ 46 :: p)) false) (h0 : (h ++ 46 :: p)[0]? = some c) (h1 : (h ++ 46 :: p).getLast? = some e) (hc : c ≠ 46) (he : e ≠ 46)
    (hf : Txt.find (S (h ++ 46 :: p)) "." = (h.length : Int)) (hp : (decide (Txt.find (S p) "." ≥ 0) || (S p == "local")) = false) : FnC W (a 6) 2 [.str (S (h ++ 46 :: p))] (.str (S (h ++ 46 :: p))) := by
  have hl : (h ++ 46 :: p).length = h.length + 1 + p.length := by simp; omega
  have sl : Txt.slice (S (h ++ 46 :: p)) (some ((h.length : Int) + 1)) none = S p := by
    have := slice_from (h ++ 46 :: p) (k := h.length + 1) (by omega)
    rw [show ((h.length : Int) + 1) = ((h.length + 1 : Nat) : Int) by omega, this]
    congr 1
    rw [List.drop_append]
    simp
  refine fn1 (G.fn 6 (by decide)) ok6 fun L cd A => ?_
  have hS : (S (h ++ 46 :: p)).length ≤ 1000000 := by rw [S_len]; omega
  refine xb_n (xs_assign (ev_eq (ev_meth (ev_name rfl) ty_str PySem.F.plainAttrs_str PySem.F.slot_str_find PySem.F.type_str_find (el_cons ev_str el_nil) m_find) (by rw [hf])) (.inl rfl)) (by walk_at "nr") ?_
  refine xb_ifNext (et_eq (et_cmp (ev_name rfl) ev_int (by walk_at "cm")) (by rw [decide_eq_true_eq]; omega)) (xb_n (xs_assign (ev_eq (ev_slice_str (l := (some _)) (u := none) (ev_name rfl) (ev_bin (ev_name rfl) ev_int (by walk_at "op")) trivial (by walk_at "sb")) (by rw [sl])) (.inl rfl)) (by walk_at "nr") (xb_n (xs_assign (ev_meth (ev_name rfl) ty_str PySem.F.plainAttrs_str PySem.F.slot_str_find PySem.F.type_str_find (el_cons ev_str el_nil) m_find) (.inl rfl)) (by walk_at "nr")
    (xb_ifSkip (et_eq (et_bool (and_cons (et_val (ev_call (ev_global rfl (gl_is_HDN G)) (G.fn 3 (by decide)).isFn (el_cons (ev_name rfl) el_nil) (c3 G P hx hm h0 h1 hc he) (Nat.le_refl _)) tr_bool) fun _ => and_cons (et_bool (or_cons (et_cmp (ev_name rfl) ev_int (by walk_at "cm")) fun hb => (or_cons (et_cmp (ev_name rfl) ev_str (by walk_at "cm")) fun hb => or_nil))) fun _ => and_nil)) (by rw [Bool.or_false, hp]; rfl)) xb_nil))) ?_
  exact xb_ret (xs_return (ev_name rfl))

/-- user_domain_match -/
noncomputable def udm (x y : Str) : Bool := if Txt.startswith y "." then Txt.endswith x y else x == y
theorem c5_name (G : Gl W a) (P : PatAt W.H (a 2)) {x y : Str} (hx : x.length ≤ 10000) (hy : y.length ≤ 10000) (hx' : (Txt.lower x).length ≤ 10000) (hy' : (Txt.lower y).length ≤ 10000) (h1 : Ip (Txt.lower x) false) (h2 : Ip (Txt.lower y) false) :
    FnC W (a 5) 2 [.str x, .str y] (.bool (udm (Txt.lower x) (Txt.lower y))) := by
  refine fn2 (G.fn 5 (by decide)) ok5 fun L cd A => ?_
  refine xb_n (xs_assign (ev_meth (ev_name rfl) ty_str PySem.F.plainAttrs_str PySem.F.slot_str_lower PySem.F.type_str_lower el_nil (m_lower (by walk_at "sb"))) (.inl rfl)) (by walk_at "nr") ?_
  refine xb_n (xs_assign (ev_meth (ev_name rfl) ty_str PySem.F.plainAttrs_str PySem.F.slot_str_lower PySem.F.type_str_lower el_nil (m_lower (by walk_at "sb"))) (.inl rfl)) (by walk_at "nr") ?_
  refine xb_ifSkip (et_eq (et_not (et_bool (and_cons (et_val (ev_call (ev_global rfl (gl_liberal_is_HDN G)) (G.fn 4 (by decide)).isFn (el_cons (ev_name rfl) el_nil) (c4 G P (by omega) h1) (Nat.le_refl _)) tr_bool) fun _ => and_cons (et_val (ev_call (ev_global rfl (gl_liberal_is_HDN G)) (G.fn 4 (by decide)).isFn (el_cons (ev_name rfl) el_nil) (c4 G P (by omega) h2) (Nat.le_refl _)) tr_bool) fun _ => and_nil))) (by rfl)) ?_
  refine xb_n (xs_assign (ev_meth (ev_name rfl) ty_str PySem.F.plainAttrs_str PySem.F.slot_str_startswith PySem.F.type_str_startswith (el_cons ev_str el_nil) m_startswith) (.inl rfl)) (by walk_at "nr") ?_
  unfold udm
  cases hs : Txt.startswith (Txt.lower y) "." with
  | true =>
    cases he : Txt.endswith (Txt.lower x) (Txt.lower y) with
    | true => exact xb_ifRet (et_eq (et_bool (and_cons (et_val (ev_name rfl) (by walk_at "tr")) fun hb => (and_cons (et_val (ev_meth (ev_name rfl) ty_str PySem.F.plainAttrs_str PySem.F.slot_str_endswith PySem.F.type_str_endswith (el_cons (ev_name rfl) el_nil) m_endswith) (by walk_at "tr")) fun hb => and_nil))) (by rw [he]; rfl)) (xb_ret (xs_return ev_bool))
    | false =>
      refine xb_ifSkip (et_eq (et_bool (and_cons (et_val (ev_name rfl) (by walk_at "tr")) fun hb => (and_cons (et_val (ev_meth (ev_name rfl) ty_str PySem.F.plainAttrs_str PySem.F.slot_str_endswith PySem.F.type_str_endswith (el_cons (ev_name rfl) el_nil) m_endswith) (by walk_at "tr")) fun hb => and_nil))) (by rw [he]; rfl)) ?_
      refine xb_ifSkip (et_eq (et_bool (and_cons (et_not (et_val (ev_name rfl) (by walk_at "tr"))) fun hb => (and_cons (et_cmp (ev_name rfl) (ev_name rfl) (by walk_at "cm")) fun hb => and_nil))) (by rfl)) ?_
      exact xb_ret (xs_return ev_bool)
  | false =>
    refine xb_ifSkip (et_eq (et_bool (and_cons (et_val (ev_name rfl) (by walk_at "tr")) fun hb => (and_cons (et_val (ev_meth (ev_name rfl) ty_str PySem.F.plainAttrs_str PySem.F.slot_str_endswith PySem.F.type_str_endswith (el_cons (ev_name rfl) el_nil) m_endswith) (by walk_at "tr")) fun hb => and_nil))) (by rfl)) ?_
    cases he : Txt.lower x == Txt.lower y with
    | true => exact xb_ifRet (et_eq (et_bool (and_cons (et_not (et_val (ev_name rfl) (by walk_at "tr"))) fun hb => (and_cons (et_cmp (ev_name rfl) (ev_name rfl) (by walk_at "cm")) fun hb => and_nil))) (by rw [he]; rfl)) (xb_ret (xs_return (ev_eq ev_bool (by rw [if_neg Bool.false_ne_true]))))
    | false =>
      refine xb_ifSkip (et_eq (et_bool (and_cons (et_not (et_val (ev_name rfl) (by walk_at "tr"))) fun hb => (and_cons (et_cmp (ev_name rfl) (ev_name rfl) (by walk_at "cm")) fun hb => and_nil))) (by rw [he]; rfl)) ?_
      exact xb_ret (xs_return (ev_eq ev_bool (by rw [if_neg Bool.false_ne_true])))
theorem c5_ip (G : Gl W a) (P : PatAt W.H (a 2)) {x y : Str} {b : Bool} (hx : x.length ≤ 10000) (hy : y.length ≤ 10000) (hx' : (Txt.lower x).length ≤ 10000) (hy' : (Txt.lower y).length ≤ 10000) (h1 : Ip (Txt.lower x) true) :
    FnC W (a 5) 2 [.str x, .str y] (.bool (Txt.lower x == Txt.lower y)) := by
  refine fn2 (G.fn 5 (by decide)) ok5 fun L cd A => ?_
  refine xb_n (xs_assign (ev_meth (ev_name rfl) ty_str PySem.F.plainAttrs_str PySem.F.slot_str_lower PySem.F.type_str_lower el_nil (m_lower (by walk_at "sb"))) (.inl rfl)) (by walk_at "nr") ?_
  refine xb_n (xs_assign (ev_meth (ev_name rfl) ty_str PySem.F.plainAttrs_str PySem.F.slot_str_lower PySem.F.type_str_lower el_nil (m_lower (by walk_at "sb"))) (.inl rfl)) (by walk_at "nr") ?_
  refine xb_ret (xs_if (b := true) (et_not (et_bool (and_false (et_val (ev_call (ev_global rfl (gl_liberal_is_HDN G)) (G.fn 4 (by decide)).isFn (el_cons (ev_name rfl) el_nil) (c4 G P (by omega) h1) (Nat.le_refl _)) tr_bool)))) ?_)
  cases he : Txt.lower x == Txt.lower y with
  | true => exact xb_ifRet (et_eq (et_cmp (ev_name rfl) (ev_name rfl) (by walk_at "cm")) he) (xb_ret (xs_return ev_bool))
  | false => exact xb_ifSkip (et_eq (et_cmp (ev_name rfl) (ev_name rfl) (by walk_at "cm")) he) (xb_ret (xs_return ev_bool))
end

end

section
set_option maxHeartbeats 16000000

/-! six of a kind -/
noncomputable def six (f : Nat → D) : List D := (List.range 6).map f
theorem six_len (f : Nat → D) : (six f).length = 6 := by unfold six; rw [List.length_map, List.length_range]
theorem six_at (f : Nat → D) {k : Nat} (hk : k < 6) : (six f)[k]? = some (f k) := by
  unfold six
  rw [List.getElem?_map, List.getElem?_range hk]; rfl
theorem six_idx (f : Nat → D) {k : Nat} (hk : k < 6) : IdxAt ((k : Nat) : Int) (six f) (f k) := idxN (six_at f hk) (by rw [six_len]; decide)
theorem six_idx0 (f : Nat → D) {k : Nat} (hk : k < 6) : IdxAt (0 + ((k : Nat) : Int)) (six f) (f k) := by rw [Int.zero_add]; exact six_idx f hk

noncomputable def hostV (H : Nat → Str) (k : Nat) : Str := if (k % 2 == 1) = true then Txt.upper (H k) else H k
noncomputable def otherV (H : Nat → Str) (k : Nat) : Str := if (k % 2 == 1) = true then "." ++ H 0 else Txt.upper (H k)
noncomputable def aboveV (H Hd : Nat → Str) (low high : Nat) : Str := if (decide (high > 0) && ((high + low) % 2 == 1)) = true then Hd high ++ "...." ++ H 0 else H high
noncomputable def askedV (H : Nat → Str) : List Str := ["# " ++ H 0, H 1, "# ...." ++ H 0, "# ...." ++ H 0, "# " ++ H 4 ++ "..." ++ H 4, "# ..." ++ H 5]
noncomputable def textsV (H : Nat → Str) : List Str := ["# " ++ H 0, "# " ++ H 1, "x" ++ ("# " ++ H 2), "# " ++ H 3 ++ "x", "# " ++ H 4, "# " ++ H 5]
noncomputable def dueV (U : Nat → List Nat) (low high : Nat) : Bool := ((U low).drop 1).any fun k => k == high

structure TB (W : Wd) (a : Nat → Addr) (H Hd Tl : Nat → Str) (U : Nat → List Nat) : Prop where
  lenH : ∀ k, k < 6 → (H k).length ≤ 100 ∧ (Txt.upper (H k)).length ≤ 100 ∧ (Hd k).length ≤ 10 ∧ (Tl k).length ≤ 10 ∧ (U k).length ≤ 10
  ok : ∀ k, k < 6 → PyData.strOk ("# " ++ H k) = true ∧ PyData.strOk ("#  " ++ H k) = true
  rem : ∀ k, k < 6 → FnC W (a 10) 1 [.str (H k ++ Tl k)] (.str ("# " ++ H k))
  tail : ∀ k, k < 6 → FnC W (a 10) 1 [.str (Tl k)] (.str "#")
  front : ∀ k, k < 6 → FnC W (a 10) 1 [.str (" " ++ H k)] (.str ("#  " ++ H k))
  below : ∀ low high, low < 6 → high < 6 → FnC W (a 5) 2 [.str (hostV H low), .str ("." ++ hostV H high)] (.bool (dueV U low high))
  ell : ∀ low high, low < 6 → high < 6 → FnC W (a 9) 1 [.str ("# ...." ++ aboveV H Hd low high), .str ("# " ++ H low)] (.bool (dueV U low high))
  first : ∀ low, low < 6 → FnC W (a 5) 2 [.str (hostV H low), .str (Txt.upper (H 0))] (.bool ((low : Int) == 0))
  numb : ∀ low, low < 6 → FnC W (a 5) 2 [.str (hostV H low ++ ".7"), .str (otherV H low ++ ".7")] (.bool (((low % 2 : Nat) : Int) == 0))
  ask : ∀ low, low < 6 → ∀ x y, (askedV H)[low]? = some x → (textsV H)[low]? = some y → FnC W (a 9) 1 [.str x, .str y] (.bool (((low % 5 : Nat) : Int) == 0))

section
variable {W : Wd} {a : Nat → Addr}
theorem c32 (G : Gl W a) {H Hd Tl : Nat → Str} {U : Nat → List Nat} (B : TB W a H Hd Tl U) :
    FnC W (a 32) 3 [.list (six fun k => .str (H k)), .list (six fun k => .str (Hd k)), .list (six fun k => .str (Tl k)), .list (six fun k => .list ((U k).map fun u => .int ((u : Nat) : Int)))] (.bool true) := by
  have l1 : (Str.ofString "# ").length = 2 := by decide +kernel
  have l2 : (Str.ofString "# ....").length = 6 := by decide +kernel
  have l3 : (Str.ofString "...").length = 3 := by decide +kernel
  have l4 : (Str.ofString "# ...").length = 5 := by decide +kernel
  have l5 : (Str.ofString "x").length = 1 := by decide +kernel
  have l6 : (Str.ofString ".").length = 1 := by decide +kernel
  have l7 : (Str.ofString "....").length = 4 := by decide +kernel
  have l8 : (Str.ofString ".7").length = 2 := by decide +kernel
  have l9 : (Str.ofString " ").length = 1 := by decide +kernel
  have la := Str.length_append
  have b0 := B.lenH 0 (by decide)
  have b1 := B.lenH 1 (by decide)
  have b2 := B.lenH 2 (by decide)
  have b3 := B.lenH 3 (by decide)
  have b4 := B.lenH 4 (by decide)
  have b5 := B.lenH 5 (by decide)
  have sa : ∀ {F : Fm} {ρ : Ro} {e1 e2 : Expr} {p : Pos} {x y : Str}, EvE W F ρ e1 (.str x) → EvE W F ρ e2 (.str y) → x.length + y.length ≤ 1000000 → EvE W F ρ (.BinOp e1 .Add e2 p) (.str (x ++ y)) := fun h1 h2 h3 => ev_bin h1 h2 (add_strs h3)
  have i6 : ∀ (f : Nat → D) (k : Nat), k < 6 → IdxAt (k : Int) (six f) (f k) := fun f k hk => six_idx f hk
  refine fn4 (G.fn 32 (by decide)) ok32 fun L cd A => ?_
  -- the remarks
  refine xb_n (xs_comp (by walk_at "sk") (ev_callT (ev_global rfl (gl_range G)) (el_cons ev_int el_nil) (by walk_at "ty")) (.range _ _) (fun u v e => by cases e; decide) (.inl rfl) (.inl rfl) rfl (fun _ => true) (fun d => match d with | .int k => .str ("# " ++ H k.toNat) | d => d) (by decide) (fun C d hd => ifs_nil) (fun C d hd _ => ?rem)) (by walk_at "nr") ?_
  case rem =>
    obtain ⟨k, hk, rfl⟩ := List.mem_map.mp hd
    have hk : k < 6 := List.mem_range.mp hk
    have hb := B.lenH k hk
    have e : (0 + (k : Int)).toNat = k := by omega
    show EvE _ _ _ _ (.str ("# " ++ H (0 + (k : Int)).toNat))
    rw [e]
    exact ev_call (ev_global rfl (gl_comment_line G)) (G.fn 10 (by decide)).isFn (el_cons (sa (ev_sub (ev_name rfl) (ev_name rfl) (item_list (six_idx0 (fun k => .str (H k)) hk))) (ev_sub (ev_name rfl) (ev_name rfl) (item_list (six_idx0 (fun k => .str (Tl k)) hk))) (by omega)) el_nil) (B.rem k hk) (of_decide_eq_true rfl)
  have eR : ((rangeDs 0 (6 - 0 : Int).toNat).filter fun _ => true).map (fun d => match d with | .int k => D.str ("# " ++ H k.toNat) | d => d) = six fun k => .str ("# " ++ H k) := by rfl
  rw [eR]
  have sxs : ∀ f : Nat → Str, (six fun k => .str (f k)) = ((List.range 6).map f).map .str := fun f => by unfold six; rw [List.map_map]; rfl
  have okS : ∀ f : Nat → Str, (∀ k, k < 6 → PyData.strOk (f k) = true) → okD (.list (six fun k => .str (f k))) = true := fun f h => by
    rw [sxs]
    exact okDs_str fun x hx => by
      obtain ⟨k, hk, rfl⟩ := List.mem_map.mp hx
      exact h k (List.mem_range.mp hk)
  have dS : ∀ f : Nat → Str, (pyD (.list (six fun k => .str (f k)))).depth ≤ 50 := fun f => by
    rw [sxs]
    show PyData.depthAll (pyDs _) + 1 ≤ 50
    rw [depth_str]; decide
  have okR := okS (fun k => "# " ++ H k) fun k hk => (B.ok k hk).1
  refine xb_ifSkip (et_eq (et_cmp (ev_name rfl) (ev_eq (d' := .list (six fun k => .str ("# " ++ H k))) (ev_comp (by walk_at "sk") (ev_name rfl) (.list _) (fun _ _ e => by cases e) (.inl rfl) rfl (fun _ => true) (fun d => match d with | .str x => .str ("# " ++ x) | d => d) (by rw [six_len]; decide) (fun C d hd => ifs_nil) (fun C d hd _ => ?rem2)) (by rfl)) (cmp_ne okR okR (Nat.le_trans (Nat.min_le_left _ _) (dS _)))) ?eq2) ?_
  case rem2 =>
    obtain ⟨k, hk, rfl⟩ := List.mem_map.mp hd
    have hb := B.lenH k (List.mem_range.mp hk)
    exact sa ev_str (ev_name rfl) (by omega)
  case eq2 =>
    rw [sxs, eqv_strs, decide_eq_true rfl]; rfl
  have iH : ∀ k : Nat, k < 6 → IdxAt (k : Int) (six fun k => .str (H k)) (.str (H k)) := fun k hk => six_idx _ hk
  have iR : ∀ k : Nat, k < 6 → IdxAt (k : Int) (six fun k => .str ("# " ++ H k)) (.str ("# " ++ H k)) := fun k hk => six_idx (fun k => .str ("# " ++ H k)) hk
  have iT : ∀ k : Nat, k < 6 → IdxAt (k : Int) (six fun k => .str (Tl k)) (.str (Tl k)) := fun k hk => six_idx _ hk
  have iD : ∀ k : Nat, k < 6 → IdxAt (k : Int) (six fun k => .str (Hd k)) (.str (Hd k)) := fun k hk => six_idx _ hk
  refine xb_n (xs_assign (d := .list ((askedV H).map .str)) (ev_list (el_cons (ev_sub (ev_name rfl) ev_int (item_list (iR 0 (by decide)))) (el_cons (ev_sub (ev_name rfl) ev_int (item_list (iH 1 (by decide)))) (el_cons (sa ev_str (ev_sub (ev_name rfl) ev_int (item_list (iH 0 (by decide)))) (by omega)) (el_cons (sa ev_str (ev_sub (ev_name rfl) ev_int (item_list (iH 0 (by decide)))) (by omega))
    (el_cons (sa (sa (ev_sub (ev_name rfl) ev_int (item_list (iR 4 (by decide)))) ev_str (by rw [la]; omega)) (ev_sub (ev_name rfl) ev_int (item_list (iH 4 (by decide)))) (by simp only [la]; omega)) (el_cons (sa ev_str (ev_sub (ev_name rfl) ev_int (item_list (iH 5 (by decide)))) (by omega)) el_nil)))))) (of_decide_eq_true rfl)) (.inl rfl)) (by walk_at "nr") ?_
  refine xb_n (xs_assign (d := .list ((textsV H).map .str)) (ev_list (el_cons (ev_sub (ev_name rfl) ev_int (item_list (iR 0 (by decide)))) (el_cons (ev_sub (ev_name rfl) ev_int (item_list (iR 1 (by decide)))) (el_cons (sa ev_str (ev_sub (ev_name rfl) ev_int (item_list (iR 2 (by decide)))) (by rw [la]; omega)) (el_cons (sa (ev_sub (ev_name rfl) ev_int (item_list (iR 3 (by decide)))) ev_str (by rw [la]; omega))
    (el_cons (ev_sub (ev_name rfl) ev_int (item_list (iR 4 (by decide)))) (el_cons (ev_sub (ev_name rfl) ev_int (item_list (iR 5 (by decide)))) el_nil)))))) (of_decide_eq_true rfl)) (.inl rfl)) (by walk_at "nr") ?_
  refine xb_cons (xs_for (ev_callT (ev_global rfl (gl_range G)) (el_cons ev_int el_nil) (by walk_at "ty")) (.range _ _) (fun u v e => by cases e; decide) (forl_fold (fun k : Nat => D.int (0 + (k : Int))) (fun _ : Unit => [("hosts", .sh (.list (six fun k => .str (H k)))), ("heads", .sh (.list (six fun k => .str (Hd k)))), ("tails", .sh (.list (six fun k => .str (Tl k)))), ("ups", .sh (.list (six fun k => .list ((U k).map fun u => .int ((u : Nat) : Int))))),
    ("remarks", .sh (.list (six fun k => .str ("# " ++ H k)))), ("asked", .sh (.list ((askedV H).map .str))), ("texts", .sh (.list ((textsV H).map .str)))]) (fun s _ => s) (fun _ ks => ∀ k ∈ ks, k < 6) (.inl rfl) ?_ (List.range 6) () (fun k hk => List.mem_range.mp hk))) ?_
  · rintro ⟨⟩ low ks hks
    have hlow := hks low List.mem_cons_self
    refine ⟨?_, fun x hx => hks x (List.mem_cons_of_mem _ hx)⟩
    rw [Int.zero_add]
    have hb := B.lenH low hlow
    have hf2 : (low : Int).fmod 2 = ((low % 2 : Nat) : Int) := fmodN low 2 (by decide)
    have hf5 : (low : Int).fmod 5 = ((low % 5 : Nat) : Int) := fmodN low 5 (by decide)
    have nb : ∀ a b : Nat, (((a : Nat) : Int) == ((b : Nat) : Int)) = (a == b) := fun a b => by
      rw [Bool.eq_iff_iff, beq_iff_eq, beq_iff_eq]; omega
    have tv : ∀ k, k < 6 → (hostV H k).length ≤ 100 := fun k hk => by
      unfold hostV
      have := B.lenH k hk
      split <;> omega
    have to : (otherV H low).length ≤ 101 := by
      unfold otherV
      split
      · rw [la]; omega
      · omega
    have pr : ∀ k : Nat, ((k : Int).fmod 2 == 1) = (k % 2 == 1) := fun k => by
      rw [show (k : Int).fmod 2 = ((k % 2 : Nat) : Int) from fmodN k 2 (by decide)]; exact nb (k % 2) 1
    refine xb_q (by walk_at "nr") ?_
    refine xb_n (xs_assign (d := .str (hostV H low)) (ev_iteS (et_eq (et_cmp (ev_bin (ev_name rfl) ev_int (by walk_at "op")) ev_int (by walk_at "cm")) (pr low)) (fun _ => ev_meth (ev_sub (ev_name rfl) (ev_name rfl) (item_list (iH low hlow))) ty_str PySem.F.plainAttrs_str PySem.F.slot_str_upper PySem.F.type_str_upper el_nil (m_upper (by omega))) (fun _ => ev_sub (ev_name rfl) (ev_name rfl) (item_list (iH low hlow)))) (.inl rfl)) (by walk_at "nr") ?_
    have hv := tv low hlow
    refine xb_cons (xs_for (ev_callT (ev_global rfl (gl_range G)) (el_cons ev_int el_nil) (by walk_at "ty")) (.range _ _) (fun u v e => by cases e; decide) (forl_fold (fun k : Nat => D.int (0 + (k : Int))) (fun _ : Unit => [("hosts", .sh (.list (six fun k => .str (H k)))), ("heads", .sh (.list (six fun k => .str (Hd k)))), ("tails", .sh (.list (six fun k => .str (Tl k)))), ("ups", .sh (.list (six fun k => .list ((U k).map fun u => .int ((u : Nat) : Int))))),
      ("remarks", .sh (.list (six fun k => .str ("# " ++ H k)))), ("asked", .sh (.list ((askedV H).map .str))), ("texts", .sh (.list ((textsV H).map .str))), ("low", .sh (.int (low : Int))), ("host", .sh (.str (hostV H low)))]) (fun s _ => s) (fun _ ks => ∀ k ∈ ks, k < 6) (.inl rfl) ?_ (List.range 6) () (fun k hk => List.mem_range.mp hk))) ?_
    · rintro ⟨⟩ high ks hks
      have hhigh := hks high List.mem_cons_self
      refine ⟨?_, fun x hx => hks x (List.mem_cons_of_mem _ hx)⟩
      rw [Int.zero_add]
      have hbh := B.lenH high hhigh
      have hvh := tv high hhigh
      refine xb_q (by walk_at "nr") ?_
      have okU : ∀ l : List Nat, okDs (l.map fun u => .int ((u : Nat) : Int)) = true := fun l => by
        have := okDs_int (l.map fun u : Nat => (u : Int))
        rw [List.map_map] at this; exact this
      have dpU : ∀ l : List Nat, PyData.depthAll (pyDs (l.map fun u => .int ((u : Nat) : Int))) = 0 := fun l => by
        have := depth_int (l.map fun u : Nat => (u : Int))
        rw [List.map_map] at this; exact this
      have iU : IdxAt (low : Int) (six fun k => .list ((U k).map fun u => .int ((u : Nat) : Int))) (.list ((U low).map fun u => .int ((u : Nat) : Int))) := six_idx (fun k => .list ((U k).map fun u => .int ((u : Nat) : Int))) hlow
      refine xb_n (xs_assign (d := .bool (dueV U low high)) (ev_eq (ev_cmp (ev_name rfl) (ev_slice_from (k := 1) (ev_sub (ev_name rfl) (ev_name rfl) (item_list iU)) ev_int (by rw [List.length_map]; omega)) (in_list rfl (by rw [← List.map_drop]; exact okU _) (by rw [← List.map_drop, dpU]; exact Nat.le_trans (Nat.min_le_left _ _) (by decide)))) ?due) (.inl rfl)) (by walk_at "nr") ?_
      case due =>
        rw [← List.map_drop]
        unfold dueV
        congr 1
        have e1 : pyDs (((U low).drop 1).map fun u => .int ((u : Nat) : Int)) = ((U low).drop 1).map fun u => PyData.int ((u : Nat) : Int) := by
          have := pyDs_int (((U low).drop 1).map fun u : Nat => (u : Int))
          rw [List.map_map, List.map_map] at this; exact this
        rw [e1, List.any_map]
        congr 1
        funext u
        exact nb u high
      refine xb_ifSkip (et_eq (et_cmp (ev_call (ev_global rfl (gl_user_domain_match G)) (G.fn 5 (by decide)).isFn (el_cons (ev_name rfl) (el_cons (sa ev_str (ev_iteS (et_eq (et_cmp (ev_bin (ev_name rfl) ev_int (by walk_at "op")) ev_int (by walk_at "cm")) (pr high)) (fun _ => ev_meth (ev_sub (ev_name rfl) (ev_name rfl) (item_list (iH high hhigh))) ty_str PySem.F.plainAttrs_str PySem.F.slot_str_upper PySem.F.type_str_upper el_nil (m_upper (by omega))) (fun _ => ev_sub (ev_name rfl) (ev_name rfl) (item_list (iH high hhigh)))) (by have := hvh; unfold hostV at this; omega)) el_nil)) (B.below low high hlow hhigh) (of_decide_eq_true rfl)) (ev_name rfl) isnot_bool) (bne_self_eq_false _)) ?_
      have hgt : decide ((high : Int) > 0) = decide (high > 0) := by
        rw [decide_eq_decide]; omega
      have hmod : (((high : Int) + (low : Int)).fmod 2 == 1) = ((high + low) % 2 == 1) := pr (high + low)
      have hab : (aboveV H Hd low high).length ≤ 300 := by
        unfold aboveV
        split
        · simp only [la]; omega
        · omega
      refine xb_n (xs_assign (d := .str (aboveV H Hd low high)) (ev_iteS (et_eq (et_bool (and_cons (et_cmp (ev_name rfl) ev_int (by walk_at "cm")) fun hb => (and_cons (et_cmp (ev_bin (ev_bin (ev_name rfl) (ev_name rfl) (by walk_at "op")) ev_int (by walk_at "op")) ev_int (by walk_at "cm")) fun hb => and_nil))) (by rw [hgt, hmod, Bool.and_true])) (fun _ => sa (sa (ev_sub (ev_name rfl) (ev_name rfl) (item_list (iD high hhigh))) ev_str (by omega)) (ev_sub (ev_name rfl) ev_int (item_list (iH 0 (by decide)))) (by simp only [la]; omega)) (fun _ => ev_sub (ev_name rfl) (ev_name rfl) (item_list (iH high hhigh)))) (.inl rfl)) (by walk_at "nr") ?_
      refine xb_ifSkip (et_eq (et_cmp (ev_call (ev_global rfl (gl_ellipsis_match G)) (G.fn 9 (by decide)).isFn (el_cons (sa ev_str (ev_name rfl) (by omega)) (el_cons (ev_sub (ev_name rfl) (ev_name rfl) (item_list (iR low hlow))) el_nil)) (B.ell low high hlow hhigh) (of_decide_eq_true rfl)) (ev_name rfl) isnot_bool) (bne_self_eq_false _)) ?_
      exact xb_end (has_c rfl (has_c rfl (has_c rfl (has_c rfl (has_c rfl (has_c rfl (has_c rfl (has_c rfl (has_c rfl has_nil)))))))))
    refine xb_ifSkip (et_eq (et_cmp (ev_call (ev_global rfl (gl_user_domain_match G)) (G.fn 5 (by decide)).isFn (el_cons (ev_name rfl) (el_cons (ev_meth (ev_sub (ev_name rfl) ev_int (item_list (iH 0 (by decide)))) ty_str PySem.F.plainAttrs_str PySem.F.slot_str_upper PySem.F.type_str_upper el_nil (m_upper (by omega))) el_nil)) (B.first low hlow) (of_decide_eq_true rfl)) (ev_cmp (ev_name rfl) ev_int (by walk_at "cm")) isnot_bool) (bne_self_eq_false _)) ?_
    refine xb_n (xs_assign (d := .str (otherV H low)) (ev_iteS (et_eq (et_cmp (ev_bin (ev_name rfl) ev_int (by walk_at "op")) ev_int (by walk_at "cm")) (pr low)) (fun _ => sa ev_str (ev_sub (ev_name rfl) ev_int (item_list (iH 0 (by decide)))) (by omega)) (fun _ => ev_meth (ev_sub (ev_name rfl) (ev_name rfl) (item_list (iH low hlow))) ty_str PySem.F.plainAttrs_str PySem.F.slot_str_upper PySem.F.type_str_upper el_nil (m_upper (by omega)))) (.inl rfl)) (by walk_at "nr") ?_
    refine xb_ifSkip (et_eq (et_cmp (ev_call (ev_global rfl (gl_user_domain_match G)) (G.fn 5 (by decide)).isFn (el_cons (sa (ev_name rfl) ev_str (by omega)) (el_cons (sa (ev_name rfl) ev_str (by omega)) el_nil)) (B.numb low hlow) (of_decide_eq_true rfl)) (ev_cmp (ev_bin (ev_name rfl) ev_int (by walk_at "op")) ev_int (by walk_at "cm")) isnot_bool) (by rw [hf2]; exact bne_self_eq_false _)) ?_
    have hla : low < (askedV H).length := hlow
    have hlt : low < (textsV H).length := hlow
    have ga : (askedV H)[low]? = some ((askedV H)[low]) := List.getElem?_eq_getElem hla
    have gt : (textsV H)[low]? = some ((textsV H)[low]) := List.getElem?_eq_getElem hlt
    have ia : IdxAt (low : Int) ((askedV H).map .str) (.str ((askedV H)[low])) := idxN (by rw [List.getElem?_map, ga]; rfl) (by show 6 ≤ 1000; decide)
    have it : IdxAt (low : Int) ((textsV H).map .str) (.str ((textsV H)[low])) := idxN (by rw [List.getElem?_map, gt]; rfl) (by show 6 ≤ 1000; decide)
    refine xb_ifSkip (et_eq (et_cmp (ev_call (ev_global rfl (gl_ellipsis_match G)) (G.fn 9 (by decide)).isFn (el_cons (ev_sub (ev_name rfl) (ev_name rfl) (item_list ia)) (el_cons (ev_sub (ev_name rfl) (ev_name rfl) (item_list it)) el_nil)) (B.ask low hlow _ _ ga gt) (of_decide_eq_true rfl)) (ev_cmp (ev_bin (ev_name rfl) ev_int (by walk_at "op")) ev_int (by walk_at "cm")) isnot_bool) (by rw [hf5]; exact bne_self_eq_false _)) ?_
    have l10 : (Str.ofString "#  ").length = 3 := by decide +kernel
    have o1 : PyData.strOk (Str.ofString "#") = true := by decide +kernel
    have okL : okD (.list [.str "#", .str ("#  " ++ H low)]) = true := by
      show (PyData.strOk (Str.ofString "#") && (PyData.strOk ("#  " ++ H low) && true)) = true
      rw [o1, (B.ok low hlow).2]; rfl
    refine xb_ifSkip (et_eq (et_cmp (ev_list (el_cons (ev_call (ev_global rfl (gl_comment_line G)) (G.fn 10 (by decide)).isFn (el_cons (ev_sub (ev_name rfl) (ev_name rfl) (item_list (iT low hlow))) el_nil) (B.tail low hlow) (of_decide_eq_true rfl)) (el_cons (ev_call (ev_global rfl (gl_comment_line G)) (G.fn 10 (by decide)).isFn (el_cons (sa ev_str (ev_sub (ev_name rfl) (ev_name rfl) (item_list (iH low hlow))) (by omega)) el_nil) (B.front low hlow) (of_decide_eq_true rfl)) el_nil)) (of_decide_eq_true rfl)) (ev_list (el_cons ev_str (el_cons (sa ev_str (ev_sub (ev_name rfl) (ev_name rfl) (item_list (iH low hlow))) (by omega)) el_nil)) (of_decide_eq_true rfl)) (cmp_ne okL okL (of_decide_eq_true rfl))) ?eq3) ?_
    case eq3 =>
      have := eqv_strs ["#", "#  " ++ H low] ["#", "#  " ++ H low]
      rw [decide_eq_true rfl] at this
      show (!PyData.eqv (pyD (.list ([Str.ofString "#", "#  " ++ H low].map .str))) (pyD (.list ([Str.ofString "#", "#  " ++ H low].map .str)))) = false
      rw [this]; rfl
    exact xb_end (has_c rfl (has_c rfl (has_c rfl (has_c rfl (has_c rfl (has_c rfl (has_c rfl has_nil)))))))
  · exact xb_ret (xs_return ev_bool)
end

end

section
set_option maxHeartbeats 16000000

noncomputable def nums (n : Nat) (f : Nat → Nat) : List D := (List.range n).map fun k => .int ((f k : Nat) : Int)
noncomputable def numsI (n : Nat) (f : Nat → Nat) : List Int := (List.range n).map fun k => ((f k : Nat) : Int)
theorem numsI_map (n : Nat) (f : Nat → Nat) : (numsI n f).map .int = nums n f := by unfold nums numsI; rw [List.map_map]; rfl
noncomputable def upto (n : Nat) (f : Nat → D) : List D := (List.range n).map f
theorem upto_snoc (n : Nat) (f : Nat → D) : upto n f ++ [f n] = upto (n + 1) f := by unfold upto; rw [List.range_succ, List.map_append]; rfl
theorem upto_len (n : Nat) (f : Nat → D) : (upto n f).length = n := by unfold upto; rw [List.length_map, List.length_range]
theorem upto_idx (f : Nat → D) {k n : Nat} (hk : k < n) (hn : n ≤ 100) : IdxAt (k : Int) (upto n f) (f k) := idxN (by unfold upto; rw [List.getElem?_map, List.getElem?_range hk]; rfl) (by rw [upto_len]; omega)
noncomputable def sufs : List Str := ["", "&", "<", ">", "\"", "\t", "&\r", "\n>"]
noncomputable def tls : List Str := ["", " ", "\t "]
noncomputable def roots : List Str := ["local", "y.net", "y.xlocal"]

/-- the plain side of the law: what its values are -/
structure LP (is : List Int) (shp lab fig : Nat → Nat) (H Hd Tl : Nat → Str) (U : Nat → List Nat) : Prop where
  len : is.length ≤ 63
  shape : figsF ((cellsF is).getD 0 0) [3, 1, 2, 3, 4, 5, 5, 4] = numsI 8 shp
  label : figsF ((cellsF is).getD 1 0) [24, 24, 24, 24, 24, 24] = numsI 6 lab
  figure : figsF ((cellsF is).getD 2 0) [72, 72, 72, 72, 72, 72] = numsI 6 fig
  s0 : shp 0 < 3
  s6 : shp 6 < 5
  s7 : shp 7 < 4
  up : ∀ k, 1 ≤ k → k < 6 → shp k < k
  lab24 : ∀ k, k < 6 → lab k < 24
  fig72 : ∀ k, k < 6 → fig k < 72
  H0 : roots[shp 0]? = some (H 0)
  Hd0 : Hd 0 = ""
  Hdk : ∀ k, 1 ≤ k → k < 6 → ∃ u, sufs[lab k % 8]? = some u ∧ Hd k = Txt.item "bcdef" ((k - 1 : Nat) : Int) ++ u
  Hk : ∀ k, 1 ≤ k → k < 6 → H k = Hd k ++ "." ++ H (shp k)
  Tlk : ∀ k, k < 6 → tls[lab k / 8]? = some (Tl k)
  U0 : U 0 = [0]
  Uk : ∀ k, 1 ≤ k → k < 6 → U k = k :: U (shp k)
  lenH : ∀ k, k < 6 → (H k).length ≤ 100
  lenHd : ∀ k, k < 6 → (Hd k).length ≤ 10
  lenU : ∀ k, k < 6 → (U k).length ≤ 10

noncomputable def idxOf (H : Nat → Str) (x : Str) : Nat := ((List.range 6).find? fun i => H i == x).getD 0
theorem idxOf_H {H : Nat → Str} (inj : ∀ i j, i < 6 → j < 6 → H i = H j → i = j) {k : Nat} (hk : k < 6) : idxOf H (H k) = k := by
  unfold idxOf
  cases h : (List.range 6).find? fun i => H i == H k with
  | none =>
    have := List.find?_eq_none.mp h k (List.mem_range.mpr hk)
    exact absurd (beq_self_eq_true (H k)) this
  | some j =>
    have h1 := List.find?_some h
    have h2 := List.mem_range.mp (List.mem_of_find?_eq_some h)
    exact inj j k h2 hk (eq_of_beq h1)
theorem six_congr {f g : Nat → D} (h : ∀ k, k < 6 → f k = g k) : six f = six g := List.map_congr_left fun k hk => h k (List.mem_range.mp hk)
theorem six_map (f : Nat → D) (g : D → D) : ((six f).filter fun _ => true).map g = six fun k => g (f k) := by
  rw [List.filter_eq_self.mpr (fun _ _ => rfl)]
  unfold six
  rw [List.map_map]; rfl
noncomputable def hl (H : Nat → Str) (l : List Nat) : D := .list (l.map fun u => .str (H u))
noncomputable def nl (l : List Nat) : D := .list (l.map fun u => .int ((u : Nat) : Int))
theorem hl_eq (H : Nat → Str) (l : List Nat) : hl H l = .list ((l.map H).map .str) := by unfold hl; rw [List.map_map]; rfl
theorem eqv_refl_strs (l : List Str) : PyData.eqv (pyD (.list (l.map .str))) (pyD (.list (l.map .str))) = true := by rw [eqv_strs, decide_eq_true rfl]
theorem eqvAll_refl : ∀ l : List (List Str), PyData.eqvAll (pyDs (l.map fun x => D.list (x.map .str))) (pyDs (l.map fun x => D.list (x.map .str))) = true
  | [] => rfl
  | x :: l => by
    show (PyData.eqv (pyD (.list (x.map .str))) (pyD (.list (x.map .str))) && PyData.eqvAll (pyDs (l.map fun x => D.list (x.map .str))) (pyDs (l.map fun x => D.list (x.map .str)))) = true
    rw [eqv_refl_strs, eqvAll_refl l]; rfl
theorem okDs_lists : ∀ {l : List (List Str)}, (∀ x ∈ l, ∀ y ∈ x, PyData.strOk y = true) → okDs (l.map fun x => D.list (x.map .str)) = true
  | [], _ => rfl
  | x :: l, h => by
    show (okDs (x.map .str) && okDs (l.map fun x => D.list (x.map .str))) = true
    rw [okDs_str (h x List.mem_cons_self), okDs_lists fun y hy => h y (List.mem_cons_of_mem _ hy)]; rfl
theorem depth_lists : ∀ l : List (List Str), PyData.depthAll (pyDs (l.map fun x => D.list (x.map .str))) ≤ 1
  | [] => by decide
  | x :: l => by
    show max (PyData.depthAll (pyDs (x.map .str)) + 1) (PyData.depthAll (pyDs (l.map fun x => D.list (x.map .str)))) ≤ 1
    rw [depth_str]
    exact Nat.max_le.mpr ⟨by decide, depth_lists l⟩

theorem nsum_cast (l : List Nat) : (l.map fun x => ((x : Nat) : Int)).sum = ((l.sum : Nat) : Int) := by
  induction l with
  | nil => rfl
  | cons x l ih => rw [List.map_cons, List.sum_cons, List.sum_cons, ih]; omega
theorem rangeDs_nat (a n : Nat) : rangeDs (a : Int) n = (List.range' a n).map fun k => D.int ((k : Nat) : Int) := by
  unfold rangeDs
  rw [List.range'_eq_map_range, List.map_map]
  exact List.map_congr_left fun k _ => by show D.int _ = D.int _; congr 1
theorem filter_nums (l : List Nat) (q : Nat → Bool) (g : Nat → Int) : (((l.map fun k => D.int ((k : Nat) : Int)).filter fun d => match d with | .int i => q i.toNat | _ => false).map fun d => match d with | .int i => D.int (g i.toNat) | d => d) = (((l.filter q).map g).map .int) := by
  induction l with
  | nil => rfl
  | cons k l ih =>
    rw [List.map_cons, List.filter_cons, List.filter_cons]
    have : (match D.int ((k : Nat) : Int) with | .int i => q i.toNat | _ => false) = q k := rfl
    rw [this]
    cases q k with
    | false => exact ih
    | true => rw [if_pos rfl, if_pos rfl, List.map_cons, List.map_cons, List.map_cons, ih]; rfl
noncomputable def NM (w : Nat) : List Nat := List.replicate (w / 2) 34 ++ (if w % 2 = 0 then [122] else [])
theorem all31 {p : Nat → Bool} (h : ((List.range 31).all p) = true) {w : Nat} (hw : w < 31) : p w = true := List.all_eq_true.mp h w (List.mem_range.mpr hw)
theorem mul34 {w : Nat} (hw : w < 31) : Txt.mul "\"" (w : Int) = S (List.replicate w 34) :=
  of_decide_eq_true (all31 (p := fun w => decide (Txt.mul "\"" (w : Int) = S (List.replicate w 34))) (by decide +kernel) hw)
theorem cnt34 {w : Nat} (hw : w < 31) : Txt.count (S (NM w)) "\"" = ((w / 2 : Nat) : Int) :=
  of_decide_eq_true (all31 (p := fun w => decide (Txt.count (S (NM w)) "\"" = ((w / 2 : Nat) : Int))) (by decide +kernel) hw)
theorem nmR {w : Nat} (hw : w < 31) : Txt.mul "\"" ((w / 2 : Nat) : Int) ++ (["z", ""] : List Str).getD (w % 2) "" = S (NM w) :=
  of_decide_eq_true (all31 (p := fun w => decide (Txt.mul "\"" ((w / 2 : Nat) : Int) ++ (["z", ""] : List Str).getD (w % 2) "" = S (NM w))) (by decide +kernel) hw)
theorem yes257 {w : Nat} (hw : w < 31) : ("257 \"" : Str) ++ Txt.mul "\"" (w : Int) ++ "z" = S ([50, 53, 55, 32, 34] ++ (List.replicate w 34 ++ [122])) :=
  of_decide_eq_true (all31 (p := fun w => decide (("257 \"" : Str) ++ Txt.mul "\"" (w : Int) ++ "z" = S ([50, 53, 55, 32, 34] ++ (List.replicate w 34 ++ [122])))) (by decide +kernel) hw)
noncomputable def no257 (h : Str) (w : Nat) : Bool := decide ((h ++ Txt.mul "\"" (w : Int) ++ "z").length ≤ 1000) && decide (Txt.slice (h ++ Txt.mul "\"" (w : Int) ++ "z") none (some 3) = "257") && decide ((Txt.slice (h ++ Txt.mul "\"" (w : Int) ++ "z") (some 3) (some 5)).cps.toList ≠ (Str.ofString " \"").cps.toList)
theorem no1 {w : Nat} (hw : w < 31) : no257 "257-\"" w = true := all31 (p := no257 "257-\"") (by decide +kernel) hw
theorem no2 {w : Nat} (hw : w < 31) : no257 "257 z\"" w = true := all31 (p := no257 "257 z\"") (by decide +kernel) hw
theorem c16_of {W : Wd} {a : Nat → Addr} (G : Gl W a) {h : Str} {w : Nat} (hn : no257 h w = true) : FnC W (a 16) 1 [.str (h ++ Txt.mul "\"" (w : Int) ++ "z")] (.str "") := by
  unfold no257 at hn
  simp only [Bool.and_eq_true, decide_eq_true_eq] at hn
  exact c16_no G hn.1.1 hn.1.2 hn.2
noncomputable def p257 (w : Nat) (x : Str) : Str := if x = "257 \"" then S (NM w) else ""

noncomputable def unF (U : Nat → List Nat) (w : Nat → Nat) (k : Nat) : Nat := (((List.range 6).filter fun low => (U low).any fun u => u == k).map w).sum
noncomputable def whF (w : Nat → Nat) : Nat := ((List.range 6).map w).sum

noncomputable def maxI : List Int → Int
  | [] => 0
  | x :: l => l.foldl max x
theorem maxI_ok : ∀ (x : Int) (l : List Int), maxI (x :: l) ∈ x :: l ∧ ∀ y ∈ x :: l, y ≤ maxI (x :: l) := by
  intro x l
  show l.foldl max x ∈ x :: l ∧ ∀ y ∈ x :: l, y ≤ l.foldl max x
  induction l generalizing x with
  | nil => exact ⟨List.mem_cons_self, fun y hy => by rw [List.mem_singleton.mp hy]; exact Int.le_refl _⟩
  | cons z l ih =>
    obtain ⟨h1, h2⟩ := ih (max x z)
    rw [List.foldl_cons]
    refine ⟨?_, fun y hy => ?_⟩
    · rcases List.mem_cons.mp h1 with h | h
      · rw [h]
        rcases Int.le_total x z with q | q
        · rw [Int.max_eq_right q]; exact List.mem_cons_of_mem _ List.mem_cons_self
        · rw [Int.max_eq_left q]; exact List.mem_cons_self
      · exact List.mem_cons_of_mem _ (List.mem_cons_of_mem _ h)
    · have h3 := h2 _ List.mem_cons_self
      rcases List.mem_cons.mp hy with rfl | hy
      · exact Int.le_trans (Int.le_max_left _ _) h3
      · rcases List.mem_cons.mp hy with rfl | hy
        · exact Int.le_trans (Int.le_max_right _ _) h3
        · exact h2 y (List.mem_cons_of_mem _ hy)
noncomputable def sidesI (U : Nat → List Nat) (shp w : Nat → Nat) (k : Nat) : List Int := (((whF w : Nat) : Int) - ((unF U w k : Nat) : Int)) :: (((List.range' 1 5).filter fun low => shp low == k).map fun low => ((unF U w low : Nat) : Int))
noncomputable def midF (U : Nat → List Nat) (shp w : Nat → Nat) (k : Nat) : Bool := decide (maxI (sidesI U shp w k) ≤ ((whF w / 2 : Nat) : Int))
theorem okU (l : List Nat) : okDs (l.map fun u => .int ((u : Nat) : Int)) = true := by
  have := okDs_int (l.map fun u : Nat => (u : Int))
  rw [List.map_map] at this; exact this
theorem dpU (l : List Nat) : PyData.depthAll (pyDs (l.map fun u => .int ((u : Nat) : Int))) = 0 := by
  have := depth_int (l.map fun u : Nat => (u : Int))
  rw [List.map_map] at this; exact this
theorem anyU (l : List Nat) (k : Nat) : ((pyDs (l.map fun u => .int ((u : Nat) : Int))).any fun y => PyData.eqv y (pyD (.int ((k : Nat) : Int)))) = l.any fun u => u == k := by
  have e1 : pyDs (l.map fun u => .int ((u : Nat) : Int)) = l.map fun u => PyData.int ((u : Nat) : Int) := by
    have := pyDs_int (l.map fun u : Nat => (u : Int))
    rw [List.map_map, List.map_map] at this; exact this
  rw [e1, List.any_map]
  congr 1
  funext u
  show (((u : Nat) : Int) == ((k : Nat) : Int)) = (u == k)
  rw [Bool.eq_iff_iff, beq_iff_eq, beq_iff_eq]; omega

section
variable {W : Wd} {F : Fm} {ρ : Ro} {d : D} {ds outs : List D} {x y : Str} {p np pos spos : Pos} {iter elt : Expr} {ifs : List Expr} {scope : Scope}
theorem xs_compE (ok : ScopeOk F scope) (hi : EvE W F ρ iter d) (hd : Iter d ds) (hr : ∀ a b, d = .range a b → Builtin.Range.small a b 1 = true) (hy : CanStore F y) (hx : scope.names.lookup x = some .local ∨ scope.names.lookup x = some .cell) (hxρ : (capt ρ scope.names).lookup x = none)
    (q : D → Bool) (f : D → D) (hn : ds.length ≤ 1000)
    (h1 : ∀ C, ∀ d ∈ ds, EvIfs W (compFm F scope C) (rset (capt ρ scope.names) x (.sh d)) ifs (q d))
    (h2 : ∀ C, ∀ d ∈ ds, q d = true → EvE W (compFm F scope C) (rset (capt ρ scope.names) x (.sh d)) elt (f d)) (he : (ds.filter q).map f = outs)
    (hsw : swapsWith (.ListComp elt [⟨.Name x p, iter, ifs, 0⟩] scope pos) (some (.Name y np)) spos.line F.env = pure true := by rfl)
    (hs : ∀ x, foldedSetIterable iter F.env x = pure x := by intro _; rfl) : ExS W F ρ (.Assign [.Name y np] (.ListComp elt [⟨.Name x p, iter, ifs, 0⟩] scope pos) spos) (.next (rset ρ y (.sh (.list outs)))) :=
  he ▸ xs_comp ok hi hd hr hy hx hxρ q f hn h1 h2 hsw hs
end

structure LQ (W : Wd) (a : Nat → Addr) (H Hd Tl : Nat → Str) (U : Nat → List Nat) (bt : Nat → Nat → List Nat) : Prop where
  inj : ∀ i j, i < 6 → j < 6 → H i = H j → i = j
  lad : ∀ k, k < 6 → FnC W (a 31) 3 [.str (H k)] (hl H (U k))
  okH : ∀ k, k < 6 → PyData.strOk (H k) = true
  Ulow : ∀ k, k < 6 → ∀ u ∈ U k, u < 6
  below : TB W a H Hd Tl U
  bet : ∀ one two, one < 6 → two < one → FnC W (a 33) 1 [hl H (U one), hl H (U two)] (.str (S (bt one two)))

theorem mem_range0 {n : Nat} {d : D} (h : d ∈ rangeDs 0 (((n : Nat) : Int) - 0).toNat) : ∃ k, k < n ∧ d = .int ((k : Nat) : Int) := by
  obtain ⟨k, hk, rfl⟩ := List.mem_map.mp h
  have := List.mem_range.mp hk
  exact ⟨k, by omega, by rw [Int.zero_add]⟩
theorem range_map (n : Nat) (g : Nat → D) (f : D → D) (hf : ∀ k : Nat, k < n → f (.int ((k : Nat) : Int)) = g k) : ((rangeDs 0 (((n : Nat) : Int) - 0).toNat).filter fun _ => true).map f = upto n g := by
  rw [List.filter_eq_self.mpr (fun _ _ => rfl)]
  unfold rangeDs upto
  rw [List.map_map, show (((n : Nat) : Int) - 0).toNat = n by omega]
  refine List.map_congr_left fun k hk => ?_
  rw [← hf k (List.mem_range.mp hk)]
  show f (.int (0 + (k : Int))) = _
  rw [Int.zero_add]
theorem mulOk {a : Int} {b : Int} (h0 : 0 ≤ a) (h1 : a ≤ 1000000) : IntMulOk a b := by
  refine .of_left ?_
  unfold Builtin.Int.intBits
  split
  · decide
  · rename_i h
    have hne : a.natAbs ≠ 0 := by
      intro e
      exact h (by simpa using e)
    have : a.natAbs < 2 ^ 20 := by omega
    have := (Nat.log2_lt hne).mpr this
    omega

noncomputable def wyF (HF : Nat → Str → Str) (bt : Nat → Nat → List Nat) (n one two : Nat) : Nat := (HF n (S (bt one two))).length
noncomputable def spF (WF : Nat → Str → Str) (Hd : Nat → Str) (n k : Nat) : Nat := (WF n (Hd k)).length + 1
noncomputable def smF (HF : Nat → Str → Str) (bt : Nat → Nat → List Nat) (w : Nat → Nat) (n one : Nat) : Nat := (((List.range 6).filter fun two => two != one).map fun two => w two * wyF HF bt n (max one two) (min one two)).sum
noncomputable def prF (HF : Nat → Str → Str) (bt : Nat → Nat → List Nat) (w : Nat → Nat) (n : Nat) : Nat := ((List.range 6).flatMap fun one => (List.range one).map fun two => w one * w two * wyF HF bt n one two).sum
noncomputable def wnF (WF : Nat → Str → Str) (Hd : Nat → Str) (U : Nat → List Nat) (w : Nat → Nat) (n : Nat) : Nat := ((List.range' 1 5).map fun k => spF WF Hd n k * unF U w k * (whF w - unF U w k)).sum

/-- the plain side of the law's sums -/
structure LR (W : Wd) (a : Nat → Addr) (shp w : Nat → Nat) (H Hd : Nat → Str) (U : Nat → List Nat) (bt : Nat → Nat → List Nat) (HF WF : Nat → Str → Str) : Prop where
  btl : ∀ one two, one < 6 → two < one → (bt one two).length ≤ 500
  hand : ∀ n, n < 5 → ∀ x : Str, x.length ≤ 1000 → FnC W (a (19 + n)) 1 [.str x] (.str (HF n x))
  hlen : ∀ n, n < 5 → ∀ x : Str, x.length ≤ 1000 → (HF n x).length ≤ 10000
  writ : ∀ n kv, kvs[n]? = some kv → ∀ x : Str, x.length ≤ 300 → FnC W (a 29) 1 [.dict kv, .str x] (.str (WF n x))
  wlen : ∀ n, n < 5 → ∀ x : Str, x.length ≤ 300 → (WF n x).length ≤ 3000
  w3 : ∀ n, n < 5 → ∀ k, k < 6 → HF n (H k) = WF n (H k)
  okW : ∀ n, n < 5 → ∀ k, k < 6 → PyData.strOk (WF n (H k)) = true
  w5 : ∀ k, w k ≤ 5
  unle : ∀ k, k < 6 → unF U w k ≤ whF w
  w1 : ∀ n, n < 5 → prF HF bt w n = wnF WF Hd U w n
  w2 : ∀ n, n < 5 → ∃ mn, (∃ k, k < 6 ∧ smF HF bt w n k = mn) ∧ (∀ k, k < 6 → mn ≤ smF HF bt w n k) ∧ (List.range 6).filter (fun k => smF HF bt w n k == mn) = (List.range 6).filter (midF U shp w)

end

section
set_option maxHeartbeats 16000000

theorem upto_map (n : Nat) (f : Nat → D) (g : D → D) : ((upto n f).filter fun _ => true).map g = upto n fun k => g (f k) := by
  rw [List.filter_eq_self.mpr (fun _ _ => rfl)]
  unfold upto
  rw [List.map_map]; rfl
theorem six_of (f : Nat → D) : six f = upto 6 f := rfl
section
variable {W : Wd} {a : Nat → Addr}
theorem law_walk (G : Gl W a) {is : List Int} {shp lab fig : Nat → Nat} {H Hd Tl : Nat → Str} {U : Nat → List Nat} {bt : Nat → Nat → List Nat} {HF WF : Nat → Str → Str} (P : LP is shp lab fig H Hd Tl U) (Q : LQ W a H Hd Tl U bt) (R : LR W a shp (fun k => fig k % 6) H Hd U bt HF WF) (f : Addr) (hf : FnK W 34 f) : FnC W f 4 [.list (is.map .int)] (.bool true) := by
  have la := Str.length_append
  have sa : ∀ {F : Fm} {ρ : Ro} {e1 e2 : Expr} {p : Pos} {x y : Str}, EvE W F ρ e1 (.str x) → EvE W F ρ e2 (.str y) → x.length + y.length ≤ 1000000 → EvE W F ρ (.BinOp e1 .Add e2 p) (.str (x ++ y)) := fun h1 h2 h3 => ev_bin h1 h2 (add_strs h3)
  have iC : ∀ k : Nat, k < 3 → IdxAt (k : Int) ((cellsF is).map .int) (.int ((cellsF is).getD k 0)) := fun k hk => idxN (by
    rw [List.getElem?_map, List.getD_eq_getElem?_getD, List.getElem?_eq_getElem (by rw [cellsF_len]; exact hk)]; rfl) (by rw [List.length_map, cellsF_len]; decide)
  have iI : ∀ (n : Nat) (g : Nat → Nat) (k : Nat), k < n → n ≤ 100 → IdxAt (k : Int) (nums n g) (.int ((g k : Nat) : Int)) := fun n g k hk hn => idxN (by unfold nums; rw [List.getElem?_map, List.getElem?_range hk]; rfl) (by unfold nums; rw [List.length_map, List.length_range]; omega)
  have sxs : ∀ f : Nat → Str, (six fun k => .str (f k)) = ((List.range 6).map f).map .str := fun f => by unfold six; rw [List.map_map]; rfl
  have okS : ∀ f : Nat → Str, (∀ k, k < 6 → PyData.strOk (f k) = true) → okD (.list (six fun k => .str (f k))) = true := fun f h => by
    rw [sxs]
    exact okDs_str fun x hx => by
      obtain ⟨k, hk, rfl⟩ := List.mem_map.mp hx
      exact h k (List.mem_range.mp hk)
  have dS : ∀ f : Nat → Str, (pyD (.list (six fun k => .str (f k)))).depth ≤ 50 := fun f => by
    rw [sxs]
    show PyData.depthAll (pyDs _) + 1 ≤ 50
    rw [depth_str]; decide
  refine fn1 hf ok34 fun L cd A => ?_
  refine xb_n (xs_assign (ev_call (ev_global rfl (gl_law_cells G)) (G.fn 25 (by decide)).isFn (el_cons (ev_name rfl) el_nil) (c25 G (by have := P.len; omega)) (of_decide_eq_true rfl)) (.inl rfl)) (by walk_at "nr") ?_
  refine xb_n (xs_assign (d := .list (nums 8 shp)) (ev_call (ev_global rfl (gl_law_figures G)) (G.fn 26 (by decide)).isFn (el_cons (ev_sub (ev_name rfl) ev_int (item_list (iC 0 (by decide)))) (el_cons (ev_list (el_cons ev_int (el_cons ev_int (el_cons ev_int (el_cons ev_int (el_cons ev_int (el_cons ev_int (el_cons ev_int (el_cons ev_int el_nil)))))))) (by walk_at "sb")) el_nil)) (by have q := c26 (bs := [3, 1, 2, 3, 4, 5, 5, 4]) (c := (cellsF is).getD 0 0) G (by decide) (by decide); rw [P.shape, numsI_map] at q; exact q) (of_decide_eq_true rfl)) (can_fn (.inr rfl))) (by walk_at "nr") ?_
  refine xb_n (xs_assign (d := .list (nums 6 lab)) (ev_call (ev_global rfl (gl_law_figures G)) (G.fn 26 (by decide)).isFn (el_cons (ev_sub (ev_name rfl) ev_int (item_list (iC 1 (by decide)))) (el_cons (ev_listmul (el_cons ev_int el_nil) (by walk_at "sb") (by walk_at "sb") (by walk_at "sb")) el_nil)) (by have q := c26 (bs := [24, 24, 24, 24, 24, 24]) (c := (cellsF is).getD 1 0) G (by decide) (by decide); rw [P.label, numsI_map] at q; exact q) (of_decide_eq_true rfl)) (.inl rfl)) (by walk_at "nr") ?_
  refine xb_n (xs_assign (ev_comp (d := .list (nums 6 fig)) (by walk_at "sk") (ev_call (ev_global rfl (gl_law_figures G)) (G.fn 26 (by decide)).isFn (el_cons (ev_sub (ev_name rfl) ev_int (item_list (iC 2 (by decide)))) (el_cons (ev_listmul (el_cons ev_int el_nil) (by walk_at "sb") (by walk_at "sb") (by walk_at "sb")) el_nil)) (by have q := c26 (bs := [72, 72, 72, 72, 72, 72]) (c := (cellsF is).getD 2 0) G (by decide) (by decide); rw [P.figure, numsI_map] at q; exact q) (of_decide_eq_true rfl)) (.list _) (fun _ _ e => by cases e) (.inl rfl) rfl (fun _ => true) (fun d => match d with | .int i => .int ((i.toNat % 6 : Nat) : Int) | d => d) (of_decide_eq_true rfl) (fun C d hd => ifs_nil) (fun C d hd _ => ?w)) (can_fn (.inr rfl))) (by walk_at "nr") ?_
  case w =>
    obtain ⟨k, hk, rfl⟩ := List.mem_map.mp hd
    have := P.fig72 k (List.mem_range.mp hk)
    exact ev_call (ev_global rfl (gl_law_port G)) (G.fn 30 (by decide)).isFn (el_cons (ev_name rfl) el_nil) (c30 G this) (of_decide_eq_true rfl)
  have eW : ((nums 6 fig).filter fun _ => true).map (fun d => match d with | .int i => D.int ((i.toNat % 6 : Nat) : Int) | d => d) = nums 6 fun k => fig k % 6 := by rfl
  rw [eW]
  have iR : IdxAt ((shp 0 : Nat) : Int) (roots.map .str) (.str (H 0)) := idxN (by rw [List.getElem?_map, P.H0]; rfl) (by decide)
  refine xb_n (xs_assignF (ef_list (ds := [.str (H 0)]) (el_cons (ev_sub (d1 := .list (roots.map .str)) (ev_list (el_cons ev_str (el_cons ev_str (el_cons ev_str el_nil))) (by walk_at "sb")) (ev_sub (ev_name rfl) ev_int (item_list (iI 8 shp 0 (by decide) (by decide)))) (item_list iR)) el_nil) (of_decide_eq_true rfl)) (can_fn (.inr rfl))) (by walk_at "nr") ?_
  refine xb_n (xs_assignF (ef_list (ds := [.str (Hd 0)]) (el_cons (ev_eq ev_str (by rw [P.Hd0])) el_nil) (of_decide_eq_true rfl)) (.inl rfl)) (by walk_at "nr") ?_
  refine xb_n (xs_assignF (ef_list (ds := [.list ((U 0).map fun u => .int ((u : Nat) : Int))]) (el_cons (ev_eq (ev_list (el_cons ev_int el_nil) (by walk_at "sb")) (by rw [P.U0]; rfl)) el_nil) (of_decide_eq_true rfl)) (can_fn (.inr rfl))) (by walk_at "nr") ?_
  -- the hosts
  refine xb_cons (xs_for (ev_callT (ev_global rfl (gl_range G)) (el_cons ev_int (el_cons ev_int el_nil)) range2') (.range _ _) (fun u v e => by cases e; decide) (forl_inv (can_fn (.inr rfl)) _ (fun j => [("script", .sh (.list (is.map .int))), ("cells", .sh (.list ((cellsF is).map .int))), ("shape", .sh (.list (nums 8 shp))), ("labels", .sh (.list (nums 6 lab))), ("weights", .sh (.list (nums 6 fun k => fig k % 6))),
    ("hosts", .ow true (upto (j + 1) fun i => .str (H i))), ("heads", .ow true (upto (j + 1) fun i => .str (Hd i))), ("ups", .ow true (upto (j + 1) fun i => .list ((U i).map fun u => .int ((u : Nat) : Int))))]) ?loop)) ?_
  case loop =>
    intro j d hd
    have hj : j < 5 := by
      rcases Nat.lt_or_ge j 5 with h | h
      · exact h
      · rw [List.getElem?_eq_none (by show (rangeDs 1 5).length ≤ j; exact h)] at hd; cases hd
    have hd' : d = .int (((j + 1 : Nat)) : Int) := by
      have : (rangeDs 1 5)[j]? = some d := hd
      unfold rangeDs at this
      rw [List.getElem?_map, List.getElem?_range hj] at this
      simp only [Option.map_some, Option.some.injEq] at this
      rw [← this]
      congr 1
      omega
    subst hd'
    obtain ⟨u, hu, hHd⟩ := P.Hdk (j + 1) (by omega) (by omega)
    have hb : (Txt.charAt "bcdef" ((j + 1 - 1 : Nat) : Int)).isSome = true := by
      have h : ∀ j, j < 5 → (Txt.charAt "bcdef" ((j + 1 - 1 : Nat) : Int)).isSome = true := by decide +kernel
      exact h j hj
    have hff : fitsSsize ((j + 1 - 1 : Nat) : Int) = true := by
      unfold fitsSsize; rw [decide_eq_false (by omega), decide_eq_false (by omega)]; rfl
    have lH := P.lenH (j + 1) (by omega)
    have lHd := P.lenHd (j + 1) (by omega)
    have hup := P.up (j + 1) (by omega) (by omega)
    have lHp := P.lenH (shp (j + 1)) (by omega)
    have lUp := P.lenU (shp (j + 1)) (by omega)
    have l1 : (Str.ofString ".").length = 1 := by decide +kernel
    have hl8 : ((lab (j + 1) : Nat) : Int).fmod 8 = ((lab (j + 1) % 8 : Nat) : Int) := fmodN _ 8 (by decide)
    have iS : IdxAt ((lab (j + 1) % 8 : Nat) : Int) (sufs.map .str) (.str u) := idxN (by rw [List.getElem?_map, hu]; rfl) (by decide)
    refine xb_q (by walk_at "nr") ?_
    refine xb_n (xs_append (d := .str (Hd (j + 1))) rfl (ev_eq (sa (ev_sub ev_str (ev_eq (d' := .int ((j + 1 - 1 : Nat) : Int)) (ev_bin (ev_name rfl) ev_int (by walk_at "op")) (by congr 1; omega)) (item_str hff hb)) (ev_sub (d1 := .list (sufs.map .str)) (ev_list (el_cons ev_str (el_cons ev_str (el_cons ev_str (el_cons ev_str (el_cons ev_str (el_cons ev_str (el_cons ev_str (el_cons ev_str el_nil)))))))) (by walk_at "sb")) (ev_eq (ev_bin (ev_sub (ev_name rfl) (ev_name rfl) (item_list (iI 6 lab (j + 1) (by omega) (by decide)))) ev_int (mod_ints (by decide))) (by rw [hl8])) (item_list iS)) (by rw [hHd, la] at lHd; omega)) (by rw [hHd])) (by rw [upto_len]; omega)) (by walk_at "nr") ?_
    rw [upto_snoc (j + 1) fun i => .str (Hd i)]
    refine xb_n (xs_append (d := .str (H (j + 1))) rfl (ev_eq (sa (sa (ev_subow rfl (ev_name rfl) (upto_idx (fun i => .str (Hd i)) (k := j + 1) (n := j + 1 + 1) (by omega) (by omega))) ev_str (by omega)) (ev_subow rfl (ev_sub (ev_name rfl) (ev_name rfl) (item_list (iI 8 shp (j + 1) (by omega) (by decide)))) (upto_idx (fun i => .str (H i)) (k := shp (j + 1)) (n := j + 1) (by omega) (by omega))) (by rw [la]; omega)) (by rw [P.Hk (j + 1) (by omega) (by omega)])) (by rw [upto_len]; omega)) (by walk_at "nr") ?_
    rw [upto_snoc (j + 1) fun i => .str (H i)]
    refine xb_n (xs_append (d := .list ((U (j + 1)).map fun u => .int ((u : Nat) : Int))) rfl (ev_eq (ev_bin (ev_list (el_cons (ev_name rfl) el_nil) (by walk_at "sb")) (ev_subow rfl (ev_sub (ev_name rfl) (ev_name rfl) (item_list (iI 8 shp (j + 1) (by omega) (by decide)))) (upto_idx (fun i => .list ((U i).map fun u => .int ((u : Nat) : Int))) (k := shp (j + 1)) (n := j + 1) (by omega) (by omega))) (add_lists' (by rw [List.length_map]; show 1 + _ ≤ 1000; omega))) (by rw [P.Uk (j + 1) (by omega) (by omega)]; rfl)) (by rw [upto_len]; omega)) (by walk_at "nr") ?_
    rw [upto_snoc (j + 1) fun i => .list ((U i).map fun u => .int ((u : Nat) : Int))]
    exact xb_end (has_c rfl (has_c rfl (has_c rfl (has_c rfl (has_c rfl (has_c rfl (has_c rfl (has_c rfl has_nil))))))))
  refine xb_to [("shape", .sh (.list (nums 8 shp))), ("labels", .sh (.list (nums 6 lab))), ("weights", .sh (.list (nums 6 fun k => fig k % 6))), ("hosts", .ow true (six fun i => .str (H i))), ("heads", .ow true (six fun i => .str (Hd i))), ("ups", .ow true (six fun i => nl (U i)))]
    (has_c rfl (has_c rfl (has_c rfl (has_c rfl (has_c rfl (has_c rfl has_nil)))))) ?_
  refine xb_frz (x := "hosts") rfl (by walk_at "nr") ?_
  refine xb_frz (x := "heads") rfl (by walk_at "nr") ?_
  refine xb_frz (x := "ups") rfl (by walk_at "nr") ?_
  -- the ladders
  refine xb_n (xs_assign (d := .list (six fun k => hl H (U k))) (ev_eq (ev_comp (by walk_at "sk") (ev_name rfl) (.list _) (fun _ _ e => by cases e) (.inl rfl) rfl (fun _ => true) (fun d => match d with | .str x => hl H (U (idxOf H x)) | d => d) (by rw [six_len]; decide) (fun C d hd => ifs_nil) (fun C d hd _ => ?lad)) ?ladE) (can_fn (.inr rfl))) (by walk_at "nr") ?_
  case lad =>
    obtain ⟨k, hk, rfl⟩ := List.mem_map.mp hd
    have hk := List.mem_range.mp hk
    show EvE _ _ _ _ (hl H (U (idxOf H (H k))))
    rw [idxOf_H Q.inj hk]
    exact ev_call (ev_global rfl (gl_law_ladder G)) (G.fn 31 (by decide)).isFn (el_cons (ev_name rfl) el_nil) (Q.lad k hk) (of_decide_eq_true rfl)
  case ladE =>
    rw [six_map]
    exact congrArg D.list (six_congr fun k hk => by show hl H (U (idxOf H (H k))) = _; rw [idxOf_H Q.inj hk])
  have lads : (six fun k => hl H (U k)) = ((List.range 6).map fun k => (U k).map H).map fun x => D.list (x.map .str) := by
    unfold six
    rw [List.map_map]
    exact List.map_congr_left fun k _ => hl_eq H (U k)
  have okL : okD (.list (six fun k => hl H (U k))) = true := by
    rw [lads]
    exact okDs_lists fun x hx y hy => by
      obtain ⟨k, hk, rfl⟩ := List.mem_map.mp hx
      obtain ⟨u, hu, rfl⟩ := List.mem_map.mp hy
      exact Q.okH u (Q.Ulow k (List.mem_range.mp hk) u hu)
  have dpL : (pyD (.list (six fun k => hl H (U k)))).depth ≤ 50 := by
    rw [lads]
    show PyData.depthAll (pyDs _) + 1 ≤ 50
    have := depth_lists ((List.range 6).map fun k => (U k).map H)
    omega
  have eqL : PyData.eqv (pyD (.list (six fun k => hl H (U k)))) (pyD (.list (six fun k => hl H (U k)))) = true := by
    rw [lads]
    exact eqvAll_refl _
  have iHs : ∀ k : Nat, k < 6 → IdxAt (k : Int) (six fun k => .str (H k)) (.str (H k)) := fun k hk => six_idx (fun k => .str (H k)) hk
  refine xb_ifSkip (et_eq (et_bool (or_cons (b := false) (et_eq (et_cmp ev_none (ev_name rfl) (in_list rfl (by rw [← numsI_map]; exact okDs_int _) (by rw [← numsI_map, depth_int]; exact Nat.le_trans (Nat.min_le_left _ _) (by decide)))) ?none) fun _ => or_cons (b := false) (et_eq (et_cmp (ev_name rfl) (ev_eq (d' := .list (six fun k => hl H (U k))) (ev_comp (by walk_at "sk") (ev_name rfl) (.list _) (fun _ _ e => by cases e) (.inl rfl) rfl (fun _ => true) (fun d => match d with | .list es => .list (((es.filter fun _ => true).map fun e => match e with | .int i => .str (H i.toNat) | e => e)) | d => d) (by rw [six_len]; decide) (fun C d hd => ifs_nil) (fun C d hd _ => ?rung)) ?rungE) (cmp_ne okL okL (Nat.le_trans (Nat.min_le_left _ _) dpL))) ?neL) fun _ => or_nil)) (by rfl)) ?_
  case none =>
    rw [← numsI_map, pyDs_int, List.any_map]
    exact List.any_eq_false.mpr fun x _ => by show ¬ PyData.eqv (.int x) .none = true; exact Bool.false_ne_true
  case neL => rw [eqL]; rfl
  case rungE =>
    rw [six_map]
    refine congrArg D.list (six_congr fun k hk => ?_)
    show D.list ((((U k).map fun u => D.int ((u : Nat) : Int)).filter fun _ => true).map _) = _
    rw [List.filter_eq_self.mpr (fun _ _ => rfl), List.map_map]; rfl
  case rung =>
    obtain ⟨k, hk, rfl⟩ := List.mem_map.mp hd
    have hk := List.mem_range.mp hk
    refine ev_comp (by walk_at "sk") (ev_name rfl) (.list _) (fun _ _ e => by cases e) (.inl rfl) rfl (fun _ => true) (fun e => match e with | .int i => .str (H i.toNat) | e => e) (by rw [List.length_map]; have := P.lenU k hk; omega) (fun C d hd => ifs_nil) (fun C d hd _ => ?_)
    obtain ⟨u, hu, rfl⟩ := List.mem_map.mp hd
    exact ev_sub (ev_name rfl) (ev_name rfl) (item_list (iHs u (Q.Ulow k hk u hu)))
  -- truly below
  have iTl : ∀ k, k < 6 → IdxAt ((lab k / 8 : Nat) : Int) (tls.map .str) (.str (Tl k)) := fun k hk => idxN (by rw [List.getElem?_map, P.Tlk k hk]; rfl) (by decide)
  have tlK : ∀ k, k < 6 → (tls.getD (lab k / 8) "") = Tl k := fun k hk => by rw [List.getD_eq_getElem?_getD, P.Tlk k hk]; rfl
  refine xb_ifSkip (et_eq (et_not (et_val (ev_call (ev_global rfl (gl_law_truly_below G)) (G.fn 32 (by decide)).isFn (el_cons (ev_name rfl) (el_cons (ev_name rfl) (el_cons (ev_eq (d' := .list (six fun k => .str (Tl k))) (ev_comp (d := .list (nums 6 lab)) (by walk_at "sk") (ev_name rfl) (.list _) (fun _ _ e => by cases e) (.inl rfl) rfl (fun _ => true) (fun d => match d with | .int i => .str (tls.getD (i.toNat / 8) "") | d => d) (of_decide_eq_true rfl) (fun C d hd => ifs_nil) (fun C d hd _ => ?tl)) ?tlE) (el_cons (ev_name rfl) el_nil)))) (c32 G Q.below) (of_decide_eq_true rfl)) tr_bool)) (by rfl)) ?_
  case tl =>
    obtain ⟨k, hk, rfl⟩ := List.mem_map.mp hd
    have hk := List.mem_range.mp hk
    show EvE _ _ _ _ (.str (tls.getD (lab k / 8) ""))
    rw [tlK k hk]
    have h8 : ((lab k : Nat) : Int).fdiv 8 = ((lab k / 8 : Nat) : Int) := fdivN _ 8
    exact ev_sub (d1 := .list (tls.map .str)) (ev_list (el_cons ev_str (el_cons ev_str (el_cons ev_str el_nil))) (by walk_at "sb")) (ev_eq (ev_bin (ev_name rfl) ev_int (div_ints (by decide) (dgp (by decide) (by decide)))) (by rw [h8])) (item_list (iTl k hk))
  case tlE =>
    show D.list (((six fun k => .int ((lab k : Nat) : Int)).filter fun _ => true).map _) = _
    rw [six_map]
    exact congrArg D.list (six_congr fun k hk => by show D.str (tls.getD (lab k / 8) "") = _; rw [tlK k hk])
  -- the whole, and the names
  have hwh : whF (fun k => fig k % 6) < 31 := by
    have : ∀ k, fig k % 6 ≤ 5 := fun k => by have := Nat.mod_lt (fig k) (show 0 < 6 by decide); omega
    have h0 := this 0; have h1 := this 1; have h2 := this 2; have h3 := this 3; have h4 := this 4; have h5 := this 5
    show (fig 0 % 6) + ((fig 1 % 6) + ((fig 2 % 6) + ((fig 3 % 6) + ((fig 4 % 6) + ((fig 5 % 6) + 0))))) < 31
    omega
  generalize hw : (fun k => fig k % 6) = w at hwh R
  have eSum : (numsI 6 w).sum = ((whF w : Nat) : Int) := by
    unfold numsI whF
    rw [← nsum_cast, List.map_map]; rfl
  refine xb_n (xs_assign (d := .int ((whF w : Nat) : Int)) (ev_eq (ev_callB (ev_global rfl (gl_sum G)) (el_cons (ev_eq (d' := .list ((numsI 6 w).map .int)) (ev_name rfl) (by rw [numsI_map])) el_nil) sum_list') (by rw [eSum])) (can_fn (.inr rfl))) (by walk_at "nr") ?_
  generalize hWh : whF w = Wh at hwh
  have lq : (Txt.mul "\"" (Wh : Int)).length = Wh := by rw [mul34 hwh, S_len, List.length_replicate]
  have lz : (Str.ofString "z").length = 1 := by decide +kernel
  have lqq : (Str.ofString "\"").length = 1 := by decide +kernel
  have lh1 : (Str.ofString "257 \"").length = 5 := by decide +kernel
  have lh2 : (Str.ofString "257-\"").length = 5 := by decide +kernel
  have lh3 : (Str.ofString "257 z\"").length = 6 := by decide +kernel
  have ne2 : (Str.ofString "257-\"") ≠ Str.ofString "257 \"" := by decide +kernel
  have ne3 : (Str.ofString "257 z\"") ≠ Str.ofString "257 \"" := by decide +kernel
  refine xb_n (xs_compE (outs := [.str (S (NM Wh)), .str "", .str ""]) (by walk_at "sk") (ev_list (el_cons ev_str (el_cons ev_str (el_cons ev_str el_nil))) (by walk_at "sb")) (.list _) (fun _ _ e => by cases e) (.inl rfl) (.inl rfl) rfl (fun _ => true) (fun d => match d with | .str x => .str (p257 Wh x) | d => d) (of_decide_eq_true rfl) (fun C d hd => ifs_nil) (fun C d hd _ => ?nm) ?nmE) (by walk_at "nr") ?_
  case nmE =>
    show [D.str (p257 Wh "257 \""), D.str (p257 Wh "257-\""), D.str (p257 Wh "257 z\"")] = _
    rw [show p257 Wh "257 \"" = S (NM Wh) from if_pos rfl, show p257 Wh "257-\"" = "" from if_neg ne2, show p257 Wh "257 z\"" = "" from if_neg ne3]
  case nm =>
    have mq : ∀ {F : Fm} {ρ : Ro} {e1 e2 : Expr} {p : Pos}, EvE W F ρ e1 (.str "\"") → EvE W F ρ e2 (.int (Wh : Int)) → EvE W F ρ (.BinOp e1 .Mult e2 p) (.str (Txt.mul "\"" (Wh : Int))) := fun h1 h2 => ev_bin h1 h2 (mul_str (by rw [lqq, Int.toNat_natCast]; omega) (by omega))
    rcases List.mem_cons.mp hd with rfl | hd
    · show EvE _ _ _ _ (.str (p257 Wh "257 \""))
      have e : p257 Wh "257 \"" = S (NM Wh) := if_pos rfl
      rw [e]
      exact ev_call (ev_global rfl (gl_parse257 G)) (G.fn 16 (by decide)).isFn (el_cons (ev_eq (sa (sa (ev_name rfl) (mq ev_str (ev_name rfl)) (by omega)) ev_str (by rw [la]; omega)) (by rw [yes257 hwh])) el_nil) (c16_yes G (by omega)) (of_decide_eq_true rfl)
    rcases List.mem_cons.mp hd with rfl | hd
    · show EvE _ _ _ _ (.str (p257 Wh "257-\""))
      have e : p257 Wh "257-\"" = "" := if_neg ne2
      rw [e]
      exact ev_call (ev_global rfl (gl_parse257 G)) (G.fn 16 (by decide)).isFn (el_cons (sa (sa (ev_name rfl) (mq ev_str (ev_name rfl)) (by omega)) ev_str (by rw [la]; omega)) el_nil) (c16_of G (no1 hwh)) (of_decide_eq_true rfl)
    rcases List.mem_cons.mp hd with rfl | hd
    · show EvE _ _ _ _ (.str (p257 Wh "257 z\""))
      have e : p257 Wh "257 z\"" = "" := if_neg ne3
      rw [e]
      exact ev_call (ev_global rfl (gl_parse257 G)) (G.fn 16 (by decide)).isFn (el_cons (sa (sa (ev_name rfl) (mq ev_str (ev_name rfl)) (by omega)) ev_str (by rw [la]; omega)) el_nil) (c16_of G (no2 hwh)) (of_decide_eq_true rfl)
    cases hd
  have o0 : PyData.strOk (Str.ofString "") = true := by decide +kernel
  have oN : PyData.strOk (S (NM Wh)) = true := all31 (p := fun w => PyData.strOk (S (NM w))) (by decide +kernel) hwh
  have okN : okD (.list [.str (S (NM Wh)), .str "", .str ""]) = true := by
    show (PyData.strOk (S (NM Wh)) && (PyData.strOk (Str.ofString "") && (PyData.strOk (Str.ofString "") && true))) = true
    rw [oN, o0]; rfl
  have lN : (Txt.mul "\"" ((Wh / 2 : Nat) : Int)).length = Wh / 2 := by rw [mul34 (by omega), S_len, List.length_replicate]
  have hd2 : ((Wh : Nat) : Int).fdiv 2 = ((Wh / 2 : Nat) : Int) := fdivN _ 2
  have hm2 : ((Wh : Nat) : Int).fmod 2 = ((Wh % 2 : Nat) : Int) := fmodN _ 2 (by decide)
  have iz : IdxAt ((Wh % 2 : Nat) : Int) [D.str "z", D.str ""] (.str ((["z", ""] : List Str).getD (Wh % 2) "")) := idxN (by
    rcases Nat.mod_two_eq_zero_or_one Wh with h | h <;> rw [h] <;> rfl) (by decide)
  have lzz : ((["z", ""] : List Str).getD (Wh % 2) "").length ≤ 1 := by
    rcases Nat.mod_two_eq_zero_or_one Wh with h | h <;> rw [h] <;> decide +kernel
  refine xb_ifSkip (et_eq (et_cmp (ev_name rfl) (ev_list (el_cons (ev_eq (ev_bin (ev_bin ev_str (ev_eq (ev_bin (ev_name rfl) ev_int (div_ints (by decide) (dgp (by decide) (by decide)))) (by rw [hd2])) (mul_str (by rw [lqq, Int.toNat_natCast]; omega) (by omega))) (ev_sub (ev_list (el_cons ev_str (el_cons ev_str el_nil)) (by walk_at "sb")) (ev_eq (ev_bin (ev_name rfl) ev_int (mod_ints (by decide))) (by rw [hm2])) (item_list iz)) (add_strs (by omega))) (by rw [nmR hwh])) (el_cons ev_str (el_cons ev_str el_nil))) (of_decide_eq_true rfl)) (cmp_ne okN okN (of_decide_eq_true rfl))) ?neN) ?_
  case neN =>
    show (!PyData.eqv (pyD (.list ([S (NM Wh), Str.ofString "", Str.ofString ""].map .str))) (pyD (.list ([S (NM Wh), Str.ofString "", Str.ofString ""].map .str)))) = false
    rw [eqv_refl_strs]; rfl
  -- what weighs below each
  have iUp : ∀ k : Nat, k < 6 → IdxAt (k : Int) (six fun k => nl (U k)) (nl (U k)) := fun k hk => six_idx (fun k => nl (U k)) hk
  have iWt : ∀ k : Nat, k < 6 → IdxAt (k : Int) (nums 6 w) (.int ((w k : Nat) : Int)) := fun k hk => iI 6 w k hk (by decide)
  refine xb_n (xs_assign (d := .list (nums 6 fun k => unF U w k)) (ev_eq (ev_comp (by walk_at "sk") (ev_callT (ev_global rfl (gl_range G)) (el_cons ev_int el_nil) (by walk_at "ty")) (.range _ _) (fun u v e => by cases e; decide) (.inr rfl) rfl (fun _ => true) (fun d => match d with | .int i => .int ((unF U w i.toNat : Nat) : Int) | d => d) (by decide) (fun C d hd => ifs_nil) (fun C d hd _ => ?un)) ?unE) (can_fn (.inr rfl))) (by walk_at "nr") ?_
  case unE => rfl
  case un =>
    obtain ⟨k, hk, rfl⟩ := List.mem_map.mp hd
    have hk : k < 6 := List.mem_range.mp hk
    rw [Int.zero_add]
    show EvE _ _ _ _ (.int ((unF U w k : Nat) : Int))
    refine ev_eq (ev_callB (ev_global rfl (gl_sum G)) (el_cons (ev_eq (d' := .list ((((List.range' 0 6).filter fun low => (U low).any fun u => u == k).map fun low => ((w low : Nat) : Int)).map .int)) (ev_comp (by walk_at "sk") (ev_callT (ev_global rfl (gl_range G)) (el_cons ev_int el_nil) (by walk_at "ty")) (.range _ _) (fun u v e => by cases e; decide) (.inl rfl) rfl (fun d => match d with | .int i => (U i.toNat).any fun u => u == k | _ => false) (fun d => match d with | .int i => .int ((w i.toNat : Nat) : Int) | d => d) (by decide) (fun C d hd => ?ifs) (fun C d hd _ => ?elt)) ?inE) el_nil) sum_list') ?sumE
    case ifs =>
      obtain ⟨low, hl, rfl⟩ := List.mem_map.mp hd
      have hl : low < 6 := List.mem_range.mp hl
      rw [Int.zero_add]
      exact ifs_one (et_eq (et_cmp (ev_name rfl) (ev_sub (ev_name rfl) (ev_name rfl) (item_list (iUp low hl))) (in_list rfl (okU _) (by rw [dpU]; exact Nat.le_trans (Nat.min_le_left _ _) (by decide)))) (anyU _ _))
    case elt =>
      obtain ⟨low, hl, rfl⟩ := List.mem_map.mp hd
      have hl : low < 6 := List.mem_range.mp hl
      rw [Int.zero_add]
      exact ev_sub (ev_name rfl) (ev_name rfl) (item_list (iWt low hl))
    case inE =>
      refine congrArg D.list ?_
      have := filter_nums (List.range' 0 6) (fun low => (U low).any fun u => u == k) (fun low => ((w low : Nat) : Int))
      rw [← rangeDs_nat 0 6] at this
      exact this
    case sumE =>
      have := nsum_cast (((List.range' 0 6).filter fun low => (U low).any fun u => u == k).map w)
      rw [List.map_map] at this
      exact congrArg D.int this
  -- the middles
  have iUn : ∀ k : Nat, k < 6 → IdxAt (k : Int) (nums 6 fun k => unF U w k) (.int ((unF U w k : Nat) : Int)) := fun k hk => iI 6 (fun k => unF U w k) k hk (by decide)
  have iSh : ∀ k : Nat, k < 8 → IdxAt (k : Int) (nums 8 shp) (.int ((shp k : Nat) : Int)) := fun k hk => iI 8 shp k hk (by decide)
  refine xb_n (xs_assignF (ef_list (ds := []) el_nil (by decide)) (.inl rfl)) (by walk_at "nr") ?_
  refine xb_to [("shape", .sh (.list (nums 8 shp))), ("weights", .sh (.list (nums 6 w))), ("hosts", .sh (.list (six fun i => .str (H i)))), ("heads", .sh (.list (six fun i => .str (Hd i)))), ("ladders", .sh (.list (six fun k => hl H (U k)))),
    ("whole", .sh (.int ((Wh : Nat) : Int))), ("names", .sh (.list [.str (S (NM Wh)), .str "", .str ""])), ("under", .sh (.list (nums 6 fun k => unF U w k))), ("middles", .ow true [])] (has_c rfl (has_c rfl (has_c rfl (has_c rfl (has_c rfl (has_c rfl (has_c rfl (has_c rfl (has_c rfl has_nil))))))))) ?_
  refine xb_cons (xs_for (ev_callT (ev_global rfl (gl_range G)) (el_cons ev_int el_nil) (by walk_at "ty")) (.range _ _) (fun u v e => by cases e; decide) (forl_inv (can_fn (.inr rfl)) _ (fun j => [("shape", .sh (.list (nums 8 shp))), ("weights", .sh (.list (nums 6 w))), ("hosts", .sh (.list (six fun i => .str (H i)))), ("heads", .sh (.list (six fun i => .str (Hd i)))), ("ladders", .sh (.list (six fun k => hl H (U k)))),
    ("whole", .sh (.int ((Wh : Nat) : Int))), ("names", .sh (.list [.str (S (NM Wh)), .str "", .str ""])), ("under", .sh (.list (nums 6 fun k => unF U w k))), ("middles", .ow true (((List.range j).filter (midF U shp w)).map fun k => .int ((k : Nat) : Int)))]) ?mloop)) ?_
  case mloop =>
    intro j d hd
    have hj : j < 6 := by
      rcases Nat.lt_or_ge j 6 with h | h
      · exact h
      · rw [List.getElem?_eq_none (by show (rangeDs 0 6).length ≤ j; exact h)] at hd; cases hd
    have hd' : d = .int ((j : Nat) : Int) := by
      have : (rangeDs 0 6)[j]? = some d := hd
      unfold rangeDs at this
      rw [List.getElem?_map, List.getElem?_range hj] at this
      simp only [Option.map_some, Option.some.injEq] at this
      rw [← this, Int.zero_add]
    subst hd'
    refine xb_q (by walk_at "nr") ?_
    have hlen : ((sidesI U shp w j).map D.int).length ≤ 100 := by
      unfold sidesI
      rw [List.length_map, List.length_cons, List.length_map]
      have := List.length_filter_le (fun low => shp low == j) (List.range' 1 5)
      rw [List.length_range'] at this
      omega
    refine xb_n (xs_assign (d := .list ((sidesI U shp w j).map .int)) (ev_eq (ev_bin (ev_list (el_cons (ev_bin (ev_name rfl) (ev_sub (ev_name rfl) (ev_name rfl) (item_list (iUn j hj))) sub_ints) el_nil) (of_decide_eq_true rfl)) (ev_eq (d' := .list ((((List.range' 1 5).filter fun low => shp low == j).map fun low => ((unF U w low : Nat) : Int)).map .int)) (ev_comp (by walk_at "sk") (ev_callT (ev_global rfl (gl_range G)) (el_cons ev_int (el_cons ev_int el_nil)) range2') (.range _ _) (fun u v e => by cases e; decide) (.inl rfl) rfl (fun d => match d with | .int i => shp i.toNat == j | _ => false) (fun d => match d with | .int i => .int ((unF U w i.toNat : Nat) : Int) | d => d) (by decide) (fun C d hd => ?mi) (fun C d hd _ => ?me)) ?mE) (add_lists' ?ml)) ?mq) (.inl rfl)) (by walk_at "nr") ?mrest
    case mi =>
      obtain ⟨i, hi, rfl⟩ := List.mem_map.mp hd
      have hi : i < 5 := List.mem_range.mp hi
      have e : (1 + (i : Int)) = ((i + 1 : Nat) : Int) := by omega
      rw [e]
      refine ifs_one (et_eq (et_cmp (ev_sub (ev_name rfl) (ev_name rfl) (item_list (iSh (i + 1) (by omega)))) (ev_name rfl) cmp_eq_int) ?_)
      show (((shp (i + 1) : Nat) : Int) == ((j : Nat) : Int)) = (shp (i + 1) == j)
      rw [Bool.eq_iff_iff, beq_iff_eq, beq_iff_eq]; omega
    case me =>
      obtain ⟨i, hi, rfl⟩ := List.mem_map.mp hd
      have hi : i < 5 := List.mem_range.mp hi
      have e : (1 + (i : Int)) = ((i + 1 : Nat) : Int) := by omega
      rw [e]
      exact ev_sub (ev_name rfl) (ev_name rfl) (item_list (iUn (i + 1) (by omega)))
    case mE =>
      refine congrArg D.list ?_
      have := filter_nums (List.range' 1 5) (fun low => shp low == j) (fun low => ((unF U w low : Nat) : Int))
      rw [← rangeDs_nat 1 5] at this
      exact this
    case ml =>
      have := hlen
      unfold sidesI at this
      rw [List.length_map, List.length_cons] at this
      rw [List.length_map]
      show 1 + _ ≤ 1000
      omega
    case mq =>
      unfold sidesI
      rw [hWh]; rfl
    case mrest =>
      have hmx : (maxI (sidesI U shp w j)) ∈ sidesI U shp w j ∧ ∀ y ∈ sidesI U shp w j, y ≤ maxI (sidesI U shp w j) := maxI_ok _ _
      have hT : ∀ {ρ : Ro} {test : Expr} {b : Bool}, True := trivial
      cases hmid : midF U shp w j with
      | true =>
        refine xb_ifNext (et_eq (et_cmp (ev_callB (ev_global rfl (gl_max G)) (el_cons (ev_name rfl) el_nil) (max_list' hmx.1 hmx.2)) (ev_eq (ev_meth (ev_sub (ev_name rfl) ev_int (by walk_at "it")) ty_str PySem.F.plainAttrs_str PySem.F.slot_str_count PySem.F.type_str_count (el_cons ev_str el_nil) m_count) (by rw [cnt34 hwh])) cmp_le) ?mt) (xb_n (xs_append rfl (ev_name rfl) (by rw [List.length_map]; have := List.length_filter_le (midF U shp w) (List.range j); rw [List.length_range] at this; omega)) (by walk_at "nr") xb_nil) ?mend
        case mt =>
          unfold midF at hmid
          rw [hWh] at hmid
          exact hmid
        case mend =>
          refine xb_q (by walk_at "nr") ?_
          refine xb_end (has_c rfl (has_c rfl (has_c rfl (has_c rfl (has_c rfl (has_c rfl (has_c rfl (has_c rfl (has_c ?_ has_nil)))))))))
          show some (Sl.ow true _) = some (Sl.ow true _)
          rw [List.range_succ, List.filter_append, List.filter_cons_of_pos hmid, List.filter_nil, List.map_append]; rfl
      | false =>
        refine xb_ifSkip (et_eq (et_cmp (ev_callB (ev_global rfl (gl_max G)) (el_cons (ev_name rfl) el_nil) (max_list' hmx.1 hmx.2)) (ev_eq (ev_meth (ev_sub (ev_name rfl) ev_int (by walk_at "it")) ty_str PySem.F.plainAttrs_str PySem.F.slot_str_count PySem.F.type_str_count (el_cons ev_str el_nil) m_count) (by rw [cnt34 hwh])) cmp_le) ?mf) ?mend2
        case mf =>
          unfold midF at hmid
          rw [hWh] at hmid
          exact hmid
        case mend2 =>
          refine xb_end (has_c rfl (has_c rfl (has_c rfl (has_c rfl (has_c rfl (has_c rfl (has_c rfl (has_c rfl (has_c ?_ has_nil)))))))))
          show some (Sl.ow true _) = some (Sl.ow true _)
          rw [List.range_succ, List.filter_append, List.filter_cons_of_neg (by rw [hmid]; exact Bool.false_ne_true), List.filter_nil, List.append_nil]
  refine xb_to [("shape", .sh (.list (nums 8 shp))), ("weights", .sh (.list (nums 6 w))), ("hosts", .sh (.list (six fun i => .str (H i)))), ("heads", .sh (.list (six fun i => .str (Hd i)))), ("ladders", .sh (.list (six fun k => hl H (U k)))),
    ("whole", .sh (.int ((Wh : Nat) : Int))), ("under", .sh (.list (nums 6 fun k => unF U w k))), ("middles", .ow true (((List.range 6).filter (midF U shp w)).map fun k => .int ((k : Nat) : Int)))] (has_c rfl (has_c rfl (has_c rfl (has_c rfl (has_c rfl (has_c rfl (has_c rfl (has_c rfl has_nil)))))))) ?_
  refine xb_frz (x := "middles") rfl (by walk_at "nr") ?_
  have iLd : ∀ k : Nat, k < 6 → IdxAt (k : Int) (six fun k => hl H (U k)) (hl H (U k)) := fun k hk => six_idx (fun k => hl H (U k)) hk
  -- the ways
  refine xb_n (xs_compE (outs := six fun one => .list (upto one fun two => .str (S (bt one two)))) (by walk_at "sk") (ev_callT (ev_global rfl (gl_range G)) (el_cons ev_int el_nil) (by walk_at "ty")) (.range _ _) (fun u v e => by cases e; decide) (.inl rfl) (.inr rfl) rfl (fun _ => true) (fun d => match d with | .int i => .list (upto i.toNat fun two => .str (S (bt i.toNat two))) | d => d) (by decide) (fun C d hd => ifs_nil) (fun C d hd _ => ?bt) ?btE) (by walk_at "nr") ?_
  case btE => exact range_map 6 (fun one => .list (upto one fun two => .str (S (bt one two)))) _ (fun k _ => rfl)
  case bt =>
    obtain ⟨one, h1, rfl⟩ := mem_range0 (n := 6) hd
    show EvE _ _ _ _ (.list (upto one fun two => .str (S (bt one two))))
    refine ev_eq (ev_comp (by walk_at "sk") (ev_callT (ev_global rfl (gl_range G)) (el_cons (ev_name rfl) el_nil) (by walk_at "ty")) (.range _ _) (fun u v e => by cases e; exact small_of (by decide) (by omega) (by omega)) (.inl rfl) rfl (fun _ => true) (fun d => match d with | .int i => .str (S (bt one i.toNat)) | d => d) (by unfold rangeDs; rw [List.length_map, List.length_range]; omega) (fun C d hd => ifs_nil) (fun C d hd _ => ?_)) (congrArg D.list (range_map one (fun two => .str (S (bt one two))) _ (fun k _ => rfl)))
    obtain ⟨two, h2, rfl⟩ := mem_range0 hd
    exact ev_call (ev_global rfl (gl_law_between G)) (G.fn 33 (by decide)).isFn (el_cons (ev_sub (ev_name rfl) (ev_name rfl) (item_list (iLd one h1))) (el_cons (ev_sub (ev_name rfl) (ev_name rfl) (item_list (iLd two (by omega)))) el_nil)) (Q.bet one two h1 h2) (of_decide_eq_true rfl)
  -- the two hands
  have n2 : (shp 6 + 1 + shp 7) % 5 < 5 := Nat.mod_lt _ (by decide)
  have iHd : ∀ k : Nat, k < 6 → IdxAt (k : Int) (six fun k => .str (Hd k)) (.str (Hd k)) := fun k hk => six_idx (fun k => .str (Hd k)) hk
  refine xb_cons (xs_for (d := .list ([shp 6, (shp 6 + 1 + shp 7) % 5].map fun n : Nat => .int ((n : Nat) : Int))) (ev_list (el_cons (ev_sub (ev_name rfl) ev_int (item_list (iSh 6 (by decide)))) (el_cons (ev_eq (ev_bin (ev_bin (ev_bin (ev_sub (ev_name rfl) ev_int (item_list (iSh 6 (by decide)))) ev_int add_ints) (ev_sub (ev_name rfl) ev_int (item_list (iSh 7 (by decide)))) add_ints) ev_int (mod_ints (by decide))) (by
      have := fmodN (shp 6 + 1 + shp 7) 5 (by decide)
      exact congrArg D.int this)) el_nil)) (of_decide_eq_true rfl)) (.list _) (fun _ _ e => by cases e)
    (forl_fold (fun n : Nat => D.int ((n : Nat) : Int)) (fun _ : Unit => [("shape", .sh (.list (nums 8 shp))), ("weights", .sh (.list (nums 6 w))), ("hosts", .sh (.list (six fun i => .str (H i)))), ("heads", .sh (.list (six fun i => .str (Hd i)))), ("ladders", .sh (.list (six fun k => hl H (U k)))),
      ("whole", .sh (.int ((Wh : Nat) : Int))), ("under", .sh (.list (nums 6 fun k => unF U w k))), ("middles", .sh (.list (((List.range 6).filter (midF U shp w)).map fun k => .int ((k : Nat) : Int)))), ("between", .sh (.list (six fun one => .list (upto one fun two => .str (S (bt one two))))))]) (fun s _ => s) (fun _ ns => ∀ n ∈ ns, n < 5) (.inl rfl) ?_ [shp 6, (shp 6 + 1 + shp 7) % 5] () ?_)) ?_
  · rintro ⟨⟩ n ns hns
    have hn := hns n List.mem_cons_self
    refine ⟨?_, fun x hx => hns x (List.mem_cons_of_mem _ hx)⟩
    obtain ⟨kv, hkv⟩ : ∃ kv, kvs[n]? = some kv := ⟨kvs[n]'(by show n < 5; exact hn), List.getElem?_eq_getElem _⟩
    have isF : IsFn W (a (19 + n)) := by
      have : 19 + n ∈ [3, 4, 5, 6, 9, 10, 15, 16, 19, 20, 21, 22, 23, 25, 26, 27, 28, 29, 30, 31, 32, 33] := by
        match n, hn with
        | 0, _ => decide
        | 1, _ => decide
        | 2, _ => decide
        | 3, _ => decide
        | 4, _ => decide
      exact (G.fn _ this).isFn
    refine xb_q (by walk_at "nr") ?_
    refine xb_n (xs_assign (ev_call (ev_global rfl (gl_law_hand G)) (G.fn 27 (by decide)).isFn (el_cons (ev_name rfl) el_nil) (c27 G hn) (of_decide_eq_true rfl)) (can_fn (.inr rfl))) (by walk_at "nr") ?_
    refine xb_n (xs_assign (ev_call (ev_global rfl (gl_law_table G)) (G.fn 28 (by decide)).isFn (el_cons (ev_name rfl) el_nil) (c28 G hkv) (of_decide_eq_true rfl)) (can_fn (.inr rfl))) (by walk_at "nr") ?_
    -- ways
    refine xb_n (xs_assign (d := .list (six fun one => .list (upto one fun two => .int ((wyF HF bt n one two : Nat) : Int)))) (ev_eq (ev_comp (by walk_at "sk") (ev_name rfl) (.list _) (fun _ _ e => by cases e) (.inl rfl) rfl (fun _ => true) (fun d => match d with | .list es => .list ((es.filter fun _ => true).map fun e => match e with | .str x => .int (((HF n x).length : Nat) : Int) | e => e) | d => d) (by rw [six_len]; decide) (fun C d hd => ifs_nil) (fun C d hd _ => ?wy)) ?wyE) (can_fn (.inr rfl))) (by walk_at "nr") ?_
    case wyE =>
      rw [six_map]
      exact congrArg D.list (six_congr fun k hk => congrArg D.list (upto_map k _ _))
    case wy =>
      obtain ⟨one, h1, rfl⟩ := List.mem_map.mp hd
      have h1 := List.mem_range.mp h1
      refine ev_comp (by walk_at "sk") (ev_name rfl) (.list _) (fun _ _ e => by cases e) (.inl rfl) rfl (fun _ => true) (fun e => match e with | .str x => .int (((HF n x).length : Nat) : Int) | e => e) (by rw [upto_len]; omega) (fun C d hd => ifs_nil) (fun C d hd _ => ?_)
      obtain ⟨two, h2, rfl⟩ := List.mem_map.mp hd
      have h2 := List.mem_range.mp h2
      have hb : (S (bt one two)).length ≤ 1000 := by rw [S_len]; have := R.btl one two h1 h2; omega
      have hl := R.hlen n hn _ hb
      exact ev_callB (ev_global rfl (gl_len G)) (el_cons (ev_call (ev_name rfl) isF (el_cons (ev_name rfl) el_nil) (R.hand n hn _ hb) (of_decide_eq_true rfl)) el_nil) (len_str' (by omega))
    have iWy : ∀ one : Nat, one < 6 → IdxAt (one : Int) (six fun one => .list (upto one fun two => .int ((wyF HF bt n one two : Nat) : Int))) (.list (upto one fun two => .int ((wyF HF bt n one two : Nat) : Int))) := fun k hk => six_idx (fun one => .list (upto one fun two => .int ((wyF HF bt n one two : Nat) : Int))) hk
    have iW2 : ∀ one two : Nat, one < 6 → two < one → IdxAt (two : Int) (upto one fun two => .int ((wyF HF bt n one two : Nat) : Int)) (.int ((wyF HF bt n one two : Nat) : Int)) := fun one two h1 h2 => upto_idx (fun two => .int ((wyF HF bt n one two : Nat) : Int)) h2 (by omega)
    -- pairs
    refine xb_n (xs_assign (d := .int ((prF HF bt w n : Nat) : Int)) (ev_eq (ev_callB (ev_global rfl (gl_sum G)) (el_cons (ev_eq (d' := .list ((((List.range 6).flatMap fun one => (List.range one).map fun two => w one * w two * wyF HF bt n one two).map fun x : Nat => ((x : Nat) : Int)).map .int)) (ev_comp2 (by walk_at "sk") (ev_callT (ev_global rfl (gl_range G)) (el_cons ev_int el_nil) (by walk_at "ty")) (.range _ _) (fun u v e => by cases e; decide) (.inl rfl) (.inl rfl) rfl (fun _ => rfl)
        (fun d => match d with | .int i => .range 0 i | d => d) (fun d => match d with | .int i => rangeDs 0 (i - 0).toNat | _ => []) (fun d e => match d, e with | .int i, .int j => .int ((w i.toNat * w j.toNat * wyF HF bt n i.toNat j.toNat : Nat) : Int) | _, _ => .none) (fun d hd => ?pm) (by show 15 ≤ 1000; decide) (fun C d hd => ?p1) (fun C d hd e he => ?p2)) ?pE) el_nil) sum_list') ?pS) (.inl rfl)) (by walk_at "nr") ?_
    case pS => rw [nsum_cast]; rfl
    case pE => rfl
    case pm =>
      obtain ⟨one, h1, rfl⟩ := mem_range0 (n := 6) hd
      exact ⟨.range _ _, fun u v e => by cases e; exact small_of (by decide) (by omega) (by omega)⟩
    case p1 =>
      obtain ⟨one, h1, rfl⟩ := mem_range0 (n := 6) hd
      exact (ev_callT (ev_global rfl (gl_range G)) (el_cons (ev_name rfl) el_nil) (by walk_at "ty"))
    case p2 =>
      obtain ⟨one, h1, rfl⟩ := mem_range0 (n := 6) hd
      obtain ⟨two, h2, rfl⟩ := mem_range0 he
      have q1 := R.w5 one
      have q2 := R.w5 two
      have q3 : ((w one : Nat) : Int) * ((w two : Nat) : Int) ≤ 1000000 := by
        have : w one * w two ≤ 5 * 5 := Nat.mul_le_mul q1 q2
        have e : ((w one : Nat) : Int) * ((w two : Nat) : Int) = ((w one * w two : Nat) : Int) := by rw [Int.natCast_mul]
        omega
      refine ev_eq (ev_bin (ev_bin (ev_sub (ev_name rfl) (ev_name rfl) (item_list (iWt one h1))) (ev_sub (ev_name rfl) (ev_name rfl) (item_list (iWt two (by omega)))) (mul_ints (mulOk (by omega) (by omega)))) (ev_sub (ev_sub (ev_name rfl) (ev_name rfl) (item_list (iWy one h1))) (ev_name rfl) (item_list (iW2 one two h1 h2))) (mul_ints (mulOk (Int.mul_nonneg (by omega) (by omega)) q3))) ?_
      show D.int _ = D.int ((w one * w two * wyF HF bt n one two : Nat) : Int)
      rw [Int.natCast_mul, Int.natCast_mul]
    -- spans
    refine xb_n (xs_assign (d := .list (six fun k => .int ((spF WF Hd n k : Nat) : Int))) (ev_eq (ev_comp (by walk_at "sk") (ev_name rfl) (.list _) (fun _ _ e => by cases e) (.inl rfl) rfl (fun _ => true) (fun d => match d with | .str x => .int (((WF n x).length + 1 : Nat) : Int) | d => d) (by rw [six_len]; decide) (fun C d hd => ifs_nil) (fun C d hd _ => ?sp)) (by rw [six_map]; rfl)) (can_fn (.inr rfl))) (by walk_at "nr") ?_
    case sp =>
      obtain ⟨k, hk, rfl⟩ := List.mem_map.mp hd
      have hk := List.mem_range.mp hk
      have hx : (Hd k).length ≤ 300 := by have := P.lenHd k hk; omega
      have hl := R.wlen n hn _ hx
      exact ev_eq (ev_bin (ev_callB (ev_global rfl (gl_len G)) (el_cons (ev_call (ev_global rfl (gl_law_written G)) (G.fn 29 (by decide)).isFn (el_cons (ev_name rfl) (el_cons (ev_name rfl) el_nil)) (R.writ n kv hkv _ hx) (of_decide_eq_true rfl)) el_nil) (len_str' (by omega))) ev_int add_ints) (by show D.int _ = D.int (((WF n (Hd k)).length + 1 : Nat) : Int); congr 1)
    have iSp : ∀ k : Nat, k < 6 → IdxAt (k : Int) (six fun k => .int ((spF WF Hd n k : Nat) : Int)) (.int ((spF WF Hd n k : Nat) : Int)) := fun k hk => six_idx (fun k => .int ((spF WF Hd n k : Nat) : Int)) hk
    -- the lines of the tree
    refine xb_ifSkip (et_eq (et_cmp (ev_name rfl) (ev_eq (d' := .int ((wnF WF Hd U w n : Nat) : Int)) (ev_callB (ev_global rfl (gl_sum G)) (el_cons (ev_eq (d' := .list ((((List.range' 1 5).map fun k => spF WF Hd n k * unF U w k * (whF w - unF U w k)).map fun x : Nat => ((x : Nat) : Int)).map .int)) (ev_comp (by walk_at "sk") (ev_callT (ev_global rfl (gl_range G)) (el_cons ev_int (el_cons ev_int el_nil)) range2') (.range _ _) (fun u v e => by cases e; decide) (.inl rfl) rfl (fun _ => true) (fun d => match d with | .int i => .int ((spF WF Hd n i.toNat * unF U w i.toNat * (whF w - unF U w i.toNat) : Nat) : Int) | d => d) (by decide) (fun C d hd => ifs_nil) (fun C d hd _ => ?ln)) (by rfl)) el_nil) sum_list') (by rw [nsum_cast]; rfl)) cmp_ne_int) (by rw [R.w1 n hn]; exact bne_self_eq_false _)) ?_
    case ln =>
      obtain ⟨i, hi, rfl⟩ := List.mem_map.mp hd
      have hi : i < 5 := List.mem_range.mp hi
      have e : (1 + (i : Int)) = ((i + 1 : Nat) : Int) := by omega
      rw [e]
      have hx : (Hd (i + 1)).length ≤ 300 := by have := P.lenHd (i + 1) (by omega); omega
      have hl := R.wlen n hn _ hx
      have hu := R.unle (i + 1) (by omega)
      have hs : spF WF Hd n (i + 1) ≤ 3001 := by unfold spF; omega
      have hu2 : unF U w (i + 1) ≤ 31 := by rw [hWh] at hu; omega
      have q3 : ((spF WF Hd n (i + 1) : Nat) : Int) * ((unF U w (i + 1) : Nat) : Int) ≤ 1000000 := by
        have : spF WF Hd n (i + 1) * unF U w (i + 1) ≤ 3001 * 31 := Nat.mul_le_mul hs hu2
        have e : ((spF WF Hd n (i + 1) : Nat) : Int) * ((unF U w (i + 1) : Nat) : Int) = ((spF WF Hd n (i + 1) * unF U w (i + 1) : Nat) : Int) := by rw [Int.natCast_mul]
        omega
      refine ev_eq (ev_bin (ev_bin (ev_sub (ev_name rfl) (ev_name rfl) (item_list (iSp (i + 1) (by omega)))) (ev_sub (ev_name rfl) (ev_name rfl) (item_list (iUn (i + 1) (by omega)))) (mul_ints (mulOk (by omega) (by omega)))) (ev_bin (ev_name rfl) (ev_sub (ev_name rfl) (ev_name rfl) (item_list (iUn (i + 1) (by omega)))) sub_ints) (mul_ints (mulOk (Int.mul_nonneg (by omega) (by omega)) q3))) ?_
      show D.int _ = D.int ((spF WF Hd n (i + 1) * unF U w (i + 1) * (whF w - unF U w (i + 1)) : Nat) : Int)
      rw [Int.natCast_mul, Int.natCast_mul, Int.natCast_sub hu, hWh]
    -- the sums
    refine xb_n (xs_assignF (ef_list (ds := []) el_nil (by decide)) (can_fn (.inr rfl))) (by walk_at "nr") ?_
    refine xb_to [("shape", .sh (.list (nums 8 shp))), ("weights", .sh (.list (nums 6 w))), ("hosts", .sh (.list (six fun i => .str (H i)))), ("heads", .sh (.list (six fun i => .str (Hd i)))), ("ladders", .sh (.list (six fun k => hl H (U k)))),
      ("whole", .sh (.int ((Wh : Nat) : Int))), ("under", .sh (.list (nums 6 fun k => unF U w k))), ("middles", .sh (.list (((List.range 6).filter (midF U shp w)).map fun k => .int ((k : Nat) : Int)))), ("between", .sh (.list (six fun one => .list (upto one fun two => .str (S (bt one two)))))),
      ("hand", .sh (.obj (.ref (a (19 + n))))), ("table", .sh (.dict kv)), ("ways", .sh (.list (six fun one => .list (upto one fun two => .int ((wyF HF bt n one two : Nat) : Int))))), ("sums", .ow true [])] (has_c rfl (has_c rfl (has_c rfl (has_c rfl (has_c rfl (has_c rfl (has_c rfl (has_c rfl (has_c rfl (has_c rfl (has_c rfl (has_c rfl (has_c rfl has_nil))))))))))))) ?_
    refine xb_cons (xs_for (ev_callT (ev_global rfl (gl_range G)) (el_cons ev_int el_nil) (by walk_at "ty")) (.range _ _) (fun u v e => by cases e; decide) (forl_inv (can_fn (.inr rfl)) _ (fun j => [("shape", .sh (.list (nums 8 shp))), ("weights", .sh (.list (nums 6 w))), ("hosts", .sh (.list (six fun i => .str (H i)))), ("heads", .sh (.list (six fun i => .str (Hd i)))), ("ladders", .sh (.list (six fun k => hl H (U k)))),
      ("whole", .sh (.int ((Wh : Nat) : Int))), ("under", .sh (.list (nums 6 fun k => unF U w k))), ("middles", .sh (.list (((List.range 6).filter (midF U shp w)).map fun k => .int ((k : Nat) : Int)))), ("between", .sh (.list (six fun one => .list (upto one fun two => .str (S (bt one two)))))),
      ("hand", .sh (.obj (.ref (a (19 + n))))), ("table", .sh (.dict kv)), ("ways", .sh (.list (six fun one => .list (upto one fun two => .int ((wyF HF bt n one two : Nat) : Int))))), ("sums", .ow true (upto j fun one => .int ((smF HF bt w n one : Nat) : Int)))]) ?sloop)) ?_
    case sloop =>
      intro j d hd
      have hj : j < 6 := by
        rcases Nat.lt_or_ge j 6 with h | h
        · exact h
        · rw [List.getElem?_eq_none (by show (rangeDs 0 6).length ≤ j; exact h)] at hd; cases hd
      have hd' : d = .int ((j : Nat) : Int) := by
        have : (rangeDs 0 6)[j]? = some d := hd
        unfold rangeDs at this
        rw [List.getElem?_map, List.getElem?_range hj] at this
        simp only [Option.map_some, Option.some.injEq] at this
        rw [← this, Int.zero_add]
      subst hd'
      refine xb_q (by walk_at "nr") ?_
      refine xb_n (xs_append (d := .int ((smF HF bt w n j : Nat) : Int)) rfl (ev_eq (ev_callB (ev_global rfl (gl_sum G)) (el_cons (ev_eq (d' := .list ((((List.range' 0 6).filter fun two => two != j).map fun two => ((w two * wyF HF bt n (max j two) (min j two) : Nat) : Int)).map .int)) (ev_comp (by walk_at "sk") (ev_callT (ev_global rfl (gl_range G)) (el_cons ev_int el_nil) (by walk_at "ty")) (.range _ _) (fun u v e => by cases e; decide) (.inl rfl) rfl (fun d => match d with | .int i => i.toNat != j | _ => false) (fun d => match d with | .int i => .int ((w i.toNat * wyF HF bt n (max j i.toNat) (min j i.toNat) : Nat) : Int) | d => d) (by decide) (fun C d hd => ?si) (fun C d hd hq => ?se)) ?sE) el_nil) sum_list') ?sS) (by rw [upto_len]; omega)) (by walk_at "nr") ?_
      case si =>
        obtain ⟨two, h2, rfl⟩ := mem_range0 (n := 6) hd
        refine ifs_one (et_eq (et_cmp (ev_name rfl) (ev_name rfl) (by walk_at "cm")) ?_)
        show (((two : Nat) : Int) != ((j : Nat) : Int)) = (two != j)
        rw [Bool.eq_iff_iff, bne_iff_ne, bne_iff_ne]; omega
      case se =>
        obtain ⟨two, h2, rfl⟩ := mem_range0 (n := 6) hd
        have hne : two ≠ j := by
          have : (two != j) = true := hq
          exact bne_iff_ne.mp this
        have em : max ((j : Nat) : Int) ((two : Nat) : Int) = ((max j two : Nat) : Int) := by omega
        have en : min ((j : Nat) : Int) ((two : Nat) : Int) = ((min j two : Nat) : Int) := by omega
        have q2 := R.w5 two
        refine ev_eq (ev_bin (ev_sub (ev_name rfl) (ev_name rfl) (item_list (iWt two h2))) (ev_sub (ev_sub (ev_name rfl) (ev_eq (ev_callB (ev_global rfl (gl_max G)) (el_cons (ev_name rfl) (el_cons (ev_name rfl) el_nil)) max_two') (by rw [em])) (item_list (iWy (max j two) (by omega)))) (ev_eq (ev_callB (ev_global rfl (gl_min G)) (el_cons (ev_name rfl) (el_cons (ev_name rfl) el_nil)) min_two') (by rw [en])) (item_list (iW2 (max j two) (min j two) (by omega) (by omega)))) (mul_ints (mulOk (by omega) (by omega)))) ?_
        show D.int _ = D.int ((w two * wyF HF bt n (max j two) (min j two) : Nat) : Int)
        rw [Int.natCast_mul]
      case sE =>
        refine congrArg D.list ?_
        have := filter_nums (List.range' 0 6) (fun two => two != j) (fun two => ((w two * wyF HF bt n (max j two) (min j two) : Nat) : Int))
        rw [← rangeDs_nat 0 6] at this
        exact this
      case sS =>
        have := nsum_cast (((List.range' 0 6).filter fun two => two != j).map fun two => w two * wyF HF bt n (max j two) (min j two))
        rw [List.map_map] at this
        exact congrArg D.int this
      rw [upto_snoc j fun one => .int ((smF HF bt w n one : Nat) : Int)]
      exact xb_end (has_c rfl (has_c rfl (has_c rfl (has_c rfl (has_c rfl (has_c rfl (has_c rfl (has_c rfl (has_c rfl (has_c rfl (has_c rfl (has_c rfl (has_c rfl has_nil)))))))))))))
    refine xb_to [("shape", .sh (.list (nums 8 shp))), ("weights", .sh (.list (nums 6 w))), ("hosts", .sh (.list (six fun i => .str (H i)))), ("heads", .sh (.list (six fun i => .str (Hd i)))), ("ladders", .sh (.list (six fun k => hl H (U k)))),
      ("whole", .sh (.int ((Wh : Nat) : Int))), ("under", .sh (.list (nums 6 fun k => unF U w k))), ("middles", .sh (.list (((List.range 6).filter (midF U shp w)).map fun k => .int ((k : Nat) : Int)))), ("between", .sh (.list (six fun one => .list (upto one fun two => .str (S (bt one two)))))),
      ("hand", .sh (.obj (.ref (a (19 + n))))), ("table", .sh (.dict kv)), ("sums", .ow true (nums 6 fun k => smF HF bt w n k))] (has_c rfl (has_c rfl (has_c rfl (has_c rfl (has_c rfl (has_c rfl (has_c rfl (has_c rfl (has_c rfl (has_c rfl (has_c rfl (has_c rfl has_nil)))))))))))) ?_
    refine xb_frz (x := "sums") rfl (by walk_at "nr") ?_
    obtain ⟨mn, ⟨k0, hk0, e0⟩, hmin, heq⟩ := R.w2 n hn
    have hm1 : ((mn : Nat) : Int) ∈ numsI 6 fun k => smF HF bt w n k := by
      unfold numsI
      exact List.mem_map.mpr ⟨k0, List.mem_range.mpr hk0, congrArg (fun x : Nat => (x : Int)) e0⟩
    have hm2 : ∀ x ∈ numsI 6 (fun k => smF HF bt w n k), ((mn : Nat) : Int) ≤ x := fun x hx => by
      obtain ⟨k, hk, rfl⟩ := List.mem_map.mp hx
      have := hmin k (List.mem_range.mp hk)
      show ((mn : Nat) : Int) ≤ ((smF HF bt w n k : Nat) : Int)
      omega
    have iSm : ∀ k : Nat, k < 6 → IdxAt (k : Int) (nums 6 fun k => smF HF bt w n k) (.int ((smF HF bt w n k : Nat) : Int)) := fun k hk => iI 6 (fun k => smF HF bt w n k) k hk (by decide)
    have okM : okD (.list (((List.range 6).filter (midF U shp w)).map fun k => .int ((k : Nat) : Int))) = true := okU _
    refine xb_ifSkip (et_eq (et_cmp (ev_eq (d' := .list (((List.range 6).filter (midF U shp w)).map fun k => .int ((k : Nat) : Int))) (ev_comp (by walk_at "sk") (ev_callT (ev_global rfl (gl_range G)) (el_cons ev_int el_nil) (by walk_at "ty")) (.range _ _) (fun u v e => by cases e; decide) (.inl rfl) rfl (fun d => match d with | .int i => smF HF bt w n i.toNat == mn | _ => false) (fun d => match d with | .int i => .int ((i.toNat : Nat) : Int) | d => d) (by decide) (fun C d hd => ?ki) (fun C d hd _ => ?ke)) ?kE) (ev_name rfl) (cmp_ne okM okM ?kd)) ?kn) ?_
    case ki =>
      obtain ⟨k, hk, rfl⟩ := mem_range0 (n := 6) hd
      refine ifs_one (et_eq (et_cmp (ev_sub (ev_name rfl) (ev_name rfl) (item_list (iSm k hk))) (ev_callB (ev_global rfl (gl_min G)) (el_cons (ev_eq (d' := .list ((numsI 6 fun k => smF HF bt w n k).map .int)) (ev_name rfl) (by rw [numsI_map])) el_nil) (min_list' hm1 hm2)) cmp_eq_int) ?_)
      show (((smF HF bt w n k : Nat) : Int) == ((mn : Nat) : Int)) = (smF HF bt w n k == mn)
      rw [Bool.eq_iff_iff, beq_iff_eq, beq_iff_eq]; omega
    case ke =>
      obtain ⟨k, hk, rfl⟩ := mem_range0 (n := 6) hd
      exact ev_name rfl
    case kE =>
      refine congrArg D.list ?_
      have := filter_nums (List.range' 0 6) (fun k => smF HF bt w n k == mn) (fun k => ((k : Nat) : Int))
      rw [← rangeDs_nat 0 6] at this
      rw [← heq]
      refine Eq.trans this ?_
      rw [List.map_map]; rfl
    case kd =>
      refine Nat.le_trans (Nat.min_le_left _ _) ?_
      show PyData.depthAll (pyDs _) + 1 ≤ 50
      rw [dpU]; decide
    case kn =>
      have := eqv_ints (((List.range 6).filter (midF U shp w)).map fun k : Nat => (k : Int)) (((List.range 6).filter (midF U shp w)).map fun k : Nat => (k : Int))
      rw [List.map_map, decide_eq_true rfl] at this
      show (!PyData.eqv _ _) = false
      refine (congrArg (! ·) this).trans rfl
    have okW := okS (fun k => WF n (H k)) (R.okW n hn)
    refine xb_ifSkip (et_eq (et_cmp (ev_eq (d' := .list (six fun k => .str (WF n (H k)))) (ev_comp (by walk_at "sk") (ev_name rfl) (.list _) (fun _ _ e => by cases e) (.inl rfl) rfl (fun _ => true) (fun d => match d with | .str x => .str (HF n x) | d => d) (by rw [six_len]; decide) (fun C d hd => ifs_nil) (fun C d hd _ => ?he)) ?hE) (ev_eq (d' := .list (six fun k => .str (WF n (H k)))) (ev_comp (by walk_at "sk") (ev_name rfl) (.list _) (fun _ _ e => by cases e) (.inl rfl) rfl (fun _ => true) (fun d => match d with | .str x => .str (WF n x) | d => d) (by rw [six_len]; decide) (fun C d hd => ifs_nil) (fun C d hd _ => ?we)) ?wE) (cmp_ne okW okW (Nat.le_trans (Nat.min_le_left _ _) (dS _)))) ?hn) ?_
    case he =>
      obtain ⟨k, hk, rfl⟩ := List.mem_map.mp hd
      have hk := List.mem_range.mp hk
      exact ev_call (ev_name rfl) isF (el_cons (ev_name rfl) el_nil) (R.hand n hn _ (by have := P.lenH k hk; omega)) (of_decide_eq_true rfl)
    case hE =>
      rw [six_map]
      exact congrArg D.list (six_congr fun k hk => by show D.str (HF n (H k)) = _; rw [R.w3 n hn k hk])
    case we =>
      obtain ⟨k, hk, rfl⟩ := List.mem_map.mp hd
      have hk := List.mem_range.mp hk
      exact ev_call (ev_global rfl (gl_law_written G)) (G.fn 29 (by decide)).isFn (el_cons (ev_name rfl) (el_cons (ev_name rfl) el_nil)) (R.writ n kv hkv _ (by have := P.lenH k hk; omega)) (of_decide_eq_true rfl)
    case wE => rw [six_map]
    case hn =>
      rw [sxs, eqv_strs, decide_eq_true rfl]; rfl
    exact xb_end (has_c rfl (has_c rfl (has_c rfl (has_c rfl (has_c rfl (has_c rfl (has_c rfl (has_c rfl (has_c rfl has_nil)))))))))
  · intro n hn
    rcases List.mem_cons.mp hn with rfl | hn
    · exact P.s6
    · rw [List.mem_singleton.mp hn]; exact n2
  · exact xb_ret (xs_return ev_bool)
end

end

section
noncomputable def dPos : Stmt → Pos
  | .FunctionDef _ _ _ _ _ _ _ _ _ p => p
  | _ => ⟨0, 0, 0, 0⟩
/-- every def of the text is where its name says -/
theorem fn_of {p : Program} {loose : List Str} {mean : ExcName → Option Value} {mg mb : Str → Option Value} {h : Heap} (T : Top p loose mean mg mb h) {prog : Program} {w : World} {k i : Nat} {pos : Pos}
    (hr : (recsOf p)[i]? = some ⟨dName (theSt k), dParams (theSt k), dBody (theSt k), dScope (theSt k), pos⟩) : ∃ a, mg (dName (theSt k)) = some (.ref a) ∧ FnK ⟨prog, w, h⟩ k a := by
  obtain ⟨a, o, pm, cd, doc, h1, h2, h3, h4⟩ := T.fn _ (List.mem_of_getElem? hr)
  exact ⟨a, h1, ⟨⟨o, pm, cd, doc, h2, h3, h4⟩, T.nolimit⟩⟩

theorem run_law {prog : Program} {w : World} {s : Shared} {f l : Addr} {vs : List Value} {is : List Int} {A : Around} {Q E : Value → Shared → Prop} (hA : A.handled = none) (hd : A.depth ≤ 500) (hu : A.units ≤ 500)
    (hc : FnC ⟨prog, w, s.heap⟩ f 4 [.list (is.map .int)] (.bool true)) (hl : s.heap.IsList l vs.toArray) (hi : IntsAre vs is) (ht : 1 ≤ s.toks)
    (hQ : ∀ s', (∀ b o, s.heap.get? b = some o → s'.heap.get? b = some o) → s'.os = s.os → s'.gens = s.gens → Q (.bool true) s') : wpAny (model prog w) A (call (.ref f) [.ref l]) Q E s := by
  have hr : ∀ {vs : List Value} {is : List Int}, IntsAre vs is → RepL ⟨prog, w, s.heap⟩ s.heap.get? vs (is.map .int) := by
    intro vs is h
    induction h with
    | nil => exact .nil
    | cons n t h ih => exact .cons (.int _ _) ih
  obtain ⟨o, ho, hcl, n, hdt⟩ := hl
  refine wpAny_mono (hc A s.heap.get? s [.ref l] hA (by omega) (by omega) (fun _ _ e => e) (fun _ _ e => e) ht (.one (.list ⟨o, ho, hcl, n, hdt⟩ (hr hi)))) ?_ (fun _ _ x => x.elim)
  rintro v s' ⟨g', sub, new, gin, keep, tk, R, r⟩
  cases R with
  | bool => exact hQ s' keep r.2.2 r.1

end

section
/-! the pattern on hosts -/
theorem ip_no {l : List Nat} (h : ∀ c ∈ l, ¬ (48 ≤ c ∧ c ≤ 57)) : Ip (S l) false := by
  refine search_no fun s hs _ h1 => ?_
  have e : (S l).cps.size = l.length := by simp [S]
  rw [e] at h1
  have : (S l).cps.getD (s + 1) 0 = l[s + 1] := by simp [S, h1]
  rw [this]
  have hn := h _ (List.getElem_mem h1)
  unfold Sre.isDigit
  rw [Bool.and_eq_false_iff, decide_eq_false_iff_not, decide_eq_false_iff_not]
  omega
theorem ip_yes {l : List Nat} (h : ∀ c ∈ l, ¬ (48 ≤ c ∧ c ≤ 57)) : Ip (S (l ++ [46, 55])) true := by
  have e : (S (l ++ [46, 55])).cps.size = l.length + 2 := by simp [S]
  refine search_yes (k := l.length) e ?_ ?_ fun s hs _ => ?_
  · simp [S]
  · have : (S (l ++ [46, 55])).cps.getD (l.length + 1) 0 = 55 := by simp [S]
    rw [this]; decide
  · by_cases q : s + 1 = l.length
    · have : (S (l ++ [46, 55])).cps.getD (s + 1) 0 = 46 := by rw [q]; simp [S]
      rw [this]; decide
    · have h1 : s + 1 < l.length := by omega
      have : (S (l ++ [46, 55])).cps.getD (s + 1) 0 = l[s + 1] := by
        have h2 : s + 1 < (l ++ [46, 55]).length := by simp; omega
        simp only [S, Array.getD_eq_getD_getElem?, List.getElem?_toArray]
        rw [List.getElem?_append_left h1, List.getElem?_eq_getElem h1]; rfl
      rw [this]
      have hn := h _ (List.getElem_mem h1)
      unfold Sre.isDigit
      rw [Bool.and_eq_false_iff, decide_eq_false_iff_not, decide_eq_false_iff_not]
      omega

end

section
/-! ### labels, joined by dots -/
noncomputable def jn : List (List Nat) → List Nat
  | [] => []
  | [a] => a
  | a :: b :: r => a ++ 46 :: jn (b :: r)
theorem jn_cons (a : List Nat) {r : List (List Nat)} (h : r ≠ []) : jn (a :: r) = a ++ 46 :: jn r := by
  cases r with
  | nil => exact absurd rfl h
  | cons b r => rfl
theorem split46 : ∀ (a b X Y : List Nat), a ++ 46 :: X = b ++ 46 :: Y → 46 ∉ a → 46 ∉ b → a = b ∧ X = Y
  | [], [], X, Y, h, _, _ => ⟨rfl, by simpa using h⟩
  | [], c :: b, X, Y, h, _, hb => by
    rw [List.nil_append, List.cons_append] at h
    injection h with h1 h2
    exact absurd (h1 ▸ List.mem_cons_self) hb
  | c :: a, [], X, Y, h, ha, _ => by
    rw [List.nil_append, List.cons_append] at h
    injection h with h1 h2
    exact absurd (h1 ▸ List.mem_cons_self) ha
  | c :: a, d :: b, X, Y, h, ha, hb => by
    rw [List.cons_append, List.cons_append] at h
    injection h with h1 h2
    obtain ⟨e1, e2⟩ := split46 a b X Y h2 (fun m => ha (List.mem_cons_of_mem _ m)) (fun m => hb (List.mem_cons_of_mem _ m))
    exact ⟨by rw [h1, e1], e2⟩
theorem jn_inj : ∀ (A B : List (List Nat)), A ≠ [] → B ≠ [] → (∀ a ∈ A, 46 ∉ a) → (∀ b ∈ B, 46 ∉ b) → jn A = jn B → A = B
  | [], _, h, _, _, _, _ => absurd rfl h
  | _, [], _, h, _, _, _ => absurd rfl h
  | [a], [b], _, _, _, _, h => by rw [show a = b from h]
  | [a], b :: b' :: B, _, _, hA, _, h => by
    have : 46 ∈ a := by rw [show a = b ++ 46 :: jn (b' :: B) from h]; simp
    exact absurd this (hA a List.mem_cons_self)
  | a :: a' :: A, [b], _, _, _, hB, h => by
    have : 46 ∈ b := by rw [show b = a ++ 46 :: jn (a' :: A) from h.symm]; simp
    exact absurd this (hB b List.mem_cons_self)
  | a :: a' :: A, b :: b' :: B, _, _, hA, hB, h => by
    obtain ⟨e1, e2⟩ := split46 a b _ _ h (hA a List.mem_cons_self) (hB b List.mem_cons_self)
    rw [e1, jn_inj (a' :: A) (b' :: B) (by simp) (by simp) (fun x hx => hA x (List.mem_cons_of_mem _ hx)) (fun x hx => hB x (List.mem_cons_of_mem _ hx)) e2]
/-- a dot and joined labels at the end of joined labels: just the last labels, but not all -/
theorem jn_suffix : ∀ (A B : List (List Nat)), A ≠ [] → B ≠ [] → (∀ a ∈ A, 46 ∉ a) → (∀ b ∈ B, 46 ∉ b) → ((46 :: jn B) <:+ jn A ↔ ∃ pre, pre ≠ [] ∧ A = pre ++ B)
  | [], _, h, _, _, _ => absurd rfl h
  | [a], B, _, hB, hA, _ => by
    constructor
    · intro ⟨t, ht⟩
      have : 46 ∈ a := by rw [show a = t ++ 46 :: jn B from ht.symm]; simp
      exact absurd this (hA a List.mem_cons_self)
    · rintro ⟨pre, hp, e⟩
      cases pre with
      | nil => exact absurd rfl hp
      | cons p pre =>
        rw [List.cons_append] at e
        injection e with _ e
        exact absurd (List.append_eq_nil_iff.mp e.symm).2 hB
  | a :: a' :: A, B, _, hB, hA, hBd => by
    have ih := jn_suffix (a' :: A) B (by simp) hB (fun x hx => hA x (List.mem_cons_of_mem _ hx)) hBd
    constructor
    · intro ⟨t, ht⟩
      have ht : t ++ 46 :: jn B = a ++ 46 :: jn (a' :: A) := ht
      by_cases q : 46 ∈ t
      · -- the dot lies behind the first one
        obtain ⟨t1, t2, e, h1⟩ := List.append_of_mem q |> fun ⟨s, u, e⟩ => (⟨s, u, e, trivial⟩ : ∃ s u, t = s ++ 46 :: u ∧ True)
        have hsuf : (46 :: jn B) <:+ jn (a' :: A) := by
          have hl := congrArg List.length ht
          have : ∃ u, u ++ 46 :: jn B = jn (a' :: A) := by
            have hm : (46 :: jn (a' :: A)) <:+ (a ++ 46 :: jn (a' :: A)) := ⟨a, rfl⟩
            have hm2 : (46 :: jn B) <:+ (a ++ 46 :: jn (a' :: A)) := ⟨t, ht⟩
            rcases Nat.lt_or_ge (jn B).length (jn (a' :: A)).length with hlt | hge
            · have h5 := List.suffix_of_suffix_length_le hm2 hm (by simp; omega)
              obtain ⟨u, hu⟩ := h5
              cases u with
              | nil =>
                rw [List.nil_append] at hu
                injection hu with _ hu
                rw [hu] at hlt
                exact absurd hlt (Nat.lt_irrefl _)
              | cons x u =>
                rw [List.cons_append] at hu
                injection hu with _ hu
                exact ⟨u, hu⟩
            · -- then the first label holds a dot
              have h5 := List.suffix_of_suffix_length_le hm hm2 (by simp; omega)
              obtain ⟨u, hu⟩ := h5
              rw [← hu, ← List.append_assoc] at ht
              have := List.append_cancel_right ht
              rw [← this] at hA
              exact absurd (List.mem_append_left _ q) (hA _ List.mem_cons_self)
          exact this
        obtain ⟨pre, hp, e⟩ := ih.mp hsuf
        exact ⟨a :: pre, by simp, by rw [e]; rfl⟩
      · obtain ⟨e1, e2⟩ := split46 t a _ _ ht q (hA a List.mem_cons_self)
        have := jn_inj B (a' :: A) hB (by simp) hBd (fun x hx => hA x (List.mem_cons_of_mem _ hx)) e2
        exact ⟨[a], by simp, by rw [this]; rfl⟩
    · rintro ⟨pre, hp, e⟩
      cases pre with
      | nil => exact absurd rfl hp
      | cons p pre =>
        rw [List.cons_append] at e
        injection e with e1 e2
        cases pre with
        | nil =>
          rw [List.nil_append] at e2
          rw [← e2]
          exact ⟨a, rfl⟩
        | cons x pre =>
          obtain ⟨t, ht⟩ := ih.mpr ⟨x :: pre, by simp, e2⟩
          exact ⟨a ++ 46 :: t, by rw [List.append_assoc, List.cons_append, ht]; rfl⟩

end

section
/-! ### what lies below what -/
noncomputable def rlab (r : List Nat) : List (List Nat) := if r = [121, 46, 110, 101, 116] then [[121], [110, 101, 116]] else if r = [121, 46, 120, 108, 111, 99, 97, 108] then [[121], [120, 108, 111, 99, 97, 108]] else [r]
theorem rlab_ok {r : List Nat} (hr : r ∈ rootL) : jn (rlab r) = r ∧ rlab r ≠ [] ∧ (∀ a ∈ rlab r, 46 ∉ a) ∧ ∀ a ∈ rlab r, ∃ c t, a = c :: t ∧ 102 < c := by
  rcases List.mem_cons.mp hr with rfl | hr
  · exact ⟨by decide, by decide, by decide, fun a ha => by rw [List.mem_singleton.mp (show a ∈ [[108, 111, 99, 97, 108]] from ha)]; exact ⟨108, _, rfl, by decide⟩⟩
  rcases List.mem_cons.mp hr with rfl | hr
  · refine ⟨by decide, by decide, by decide, fun a ha => ?_⟩
    have ha : a ∈ [[121], [110, 101, 116]] := ha
    rcases List.mem_cons.mp ha with rfl | ha
    · exact ⟨121, _, rfl, by decide⟩
    · rw [List.mem_singleton.mp ha]; exact ⟨110, _, rfl, by decide⟩
  rcases List.mem_cons.mp hr with rfl | hr
  · refine ⟨by decide, by decide, by decide, fun a ha => ?_⟩
    have ha : a ∈ [[121], [120, 108, 111, 99, 97, 108]] := ha
    rcases List.mem_cons.mp ha with rfl | ha
    · exact ⟨121, _, rfl, by decide⟩
    · rw [List.mem_singleton.mp ha]; exact ⟨120, _, rfl, by decide⟩
  cases hr

noncomputable def lbs (r : List Nat) (lab : Nat → Nat) (us : List Nat) : List (List Nat) := (us.filter fun u => u != 0).map (hdL lab) ++ rlab r
section
variable {shp lab : Nat → Nat} {r : List Nat}
theorem lbs_ne (hr : r ∈ rootL) (us : List Nat) : lbs r lab us ≠ [] := by
  unfold lbs
  exact fun h => (rlab_ok hr).2.1 (List.append_eq_nil_iff.mp h).2
theorem lbs_app (p q : List Nat) : lbs r lab (p ++ q) = (p.filter fun u => u != 0).map (hdL lab) ++ lbs r lab q := by
  unfold lbs
  rw [List.filter_append, List.map_append, List.append_assoc]
theorem lbs_nd (hr : r ∈ rootL) {us : List Nat} (hu : ∀ u ∈ us, u < 6) : ∀ a ∈ lbs r lab us, 46 ∉ a := by
  intro a ha
  rcases List.mem_append.mp ha with h | h
  · obtain ⟨u, hm, rfl⟩ := List.mem_map.mp h
    exact fun h46 => (hd_ok (hu u (List.mem_filter.mp hm).1) 46 h46).2 rfl
  · exact (rlab_ok hr).2.2.1 a h
theorem hd_first {k : Nat} (hk : k ≠ 0) : hdL lab k = (97 + k) :: sufL.getD (lab k % 8) [] := if_neg hk

theorem hL_lbs (hr : r ∈ rootL) (up : ∀ k, 1 ≤ k → k < 6 → shp k < k) : ∀ k, k < 6 → hL r lab shp k = jn (lbs r lab (UL shp k)) := by
  intro k
  induction k using Nat.strongRecOn with
  | ind k ih =>
    intro hk
    rcases Nat.eq_zero_or_pos k with h | h
    · subst h
      show r = jn (rlab r)
      exact (rlab_ok hr).1.symm
    · have hs := up k h hk
      rw [hL_succ up h hk, ih (shp k) hs (by omega), UL_succ up h hk]
      have : lbs r lab (k :: UL shp (shp k)) = hdL lab k :: lbs r lab (UL shp (shp k)) := by
        have hne : (k != 0) = true := by rw [bne_iff_ne]; omega
        unfold lbs
        rw [List.filter_cons, if_pos hne]; rfl
      rw [this, jn_cons _ (lbs_ne hr _)]

/-- a label of a host, told by its first sign -/
theorem hd_in (hr : r ∈ rootL) {us : List Nat} {k : Nat} (hk : k ≠ 0) (hk6 : k < 6) (h : hdL lab k ∈ lbs r lab us) : k ∈ us := by
  rcases List.mem_append.mp h with h | h
  · obtain ⟨u, hm, e⟩ := List.mem_map.mp h
    have hu := List.mem_filter.mp hm
    have hu0 : u ≠ 0 := by simpa using hu.2
    rw [hd_first hu0, hd_first hk] at e
    injection e with e _
    have : u = k := by omega
    rw [← this]; exact hu.1
  · obtain ⟨c, t, e, hc⟩ := (rlab_ok hr).2.2.2 _ h
    rw [hd_first hk] at e
    injection e with e _
    omega

/-- below: told by the names -/
theorem below_iff (hr : r ∈ rootL) (up : ∀ k, 1 ≤ k → k < 6 → shp k < k) {low high : Nat} (hl : low < 6) (hh : high < 6) : (46 :: hL r lab shp high) <:+ hL r lab shp low ↔ high ∈ (UL shp low).drop 1 := by
  have lt : ∀ k, k < 6 → ∀ u ∈ UL shp k, u < 6 := fun k hk u hu => Nat.lt_of_le_of_lt (UL_lt up k hk u hu) hk
  rw [hL_lbs hr up high hh, hL_lbs hr up low hl, jn_suffix _ _ (lbs_ne hr _) (lbs_ne hr _) (lbs_nd hr (lt low hl)) (lbs_nd hr (lt high hh))]
  rcases Nat.eq_zero_or_pos low with h0 | h0
  · subst h0
    constructor
    · rintro ⟨pre, hp, e⟩
      exfalso
      have e1 : lbs r lab (UL shp 0) = rlab r := rfl
      have e2 := congrArg List.length e
      rw [e1, List.length_append] at e2
      unfold lbs at e2
      rw [List.length_append] at e2
      have : pre.length ≠ 0 := fun h => hp (List.length_eq_zero_iff.mp h)
      omega
    · intro h; cases h
  · have hs := up low h0 hl
    have eU := UL_succ up h0 hl
    have hne : (low != 0) = true := by rw [bne_iff_ne]; omega
    have eL : lbs r lab (UL shp low) = hdL lab low :: lbs r lab (UL shp (shp low)) := by
      rw [eU]; unfold lbs
      rw [List.filter_cons, if_pos hne]; rfl
    have eD : (UL shp low).drop 1 = UL shp (shp low) := by rw [eU]; rfl
    rw [eD, eL]
    constructor
    · rintro ⟨pre, hp, e⟩
      rcases Nat.eq_zero_or_pos high with h1 | h1
      · subst h1; exact UL_zero_mem up _ (by omega)
      · cases pre with
        | nil => exact absurd rfl hp
        | cons p pre =>
          rw [List.cons_append] at e
          injection e with _ e
          have eH : lbs r lab (UL shp high) = hdL lab high :: lbs r lab (UL shp (shp high)) := by
            have hne : (high != 0) = true := by rw [bne_iff_ne]; omega
            rw [UL_succ up h1 hh]; unfold lbs
            rw [List.filter_cons, if_pos hne]; rfl
          refine hd_in hr (by omega) hh (lab := lab) ?_
          rw [e, eH]
          exact List.mem_append_right _ List.mem_cons_self
    · intro h
      obtain ⟨pre, e, _⟩ := UL_suffix up (shp low) (by omega) high h
      exact ⟨hdL lab low :: (pre.filter fun u => u != 0).map (hdL lab), by simp, by rw [e, lbs_app]; rfl⟩
end

end

section
section
variable {shp lab : Nat → Nat} {r : List Nat}
theorem lbs_head (hr : r ∈ rootL) (up : ∀ k, 1 ≤ k → k < 6 → shp k < k) {k : Nat} (hk : k < 6) : ∃ a l, lbs r lab (UL shp k) = a :: l ∧ (k ≠ 0 → a = hdL lab k) ∧ (k = 0 → ∃ c t, a = c :: t ∧ 102 < c) := by
  rcases Nat.eq_zero_or_pos k with h | h
  · subst h
    show ∃ a l, rlab r = a :: l ∧ _
    cases e : rlab r with
    | nil => exact absurd e (rlab_ok hr).2.1
    | cons a l => exact ⟨a, l, rfl, fun h => absurd rfl h, fun _ => (rlab_ok hr).2.2.2 a (e ▸ List.mem_cons_self)⟩
  · refine ⟨hdL lab k, lbs r lab (UL shp (shp k)), ?_, fun _ => rfl, fun h' => by omega⟩
    have hne : (k != 0) = true := by rw [bne_iff_ne]; omega
    rw [UL_succ up h hk]; unfold lbs
    rw [List.filter_cons, if_pos hne]; rfl
theorem hL_inj (hr : r ∈ rootL) (up : ∀ k, 1 ≤ k → k < 6 → shp k < k) {i j : Nat} (hi : i < 6) (hj : j < 6) (h : hL r lab shp i = hL r lab shp j) : i = j := by
  have lt : ∀ k, k < 6 → ∀ u ∈ UL shp k, u < 6 := fun k hk u hu => Nat.lt_of_le_of_lt (UL_lt up k hk u hu) hk
  rw [hL_lbs hr up i hi, hL_lbs hr up j hj] at h
  have e := jn_inj _ _ (lbs_ne hr _) (lbs_ne hr _) (lbs_nd hr (lt i hi)) (lbs_nd hr (lt j hj)) h
  obtain ⟨a, l, e1, a1, a2⟩ := lbs_head (lab := lab) hr up hi
  obtain ⟨b, m, e2, b1, b2⟩ := lbs_head (lab := lab) hr up hj
  rw [e1, e2] at e
  injection e with e _
  subst e
  by_cases h0 : i = 0
  · by_cases h1 : j = 0
    · omega
    · obtain ⟨c, t, q1, q2⟩ := a2 h0
      have q3 := b1 h1
      rw [hd_first h1] at q3
      rw [q3] at q1
      injection q1 with q1 _
      omega
  · have q := a1 h0
    rw [hd_first h0] at q
    by_cases h1 : j = 0
    · obtain ⟨c, t, q1, q2⟩ := b2 h1
      rw [q] at q1
      injection q1 with q1 _
      omega
    · have q3 := b1 h1
      rw [hd_first h1, q] at q3
      injection q3 with q3 _
      omega

/-- strs of hosts' signs are in order -/
theorem strOk_S {l : List Nat} (h : ∀ c ∈ l, c < 128) : PyData.strOk (S l) = true := by
  unfold PyData.strOk S
  simp only [List.all_toArray, List.all_eq_true, decide_eq_true_eq]
  intro c hc
  have := h c hc
  omega
end

end

section
open StrLaws in
theorem chain_unique {x y : Str} {hi : Nat} : ∀ (cuts cuts' : List Nat) (a f f' : Nat), ChainG x y hi a cuts f → (∀ k, f ≤ k → ¬ At x y hi k) → ChainG x y hi a cuts' f' → (∀ k, f' ≤ k → ¬ At x y hi k) → cuts = cuts'
  | [], [], _, _, _, _, _, _, _ => rfl
  | [], c :: r, a, f, f', h, hf, h', _ => by
    have e : f = a := h
    exact absurd h'.2.1 (hf c (e ▸ h'.1))
  | c :: r, [], a, f, f', h, _, h', hf' => by
    have e : f' = a := h'
    exact absurd h.2.1 (hf' c (e ▸ h.1))
  | c :: r, c' :: r', a, f, f', h, hf, h', hf' => by
    have : c = c' := by
      rcases Nat.lt_trichotomy c c' with q | q | q
      · exact absurd h.2.1 (h'.2.2.1 c h.1 q)
      · exact q
      · exact absurd h'.2.1 (h.2.2.1 c' h'.1 q)
    subst this
    rw [chain_unique r r' _ f f' h.2.2.2 hf h'.2.2.2 hf']
open StrLaws in
theorem split_cuts {x y : Str} {cuts : List Nat} {f : Nat} (hw : 1 ≤ y.length) (hy : Builtin.Str.strKind y = 1) (hc : cuts ≠ []) (h : ChainG x y x.length 0 cuts f) (hf : ∀ k, f ≤ k → ¬ At x y x.length k) : Txt.split x y = partsFrom x y.length 0 cuts := by
  obtain ⟨f', h', hf'⟩ := occ_tight x y hw
  have e := chain_unique _ _ _ _ _ h hf h' hf'
  cases cuts with
  | nil => exact absurd rfl hc
  | cons c r =>
    have hlen : ¬ x.length < y.length := by have := h.2.1.1; omega
    have hk : ¬ Builtin.Str.strKind x < Builtin.Str.strKind y := by
      rw [hy]
      unfold Builtin.Str.strKind
      split
      · decide
      · split <;> decide
    unfold Txt.split
    rw [decide_eq_false hlen, decide_eq_false hk, if_neg (by decide), ← e]
    rw [if_neg (by simp)]
    exact partsBetween_eq _ _ _

end

section
/-! ### three dots -/
noncomputable def Dots : List Nat := [46, 46, 46]
theorem at_dots (l : List Nat) (i : Nat) : StrLaws.At (S l) (S Dots) (S l).length i ↔ l[i]? = some 46 ∧ l[i + 1]? = some 46 ∧ l[i + 2]? = some 46 := by
  unfold StrLaws.At
  rw [sub_at, S_len, S_len, beq_iff_eq]
  show i + 3 ≤ l.length ∧ (l.drop i).take 3 = [46, 46, 46] ↔ _
  constructor
  · rintro ⟨h1, h2⟩
    have g : ∀ k, k < 3 → l[i + k]? = ((l.drop i).take 3)[k]? := fun k hk => by rw [List.getElem?_take_of_lt hk, List.getElem?_drop]
    exact ⟨by rw [show l[i]? = l[i + 0]? from rfl, g 0 (by decide), h2]; rfl, by rw [g 1 (by decide), h2]; rfl, by rw [g 2 (by decide), h2]; rfl⟩
  · rintro ⟨h1, h2, h3⟩
    have hl : i + 2 < l.length := by
      rcases Nat.lt_or_ge (i + 2) l.length with q | q
      · exact q
      · rw [List.getElem?_eq_none q] at h3; cases h3
    refine ⟨by omega, ?_⟩
    apply List.ext_getElem?
    intro k
    rcases Nat.lt_or_ge k 3 with hk | hk
    · rw [List.getElem?_take_of_lt hk, List.getElem?_drop]
      match k, hk with
      | 0, _ => exact h1
      | 1, _ => exact h2
      | 2, _ => exact h3
    · rw [List.getElem?_eq_none (by rw [List.length_take, List.length_drop]; omega), List.getElem?_eq_none (by simpa using hk)]
/-- no two dots in a row -/
noncomputable def NoDD (l : List Nat) : Prop := ∀ i, ¬ (l[i]? = some 46 ∧ l[i + 1]? = some 46)
theorem contains_dots (l : List Nat) : Txt.contains (S l) (S Dots) = true ↔ ∃ i, l[i]? = some 46 ∧ l[i + 1]? = some 46 ∧ l[i + 2]? = some 46 := by
  have := StrLaws.found_iff (S l) (S Dots)
  unfold Txt.contains
  rw [this]
  constructor
  · rintro ⟨i, h⟩; exact ⟨i, (at_dots l i).mp h⟩
  · rintro ⟨i, h⟩; exact ⟨i, (at_dots l i).mpr h⟩
theorem contains_no {l : List Nat} (h : NoDD l) : Txt.contains (S l) (S Dots) = false := by
  cases e : Txt.contains (S l) (S Dots) with
  | false => rfl
  | true =>
    obtain ⟨i, h1, h2, _⟩ := (contains_dots l).mp e
    exact absurd ⟨h1, h2⟩ (h i)
section
variable {shp lab : Nat → Nat} {r : List Nat}
theorem noDD_free {l : List Nat} (h : 46 ∉ l) : NoDD l := fun i q => h (List.mem_of_getElem? q.1)
theorem noDD_cons {h p : List Nat} {c : Nat} (hh : 46 ∉ h) (hp : NoDD p) (hc : p[0]? = some c) (hc46 : c ≠ 46) : NoDD (h ++ 46 :: p) := by
  intro i ⟨h1, h2⟩
  rcases Nat.lt_trichotomy i h.length with q | q | q
  · rw [List.getElem?_append_left q] at h1
    exact hh (List.mem_of_getElem? h1)
  · rw [List.getElem?_append_right (by omega)] at h2
    rw [show i + 1 - h.length = 0 + 1 by omega, List.getElem?_cons_succ, hc] at h2
    injection h2 with h2
    exact hc46 h2
  · rw [List.getElem?_append_right (by omega)] at h1 h2
    rw [show i - h.length = (i - h.length - 1) + 1 by omega, List.getElem?_cons_succ] at h1
    rw [show i + 1 - h.length = (i - h.length - 1 + 1) + 1 by omega, List.getElem?_cons_succ] at h2
    exact hp _ ⟨h1, h2⟩
theorem hL_noDD (hr : r ∈ rootL) (up : ∀ k, 1 ≤ k → k < 6 → shp k < k) : ∀ k, k < 6 → NoDD (hL r lab shp k) := by
  intro k
  induction k using Nat.strongRecOn with
  | ind k ih =>
    intro hk
    rcases Nat.eq_zero_or_pos k with h | h
    · subst h
      show NoDD r
      rcases List.mem_cons.mp hr with rfl | hr
      · exact noDD_free (by decide)
      rcases List.mem_cons.mp hr with rfl | hr
      · exact noDD_cons (h := [121]) (p := [110, 101, 116]) (by decide) (noDD_free (by decide)) rfl (by decide)
      rcases List.mem_cons.mp hr with rfl | hr
      · exact noDD_cons (h := [121]) (p := [120, 108, 111, 99, 97, 108]) (by decide) (noDD_free (by decide)) rfl (by decide)
      cases hr
    · have hs := up k h hk
      obtain ⟨_, _, ⟨c, hc, hc46⟩, _⟩ := hL_ok (lab := lab) hr up (shp k) (by omega)
      rw [hL_succ up h hk]
      exact noDD_cons (fun q => (hd_ok hk 46 q).2 rfl) (ih (shp k) hs (by omega)) hc hc46
end

end

section
theorem kind_dots : Builtin.Str.strKind (S Dots) = 1 := by decide +kernel
theorem sub_S (l : List Nat) (i j : Nat) : Builtin.Str.strSub (S l) i j = S ((l.drop i).take (j - i)) := by
  rw [S_of (Builtin.Str.strSub _ _ _), StrLaws.strSub_toList, S_cps]
theorem split_two {h : List Nat} {c : Nat} (hh : NoDD h) (hc : h[0]? = some c) (hc46 : c ≠ 46) : Txt.split (S (35 :: 32 :: 46 :: 46 :: 46 :: 46 :: h)) (S Dots) = [S [35, 32], S (46 :: h)] := by
  rw [split_cuts (cuts := [2]) (f := 5) (by decide) kind_dots (by decide) ⟨Nat.zero_le _, (at_dots _ _).mpr ⟨rfl, rfl, rfl⟩, fun k _ hk => ?_, rfl⟩ fun k hk => ?_]
  · show [Builtin.Str.strSub _ 0 2, Builtin.Str.strSub _ 5 (S _).length] = _
    rw [sub_S, sub_S, S_len]
    congr 3
    show (46 :: h).take _ = _
    rw [List.take_of_length_le (by simp)]
  · rw [at_dots]
    rintro ⟨h1, _⟩
    match k, hk with
    | 0, _ => simp at h1
    | 1, _ => simp at h1
  · rw [at_dots]
    rintro ⟨h1, h2, h3⟩
    match k, hk with
    | 5, _ =>
      have : (h[0]? : Option Nat) = some 46 := h2
      rw [hc] at this
      injection this with this
      exact hc46 this
    | k + 6, _ => exact hh k ⟨h1, h2⟩

end

section
theorem split_three {d h : List Nat} {c : Nat} (hd : 46 ∉ d) (hd0 : d ≠ []) (hh : NoDD h) (hc : h[0]? = some c) (hc46 : c ≠ 46) :
    Txt.split (S (35 :: 32 :: 46 :: 46 :: 46 :: 46 :: (d ++ 46 :: 46 :: 46 :: 46 :: h))) (S Dots) = [S [35, 32], S (46 :: d), S (46 :: h)] := by
  generalize hl : 35 :: 32 :: 46 :: 46 :: 46 :: 46 :: (d ++ 46 :: 46 :: 46 :: 46 :: h) = l
  have hlen : l.length = 6 + d.length + 4 + h.length := by rw [← hl]; simp; omega
  have g1 : ∀ j, j < d.length → l[j + 6]? = d[j]? := fun j hj => by
    rw [← hl]
    show (d ++ 46 :: 46 :: 46 :: 46 :: h)[j]? = _
    rw [List.getElem?_append_left hj]
  have g2 : ∀ m, l[(d.length + m) + 6]? = (46 :: 46 :: 46 :: 46 :: h)[m]? := fun m => by
    rw [← hl]
    show (d ++ 46 :: 46 :: 46 :: 46 :: h)[d.length + m]? = _
    rw [List.getElem?_append_right (by omega)]
    congr 1
    omega
  rw [split_cuts (cuts := [2, d.length + 6]) (f := d.length + 9) (by decide) kind_dots (by simp) ⟨Nat.zero_le _, (at_dots _ _).mpr ?_, fun k _ hk => ?_, ?_, (at_dots _ _).mpr ?_, fun k hk1 hk2 => ?_, rfl⟩ fun k hk => ?_]
  · show [Builtin.Str.strSub _ 0 2, Builtin.Str.strSub _ 5 (d.length + 6), Builtin.Str.strSub _ (d.length + 9) (S _).length] = _
    rw [sub_S, sub_S, sub_S, S_len, hlen]
    have e1 : (l.drop 0).take (2 - 0) = [35, 32] := by rw [← hl]; rfl
    have e2 : (l.drop 5).take (d.length + 6 - 5) = 46 :: d := by
      rw [← hl]
      show (46 :: (d ++ 46 :: 46 :: 46 :: 46 :: h)).take (d.length + 6 - 5) = _
      rw [show d.length + 6 - 5 = d.length + 1 by omega, List.take_succ_cons, List.take_left]
    have e3 : (l.drop (d.length + 9)).take (6 + d.length + 4 + h.length - (d.length + 9)) = 46 :: h := by
      rw [← hl, show d.length + 9 = (d.length + 3) + 6 by omega]
      show ((d ++ 46 :: 46 :: 46 :: 46 :: h).drop (d.length + 3)).take _ = _
      rw [List.drop_append, List.drop_eq_nil_of_le (by omega), List.nil_append, show d.length + 3 - d.length = 3 by omega]
      show (46 :: h).take _ = _
      rw [List.take_of_length_le (by simp; omega)]
    rw [e1, e2, e3]
  · rw [← hl]; exact ⟨rfl, rfl, rfl⟩
  · show 2 + 3 ≤ d.length + 6; omega
  · exact ⟨g2 0, g2 1, g2 2⟩
  · rw [at_dots]
    rintro ⟨h1, _⟩
    rw [← hl] at h1
    match k, hk with
    | 0, _ => simp at h1
    | 1, _ => simp at h1
  · have hk1 : 5 ≤ k := hk1
    rw [at_dots]
    rintro ⟨h1, h2, _⟩
    by_cases q : k = 5
    · subst q
      have h3 := g1 0 (List.length_pos_iff.mpr hd0)
      rw [show 5 + 1 = 0 + 6 from rfl, h3] at h2
      exact hd (List.mem_of_getElem? h2)
    · have h3 := g1 (k - 6) (by omega)
      rw [show k - 6 + 6 = k by omega, h1] at h3
      exact hd (List.mem_of_getElem? h3.symm)
  · rw [at_dots]
    rintro ⟨h1, h2, _⟩
    by_cases q : k = d.length + 9
    · subst q
      have h3 := g2 4
      rw [show d.length + 4 + 6 = d.length + 9 + 1 by omega, h2] at h3
      have h3 : some 46 = h[0]? := h3
      rw [hc] at h3
      injection h3 with h3
      exact hc46 h3.symm
    · have h3 := g2 (k - 6 - d.length)
      have h4 := g2 (k - 6 - d.length + 1)
      rw [show d.length + (k - 6 - d.length) + 6 = k by omega, h1] at h3
      rw [show d.length + (k - 6 - d.length + 1) + 6 = k + 1 by omega, h2] at h4
      rw [show k - 6 - d.length = (k - 10 - d.length) + 4 by omega] at h3 h4
      exact hh (k - 10 - d.length) ⟨h3.symm, h4.symm⟩

end

section
open StrLaws Builtin Builtin.Str in
theorem occ_from (x y : Str) (lo hi : Nat) : (occurrences x y lo hi 1 = [] ∧ ∀ k, lo ≤ k → ¬ At x y hi k) ∨ ∃ k r, occurrences x y lo hi 1 = k :: r ∧ lo ≤ k ∧ At x y hi k := by
  rw [occ_eq]
  rcases occ_first x y hi 1 (Nat.le_refl _) (List.range' lo (hi + 1 - lo)) lo (fun i hi => by simp [List.mem_range'] at hi; omega) with ⟨h0, hn⟩ | ⟨pre, a, post, e, h0, ha, hn⟩
  · refine .inl ⟨by rw [h0], fun i hi1 hi2 => ?_⟩
    exact hn i (List.mem_range'.mpr ⟨i - lo, by have := hi2.1; omega, by omega⟩) hi2
  · refine .inr ⟨a, ((forIn (List.range' lo (hi + 1 - lo)) ((#[] : Array Nat), lo) (occBody x y hi 1)).run.fst.toList).tail, ?_, ?_, ha⟩
    · generalize (forIn (List.range' lo (hi + 1 - lo)) ((#[] : Array Nat), lo) (occBody x y hi 1)).run.fst = arr at h0
      have h1 : arr.toList[0]? = some a := by simpa using h0
      cases hL : arr.toList with
      | nil => rw [hL] at h1; cases h1
      | cons b t => rw [hL] at h1; simp at h1; rw [h1]; rfl
    · have : a ∈ List.range' lo (hi + 1 - lo) := by rw [e]; simp
      simp [List.mem_range'] at this
      omega
theorem find4_at (x y : Str) {i j : Nat} (hi : i ≤ x.length) (hj : j ≤ x.length) : decide (find4 x y i j < 0) = true ↔ ∀ k, i ≤ k → ¬ StrLaws.At x y j k := by
  have e1 : PySem.fromIndex x.length (i : Int) = i := by unfold PySem.fromIndex; split <;> omega
  have e2 : min (PySem.fromIndex x.length (j : Int)) x.length = j := by
    have : PySem.fromIndex x.length (j : Int) = j := by unfold PySem.fromIndex; split <;> omega
    rw [this]; omega
  unfold find4
  rw [e1, e2]
  rcases occ_from x y i j with ⟨e, hn⟩ | ⟨k, r, e, h1, h2⟩
  · rw [e]
    exact ⟨fun _ => hn, fun _ => by decide⟩
  · rw [e, decide_eq_true_eq]
    exact ⟨fun h => absurd h (by show ¬ ((k : Int) < 0); omega), fun h => absurd h2 (h k h1)⟩

end

section
/-! hosts in small and great letters -/
noncomputable def Low (l : List Nat) : Prop := ∀ c ∈ l, c < 128 ∧ ¬ (65 ≤ c ∧ c ≤ 90)
theorem upp_map {l : List Nat} (h : Low l) : (∀ c ∈ l.map uppA, c < 128) ∧ (l.map uppA).map lowA = l := by
  constructor
  · intro c hc
    obtain ⟨d, hd, rfl⟩ := List.mem_map.mp hc
    have := h d hd
    unfold uppA
    split <;> omega
  · rw [List.map_map]
    refine map_same fun c hc => ?_
    have := h c hc
    show lowA (uppA c) = c
    unfold lowA uppA
    split <;> split <;> omega
/-- a host in small or in great letters, with something before and behind -/
theorem lower_mid {b : Bool} {a l e : List Nat} (ha : Low a) (hl : Low l) (he : Low e) : Txt.lower (S a ++ (if b = true then Txt.upper (S l) else S l) ++ S e) = S (a ++ l ++ e) := by
  cases b with
  | true =>
    rw [if_pos rfl, upper_S l fun c hc => (hl c hc).1, S_app, S_app, lower_S]
    · rw [List.map_append, List.map_append, (upp_map hl).2, map_same, map_same]
      · intro c hc; unfold lowA; rw [if_neg (he c hc).2]
      · intro c hc; unfold lowA; rw [if_neg (ha c hc).2]
    · intro c hc
      rcases List.mem_append.mp hc with hc | hc
      · rcases List.mem_append.mp hc with hc | hc
        · exact (ha c hc).1
        · exact (upp_map hl).1 c hc
      · exact (he c hc).1
  | false =>
    rw [if_neg Bool.false_ne_true, S_app, S_app, lower_same]
    intro c hc
    rcases List.mem_append.mp hc with hc | hc
    · rcases List.mem_append.mp hc with hc | hc
      · exact ha c hc
      · exact hl c hc
    · exact he c hc
theorem Low.nil : Low [] := fun c h => by cases h
theorem nil_S (x : Str) : S [] ++ x = x := by rw [S_of x, S_app]; rfl
theorem S_nil (x : Str) : x ++ S [] = x := by rw [S_of x, S_app, List.append_nil]

end

section
section
variable {W : Wd} {a : Nat → Addr} {shp lab : Nat → Nat} {r : List Nat}
theorem low_hL (hr : r ∈ rootL) (up : ∀ k, 1 ≤ k → k < 6 → shp k < k) {k : Nat} (hk : k < 6) : Low (hL r lab shp k) := fun c hc => by
  have := okc_lt ((hL_ok hr up k hk).2.1 c hc)
  exact ⟨this.1, this.2.1⟩
theorem dig_hL (hr : r ∈ rootL) (up : ∀ k, 1 ≤ k → k < 6 → shp k < k) {k : Nat} (hk : k < 6) : ∀ c ∈ hL r lab shp k, ¬ (48 ≤ c ∧ c ≤ 57) := fun c hc => (okc_lt ((hL_ok hr up k hk).2.1 c hc)).2.2.2.1
theorem dueV_iff (low high : Nat) (U : Nat → List Nat) : dueV U low high = decide (high ∈ (U low).drop 1) := by
  unfold dueV
  rw [Bool.eq_iff_iff, List.any_eq_true, decide_eq_true_eq]
  constructor
  · rintro ⟨x, hx, e⟩; rw [← eq_of_beq e]; exact hx
  · intro h; exact ⟨high, h, beq_self_eq_true _⟩

theorem tb_below (G : Gl W a) (P : PatAt W.H (a 2)) (hr : r ∈ rootL) (up : ∀ k, 1 ≤ k → k < 6 → shp k < k) {low high : Nat} (hl : low < 6) (hh : high < 6) :
    FnC W (a 5) 2 [.str (hostV (fun k => S (hL r lab shp k)) low), .str ("." ++ hostV (fun k => S (hL r lab shp k)) high)] (.bool (dueV (UL shp) low high)) := by
  have d1 : (Str.ofString ".") = S [46] := by decide +kernel
  have e1 : Txt.lower (hostV (fun k => S (hL r lab shp k)) low) = S (hL r lab shp low) := by
    have := lower_mid (b := low % 2 == 1) Low.nil (low_hL (lab := lab) hr up hl) Low.nil
    rw [nil_S, S_nil, List.nil_append, List.append_nil] at this
    exact this
  have l46 : Low [46] := fun c hc => by rw [List.mem_singleton.mp hc]; decide
  have e2 : Txt.lower ("." ++ hostV (fun k => S (hL r lab shp k)) high) = S (46 :: hL r lab shp high) := by
    have := lower_mid (b := high % 2 == 1) l46 (low_hL (lab := lab) hr up hh) Low.nil
    rw [S_nil, List.append_nil] at this
    rw [d1]
    exact this
  have n1 := (hL_ok (lab := lab) hr up low hl).1
  have n2 := (hL_ok (lab := lab) hr up high hh).1
  have len : ∀ k, k < 6 → (hostV (fun k => S (hL r lab shp k)) k).length ≤ 100 := fun k hk => by
    have n := (hL_ok (lab := lab) hr up k hk).1
    unfold hostV
    split
    · rw [upper_S _ fun c hc => (low_hL hr up hk c hc).1, S_len, List.length_map]; omega
    · rw [S_len]; omega
  have c := c5_name G P (x := hostV (fun k => S (hL r lab shp k)) low) (y := "." ++ hostV (fun k => S (hL r lab shp k)) high) (by have := len low hl; omega) (by rw [Str.length_append, d1, S_len]; have := len high hh; simp; omega)
    (by rw [e1, S_len]; omega) (by rw [e2, S_len]; simp; omega) (by rw [e1]; exact ip_no (dig_hL hr up hl)) (by
      rw [e2]
      refine ip_no fun c hc => ?_
      rcases List.mem_cons.mp hc with rfl | hc
      · omega
      · exact dig_hL hr up hh c hc)
  rw [e1, e2] at c
  have : udm (S (hL r lab shp low)) (S (46 :: hL r lab shp high)) = dueV (UL shp) low high := by
    unfold udm
    rw [d1, startswith_S, if_pos (decide_eq_true ⟨hL r lab shp high, rfl⟩), endswith_S, dueV_iff]
    rw [decide_eq_decide]
    exact below_iff hr up hl hh
  rw [this] at c
  exact c
end

end

section
section
variable {W : Wd} {a : Nat → Addr} {shp lab : Nat → Nat} {r : List Nat}
theorem tb_first (G : Gl W a) (P : PatAt W.H (a 2)) (hr : r ∈ rootL) (up : ∀ k, 1 ≤ k → k < 6 → shp k < k) {low : Nat} (hl : low < 6) :
    FnC W (a 5) 2 [.str (hostV (fun k => S (hL r lab shp k)) low), .str (Txt.upper (S (hL r lab shp 0)))] (.bool ((low : Int) == 0)) := by
  have d1 : (Str.ofString ".") = S [46] := by decide +kernel
  have e1 : Txt.lower (hostV (fun k => S (hL r lab shp k)) low) = S (hL r lab shp low) := by
    have := lower_mid (b := low % 2 == 1) Low.nil (low_hL (lab := lab) hr up hl) Low.nil
    rw [nil_S, S_nil, List.nil_append, List.append_nil] at this
    exact this
  have e2 : Txt.lower (Txt.upper (S (hL r lab shp 0))) = S (hL r lab shp 0) := lower_upper (low_hL hr up (by decide))
  have n1 := (hL_ok (lab := lab) hr up low hl).1
  have n2 := (hL_ok (lab := lab) hr up 0 (by decide)).1
  have len : (hostV (fun k => S (hL r lab shp k)) low).length ≤ 100 := by
    unfold hostV
    split
    · rw [upper_S _ fun c hc => (low_hL hr up hl c hc).1, S_len, List.length_map]; omega
    · rw [S_len]; omega
  have c := c5_name G P (x := hostV (fun k => S (hL r lab shp k)) low) (y := Txt.upper (S (hL r lab shp 0))) (by omega) (by rw [upper_S _ fun c hc => (low_hL hr up (by decide) c hc).1, S_len, List.length_map]; omega)
    (by rw [e1, S_len]; omega) (by rw [e2, S_len]; omega) (by rw [e1]; exact ip_no (dig_hL hr up hl)) (by rw [e2]; exact ip_no (dig_hL hr up (by decide)))
  rw [e1, e2] at c
  have : udm (S (hL r lab shp low)) (S (hL r lab shp 0)) = ((low : Int) == 0) := by
    unfold udm
    obtain ⟨c0, hc0, hne⟩ := (hL_ok (lab := lab) hr up 0 (by decide)).2.2.1
    have hnp : ¬ ([46] <+: hL r lab shp 0) := by
      rintro ⟨t, ht⟩
      rw [← ht] at hc0
      injection hc0 with hc0
      exact hne hc0.symm
    rw [d1, startswith_S, decide_eq_false hnp, if_neg Bool.false_ne_true, S_beq]
    rw [Bool.eq_iff_iff, decide_eq_true_eq, beq_iff_eq]
    constructor
    · intro h
      have := hL_inj hr up hl (by decide) h
      omega
    · intro h
      have : low = 0 := by omega
      rw [this]
  rw [this] at c
  exact c
end

end

section
section
variable {W : Wd} {a : Nat → Addr} {shp lab : Nat → Nat} {r : List Nat}
theorem tb_numb (G : Gl W a) (P : PatAt W.H (a 2)) (hr : r ∈ rootL) (up : ∀ k, 1 ≤ k → k < 6 → shp k < k) {low : Nat} (hl : low < 6) :
    FnC W (a 5) 2 [.str (hostV (fun k => S (hL r lab shp k)) low ++ ".7"), .str (otherV (fun k => S (hL r lab shp k)) low ++ ".7")] (.bool (((low % 2 : Nat) : Int) == 0)) := by
  have d1 : (Str.ofString ".") = S [46] := by decide +kernel
  have d7 : (Str.ofString ".7") = S [46, 55] := by decide +kernel
  have l7 : Low [46, 55] := fun c hc => by
    rcases List.mem_cons.mp hc with rfl | hc
    · decide
    · rw [List.mem_singleton.mp hc]; decide
  have l46 : Low [46] := fun c hc => by rw [List.mem_singleton.mp hc]; decide
  have hlow := low_hL (lab := lab) hr up hl
  have h0 := low_hL (lab := lab) (shp := shp) hr up (show 0 < 6 by decide)
  have e1 : Txt.lower (hostV (fun k => S (hL r lab shp k)) low ++ ".7") = S (hL r lab shp low ++ [46, 55]) := by
    have := lower_mid (b := low % 2 == 1) Low.nil hlow l7
    rw [nil_S, List.nil_append] at this
    rw [d7]; exact this
  have n1 := (hL_ok (lab := lab) hr up low hl).1
  have n2 := (hL_ok (lab := lab) hr up 0 (by decide)).1
  have len : (hostV (fun k => S (hL r lab shp k)) low).length ≤ 100 := by
    unfold hostV
    split
    · rw [upper_S _ fun c hc => (hlow c hc).1, S_len, List.length_map]; omega
    · rw [S_len]; omega
  have len2 : (otherV (fun k => S (hL r lab shp k)) low).length ≤ 100 := by
    unfold otherV
    split
    · rw [Str.length_append, d1, S_len, S_len]; simp; omega
    · rw [upper_S _ fun c hc => (hlow c hc).1, S_len, List.length_map]; omega
  have e2 : Txt.lower (otherV (fun k => S (hL r lab shp k)) low ++ ".7") = if (low % 2 == 1) = true then S (46 :: hL r lab shp 0 ++ [46, 55]) else S (hL r lab shp low ++ [46, 55]) := by
    unfold otherV
    split
    · have := lower_mid (b := false) l46 h0 l7
      rw [if_neg Bool.false_ne_true] at this
      rw [d1, d7]; exact this
    · have := lower_mid (b := true) Low.nil hlow l7
      rw [if_pos rfl, nil_S, List.nil_append] at this
      rw [d7]; exact this
  have c := c5_ip (b := true) G P (x := hostV (fun k => S (hL r lab shp k)) low ++ ".7") (y := otherV (fun k => S (hL r lab shp k)) low ++ ".7") (by rw [Str.length_append, d7, S_len]; simp; omega) (by rw [Str.length_append, d7, S_len]; simp; omega)
    (by rw [e1, S_len]; simp; omega) (by rw [e2]; split <;> (rw [S_len]; simp; omega)) (by rw [e1]; exact ip_yes (dig_hL hr up hl))
  rw [e1, e2] at c
  have : (S (hL r lab shp low ++ [46, 55]) == if (low % 2 == 1) = true then S (46 :: hL r lab shp 0 ++ [46, 55]) else S (hL r lab shp low ++ [46, 55])) = (((low % 2 : Nat) : Int) == 0) := by
    rcases Nat.mod_two_eq_zero_or_one low with q | q
    · rw [q]
      show (S _ == S _) = true
      exact beq_self_eq_true _
    · rw [q]
      show (S (hL r lab shp low ++ [46, 55]) == S (46 :: hL r lab shp 0 ++ [46, 55])) = false
      rw [S_beq, decide_eq_false_iff_not]
      intro h
      have h := List.append_cancel_right h
      obtain ⟨c0, hc0, hne⟩ := (hL_ok (lab := lab) hr up low hl).2.2.1
      rw [h] at hc0
      injection hc0 with hc0
      exact hne hc0.symm
  rw [this] at c
  exact c
end

end

section
noncomputable def tlL : List (List Nat) := [[], [32], [9, 32]]
section
variable {W : Wd} {a : Nat → Addr} {shp lab : Nat → Nat} {r : List Nat}
theorem tl_white {t : List Nat} (ht : t ∈ tlL) : t.length ≤ 2 ∧ ∀ c ∈ t, Unicode.isSpace c = true := by
  have h32 := space_small.1
  have h9 := space_small.2.1
  rcases List.mem_cons.mp ht with rfl | ht
  · exact ⟨by decide, fun c hc => by cases hc⟩
  rcases List.mem_cons.mp ht with rfl | ht
  · exact ⟨by decide, fun c hc => by rw [List.mem_singleton.mp hc]; exact h32⟩
  rcases List.mem_cons.mp ht with rfl | ht
  · refine ⟨by decide, fun c hc => ?_⟩
    rcases List.mem_cons.mp hc with rfl | hc
    · exact h9
    · rw [List.mem_singleton.mp hc]; exact h32
  cases ht
theorem tb_rem (G : Gl W a) (hr : r ∈ rootL) (up : ∀ k, 1 ≤ k → k < 6 → shp k < k) {k : Nat} (hk : k < 6) {p t : List Nat} (hp : p.length ≤ 10) (ht : t ∈ tlL) : FnC W (a 10) 1 [.str (S p ++ S (hL r lab shp k) ++ S t)] (.str ("# " ++ (S p ++ S (hL r lab shp k)))) := by
  obtain ⟨n, _, _, e, he, h1, h2⟩ := hL_ok (lab := lab) hr up k hk
  obtain ⟨tl, tw⟩ := tl_white ht
  have hne : hL r lab shp k ≠ [] := by rintro h; rw [h] at he; cases he
  have hpos := List.length_pos_iff.mpr hne
  have e1 : Txt.rstrip (S p ++ S (hL r lab shp k) ++ S t) = S (p ++ hL r lab shp k) := by
    rw [S_app, S_app]
    exact rstrip_app (e := e) tw (by rw [List.getLast?_append, he]; rfl) (space_small.2.2 e h1 h2)
  have c := c10 G (x := S p ++ S (hL r lab shp k) ++ S t) (by rw [S_app, S_app, S_len]; simp; omega) (by rw [e1, S_len]; simp; omega)
  unfold commentS at c
  rw [e1, if_pos (by rw [bne_iff_ne, S_len, List.length_append]; omega)] at c
  rw [S_app p] at c ⊢
  exact c
theorem tb_tail (G : Gl W a) {t : List Nat} (ht : t ∈ tlL) : FnC W (a 10) 1 [.str (S t)] (.str "#") := by
  obtain ⟨tl, tw⟩ := tl_white ht
  have c := c10 G (x := S t) (by rw [S_len]; omega) (by rw [rstrip_white tw]; decide)
  unfold commentS at c
  rw [rstrip_white tw, if_neg (by decide)] at c
  exact c
end

end

section
section
variable {W : Wd} {a : Nat → Addr} {shp lab : Nat → Nat} {r : List Nat}
theorem suf_rem (X s : List Nat) : (46 :: s) <:+ (35 :: 32 :: X) ↔ (46 :: s) <:+ X := by
  rw [List.suffix_cons_iff, List.suffix_cons_iff]
  constructor
  · rintro (h | h | h)
    · injection h with h _; omega
    · injection h with h _; omega
    · exact h
  · exact fun h => .inr (.inr h)
theorem tb_ell2 (G : Gl W a) (hr : r ∈ rootL) (up : ∀ k, 1 ≤ k → k < 6 → shp k < k) {low high : Nat} (hl : low < 6) (hh : high < 6) :
    FnC W (a 9) 1 [.str ("# ...." ++ S (hL r lab shp high)), .str ("# " ++ S (hL r lab shp low))] (.bool (dueV (UL shp) low high)) := by
  have d1 : (Str.ofString "# ....") = S [35, 32, 46, 46, 46, 46] := by decide +kernel
  have d2 : (Str.ofString "# ") = S [35, 32] := by decide +kernel
  have d3 : (Str.ofString "...") = S Dots := by decide +kernel
  obtain ⟨n1, _⟩ := hL_ok (lab := lab) hr up low hl
  obtain ⟨n2, _, ⟨c0, hc0, hne⟩, _⟩ := hL_ok (lab := lab) hr up high hh
  have e1 : (Str.ofString "# ....") ++ S (hL r lab shp high) = S (35 :: 32 :: 46 :: 46 :: 46 :: 46 :: hL r lab shp high) := by rw [d1, S_app]; rfl
  have e2 : (Str.ofString "# ") ++ S (hL r lab shp low) = S (35 :: 32 :: hL r lab shp low) := by rw [d2, S_app]; rfl
  rw [e1, e2]
  have c := c9_two G (x := S (35 :: 32 :: 46 :: 46 :: 46 :: 46 :: hL r lab shp high)) (y := S (35 :: 32 :: hL r lab shp low)) (w0 := S [35, 32]) (w2 := S (46 :: hL r lab shp high)) (by rw [S_len]; simp; omega) (by rw [S_len]; simp; omega) (by decide) (by rw [S_len]; simp; omega)
    (by rw [d3]; exact (contains_dots _).mpr ⟨2, rfl, rfl, rfl⟩) (by rw [d3]; exact split_two (hL_noDD hr up high hh) hc0 hne) (by decide) (by rw [S_len]; simp)
  have : (Txt.startswith (S (35 :: 32 :: hL r lab shp low)) (S [35, 32]) && (Txt.endswith (S (35 :: 32 :: hL r lab shp low)) (S (46 :: hL r lab shp high)) && !decide (((S [35, 32]).length : Int) > ((S (35 :: 32 :: hL r lab shp low)).length : Int) - (S (46 :: hL r lab shp high)).length))) = dueV (UL shp) low high := by
    rw [startswith_S, decide_eq_true ⟨hL r lab shp low, rfl⟩, Bool.true_and, endswith_S, dueV_iff]
    by_cases q : high ∈ (UL shp low).drop 1
    · have hs := (below_iff (lab := lab) hr up hl hh).mpr q
      have hlen := hs.length_le
      rw [decide_eq_true ((suf_rem _ _).mpr hs), decide_eq_true q, S_len, S_len, S_len]
      rw [Bool.true_and, Bool.not_eq_true', decide_eq_false_iff_not]
      simp at hlen ⊢
      omega
    · have hs : ¬ (46 :: hL r lab shp high) <:+ (35 :: 32 :: hL r lab shp low) := fun h => q ((below_iff hr up hl hh).mp ((suf_rem _ _).mp h))
      rw [decide_eq_false hs, decide_eq_false q]; rfl
  rw [this] at c
  exact c
end

end

section
theorem prefix_jn {d Y : List Nat} : ∀ {b : List Nat} {r : List (List Nat)}, 46 ∉ d → d ++ Y = jn (b :: r) → d <+: b
  | b, [], _, h => ⟨Y, h⟩
  | b, c :: r, hd, h => by
    have h : d ++ Y = b ++ 46 :: jn (c :: r) := h
    rcases List.append_eq_append_iff.mp h with ⟨t, e1, e2⟩ | ⟨t, e1, e2⟩
    · exact ⟨t, e1.symm⟩
    · cases t with
      | nil => rw [List.append_nil] at e1; exact ⟨[], by rw [e1, List.append_nil]⟩
      | cons x t =>
        rw [List.cons_append] at e2
        injection e2 with e2 _
        exact absurd (by rw [e1, ← e2]; simp) hd
/-- a dot and signs without a dot, somewhere in joined labels: they open a label behind the first -/
theorem jn_inside : ∀ {A : List (List Nat)} {X Y d : List Nat}, (∀ a ∈ A, 46 ∉ a) → 46 ∉ d → jn A = X ++ 46 :: (d ++ Y) → ∃ a ∈ A.drop 1, d <+: a
  | [], X, Y, d, _, _, h => by
    have := congrArg List.length h
    rw [List.length_append] at this
    simp [jn] at this
  | [a], X, Y, d, hA, _, h => by
    have : 46 ∈ a := by rw [show a = X ++ 46 :: (d ++ Y) from h]; simp
    exact absurd this (hA a List.mem_cons_self)
  | a :: b :: r, X, Y, d, hA, hd, h => by
    have h : a ++ 46 :: jn (b :: r) = X ++ 46 :: (d ++ Y) := h
    by_cases q : 46 ∈ X
    · obtain ⟨X1, X2, e, h1⟩ := List.eq_append_cons_of_mem q
      rw [e, List.append_assoc, List.cons_append] at h
      obtain ⟨_, e2⟩ := split46 a X1 _ _ h (hA a List.mem_cons_self) h1
      obtain ⟨c, hc, hp⟩ := jn_inside (A := b :: r) (fun x hx => hA x (List.mem_cons_of_mem _ hx)) hd e2
      exact ⟨c, List.mem_cons_of_mem _ hc, hp⟩
    · obtain ⟨_, e2⟩ := split46 a X _ _ h (hA a List.mem_cons_self) q
      exact ⟨b, List.mem_cons_self, prefix_jn hd e2.symm⟩
theorem jn_app : ∀ {A B : List (List Nat)}, A ≠ [] → B ≠ [] → jn (A ++ B) = jn A ++ 46 :: jn B
  | [], _, h, _ => absurd rfl h
  | [a], B, _, hB => by rw [List.cons_append, List.nil_append, jn_cons a hB]; rfl
  | a :: b :: r, B, _, hB => by
    rw [List.cons_append, jn_cons a (by simp), jn_app (A := b :: r) (by simp) hB, jn_cons a (by simp), List.append_assoc]; rfl

end

section
section
variable {W : Wd} {a : Nat → Addr} {shp lab : Nat → Nat} {r : List Nat}
/-- the labels ahead of the first host's name -/
noncomputable def mid (lab : Nat → Nat) (us : List Nat) : List (List Nat) := (us.filter fun u => u != 0).map (hdL lab)
theorem mid_ne {us : List Nat} {k : Nat} (hk : k ∈ us) (h0 : k ≠ 0) : mid lab us ≠ [] := by
  unfold mid
  intro h
  have h := List.map_eq_nil_iff.mp h
  have : k ∈ us.filter fun u => u != 0 := List.mem_filter.mpr ⟨hk, by simpa using h0⟩
  rw [h] at this; cases this
theorem hL_mid (hr : r ∈ rootL) (up : ∀ k, 1 ≤ k → k < 6 → shp k < k) {k : Nat} (hk : k < 6) (h0 : k ≠ 0) : hL r lab shp k = jn (mid lab (UL shp k)) ++ 46 :: r := by
  rw [hL_lbs hr up k hk]
  have hk0 : k ∈ UL shp k := by rw [UL_succ up (by omega) hk]; exact List.mem_cons_self
  show jn (mid lab (UL shp k) ++ rlab r) = _
  rw [jn_app (mid_ne hk0 h0) (rlab_ok hr).2.1, (rlab_ok hr).1]
/-- a dot and a head, ahead of the first host's name: just what lies above -/
theorem mid_inside (hr : r ∈ rootL) (up : ∀ k, 1 ≤ k → k < 6 → shp k < k) {low high : Nat} (hl : low < 6) (hh : high < 6) (h0 : low ≠ 0) (h1 : high ≠ 0) :
    (∃ X Y, jn (mid lab (UL shp low)) = X ++ 46 :: (hdL lab high ++ Y)) ↔ high ∈ (UL shp low).drop 1 := by
  have hs := up low (by omega) hl
  have eU := UL_succ up (show 1 ≤ low by omega) hl
  have hne : (low != 0) = true := by rw [bne_iff_ne]; exact h0
  have eM : mid lab (UL shp low) = hdL lab low :: mid lab (UL shp (shp low)) := by rw [eU]; unfold mid; rw [List.filter_cons, if_pos hne]; rfl
  have lt : ∀ u ∈ UL shp low, u < 6 := fun u hu => Nat.lt_of_le_of_lt (UL_lt up low hl u hu) hl
  have nd : ∀ b ∈ mid lab (UL shp low), 46 ∉ b := by
    intro b hb
    obtain ⟨u, hu, rfl⟩ := List.mem_map.mp hb
    exact fun q => (hd_ok (lt u (List.mem_filter.mp hu).1) 46 q).2 rfl
  have eD : (UL shp low).drop 1 = UL shp (shp low) := by rw [eU]; rfl
  rw [eD]
  constructor
  · rintro ⟨X, Y, h⟩
    obtain ⟨b, hb, hp⟩ := jn_inside nd (fun q => (hd_ok hh 46 q).2 rfl) h
    rw [eM] at hb
    have hb : b ∈ mid lab (UL shp (shp low)) := hb
    obtain ⟨u, hu, rfl⟩ := List.mem_map.mp hb
    have hu := List.mem_filter.mp hu
    have hu0 : u ≠ 0 := by simpa using hu.2
    obtain ⟨t, ht⟩ := hp
    rw [hd_first h1, hd_first hu0, List.cons_append] at ht
    injection ht with ht _
    have : u = high := by omega
    rw [← this]; exact hu.1
  · intro h
    have hm : hdL lab high ∈ mid lab (UL shp (shp low)) := List.mem_map.mpr ⟨high, List.mem_filter.mpr ⟨h, by simpa using h1⟩, rfl⟩
    obtain ⟨p, q, e⟩ := List.append_of_mem hm
    have e2 : mid lab (UL shp low) = (hdL lab low :: p) ++ (hdL lab high :: q) := by rw [eM, e]; rfl
    rw [e2, jn_app (by simp) (by simp)]
    cases q with
    | nil => exact ⟨_, [], by rw [List.append_nil]; rfl⟩
    | cons b q => exact ⟨_, 46 :: jn (b :: q), rfl⟩
end

end

section
theorem place_iff (M r d : List Nat) : (∃ k, 2 ≤ k ∧ StrLaws.At (S (35 :: 32 :: (M ++ 46 :: r))) (S (46 :: d)) (2 + M.length) k) ↔ ∃ X Y, M = X ++ 46 :: (d ++ Y) := by
  have tk : ∀ k, k + (d.length + 1) ≤ M.length → ((35 :: 32 :: (M ++ 46 :: r)).drop (k + 2)).take (d.length + 1) = (M.drop k).take (d.length + 1) := fun k hk => by
    show ((M ++ 46 :: r).drop k).take (d.length + 1) = _
    rw [List.drop_append, List.take_append]
    have : d.length + 1 - (M.drop k).length = 0 := by rw [List.length_drop]; omega
    rw [this, List.take_zero, List.append_nil]
  constructor
  · rintro ⟨k, h2, h3, h4⟩
    rw [S_len] at h3
    rw [sub_at, beq_iff_eq] at h4
    obtain ⟨k, rfl⟩ : ∃ j, k = j + 2 := ⟨k - 2, by omega⟩
    simp only [List.length_cons] at h3 h4
    rw [tk k (by omega)] at h4
    refine ⟨M.take k, (M.drop k).drop (d.length + 1), ?_⟩
    have e := List.take_append_drop (d.length + 1) (M.drop k)
    rw [h4] at e
    rw [show M.take k ++ 46 :: (d ++ (M.drop k).drop (d.length + 1)) = M.take k ++ ((46 :: d) ++ (M.drop k).drop (d.length + 1)) from rfl, e, List.take_append_drop]
  · rintro ⟨X, Y, e⟩
    have hl := congrArg List.length e
    simp only [List.length_append, List.length_cons] at hl
    refine ⟨X.length + 2, by omega, by rw [S_len]; simp only [List.length_cons]; omega, ?_⟩
    rw [sub_at, beq_iff_eq]
    show ((35 :: 32 :: (M ++ 46 :: r)).drop (X.length + 2)).take (d.length + 1) = _
    rw [tk _ (by omega), e, List.drop_left]
    show ((46 :: d) ++ Y).take (d.length + 1) = _
    exact List.take_left' rfl

end

section
section
variable {W : Wd} {a : Nat → Addr} {shp lab : Nat → Nat} {r : List Nat}
theorem tb_ell3 (G : Gl W a) (hr : r ∈ rootL) (up : ∀ k, 1 ≤ k → k < 6 → shp k < k) {low high : Nat} (hl : low < 6) (hh : high < 6) (h1 : high ≠ 0) :
    FnC W (a 9) 1 [.str ("# ...." ++ (S (hdL lab high) ++ "...." ++ S r)), .str ("# " ++ S (hL r lab shp low))] (.bool (dueV (UL shp) low high)) := by
  have d1 : (Str.ofString "# ....") = S [35, 32, 46, 46, 46, 46] := by decide +kernel
  have d2 : (Str.ofString "# ") = S [35, 32] := by decide +kernel
  have d3 : (Str.ofString "...") = S Dots := by decide +kernel
  have d4 : (Str.ofString "....") = S [46, 46, 46, 46] := by decide +kernel
  obtain ⟨n1, _⟩ := hL_ok (lab := lab) hr up low hl
  have hd0 : hdL lab high ≠ [] := by rw [hd_first h1]; exact List.cons_ne_nil _ _
  have hd46 : 46 ∉ hdL lab high := fun q => (hd_ok hh 46 q).2 rfl
  have hdl := hd_len (lab := lab) high
  obtain ⟨nr, _, ⟨c0, hc0, hne⟩, _⟩ := root_ok hr
  have e1 : (Str.ofString "# ....") ++ (S (hdL lab high) ++ (Str.ofString "....") ++ S r) = S (35 :: 32 :: 46 :: 46 :: 46 :: 46 :: (hdL lab high ++ 46 :: 46 :: 46 :: 46 :: r)) := by
    rw [d1, d4, S_app, S_app, S_app, List.append_assoc]; rfl
  have e2 : (Str.ofString "# ") ++ S (hL r lab shp low) = S (35 :: 32 :: hL r lab shp low) := by rw [d2, S_app]; rfl
  rw [e1, e2]
  have c := c9_three G (x := S (35 :: 32 :: 46 :: 46 :: 46 :: 46 :: (hdL lab high ++ 46 :: 46 :: 46 :: 46 :: r))) (y := S (35 :: 32 :: hL r lab shp low)) (w0 := S [35, 32]) (w1 := S (46 :: hdL lab high)) (w2 := S (46 :: r)) (by rw [S_len]; simp; omega) (by rw [S_len]; simp; omega) (by decide) (by rw [S_len]; simp; omega) (by rw [S_len]; simp; omega)
    (by rw [d3]; exact (contains_dots _).mpr ⟨2, rfl, rfl, rfl⟩) (by rw [d3]; exact split_three hd46 hd0 (hL_noDD (lab := lab) hr up 0 (by decide)) hc0 hne) (by decide) (by rw [S_len]; simp)
  refine cast (congrArg (fun b => FnC W (a 9) 1 _ (.bool b)) ?_) c
  rw [startswith_S, decide_eq_true ⟨hL r lab shp low, rfl⟩, Bool.true_and, endswith_S, dueV_iff]
  by_cases q0 : low = 0
  · subst q0
    have hs : ¬ (46 :: r) <:+ (35 :: 32 :: hL r lab shp 0) := fun h => by
      have := (below_iff (lab := lab) hr up (show 0 < 6 by decide) (show 0 < 6 by decide)).mp ((suf_rem _ _).mp h)
      cases this
    rw [decide_eq_false hs, Bool.false_and]
    exact (decide_eq_false (fun h => by cases h)).symm
  · have hM := hL_mid (lab := lab) hr up hl q0
    have hs : (46 :: r) <:+ (35 :: 32 :: hL r lab shp low) := ⟨35 :: 32 :: jn (mid lab (UL shp low)), by rw [hM]; rfl⟩
    rw [decide_eq_true hs, Bool.true_and]
    generalize hMM : jn (mid lab (UL shp low)) = M at hM
    have hlen : (S (35 :: 32 :: hL r lab shp low)).length = 2 + M.length + 1 + r.length := by rw [S_len, hM]; simp; omega
    have ej : ((S (35 :: 32 :: hL r lab shp low)).length : Int) - ((S (46 :: r)).length : Int) = ((2 + M.length : Nat) : Int) := by rw [hlen, S_len]; simp; omega
    have e0 : ((S [35, 32]).length : Int) = ((2 : Nat) : Int) := by rw [S_len]; rfl
    rw [ej, e0]
    have g1 : decide (((2 : Nat) : Int) > ((2 + M.length : Nat) : Int)) = false := by rw [decide_eq_false_iff_not]; omega
    rw [g1]
    have key := find4_at (S (35 :: 32 :: hL r lab shp low)) (S (46 :: hdL lab high)) (i := 2) (j := 2 + M.length) (by omega) (by omega)
    have pl := place_iff M r (hdL lab high)
    have mi := mid_inside (lab := lab) hr up hl hh q0 h1
    rw [hMM] at mi
    rw [hM] at key
    rw [hM]
    by_cases q : high ∈ (UL shp low).drop 1
    · obtain ⟨k, hk, hat⟩ := pl.mpr (mi.mpr q)
      have : decide (find4 (S (35 :: 32 :: (M ++ 46 :: r))) (S (46 :: hdL lab high)) ((2 : Nat) : Int) ((2 + M.length : Nat) : Int) < 0) = false := by
        cases e : decide (find4 (S (35 :: 32 :: (M ++ 46 :: r))) (S (46 :: hdL lab high)) ((2 : Nat) : Int) ((2 + M.length : Nat) : Int) < 0) with
        | false => rfl
        | true => exact absurd hat (key.mp e k hk)
      rw [this, decide_eq_true q]; rfl
    · have : decide (find4 (S (35 :: 32 :: (M ++ 46 :: r))) (S (46 :: hdL lab high)) ((2 : Nat) : Int) ((2 + M.length : Nat) : Int) < 0) = true := key.mpr fun k hk hat => q (mi.mp (pl.mp ⟨k, hk, hat⟩))
      rw [this, decide_eq_false q]; rfl
end

end

section
theorem split_gen {p q : List Nat} (hp : NoDD p) (he : ∀ e, p.getLast? = some e → e ≠ 46) (hq : NoDD q) : Txt.split (S (p ++ 46 :: 46 :: 46 :: q)) (S Dots) = [S p, S q] := by
  have g1 : ∀ k, k < p.length → (p ++ 46 :: 46 :: 46 :: q)[k]? = p[k]? := fun k hk => List.getElem?_append_left hk
  have g2 : ∀ m, (p ++ 46 :: 46 :: 46 :: q)[p.length + m]? = (46 :: 46 :: 46 :: q)[m]? := fun m => by rw [List.getElem?_append_right (by omega)]; congr 1; omega
  rw [split_cuts (cuts := [p.length]) (f := p.length + 3) (by decide) kind_dots (by simp) ⟨Nat.zero_le _, (at_dots _ _).mpr ⟨g2 0, g2 1, g2 2⟩, fun k _ hk => ?_, rfl⟩ fun k hk => ?_]
  · show [Builtin.Str.strSub _ 0 p.length, Builtin.Str.strSub _ (p.length + 3) (S _).length] = _
    rw [sub_S, sub_S, S_len]
    have e1 : ((p ++ 46 :: 46 :: 46 :: q).drop 0).take (p.length - 0) = p := by rw [List.drop_zero, Nat.sub_zero, List.take_left]
    have e2 : ((p ++ 46 :: 46 :: 46 :: q).drop (p.length + 3)).take ((p ++ 46 :: 46 :: 46 :: q).length - (p.length + 3)) = q := by
      rw [List.drop_append, List.drop_eq_nil_of_le (by omega), List.nil_append, show p.length + 3 - p.length = 3 by omega]
      show q.take _ = q
      rw [List.take_of_length_le (by simp; omega)]
    rw [e1, e2]
  · rw [at_dots]
    rintro ⟨h1, h2, _⟩
    rw [g1 k hk] at h1
    by_cases c : k + 1 < p.length
    · rw [g1 (k + 1) c] at h2
      exact hp k ⟨h1, h2⟩
    · have : p.getLast? = some 46 := by rw [List.getLast?_eq_getElem?, show p.length - 1 = k by omega, h1]
      exact he 46 this rfl
  · rw [at_dots]
    rintro ⟨h1, h2, _⟩
    have e1 := g2 (k - p.length)
    have e2 := g2 (k + 1 - p.length)
    rw [show p.length + (k - p.length) = k by omega, h1] at e1
    rw [show p.length + (k + 1 - p.length) = k + 1 by omega, h2] at e2
    rw [show k - p.length = (k - p.length - 3) + 3 by omega] at e1
    rw [show k + 1 - p.length = (k - p.length - 3 + 1) + 3 by omega] at e2
    exact hq (k - p.length - 3) ⟨e1.symm, e2.symm⟩
theorem noDD_two {h : List Nat} (a b : Nat) (ha : a ≠ 46) (hb : b ≠ 46) (hh : NoDD h) : NoDD (a :: b :: h) := by
  intro i ⟨h1, h2⟩
  match i with
  | 0 => exact ha (by simpa using h1)
  | 1 => exact hb (by simpa using h1)
  | i + 2 => exact hh i ⟨h1, h2⟩
theorem has_dots (p q : List Nat) : Txt.contains (S (p ++ 46 :: 46 :: 46 :: q)) (S Dots) = true :=
  (contains_dots _).mpr ⟨p.length, by rw [List.getElem?_append_right (Nat.le_refl _), Nat.sub_self]; rfl, by rw [List.getElem?_append_right (by omega), show p.length + 1 - p.length = 1 by omega]; rfl, by rw [List.getElem?_append_right (by omega), show p.length + 2 - p.length = 2 by omega]; rfl⟩

end

section
section
variable {W : Wd} {a : Nat → Addr} {shp lab : Nat → Nat} {r : List Nat}
theorem root_last (hr : r ∈ rootL) (X : List Nat) : ¬ (46 :: r) <:+ (X ++ [120]) := by
  rintro ⟨t, h⟩
  have h := congrArg List.getLast? h
  rw [List.getLast?_append, List.getLast?_append] at h
  rcases List.mem_cons.mp hr with rfl | hr
  · simp at h
  rcases List.mem_cons.mp hr with rfl | hr
  · simp at h
  rcases List.mem_cons.mp hr with rfl | hr
  · simp at h
  cases hr
theorem tb_ask (G : Gl W a) (hr : r ∈ rootL) (up : ∀ k, 1 ≤ k → k < 6 → shp k < k) {low : Nat} (hl : low < 6) {x y : Str} (hx : (askedV fun k => S (hL r lab shp k))[low]? = some x) (hy : (textsV fun k => S (hL r lab shp k))[low]? = some y) :
    FnC W (a 9) 1 [.str x, .str y] (.bool (((low % 5 : Nat) : Int) == 0)) := by
  have d1 : (Str.ofString "# ....") = S [35, 32, 46, 46, 46, 46] := by decide +kernel
  have d2 : (Str.ofString "# ") = S [35, 32] := by decide +kernel
  have d3 : (Str.ofString "...") = S Dots := by decide +kernel
  have d4 : (Str.ofString "# ...") = S [35, 32, 46, 46, 46] := by decide +kernel
  have dx : (Str.ofString "x") = S [120] := by decide +kernel
  have n (k) (hk : k < 6) := hL_ok (lab := lab) hr up k hk
  have dd (k) (hk : k < 6) := hL_noDD (lab := lab) hr up k hk
  have pos : ∀ k, k < 6 → 0 < (hL r lab shp k).length := fun k hk => by
    obtain ⟨_, _, ⟨c, hc, _⟩, _⟩ := n k hk
    exact List.length_pos_iff.mpr fun e => by rw [e] at hc; cases hc
  have two : ∀ k, k < 6 → (Str.ofString "# ") ++ S (hL r lab shp k) = S (35 :: 32 :: hL r lab shp k) := fun k hk => by rw [d2, S_app]; rfl
  have h0 : hL r lab shp 0 = r := hL_zero
  match low, hl with
  | 0, _ =>
    injection hx with hx; injection hy with hy
    subst hx hy
    have c := c9_no G (x := (Str.ofString "# ") ++ S (hL r lab shp 0)) (y := (Str.ofString "# ") ++ S (hL r lab shp 0)) (by rw [two 0 (by decide), d3]; exact contains_no (noDD_two 35 32 (by decide) (by decide) (dd 0 (by decide))))
    rw [beq_self_eq_true] at c
    exact c
  | 1, _ =>
    injection hx with hx; injection hy with hy
    subst hx hy
    have c := c9_no G (x := S (hL r lab shp 1)) (y := (Str.ofString "# ") ++ S (hL r lab shp 1)) (by rw [d3]; exact contains_no (dd 1 (by decide)))
    rw [two 1 (by decide), S_beq, decide_eq_false fun h => by have := congrArg List.length h; simp only [List.length_cons] at this; omega] at c
    rw [← two 1 (by decide)] at c
    exact c
  | 2, _ =>
    injection hx with hx; injection hy with hy
    subst hx hy
    obtain ⟨n1, _, ⟨c0, hc0, hne⟩, _⟩ := n 0 (by decide)
    have n2 := (n 2 (by decide)).1
    have e1 : (Str.ofString "# ....") ++ S (hL r lab shp 0) = S (35 :: 32 :: 46 :: 46 :: 46 :: 46 :: hL r lab shp 0) := by rw [d1, S_app]; rfl
    have e2 : (Str.ofString "x") ++ ((Str.ofString "# ") ++ S (hL r lab shp 2)) = S (120 :: 35 :: 32 :: hL r lab shp 2) := by rw [d2, dx, S_app, S_app]; rfl
    show FnC W (a 9) 1 [.str ((Str.ofString "# ....") ++ S (hL r lab shp 0)), .str ((Str.ofString "x") ++ ((Str.ofString "# ") ++ S (hL r lab shp 2)))] _
    rw [e1, e2]
    have c := c9_two G (x := S (35 :: 32 :: 46 :: 46 :: 46 :: 46 :: hL r lab shp 0)) (y := S (120 :: 35 :: 32 :: hL r lab shp 2)) (w0 := S [35, 32]) (w2 := S (46 :: hL r lab shp 0)) (by rw [S_len]; simp; omega) (by rw [S_len]; simp; omega) (by decide) (by rw [S_len]; simp; omega)
      (by rw [d3]; exact (contains_dots _).mpr ⟨2, rfl, rfl, rfl⟩) (by rw [d3]; exact split_two (dd 0 (by decide)) hc0 hne) (by decide) (by rw [S_len]; simp)
    rw [startswith_S, decide_eq_false fun h => by obtain ⟨t, h⟩ := h; injection h with h _; omega, Bool.false_and] at c
    exact c
  | 3, _ =>
    injection hx with hx; injection hy with hy
    subst hx hy
    obtain ⟨n1, _, ⟨c0, hc0, hne⟩, _⟩ := n 0 (by decide)
    have n2 := (n 3 (by decide)).1
    have e1 : (Str.ofString "# ....") ++ S (hL r lab shp 0) = S (35 :: 32 :: 46 :: 46 :: 46 :: 46 :: hL r lab shp 0) := by rw [d1, S_app]; rfl
    have e2 : (Str.ofString "# ") ++ S (hL r lab shp 3) ++ (Str.ofString "x") = S (35 :: 32 :: hL r lab shp 3 ++ [120]) := by rw [d2, dx, S_app, S_app]; rfl
    show FnC W (a 9) 1 [.str ((Str.ofString "# ....") ++ S (hL r lab shp 0)), .str ((Str.ofString "# ") ++ S (hL r lab shp 3) ++ (Str.ofString "x"))] _
    rw [e1, e2]
    have c := c9_two G (x := S (35 :: 32 :: 46 :: 46 :: 46 :: 46 :: hL r lab shp 0)) (y := S (35 :: 32 :: hL r lab shp 3 ++ [120])) (w0 := S [35, 32]) (w2 := S (46 :: hL r lab shp 0)) (by rw [S_len]; simp; omega) (by rw [S_len]; simp; omega) (by decide) (by rw [S_len]; simp; omega)
      (by rw [d3]; exact (contains_dots _).mpr ⟨2, rfl, rfl, rfl⟩) (by rw [d3]; exact split_two (dd 0 (by decide)) hc0 hne) (by decide) (by rw [S_len]; simp)
    rw [endswith_S, decide_eq_false (by rw [h0]; exact root_last hr _), Bool.false_and, Bool.and_false] at c
    exact c
  | 4, _ =>
    injection hx with hx; injection hy with hy
    subst hx hy
    obtain ⟨n1, _, _, e, he, h1, h2⟩ := n 4 (by decide)
    have hp := pos 4 (by decide)
    have e1 : (Str.ofString "# ") ++ S (hL r lab shp 4) ++ (Str.ofString "...") ++ S (hL r lab shp 4) = S ((35 :: 32 :: hL r lab shp 4) ++ 46 :: 46 :: 46 :: hL r lab shp 4) := by rw [d2, d3, S_app, S_app, S_app, List.append_assoc]; rfl
    show FnC W (a 9) 1 [.str ((Str.ofString "# ") ++ S (hL r lab shp 4) ++ (Str.ofString "...") ++ S (hL r lab shp 4)), .str ((Str.ofString "# ") ++ S (hL r lab shp 4))] _
    rw [e1, two 4 (by decide)]
    have c := c9_two G (x := S ((35 :: 32 :: hL r lab shp 4) ++ 46 :: 46 :: 46 :: hL r lab shp 4)) (y := S (35 :: 32 :: hL r lab shp 4)) (w0 := S (35 :: 32 :: hL r lab shp 4)) (w2 := S (hL r lab shp 4)) (by rw [S_len]; simp; omega) (by rw [S_len]; simp; omega) (by rw [S_len]; simp; omega) (by rw [S_len]; omega)
      (by rw [d3]; exact has_dots _ _) (by rw [d3]; exact split_gen (noDD_two 35 32 (by decide) (by decide) (dd 4 (by decide))) (fun e' he' => by
        have : (35 :: 32 :: hL r lab shp 4).getLast? = some e := by
          rw [show 35 :: 32 :: hL r lab shp 4 = [35, 32] ++ hL r lab shp 4 from rfl, List.getLast?_append, he]; rfl
        rw [this] at he'; injection he' with he'; omega) (dd 4 (by decide))) (by rw [S_len]; simp) (by rw [S_len]; omega)
    have g : decide (((S (35 :: 32 :: hL r lab shp 4)).length : Int) > ((S (35 :: 32 :: hL r lab shp 4)).length : Int) - (S (hL r lab shp 4)).length) = true := by
      rw [decide_eq_true_eq, S_len, S_len]; omega
    rw [g, Bool.not_true, Bool.and_false, Bool.and_false] at c
    exact c
  | 5, _ =>
    injection hx with hx; injection hy with hy
    subst hx hy
    obtain ⟨n1, _, _, e, he, h1, h2⟩ := n 5 (by decide)
    have hp := pos 5 (by decide)
    have e1 : (Str.ofString "# ...") ++ S (hL r lab shp 5) = S ([35, 32] ++ 46 :: 46 :: 46 :: hL r lab shp 5) := by rw [d4, S_app]; rfl
    show FnC W (a 9) 1 [.str ((Str.ofString "# ...") ++ S (hL r lab shp 5)), .str ((Str.ofString "# ") ++ S (hL r lab shp 5))] _
    rw [e1, two 5 (by decide)]
    have c := c9_two G (x := S ([35, 32] ++ 46 :: 46 :: 46 :: hL r lab shp 5)) (y := S (35 :: 32 :: hL r lab shp 5)) (w0 := S [35, 32]) (w2 := S (hL r lab shp 5)) (by rw [S_len]; simp; omega) (by rw [S_len]; simp; omega) (by rw [S_len]; simp) (by rw [S_len]; omega)
      (by rw [d3]; exact has_dots _ _) (by rw [d3]; exact split_gen (noDD_free (by decide)) (fun e' he' => by have h9 : some 32 = some e' := he'; injection h9 with h9; omega) (dd 5 (by decide))) (by rw [S_len]; simp) (by rw [S_len]; omega)
    have g : decide (((S [35, 32]).length : Int) > ((S (35 :: 32 :: hL r lab shp 5)).length : Int) - (S (hL r lab shp 5)).length) = false := by
      rw [decide_eq_false_iff_not, S_len, S_len, S_len]; simp; omega
    rw [g, startswith_S, endswith_S, decide_eq_true ⟨hL r lab shp 5, rfl⟩, decide_eq_true ⟨[35, 32], rfl⟩] at c
    exact c
end

end

section
section
variable {shp : Nat → Nat}
/-! where two ways up meet -/
noncomputable def Df (shp : Nat → Nat) (i j : Nat) : List Nat := (UL shp i).filter fun k => !decide (k ∈ UL shp j)
theorem UL_self (up : ∀ k, 1 ≤ k → k < 6 → shp k < k) {k : Nat} (hk : k < 6) : k ∈ UL shp k := by
  rcases Nat.eq_zero_or_pos k with h | h
  · subst h; exact List.mem_singleton.mpr rfl
  · rw [UL_succ up h hk]; exact List.mem_cons_self
theorem UL_desc (up : ∀ k, 1 ≤ k → k < 6 → shp k < k) : ∀ k, k < 6 → (UL shp k).Pairwise (fun a b => b < a) := by
  intro k
  induction k using Nat.strongRecOn with
  | ind k ih =>
    intro hk
    rcases Nat.eq_zero_or_pos k with h | h
    · subst h; rw [UL_zero]; exact List.pairwise_singleton _ _
    · rw [UL_succ up h hk]
      have hs := up k h hk
      refine List.pairwise_cons.mpr ⟨fun u hu => ?_, ih (shp k) hs (by omega)⟩
      have := UL_lt up (shp k) (by omega) u hu
      omega
theorem UL_trans (up : ∀ k, 1 ≤ k → k < 6 → shp k < k) {i u v : Nat} (hi : i < 6) (hu : u ∈ UL shp i) (hv : v ∈ UL shp u) : v ∈ UL shp i := by
  obtain ⟨pre, e, _⟩ := UL_suffix up i hi u hu
  rw [e]; exact List.mem_append_right _ hv
theorem meet (up : ∀ k, 1 ≤ k → k < 6 → shp k < k) : ∀ i, i < 6 → ∀ j, j < 6 → ∃ m, m < 6 ∧ UL shp i = Df shp i j ++ UL shp m ∧ UL shp j = Df shp j i ++ UL shp m ∧ (UL shp i).filter (fun k => decide (k ∈ UL shp j)) = UL shp m := by
  intro i
  induction i using Nat.strongRecOn with
  | ind i ih =>
    intro hi j hj
    by_cases q : i ∈ UL shp j
    · refine ⟨i, hi, ?_, ?_, ?_⟩
      · have : Df shp i j = [] := List.filter_eq_nil_iff.mpr fun k hk => by
          rw [decide_eq_true (UL_trans up hj q hk)]; decide
        rw [this, List.nil_append]
      · obtain ⟨pre, e, _⟩ := UL_suffix up j hj i q
        have hp := UL_desc up j hj
        rw [e] at hp
        have hp := (List.pairwise_append.mp hp).2.2
        have : Df shp j i = pre := by
          unfold Df
          rw [e, List.filter_append]
          have e1 : pre.filter (fun k => !decide (k ∈ UL shp i)) = pre := List.filter_eq_self.mpr fun k hk => by
            have h1 := hp k hk i (UL_self up hi)
            rw [decide_eq_false fun h2 => by have := UL_lt up i hi k h2; omega]; rfl
          have e2 : (UL shp i).filter (fun k => !decide (k ∈ UL shp i)) = [] := List.filter_eq_nil_iff.mpr fun k hk => by
            rw [decide_eq_true hk]; decide
          rw [e1, e2, List.append_nil]
        rw [this, e]
      · exact List.filter_eq_self.mpr fun k hk => by rw [decide_eq_true (UL_trans up hj q hk)]
    · have h0 : i ≠ 0 := fun h => q (h ▸ UL_zero_mem up j hj)
      have hs := up i (by omega) hi
      obtain ⟨m, hm, e1, e2, e3⟩ := ih (shp i) hs (by omega) j hj
      have eU := UL_succ up (by omega) hi
      refine ⟨m, hm, ?_, ?_, ?_⟩
      · have : Df shp i j = i :: Df shp (shp i) j := by
          unfold Df
          rw [eU, List.filter_cons, if_pos (by rw [decide_eq_false q]; rfl)]
        rw [this, List.cons_append, ← e1, eU]
      · have : Df shp j i = Df shp j (shp i) := by
          unfold Df
          refine List.filter_congr fun k hk => ?_
          rw [eU]
          congr 1
          have hne : k ≠ i := fun h => q (h ▸ hk)
          rw [decide_eq_decide, List.mem_cons]
          exact ⟨fun h => h.resolve_left hne, .inr⟩
        rw [this, ← e2]
      · rw [eU, List.filter_cons, if_neg (by rw [decide_eq_false q]; decide), e3]
/-- both on one way: one is on the way of the other -/
theorem UL_chain (up : ∀ k, 1 ≤ k → k < 6 → shp k < k) : ∀ k, k < 6 → ∀ c i, c ∈ UL shp k → i ∈ UL shp k → c ∈ UL shp i ∨ i ∈ UL shp c := by
  intro k
  induction k using Nat.strongRecOn with
  | ind k ih =>
    intro hk c i hc hi
    by_cases q1 : c = k
    · subst q1; exact .inr hi
    by_cases q2 : i = k
    · subst q2; exact .inl hc
    rcases Nat.eq_zero_or_pos k with h | h
    · subst h; rw [UL_zero, List.mem_singleton] at hc; exact absurd hc q1
    · rw [UL_succ up h hk, List.mem_cons] at hc hi
      have hs := up k h hk
      exact ih (shp k) hs (by omega) c i (hc.resolve_left q1) (hi.resolve_left q2)
/-- below a host: below or at one of its children -/
theorem UL_child (up : ∀ k, 1 ≤ k → k < 6 → shp k < k) : ∀ c, c < 6 → ∀ i, i ∈ UL shp c → i ≠ c → ∃ d, 1 ≤ d ∧ d < 6 ∧ shp d = i ∧ d ∈ UL shp c := by
  intro c
  induction c using Nat.strongRecOn with
  | ind c ih =>
    intro hc i hi hne
    rcases Nat.eq_zero_or_pos c with h | h
    · subst h; rw [UL_zero, List.mem_singleton] at hi; exact absurd hi hne
    · have hs := up c h hc
      have eU := UL_succ up h hc
      rw [eU, List.mem_cons] at hi
      have hi := hi.resolve_left hne
      by_cases q : i = shp c
      · exact ⟨c, h, hc, q.symm, UL_self up hc⟩
      · obtain ⟨d, h1, h2, h3, h4⟩ := ih (shp c) hs (by omega) i hi q
        exact ⟨d, h1, h2, h3, by rw [eU]; exact List.mem_cons_of_mem _ h4⟩
end

end

section
/-! sums -/
section
variable {α β : Type}
theorem sm_filter (l : List α) (q : α → Bool) (w : α → Nat) : ((l.filter q).map w).sum = (l.map fun i => if q i = true then w i else 0).sum := by
  induction l with
  | nil => rfl
  | cons x l ih =>
    rw [List.filter_cons, List.map_cons, List.sum_cons]
    cases q x with
    | true => rw [if_pos rfl, if_pos rfl, List.map_cons, List.sum_cons, ih]
    | false => rw [if_neg Bool.false_ne_true, if_neg Bool.false_ne_true, ih, Nat.zero_add]
theorem sm_add (l : List α) (f g : α → Nat) : (l.map f).sum + (l.map g).sum = (l.map fun i => f i + g i).sum := by
  induction l with
  | nil => rfl
  | cons x l ih => simp only [List.map_cons, List.sum_cons]; omega
theorem sm_mul (l : List α) (c : Nat) (f : α → Nat) : c * (l.map f).sum = (l.map fun i => c * f i).sum := by
  induction l with
  | nil => rfl
  | cons x l ih => simp only [List.map_cons, List.sum_cons]; rw [Nat.mul_add, ih]
theorem sm_congr {l : List α} {f g : α → Nat} (h : ∀ x ∈ l, f x = g x) : (l.map f).sum = (l.map g).sum := by rw [List.map_congr_left h]
theorem sm_zero (l : List α) : (l.map fun _ => 0).sum = 0 := by
  induction l with
  | nil => rfl
  | cons x l ih => rw [List.map_cons, List.sum_cons, ih]
theorem sm_comm (l : List α) (m : List β) (f : α → β → Nat) : (l.map fun i => (m.map fun j => f i j).sum).sum = (m.map fun j => (l.map fun i => f i j).sum).sum := by
  induction l with
  | nil => exact (sm_zero m).symm
  | cons x l ih =>
    rw [List.map_cons, List.sum_cons, ih, sm_add]
    exact sm_congr fun j _ => by rw [List.map_cons, List.sum_cons]
theorem sm_le {l : List α} {f g : α → Nat} (h : ∀ x ∈ l, f x ≤ g x) : (l.map f).sum ≤ (l.map g).sum := by
  induction l with
  | nil => exact Nat.le_refl _
  | cons x l ih =>
    rw [List.map_cons, List.map_cons, List.sum_cons, List.sum_cons]
    exact Nat.add_le_add (h x List.mem_cons_self) (ih fun y hy => h y (List.mem_cons_of_mem _ hy))
theorem sm_other {l : List Nat} {c : Nat} {f g : Nat → Nat} (hn : l.Nodup) (hc : c ∈ l) (h : ∀ x ∈ l, x ≠ c → f x = g x) : (l.map f).sum + g c = (l.map g).sum + f c := by
  induction l with
  | nil => cases hc
  | cons x l ih =>
    rw [List.map_cons, List.map_cons, List.sum_cons, List.sum_cons]
    obtain ⟨h1, h2⟩ := List.nodup_cons.mp hn
    rcases List.mem_cons.mp hc with rfl | hc
    · have := sm_congr (l := l) (f := f) (g := g) fun y hy => h y (List.mem_cons_of_mem _ hy) fun e => h1 (e ▸ hy)
      omega
    · have := ih h2 hc fun y hy => h y (List.mem_cons_of_mem _ hy)
      have := h x List.mem_cons_self fun e => h1 (e ▸ hc)
      omega
end
/-- the weights of those that have the mark, and of those that have it not -/
noncomputable def yesW (n : Nat) (q : Nat → Bool) (w : Nat → Nat) : Nat := ((List.range n).map fun i => if q i = true then w i else 0).sum
noncomputable def noW (n : Nat) (q : Nat → Bool) (w : Nat → Nat) : Nat := ((List.range n).map fun i => if q i = true then 0 else w i).sum
theorem yes_no (n : Nat) (q : Nat → Bool) (w : Nat → Nat) : yesW n q w + noW n q w = ((List.range n).map w).sum := by
  unfold yesW noW
  rw [sm_add]
  exact sm_congr fun i _ => by split <;> omega
theorem yes_succ (n : Nat) (q : Nat → Bool) (w : Nat → Nat) : yesW (n + 1) q w = yesW n q w + if q n = true then w n else 0 := by
  unfold yesW
  rw [List.range_succ, List.map_append, List.sum_append]; simp
theorem no_succ (n : Nat) (q : Nat → Bool) (w : Nat → Nat) : noW (n + 1) q w = noW n q w + if q n = true then 0 else w n := by
  unfold noW
  rw [List.range_succ, List.map_append, List.sum_append]; simp
noncomputable def pairs (n : Nat) : List (Nat × Nat) := (List.range n).flatMap fun one => (List.range one).map fun two => (one, two)
theorem pairs_succ (n : Nat) : pairs (n + 1) = pairs n ++ (List.range n).map fun two => (n, two) := by
  unfold pairs
  rw [List.range_succ, List.flatMap_append]; simp
theorem pairs_ok {n : Nat} {p : Nat × Nat} (h : p ∈ pairs n) : p.1 < n ∧ p.2 < p.1 := by
  obtain ⟨one, h1, h2⟩ := List.mem_flatMap.mp h
  obtain ⟨two, h3, rfl⟩ := List.mem_map.mp h2
  exact ⟨List.mem_range.mp h1, List.mem_range.mp h3⟩
noncomputable def xr (a b : Bool) : Nat := if (a != b) = true then 1 else 0
theorem row_sum (n : Nat) (q : Nat → Bool) (w : Nat → Nat) (b : Bool) : ((List.range n).map fun i => w i * xr b (q i)).sum = if b = true then noW n q w else yesW n q w := by
  cases b with
  | true =>
    rw [if_pos rfl]
    exact sm_congr fun i _ => by unfold xr; cases q i <;> simp
  | false =>
    rw [if_neg Bool.false_ne_true]
    exact sm_congr fun i _ => by unfold xr; cases q i <;> simp
theorem pair_prod (q : Nat → Bool) (w : Nat → Nat) : ∀ n, ((pairs n).map fun p => w p.1 * w p.2 * xr (q p.1) (q p.2)).sum = yesW n q w * noW n q w := by
  intro n
  induction n with
  | zero => rfl
  | succ n ih =>
    have e : ((List.range n).map fun i => w n * w i * xr (q n) (q i)).sum = w n * if q n = true then noW n q w else yesW n q w := by
      rw [← row_sum, sm_mul]
      exact sm_congr fun i _ => Nat.mul_assoc _ _ _
    rw [pairs_succ, List.map_append, List.sum_append, ih, List.map_map, yes_succ, no_succ]
    show _ + ((List.range n).map fun i => w n * w i * xr (q n) (q i)).sum = _
    rw [e]
    cases q n with
    | true => rw [if_pos rfl, if_pos rfl, if_pos rfl, Nat.add_zero, Nat.add_mul]
    | false => rw [if_neg Bool.false_ne_true, if_neg Bool.false_ne_true, if_neg Bool.false_ne_true, Nat.add_zero, Nat.mul_add, Nat.mul_comm (w n)]
/-- the sum over the pairs, way by way -/
theorem wiener {n : Nat} {ks : List Nat} {b : Nat → Nat → Bool} {sp w : Nat → Nat} : ((pairs n).map fun p => w p.1 * w p.2 * (ks.map fun k => sp k * xr (b k p.1) (b k p.2)).sum).sum = (ks.map fun k => sp k * (yesW n (b k) w * noW n (b k) w)).sum := by
  have e1 : ∀ p ∈ pairs n, w p.1 * w p.2 * (ks.map fun k => sp k * xr (b k p.1) (b k p.2)).sum = (ks.map fun k => sp k * (w p.1 * w p.2 * xr (b k p.1) (b k p.2))).sum := fun p _ => by
    rw [sm_mul]
    exact sm_congr fun k _ => by rw [← Nat.mul_assoc, Nat.mul_comm _ (sp k), Nat.mul_assoc]
  rw [sm_congr e1, sm_comm]
  exact sm_congr fun k _ => by rw [← sm_mul, pair_prod]
/-- the sum over the ways from one -/
theorem from_one {n : Nat} {ks : List Nat} {b : Nat → Nat → Bool} {sp w : Nat → Nat} (i : Nat) : ((List.range n).map fun j => w j * (ks.map fun k => sp k * xr (b k i) (b k j)).sum).sum = (ks.map fun k => sp k * if b k i = true then noW n (b k) w else yesW n (b k) w).sum := by
  have e1 : ∀ j ∈ List.range n, w j * (ks.map fun k => sp k * xr (b k i) (b k j)).sum = (ks.map fun k => sp k * (w j * xr (b k i) (b k j))).sum := fun j _ => by
    rw [sm_mul]
    exact sm_congr fun k _ => by rw [← Nat.mul_assoc, Nat.mul_comm _ (sp k), Nat.mul_assoc]
  rw [sm_congr e1, sm_comm]
  exact sm_congr fun k _ => by rw [← sm_mul, row_sum]

end

section
noncomputable def bU (shp : Nat → Nat) (k i : Nat) : Bool := decide (k ∈ UL shp i)
noncomputable def yU (shp w : Nat → Nat) (k : Nat) : Nat := yesW 6 (bU shp k) w
noncomputable def nU (shp w : Nat → Nat) (k : Nat) : Nat := noW 6 (bU shp k) w
noncomputable def SU (shp w sp : Nat → Nat) (i : Nat) : Nat := ((List.range' 1 5).map fun k => sp k * if bU shp k i = true then nU shp w k else yU shp w k).sum
section
variable {shp w sp : Nat → Nat}
theorem y_n (k : Nat) : yU shp w k + nU shp w k = whF w := yes_no 6 _ w
theorem un_y (k : Nat) : unF (UL shp) w k = yU shp w k := by
  unfold unF yU yesW
  rw [sm_filter]
  refine sm_congr fun i _ => ?_
  have : ((UL shp i).any fun u => u == k) = bU shp k i := by
    unfold bU
    rw [Bool.eq_iff_iff, List.any_eq_true, decide_eq_true_eq]
    exact ⟨fun ⟨x, hx, h⟩ => (eq_of_beq h) ▸ hx, fun h => ⟨k, h, beq_self_eq_true k⟩⟩
  rw [this]
theorem S_edge (up : ∀ k, 1 ≤ k → k < 6 → shp k < k) {c : Nat} (h1 : 1 ≤ c) (h2 : c < 6) : SU shp w sp c + sp c * yU shp w c = SU shp w sp (shp c) + sp c * nU shp w c := by
  have hs := up c h1 h2
  have e := sm_other (l := List.range' 1 5) (c := c) (f := fun k => sp k * if bU shp k c = true then nU shp w k else yU shp w k) (g := fun k => sp k * if bU shp k (shp c) = true then nU shp w k else yU shp w k) List.nodup_range' (by rw [List.mem_range'_1]; omega) fun k _ hk => by
    have : bU shp k c = bU shp k (shp c) := by
      unfold bU
      rw [UL_succ up h1 h2, decide_eq_decide, List.mem_cons]
      exact ⟨fun h => h.resolve_left hk, .inr⟩
    show sp k * _ = sp k * _
    rw [this]
  have b1 : bU shp c c = true := decide_eq_true (UL_self up h2)
  have b2 : bU shp c (shp c) = false := decide_eq_false fun h => by have := UL_lt up (shp c) (by omega) c h; omega
  have e : SU shp w sp c + sp c * (if bU shp c (shp c) = true then nU shp w c else yU shp w c) = SU shp w sp (shp c) + sp c * (if bU shp c c = true then nU shp w c else yU shp w c) := e
  rw [b1, b2, if_pos rfl, if_neg Bool.false_ne_true] at e
  exact e
theorem y_mono (up : ∀ k, 1 ≤ k → k < 6 → shp k < k) {i u : Nat} (hu : u ∈ UL shp i) : yU shp w i ≤ yU shp w u := by
  unfold yU yesW
  refine sm_le fun low hl => ?_
  have hl := List.mem_range.mp hl
  by_cases q : bU shp i low = true
  · rw [if_pos q, if_pos (show bU shp u low = true from decide_eq_true (UL_trans up hl (of_decide_eq_true q) hu))]; exact Nat.le_refl _
  · rw [if_neg q]; exact Nat.zero_le _
theorem y_apart (up : ∀ k, 1 ≤ k → k < 6 → shp k < k) {c i : Nat} (h1 : c ∉ UL shp i) (h2 : i ∉ UL shp c) : yU shp w c + yU shp w i ≤ whF w := by
  unfold yU yesW whF
  rw [sm_add]
  refine sm_le fun low hl => ?_
  have hl := List.mem_range.mp hl
  by_cases q1 : bU shp c low = true
  · have : ¬ bU shp i low = true := fun q2 => (UL_chain up low hl c i (of_decide_eq_true q1) (of_decide_eq_true q2)).elim h1 h2
    rw [if_pos q1, if_neg this]; omega
  · rw [if_neg q1]; split <;> omega
noncomputable def Good (shp w : Nat → Nat) (i : Nat) : Prop := nU shp w i ≤ yU shp w i ∧ ∀ c, 1 ≤ c → c < 6 → shp c = i → yU shp w c ≤ nU shp w c
theorem good_min (up : ∀ k, 1 ≤ k → k < 6 → shp k < k) {i : Nat} (hi : i < 6) (g : Good shp w i) : ∀ j, j < 6 → SU shp w sp i ≤ SU shp w sp j := by
  have upw : ∀ u, u ∈ UL shp i → u ≤ i → SU shp w sp i ≤ SU shp w sp u := by
    intro u hu _
    -- from the top of the way down to i
    have : ∀ n u, i - u = n → u ∈ UL shp i → SU shp w sp i ≤ SU shp w sp u := by
      intro n
      induction n using Nat.strongRecOn with
      | ind n ih =>
        intro u hn hu
        by_cases q : u = i
        · subst q; exact Nat.le_refl _
        · obtain ⟨d, h1, h2, h3, h4⟩ := UL_child up i hi u hu q
          have hd := UL_lt up i hi d h4
          have hs := up d h1 h2
          have := ih (i - d) (by omega) d rfl h4
          have e := S_edge (w := w) (sp := sp) up h1 h2
          have m1 := y_mono (w := w) up h4
          have m2 := y_n (shp := shp) (w := w) d
          have m3 := y_n (shp := shp) (w := w) i
          have g1 := g.1
          have := Nat.mul_le_mul_left (sp d) (show nU shp w d ≤ yU shp w d by omega)
          rw [h3] at e
          omega
    exact this _ u rfl hu
  intro j
  induction j using Nat.strongRecOn with
  | ind j ih =>
    intro hj
    by_cases q : j ∈ UL shp i
    · exact upw j q (UL_lt up i hi j q)
    · have h0 : 1 ≤ j := Nat.one_le_iff_ne_zero.mpr fun h => q (h ▸ UL_zero_mem up i hi)
      have hs := up j h0 hj
      have := ih (shp j) hs (by omega)
      have e := S_edge (w := w) (sp := sp) up h0 hj
      have key : yU shp w j ≤ nU shp w j := by
        have m2 := y_n (shp := shp) (w := w) j
        by_cases q2 : i ∈ UL shp j
        · obtain ⟨d, h1, h2, h3, h4⟩ := UL_child up j hj i q2 fun h => q (h ▸ UL_self up hi)
          have m1 := y_mono (w := w) up h4
          have m3 := y_n (shp := shp) (w := w) d
          have := g.2 d h1 h2 h3
          omega
        · have m1 := y_apart (w := w) up q q2
          have m3 := y_n (shp := shp) (w := w) i
          have := g.1
          omega
      have := Nat.mul_le_mul_left (sp j) key
      omega
theorem min_good (up : ∀ k, 1 ≤ k → k < 6 → shp k < k) (hsp : ∀ k, 1 ≤ sp k) {i : Nat} (hi : i < 6) (h : ∀ j, j < 6 → SU shp w sp i ≤ SU shp w sp j) : Good shp w i := by
  refine ⟨?_, fun c h1 h2 h3 => ?_⟩
  · rcases Nat.eq_zero_or_pos i with q | q
    · subst q
      have : nU shp w 0 = 0 := by
        unfold nU noW
        have e : ∀ low ∈ List.range 6, (if bU shp 0 low = true then 0 else w low) = 0 := fun low hl => if_pos (decide_eq_true (UL_zero_mem up low (List.mem_range.mp hl)))
        rw [sm_congr e, sm_zero]
      omega
    · have e := S_edge (w := w) (sp := sp) up q hi
      have hs := up i q hi
      have := h (shp i) (by omega)
      exact Nat.le_of_mul_le_mul_left (show sp i * nU shp w i ≤ sp i * yU shp w i by omega) (hsp i)
  · have e := S_edge (w := w) (sp := sp) up h1 h2
    rw [h3] at e
    have := h c h2
    exact Nat.le_of_mul_le_mul_left (show sp c * yU shp w c ≤ sp c * nU shp w c by omega) (hsp c)
theorem mid_good (k : Nat) : midF (UL shp) shp w k = true ↔ Good shp w k := by
  unfold midF
  rw [decide_eq_true_eq]
  have hm : ∀ (x : Int) (l : List Int) (b : Int), maxI (x :: l) ≤ b ↔ ∀ y ∈ x :: l, y ≤ b := fun x l b => by
    obtain ⟨h1, h2⟩ := maxI_ok x l
    exact ⟨fun h y hy => Int.le_trans (h2 y hy) h, fun h => h _ h1⟩
  unfold sidesI
  rw [hm]
  have m := y_n (shp := shp) (w := w) k
  constructor
  · intro h
    refine ⟨?_, fun c h1 h2 h3 => ?_⟩
    · have := h _ List.mem_cons_self
      rw [un_y] at this
      omega
    · have := h ((unF (UL shp) w c : Nat) : Int) (List.mem_cons_of_mem _ (List.mem_map.mpr ⟨c, List.mem_filter.mpr ⟨by rw [List.mem_range'_1]; omega, by rw [beq_iff_eq]; exact h3⟩, rfl⟩))
      rw [un_y] at this
      have := y_n (shp := shp) (w := w) c
      omega
  · rintro ⟨g1, g2⟩ y hy
    rcases List.mem_cons.mp hy with rfl | hy
    · rw [un_y]; omega
    · obtain ⟨c, hc, rfl⟩ := List.mem_map.mp hy
      obtain ⟨h1, h2⟩ := List.mem_filter.mp hc
      rw [List.mem_range'_1] at h1
      have := g2 c (by omega) (by omega) (eq_of_beq h2)
      have := y_n (shp := shp) (w := w) c
      rw [un_y]; omega
theorem least (f : Nat → Nat) : ∀ n, ∃ k, k < n + 1 ∧ ∀ j, j < n + 1 → f k ≤ f j := by
  intro n
  induction n with
  | zero => exact ⟨0, by omega, fun j hj => by rw [show j = 0 by omega]; exact Nat.le_refl _⟩
  | succ n ih =>
    obtain ⟨k, h1, h2⟩ := ih
    by_cases q : f k ≤ f (n + 1)
    · refine ⟨k, by omega, fun j hj => ?_⟩
      by_cases e : j = n + 1
      · rw [e]; exact q
      · exact h2 j (by omega)
    · refine ⟨n + 1, by omega, fun j hj => ?_⟩
      by_cases e : j = n + 1
      · rw [e]; exact Nat.le_refl _
      · have := h2 j (by omega); omega
theorem medians (up : ∀ k, 1 ≤ k → k < 6 → shp k < k) (hsp : ∀ k, 1 ≤ sp k) {f : Nat → Nat} (hf : ∀ k, k < 6 → f k = SU shp w sp k) :
    ∃ mn, (∃ k, k < 6 ∧ f k = mn) ∧ (∀ k, k < 6 → mn ≤ f k) ∧ (List.range 6).filter (fun k => f k == mn) = (List.range 6).filter (midF (UL shp) shp w) := by
  obtain ⟨k, h1, h2⟩ := least f 5
  refine ⟨f k, ⟨k, h1, rfl⟩, h2, List.filter_congr fun i hi => ?_⟩
  have hi := List.mem_range.mp hi
  rw [Bool.eq_iff_iff, beq_iff_eq, mid_good]
  constructor
  · intro e
    refine min_good (sp := sp) up hsp hi fun j hj => ?_
    rw [← hf i hi, ← hf j hj, e]; exact h2 j hj
  · intro g
    have := good_min (sp := sp) up hi g k h1
    rw [← hf i hi, ← hf k h1] at this
    have := h2 i hi
    omega
end

end

section
noncomputable def psL : List (List (Nat × List Nat)) := [ps19, ps20, ps21, ps22, ps23]
noncomputable def psn (n : Nat) : List (Nat × List Nat) := psL.getD n []
noncomputable def HFs (n : Nat) (x : Str) : Str := S (x.cps.toList.flatMap (tb (psn n)))
noncomputable def WFs (n : Nat) (x : Str) : Str := Txt.join "" (wrS (kvs.getD n []) x)
noncomputable def wr1 (kv : List (Str × Str)) (c : Nat) : Str := (kv.lookup ⟨#[c]⟩).getD ⟨#[c]⟩
theorem join_S' : ∀ ys : List Str, Str.join "" ys = S (ys.flatMap fun y => y.cps.toList)
  | [] => rfl
  | [y] => by
    show y = _
    rw [List.flatMap_cons, List.flatMap_nil, List.append_nil]
    exact S_of y
  | y :: z :: ys => by
    have ih := join_S' (z :: ys)
    have e0 : (Str.ofString "") = S [] := by decide +kernel
    show y ++ (Str.ofString "") ++ Str.join "" (z :: ys) = _
    rw [ih, e0]
    conv => lhs; rw [S_of y]
    rw [S_app, S_app, List.append_nil]
    rfl
theorem join_S (ys : List Str) : Txt.join "" ys = S (ys.flatMap fun y => y.cps.toList) := (eq_of_beq (join_plain_closes _ _)).trans (join_S' ys)
theorem look_none {c : Nat} : ∀ {kv : List (Str × Str)}, (kv.all fun p => p.1.cps.toList.all fun k => decide (k < 128)) = true → ¬ c < 128 → kv.lookup ⟨#[c]⟩ = none
  | [], _, _ => rfl
  | (k, v) :: kv, h, hc => by
    rw [List.all_cons, Bool.and_eq_true] at h
    rw [List.lookup_cons]
    have : ((⟨#[c]⟩ : Str) == k) = false := by
      rw [beq_eq_false_iff_ne]
      rintro e
      rw [← e] at h
      exact hc (of_decide_eq_true (List.all_eq_true.mp h.1 c (by simp)))
    rw [this]
    exact look_none h.2 hc
noncomputable def hwOk (kv : List (Str × Str)) (ps : List (Nat × List Nat)) : Bool := ((List.range 128).all fun c => decide ((wr1 kv c).cps.toList = tb ps c)) && (kv.all fun p => p.1.cps.toList.all fun k => decide (k < 128)) && (ps.all fun p => decide (p.1 < 128)) && (ps.all fun p => decide ((tb ps p.1).length ≤ 6))
theorem hw_ok {n : Nat} (hn : n < 5) : hwOk (kvs.getD n []) (psn n) = true := by
  match n, hn with
  | 0, _ => decide +kernel
  | 1, _ => decide +kernel
  | 2, _ => decide +kernel
  | 3, _ => decide +kernel
  | 4, _ => decide +kernel
theorem wr1_tb {n : Nat} (hn : n < 5) (c : Nat) : (wr1 (kvs.getD n []) c).cps.toList = tb (psn n) c := by
  have h := hw_ok hn
  unfold hwOk at h
  simp only [Bool.and_eq_true] at h
  obtain ⟨⟨⟨h1, h2⟩, h3⟩, _⟩ := h
  by_cases hc : c < 128
  · exact of_decide_eq_true (List.all_eq_true.mp h1 c (List.mem_range.mpr hc))
  · unfold wr1
    rw [look_none h2 hc, tb_free c _ fun p hp e => hc (e ▸ of_decide_eq_true (List.all_eq_true.mp h3 p hp))]
    rfl
/-- what the hand writes is what the table writes -/
theorem HF_WF {n : Nat} (hn : n < 5) (x : Str) : HFs n x = WFs n x := by
  unfold HFs WFs
  rw [join_S]
  unfold wrS
  rw [List.flatMap_map]
  congr 1
  exact (congrArg (fun f => List.flatMap f x.cps.toList) (funext fun c => wr1_tb hn c)).symm
theorem HF_S (n : Nat) (l : List Nat) : HFs n (S l) = S (l.flatMap (tb (psn n))) := by unfold HFs; rw [S_cps]
theorem tb6 {n : Nat} (hn : n < 5) (c : Nat) : (tb (psn n) c).length ≤ 6 := by
  have h := hw_ok hn
  unfold hwOk at h
  simp only [Bool.and_eq_true] at h
  exact tb_le h.2 c
theorem HF_len {n : Nat} (hn : n < 5) (x : Str) : (HFs n x).length ≤ 6 * x.length := by
  unfold HFs
  rw [S_len]
  exact length_flatMap_le _ _ 6 (tb6 hn)
section
variable {W : Wd} {a : Nat → Addr}
theorem hand_c (G : Gl W a) {n : Nat} (hn : n < 5) {x : Str} (hx : x.length ≤ 1000) : FnC W (a (19 + n)) 1 [.str x] (.str (HFs n x)) := by
  have hl : x.cps.toList.length ≤ 10000 := Nat.le_trans hx (by decide)
  rw [show D.str x = D.str (S x.cps.toList) from congrArg D.str (S_of x)]
  unfold HFs
  match n, hn with
  | 0, _ => exact c19 G hl
  | 1, _ => exact c20 G hl
  | 2, _ => exact c21 G hl
  | 3, _ => exact c22 G hl
  | 4, _ => exact c23 G hl
theorem writ_c (G : Gl W a) {n : Nat} {kv : List (Str × Str)} (hn : kvs[n]? = some kv) {x : Str} (hx : x.length ≤ 300) : FnC W (a 29) 1 [.dict kv, .str x] (.str (WFs n x)) := by
  have h5 : n < 5 := (List.getElem?_eq_some_iff.mp hn).1
  have e : kvs.getD n [] = kv := by rw [List.getD_eq_getElem?_getD, hn]; rfl
  unfold WFs
  rw [e]
  refine c29 G (by omega) ?_
  have : ((wrS kv x).map (·.length)).sum ≤ 6 * x.length := by
    unfold wrS
    rw [List.map_map]
    have h : ∀ l : List Nat, (l.map ((·.length) ∘ fun c => (kv.lookup (⟨#[c]⟩ : Str)).getD ⟨#[c]⟩)).sum ≤ 6 * l.length := by
      intro l
      induction l with
      | nil => exact Nat.le_refl _
      | cons c l ih =>
        rw [List.map_cons, List.sum_cons, List.length_cons]
        have := tb6 h5 c
        rw [← wr1_tb h5 c, e] at this
        have : (((·.length) ∘ fun c => (kv.lookup (⟨#[c]⟩ : Str)).getD ⟨#[c]⟩) c : Nat) ≤ 6 := this
        omega
    exact h _
  omega
end

end

section
noncomputable def lbl (lab : Nat → Nat) (k : Nat) : List Nat := hdL lab k ++ [46]
noncomputable def btF (shp lab : Nat → Nat) (i j : Nat) : List Nat := (Df shp i j).flatMap (lbl lab) ++ (Df shp j i).flatMap (lbl lab)
theorem sm_in {K : List Nat} (hK : K.Nodup) (f : Nat → Nat) : ∀ {L : List Nat}, L.Nodup → (∀ x ∈ L, x ∈ K) → (L.map f).sum = (K.map fun k => if k ∈ L then f k else 0).sum
  | [], _, _ => (sm_zero K).symm
  | x :: L, hn, hs => by
    obtain ⟨h1, h2⟩ := List.nodup_cons.mp hn
    rw [List.map_cons, List.sum_cons, sm_in hK f h2 fun y hy => hs y (List.mem_cons_of_mem _ hy)]
    have e := sm_other (l := K) (c := x) (f := fun k => if k ∈ x :: L then f k else 0) (g := fun k => if k ∈ L then f k else 0) hK (hs x List.mem_cons_self) fun k _ hk => by
      have : k ∈ x :: L ↔ k ∈ L := by rw [List.mem_cons]; exact ⟨fun h => h.resolve_left hk, .inr⟩
      show (if k ∈ x :: L then f k else 0) = if k ∈ L then f k else 0
      by_cases q : k ∈ L
      · rw [if_pos q, if_pos (this.mpr q)]
      · rw [if_neg q, if_neg fun h => q (this.mp h)]
    have e : _ + (if x ∈ L then f x else 0) = _ + (if x ∈ x :: L then f x else 0) := e
    rw [if_neg h1, if_pos List.mem_cons_self] at e
    omega
section
variable {shp lab w : Nat → Nat}
theorem Df_mem {i j k : Nat} : k ∈ Df shp i j ↔ bU shp k i = true ∧ ¬ bU shp k j = true := by
  unfold Df bU
  rw [List.mem_filter, decide_eq_true_eq, decide_eq_true_eq, Bool.not_eq_true', decide_eq_false_iff_not]
theorem Df_low (up : ∀ k, 1 ≤ k → k < 6 → shp k < k) {i j : Nat} (hi : i < 6) (hj : j < 6) : (Df shp i j).Nodup ∧ ∀ k ∈ Df shp i j, k ∈ List.range' 1 5 := by
  constructor
  · have h := (UL_desc up i hi).filter fun k => !decide (k ∈ UL shp j)
    exact h.imp fun h => by omega
  · intro k hk
    obtain ⟨h1, h2⟩ := Df_mem.mp hk
    have := UL_lt up i hi k (of_decide_eq_true h1)
    have h0 : k ≠ 0 := fun e => h2 (by rw [e]; exact decide_eq_true (UL_zero_mem up j hj))
    rw [List.mem_range'_1]; omega
theorem Df_sum (up : ∀ k, 1 ≤ k → k < 6 → shp k < k) {i j : Nat} (hi : i < 6) (hj : j < 6) (sp : Nat → Nat) : ((Df shp i j).map sp).sum + ((Df shp j i).map sp).sum = ((List.range' 1 5).map fun k => sp k * xr (bU shp k i) (bU shp k j)).sum := by
  obtain ⟨a1, a2⟩ := Df_low up hi hj
  obtain ⟨b1, b2⟩ := Df_low up hj hi
  rw [sm_in List.nodup_range' sp a1 a2, sm_in List.nodup_range' sp b1 b2, sm_add]
  refine sm_congr fun k _ => ?_
  simp only [Df_mem]
  unfold xr
  cases bU shp k i <;> cases bU shp k j <;> simp
theorem tb46 {n : Nat} (hn : n < 5) : tb (psn n) 46 = [46] := by
  match n, hn with
  | 0, _ => rfl
  | 1, _ => rfl
  | 2, _ => rfl
  | 3, _ => rfl
  | 4, _ => rfl
noncomputable abbrev spU (lab : Nat → Nat) (n k : Nat) : Nat := spF WFs (fun k => S (hdL lab k)) n k
theorem lbl_len {n : Nat} (hn : n < 5) (k : Nat) : ((lbl lab k).flatMap (tb (psn n))).length = spU lab n k := by
  unfold spU spF lbl
  rw [← HF_WF hn, HF_S, S_len, List.flatMap_append, List.length_append]
  congr 1
  rw [List.flatMap_cons, tb46 hn]; rfl
theorem lbls_len {n : Nat} (hn : n < 5) : ∀ l : List Nat, ((l.flatMap (lbl lab)).flatMap (tb (psn n))).length = (l.map (spU lab n)).sum
  | [] => rfl
  | k :: l => by
    rw [List.flatMap_cons, List.flatMap_append, List.length_append, List.map_cons, List.sum_cons, lbls_len hn l, lbl_len hn k]
theorem wy_eq (up : ∀ k, 1 ≤ k → k < 6 → shp k < k) {n i j : Nat} (hn : n < 5) (hi : i < 6) (hj : j < 6) : wyF HFs (btF shp lab) n i j = ((List.range' 1 5).map fun k => spU lab n k * xr (bU shp k i) (bU shp k j)).sum := by
  unfold wyF btF
  rw [HF_S, S_len, List.flatMap_append, List.length_append, lbls_len hn, lbls_len hn, Df_sum up hi hj]
theorem wiener_law (up : ∀ k, 1 ≤ k → k < 6 → shp k < k) {n : Nat} (hn : n < 5) : prF HFs (btF shp lab) w n = wnF WFs (fun k => S (hdL lab k)) (UL shp) w n := by
  have e1 : prF HFs (btF shp lab) w n = ((pairs 6).map fun p => w p.1 * w p.2 * wyF HFs (btF shp lab) n p.1 p.2).sum := by
    unfold prF pairs
    rw [List.map_flatMap]
    congr 1
  have e2 : ∀ p ∈ pairs 6, w p.1 * w p.2 * wyF HFs (btF shp lab) n p.1 p.2 = w p.1 * w p.2 * ((List.range' 1 5).map fun k => spU lab n k * xr (bU shp k p.1) (bU shp k p.2)).sum := fun p hp => by
    obtain ⟨h1, h2⟩ := pairs_ok hp
    rw [wy_eq up hn h1 (by omega)]
  rw [e1, sm_congr e2, wiener]
  unfold wnF
  refine sm_congr fun k _ => ?_
  have e := y_n (shp := shp) (w := w) k
  rw [un_y, show whF w - yU shp w k = nU shp w k by omega, Nat.mul_assoc]; rfl
theorem xr_comm (a b : Bool) : xr a b = xr b a := by cases a <;> cases b <;> rfl
theorem sm_eq (up : ∀ k, 1 ≤ k → k < 6 → shp k < k) {n i : Nat} (hn : n < 5) (hi : i < 6) : smF HFs (btF shp lab) w n i = SU shp w (spU lab n) i := by
  unfold smF
  rw [sm_filter]
  have e : ∀ j ∈ List.range 6, (if (j != i) = true then w j * wyF HFs (btF shp lab) n (max i j) (min i j) else 0) = w j * ((List.range' 1 5).map fun k => spU lab n k * xr (bU shp k i) (bU shp k j)).sum := fun j hj => by
    have hj := List.mem_range.mp hj
    by_cases q : j = i
    · subst q
      rw [if_neg (by simp)]
      have : ∀ k ∈ List.range' 1 5, spU lab n k * xr (bU shp k j) (bU shp k j) = 0 := fun k _ => by unfold xr; cases bU shp k j <;> rfl
      rw [sm_congr this, sm_zero]; rfl
    · rw [if_pos (by rw [bne_iff_ne]; exact q)]
      congr 1
      rcases Nat.le_total i j with h | h
      · rw [Nat.max_eq_right h, Nat.min_eq_left h, wy_eq up hn hj hi]
        exact sm_congr fun k _ => by rw [xr_comm]
      · rw [Nat.max_eq_left h, Nat.min_eq_right h, wy_eq up hn hi hj]
  rw [sm_congr e, from_one]; rfl
theorem btF_len (up : ∀ k, 1 ≤ k → k < 6 → shp k < k) {i j : Nat} (hi : i < 6) (hj : j < 6) : (btF shp lab i j).length ≤ 500 := by
  have h1 : ∀ l : List Nat, (l.flatMap (lbl lab)).length ≤ 4 * l.length := by
    intro l
    induction l with
    | nil => exact Nat.le_refl _
    | cons k l ih =>
      rw [List.flatMap_cons, List.length_append, List.length_cons]
      have : (lbl lab k).length ≤ 4 := by unfold lbl; rw [List.length_append]; have := hd_len (lab := lab) k; show _ + 1 ≤ 4; omega
      omega
  have h2 : ∀ i j, i < 6 → (Df shp i j).length ≤ 6 := fun i j hi => by
    have a := List.length_filter_le (fun k => !decide (k ∈ UL shp j)) (UL shp i)
    have b := UL_len up i hi
    unfold Df; omega
  unfold btF
  rw [List.length_append]
  have := h1 (Df shp i j)
  have := h1 (Df shp j i)
  have := h2 i j hi
  have := h2 j i hj
  omega
end

end

section
section
variable {W : Wd} {a : Nat → Addr} {shp lab : Nat → Nat} {r : List Nat}
theorem tb_low {n : Nat} (hn : n < 5) {c : Nat} (hc : c < 128) : ∀ k ∈ tb (psn n) c, k < 128 := by
  have h : ((List.range 128).all fun c => (tb (psn n) c).all fun k => decide (k < 128)) = true := by
    match n, hn with
    | 0, _ => decide +kernel
    | 1, _ => decide +kernel
    | 2, _ => decide +kernel
    | 3, _ => decide +kernel
    | 4, _ => decide +kernel
  exact fun k hk => of_decide_eq_true (List.all_eq_true.mp (List.all_eq_true.mp h c (List.mem_range.mpr hc)) k hk)
theorem lr_of (G : Gl W a) (hr : r ∈ rootL) (up : ∀ k, 1 ≤ k → k < 6 → shp k < k) (fig : Nat → Nat) :
    LR W a shp (fun k => fig k % 6) (fun k => S (hL r lab shp k)) (fun k => S (hdL lab k)) (UL shp) (btF shp lab) HFs WFs where
  btl := fun one two h1 h2 => btF_len up h1 (by omega)
  hand := fun n hn x hx => hand_c G hn hx
  hlen := fun n hn x hx => by have := HF_len hn x; omega
  writ := fun n kv hn x hx => writ_c G hn hx
  wlen := fun n hn x hx => by have := HF_len hn x; rw [← HF_WF hn]; omega
  w3 := fun n hn k hk => HF_WF hn _
  okW := fun n hn k hk => by
    rw [← HF_WF hn, HF_S]
    refine strOk_S fun c hc => ?_
    obtain ⟨d, hd, hc⟩ := List.mem_flatMap.mp hc
    exact tb_low hn (low_hL hr up hk d hd).1 c hc
  w5 := fun k => by show fig k % 6 ≤ 5; omega
  unle := fun k hk => by have := y_n (shp := shp) (w := fun k => fig k % 6) k; rw [un_y]; omega
  w1 := fun n hn => wiener_law up hn
  w2 := fun n hn => medians up (sp := spU lab n) (fun k => Nat.le_add_left _ _) fun k hk => sm_eq up hn hk
end

end

section
section
variable {W : Wd} {a : Nat → Addr} {shp lab : Nat → Nat} {r : List Nat}
/-- on the way up: after a host its parent, after the root nothing -/
theorem UL_next (up : ∀ k, 1 ≤ k → k < 6 → shp k < k) : ∀ k, k < 6 → ∀ i u, (UL shp k)[i]? = some u → (u ≠ 0 → (UL shp k)[i + 1]? = some (shp u)) ∧ (u = 0 → i + 1 = (UL shp k).length) := by
  intro k
  induction k using Nat.strongRecOn with
  | ind k ih =>
    intro hk i u hu
    rcases Nat.eq_zero_or_pos k with h | h
    · subst h
      rw [UL_zero] at hu ⊢
      match i with
      | 0 => injection hu with hu; subst hu; exact ⟨fun h => absurd rfl h, fun _ => rfl⟩
      | i + 1 => cases hu
    · have hs := up k h hk
      have eU := UL_succ up h hk
      rw [eU] at hu ⊢
      match i with
      | 0 =>
        injection hu with hu; subst hu
        refine ⟨fun _ => ?_, fun e => by omega⟩
        show (UL shp (shp k))[0]? = _
        rcases Nat.eq_zero_or_pos (shp k) with q | q
        · rw [q]; rfl
        · rw [UL_succ up q (by omega)]; rfl
      | i + 1 =>
        obtain ⟨h1, h2⟩ := ih (shp k) hs (by omega) i u hu
        exact ⟨fun q => h1 q, fun q => by rw [List.length_cons, ← h2 q]⟩
theorem range_getD {α : Type} (f : Nat → α) : ∀ vs : List Nat, (List.range vs.length).map (fun i => f (vs.getD i 0)) = vs.map f
  | [] => rfl
  | v :: vs => by
    rw [List.length_cons, List.range_succ_eq_map, List.map_cons, List.map_cons, List.map_map]
    exact congrArg _ (range_getD f vs)
theorem up_dot (hr : r ∈ rootL) (up : ∀ k, 1 ≤ k → k < 6 → shp k < k) {k : Nat} (hk : k < 6) : (decide (Txt.find (S (hL r lab shp k)) "." ≥ 0) || (S (hL r lab shp k) == "local")) = true := by
  have d1 : (Str.ofString ".") = S [46] := by decide +kernel
  have d2 : (Str.ofString "local") = S [108, 111, 99, 97, 108] := by decide +kernel
  rw [d1, d2]
  rcases Nat.eq_zero_or_pos k with q | q
  · subst q
    rw [hL_zero]
    rcases List.mem_cons.mp hr with rfl | hr
    · rw [S_beq, decide_eq_true rfl, Bool.or_true]
    rcases List.mem_cons.mp hr with rfl | hr
    · rw [show [121, 46, 110, 101, 116] = [121] ++ 46 :: [110, 101, 116] from rfl, find_dot (by decide)]; rfl
    rcases List.mem_cons.mp hr with rfl | hr
    · rw [show [121, 46, 120, 108, 111, 99, 97, 108] = [121] ++ 46 :: [120, 108, 111, 99, 97, 108] from rfl, find_dot (by decide)]; rfl
    cases hr
  · rw [hL_succ up q hk, find_dot fun h => (hd_ok hk 46 h).2 rfl, decide_eq_true (by omega)]; rfl
theorem reach_up (G : Gl W a) (P : PatAt W.H (a 2)) (hr : r ∈ rootL) (up : ∀ k, 1 ≤ k → k < 6 → shp k < k) {k : Nat} (hk : k < 6) (h0 : k ≠ 0) : FnC W (a 6) 2 [.str (S (hL r lab shp k))] (.str (S (46 :: hL r lab shp (shp k)))) := by
  have d1 : (Str.ofString ".") = S [46] := by decide +kernel
  have h1 : 1 ≤ k := by omega
  have hs := up k h1 hk
  obtain ⟨n, _, ⟨c, hc, hne⟩, e, he, e1, e2⟩ := hL_ok (lab := lab) hr up k hk
  have dg := dig_hL (lab := lab) hr up hk
  have eH := hL_succ (r := r) (lab := lab) up h1 hk
  rw [eH] at n hc he dg ⊢
  exact c6_up G P (c := c) (e := e) (by omega) (ip_no dg) hc he hne (by omega) (by rw [d1]; exact find_dot fun h => (hd_ok hk 46 h).2 rfl) (up_dot hr up (by omega))
theorem reach_top (G : Gl W a) (P : PatAt W.H (a 2)) (hr : r ∈ rootL) : FnC W (a 6) 2 [.str (S r)] (.str (S r)) := by
  have d1 : (Str.ofString ".") = S [46] := by decide +kernel
  have d2 : (Str.ofString "local") = S [108, 111, 99, 97, 108] := by decide +kernel
  rcases List.mem_cons.mp hr with rfl | hr
  · exact c6_none G (by decide) (by rw [d1]; exact find_no (by decide))
  rcases List.mem_cons.mp hr with rfl | hr
  · exact c6_top G P (h := [121]) (p := [110, 101, 116]) (c := 121) (e := 116) (by decide) (ip_no (l := [121, 46, 110, 101, 116]) (by decide)) rfl rfl (by decide) (by decide) (by rw [d1]; exact find_dot (by decide)) (by rw [d1, d2, find_no (by decide), S_beq]; decide)
  rcases List.mem_cons.mp hr with rfl | hr
  · exact c6_top G P (h := [121]) (p := [120, 108, 111, 99, 97, 108]) (c := 121) (e := 108) (by decide) (ip_no (l := [121, 46, 120, 108, 111, 99, 97, 108]) (by decide)) rfl rfl (by decide) (by decide) (by rw [d1]; exact find_dot (by decide)) (by rw [d1, d2, find_no (by decide), S_beq]; decide)
  cases hr
theorem lad_c (G : Gl W a) (P : PatAt W.H (a 2)) (hr : r ∈ rootL) (up : ∀ k, 1 ≤ k → k < 6 → shp k < k) {k : Nat} (hk : k < 6) : FnC W (a 31) 3 [.str (S (hL r lab shp k))] (hl (fun k => S (hL r lab shp k)) (UL shp k)) := by
  have len := UL_len up k hk
  have pos : 0 < (UL shp k).length := List.length_pos_iff.mpr fun e => by have := UL_self up hk; rw [e] at this; cases this
  obtain ⟨m, hm⟩ : ∃ m, (UL shp k).length = m + 1 := ⟨(UL shp k).length - 1, by omega⟩
  have get : ∀ i, i ≤ m → ∃ u, (UL shp k)[i]? = some u ∧ (UL shp k).getD i 0 = u ∧ u < 6 := fun i hi => by
    have h : i < (UL shp k).length := by omega
    refine ⟨(UL shp k)[i], List.getElem?_eq_getElem h, ?_, ?_⟩
    · rw [List.getD_eq_getElem?_getD, List.getElem?_eq_getElem h]; rfl
    · have := UL_lt up k hk _ (List.getElem_mem h); omega
  have first : (UL shp k).getD 0 0 = k := by
    rcases Nat.eq_zero_or_pos k with q | q
    · subst q; rfl
    · rw [UL_succ up q hk]; rfl
  have nz : ∀ i, i < m → (UL shp k).getD i 0 ≠ 0 := fun i hi e => by
    obtain ⟨u, h1, h2, _⟩ := get i (by omega)
    have := (UL_next up k hk i u h1).2 (by omega)
    omega
  have top : (UL shp k).getD m 0 = 0 := by
    obtain ⟨u, h1, h2, _⟩ := get m (Nat.le_refl _)
    rw [h2]
    cases Decidable.em (u = 0) with
    | inl h => exact h
    | inr h =>
      have := (UL_next up k hk m u h1).1 h
      have := (List.getElem?_eq_some_iff.mp this).1
      omega
  have nxt : ∀ i, i < m → (UL shp k).getD (i + 1) 0 = shp ((UL shp k).getD i 0) := fun i hi => by
    obtain ⟨u, h1, h2, _⟩ := get i (by omega)
    have := (UL_next up k hk i u h1).1 (h2 ▸ nz i hi)
    rw [List.getD_eq_getElem?_getD, this, h2]; rfl
  have six : ∀ i, i ≤ m → (UL shp k).getD i 0 < 6 := fun i hi => by
    obtain ⟨u, _, h2, h3⟩ := get i hi
    omega
  have c := c31 G (h := fun i => S (hL r lab shp ((UL shp k).getD i 0))) (up := fun i => if i < m then S (46 :: hL r lab shp ((UL shp k).getD (i + 1) 0)) else S (hL r lab shp ((UL shp k).getD i 0))) (m := m) (by omega)
    (fun i hi => ?_) (fun i hi => ?_) (fun i hi => ?_) ?_ (fun i hi => ?_)
  · rw [← hm, range_getD (fun u => D.str (S (hL r lab shp u)))] at c
    simp only [first] at c
    exact c
  · show FnC W (a 6) 2 [.str (S (hL r lab shp ((UL shp k).getD i 0)))] (.str (if i < m then _ else _))
    by_cases q : i < m
    · rw [if_pos q, nxt i q]
      exact reach_up G P hr up (six i hi) (nz i q)
    · rw [if_neg q, show i = m by omega, top, hL_zero]
      exact reach_top G P hr
  · show (if i < m then _ else _ : Str).length ≤ 1000
    by_cases q : i < m
    · rw [if_pos q, S_len, List.length_cons]
      have := (hL_ok (lab := lab) hr up _ (six (i + 1) q)).1
      have := six (i + 1) q
      omega
    · rw [if_neg q, S_len]
      have := (hL_ok (lab := lab) hr up _ (six i hi)).1
      have := six i hi
      omega
  · show ((if i < m then _ else _ : Str) == _) = false
    rw [if_pos hi, S_beq, decide_eq_false]
    intro e
    obtain ⟨_, _, ⟨c, hc, hne⟩, _⟩ := hL_ok (lab := lab) hr up _ (six i (by omega))
    rw [← e] at hc
    injection hc with hc
    exact hne hc.symm
  · exact if_neg (Nat.lt_irrefl _)
  · show Txt.slice (if i < m then _ else _ : Str) (some 1) none = _
    rw [if_pos hi]
    exact slice_from (46 :: hL r lab shp ((UL shp k).getD (i + 1) 0)) (k := 1) (by rw [List.length_cons]; omega)
end

end

section
section
variable {W : Wd} {a : Nat → Addr} {shp lab : Nat → Nat} {r : List Nat}
theorem joinH_app (D L : List Nat) (h : ∀ k ∈ D, k ≠ 0) : joinH r lab (D ++ L) = D.flatMap (lbl lab) ++ joinH r lab L := by
  induction D with
  | nil => rfl
  | cons k D ih =>
    show (if k = 0 then r else hdL lab k ++ 46 :: joinH r lab (D ++ L)) = _
    rw [if_neg (h k List.mem_cons_self), ih fun x hx => h x (List.mem_cons_of_mem _ hx), List.flatMap_cons]
    unfold lbl
    simp
theorem UL_cons (up : ∀ k, 1 ≤ k → k < 6 → shp k < k) {k : Nat} (hk : k < 6) : ∃ l, UL shp k = k :: l := by
  rcases Nat.eq_zero_or_pos k with q | q
  · subst q; exact ⟨[], rfl⟩
  · exact ⟨_, UL_succ up q hk⟩
theorem bet_c (G : Gl W a) (hr : r ∈ rootL) (up : ∀ k, 1 ≤ k → k < 6 → shp k < k) {i j : Nat} (hi : i < 6) (hj : j < 6) :
    FnC W (a 33) 1 [hl (fun k => S (hL r lab shp k)) (UL shp i), hl (fun k => S (hL r lab shp k)) (UL shp j)] (.str (S (btF shp lab i j))) := by
  obtain ⟨m, hm, e1, e2, e3⟩ := meet up i hi j hj
  obtain ⟨li, ei⟩ := UL_cons up hi
  obtain ⟨lj, ej⟩ := UL_cons up hj
  obtain ⟨lm, em⟩ := UL_cons up hm
  have n0 : ∀ i j, i < 6 → j < 6 → ∀ k ∈ Df shp i j, k ≠ 0 := fun i j hi hj k hk => by
    have := (Df_low up hi hj).2 k hk
    rw [List.mem_range'_1] at this; omega
  have f1 : hL r lab shp i = (Df shp i j).flatMap (lbl lab) ++ hL r lab shp m := by
    conv => lhs; unfold hL; rw [e1]
    exact joinH_app _ _ (n0 i j hi hj)
  have f2 : hL r lab shp j = (Df shp j i).flatMap (lbl lab) ++ hL r lab shp m := by
    conv => lhs; unfold hL; rw [e2]
    exact joinH_app _ _ (n0 j i hj hi)
  have ni := (hL_ok (lab := lab) hr up i hi).1
  have nj := (hL_ok (lab := lab) hr up j hj).1
  have ok : ∀ k, k < 6 → ∀ x ∈ (UL shp k).map (fun k => S (hL r lab shp k)), PyData.strOk x = true := fun k hk x hx => by
    obtain ⟨u, hu, rfl⟩ := List.mem_map.mp hx
    have := UL_lt up k hk u hu
    exact strOk_S fun c hc => (low_hL hr up (by omega) c hc).1
  have c := c33 G (os := (UL shp i).map fun k => S (hL r lab shp k)) (ts := (UL shp j).map fun k => S (hL r lab shp k)) (os' := li.map fun k => S (hL r lab shp k)) (ts' := lj.map fun k => S (hL r lab shp k)) (ms' := lm.map fun k => S (hL r lab shp k))
    (o := S (hL r lab shp i)) (t := S (hL r lab shp j)) (m := S (hL r lab shp m)) (by rw [ei]; rfl) (by rw [ej]; rfl) ?_ (by rw [S_len, S_len, f1, List.length_append]; omega) (by rw [S_len, S_len, f2, List.length_append]; omega)
    (by rw [S_len]; omega) (by rw [S_len]; omega) (by rw [List.length_map]; have := UL_len up i hi; omega) (by rw [List.length_map]; have := UL_len up j hj; omega) (ok i hi) (ok j hj)
  · have s1 : Txt.slice (S (hL r lab shp i)) none (some (((S (hL r lab shp i)).length - (S (hL r lab shp m)).length : Nat) : Int)) = S ((Df shp i j).flatMap (lbl lab)) := by
      rw [S_len, S_len, slice_to _ (Nat.sub_le _ _), f1, List.length_append, Nat.add_sub_cancel, List.take_left]
    have s2 : Txt.slice (S (hL r lab shp j)) none (some (((S (hL r lab shp j)).length - (S (hL r lab shp m)).length : Nat) : Int)) = S ((Df shp j i).flatMap (lbl lab)) := by
      rw [S_len, S_len, slice_to _ (Nat.sub_le _ _), f2, List.length_append, Nat.add_sub_cancel, List.take_left]
    rw [s1, s2, S_app] at c
    rw [hl_eq, hl_eq]
    exact c
  · have : ((UL shp i).map fun k => S (hL r lab shp k)).filter (fun r' => ((UL shp j).map fun k => S (hL r lab shp k)).any fun y => y == r') = ((UL shp i).filter fun k => decide (k ∈ UL shp j)).map fun k => S (hL r lab shp k) := by
      rw [List.filter_map]
      congr 1
      refine List.filter_congr fun k hk => ?_
      have hk6 := UL_lt up i hi k hk
      show (((UL shp j).map fun k => S (hL r lab shp k)).any fun y => y == S (hL r lab shp k)) = decide (k ∈ UL shp j)
      rw [Bool.eq_iff_iff, List.any_eq_true, decide_eq_true_eq]
      constructor
      · rintro ⟨y, hy, h⟩
        obtain ⟨u, hu, rfl⟩ := List.mem_map.mp hy
        have hu6 := UL_lt up j hj u hu
        have := hL_inj (lab := lab) hr up (show u < 6 by omega) (show k < 6 by omega) (S_inj (eq_of_beq h))
        exact this ▸ hu
      · exact fun h => ⟨_, List.mem_map.mpr ⟨k, h, rfl⟩, beq_self_eq_true _⟩
    rw [this, e3, em]; rfl
end

end

section
section
variable {W : Wd} {a : Nat → Addr} {shp lab : Nat → Nat} {r : List Nat}
noncomputable def tlF (lab : Nat → Nat) (k : Nat) : List Nat := tlL.getD (lab k / 8) []
theorem tlF_in (k : Nat) : tlF lab k ∈ tlL := by
  unfold tlF
  rw [List.getD_eq_getElem?_getD]
  cases h : tlL[lab k / 8]? with
  | none => exact List.mem_cons_self
  | some t => exact List.mem_of_getElem? h
theorem tb_of (G : Gl W a) (P : PatAt W.H (a 2)) (hr : r ∈ rootL) (up : ∀ k, 1 ≤ k → k < 6 → shp k < k) :
    TB W a (fun k => S (hL r lab shp k)) (fun k => S (hdL lab k)) (fun k => S (tlF lab k)) (UL shp) where
  lenH := fun k hk => by
    have h1 := (hL_ok (lab := lab) hr up k hk).1
    have h2 := hd_len (lab := lab) k
    have h3 := (tl_white (tlF_in (lab := lab) k)).1
    have h4 := UL_len up k hk
    refine ⟨?_, ?_, ?_, ?_, by omega⟩
    · show (S (hL r lab shp k)).length ≤ 100
      rw [S_len]; omega
    · show (Txt.upper (S (hL r lab shp k))).length ≤ 100
      rw [upper_S _ fun c hc => (low_hL hr up hk c hc).1, S_len, List.length_map]; omega
    · show (S (hdL lab k)).length ≤ 10
      rw [S_len]; omega
    · show (S (tlF lab k)).length ≤ 10
      rw [S_len]; omega
  ok := fun k hk => by
    have d1 : (Str.ofString "# ") = S [35, 32] := by decide +kernel
    have d2 : (Str.ofString "#  ") = S [35, 32, 32] := by decide +kernel
    have l : ∀ p : List Nat, (∀ c ∈ p, c < 128) → PyData.strOk (S p ++ S (hL r lab shp k)) = true := fun p hp => by
      rw [S_app]
      refine strOk_S fun c hc => ?_
      rcases List.mem_append.mp hc with h | h
      · exact hp c h
      · exact (low_hL hr up hk c h).1
    constructor
    · rw [d1]; exact l _ (by decide)
    · rw [d2]; exact l _ (by decide)
  rem := fun k hk => by
    have c := tb_rem (lab := lab) G hr up hk (p := []) (by decide) (tlF_in (lab := lab) k)
    rw [nil_S] at c
    exact c
  tail := fun k hk => tb_tail G (tlF_in k)
  front := fun k hk => by
    have d0 : (Str.ofString " ") = S [32] := by decide +kernel
    have d1 : (Str.ofString "# ") = S [35, 32] := by decide +kernel
    have d2 : (Str.ofString "#  ") = S [35, 32, 32] := by decide +kernel
    have c := tb_rem (lab := lab) G hr up hk (p := [32]) (t := []) (by decide) List.mem_cons_self
    rw [S_nil] at c
    have e : (Str.ofString "# ") ++ (S [32] ++ S (hL r lab shp k)) = (Str.ofString "#  ") ++ S (hL r lab shp k) := by rw [d1, d2, S_app, S_app, S_app]; rfl
    rw [e] at c
    show FnC W (a 10) 1 [.str ((Str.ofString " ") ++ S (hL r lab shp k))] _
    rw [d0]
    exact c
  below := fun low high hl hh => tb_below G P hr up hl hh
  ell := fun low high hl hh => by
    unfold aboveV
    split
    · rename_i h
      rw [Bool.and_eq_true, decide_eq_true_eq] at h
      exact tb_ell3 G hr up hl hh (by omega)
    · exact tb_ell2 G hr up hl hh
  first := fun low hl => tb_first G P hr up hl
  numb := fun low hl => tb_numb G P hr up hl
  ask := fun low hl x y hx hy => tb_ask G hr up hl hx hy
theorem lq_of (G : Gl W a) (P : PatAt W.H (a 2)) (hr : r ∈ rootL) (up : ∀ k, 1 ≤ k → k < 6 → shp k < k) :
    LQ W a (fun k => S (hL r lab shp k)) (fun k => S (hdL lab k)) (fun k => S (tlF lab k)) (UL shp) (btF shp lab) where
  inj := fun i j hi hj h => hL_inj hr up hi hj (S_inj h)
  lad := fun k hk => lad_c G P hr up hk
  okH := fun k hk => strOk_S fun c hc => (low_hL hr up hk c hc).1
  Ulow := fun k hk u hu => by have := UL_lt up k hk u hu; omega
  below := tb_of G P hr up
  bet := fun one two h1 h2 => bet_c G hr up h1 (by omega)
end

end

section
noncomputable def figs : Int → List Int → List Int
  | _, [] => []
  | c, b :: bs => c.fmod b :: figs (c.fdiv b) bs
theorem figs_F (bs : List Int) : ∀ (c : Int) (acc : List Int), (bs.foldl figStep (c, acc)).2 = acc ++ figs c bs := by
  induction bs with
  | nil => exact fun c acc => (List.append_nil _).symm
  | cons b bs ih =>
    intro c acc
    rw [List.foldl_cons]
    show (bs.foldl figStep (c.fdiv b, acc ++ [c.fmod b])).2 = _
    rw [ih, List.append_assoc]; rfl
theorem figs_ok : ∀ (bs : List Int) (c : Int), (∀ b ∈ bs, 0 < b) → (figs c bs).length = bs.length ∧ ∀ (k : Nat) (b : Int), bs[k]? = some b → ∃ v : Nat, (figs c bs)[k]? = some (v : Int) ∧ (v : Int) < b
  | [], c, _ => ⟨rfl, fun k b h => by cases h⟩
  | b :: bs, c, h => by
    obtain ⟨h1, h2⟩ := figs_ok bs (c.fdiv b) fun x hx => h x (List.mem_cons_of_mem _ hx)
    refine ⟨by show _ + 1 = _ + 1; rw [h1], fun k x hk => ?_⟩
    match k with
    | 0 =>
      injection hk with hk
      subst hk
      have hb := h b List.mem_cons_self
      have p := Int.fmod_nonneg_of_pos c hb
      have q := Int.fmod_lt_of_pos c hb
      refine ⟨(c.fmod b).toNat, ?_, ?_⟩
      · show some (c.fmod b) = _
        rw [Int.toNat_of_nonneg p]
      · rw [Int.toNat_of_nonneg p]; exact q
    | k + 1 => exact h2 k x hk
noncomputable def fg (c : Int) (bs : List Int) (k : Nat) : Nat := ((figsF c bs).getD k 0).toNat
theorem fg_ok {bs : List Int} (c : Int) (h : ∀ b ∈ bs, 0 < b) : figsF c bs = numsI bs.length (fg c bs) ∧ ∀ (k : Nat) (b : Int), bs[k]? = some b → ((fg c bs k : Nat) : Int) < b := by
  have e : figsF c bs = figs c bs := figs_F bs c []
  obtain ⟨h1, h2⟩ := figs_ok bs c h
  have key : ∀ (k : Nat) (b : Int), bs[k]? = some b → (figsF c bs)[k]? = some ((fg c bs k : Nat) : Int) ∧ ((fg c bs k : Nat) : Int) < b := fun k b hk => by
    obtain ⟨v, h3, h4⟩ := h2 k b hk
    rw [← e] at h3
    have : fg c bs k = v := by
      unfold fg
      rw [List.getD_eq_getElem?_getD, h3]; rfl
    rw [this]; exact ⟨h3, h4⟩
  refine ⟨?_, fun k b hk => (key k b hk).2⟩
  refine List.ext_getElem? fun k => ?_
  by_cases q : k < bs.length
  · rw [(key k _ (List.getElem?_eq_getElem q)).1]
    unfold numsI
    rw [List.getElem?_map, List.getElem?_range q]; rfl
  · rw [List.getElem?_eq_none (by rw [e, h1]; omega), List.getElem?_eq_none (by unfold numsI; rw [List.length_map, List.length_range]; omega)]
noncomputable def shpOf (is : List Int) : Nat → Nat := fg ((cellsF is).getD 0 0) [3, 1, 2, 3, 4, 5, 5, 4]
noncomputable def labOf (is : List Int) : Nat → Nat := fg ((cellsF is).getD 1 0) [24, 24, 24, 24, 24, 24]
noncomputable def figOf (is : List Int) : Nat → Nat := fg ((cellsF is).getD 2 0) [72, 72, 72, 72, 72, 72]
noncomputable def rOf (is : List Int) : List Nat := rootL.getD (shpOf is 0) []
theorem shp_ok (is : List Int) : figsF ((cellsF is).getD 0 0) [3, 1, 2, 3, 4, 5, 5, 4] = numsI 8 (shpOf is) ∧ shpOf is 0 < 3 ∧ shpOf is 6 < 5 ∧ shpOf is 7 < 4 ∧ ∀ k, 1 ≤ k → k < 6 → shpOf is k < k := by
  obtain ⟨h1, h2⟩ := fg_ok (bs := [3, 1, 2, 3, 4, 5, 5, 4]) ((cellsF is).getD 0 0) (by decide)
  have g : ∀ k b, ([3, 1, 2, 3, 4, 5, 5, 4] : List Int)[k]? = some b → ((shpOf is k : Nat) : Int) < b := h2
  refine ⟨h1, ?_, ?_, ?_, fun k k1 k6 => ?_⟩
  · have := g 0 3 rfl; omega
  · have := g 6 5 rfl; omega
  · have := g 7 4 rfl; omega
  · match k, k1, k6 with
    | 1, _, _ => have := g 1 1 rfl; omega
    | 2, _, _ => have := g 2 2 rfl; omega
    | 3, _, _ => have := g 3 3 rfl; omega
    | 4, _, _ => have := g 4 4 rfl; omega
    | 5, _, _ => have := g 5 5 rfl; omega
theorem six24 {b : Int} {k : Nat} (hk : k < 6) : ([b, b, b, b, b, b] : List Int)[k]? = some b := by
  match k, hk with
  | 0, _ => rfl
  | 1, _ => rfl
  | 2, _ => rfl
  | 3, _ => rfl
  | 4, _ => rfl
  | 5, _ => rfl
theorem lab_ok (is : List Int) : figsF ((cellsF is).getD 1 0) [24, 24, 24, 24, 24, 24] = numsI 6 (labOf is) ∧ ∀ k, k < 6 → labOf is k < 24 := by
  obtain ⟨h1, h2⟩ := fg_ok (bs := [24, 24, 24, 24, 24, 24]) ((cellsF is).getD 1 0) (by decide)
  exact ⟨h1, fun k hk => by have : ((labOf is k : Nat) : Int) < 24 := h2 k 24 (six24 hk); omega⟩
theorem fig_ok (is : List Int) : figsF ((cellsF is).getD 2 0) [72, 72, 72, 72, 72, 72] = numsI 6 (figOf is) ∧ ∀ k, k < 6 → figOf is k < 72 := by
  obtain ⟨h1, h2⟩ := fg_ok (bs := [72, 72, 72, 72, 72, 72]) ((cellsF is).getD 2 0) (by decide)
  exact ⟨h1, fun k hk => by have : ((figOf is k : Nat) : Int) < 72 := h2 k 72 (six24 hk); omega⟩
theorem r_ok (is : List Int) : rOf is ∈ rootL ∧ roots[shpOf is 0]? = some (S (rOf is)) := by
  unfold rOf
  have h := (shp_ok is).2.1
  match shpOf is 0, h with
  | 0, _ => exact ⟨by decide, by decide +kernel⟩
  | 1, _ => exact ⟨by decide, by decide +kernel⟩
  | 2, _ => exact ⟨by decide, by decide +kernel⟩
theorem suf_is {j : Nat} (hj : j < 8) : sufs[j]? = some (S (sufL.getD j [])) :=
  of_decide_eq_true (List.all_eq_true.mp (show ((List.range 8).all fun j => decide (sufs[j]? = some (S (sufL.getD j [])))) = true by decide +kernel) j (List.mem_range.mpr hj))
theorem tl_is {j : Nat} (hj : j < 3) : tls[j]? = some (S (tlL.getD j [])) :=
  of_decide_eq_true (List.all_eq_true.mp (show ((List.range 3).all fun j => decide (tls[j]? = some (S (tlL.getD j [])))) = true by decide +kernel) j (List.mem_range.mpr hj))
theorem item_is {j : Nat} (hj : j < 5) : Txt.item "bcdef" (j : Int) = S [98 + j] :=
  of_decide_eq_true (List.all_eq_true.mp (show ((List.range 5).all fun j => decide (Txt.item "bcdef" (j : Int) = S [98 + j])) = true by decide +kernel) j (List.mem_range.mpr hj))
theorem lp_of {is : List Int} (hn : is.length ≤ 63) : LP is (shpOf is) (labOf is) (figOf is) (fun k => S (hL (rOf is) (labOf is) (shpOf is) k)) (fun k => S (hdL (labOf is) k)) (fun k => S (tlF (labOf is) k)) (UL (shpOf is)) where
  len := hn
  shape := (shp_ok is).1
  label := (lab_ok is).1
  figure := (fig_ok is).1
  s0 := (shp_ok is).2.1
  s6 := (shp_ok is).2.2.1
  s7 := (shp_ok is).2.2.2.1
  up := (shp_ok is).2.2.2.2
  lab24 := (lab_ok is).2
  fig72 := (fig_ok is).2
  H0 := (r_ok is).2
  Hd0 := by show S [] = _; decide +kernel
  Hdk := fun k h1 h2 => by
    refine ⟨S (sufL.getD (labOf is k % 8) []), suf_is (Nat.mod_lt _ (by decide)), ?_⟩
    show S (hdL (labOf is) k) = _
    rw [item_is (by omega), S_app, hd_first (by omega), show 98 + (k - 1) = 97 + k by omega]; rfl
  Hk := fun k h1 h2 => by
    have d1 : (Str.ofString ".") = S [46] := by decide +kernel
    show S (hL _ _ _ k) = S (hdL _ k) ++ (Str.ofString ".") ++ S (hL _ _ _ (shpOf is k))
    rw [d1, S_app, S_app, hL_succ (shp_ok is).2.2.2.2 h1 h2, List.append_assoc]; rfl
  Tlk := fun k hk => tl_is (by have := (lab_ok is).2 k hk; omega)
  U0 := rfl
  Uk := fun k h1 h2 => UL_succ (shp_ok is).2.2.2.2 h1 h2
  lenH := fun k hk => by
    have := (hL_ok (lab := labOf is) (r_ok is).1 (shp_ok is).2.2.2.2 k hk).1
    show (S _).length ≤ 100
    rw [S_len]; omega
  lenHd := fun k hk => by
    have := hd_len (lab := labOf is) k
    show (S _).length ≤ 10
    rw [S_len]; omega
  lenU := fun k hk => by have := UL_len (shp_ok is).2.2.2.2 k hk; omega

end

section
noncomputable def tabF : List (Str × Nat) := [
  ("is_HDN", 3), ("liberal_is_HDN", 4), ("user_domain_match", 5), ("reach", 6), ("_ellipsis_match", 9), ("_comment_line", 10),
  ("parse229", 15), ("parse257", 16), ("_escape_cdata", 19), ("_escape_attrib", 20), ("_escape_attrib_html", 21), ("_escape_cdata_c14n", 22), ("_escape_attrib_c14n", 23),
  ("_law_cells", 25), ("_law_figures", 26), ("_law_hand", 27), ("_law_table", 28), ("_law_written", 29), ("_law_port", 30), ("_law_ladder", 31),
  ("_law_truly_below", 32), ("_law_between", 33)]
noncomputable def tabB : List (Str × Value) := [("len", .builtin "len"), ("sum", .builtin "sum"), ("max", .builtin "max"), ("min", .builtin "min"),
  ("range", .type "range"), ("int", .type "int"), ("str", .type "str"), ("tuple", .type "tuple"), ("type", .type "type")]
theorem tab_eq (a : Nat → Addr) : tab a = tabF.map (fun p => (p.1, Value.ref (a p.2))) ++ (tabB ++ [((Str.ofString "IPV4_RE"), Value.ref (a 2))]) := rfl
theorem lookup_mem {x : Str} {v : Value} : ∀ {l : List (Str × Value)}, l.lookup x = some v → (x, v) ∈ l
  | (y, u) :: l, h => by
    rw [List.lookup_cons] at h
    cases q : x == y with
    | true =>
      rw [q] at h
      injection h with h
      rw [eq_of_beq q, h]; exact List.mem_cons_self
    | false =>
      rw [q] at h
      exact List.mem_cons_of_mem _ (lookup_mem h)
theorem tabF_name : ∀ p ∈ tabF, p.1 = dName (theSt p.2) ∧ p.2 ≠ 2 := by decide +kernel
theorem tabB_boot : ∀ p ∈ tabB, bootBuiltins p.1 = some p.2 ∧ p.1 ≠ "__name__" := by
  unfold tabB
  simp only [List.forall_mem_cons]
  refine ⟨⟨by kernel_rfl, by decide +kernel⟩, ⟨by kernel_rfl, by decide +kernel⟩, ⟨by kernel_rfl, by decide +kernel⟩, ⟨by kernel_rfl, by decide +kernel⟩, ⟨by kernel_rfl, by decide +kernel⟩, ⟨by kernel_rfl, by decide +kernel⟩, ⟨by kernel_rfl, by decide +kernel⟩, ⟨by kernel_rfl, by decide +kernel⟩, ⟨by kernel_rfl, by decide +kernel⟩, fun p hp => by cases hp⟩
noncomputable def aOf (mg : Str → Option Value) (k : Nat) : Addr := if k = 2 then 36 else match mg (dName (theSt k)) with
  | some (.ref b) => b
  | _ => 0
noncomputable def recAt (p : Program) (k i : Nat) : Prop := (recsOf p)[i]? = some ⟨dName (theSt k), dParams (theSt k), dBody (theSt k), dScope (theSt k), dPos (theSt k)⟩
structure RecsAt (p : Program) : Prop where
  r3 : recAt p 3 0
  r4 : recAt p 4 1
  r5 : recAt p 5 2
  r6 : recAt p 6 3
  r9 : recAt p 9 4
  r10 : recAt p 10 5
  r15 : recAt p 15 6
  r16 : recAt p 16 7
  r19 : recAt p 19 9
  r20 : recAt p 20 10
  r21 : recAt p 21 11
  r22 : recAt p 22 12
  r23 : recAt p 23 13
  r25 : recAt p 25 14
  r26 : recAt p 26 15
  r27 : recAt p 27 16
  r28 : recAt p 28 17
  r29 : recAt p 29 18
  r30 : recAt p 30 19
  r31 : recAt p 31 20
  r32 : recAt p 32 21
  r33 : recAt p 33 22
  r34 : recAt p 34 23
theorem RecsAt.at' {p : Program} (R : RecsAt p) : ∀ k, k ∈ [3, 4, 5, 6, 9, 10, 15, 16, 19, 20, 21, 22, 23, 25, 26, 27, 28, 29, 30, 31, 32, 33] → ∃ i, recAt p k i := by
  simp only [List.forall_mem_cons]
  exact ⟨⟨_, R.r3⟩, ⟨_, R.r4⟩, ⟨_, R.r5⟩, ⟨_, R.r6⟩, ⟨_, R.r9⟩, ⟨_, R.r10⟩, ⟨_, R.r15⟩, ⟨_, R.r16⟩, ⟨_, R.r19⟩, ⟨_, R.r20⟩, ⟨_, R.r21⟩, ⟨_, R.r22⟩, ⟨_, R.r23⟩, ⟨_, R.r25⟩, ⟨_, R.r26⟩, ⟨_, R.r27⟩, ⟨_, R.r28⟩, ⟨_, R.r29⟩, ⟨_, R.r30⟩, ⟨_, R.r31⟩, ⟨_, R.r32⟩, ⟨_, R.r33⟩, fun k hk => by cases hk⟩
theorem tabF_in : ∀ p ∈ tabF, p.2 ∈ [3, 4, 5, 6, 9, 10, 15, 16, 19, 20, 21, 22, 23, 25, 26, 27, 28, 29, 30, 31, 32, 33] := by decide +kernel
theorem gl_of {p : Program} {loose : List Str} {mean : ExcName → Option Value} {mg mb : Str → Option Value} {h : Heap} (T : Top p loose mean mg mb h) {prog : Program} {w : World} (R : RecsAt p) (re : mg "IPV4_RE" = some (.ref 36)) (two : ∃ o, h.get? 2 = some o)
    (bi : ∀ x : Str, x ∈ tabB.map (·.1) → mg x = none) (mk : valOf p "ELLIPSIS_MARKER" = some (.str "...")) : Gl ⟨prog, w, h⟩ (aOf mg) := by
  have fn : ∀ k, k ∈ [3, 4, 5, 6, 9, 10, 15, 16, 19, 20, 21, 22, 23, 25, 26, 27, 28, 29, 30, 31, 32, 33] → mg (dName (theSt k)) = some (.ref (aOf mg k)) ∧ FnK ⟨prog, w, h⟩ k (aOf mg k) := fun k hk => by
    obtain ⟨i, hi⟩ := R.at' k hk
    obtain ⟨a, h1, h2⟩ := fn_of T (prog := prog) (w := w) hi
    have h0 : k ≠ 2 := by rintro rfl; revert hk; decide
    have : aOf mg k = a := by
      unfold aOf
      rw [if_neg h0, h1]
    rw [this]; exact ⟨h1, h2⟩
  refine ⟨fun x v hx => ?_, ?_, fun k hk => (fn k hk).2, two⟩
  · rw [tab_eq] at hx
    rcases List.mem_append.mp (lookup_mem hx) with hm | hm
    · obtain ⟨q, hq, e⟩ := List.mem_map.mp hm
      injection e with e1 e2
      subst e1 e2
      rw [(tabF_name q hq).1]
      exact .top mg T.g (fn q.2 (tabF_in q hq)).1
    · rcases List.mem_append.mp hm with hm | hm
      · obtain ⟨b1, b2⟩ := tabB_boot _ hm
        exact .bi mg mb T.g (bi x (List.mem_map.mpr ⟨_, hm, rfl⟩)) T.b ((T.builtins x b2).trans b1)
      · have e := List.mem_singleton.mp hm
        injection e with e1 e2
        subst e1 e2
        exact .top mg T.g re
  · obtain ⟨v, h1, h2⟩ := T.const _ _ mk
    have h3 := h2 h
    cases h3 with
    | str u t => exact ⟨t, .top mg T.g h1⟩
theorem some_in {K : List (Addr × Obj)} {h : Heap} (X : ∀ a o, K.lookup a = some o → h.get? a = some o) {a : Addr} (e : (K.lookup a).isSome = true) : ∃ o, h.get? a = some o := by
  cases q : K.lookup a with
  | none => rw [q] at e; cases e
  | some o => exact ⟨o, X a o q⟩
theorem law_all {p : Program} {loose : List Str} {mean : ExcName → Option Value} {mg mb : Str → Option Value} {h : Heap} (T : Top p loose mean mg mb h) {prog : Program} {w : World} (R : RecsAt p) (re : mg "IPV4_RE" = some (.ref 36)) (pat : PatAt h 36) (two : ∃ o, h.get? 2 = some o)
    (bi : ∀ x : Str, x ∈ tabB.map (·.1) → mg x = none) (mk : valOf p "ELLIPSIS_MARKER" = some (.str "...")) {is : List Int} (hn : is.length ≤ 63) {f : Addr} (hf : mg "law" = some (.ref f)) : FnC ⟨prog, w, h⟩ f 4 [.list (is.map .int)] (.bool true) := by
  have G : Gl ⟨prog, w, h⟩ (aOf mg) := gl_of T R re two bi mk
  obtain ⟨f', h1, h2⟩ := fn_of T (prog := prog) (w := w) R.r34
  have e : dName (theSt 34) = ("law" : Str) := by decide +kernel
  rw [e, hf] at h1
  injection h1 with h1
  injection h1 with h1
  subst h1
  have P : PatAt (⟨prog, w, h⟩ : Wd).H (aOf mg 2) := pat
  obtain ⟨hr, _⟩ := r_ok is
  have up := (shp_ok is).2.2.2.2
  exact law_walk G (lp_of hn) (lq_of G P hr up) (lr_of G hr up _) f h2

end

end Mine
end

open PySem PySem.W PySem.W.X PySem.W.ZRun PyProof.Rows
set_option maxRecDepth 100000 in
set_option maxHeartbeats 40000000 in
theorem PySem.Challenge.cw_xl0022_01_holds : PySem.Challenge.rw_xl0022_01.Holds := by
  w_on; o_law; z_head
  (case hw => w_witness2)
  k_fill
  intro w s₀ s₁ mg mb G y fa o pm cd doc dV kV ho hd hcd hD hmg hg args vals as L hpre hlay hrd hwl hlo
  z_open y L KX ZH ZN ZT
  refine Ground.open G ?_
  intro T B D TE TW
  wrow_args hpre hlay hrd hwl hlo
  obtain ⟨hat, hsz⟩ := script_at L
  have htk := script_toks L ZT
  rw [ZN] at hat hsz
  subst hat
  x_fa T KX hmg
  all_lens
  rename_i hcond' hL' hi9' hb9'
  refine Mine.run_law (hA := rfl) (hd := by decide) (hu := by decide) ?_ (by assumption) (by assumption) (Nat.le_trans (by decide) htk) ?_
  · have re : mg (PySem.Str.ofString "IPV4_RE") = some (.ref 36) := mg_of KX T.g (by kernel_rfl)
    have lw : mg (PySem.Str.ofString "law") = some (.ref 233) := mg_of KX T.g (by kernel_rfl)
    have two : ∃ o, s₁.heap.get? 2 = some o := by
      refine Mine.some_in KX ?_
      kernel_rfl
    have pat : Mine.PatAt s₁.heap 36 := by
      refine ⟨⟨?patp, ?patq, 35, ?pato, KX 36 _ ?pata, KX 35 _ ?patb, ?patc⟩⟩
      case pata => exact rfl
      case patb => exact rfl
      case patc => first | rfl | kernel_rfl
    have bi : ∀ x : PySem.Str, x ∈ Mine.tabB.map (·.1) → mg x = none := by
      unfold Mine.tabB
      simp only [List.map_cons, List.map_nil, List.forall_mem_cons]
      refine ⟨?_, ?_, ?_, ?_, ?_, ?_, ?_, ?_, ?_, fun x hx => by cases hx⟩ <;> exact mg_none_of KX T.g (by kernel_rfl)
    refine Mine.law_all T ?_ re pat two bi (by first | rfl | kernel_rfl) ?_ lw
    · constructor <;> exact rfl
    · first | assumption | omega
  · intro s' hk hos hgn
    exact GoodW.toG ⟨.inl ⟨.bool true, .bool true, [], rfl, fun _ => by rfl, ReadsW.bool _, by wrow_post, fun _ => ⟨List.nodup_nil, fun a ha => by cases ha⟩⟩, hk, hos, hgn.trans hg⟩

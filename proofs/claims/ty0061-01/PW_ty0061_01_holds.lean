import PyProof.Rows.All
import PyProof.StrLawsReplace
import Open.Boot
import OpenK.AllK
import Wide.All
import PySem.Challenge.RW_ty0061_01
set_option linter.all false
set_option Elab.async false
namespace Mine
open PySem PySem.Calls PyProof.Rows PySem.W PySem.Spec

/-- plain data -/
inductive D where
  | none
  | bool (b : Bool)
  | int (i : Int)
  | flt (x : UInt64)
  | fw (x : UInt64)
  | str (s : Str)
  | tup (l : List D)
  | lst (l : List D)
  | dci (l : List (Int × D))
  | dcs (l : List (Str × D))
  | iset (l : List Int)
  | val (v : Value)

/-- an exact tuple, an exact list -/
def Tp (h : Heap) (a : Addr) (vs : List Value) : Prop := vs.length ≤ sizeLine ∧ ∃ n, h.get? a = some { cls := .type "tuple", data := .seq vs.toArray n }
def Ls (h : Heap) (a : Addr) (vs : List Value) : Prop := vs.length ≤ sizeLine ∧ ∃ n, h.get? a = some { cls := .type "list", data := .seq vs.toArray n }
section
variable (prog : Program) (w : World)
mutual
inductive Rd (X : Addr → Prop) (h : Heap) : Value → D → Prop
  | none : Rd X h .none .none
  | bool (b) : Rd X h (.bool b) (.bool b)
  | int (i t) : Rd X h (.int i t) (.int i)
  | flt (x t) : t ≠ 0 → Rd X h (.float x t) (.flt x)
  | fw (x t) : Rd X h (.float x t) (.fw x)
  | str (s t) : Rd X h (.str s t) (.str s)
  | tup {a vs ds} : ¬ X a → Tp h a vs → RdL X h vs ds → Rd X h (.ref a) (.tup ds)
  | lst {a vs ds} : ¬ X a → Ls h a vs → RdL X h vs ds → Rd X h (.ref a) (.lst ds)
  | dci {a kvs l} : ¬ X a → (a == sysModules) = false → kvs.length ≤ sizeLine → h.DictOf (intKind prog w) a kvs → l.map Prod.fst = kvs.map Prod.fst → RdL X h (kvs.map Prod.snd) (l.map Prod.snd) → Rd X h (.ref a) (.dci l)
  | dcs {a kvs l} : ¬ X a → (a == sysModules) = false → kvs.length ≤ sizeLine → h.DictOf (strKind prog w) a kvs → l.map Prod.fst = kvs.map Prod.fst → RdL X h (kvs.map Prod.snd) (l.map Prod.snd) → Rd X h (.ref a) (.dcs l)
  | iset {a l n} : ¬ X a → h.SetOf (intKind prog w) a (fun k => decide (k ∈ l)) n → Rd X h (.ref a) (.iset l)
  | val (v) : Rd X h v (.val v)
inductive RdL (X : Addr → Prop) (h : Heap) : List Value → List D → Prop
  | nil : RdL X h [] []
  | cons {v d vs ds} : Rd X h v d → RdL X h vs ds → RdL X h (v :: vs) (d :: ds)
end
end

section
variable {prog : Program} {w : World}

theorem Tp.at {h h' : Heap} {a : Addr} {vs : List Value} (x : Tp h a vs) (k : ∀ o, h.get? a = some o → h'.get? a = some o) : Tp h' a vs := ⟨x.1, let ⟨n, e⟩ := x.2; ⟨n, k _ e⟩⟩
theorem Ls.at {h h' : Heap} {a : Addr} {vs : List Value} (x : Ls h a vs) (k : ∀ o, h.get? a = some o → h'.get? a = some o) : Ls h' a vs := ⟨x.1, let ⟨n, e⟩ := x.2; ⟨n, k _ e⟩⟩
theorem set_at {K : Type} [DecidableEq K] {knd : KeyKind prog w K} {h h' : Heap} {a : Addr} {S : K → Bool} {n : Nat} (x : h.SetOf knd a S n) (k : ∀ o, h.get? a = some o → h'.get? a = some o) : h'.SetOf knd a S n :=
  let ⟨o, es, ep, t, e, r⟩ := x; ⟨o, es, ep, t, k _ e, r⟩
theorem dict_at {K : Type} [DecidableEq K] {knd : KeyKind prog w K} {h h' : Heap} {a : Addr} {kvs : List (K × Value)} (x : h.DictOf knd a kvs) (k : ∀ o, h.get? a = some o → h'.get? a = some o) : h'.DictOf knd a kvs :=
  let ⟨o, es, ep, e, r⟩ := x; ⟨o, es, ep, k _ e, r⟩

mutual
theorem Rd.mono {X X' : Addr → Prop} {h h' : Heap} (hX : ∀ a, X' a → X a) (hk : ∀ b o, ¬ X b → h.get? b = some o → h'.get? b = some o) : ∀ {v : Value} {d : D}, Rd prog w X h v d → Rd prog w X' h' v d
  | _, _, .none => .none
  | _, _, .bool b => .bool b
  | _, _, .int i t => .int i t
  | _, _, .flt x t n => .flt x t n
  | _, _, .fw x t => .fw x t
  | _, _, .str s t => .str s t
  | _, _, .tup nx t r => .tup (fun q => nx (hX _ q)) (t.at fun o e => hk _ o nx e) (RdL.mono hX hk r)
  | _, _, .lst nx t r => .lst (fun q => nx (hX _ q)) (t.at fun o e => hk _ o nx e) (RdL.mono hX hk r)
  | _, _, .dci nx m z t e r => .dci (fun q => nx (hX _ q)) m z (dict_at t fun o e => hk _ o nx e) e (RdL.mono hX hk r)
  | _, _, .dcs nx m z t e r => .dcs (fun q => nx (hX _ q)) m z (dict_at t fun o e => hk _ o nx e) e (RdL.mono hX hk r)
  | _, _, .iset nx t => .iset (fun q => nx (hX _ q)) (set_at t fun o e => hk _ o nx e)
  | _, _, .val v => .val v
theorem RdL.mono {X X' : Addr → Prop} {h h' : Heap} (hX : ∀ a, X' a → X a) (hk : ∀ b o, ¬ X b → h.get? b = some o → h'.get? b = some o) : ∀ {vs : List Value} {ds : List D}, RdL prog w X h vs ds → RdL prog w X' h' vs ds
  | _, _, .nil => .nil
  | _, _, .cons r rs => .cons (Rd.mono hX hk r) (RdL.mono hX hk rs)
end
theorem Tp.live {h : Heap} {a : Addr} {vs : List Value} (x : Tp h a vs) : ∃ o, h.get? a = some o := let ⟨_, _, e⟩ := x; ⟨_, e⟩
theorem Ls.live {h : Heap} {a : Addr} {vs : List Value} (x : Ls h a vs) : ∃ o, h.get? a = some o := let ⟨_, _, e⟩ := x; ⟨_, e⟩
theorem dict_live {K : Type} [DecidableEq K] {knd : KeyKind prog w K} {h : Heap} {a : Addr} {kvs : List (K × Value)} (x : h.DictOf knd a kvs) : ∃ o, h.get? a = some o := let ⟨_, _, _, e, _⟩ := x; ⟨_, e⟩
theorem set_live {K : Type} [DecidableEq K] {knd : KeyKind prog w K} {h : Heap} {a : Addr} {S : K → Bool} {n : Nat} (x : h.SetOf knd a S n) : ∃ o, h.get? a = some o := let ⟨_, _, _, _, e, _⟩ := x; ⟨_, e⟩
mutual
theorem Rd.grow {X X' : Addr → Prop} {h : Heap} (hX : ∀ a o, h.get? a = some o → X' a → X a) : ∀ {v : Value} {d : D}, Rd prog w X h v d → Rd prog w X' h v d
  | _, _, .none => .none
  | _, _, .bool b => .bool b
  | _, _, .int i t => .int i t
  | _, _, .flt x t n => .flt x t n
  | _, _, .fw x t => .fw x t
  | _, _, .str s t => .str s t
  | _, _, .tup nx t r => .tup (fun q => nx (let ⟨o, e⟩ := t.live; hX _ o e q)) t (RdL.grow hX r)
  | _, _, .lst nx t r => .lst (fun q => nx (let ⟨o, e⟩ := t.live; hX _ o e q)) t (RdL.grow hX r)
  | _, _, .dci nx m z t e r => .dci (fun q => nx (let ⟨o, e⟩ := dict_live t; hX _ o e q)) m z t e (RdL.grow hX r)
  | _, _, .dcs nx m z t e r => .dcs (fun q => nx (let ⟨o, e⟩ := dict_live t; hX _ o e q)) m z t e (RdL.grow hX r)
  | _, _, .iset nx t => .iset (fun q => nx (let ⟨o, e⟩ := set_live t; hX _ o e q)) t
  | _, _, .val v => .val v
theorem RdL.grow {X X' : Addr → Prop} {h : Heap} (hX : ∀ a o, h.get? a = some o → X' a → X a) : ∀ {vs : List Value} {ds : List D}, RdL prog w X h vs ds → RdL prog w X' h vs ds
  | _, _, .nil => .nil
  | _, _, .cons r rs => .cons (Rd.grow hX r) (RdL.grow hX rs)
end
theorem RdL.length {X : Addr → Prop} {h : Heap} : ∀ {vs : List Value} {ds : List D}, RdL prog w X h vs ds → vs.length = ds.length
  | _, _, .nil => rfl
  | _, _, .cons _ r => by rw [List.length_cons, List.length_cons, RdL.length r]
theorem RdL.append {X : Addr → Prop} {h : Heap} : ∀ {vs : List Value} {ds : List D} {vs' ds'}, RdL prog w X h vs ds → RdL prog w X h vs' ds' → RdL prog w X h (vs ++ vs') (ds ++ ds')
  | _, _, _, _, .nil, r => r
  | _, _, _, _, .cons a b, r => .cons a (RdL.append b r)
theorem RdL.get {X : Addr → Prop} {h : Heap} : ∀ {vs : List Value} {ds : List D}, RdL prog w X h vs ds → ∀ {i : Nat} {d : D}, ds[i]? = some d → ∃ v, vs[i]? = some v ∧ Rd prog w X h v d
  | _, _, .nil, i, d, e => by simp at e
  | _, _, .cons a b, 0, d, e => by simp at e; subst e; exact ⟨_, by simp, a⟩
  | _, _, .cons a b, i + 1, d, e => by
    have ⟨v, e', r⟩ := RdL.get b (i := i) (d := d) (by simpa using e)
    exact ⟨v, by simpa using e', r⟩
theorem RdL.getV {X : Addr → Prop} {h : Heap} : ∀ {vs : List Value} {ds : List D}, RdL prog w X h vs ds → ∀ {i : Nat} {v : Value}, vs[i]? = some v → ∃ d, ds[i]? = some d ∧ Rd prog w X h v d
  | _, _, .nil, i, d, e => by simp at e
  | _, _, .cons a b, 0, d, e => by simp at e; subst e; exact ⟨_, by simp, a⟩
  | _, _, .cons a b, i + 1, d, e => by
    have ⟨v, e', r⟩ := RdL.getV b (i := i) (v := d) (by simpa using e)
    exact ⟨v, by simpa using e', r⟩
theorem RdL.take {X : Addr → Prop} {h : Heap} : ∀ {vs : List Value} {ds : List D}, RdL prog w X h vs ds → ∀ n, RdL prog w X h (vs.take n) (ds.take n)
  | _, _, .nil, n => by rw [List.take_nil, List.take_nil]; exact .nil
  | _, _, .cons a b, 0 => .nil
  | _, _, .cons a b, n + 1 => .cons a (RdL.take b n)
theorem RdL.drop {X : Addr → Prop} {h : Heap} : ∀ {vs : List Value} {ds : List D}, RdL prog w X h vs ds → ∀ n, RdL prog w X h (vs.drop n) (ds.drop n)
  | _, _, .nil, n => by rw [List.drop_nil, List.drop_nil]; exact .nil
  | _, _, .cons a b, 0 => .cons a b
  | _, _, .cons a b, n + 1 => RdL.drop b n

/-- what is live under the marks -/
def Live (X : Addr → Prop) (h : Heap) : Prop := ∀ a, X a → ∃ o, h.get? a = some o
theorem Live.keeps {X : Addr → Prop} {h h' : Heap} (x : Live X h) (k : ∀ b o, h.get? b = some o → h'.get? b = some o) : Live X h' := fun a q => let ⟨o, e⟩ := x a q; ⟨o, k _ _ e⟩
theorem Live.fresh {X : Addr → Prop} {h : Heap} (x : Live X h) {a : Addr} (e : h.get? a = none) : ¬ X a := fun q => by
  obtain ⟨o, e'⟩ := x a q
  rw [e] at e'; cases e'
theorem fresh_size (h : Heap) {a : Addr} (ha : h.objs.size ≤ a) : h.get? a = none := by
  cases e : h.get? a with
  | none => rfl
  | some o => exact absurd (Heap.lt_size e) (Nat.not_lt.mpr ha)

end
end Mine
set_option Elab.async false
namespace Mine
open PySem PySem.Calls PyProof.Rows PySem.W PySem.Spec

/-- a global name's value -/
def GlobAt (h : Heap) (x : Str) (v : Value) : Prop := ∃ mg, h.Ns mainGlobals mg ∧ (mg x = some v ∨ (mg x = none ∧ ∃ mb, h.Ns builtinsNs mb ∧ mb x = some v))
abbrev Old (h h' : Heap) : Prop := ∀ b o, h.get? b = some o → h'.get? b = some o
/-- where a name's value stands -/
def At (hT : Heap) (env : Env) (k : NameKind) (h : Heap) (x : Str) (v : Value) : Prop := match k with
  | .local => ∃ m, h.Ns env.locals m ∧ m x = some v
  | .cell | .free => ∃ c, env.cells.lookup x = some c ∧ h.IsCell c (some v)
  | .globalImplicit => GlobAt hT x v
  | .globalExplicit => False

def KindOk (k : NameKind) (e : Option NameKind) : Prop := match k with
  | .local => e = some .local
  | .cell => e = some .cell
  | .free => e = some .free ∨ e = some .cell
  | .globalImplicit => e = some .globalImplicit
  | .globalExplicit => False

/-- a place of the block's own -/
def Own (env : Env) (a : Addr) : Prop := a = env.locals ∨ ∃ x, env.cells.lookup x = some a
abbrev Names := List (Str × NameKind)
abbrev Rho := Str → Option D
def upd (ρ : Rho) (x : Str) (d : D) : Rho := fun y => if y = x then some d else ρ y

section
variable (prog : Program) (w : World) (hT : Heap)
structure EnvOk (env : Env) (sc : Names) (ρ : Rho) (X : Addr → Prop) (h₀ h : Heap) : Prop where
  kind : env.scope.kind = .function
  glob : env.globals = mainGlobals
  bltn : env.builtins = builtinsNs
  kinds : ∀ x k, sc.lookup x = some k → KindOk k (env.kindOf x)
  loc : ∃ m, h.Ns env.locals m
  locX : X env.locals
  locF : h₀.get? env.locals = none
  cell : ∀ x, sc.lookup x = some .cell ∨ sc.lookup x = some .free → ∃ c v, env.cells.lookup x = some c ∧ h.IsCell c v ∧ X c
  cellF : ∀ x c, sc.lookup x = some .cell → env.cells.lookup x = some c → h₀.get? c = none
  ownX : ∀ x c, env.cells.lookup x = some c → X c
  apart : ∀ x y c, env.cells.lookup x = some c → env.cells.lookup y = some c → x = y
  off : ∀ x c, env.cells.lookup x = some c → c ≠ env.locals
  top : Old hT h
  tX : ∀ a, X a → hT.get? a = none
  old : ∀ b o, h₀.get? b = some o → h.get? b = some o
  live : Live X h
  sane : ∀ x k, sc.lookup x = some k → x ≠ ("__debug__" : Str) ∧ x ≠ ("__classdict__" : Str)
  vals : ∀ x k d, sc.lookup x = some k → k ≠ .globalImplicit → ρ x = some d → ∃ v, At hT env k h x v ∧ Rd prog w X h v d
end

section
variable {prog : Program} {w : World} {hT : Heap} {A : Around} {E : Value → Shared → Prop} {s : Shared} {env : Env} {sc : Names} {ρ : Rho} {X : Addr → Prop} {h₀ h h' : Heap}

theorem GlobAt.mono {x : Str} {v : Value} (hk : Old h h') : GlobAt h x v → GlobAt h' x v := by
  rintro ⟨mg, a, b⟩
  refine ⟨mg, a.keeps hk, b.imp id ?_⟩
  rintro ⟨c, mb, d, e⟩
  exact ⟨c, mb, d.keeps hk, e⟩

theorem EnvOk.keeps (O : EnvOk prog w hT env sc ρ X h₀ h) (hk : ∀ b o, h.get? b = some o → h'.get? b = some o) : EnvOk prog w hT env sc ρ X h₀ h' where
  kind := O.kind
  glob := O.glob
  bltn := O.bltn
  kinds := O.kinds
  loc := let ⟨m, x⟩ := O.loc; ⟨m, x.keeps hk⟩
  locX := O.locX
  locF := O.locF
  cell := fun x hx => let ⟨c, v, a, b, d⟩ := O.cell x hx; ⟨c, v, a, b.keeps hk, d⟩
  cellF := O.cellF
  ownX := O.ownX
  apart := O.apart
  off := O.off
  top := fun b o e => hk b o (O.top b o e)
  tX := O.tX
  old := fun b o e => hk b o (O.old b o e)
  live := O.live.keeps hk
  sane := O.sane
  vals := fun x k d hx nk e => by
    obtain ⟨v, a, r⟩ := O.vals x k d hx nk e
    refine ⟨v, ?_, r.mono (fun _ q => q) fun b o _ e => hk b o e⟩
    cases k with
    | «local» => obtain ⟨m, a, b⟩ := a; exact ⟨m, a.keeps hk, b⟩
    | cell => obtain ⟨c, a, b⟩ := a; exact ⟨c, a, b.keeps hk⟩
    | free => obtain ⟨c, a, b⟩ := a; exact ⟨c, a, b.keeps hk⟩
    | globalImplicit => exact a
    | globalExplicit => exact a

/-- more marks, all of them new -/
theorem EnvOk.widen (O : EnvOk prog w hT env sc ρ X h₀ h) (hk : Old h h') {X' : Addr → Prop} (hX : ∀ a, X a → X' a) (hY : ∀ a, X' a → X a ∨ (h.get? a = none ∧ ∃ o, h'.get? a = some o)) : EnvOk prog w hT env sc ρ X' h₀ h' where
  kind := O.kind
  glob := O.glob
  bltn := O.bltn
  kinds := O.kinds
  loc := let ⟨m, x⟩ := O.loc; ⟨m, x.keeps hk⟩
  locX := hX _ O.locX
  locF := O.locF
  cell := fun x hx => let ⟨c, v, a, b, d⟩ := O.cell x hx; ⟨c, v, a, b.keeps hk, hX _ d⟩
  cellF := O.cellF
  ownX := fun x c e => hX _ (O.ownX x c e)
  apart := O.apart
  off := O.off
  top := fun b o e => hk b o (O.top b o e)
  tX := fun a q => by
    rcases hY a q with q | ⟨q, _⟩
    · exact O.tX a q
    · cases e : hT.get? a with
      | none => rfl
      | some o => rw [O.top a o e] at q; cases q
  old := fun b o e => hk b o (O.old b o e)
  live := fun a q => by
    rcases hY a q with q | ⟨_, q⟩
    · obtain ⟨o, e⟩ := O.live a q; exact ⟨o, hk _ _ e⟩
    · exact q
  sane := O.sane
  vals := fun x k d hx nk e => by
    obtain ⟨v, a, r⟩ := O.vals x k d hx nk e
    refine ⟨v, ?_, (r.grow (X' := X') fun a o e q => ?_).mono (fun _ q => q) fun b o _ e => hk b o e⟩
    · cases k with
      | «local» => obtain ⟨m, a, b⟩ := a; exact ⟨m, a.keeps hk, b⟩
      | cell => obtain ⟨c, a, b⟩ := a; exact ⟨c, a, b.keeps hk⟩
      | free => obtain ⟨c, a, b⟩ := a; exact ⟨c, a, b.keeps hk⟩
      | globalImplicit => exact a
      | globalExplicit => exact a
    · rcases hY a q with q | ⟨q, _⟩
      · exact q
      · rw [e] at q; cases q

theorem wpAny_loadGlobal_at {x : Str} {v : Value} {Q : Value → Shared → Prop} (hg : env.globals = mainGlobals) (hb : env.builtins = builtinsNs) (g : GlobAt s.heap x v) (h : Q v s) : wpAny (model prog w) A (loadGlobal env x) Q E s := by
  obtain ⟨mg, a, b⟩ := g
  unfold loadGlobal
  rw [hg, hb]
  refine wpAny_bind (wpAny_nsGet a ?_)
  rcases b with e | ⟨e, mb, c, e'⟩
  · rw [e]; exact wpAny_pure h
  · rw [e]
    refine wpAny_bind (wpAny_nsGet c ?_)
    rw [e']; exact wpAny_pure h

theorem wpAny_load_at {x : Str} {k : NameKind} {v : Value} {Q : Value → Shared → Prop} (O : EnvOk prog w hT env sc ρ X h₀ s.heap) (hx : sc.lookup x = some k) (hn : (x == ("__classdict__" : Str)) = false) (a : At hT env k s.heap x v) (h : Q v s) :
    wpAny (model prog w) A (loadName env x) Q E s := by
  have K := O.kinds x k hx
  cases k with
  | «local» => obtain ⟨m, a, b⟩ := a; exact wpAny_loadName_local O.kind K a b h
  | cell => obtain ⟨c, a, b⟩ := a; exact wpAny_loadName_cell O.kind K a b h
  | free =>
    obtain ⟨c, a, b⟩ := a
    rcases K with K | K
    · exact wpAny_loadName_free O.kind K a b h hn
    · exact wpAny_loadName_cell O.kind K a b h
  | globalImplicit => exact ks_loadName_global O.kind K (wpAny_loadGlobal_at O.glob O.bltn (a.mono O.top) h)
  | globalExplicit => exact a.elim

theorem samebut_get {a b : Addr} {h h' : Heap} (hs : Heap.SameBut a h h') (hb : b ≠ a) {o : Obj} (e : h.get? b = some o) : h'.get? b = some o := (hs.2 b hb).trans e

theorem ns_unique {h : Heap} {a : Addr} {m m' : Str → Option Value} (x : h.Ns a m) (y : h.Ns a m') : m = m' := by
  obtain ⟨o, es, ep, e1, e2, _, e3⟩ := x
  obtain ⟨o', es', ep', f1, f2, _, f3⟩ := y
  rw [e1] at f1; cases f1
  rw [e2] at f2; cases f2
  funext n
  rw [← e3 n, ← f3 n]

/-- what a store to one place leaves -/
theorem EnvOk.stored {x : Str} {v : Value} {d : D} {a : Addr} (O : EnvOk prog w hT env sc ρ X h₀ h) (hs : Heap.SameBut a h h') (hX : X a) (hf : h₀.get? a = none) (r : Rd prog w X h v d)
    (live : ∃ o, h'.get? a = some o) (loc : ∃ m, h'.Ns env.locals m) (cells : ∀ c v', env.cells.lookup c = some a → h.IsCell a v' → ∃ v, h'.IsCell a v)
    (here : ∀ k, sc.lookup x = some k → At hT env k h' x v) (there : ∀ y k u, y ≠ x → sc.lookup y = some k → At hT env k h y u → At hT env k h' y u) : EnvOk prog w hT env sc (upd ρ x d) X h₀ h' where
  kind := O.kind
  glob := O.glob
  bltn := O.bltn
  kinds := O.kinds
  loc := loc
  locX := O.locX
  locF := O.locF
  cell := fun y hy => by
    obtain ⟨c, v', e, b, q⟩ := O.cell y hy
    by_cases hc : c = a
    · subst hc
      obtain ⟨v'', b'⟩ := cells y v' e b
      exact ⟨c, v'', e, b', q⟩
    · exact ⟨c, v', e, b.sameBut hs hc, q⟩
  cellF := O.cellF
  ownX := O.ownX
  apart := O.apart
  off := O.off
  top := fun b o e => samebut_get hs (fun z => by subst z; rw [O.tX _ hX] at e; cases e) (O.top b o e)
  tX := O.tX
  old := fun b o e => samebut_get hs (fun z => by subst z; rw [hf] at e; cases e) (O.old b o e)
  live := fun b q => by
    by_cases hb : b = a
    · subst hb; exact live
    · obtain ⟨o, e⟩ := O.live b q
      exact ⟨o, samebut_get hs hb e⟩
  sane := O.sane
  vals := fun y k d' hy nk e => by
    have km : ∀ b o, ¬ X b → h.get? b = some o → h'.get? b = some o := fun b o nb e => samebut_get hs (fun z => nb (by rw [z]; exact hX)) e
    by_cases hyx : y = x
    · subst hyx
      have e' : d = d' := by simpa [upd] using e
      subst e'
      exact ⟨v, here k hy, r.mono (fun _ q => q) km⟩
    · have e' : ρ y = some d' := by simpa [upd, hyx] using e
      obtain ⟨u, a', r'⟩ := O.vals y k d' hy nk e'
      exact ⟨u, there y k u hyx hy a', r'.mono (fun _ q => q) km⟩

/-- a store to a name of the block's own -/
theorem wpAny_store_at {x : Str} {v : Value} {d : D} {Q : Unit → Shared → Prop} (O : EnvOk prog w hT env sc ρ X h₀ s.heap) (hx : sc.lookup x = some .local ∨ sc.lookup x = some .cell) (r : Rd prog w X s.heap v d)
    (h : ∀ h' tk a, EnvOk prog w hT env sc (upd ρ x d) X h₀ h' → s.toks ≤ tk → (∀ b o, b ≠ a → s.heap.get? b = some o → h'.get? b = some o) → Own env a → Q () { s with heap := h', toks := tk }) :
    wpAny (model prog w) A (storeName env x v) Q E s := by
  rcases hx with hx | hx
  · have K : env.kindOf x = some .local := O.kinds x _ hx
    obtain ⟨m, hm⟩ := O.loc
    have hm' := hm
    obtain ⟨oL, es, ep, e1, e2, _⟩ := hm'
    refine wpAny_storeName_local K hm (fun h' hn hs => ?_) (by rw [O.kind]; rfl)
    refine h h' (s.toks + 1) env.locals (O.stored hs O.locX O.locF r ?_ ⟨_, hn⟩ ?_ ?_ ?_) (Nat.le_succ _) (fun b o hb e => samebut_get hs hb e) (.inl rfl)
    · obtain ⟨o, _, _, e, _⟩ := hn; exact ⟨o, e⟩
    · intro c v' e _
      exact absurd rfl (O.off c _ e)
    · intro k hk
      rw [hx] at hk
      obtain rfl := Option.some.inj hk
      exact ⟨_, hn, by simp⟩
    · intro y k u hyx hy a
      have K' := O.kinds y k hy
      cases k with
      | «local» =>
        obtain ⟨m', n', e'⟩ := a
        refine ⟨_, hn, ?_⟩
        have : m' = m := ns_unique n' hm
        subst this
        simpa [hyx] using e'
      | cell => obtain ⟨c, a, b⟩ := a; exact ⟨c, a, b.sameBut hs (O.off _ _ a)⟩
      | free => obtain ⟨c, a, b⟩ := a; exact ⟨c, a, b.sameBut hs (O.off _ _ a)⟩
      | globalImplicit => exact a
      | globalExplicit => exact a.elim
  · have K : env.kindOf x = some .cell := O.kinds x _ hx
    obtain ⟨c, v₀, ec, hc, cX⟩ := O.cell x (.inl hx)
    have cF := O.cellF x c hx ec
    have hc' := hc
    obtain ⟨oc, e1, e2⟩ := hc'
    refine wpAny_storeName_cell O.kind K ec hc fun h' hc' hs => ?_
    refine h h' s.toks c (O.stored hs cX cF r ?_ ?_ ?_ ?_ ?_) (Nat.le_refl _) (fun b o hb e => samebut_get hs hb e) (.inr ⟨x, ec⟩)
    · obtain ⟨o, e, _⟩ := hc'; exact ⟨o, e⟩
    · obtain ⟨m, hm⟩ := O.loc
      exact ⟨m, hm.sameBut hs fun z => O.off x c ec z.symm⟩
    · intro _ _ _ _; exact ⟨_, hc'⟩
    · intro k hk
      rw [hx] at hk
      obtain rfl := Option.some.inj hk
      exact ⟨c, ec, hc'⟩
    · intro y k u hyx hy a
      cases k with
      | «local» =>
        obtain ⟨m', n', e'⟩ := a
        exact ⟨m', n'.sameBut hs fun z => O.off x c ec z.symm, e'⟩
      | cell => obtain ⟨c', a, b⟩ := a; exact ⟨c', a, b.sameBut hs fun z => hyx (O.apart y x c (z ▸ a) ec)⟩
      | free => obtain ⟨c', a, b⟩ := a; exact ⟨c', a, b.sameBut hs fun z => hyx (O.apart y x c (z ▸ a) ec)⟩
      | globalImplicit => exact a
      | globalExplicit => exact a.elim
end
end Mine
set_option Elab.async false
set_option maxRecDepth 4000
namespace Mine
open PySem PySem.Calls PyProof.Rows PySem.W PySem.Spec

/-- a tree gives a datum -/
def Gv (prog : Program) (w : World) (A : Around) (X : Addr → Prop) (t : Sem Value) (d : D) (s : Shared) : Prop :=
  0 < s.toks → ∀ (Q : Value → Shared → Prop) (E : Value → Shared → Prop), (∀ v h' tk, s.toks ≤ tk → Old s.heap h' → Rd prog w X h' v d → Q v { s with heap := h', toks := tk }) → wpAny (model prog w) A t Q E s

def sm (a : Int) : Bool := decide (a.natAbs < 2 ^ 60)
theorem sm_lt {a : Int} (h : sm a = true) : a.natAbs < 1152921504606846976 := by
  have := of_decide_eq_true h
  simpa using this
theorem sm_bits {a : Int} (h : sm a = true) : Builtin.Int.intBits a ≤ 64 := by
  have := sm_lt h
  exact intBits_le_64 (by omega) (by omega)
theorem sm_over {a : Int} (h : sm a = true) : ¬ Flt.Over a := by
  have h1 := sm_lt h
  intro q
  have q' : 2 ^ 1024 - 2 ^ 970 ≤ a.natAbs := q
  have : (1152921504606846976 : Nat) ≤ 2 ^ 1024 - 2 ^ 970 := by decide +kernel
  omega
theorem sm_inf {a : Int} (h : sm a = true) : ¬ Float64.isInf (Float64.ofInt a) = true := by
  have q := Flt.finite_ofInt (sm_over h)
  intro z
  unfold Float64.isFinite at q
  unfold Float64.isInf at z
  revert q z
  cases Float64.decode (Float64.ofInt a) <;> simp

def binD : Operator → D → D → Option D
  | .Add, .int a, .int b => some (.int (a + b))
  | .Add, .flt a, .flt b => some (.flt (Float64.add a b))
  | .Add, .lst a, .lst b => if a.length + b.length ≤ 1048576 then some (.lst (a ++ b)) else none
  | .Sub, .int a, .int b => some (.int (a - b))
  | .Sub, .flt a, .flt b => some (.flt (Float64.sub a b))
  | .Sub, .flt a, .int b => if sm b then some (.flt (Float64.sub a (Float64.ofInt b))) else none
  | .Mult, .int a, .int b => if sm a then some (.int (a * b)) else none
  | .Mult, .flt a, .flt b => some (.flt (Float64.mul a b))
  | .Mult, .flt a, .int b => if sm b then some (.flt (Float64.mul a (Float64.ofInt b))) else none
  | .Mult, .lst [x], .int n => if 0 ≤ n ∧ n ≤ 1024 then some (.lst (List.replicate n.toNat x)) else none
  | .Mod, .int a, .int b => if b = 0 then none else some (.int (a.fmod b))
  | .Mod, .flt a, .flt b => if Float64.isZero b then none else some (.flt (Float64.divmod a b).2)
  | .FloorDiv, .int a, .int b => if b = 0 then none else if sm b then some (.int (a.fdiv b)) else none
  | .Div, .int a, .int b => if b = 0 then none else if sm a then some (.flt (Float64.ofFrac (decide (a < 0) != decide (b < 0)) a.natAbs b.natAbs)) else none
  | .Div, .flt a, .flt b => if Float64.isZero b then none else some (.flt (Float64.div a b))
  | .Div, .flt a, .int b => if b = 0 then none else if sm b then some (.flt (Float64.div a (Float64.ofInt b))) else none
  | .Div, .fw a, .int b => if b = 0 then none else if sm b then some (.flt (Float64.div a (Float64.ofInt b))) else none
  | .Pow, .int a, .int b => if a = 10 ∧ 0 ≤ b ∧ b ≤ 18 then some (.int (a ^ b.toNat)) else none
  | _, _, _ => none

section
variable {prog : Program} {w : World} {A : Around} {X : Addr → Prop} {s : Shared}

theorem Rd.int_inv {h : Heap} {v : Value} {i : Int} (r : Rd prog w X h v (.int i)) : ∃ t, v = .int i t := by cases r; exact ⟨_, rfl⟩
theorem Rd.flt_inv {h : Heap} {v : Value} {i : UInt64} (r : Rd prog w X h v (.flt i)) : ∃ t, v = .float i t ∧ t ≠ 0 := by cases r; exact ⟨_, rfl, ‹_›⟩
theorem Rd.fw_inv {h : Heap} {v : Value} {i : UInt64} (r : Rd prog w X h v (.fw i)) : ∃ t, v = .float i t := by cases r; exact ⟨_, rfl⟩
theorem Rd.str_inv {h : Heap} {v : Value} {i : Str} (r : Rd prog w X h v (.str i)) : ∃ t, v = .str i t := by cases r; exact ⟨_, rfl⟩
theorem Rd.bool_inv {h : Heap} {v : Value} {i : Bool} (r : Rd prog w X h v (.bool i)) : v = .bool i := by cases r; rfl
theorem Rd.none_inv {h : Heap} {v : Value} (r : Rd prog w X h v .none) : v = .none := by cases r; rfl
theorem Rd.val_inv {h : Heap} {v u : Value} (r : Rd prog w X h v (.val u)) : v = u := by cases r; rfl
theorem Rd.lst_inv {h : Heap} {v : Value} {l : List D} (r : Rd prog w X h v (.lst l)) : ∃ a vs, v = .ref a ∧ ¬ X a ∧ Ls h a vs ∧ RdL prog w X h vs l := by
  cases r with | lst a b c => exact ⟨_, _, rfl, a, b, c⟩
theorem Rd.tup_inv {h : Heap} {v : Value} {l : List D} (r : Rd prog w X h v (.tup l)) : ∃ a vs, v = .ref a ∧ ¬ X a ∧ Tp h a vs ∧ RdL prog w X h vs l := by
  cases r with | tup a b c => exact ⟨_, _, rfl, a, b, c⟩

/-- a tree that hands back an int, a float .. with a new token -/
theorem Gv.tok {t : Sem Value} {d : D} {f : Tok → Value} (hf : ∀ tk h, tk ≠ 0 → Rd prog w X h (f tk) d)
    (h : ∀ (Q : Value → Shared → Prop) (E : Value → Shared → Prop), Q (f s.toks) { s with toks := s.toks + 1 } → wpAny (model prog w) A t Q E s) : Gv prog w A X t d s :=
  fun h0 Q E hQ => h Q E (hQ _ s.heap _ (Nat.le_succ _) (fun _ _ e => e) (hf _ _ (Nat.ne_of_gt h0)))
/-- .. and no token -/
theorem Gv.val {t : Sem Value} {d : D} {v : Value} (hf : ∀ h, Rd prog w X h v d)
    (h : ∀ (Q : Value → Shared → Prop) (E : Value → Shared → Prop), Q v s → wpAny (model prog w) A t Q E s) : Gv prog w A X t d s :=
  fun _ Q E hQ => h Q E (hQ _ s.heap _ (Nat.le_refl _) (fun _ _ e => e) (hf _))

theorem alloc_old (h : Heap) (o : Obj) : Old h (h.push o) := fun _ _ e => Heap.get?_push_of_some _ e
/-- a new list -/
theorem Gv.list {t : Sem Value} {vs : List Value} {ds : List D} (r : RdL prog w X s.heap vs ds) (lv : Live X s.heap) (hz : vs.length ≤ sizeLine)
    (h : ∀ (Q : Value → Shared → Prop) (E : Value → Shared → Prop), Q (.ref s.heap.objs.size) { s with heap := s.heap.push { cls := .type "list", data := .seq vs.toArray } } → wpAny (model prog w) A t Q E s) : Gv prog w A X t (.lst ds) s :=
  fun _ Q E hQ => h Q E (hQ _ _ _ (Nat.le_refl _) (alloc_old _ _) (.lst (lv.fresh (fresh_size _ (Nat.le_refl _))) ⟨hz, 0, Heap.get?_push_size _ rfl⟩ (r.mono (fun _ q => q) fun b o _ e => alloc_old _ _ b o e)))
theorem Gv.tuple {t : Sem Value} {vs : List Value} {ds : List D} (r : RdL prog w X s.heap vs ds) (lv : Live X s.heap) (hz : vs.length ≤ sizeLine)
    (h : ∀ (Q : Value → Shared → Prop) (E : Value → Shared → Prop), Q (.ref s.heap.objs.size) { s with heap := s.heap.push { cls := .type "tuple", data := .seq vs.toArray } } → wpAny (model prog w) A t Q E s) : Gv prog w A X t (.tup ds) s :=
  fun _ Q E hQ => h Q E (hQ _ _ _ (Nat.le_refl _) (alloc_old _ _) (.tup (lv.fresh (fresh_size _ (Nat.le_refl _))) ⟨hz, 0, Heap.get?_push_size _ rfl⟩ (r.mono (fun _ q => q) fun b o _ e => alloc_old _ _ b o e)))

theorem bin_add_int {a b : Int} {t u : Tok} : Gv prog w A X (binaryOp .Add (.int a t) (.int b u)) (.int (a + b)) s := Gv.tok (f := fun t => .int (a + b) t) (fun _ _ _ => .int _ _) fun _ _ h => add_int h
theorem bin_sub_int {a b : Int} {t u : Tok} : Gv prog w A X (binaryOp .Sub (.int a t) (.int b u)) (.int (a - b)) s := Gv.tok (f := fun t => .int (a - b) t) (fun _ _ _ => .int _ _) fun _ _ h => sub_int h
theorem bin_mul_int {a b : Int} {t u : Tok} (h : sm a = true) : Gv prog w A X (binaryOp .Mult (.int a t) (.int b u)) (.int (a * b)) s := Gv.tok (f := fun t => .int (a * b) t) (fun _ _ _ => .int _ _) fun _ _ q => mul_int q (IntMulOk.of_left (sm_bits h))
theorem bin_mod_int {a b : Int} {t u : Tok} (h : b ≠ 0) : Gv prog w A X (binaryOp .Mod (.int a t) (.int b u)) (.int (a.fmod b)) s := Gv.tok (f := fun t => .int (a.fmod b) t) (fun _ _ _ => .int _ _) fun _ _ q => mod_int' h q
theorem bin_div_int {a b : Int} {t u : Tok} (h : b ≠ 0) (hb : sm b = true) : Gv prog w A X (binaryOp .FloorDiv (.int a t) (.int b u)) (.int (a.fdiv b)) s := Gv.tok (f := fun t => .int (a.fdiv b) t) (fun _ _ _ => .int _ _) fun _ _ q => floordiv_int h q (.inl (PyProof.noPylong_of_log2 (by
  have h1 := sm_lt hb
  by_cases hz : b.natAbs = 0
  · rw [hz]; decide
  · have : b.natAbs.log2 < 60 := (Nat.log2_lt hz).mpr (by simpa using h1)
    omega)))
theorem bin_tdiv_int {a b : Int} {t u : Tok} (hh : A.handled = none) (h : b ≠ 0) (ha : sm a = true) : Gv prog w A X (binaryOp .Div (.int a t) (.int b u)) (.flt (Float64.ofFrac (decide (a < 0) != decide (b < 0)) a.natAbs b.natAbs)) s :=
  Gv.tok (f := fun t => .float (Float64.ofFrac (decide (a < 0) != decide (b < 0)) a.natAbs b.natAbs) t) (fun _ _ n => .flt _ _ n) fun _ _ q => Flt.div_ii_fits hh (by
    have h1 := sm_lt ha
    have : (1152921504606846976 : Nat) ≤ 2 ^ 1023 := by decide +kernel
    omega) (fun z => absurd z h) fun _ _ => q
theorem bin_tdiv_flt {a b : UInt64} {t u : Tok} (h : ¬ Float64.isZero b = true) : Gv prog w A X (binaryOp .Div (.float a t) (.float b u)) (.flt (Float64.div a b)) s := Gv.tok (f := fun t => .float _ t) (fun _ _ n => .flt _ _ n) fun _ _ q => AutoFloatOps.truediv_1 h q
theorem bin_tdiv_fi {a : UInt64} {b : Int} {t u : Tok} (hh : A.handled = none) (h : b ≠ 0) (hb : sm b = true) : Gv prog w A X (binaryOp .Div (.float a t) (.int b u)) (.flt (Float64.div a (Float64.ofInt b))) s :=
  Gv.tok (f := fun t => .float _ t) (fun _ _ n => .flt _ _ n) fun _ _ q => Flt.truediv_fi hh (fun z => absurd z (sm_over hb)) (fun z => absurd z h) fun _ _ => q
theorem bin_add_flt {a b : UInt64} {t u : Tok} : Gv prog w A X (binaryOp .Add (.float a t) (.float b u)) (.flt (Float64.add a b)) s := Gv.tok (f := fun t => .float _ t) (fun _ _ n => .flt _ _ n) fun _ _ q => add_float q
theorem bin_sub_flt {a b : UInt64} {t u : Tok} : Gv prog w A X (binaryOp .Sub (.float a t) (.float b u)) (.flt (Float64.sub a b)) s := Gv.tok (f := fun t => .float _ t) (fun _ _ n => .flt _ _ n) fun _ _ q => AutoFloatOps.sub_0 q
theorem bin_mul_flt {a b : UInt64} {t u : Tok} : Gv prog w A X (binaryOp .Mult (.float a t) (.float b u)) (.flt (Float64.mul a b)) s := Gv.tok (f := fun t => .float _ t) (fun _ _ n => .flt _ _ n) fun _ _ q => mul_float q
theorem bin_mod_flt {a b : UInt64} {t u : Tok} (h : ¬ Float64.isZero b = true) : Gv prog w A X (binaryOp .Mod (.float a t) (.float b u)) (.flt (Float64.divmod a b).2) s := Gv.tok (f := fun t => .float _ t) (fun _ _ n => .flt _ _ n) fun _ _ q => AutoFloatOps.mod_1 h q
theorem bin_sub_fi {a : UInt64} {b : Int} {t u : Tok} (hb : sm b = true) : Gv prog w A X (binaryOp .Sub (.float a t) (.int b u)) (.flt (Float64.sub a (Float64.ofInt b))) s := Gv.tok (f := fun t => .float _ t) (fun _ _ n => .flt _ _ n) fun _ _ q => AutoFloatOps.sub_fi_1 (sm_inf hb) q
theorem bin_mul_fi {a : UInt64} {b : Int} {t u : Tok} (hb : sm b = true) : Gv prog w A X (binaryOp .Mult (.float a t) (.int b u)) (.flt (Float64.mul a (Float64.ofInt b))) s := Gv.tok (f := fun t => .float _ t) (fun _ _ n => .flt _ _ n) fun _ _ q => AutoFloatOps.mul_fi_1 (sm_inf hb) q
theorem bin_pow {b : Int} {t u : Tok} (h0 : 0 ≤ b) (h1 : b ≤ 18) : Gv prog w A X (binaryOp .Pow (.int 10 t) (.int b u)) (.int (10 ^ b.toNat)) s :=
  Gv.tok (f := fun t => .int (10 ^ b.toNat) t) (fun _ _ _ => .int _ _) fun Q E q => by
    have hb : b = 0 ∨ b = 1 ∨ b = 2 ∨ b = 3 ∨ b = 4 ∨ b = 5 ∨ b = 6 ∨ b = 7 ∨ b = 8 ∨ b = 9 ∨ b = 10 ∨ b = 11 ∨ b = 12 ∨ b = 13 ∨ b = 14 ∨ b = 15 ∨ b = 16 ∨ b = 17 ∨ b = 18 := by omega
    refine AutoIntOpsIf.pow ?_
    rw [if_pos h0]
    rcases hb with rfl | hb
    · exact q
    · rw [if_neg (by rcases hb with rfl | rfl | rfl | rfl | rfl | rfl | rfl | rfl | rfl | rfl | rfl | rfl | rfl | rfl | rfl | rfl | rfl | rfl <;> decide), if_neg (by decide), if_neg (by decide), if_neg (by rcases hb with rfl | rfl | rfl | rfl | rfl | rfl | rfl | rfl | rfl | rfl | rfl | rfl | rfl | rfl | rfl | rfl | rfl | rfl <;> decide +kernel)]
      exact q

theorem fold_replicate (x : Value) : ∀ (n : Nat) (acc : Array Value), List.foldl (fun x1 x2 => x1 ++ x2) acc (List.replicate n #[x]) = acc ++ (List.replicate n x).toArray
  | 0, acc => by simp
  | n + 1, acc => by
    rw [List.replicate_succ, List.foldl_cons, fold_replicate x n]
    apply Array.ext'
    simp [List.replicate_succ]
theorem bin_mul_list {a : Addr} {x : Value} {n : Int} {u : Tok} {d : D} {k : Nat} (hl : s.heap.get? a = some { cls := .type "list", data := .seq #[x] k }) (lv : Live X s.heap) (r : Rd prog w X s.heap x d) (h0 : 0 ≤ n) (h1 : n ≤ 1024) :
    Gv prog w A X (binaryOp .Mult (.ref a) (.int n u)) (.lst (List.replicate n.toNat d)) s := by
  have rr : ∀ m : Nat, RdL prog w X s.heap (List.replicate m x) (List.replicate m d) := fun m => by
    induction m with
    | zero => exact .nil
    | succ m ih => rw [List.replicate_succ, List.replicate_succ]; exact .cons r ih
  refine Gv.list (rr n.toNat) lv (by rw [List.length_replicate]; simp only [sizeLine]; omega) fun Q E q => ?_
  refine wpAny_binaryOp_repeat_ref (T := "list") (U := "int") (by decide) ⟨_, hl, rfl⟩ (fun s' => typeIs_int s' n u) noFill_list_mul F.fills_int_mul F.slot_int_rmul repeat_list F.slot_int_index.lookup
    (call_meets F.slot_int_rmul (typeIs_int s n u) F.entry_int_rmul (F.args_int_rmul_2 _ _) (int___rmul___int_list n u a #[x] k)
      ⟨hl, rfl, ⟨_, hl, rfl⟩, call_meets F.slot_list_mul ⟨_, hl, rfl⟩ F.entry_list_mul (F.args_list_mul_2 _ _)
        (AutoListH.list___mul___list_int_3 a #[x] k n u (by simp [Builtin.List.listFitsIndex]; omega) (by simp; omega) (by simp [Builtin.List.listTooLong, sizeLine]; omega))
        ⟨hl, ?_⟩⟩)
  have e : List.foldl (fun x1 x2 => x1 ++ x2) #[] (List.replicate (if (#[x] : Array Value).isEmpty = true then 0 else n.toNat) #[x]) = (List.replicate n.toNat x).toArray := by
    rw [if_neg (by simp), fold_replicate]; simp
  rw [e]; exact q

theorem bin_add_list {a b : Addr} {vs ws : List Value} {ds es : List D} (ha : Ls s.heap a vs) (hb : Ls s.heap b ws) (lv : Live X s.heap) (ra : RdL prog w X s.heap vs ds) (rb : RdL prog w X s.heap ws es) (hz : vs.length + ws.length ≤ 1048576) :
    Gv prog w A X (binaryOp .Add (.ref a) (.ref b)) (.lst (ds ++ es)) s := by
  obtain ⟨_, n, ha⟩ := ha
  obtain ⟨_, m, hb⟩ := hb
  refine Gv.list (ra.append rb) lv (by rw [List.length_append]; simp only [sizeLine]; omega) fun Q E q => ?_
  refine P.add_list ha hb ?_ (by simp only [List.size_toArray, sizeLine]; omega)
  have e : vs.toArray ++ ws.toArray = (vs ++ ws).toArray := by simp
  rw [e]; exact q

theorem bin_sound {op : Operator} {va vb : Value} {a b d : D} (hh : A.handled = none) (lv : Live X s.heap) (ra : Rd prog w X s.heap va a) (rb : Rd prog w X s.heap vb b) (h : binD op a b = some d) : Gv prog w A X (binaryOp op va vb) d s := by
  unfold binD at h
  split at h
  · obtain ⟨t, rfl⟩ := ra.int_inv; obtain ⟨u, rfl⟩ := rb.int_inv; cases h; exact bin_add_int
  · obtain ⟨t, rfl, _⟩ := ra.flt_inv; obtain ⟨u, rfl, _⟩ := rb.flt_inv; cases h; exact bin_add_flt
  · obtain ⟨a', vs, rfl, _, la, ra'⟩ := ra.lst_inv
    obtain ⟨b', ws, rfl, _, lb, rb'⟩ := rb.lst_inv
    split at h
    · rename_i hz
      cases h
      exact bin_add_list la lb lv ra' rb' (by rw [ra'.length, rb'.length]; exact hz)
    · cases h
  · obtain ⟨t, rfl⟩ := ra.int_inv; obtain ⟨u, rfl⟩ := rb.int_inv; cases h; exact bin_sub_int
  · obtain ⟨t, rfl, _⟩ := ra.flt_inv; obtain ⟨u, rfl, _⟩ := rb.flt_inv; cases h; exact bin_sub_flt
  · obtain ⟨t, rfl, _⟩ := ra.flt_inv; obtain ⟨u, rfl⟩ := rb.int_inv
    split at h
    · rename_i hs; cases h; exact bin_sub_fi hs
    · cases h
  · obtain ⟨t, rfl⟩ := ra.int_inv; obtain ⟨u, rfl⟩ := rb.int_inv
    split at h
    · rename_i hs; cases h; exact bin_mul_int hs
    · cases h
  · obtain ⟨t, rfl, _⟩ := ra.flt_inv; obtain ⟨u, rfl, _⟩ := rb.flt_inv; cases h; exact bin_mul_flt
  · obtain ⟨t, rfl, _⟩ := ra.flt_inv; obtain ⟨u, rfl⟩ := rb.int_inv
    split at h
    · rename_i hs; cases h; exact bin_mul_fi hs
    · cases h
  · obtain ⟨a', vs, rfl, _, la, ra'⟩ := ra.lst_inv
    obtain ⟨u, rfl⟩ := rb.int_inv
    split at h
    · rename_i hs; cases h
      obtain ⟨_, n, la⟩ := la
      cases ra' with
      | cons r rs =>
        cases rs
        exact bin_mul_list la lv r hs.1 hs.2
    · cases h
  · obtain ⟨t, rfl⟩ := ra.int_inv; obtain ⟨u, rfl⟩ := rb.int_inv
    split at h
    · cases h
    · rename_i hs; cases h; exact bin_mod_int hs
  · obtain ⟨t, rfl, _⟩ := ra.flt_inv; obtain ⟨u, rfl, _⟩ := rb.flt_inv
    split at h
    · cases h
    · rename_i hs; cases h; exact bin_mod_flt hs
  · obtain ⟨t, rfl⟩ := ra.int_inv; obtain ⟨u, rfl⟩ := rb.int_inv
    split at h
    · cases h
    · split at h
      · rename_i h0 hs; cases h; exact bin_div_int h0 hs
      · cases h
  · obtain ⟨t, rfl⟩ := ra.int_inv; obtain ⟨u, rfl⟩ := rb.int_inv
    split at h
    · cases h
    · split at h
      · rename_i h0 hs; cases h; exact bin_tdiv_int hh h0 hs
      · cases h
  · obtain ⟨t, rfl, _⟩ := ra.flt_inv; obtain ⟨u, rfl, _⟩ := rb.flt_inv
    split at h
    · cases h
    · rename_i hs; cases h; exact bin_tdiv_flt hs
  · obtain ⟨t, rfl, _⟩ := ra.flt_inv; obtain ⟨u, rfl⟩ := rb.int_inv
    split at h
    · cases h
    · split at h
      · rename_i h0 hs; cases h; exact bin_tdiv_fi hh h0 hs
      · cases h
  · obtain ⟨t, rfl⟩ := ra.fw_inv; obtain ⟨u, rfl⟩ := rb.int_inv
    split at h
    · cases h
    · split at h
      · rename_i h0 hs; cases h; exact bin_tdiv_fi hh h0 hs
      · cases h
  · obtain ⟨t, rfl⟩ := ra.int_inv; obtain ⟨u, rfl⟩ := rb.int_inv
    split at h
    · rename_i hs; cases h
      obtain ⟨rfl, h0, h1⟩ := hs
      exact bin_pow h0 h1
    · cases h
  · cases h
end
end Mine
set_option Elab.async false
set_option maxRecDepth 4000
namespace Mine
open PySem PySem.Calls PyProof.Rows PySem.W PySem.Spec

def all2 (f : D → D → Option Bool) : List D → List D → Option Bool
  | [], [] => some true
  | a :: r, b :: q => match f a b, all2 f r q with
    | some x, some y => some (x && y)
    | _, _ => none
  | _, _ => none
def eqD : Nat → D → D → Option Bool
  | _, .int a, .int b => some (a == b)
  | _, .str a, .str b => some (a == b)
  | _, .flt a, .flt b => if a = b ∧ Float64.isNaN a = false then some true else none
  | n + 1, .lst a, .lst b => if a.length = b.length then all2 (eqD n) a b else some false
  | _, _, _ => none
def intsD : List D → Option (List Int)
  | [] => some []
  | .int i :: r => (intsD r).map (i :: ·)
  | _ => none

section
variable {prog : Program} {w : World} {A : Around} {X : Addr → Prop} {s : Shared}

theorem cmp_self {x : UInt64} (h : Float64.isNaN x = false) : Float64.cmp x x = some .eq := by
  unfold Float64.cmp
  unfold Float64.isNaN at h
  cases hd : Float64.decode x with
  | nan => rw [hd] at h; simp at h
  | inf a => simp [compare, compareOfLessAndEq]
  | fin a m e =>
    simp [Float64.align, compare, compareOfLessAndEq]

theorem all2_same {f : D → D → Option Bool} {X Y : Addr → Prop} {h : Heap} (hf : ∀ {v : Value} {a b : D} {r : Bool}, f a b = some r → Rd prog w X h v a → Rd prog w Y h v b → r = true) :
    ∀ {vs : List Value} {as bs : List D} {r : Bool}, all2 f as bs = some r → RdL prog w X h vs as → RdL prog w Y h vs bs → r = true
  | _, _, _, r, e, .nil, .nil => by simpa [all2] using e.symm
  | _, _, _, r, e, .cons a as, .cons b bs => by
    unfold all2 at e
    split at e
    · rename_i x y e1 e2
      cases e
      rw [hf e1 a b, all2_same hf e2 as bs]; rfl
    · cases e
theorem Ls.uniq {h : Heap} {a : Addr} {vs ws : List Value} (x : Ls h a vs) (y : Ls h a ws) : vs = ws := by
  obtain ⟨_, n, e⟩ := x
  obtain ⟨_, m, f⟩ := y
  rw [e] at f
  simp only [Option.some.injEq, Obj.mk.injEq, Data.seq.injEq, true_and, and_true] at f
  have := congrArg Array.toList f.1
  simpa using this
theorem eqD_same {h : Heap} : ∀ (n : Nat) {v : Value} {a b : D} {r : Bool}, eqD n a b = some r → Rd prog w X h v a → Rd prog w X h v b → r = true
  | n, v, a, b, r, e, ra, rb => by
    unfold eqD at e
    split at e
    · obtain ⟨t, rfl⟩ := ra.int_inv; obtain ⟨u, q⟩ := rb.int_inv; cases q; cases e; simp
    · obtain ⟨t, rfl⟩ := ra.str_inv; obtain ⟨u, q⟩ := rb.str_inv; cases q; cases e; simp
    · obtain ⟨t, rfl, _⟩ := ra.flt_inv; obtain ⟨u, q, _⟩ := rb.flt_inv; cases q
      split at e
      · exact (Option.some.inj e).symm
      · cases e
    · rename_i n _ _
      obtain ⟨p, vs, rfl, _, la, ra⟩ := ra.lst_inv
      obtain ⟨q, ws, z, _, lb, rb⟩ := rb.lst_inv
      cases z
      obtain rfl := la.uniq lb
      rw [if_pos (ra.length.symm.trans rb.length)] at e
      exact all2_same (eqD_same n) e ra rb
    · cases e

theorem Ls.isList {h : Heap} {a : Addr} {vs : List Value} (x : Ls h a vs) : h.IsList a vs.toArray := let ⟨_, n, e⟩ := x; ⟨_, e, rfl, n, rfl⟩
theorem Tp.isTuple {h : Heap} {a : Addr} {vs : List Value} (x : Tp h a vs) : h.IsTuple a vs.toArray := let ⟨_, n, e⟩ := x; ⟨_, e, rfl, n, rfl⟩

theorem cmp_zero {x y : UInt64} (h : (x == y && !Float64.isNaN x) = true) : Float64.cmp x y = some .eq := by
  simp at h; obtain ⟨rfl, h⟩ := h; exact cmp_self h
theorem wpAny_isSame_flt {prog : Program} {w : World} {E : Value → Shared → Prop} {y z : UInt64} {u v : Tok} {Q : Bool → Shared → Prop}
    (h0 : (u == 0 || v == 0) = false) (hb : NoneBooked s.heap) (hf : Q false s) (ht : (u = v ∨ (y == z && !Float64.isNaN y) = true) → Q true s) : wpAny (model prog w) A (isSame (.float y u) (.float z v)) Q E s := by
  show wpAny _ A (isSame.created (y == z && !Float64.isNaN y) u v) Q E s
  unfold isSame.created
  refine wpAny_ite ?_
  split
  · rename_i h; rw [h0] at h; exact absurd h Bool.false_ne_true
  refine wpAny_ite ?_
  split
  · rename_i h; exact wpAny_pure (ht (.inl (by simpa using h)))
  refine wpAny_ite ?_
  split
  · exact wpAny_pure hf
  rename_i hc
  refine wpAny_bind (wpAny_sharingNotTold_none hb ?_)
  simp only [Bool.false_eq_true, if_false]
  refine wpAny_bind (wpAny_sharingNotTold_none hb ?_)
  simp only [Bool.false_eq_true, if_false]
  have hQ : ∀ b, Q b s := fun b => by
    cases b
    · exact hf
    · exact ht (.inr (by simpa using hc))
  exact wpAny_bind (wpAny_rule (wpAny_bind (wpAny_askSetting (wpAny_pure (hQ _)))))

theorem eqAt_flt {a : UInt64} {t u : Tok} (hnb : NoneBooked s.heap) (h0 : t ≠ 0) (h1 : u ≠ 0) (hn : Float64.isNaN a = false) : SeqAt.EqAt A s (.float a t) (.float a u) true := fun prog w E Q h => by
  unfold eqBool
  refine wpAny_holding ?_
  by_cases hab : (Value.float a t == Value.float a u) = true
  · simp only [hab, if_true]
    exact wpAny_bind (wpAny_rule (wpAny_pure h))
  · simp only [hab]
    refine wpAny_bind (wpAny_isSame_flt (by simp [h0, h1]) hnb ?_ ?_)
    · simp only [Bool.false_eq_true, if_false]
      refine wpAny_bind (AutoFloatOps.eq_0 (wpAny_truthy_bool ?_))
      rw [cmp_self hn]; exact h
    · intro q
      exact wpAny_pure h

theorem all2_at {f : D → D → Option Bool} {vs ws : List Value} (hf : ∀ {v u : Value} {a b : D} {r : Bool}, f a b = some r → Rd prog w X s.heap v a → Rd prog w X s.heap u b → SeqAt.EqAt A s v u r) :
    ∀ {as bs : List D} {r : Bool}, all2 f as bs = some r → RdL prog w X s.heap vs as → RdL prog w X s.heap ws bs → ∃ e : Nat → Bool, (∀ j (h1 : j < vs.length) (h2 : j < ws.length), SeqAt.EqAt A s vs[j] ws[j] (e j)) ∧ (List.range vs.length).all e = r := by
  induction vs generalizing ws with
  | nil =>
    intro as bs r e ra rb
    cases ra
    cases bs with
    | nil =>
      cases rb
      simp only [all2, Option.some.injEq] at e
      exact ⟨fun _ => true, fun j h1 => absurd h1 (by simp), by simpa using e⟩
    | cons _ _ => simp [all2] at e
  | cons v vs ih =>
    intro as bs r e ra rb
    cases ra with
    | cons a as =>
      cases rb with
      | nil => simp [all2] at e
      | cons b bs =>
        unfold all2 at e
        split at e
        · rename_i x y e1 e2
          cases e
          obtain ⟨g, hg, hr⟩ := ih e2 as bs
          refine ⟨fun j => match j with | 0 => x | j + 1 => g j, fun j h1 h2 => ?_, ?_⟩
          · cases j with
            | zero => exact hf e1 a b
            | succ j => exact hg j (by simpa using h1) (by simpa using h2)
          · rw [List.length_cons, List.range_succ_eq_map, List.all_cons, List.all_map]
            show (x && (List.range vs.length).all g) = _
            rw [hr]
        · cases e

theorem eq_at (hnb : NoneBooked s.heap) : ∀ (n : Nat) {A : Around} {v u : Value} {a b : D} {r : Bool}, A.units + n < cLine → eqD n a b = some r → Rd prog w X s.heap v a → Rd prog w X s.heap u b → SeqAt.EqAt A s v u r
  | n, A, v, u, a, b, r, hu, e, ra, rb => by
    have e0 := e
    unfold eqD at e
    split at e
    · obtain ⟨t, rfl⟩ := ra.int_inv; obtain ⟨u, rfl⟩ := rb.int_inv; cases e; exact SeqAt.EqAt.int_int _ _ _ _
    · obtain ⟨t, rfl⟩ := ra.str_inv; obtain ⟨u, rfl⟩ := rb.str_inv; cases e; exact SeqAt.EqAt.str_str _ _ _ _
    · obtain ⟨t, rfl, ht⟩ := ra.flt_inv; obtain ⟨u, rfl, hu'⟩ := rb.flt_inv
      split at e
      · rename_i hn
        obtain ⟨rfl, hn⟩ := hn
        cases e
        exact eqAt_flt hnb ht hu' hn
      · cases e
    · rename_i n l1 l2
      have ra0 := ra
      have rb0 := rb
      obtain ⟨p, vs, rfl, _, la, ra⟩ := ra.lst_inv
      obtain ⟨q, ws, rfl, _, lb, rb⟩ := rb.lst_inv
      by_cases hpq : p = q
      · subst hpq
        have : r = true := eqD_same (n + 1) e0 ra0 rb0
        subst this
        exact .same _
      · refine .of_refs hpq ?_
        split at e
        · rename_i hl
          obtain ⟨g, hg, hr⟩ := all2_at (A := A.in1) (fun {v u a b r} e ra rb => eq_at hnb n (by simp; omega) e ra rb) e ra rb
          have := SeqAt.RcAt.lists (A := A) (s := s) (e := g) la.isList lb.isList (by simp [ra.length, rb.length, hl]) (by omega) (fun j h1 h2 => by simpa using hg j (by simpa using h1) (by simpa using h2))
          rw [List.size_toArray, hr] at this
          exact this
        · rename_i hl
          cases e
          exact SeqAt.RcAt.lists_lengths la.isList lb.isList (by simp [ra.length, rb.length, hl]) (by omega)
    · cases e
end
end Mine
set_option Elab.async false
set_option maxRecDepth 4000
namespace Mine
open PySem PySem.Calls PyProof.Rows PySem.W PySem.Spec
open AutoSeq1 (wpAny_loadPart')
open MeetsSeq MeetsSeq2 MeetsSeq3 SeqRoads2

def LtAt (A : Around) (s : Shared) (y x : Value) (b : Bool) : Prop :=
  ∀ (prog : Program) (w : World) (E : Value → Shared → Prop) (Q : Value → Shared → Prop), Q (.bool b) s → wpAny (model prog w) A (richCompare .Lt y x) Q E s
inductive LexAt (A : Around) (s : Shared) (d : Bool) : List (Value × Value) → Bool → Prop
  | nil : LexAt A s d [] d
  | eq {x y rest r} : SeqAt.EqAt A s x y true → LexAt A s d rest r → LexAt A s d ((x, y) :: rest) r
  | ne {x y rest r} : SeqAt.EqAt A s x y false → LtAt A s x y r → LexAt A s d ((x, y) :: rest) r

theorem tuple_ltAt (l b : Addr) (items items2 : Array Value) (n n2 : Nat) (dd dd2 : Option Addr) (sl sl2 : Array (Option Value)) (r : Bool) :
    Meets (Builtin.«tuple.__lt__» ⟨[.ref l, .ref b], []⟩)
      (fun A R s => s.heap.get? l = some { cls := .type "tuple", dict := dd, data := .seq items n, slots := sl } ∧ s.heap.get? b = some { cls := .type "tuple", dict := dd2, data := .seq items2 n2, slots := sl2 } ∧
        LexAt A.in1 s (decide (items.size < items2.size)) (items.toList.zip items2.toList) r ∧
        R (.ok (.ret (.bool r))) s) :=
  .of_wp fun prog w A R s h => by
    obtain ⟨hp, g, d, tk, os⟩ := s; obtain ⟨hl, hb, he, h⟩ := h
    have f2 := AutoSeq1.sub_tuple_tuple
    wp_walk using wpAny_loadPart' hl, wpAny_loadPart' hb, wpAny_forIn_list _ (fun rest b s' => b.1 = none ∧ s' = ⟨hp, g, d, tk, os⟩ ∧ LexAt A.in1 ⟨hp, g, d, tk, os⟩ (decide (items.size < items2.size)) rest r) _
    case turn =>
      rintro ⟨y, x⟩ rest b s' ⟨hb', rfl, hz⟩
      cases hz with
      | eq h1 h2 =>
        refine wpAny_bind (h1 prog w _ _ ?_)
        wp_walk
        exact ⟨rfl, rfl, h2⟩
      | ne h1 h2 =>
        refine wpAny_bind (h1 prog w _ _ ?_)
        simp only [Bool.not_false, if_true]
        refine wpAny_bind (wpAny_bind (wpAny_rule (wpAny_pure (wpAny_bind (h2 prog w _ _ ?_)))))
        wp_walk
        exact ⟨_, rfl, h⟩
    case fin =>
      rintro ⟨b1, b2⟩ s' ⟨hb', rfl, hz⟩
      simp only at hb'
      subst hb'
      cases hz
      wp_walk
      exact ⟨_, rfl, by simpa [Builtin.Tuple.tupleCompareSizes] using h⟩
    case h => exact ⟨rfl, rfl, he⟩

section
variable {A : Around} {s : Shared}
theorem LtAt.tuples {l b : Addr} {items items2 : Array Value} {r : Bool} (hl : s.heap.IsTuple l items) (hb : s.heap.IsTuple b items2) (hu : A.units < cLine)
    (he : LexAt A.in1 s (decide (items.size < items2.size)) (items.toList.zip items2.toList) r) : LtAt A s (.ref l) (.ref b) r := fun prog w E Q h => by
  obtain ⟨⟨cls, dd, data, sl⟩, ho, hc, n, hd⟩ := id hl
  obtain ⟨⟨cls2, dd2, data2, sl2⟩, ho2, hc2, n2, hd2⟩ := id hb
  simp only at hc hd hc2 hd2
  subst hc hd hc2 hd2
  exact richCompare_meets_room (op := .Lt) ⟨_, ho, rfl⟩ ⟨_, ho2, rfl⟩ F.slot_tuple_lt F.entry_tuple_lt (F.args_tuple_lt_2 _ _) (tuple_ltAt l b items items2 n n2 dd dd2 sl sl2 r)
    ⟨ho, ho2, he, show Value.bool r ≠ Value.notImplemented ∧ Q (.bool r) s from ⟨(fun x => nomatch x), h⟩⟩ hu
end
end Mine
set_option Elab.async false
set_option maxRecDepth 4000
namespace Mine
open PySem PySem.Calls PyProof.Rows PySem.W PySem.Spec

def ltD : D → D → Option Bool
  | .int a, .int b => some (decide (a < b))
  | .str a, .str b => some (decide (a.cps.toList < b.cps.toList))
  | _, _ => none
def lexD (d : Bool) : List D → List D → Option Bool
  | a :: r, b :: q => match eqD 0 a b with
    | some true => lexD d r q
    | some false => ltD a b
    | none => none
  | _, _ => some d
def dget {K : Type} [DecidableEq K] (l : List (K × D)) (k : K) : Option D := (l.find? fun kv => kv.1 = k).map (·.2)
def hitsD (kb : List (Int × D)) : List (Int × D) → Option Bool
  | [] => some true
  | (k, v) :: r => match dget kb k with
    | none => some false
    | some y => match eqD 8 v y, hitsD kb r with
      | some e, some b => some (e && b)
      | _, _ => none
def inD : D → D → Option Bool
  | .str a, .str b => some (Txt.contains b a)
  | .int i, .lst l => (intsD l).map fun l => decide (i ∈ l)
  | .int i, .tup l => (intsD l).map fun l => decide (i ∈ l)
  | .int i, .iset l => some (decide (i ∈ l))
  | .int i, .dci l => some (dget l i).isSome
  | _, _ => none
def notNone : D → Option Bool
  | .none => some false
  | .val _ => none
  | _ => some true
def cmpD : CmpOp → D → D → Option Bool
  | .Eq, .int a, .int b => some (a == b)
  | .Eq, .str a, .str b => some (a == b)
  | .Eq, .flt a, .flt b => some (Float64.cmp a b == some .eq)
  | .Eq, .lst a, .lst b => eqD 9 (.lst a) (.lst b)
  | .NotEq, .int a, .int b => some (a != b)
  | .NotEq, .str a, .str b => some (a != b)
  | .NotEq, .lst a, .lst b => match intsD a, intsD b with
    | some a, some b => some (!decide (a = b))
    | _, _ => none
  | .NotEq, .dci a, .dci b => if a.length = b.length then (hitsD b a).map (! ·) else some true
  | .Lt, .int a, .int b => some (decide (a < b))
  | .Lt, .tup a, .tup b => lexD (decide (a.length < b.length)) a b
  | .Gt, .int a, .int b => some (decide (a > b))
  | .LtE, .flt a, .flt b => some (Float64.cmp a b == some .lt || Float64.cmp a b == some .eq)
  | .In, a, b => inD a b
  | .NotIn, a, b => (inD a b).map (! ·)
  | .IsNot, a, .none => notNone a
  | _, _, _ => none

section
variable {prog : Program} {w : World} {A : Around} {X : Addr → Prop} {s : Shared}

theorem lt_at {v u : Value} {a b : D} {r : Bool} (e : ltD a b = some r) (ra : Rd prog w X s.heap v a) (rb : Rd prog w X s.heap u b) : LtAt A s v u r := by
  unfold ltD at e
  split at e
  · obtain ⟨t, rfl⟩ := ra.int_inv; obtain ⟨u, rfl⟩ := rb.int_inv; cases e; exact fun prog w E Q h => PySem.P.lt_int (prog := prog) (w := w) h
  · obtain ⟨t, rfl⟩ := ra.str_inv; obtain ⟨u, rfl⟩ := rb.str_inv; cases e; exact fun prog w E Q h => PySem.P.lt_str (prog := prog) (w := w) h
  · cases e
theorem lex_at (hnb : NoneBooked s.heap) (hu : A.units < cLine) {d : Bool} {a : List D} : ∀ {vs ws : List Value} {b : List D} {r : Bool}, lexD d a b = some r → RdL prog w X s.heap vs a → RdL prog w X s.heap ws b → LexAt A s d (vs.zip ws) r := by
  induction a with
  | nil =>
    intro vs ws b r e ra rb
    cases ra
    simp only [lexD, Option.some.injEq] at e
    subst e; exact .nil
  | cons x a ih =>
    intro vs ws b r e ra rb
    cases ra with
    | cons rx ra =>
      cases rb with
      | nil =>
        simp only [lexD, Option.some.injEq] at e
        subst e; exact .nil
      | cons ry rb =>
        unfold lexD at e
        rw [List.zip_cons_cons]
        split at e
        · rename_i q; exact .eq (eq_at hnb 0 (by omega) q rx ry) (ih e ra rb)
        · rename_i q; exact .ne (eq_at hnb 0 (by omega) q rx ry) (lt_at e rx ry)
        · cases e

theorem intsD_are {h : Heap} : ∀ {l : List D} {vs : List Value} {ns : List Int}, intsD l = some ns → RdL prog w X h vs l → IntsAre vs ns
  | [], _, _, e, .nil => by cases e; exact .nil
  | .int i :: l, _, ns, e, .cons r rs => by
    simp only [intsD, Option.map_eq_some_iff] at e
    obtain ⟨ns', e, rfl⟩ := e
    obtain ⟨t, rfl⟩ := r.int_inv
    exact .cons _ _ (intsD_are e rs)
theorem ints_any {i : Int} : ∀ {vs : List Value} {ns : List Int}, IntsAre vs ns → vs.any (fun v => match v with | .int j _ => j == i | _ => false) = decide (i ∈ ns)
  | _, _, .nil => by simp
  | _, _, .cons _ _ r => by
    rw [List.any_cons, ints_any r]
    simp only [List.mem_cons, Bool.decide_or]
    congr 1
    simp [eq_comm, Bool.beq_eq_decide_eq]
theorem ints_eqAt {A : Around} {i : Int} {t : Tok} : ∀ {vs : List Value} {ns : List Int}, IntsAre vs ns → ∀ y, y ∈ vs → SeqAt.EqAt A s y (.int i t) (match y with | .int j _ => j == i | _ => false)
  | _, _, .nil, _, h => by cases h
  | _, _, .cons _ _ r, y, h => by
    rcases List.mem_cons.mp h with rfl | h
    · exact SeqAt.EqAt.int_int _ _ _ _
    · exact ints_eqAt r y h

theorem valueAt_rd {K : Type} [DecidableEq K] {h : Heap} {k : K} {d : D} : ∀ {kvs : List (K × Value)} {l : List (K × D)}, l.map Prod.fst = kvs.map Prod.fst → RdL prog w X h (kvs.map Prod.snd) (l.map Prod.snd) → dget l k = some d → ∃ v, valueAt kvs k = some v ∧ Rd prog w X h v d
  | [], [], _, _, e => by cases e
  | (k', v) :: kvs, (k₂, d') :: l, ek, r, e => by
    simp only [List.map_cons, List.cons.injEq] at ek
    obtain ⟨rfl, ek⟩ := ek
    cases r with
    | cons r rs =>
      unfold dget at e
      unfold valueAt
      by_cases hk : k₂ = k
      · rw [List.find?_cons_of_pos (by simpa using hk)] at e ⊢
        cases e; exact ⟨_, rfl, r⟩
      · rw [List.find?_cons_of_neg (by simpa using hk)] at e ⊢
        exact valueAt_rd ek rs e
theorem valueAt_none {K : Type} [DecidableEq K] {k : K} : ∀ {kvs : List (K × Value)} {l : List (K × D)}, l.map Prod.fst = kvs.map Prod.fst → (valueAt kvs k).isSome = (dget l k).isSome
  | [], [], _ => rfl
  | (k', v) :: kvs, (k₂, d') :: l, ek => by
    simp only [List.map_cons, List.cons.injEq] at ek
    obtain ⟨rfl, ek⟩ := ek
    unfold dget valueAt
    by_cases hk : k₂ = k
    · rw [List.find?_cons_of_pos (by simpa using hk), List.find?_cons_of_pos (by simpa using hk)]; rfl
    · rw [List.find?_cons_of_neg (by simpa using hk), List.find?_cons_of_neg (by simpa using hk)]
      exact valueAt_none ek

theorem hits_at (hnb : NoneBooked s.heap) (hu : A.units + 8 < cLine) {kb : List (Int × Value)} {lb : List (Int × D)} (eb : lb.map Prod.fst = kb.map Prod.fst) (rb : RdL prog w X s.heap (kb.map Prod.snd) (lb.map Prod.snd)) :
    ∀ {ka : List (Int × Value)} {la : List (Int × D)} {r : Bool}, hitsD lb la = some r → la.map Prod.fst = ka.map Prod.fst → RdL prog w X s.heap (ka.map Prod.snd) (la.map Prod.snd) → KeqHits A s kb ka r
  | [], [], r, e, _, _ => by cases e; exact .nil
  | (k', v) :: kvs, (k₂, d') :: l, r, e, ek, ra => by
    simp only [List.map_cons, List.cons.injEq] at ek
    obtain ⟨rfl, ek⟩ := ek
    cases ra with
    | cons ra ras =>
      unfold hitsD at e
      split at e
      · rename_i q
        cases e
        refine .miss ?_
        have := valueAt_none (k := k₂) eb
        rw [q] at this
        simpa using this
      · rename_i y q
        obtain ⟨u, q', ru⟩ := valueAt_rd eb rb q
        split at e
        · rename_i e1 b1 q1 q2
          cases e
          exact .hit q' (eq_at hnb 8 hu q1 ra ru) (hits_at hnb hu eb rb q2 ek ras)
        · cases e

theorem Gv.bool {t : Sem Value} {b : Bool} (h : ∀ (Q : Value → Shared → Prop) (E : Value → Shared → Prop), Q (.bool b) s → wpAny (model prog w) A t Q E s) : Gv prog w A X t (.bool b) s := Gv.val (fun _ => .bool _) h

theorem Rd.dci_inv {h : Heap} {v : Value} {l : List (Int × D)} (r : Rd prog w X h v (.dci l)) : ∃ a kvs, v = .ref a ∧ ¬ X a ∧ (a == sysModules) = false ∧ kvs.length ≤ sizeLine ∧ h.DictOf (intKind prog w) a kvs ∧ l.map Prod.fst = kvs.map Prod.fst ∧ RdL prog w X h (kvs.map Prod.snd) (l.map Prod.snd) := by
  cases r with | dci a b z c d e => exact ⟨_, _, rfl, a, b, z, c, d, e⟩
theorem Rd.dcs_inv {h : Heap} {v : Value} {l : List (Str × D)} (r : Rd prog w X h v (.dcs l)) : ∃ a kvs, v = .ref a ∧ ¬ X a ∧ (a == sysModules) = false ∧ kvs.length ≤ sizeLine ∧ h.DictOf (strKind prog w) a kvs ∧ l.map Prod.fst = kvs.map Prod.fst ∧ RdL prog w X h (kvs.map Prod.snd) (l.map Prod.snd) := by
  cases r with | dcs a b z c d e => exact ⟨_, _, rfl, a, b, z, c, d, e⟩
theorem Rd.iset_inv {h : Heap} {v : Value} {l : List Int} (r : Rd prog w X h v (.iset l)) : ∃ a n, v = .ref a ∧ ¬ X a ∧ h.SetOf (intKind prog w) a (fun k => decide (k ∈ l)) n := by
  cases r with | iset a b => exact ⟨_, _, rfl, a, b⟩

theorem Gv.booltok {t : Sem Value} {b : Bool} (h : ∀ (Q : Value → Shared → Prop) (E : Value → Shared → Prop), Q (.bool b) { s with toks := s.toks + 1 } → wpAny (model prog w) A t Q E s) : Gv prog w A X t (.bool b) s :=
  Gv.tok (f := fun _ => .bool b) (fun _ _ _ => .bool _) h

theorem in_sound {va vb : Value} {a b : D} {r : Bool} (ra : Rd prog w X s.heap va a) (rb : Rd prog w X s.heap vb b) (h : inD a b = some r) : Gv prog w A X (compareOp .In va vb) (.bool r) s ∧ Gv prog w A X (compareOp .NotIn va vb) (.bool (!r)) s := by
  unfold inD at h
  split at h
  · obtain ⟨t, rfl⟩ := ra.str_inv; obtain ⟨u, rfl⟩ := rb.str_inv; cases h; exact ⟨Gv.bool fun _ _ q => SB.contains q, Gv.bool fun _ _ q => SB.notContains q⟩
  · obtain ⟨t, rfl⟩ := ra.int_inv
    obtain ⟨p, vs, rfl, _, lb, rb⟩ := rb.lst_inv
    simp only [Option.map_eq_some_iff] at h
    obtain ⟨ns, e, rfl⟩ := h
    have I := intsD_are e rb
    refine ⟨Gv.bool fun _ _ q => SeqAt.in_listAt _ lb.isList (fun y hy => ints_eqAt I y (by simpa using hy)) ?_, Gv.bool fun _ _ q => SeqAt.notIn_listAt _ lb.isList (fun y hy => ints_eqAt I y (by simpa using hy)) ?_⟩
    all_goals rw [List.any_toArray, ints_any I]; exact q
  · obtain ⟨t, rfl⟩ := ra.int_inv
    obtain ⟨p, vs, rfl, _, lb, rb⟩ := rb.tup_inv
    simp only [Option.map_eq_some_iff] at h
    obtain ⟨ns, e, rfl⟩ := h
    have I := intsD_are e rb
    refine ⟨Gv.bool fun _ _ q => SeqAt.in_tupleAt _ lb.isTuple (fun y hy => ints_eqAt I y (by simpa using hy)) ?_, Gv.bool fun _ _ q => SeqAt.notIn_tupleAt _ lb.isTuple (fun y hy => ints_eqAt I y (by simpa using hy)) ?_⟩
    all_goals rw [List.any_toArray, ints_any I]; exact q
  · obtain ⟨t, rfl⟩ := ra.int_inv
    obtain ⟨p, n, rfl, _, S⟩ := rb.iset_inv
    cases h
    exact ⟨Gv.booltok fun _ _ q => wpAny_inSet_of (by simp [intKind, Value.isInt]) (by rfl) S q, Gv.booltok fun _ _ q => wpAny_notInSet_of (by simp [intKind, Value.isInt]) (by rfl) S q⟩
  · obtain ⟨t, rfl⟩ := ra.int_inv
    obtain ⟨p, kvs, rfl, _, hp, _, S, ek, _⟩ := rb.dci_inv
    cases h
    rw [← valueAt_none ek]
    exact ⟨Gv.booltok fun _ _ q => wpAny_in_of (by simp [intKind, Value.isInt]) hp S.mapOf q, Gv.booltok fun _ _ q => wpAny_notIn_of (by simp [intKind, Value.isInt]) hp S.mapOf q⟩
  · cases h

theorem cmp_sound {op : CmpOp} {va vb : Value} {a b : D} {r : Bool} (hnb : NoneBooked s.heap) (hu : A.units + 100 < cLine) (ra : Rd prog w X s.heap va a) (rb : Rd prog w X s.heap vb b) (h : cmpD op a b = some r) : Gv prog w A X (compareOp op va vb) (.bool r) s := by
  unfold cmpD at h
  split at h
  · obtain ⟨t, rfl⟩ := ra.int_inv; obtain ⟨u, rfl⟩ := rb.int_inv; cases h; exact Gv.bool fun _ _ q => PySem.P.eq_int q
  · obtain ⟨t, rfl⟩ := ra.str_inv; obtain ⟨u, rfl⟩ := rb.str_inv; cases h; exact Gv.bool fun _ _ q => PyProof.Rows.eq_str q
  · obtain ⟨t, rfl, _⟩ := ra.flt_inv; obtain ⟨u, rfl, _⟩ := rb.flt_inv; cases h; exact Gv.bool fun _ _ q => AutoFloatOps.eq_0 q
  · have e0 := h
    have ra0 := ra
    have rb0 := rb
    obtain ⟨p, vs, rfl, _, la, ra⟩ := ra.lst_inv
    obtain ⟨q, ws, rfl, _, lb, rb⟩ := rb.lst_inv
    unfold eqD at h
    refine Gv.bool fun Q E hq => ?_
    show wpAny _ _ (richCompare .Eq _ _) Q E s
    simp only at h
    split at h
    · rename_i hl
      obtain ⟨g, hg, hr⟩ := all2_at (A := A.in1) (fun {v u a b r} e ra rb => eq_at hnb 8 (by simp; omega) e ra rb) h ra rb
      have := SeqAt.RcAt.lists (A := A) (s := s) (e := g) la.isList lb.isList (by simp [ra.length, rb.length, hl]) (by omega) (fun j h1 h2 => by simpa using hg j (by simpa using h1) (by simpa using h2))
      rw [List.size_toArray, hr] at this
      exact this _ _ _ _ hq
    · rename_i hl
      cases h
      exact SeqAt.RcAt.lists_lengths la.isList lb.isList (by simp [ra.length, rb.length, hl]) (by omega) _ _ _ _ hq
  · obtain ⟨t, rfl⟩ := ra.int_inv; obtain ⟨u, rfl⟩ := rb.int_inv; cases h; exact Gv.bool fun _ _ q => PySem.P.ne_int q
  · obtain ⟨t, rfl⟩ := ra.str_inv; obtain ⟨u, rfl⟩ := rb.str_inv; cases h; exact Gv.bool fun _ _ q => PyProof.Rows.ne_str q
  · obtain ⟨p, vs, rfl, _, la, ra⟩ := ra.lst_inv
    obtain ⟨q, ws, rfl, _, lb, rb⟩ := rb.lst_inv
    split at h
    · rename_i e1 e2
      cases h
      exact Gv.bool fun _ _ q => ke_ne_ints la.isList lb.isList (intsD_are e1 ra) (intsD_are e2 rb) (by omega) q
    · cases h
  · obtain ⟨p, ka, rfl, _, hp, _, da, ea, ra⟩ := ra.dci_inv
    obtain ⟨q, kb, rfl, _, hq, _, db, eb, rb⟩ := rb.dci_inv
    have l1 := congrArg List.length ea
    have l2 := congrArg List.length eb
    simp only [List.length_map] at l1 l2
    split at h
    · rename_i hl
      simp only [Option.map_eq_some_iff] at h
      obtain ⟨r', e, rfl⟩ := h
      refine Gv.bool fun _ _ z => keq_ne hp hq da db (by omega) (fun _ => hits_at hnb (by simp; omega) eb rb e ea ra) ?_
      have : (ka.length == kb.length) = true := by simp; omega
      rw [this]; exact z
    · rename_i hl
      cases h
      have : (ka.length == kb.length) = false := by simp; omega
      refine Gv.bool fun _ _ z => keq_ne (r := true) hp hq da db (by omega) (fun q => absurd q (by omega)) ?_
      rw [this]; exact z
  · obtain ⟨t, rfl⟩ := ra.int_inv; obtain ⟨u, rfl⟩ := rb.int_inv; cases h; exact Gv.bool fun _ _ q => PySem.P.lt_int q
  · obtain ⟨p, vs, rfl, _, la, ra⟩ := ra.tup_inv
    obtain ⟨q, ws, rfl, _, lb, rb⟩ := rb.tup_inv
    refine Gv.bool fun _ _ z => LtAt.tuples la.isTuple lb.isTuple (by omega) ?_ _ _ _ _ z
    have := lex_at (A := A.in1) hnb (by simp; omega) h ra rb
    simpa [ra.length, rb.length] using this
  · obtain ⟨t, rfl⟩ := ra.int_inv; obtain ⟨u, rfl⟩ := rb.int_inv; cases h; exact Gv.bool fun _ _ q => PySem.P.gt_int q
  · obtain ⟨t, rfl, _⟩ := ra.flt_inv; obtain ⟨u, rfl, _⟩ := rb.flt_inv; cases h; exact Gv.bool fun _ _ q => AutoFloatOps.le_0 q
  · exact (in_sound ra rb h).1
  · simp only [Option.map_eq_some_iff] at h
    obtain ⟨r', e, rfl⟩ := h
    exact (in_sound ra rb e).2
  · obtain rfl := rb.none_inv
    refine Gv.bool fun _ _ q => isNot_none ?_
    have : (!(va == Value.none)) = r := by
      cases ra <;> simp [notNone] at h <;> subst h <;> rfl
    rw [this]; exact q
  · cases h
end
end Mine
set_option Elab.async false
set_option maxRecDepth 4000
namespace Mine
open PySem PySem.Calls PyProof.Rows PySem.W PySem.Spec

def idxD : D → D → Option D
  | .str s, .int i => if sm i then (Txt.charAt s i).map fun c => .str ⟨#[c]⟩ else none
  | .tup l, .int i => if sm i then (seqIndex? i l.length).bind (l[·]?) else none
  | .lst l, .int i => if sm i then (seqIndex? i l.length).bind (l[·]?) else none
  | .dci l, .int i => dget l i
  | .dcs l, .str s => dget l s
  | _, _ => none

section
variable {prog : Program} {w : World} {A : Around} {X : Addr → Prop} {s : Shared} {env : Env}

theorem wpAny_subscripted {sl : Expr} {o i : Value} {Q E : Value → Shared → Prop} (h : wpAny (model prog w) A (getItem o i) Q E s) : wpAny (model prog w) A (subscripted sl false o i) Q E s := by
  unfold subscripted
  split
  · exact wpAny_operating h
  · rename_i h; cases h
  · exact wpAny_operating h
theorem wpAny_Subscript_any {value sl : Expr} {pos : Pos} {Q E : Value → Shared → Prop}
    (h : wpAny (model prog w) A (eval value env) (fun o s₁ => wpAny (model prog w) A (eval sl env) (fun i s₂ => SubscriptOn (model prog w) A o i Q E s₂) E s₁) E s) :
    wpAny (model prog w) A (eval (.Subscript value sl pos) env) Q E s := by
  rw [eval_Subscript]
  refine wpAny_bind (wpAny_mono h (fun o s₁ h₁ => wpAny_bind (wpAny_holding (wpAny_mono h₁ (fun i s₂ h₂ => wpAny_bind (wpAny_standAt ?_)) fun _ _ x => x))) fun _ _ x => x)
  obtain ⟨T, id, hl, hT, hg⟩ := h₂
  refine wpAny_bind ?_
  rw [getitemInPython_of_ne hT.not_modules]
  refine wpAny_bind (wpAny_specialOf hT hl ?_)
  refine wpAny_pure (wpAny_bind (wpAny_subscripted (wpAny_mono hg (fun r s₃ h₃ => wpAny_bind (wpAny_letTemporaryGo (wpAny_pure h₃))) fun _ _ x => x)))

theorem sm_i63 {i : Int} (h : sm i = true) : -2 ^ 63 ≤ i ∧ i < 2 ^ 63 := by
  have := sm_lt h
  omega

/-- a getitem: on what, and what it gives -/
def GvSub (prog : Program) (w : World) (A : Around) (X : Addr → Prop) (o i : Value) (d : D) (s : Shared) : Prop :=
  0 < s.toks → ∀ (Q : Value → Shared → Prop) (E : Value → Shared → Prop), (∀ v h' tk, s.toks ≤ tk → Old s.heap h' → Rd prog w X h' v d → Q v { s with heap := h', toks := tk }) → SubscriptOn (model prog w) A o i Q E s

theorem list_idx {p : Addr} {vs : List Value} {i : Int} {u : Tok} {k : Nat} {v : Value} {Q E : Value → Shared → Prop} (la : Ls s.heap p vs) (hi : sm i = true) (hk : seqIndex? i vs.length = some k) (ev : vs[k]? = some v) (hq : Q v s) :
    wpAny (model prog w) A (getItem (.ref p) (.int i u)) Q E s := by
  have := sm_i63 hi
  unfold seqIndex? at hk
  by_cases h0 : i < 0
  · simp only [if_pos h0] at hk
    split at hk
    · rename_i hh
      cases hk
      simp at hh
      exact wpAny_getItem_list_neg (items := vs.toArray) (x := v) la.isList h0 (by simp; omega) (by omega) (by simpa using ev) hq
    · cases hk
  · simp only [if_neg h0] at hk
    split at hk
    · cases hk
      exact wpAny_getItem_list (items := vs.toArray) (x := v) la.isList (by omega) (by omega) (by simpa using ev) hq
    · cases hk

theorem idx_sound {va vb : Value} {a b d : D} (ra : Rd prog w X s.heap va a) (rb : Rd prog w X s.heap vb b) (h : idxD a b = some d) : GvSub prog w A X va vb d s := by
  unfold idxD at h
  split at h
  · obtain ⟨t, rfl⟩ := ra.str_inv; obtain ⟨u, rfl⟩ := rb.int_inv
    split at h
    · rename_i hi
      simp only [Option.map_eq_some_iff] at h
      obtain ⟨c, hc, rfl⟩ := h
      have := sm_i63 hi
      refine fun h0 Q E hQ => ⟨"str", _, F.slot_str_getitem.lookup, typeIs_str _ _ _, ?_⟩
      have hc' := hc
      unfold Txt.charAt at hc'
      refine P.getItem_str (c := c) (by simp; omega) hc' (hQ _ s.heap _ (Nat.le_succ _) (fun _ _ e => e) (.str _ _))
    · cases h
  · obtain ⟨p, vs, rfl, _, la, ra⟩ := ra.tup_inv; obtain ⟨u, rfl⟩ := rb.int_inv
    split at h
    · rename_i hi
      simp only [Option.bind_eq_some_iff] at h
      obtain ⟨k, hk, e⟩ := h
      obtain ⟨v, ev, rv⟩ := ra.get e
      have := sm_i63 hi
      obtain ⟨_, n, lo⟩ := la
      refine fun h0 Q E hQ => ⟨"tuple", _, F.slot_tuple_getitem.lookup, ⟨_, lo, rfl⟩, ?_⟩
      refine PyProof.Rows.getItem_tuple (items := vs.toArray) ⟨_, lo, rfl, n, rfl⟩ (by omega) (by omega) (j := k) (by rw [List.size_toArray, ra.length]; exact hk) (by simpa using ev) (hQ _ s.heap _ (Nat.le_refl _) (fun _ _ e => e) rv)
    · cases h
  · obtain ⟨p, vs, rfl, _, la, ra⟩ := ra.lst_inv; obtain ⟨u, rfl⟩ := rb.int_inv
    split at h
    · rename_i hi
      simp only [Option.bind_eq_some_iff] at h
      obtain ⟨k, hk, e⟩ := h
      obtain ⟨v, ev, rv⟩ := ra.get e
      rw [← ra.length] at hk
      exact fun h0 Q E hQ => ⟨"list", _, F.slot_list_getitem.lookup, la.isList.typeIs, list_idx la hi hk ev (hQ v s.heap _ (Nat.le_refl _) (fun _ _ e => e) rv)⟩
    · cases h
  · obtain ⟨p, ka, rfl, _, hp, _, da, ea, ra⟩ := ra.dci_inv; obtain ⟨u, rfl⟩ := rb.int_inv
    obtain ⟨v, ev, rv⟩ := valueAt_rd ea ra h
    exact fun h0 Q E hQ => ⟨"dict", _, F.slot_dict_getitem.lookup, da.typeIs, wpAny_getItem_of (by simp [intKind, Value.isInt]) da.mapOf ev (hQ _ s.heap _ (Nat.le_succ _) (fun _ _ e => e) rv)⟩
  · obtain ⟨p, ka, rfl, _, hp, _, da, ea, ra⟩ := ra.dcs_inv; obtain ⟨u, rfl⟩ := rb.str_inv
    obtain ⟨v, ev, rv⟩ := valueAt_rd ea ra h
    exact fun h0 Q E hQ => ⟨"dict", _, F.slot_dict_getitem.lookup, da.typeIs, wpAny_getItem_of (by simp [PySem.strKind, Value.isStrOf]) da.mapOf ev (hQ _ s.heap _ (Nat.le_succ _) (fun _ _ e => e) rv)⟩
  · cases h
end
end Mine
set_option Elab.async false
set_option maxRecDepth 4000
namespace Mine
open PySem PySem.Calls PyProof.Rows PySem.W PySem.Spec

def AOk (k : Nat) (A : Around) : Prop := A.handled = none ∧ A.depth + k < recursionLimit ∧ A.units + 200 + 10 * k < cLine

def fltsD : List D → Option (List UInt64)
  | [] => some []
  | .flt i :: r => (fltsD r).map (i :: ·)
  | _ => none
def strsD : List D → Option (List Str)
  | [] => some []
  | .str i :: r => (strsD r).map (i :: ·)
  | _ => none
def boolsD : List D → Option (List Bool)
  | [] => some []
  | .bool i :: r => (boolsD r).map (i :: ·)
  | _ => none
def gtF (a b : UInt64) : Bool := Float64.cmp b a == some Ordering.lt
def ltF (a b : UInt64) : Bool := Float64.cmp a b == some Ordering.lt
/-- a call of a built-in -/
def fnD : Value → List D → Option D
  | .builtin id, l => match id, l with
    | "len", [.str x] => if x.length ≤ sizeLine then some (.int x.length) else none
    | "len", [.lst x] => if x.length ≤ sizeLine then some (.int x.length) else none
    | "ord", [.str x] => match x.cps.toList with | [c] => some (.int c) | _ => none
    | "chr", [.int i] => if 0 ≤ i ∧ i ≤ 0x10FFFF then some (.str ⟨#[i.toNat]⟩) else none
    | "abs", [.int i] => some (.int (if i < 0 then -i else i))
    | "max", [.flt a, .flt b, .flt c] => some (.flt (if gtF b a then (if gtF c b then c else b) else (if gtF c a then c else a)))
    | "min", [.flt a, .flt b, .flt c] => some (.flt (if ltF b a then (if ltF c b then c else b) else (if ltF c a then c else a)))
    | "sum", [.lst l] => match intsD l with
      | some ns => some (.int ns.sum)
      | none => match fltsD l with
        | some bs => if bs.length = 0 then none else some (.fw (Flt.sumOf bs))
        | none => none
    | "sum", [.tup l] => (intsD l).map fun ns => .int ns.sum
    | _, _ => none
  | .type id, l => match id, l with
    | "int", [.flt x] => match Float64.decode x with
      | .fin sg m e => some (.int (Float64.truncOf sg m e))
      | _ => none
    | _, _ => none
  | _, _ => none

section
variable {prog : Program} {w : World} {A : Around} {X : Addr → Prop} {s : Shared}

theorem fltsD_are {h : Heap} : ∀ {l : List D} {vs : List Value} {ns : List UInt64}, fltsD l = some ns → RdL prog w X h vs l → Flt.FloatsAre vs ns
  | [], _, _, e, .nil => by cases e; exact .nil
  | .flt i :: l, _, ns, e, .cons r rs => by
    simp only [fltsD, Option.map_eq_some_iff] at e
    obtain ⟨ns', e, rfl⟩ := e
    obtain ⟨t, rfl, _⟩ := r.flt_inv
    exact .cons _ _ (fltsD_are e rs)
theorem strsD_are {h : Heap} : ∀ {l : List D} {vs : List Value} {ns : List Str}, strsD l = some ns → RdL prog w X h vs l → StrsAre vs ns
  | [], _, _, e, .nil => by cases e; exact .nil
  | .str i :: l, _, ns, e, .cons r rs => by
    simp only [strsD, Option.map_eq_some_iff] at e
    obtain ⟨ns', e, rfl⟩ := e
    obtain ⟨t, rfl⟩ := r.str_inv
    exact .cons _ _ (strsD_are e rs)

theorem sumInts_ints : ∀ (ns : List Int) (a : Int), Num.sumInts a (ns.map .int) = some (.int (a + ns.sum))
  | [], a => by simp [Num.sumInts]
  | n :: ns, a => by
    have hf : ∀ (ns : List Int) (a : Int), Num.foldFrom Num.add (.int a) (ns.map .int) = some (.int (a + ns.sum)) := by
      intro ns
      induction ns with
      | nil => intro a; simp [Num.foldFrom]
      | cons n ns ih =>
        intro a
        simp only [List.map_cons, Num.foldFrom]
        show (Num.add (.int a) (.int n)).bind _ = _
        simp only [Num.add, Option.bind_some, ih, List.sum_cons]
        rw [Int.add_assoc]
    simp only [List.map_cons, Num.sumInts, sumInts_ints ns, hf, List.sum_cons, Int.add_assoc]
    split <;> rfl
theorem NumsInt {vs : List Value} {ns : List Int} (h : IntsAre vs ns) : ∀ (i : Nat) (v : Value), vs[i]? = some v → ∃ d, (ns.map WData.int)[i]? = some d ∧ Flt.NumIs v d := by
  induction h with
  | nil => intro i v h; simp at h
  | cons n t _ ih =>
    intro i v h
    cases i with
    | zero => simp at h; subst h; exact ⟨.int n, by simp, .int _ _⟩
    | succ i => simpa using ih i v (by simpa using h)
theorem NumsFlt {vs : List Value} {ns : List UInt64} (h : Flt.FloatsAre vs ns) : ∀ (i : Nat) (v : Value), vs[i]? = some v → ∃ d, (ns.map WData.float)[i]? = some d ∧ Flt.NumIs v d := by
  induction h with
  | nil => intro i v h; simp at h
  | cons n t _ ih =>
    intro i v h
    cases i with
    | zero => simp at h; subst h; exact ⟨.float n, by simp, .float _ _⟩
    | succ i => simpa using ih i v (by simpa using h)
theorem sum_any {l : Addr} {vs : List Value} {xs : List WData} {r : WData} (hh : A.handled = none) (hl : Ls s.heap l vs) (hlen : vs.length = xs.length) (hx : ∀ (i : Nat) (v : Value), vs[i]? = some v → ∃ d, xs[i]? = some d ∧ Flt.NumIs v d) (hr : Num.sumInts 0 xs = some r)
    {Q E : Value → Shared → Prop} (k : ∀ h' tk v, Flt.NumIs v r → Old s.heap h' → Q v { s with heap := h', toks := tk }) : wpAny (model prog w) A (call (.builtin "sum") [.ref l]) Q E s := by
  refine Flt.call_sum_walkF hr (Flt.iter_list_ hl.isList fun s₂ e st hfp hlI => ?_)
  subst e
  have W := (Walks.list (prog := prog) (w := w) (A := A.in1) hh _ l hlI vs.toArray).toS
  have hlen' : vs.toArray.size = xs.length := by simpa using hlen
  rw [hlen'] at W
  refine ⟨_, _, _, _, _, _, rfl, W, st, hfp, fun i v hP => hx i v (by simpa using hP), fun s' v hv hm => ?_⟩
  obtain ⟨hp, g, d, tk, os⟩ := s'
  have kp := Flt.kept_iter hm.heap
  have := k hp tk v hv kp
  have e1 : g = s.gens := hm.gens
  have e2 : d = s.drawn := hm.drawn
  have e3 : os = s.os := hm.os
  subst e1 e2 e3
  exact this

theorem sum_tup {l : Addr} {vs : List Value} {xs : List WData} {r : WData} (hh : A.handled = none) (hl : Tp s.heap l vs) (hlen : vs.length = xs.length) (hx : ∀ (i : Nat) (v : Value), vs[i]? = some v → ∃ d, xs[i]? = some d ∧ Flt.NumIs v d) (hr : Num.sumInts 0 xs = some r)
    {Q E : Value → Shared → Prop} (k : ∀ h' tk v, Flt.NumIs v r → Old s.heap h' → Q v { s with heap := h', toks := tk }) : wpAny (model prog w) A (call (.builtin "sum") [.ref l]) Q E s := by
  have hT := hl.isTuple
  have hlt : l < s.heap.objs.size := by obtain ⟨_, e, _⟩ := hT; exact Heap.lt_size e
  refine Flt.call_sum_walkF hr (wpAny_pyIter_tuple hT ?_)
  have W := (Walks.tuple (prog := prog) (w := w) (A := A.in1) hh s.heap.objs.size l (Nat.ne_of_lt hlt) vs.toArray).toS
  have hlen' : vs.toArray.size = xs.length := by simpa using hlen
  rw [hlen'] at W
  refine ⟨_, _, _, _, _, _, rfl, W, ⟨⟨_, Heap.get?_push_size _ rfl, rfl, rfl⟩, hT.push _⟩, fun b hb => ?_, fun i v hP => hx i v (by simpa using hP), fun s' v hv hm => ?_⟩
  · show b < (s.heap.push _).objs.size
    rw [Heap.size_push]
    rcases List.mem_cons.mp hb with rfl | hb
    · exact Nat.lt_succ_self _
    · rcases List.mem_cons.mp hb with rfl | hb
      · exact Nat.lt_succ_of_lt hlt
      · cases hb
  obtain ⟨hp, g, d, tk, os⟩ := s'
  have kp := Flt.kept_iter hm.heap
  have := k hp tk v hv kp
  have e1 : g = s.gens := hm.gens
  have e2 : d = s.drawn := hm.drawn
  have e3 : os = s.os := hm.os
  subst e1 e2 e3
  exact this

theorem best3 {bt : Nat → Nat → Bool} {a b c v : Value} (h : #[a, b, c][argBest bt 2]? = some v) : v = if bt 1 0 then (if bt 2 1 then c else b) else (if bt 2 0 then c else a) := by
  unfold argBest argBest argBest at h
  cases h1 : bt 1 0 <;> simp only [h1] at h
  · cases h2 : bt 2 0 <;> simp [h2] at h <;> simp [h]
  · cases h2 : bt 2 1 <;> simp [h2] at h <;> simp [h]
def fl3 (a b c : UInt64) (i : Nat) : UInt64 := match i with | 0 => a | 1 => b | _ => c
theorem fl3_at {a b c : UInt64} {t u x : Tok} {i : Nat} {v : Value} (h : #[Value.float a t, Value.float b u, Value.float c x][i]? = some v) : ∃ t, v = .float (fl3 a b c i) t := by
  match i, h with
  | 0, h => simp at h; exact ⟨_, h.symm⟩
  | 1, h => simp at h; exact ⟨_, h.symm⟩
  | 2, h => simp at h; exact ⟨_, h.symm⟩
  | n + 3, h => simp at h
theorem tup3 {a b c : Value} {items : Array Value} (e : items = #[a, b, c]) (hh : A.handled = none) {f : String} {op : CmpOp} {bt : Nat → Nat → Bool} {Q E : Value → Shared → Prop}
    (three : ∀ {Q' : Value → Shared → Prop}, wpAny (model prog w) A.in1 (pyIter (.ref s.heap.objs.size)) (fun it s₂ => ∃ I fp wr n P St bt, it = .ref I ∧ Walks prog w A.in1 I fp wr n P St ∧ St 0 s₂.heap ∧ (∀ b ∈ fp, b < s₂.heap.objs.size) ∧ 0 < n ∧ CmpOf prog w A.in1 op P bt ∧
      ∀ v h' tk, P (argBest bt (n - 1)) v → (∀ b o, b ∉ wr → s₂.heap.get? b = some o → h'.get? b = some o) → Q' v { s₂ with heap := h', toks := tk }) E
      { s with heap := s.heap.push { cls := .type "tuple", data := .seq #[a, b, c] } } → wpAny (model prog w) A (call (.builtin f) [a, b, c]) Q' E s)
    (hc : CmpOf prog w A.in1 op (fun i v => items[i]? = some v) bt) (h : ∀ h' tk, Old s.heap h' → Q (if bt 1 0 then (if bt 2 1 then c else b) else (if bt 2 0 then c else a)) { s with heap := h', toks := tk }) :
    wpAny (model prog w) A (call (.builtin f) [a, b, c]) Q E s := by
  subst e
  have hT : (s.heap.push { cls := .type "tuple", data := .seq #[a, b, c] }).IsTuple s.heap.objs.size #[a, b, c] := ⟨_, Heap.get?_push_size _ rfl, rfl, 0, rfl⟩
  refine three (wpAny_pyIter_tuple hT ?_)
  have hsz : (s.heap.push { cls := .type "tuple", data := .seq #[a, b, c] }).objs.size = s.heap.objs.size + 1 := Heap.size_push ..
  refine ⟨_, [_, s.heap.objs.size], [_], _, _, _, bt, rfl, Walks.tuple (A := A.in1) hh _ s.heap.objs.size (by rw [hsz]; exact Nat.ne_of_lt (Nat.lt_succ_self _)) #[a, b, c],
    ⟨⟨_, Heap.get?_push_size _ rfl, rfl, rfl⟩, hT.push _⟩, fun d hd => ?_, by simp, hc, fun v h' tk hP hk => ?_⟩
  · show d < ((s.heap.push _).push _).objs.size
    rw [Heap.size_push, hsz]
    rcases List.mem_cons.mp hd with rfl | hd
    · rw [hsz]; exact Nat.lt_succ_self _
    · rcases List.mem_cons.mp hd with rfl | hd
      · exact Nat.lt_succ_of_lt (Nat.lt_succ_self _)
      · cases hd
  · have hold : Old s.heap h' := fun d o e => by
      refine hk d o (fun hm => ?_) (Heap.get?_push_of_some _ (Heap.get?_push_of_some _ e))
      rcases List.mem_cons.mp hm with e1 | hm
      · have := Heap.lt_size e; rw [e1, hsz] at this; exact Nat.lt_irrefl _ (Nat.lt_of_succ_lt this)
      · cases hm
    have := h h' tk hold
    rw [← best3 hP] at this
    exact this

theorem Gv.any {t : Sem Value} {d : D} (h : 0 < s.toks → ∀ (Q : Value → Shared → Prop) (E : Value → Shared → Prop), (∀ v h' tk, Old s.heap h' → (tk ≠ 0 → Rd prog w X h' v d) → Q v { s with heap := h', toks := tk }) → wpAny (model prog w) A t Q E s) : Gv prog w A X t d s :=
  fun h0 _ _ hQ => wpAny_with_toks (Nat.le_refl _) (h h0 _ _ fun v h' tk hk r le => hQ v h' tk le hk (r (Nat.ne_of_gt (Nat.lt_of_lt_of_le h0 le))))
theorem intsD_len : ∀ {l : List D} {ns : List Int}, intsD l = some ns → l.length = ns.length
  | [], _, e => by cases e; rfl
  | .int i :: l, ns, e => by
    simp only [intsD, Option.map_eq_some_iff] at e
    obtain ⟨ns', e, rfl⟩ := e
    simp [intsD_len e]
theorem fltsD_len : ∀ {l : List D} {ns : List UInt64}, fltsD l = some ns → l.length = ns.length
  | [], _, e => by cases e; rfl
  | .flt i :: l, ns, e => by
    simp only [fltsD, Option.map_eq_some_iff] at e
    obtain ⟨ns', e, rfl⟩ := e
    simp [fltsD_len e]
theorem chr_str {x : Str} {c : Nat} (h : x.cps.toList = [c]) : x = ⟨#[c]⟩ := by
  obtain ⟨⟨l⟩⟩ := x
  simp at h; subst h; rfl

theorem RdL.inv1 {h : Heap} {vs : List Value} {d : D} (r : RdL prog w X h vs [d]) : ∃ v, vs = [v] ∧ Rd prog w X h v d := by
  cases r with | cons a b => cases b; exact ⟨_, rfl, a⟩
theorem RdL.inv3 {h : Heap} {vs : List Value} {d e f : D} (r : RdL prog w X h vs [d, e, f]) : ∃ v u x, vs = [v, u, x] ∧ Rd prog w X h v d ∧ Rd prog w X h u e ∧ Rd prog w X h x f := by
  cases r with | cons a b => cases b with | cons b c => cases c with | cons c d => cases d; exact ⟨_, _, _, rfl, a, b, c⟩

theorem fn_sound {f : Value} {vs : List Value} {ds : List D} {d : D} (hh : A.handled = none) (r : RdL prog w X s.heap vs ds) (h : fnD f ds = some d) : Gv prog w A X (call f vs) d s := by
  unfold fnD at h
  split at h
  · split at h
    · obtain ⟨v, rfl, r1⟩ := r.inv1
      obtain ⟨t, rfl⟩ := r1.str_inv
      split at h
      · rename_i hz
        cases h
        exact Gv.any fun _ Q E hQ => PySem.P.len_str (by simp only [sizeLine] at hz; omega) (hQ _ s.heap _ (fun _ _ e => e) fun _ => .int _ _)
      · cases h
    · obtain ⟨v, rfl, r1⟩ := r.inv1
      obtain ⟨a, vs, rfl, _, la, ra⟩ := r1.lst_inv
      split at h
      · rename_i hz
        cases h
        refine Gv.any fun _ Q E hQ => call_len_list la.isList (by simp only [sizeLine] at hz; rw [List.size_toArray, ra.length]; omega) ?_
        rw [List.size_toArray, ra.length]
        exact hQ _ s.heap _ (fun _ _ e => e) fun _ => .int _ _
      · cases h
    · obtain ⟨v, rfl, r1⟩ := r.inv1
      obtain ⟨t, rfl⟩ := r1.str_inv
      split at h
      · rename_i hc
        cases h
        rw [chr_str hc]
        exact Gv.any fun _ Q E hQ => PySem.P.ord_of_char (hQ _ s.heap _ (fun _ _ e => e) fun _ => .int _ _)
      · cases h
    · obtain ⟨v, rfl, r1⟩ := r.inv1
      obtain ⟨t, rfl⟩ := r1.int_inv
      split at h
      · rename_i hc
        cases h
        exact Gv.any fun h0 Q E hQ => PySem.P.chr_of_int (by simp; omega) (hQ _ s.heap _ (fun _ _ e => e) fun _ => .str _ _)
      · cases h
    · obtain ⟨v, rfl, r1⟩ := r.inv1
      obtain ⟨t, rfl⟩ := r1.int_inv
      cases h
      exact Gv.any fun _ Q E hQ => call_abs_int fun u tk => hQ _ s.heap _ (fun _ _ e => e) fun _ => .int _ _
    · obtain ⟨v, u, x, rfl, r1, r2, r3⟩ := r.inv3
      obtain ⟨t1, rfl, n1⟩ := r1.flt_inv
      obtain ⟨t2, rfl, n2⟩ := r2.flt_inv
      obtain ⟨t3, rfl, n3⟩ := r3.flt_inv
      cases h
      rename_i a b c
      refine Gv.any fun _ Q E hQ => tup3 rfl hh (op := .Gt) (bt := fun i j => gtF (fl3 a b c i) (fl3 a b c j)) (fun q => call_max_three q) (fun i j vi vj s Q E hi hj hq => ?_) fun h' tk hk => hQ _ h' tk hk fun _ => ?_
      · obtain ⟨t, rfl⟩ := fl3_at hi
        obtain ⟨u, rfl⟩ := fl3_at hj
        exact AutoFloatOps.gt_0 (by rw [Flt.cmp_gt]; exact hq)
      · simp only [fl3]
        cases gtF b a <;> simp only [Bool.false_eq_true, if_false, if_true]
        · cases gtF c a <;> simp only [Bool.false_eq_true, if_false, if_true]
          · exact .flt _ _ n1
          · exact .flt _ _ n3
        · cases gtF c b <;> simp only [Bool.false_eq_true, if_false, if_true]
          · exact .flt _ _ n2
          · exact .flt _ _ n3
    · obtain ⟨v, u, x, rfl, r1, r2, r3⟩ := r.inv3
      obtain ⟨t1, rfl, n1⟩ := r1.flt_inv
      obtain ⟨t2, rfl, n2⟩ := r2.flt_inv
      obtain ⟨t3, rfl, n3⟩ := r3.flt_inv
      cases h
      rename_i a b c
      refine Gv.any fun _ Q E hQ => tup3 rfl hh (op := .Lt) (bt := fun i j => ltF (fl3 a b c i) (fl3 a b c j)) (fun q => call_min_three q) (fun i j vi vj s Q E hi hj hq => ?_) fun h' tk hk => hQ _ h' tk hk fun _ => ?_
      · obtain ⟨t, rfl⟩ := fl3_at hi
        obtain ⟨u, rfl⟩ := fl3_at hj
        exact AutoFloatOps.lt_0 hq
      · simp only [fl3]
        cases ltF b a <;> simp only [Bool.false_eq_true, if_false, if_true]
        · cases ltF c a <;> simp only [Bool.false_eq_true, if_false, if_true]
          · exact .flt _ _ n1
          · exact .flt _ _ n3
        · cases ltF c b <;> simp only [Bool.false_eq_true, if_false, if_true]
          · exact .flt _ _ n2
          · exact .flt _ _ n3
    · obtain ⟨v, rfl, r1⟩ := r.inv1
      obtain ⟨a, vs, rfl, _, la, ra⟩ := r1.lst_inv
      split at h
      · rename_i ns hn
        cases h
        have I := intsD_are hn ra
        refine Gv.any fun _ Q E hQ => sum_any hh la (xs := ns.map .int) (by rw [List.length_map, I.length]) (NumsInt I) (sumInts_ints _ _) fun h' tk v hv hk => hQ _ h' tk hk fun _ => ?_
        cases hv; rw [Int.zero_add]; exact .int _ _
      · split at h
        · rename_i bs hb
          split at h
          · cases h
          · rename_i hz
            cases h
            have I := fltsD_are hb ra
            refine Gv.any fun _ Q E hQ => sum_any hh la (xs := bs.map .float) (by rw [List.length_map, I.length]) (NumsFlt I) (Flt.sumInts_map hz) fun h' tk v hv hk => hQ _ h' tk hk fun _ => ?_
            cases hv; exact .fw _ _
        · cases h
    · obtain ⟨v, rfl, r1⟩ := r.inv1
      obtain ⟨a, vs, rfl, _, la, ra⟩ := r1.tup_inv
      simp only [Option.map_eq_some_iff] at h
      obtain ⟨ns, hn, rfl⟩ := h
      have I := intsD_are hn ra
      refine Gv.any fun _ Q E hQ => sum_tup hh la (xs := ns.map .int) (by rw [List.length_map, I.length]) (NumsInt I) (sumInts_ints _ _) fun h' tk v hv hk => hQ _ h' tk hk fun _ => ?_
      cases hv; rw [Int.zero_add]; exact .int _ _
    · cases h
  · split at h
    · obtain ⟨v, rfl, r1⟩ := r.inv1
      obtain ⟨t, rfl, _⟩ := r1.flt_inv
      split at h
      · rename_i sg m e hd
        cases h
        exact Gv.any fun _ Q E hQ => call_int_float hd (hQ _ s.heap _ (fun _ _ e => e) fun _ => .int _ _)
      · cases h
    · cases h
  · cases h
end
end Mine
set_option Elab.async false
set_option maxRecDepth 4000
namespace Mine
open PySem PySem.Calls PyProof.Rows PySem.W PySem.Spec

/-- a tree gives something that reads so, and spoils nothing -/
def Gs {α : Type} (prog : Program) (w : World) (A : Around) (t : Sem α) (R : α → Heap → Prop) (s : Shared) : Prop :=
  0 < s.toks → ∀ (Q : α → Shared → Prop) (E : Value → Shared → Prop), (∀ v h' tk, s.toks ≤ tk → Old s.heap h' → R v h' → Q v { s with heap := h', toks := tk }) → wpAny (model prog w) A t Q E s

section
variable {prog : Program} {w : World} {A : Around} {X : Addr → Prop} {s : Shared} {α β : Type}

theorem Gv.gs {t : Sem Value} {d : D} (h : Gv prog w A X t d s) : Gs prog w A t (fun v h => Rd prog w X h v d) s := h
theorem Gs.gv {t : Sem Value} {d : D} (h : Gs prog w A t (fun v h => Rd prog w X h v d) s) : Gv prog w A X t d s := h
theorem Gs.bind {t : Sem α} {f : α → Sem β} {R : α → Heap → Prop} {R' : β → Heap → Prop} (h : Gs prog w A t R s)
    (k : ∀ a h' tk, Old s.heap h' → R a h' → Gs prog w A (f a) R' { s with heap := h', toks := tk }) : Gs prog w A (t >>= f) R' s := fun h0 Q E hQ =>
  wpAny_bind (h h0 _ E fun a h' tk ht ho r => k a h' tk ho r (Nat.lt_of_lt_of_le h0 ht) Q E fun b h₂ tk₂ ht₂ ho₂ r₂ => hQ b h₂ tk₂ (Nat.le_trans ht ht₂) (fun x o e => ho₂ x o (ho x o e)) r₂)
theorem Gs.pure {a : α} {R : α → Heap → Prop} (r : R a s.heap) : Gs prog w A (pure a : Sem α) R s := fun _ _ _ hQ => wpAny_pure (hQ a s.heap s.toks (Nat.le_refl _) (fun _ _ e => e) r)
theorem Gs.holding {t : Sem α} {vs : List Value} {R : α → Heap → Prop} (h : Gs prog w A t R s) : Gs prog w A (holding vs t) R s := fun h0 Q E hQ => wpAny_holding (h h0 Q E hQ)
theorem Gs.operate {t : Sem Value} {vs : List Value} {R : Value → Heap → Prop} (h : Gs prog w A t R s) : Gs prog w A (operate vs t) R s := fun h0 Q E hQ => wpAny_operateT (h h0 Q E hQ)
theorem Gs.standAt {f : Sem α} {p : Pos} {R : α → Heap → Prop} (h : Gs prog w A f R s) : Gs prog w A (standAt p >>= fun _ => f) R s := fun h0 Q E hQ => wpAny_bind (wpAny_standAt (h h0 Q E hQ))
theorem Gs.rule {f : Sem α} {n : String} {R : α → Heap → Prop} (h : Gs prog w A f R s) : Gs prog w A (PySem.rule n >>= fun _ => f) R s := fun h0 Q E hQ => wpAny_bind (wpAny_rule (h h0 Q E hQ))
theorem Gs.release {f : Sem α} {vs ks : List Value} {R : α → Heap → Prop} (h : Gs prog w A f R s) : Gs prog w A (PySem.release vs ks >>= fun _ => f) R s := fun h0 Q E hQ => wpAny_bind (wpAny_release (h h0 Q E hQ))
theorem Gs.mono {t : Sem α} {R R' : α → Heap → Prop} (h : Gs prog w A t R s) (k : ∀ a h, R a h → R' a h) : Gs prog w A t R' s := fun h0 Q E hQ => h h0 Q E fun v h' tk ht ho r => hQ v h' tk ht ho (k v h' r)

theorem Rd.old {h h' : Heap} {v : Value} {d : D} (r : Rd prog w X h v d) (k : Old h h') : Rd prog w X h' v d := r.mono (fun _ q => q) fun b o _ e => k b o e
theorem RdL.old {h h' : Heap} {v : List Value} {d : List D} (r : RdL prog w X h v d) (k : Old h h') : RdL prog w X h' v d := r.mono (fun _ q => q) fun b o _ e => k b o e
theorem Gs.truthy {b : Bool} : Gs prog w A (truthy (.bool b)) (fun x _ => x = b) s := fun _ _ _ hQ => wpAny_truthy_bool (hQ b s.heap s.toks (Nat.le_refl _) (fun _ _ e => e) rfl)

/-- the call of a method: what it says -/
def methD (name : Str) : D → List D → Option D
  | .str x, l => if name = "join" then match l with
      | [.lst l] => match strsD l with
        | some ys => if x.length ≤ 16 ∧ (ys.map (·.length)).sum + ys.length ≤ 1048576 then some (.str (Txt.join x ys)) else none
        | none => none
      | _ => none
    else if name = "lower" then match l with
      | [] => if (Txt.lower x).length ≤ 1000 then some (.str (Txt.lower x)) else none
      | _ => none
    else none
  | .dci kvs, l => if name = "get" then match l with
      | [.int k] => some ((dget kvs k).getD .none)
      | _ => none
    else none
  | .lst xs, l => if name = "count" then match l with
      | [.bool b] => (boolsD xs).map fun bs => .int (bs.count b : Nat)
      | _ => none
    else none
  | _, _ => none

def MethOk (prog : Program) (w : World) (A : Around) (X : Addr → Prop) (name : Str) (ov : Value) (ds : List D) (d : D) (s : Shared) : Prop :=
  ∃ T id, PlainAttrs T ∧ Slot T name id ∧ typeOf (.builtin id) = pure (.type "method_descriptor") ∧ s.TypeIs ov T ∧ (∀ a, ov = .ref a → ∃ ob, s.heap.get? a = some ob ∧ ob.dict = none) ∧
    ∀ h' tk vs, Old s.heap h' → RdL prog w X h' vs ds → Gv prog w A X (call (.builtin id) (ov :: vs)) d { s with heap := h', toks := tk }

theorem bools_eqAt {A : Around} {b : Bool} {h : Heap} : ∀ {vs : List Value} {l : List D} {ns : List Bool}, boolsD l = some ns → RdL prog w X h vs l →
    (∀ y, y ∈ vs → SeqAt.EqAt A s y (.bool b) (match y with | .bool j => j == b | _ => false)) ∧ vs.countP (fun y => match y with | .bool j => j == b | _ => false) = ns.count b
  | _, [], _, e, .nil => by cases e; exact ⟨fun _ h => (by cases h), by simp⟩
  | _, .bool i :: l, ns, e, .cons r rs => by
    simp only [boolsD, Option.map_eq_some_iff] at e
    obtain ⟨ns', e, rfl⟩ := e
    obtain rfl := r.bool_inv
    obtain ⟨h1, h2⟩ := bools_eqAt e rs
    refine ⟨fun y hy => ?_, ?_⟩
    · rcases List.mem_cons.mp hy with rfl | hy
      · exact SeqAt.EqAt.bool_bool _ _
      · exact h1 y hy
    · rw [List.countP_cons, h2, List.count_cons]

theorem meth_sound {name : Str} {ov : Value} {o d : D} {ds : List D} (r : Rd prog w X s.heap ov o) (h : methD name o ds = some d) : MethOk prog w A X name ov ds d s := by
  unfold methD at h
  split at h
  · obtain ⟨t, rfl⟩ := r.str_inv
    split at h
    · rename_i hn; subst hn
      split at h
      · split at h
        · rename_i ys hy
          split at h
          · rename_i hz
            cases h
            refine ⟨"str", _, F.plainAttrs_str, F.slot_str_join, F.type_str_join, typeIs_str _ _ _, fun a q => (by cases q), fun h' tk vs _ rv => ?_⟩
            obtain ⟨v, rfl, r1⟩ := rv.inv1
            obtain ⟨a, vs, rfl, _, la, ra⟩ := r1.lst_inv
            exact Gv.any fun _ Q E hQ => join_listW (s := { s with heap := h', toks := tk }) la.isList (by simpa using strsD_are hy ra) hz.1 hz.2 fun t' k => hQ _ h' k (fun _ _ e => e) fun _ => .str _ _
          · cases h
        · cases h
      · cases h
    · split at h
      · rename_i hn; subst hn
        split at h
        · split at h
          · rename_i hz
            cases h
            refine ⟨"str", _, F.plainAttrs_str, F.slot_str_lower, F.type_str_lower, typeIs_str _ _ _, fun a q => (by cases q), fun h' tk vs _ rv => ?_⟩
            cases rv
            exact Gv.any fun _ Q E hQ => SC.lower (s := { s with heap := h', toks := tk }) (by unfold Builtin.Str.tooLong; simp [sizeLine]; omega) (hQ _ h' _ (fun _ _ e => e) fun _ => .str _ _)
          · cases h
        · cases h
      · cases h
  · split at h
    · rename_i hn; subst hn
      split at h
      · rename_i k
        cases h
        have r0 := r
        obtain ⟨p, kvs, rfl, _, hp, _, S, ek, _⟩ := r.dci_inv
        have hT := S.typeIs
        refine ⟨"dict", _, F.plainAttrs_dict, F.slot_dict_get, F.type_dict_get, hT, fun a q => ?_, fun h' tk vs ho rv => ?_⟩
        · cases q; exact S.mapOf.noDict _ rfl
        obtain ⟨v, rfl, r1⟩ := rv.inv1
        obtain ⟨t, rfl⟩ := r1.int_inv
        obtain ⟨p', kvs, z, _, hp, _, S, ek, rv⟩ := (r0.old ho).dci_inv
        cases z
        refine Gv.any fun _ Q E hQ => call_meetsIn (s := { s with heap := h', toks := tk }) F.slot_dict_get S.typeIs F.entry_dict_get (F.args_dict_get_2 _ _) (meets_dict_get (intKind prog w) p (k := k) (by simp [intKind, Value.isInt]) hp) ⟨_, S.mapOf, hQ _ h' _ (fun _ _ e => e) fun _ => ?_⟩
        cases e : dget _ k with
        | some d =>
          obtain ⟨v, e', r⟩ := valueAt_rd ek rv e
          rw [e']; exact r
        | none =>
          have := valueAt_none (k := k) ek
          rw [e] at this
          have : valueAt kvs k = none := by simpa using this
          rw [this]; exact .none
      · cases h
    · cases h
  · split at h
    · rename_i hn; subst hn
      split at h
      · simp only [Option.map_eq_some_iff] at h
        obtain ⟨bs, hb, rfl⟩ := h
        have r0 := r
        obtain ⟨p, vs, rfl, _, la, ra⟩ := r.lst_inv
        refine ⟨"list", _, F.plainAttrs_list, F.slot_list_count, F.type_list_count, la.isList.typeIs, fun a q => ?_, fun h' tk vs ho rv => ?_⟩
        · cases q; obtain ⟨_, n, e⟩ := la; exact ⟨_, e, rfl⟩
        obtain ⟨v, rfl, r1⟩ := rv.inv1
        obtain rfl := r1.bool_inv
        obtain ⟨p', vs, z, _, la, ra⟩ := (r0.old ho).lst_inv
        cases z
        have hT := la.isList
        obtain ⟨_, n, la⟩ := la
        obtain ⟨h1, h2⟩ := bools_eqAt (A := A.in1) (s := { s with heap := h', toks := tk }) hb ra
        refine Gv.any fun _ Q E hQ => call_meets (s := { s with heap := h', toks := tk }) F.slot_list_count ⟨_, la, rfl⟩ F.entry_list_count (F.args_list_count_2 _ _) (SeqAt.list_countAt p vs.toArray n none #[] _ _) ⟨la, fun y hy => h1 y (by simpa using hy), ?_⟩
        rw [List.toList_toArray, h2]
        exact hQ _ h' _ (fun _ _ e => e) fun _ => .int _ _
      · cases h
    · cases h
  · cases h
end
end Mine
set_option Elab.async false
set_option maxRecDepth 4000
namespace Mine
open PySem PySem.Calls PyProof.Rows PySem.W PySem.Spec

abbrev Ev := Names → Rho → Expr → Option D
def constD : Const → Option D
  | .none => some .none
  | .bool b => some (.bool b)
  | .int i => some (.int i)
  | .float x => some (.flt x)
  | .str s => some (.str s)
  | _ => none
def nameD (G : Rho) (sc : Names) (ρ : Rho) (x : Str) : Option D := match sc.lookup x with
  | some .globalImplicit => G x
  | some .globalExplicit => none
  | some _ => ρ x
  | none => none
def evsD (f : Expr → Option D) : List Expr → Option (List D)
  | [] => some []
  | e :: r => match f e with
    | some d => match evsD f r with
      | some ds => some (d :: ds)
      | none => none
    | none => none
def callD (Φ : Addr → List D → Option D) : D → List D → Option D
  | .val (.ref a), ds => Φ a ds
  | .val v, ds => fnD v ds
  | _, _ => none

/-- what holds of the heap behind the top -/
structure TOk (hT : Heap) : Prop where
  nb : NoneBooked hT
  sysm : ∃ o, hT.get? sysModules = some o
  lim : hT.NoLimit

def GOk (prog : Program) (w : World) (hT : Heap) (G : Rho) : Prop := ∀ x d, G x = some d → ∃ v, GlobAt hT x v ∧ Rd prog w (fun a => hT.get? a = none) hT v d
def FnOk (prog : Program) (w : World) (hT : Heap) (k : Nat) (Φ : Addr → List D → Option D) : Prop :=
  ∀ f ds d, Φ f ds = some d → (∃ o fd, hT.get? f = some o ∧ o.data = .func fd) ∧
    ∀ A X s vs, AOk k A → (∀ a, X a → hT.get? a = none) → Live X s.heap → Old hT s.heap → RdL prog w X s.heap vs ds → Gv prog w A X (call (.ref f) vs) d s
structure Snd (prog : Program) (w : World) (hT : Heap) (k : Nat) (F : Ev) : Prop where
  star : ∀ sc ρ e p, F sc ρ (.Starred e p) = none
  set : ∀ sc ρ es n p, F sc ρ (.Set es n p) = none
  snd : ∀ sc ρ e d, F sc ρ e = some d → ∀ A X env h₀ s, AOk k A → EnvOk prog w hT env sc ρ X h₀ s.heap → Gv prog w A X (eval e env) d s

section
variable {prog : Program} {w : World} {hT : Heap} {k : Nat} {A : Around} {X : Addr → Prop} {s : Shared} {env : Env} {sc : Names} {ρ : Rho} {h₀ : Heap} {F : Ev} {G : Rho} {Φ : Addr → List D → Option D}

theorem NoneBooked.old {h h' : Heap} (x : NoneBooked h) (k : Old h h') : NoneBooked h' := let ⟨mc, a, b⟩ := x; ⟨mc, a.keeps k, b⟩

theorem const_sound {c : Const} {n : Nat} {p : Pos} {d : D} (h : constD c = some d) : Gv prog w A X (eval (.Constant c n p) env) d s := by
  rw [arm_eval_Constant]
  cases c <;> simp only [constD, Option.some.injEq, reduceCtorEq] at h <;> subst h
  · exact Gv.val (fun _ => .none) fun _ _ h => wpAny_pure h
  · exact Gv.val (fun _ => .bool _) fun _ _ h => wpAny_pure h
  · exact Gv.tok (f := fun t => .int _ t) (fun _ _ _ => .int _ _) fun _ _ h => wpAny_mkInt h
  · exact Gv.tok (f := fun t => .float _ t) (fun _ _ n => .flt _ _ n) fun _ _ h => wpAny_mkFloat h
  · exact Gv.tok (f := fun t => .str _ t) (fun _ _ _ => .str _ _) fun _ _ h => wpAny_mkText h

theorem glob_rd {x : Str} {d : D} (hG : GOk prog w hT G) (O : EnvOk prog w hT env sc ρ X h₀ s.heap) (e : G x = some d) : ∃ v, GlobAt s.heap x v ∧ Rd prog w X s.heap v d := by
  obtain ⟨v, a, r⟩ := hG x d e
  exact ⟨v, a.mono O.top, r.mono O.tX fun b o _ e => O.top b o e⟩

theorem name_sound {x : Str} {p : Pos} {d : D} (hG : GOk prog w hT G) (O : EnvOk prog w hT env sc ρ X h₀ s.heap) (h : nameD G sc ρ x = some d) :
    0 < s.toks → ∀ (Q : Value → Shared → Prop) (E : Value → Shared → Prop), (∀ v, Rd prog w X s.heap v d → Q v s) → wpAny (model prog w) A (eval (.Name x p) env) Q E s := by
  intro _ Q E hQ
  unfold nameD at h
  have nd : ∀ k, sc.lookup x = some k → (x == ("__debug__" : Str)) = false ∧ (x == ("__classdict__" : Str)) = false := fun k e => ⟨by simpa using (O.sane x k e).1, by simpa using (O.sane x k e).2⟩
  rw [arm_eval_Name]
  have go : ∀ k v, sc.lookup x = some k → At hT env k s.heap x v → Rd prog w X s.heap v d → wpAny (model prog w) A (do standAt p; if x == ("__debug__" : Str) then debugConstant else loadName env x) Q E s := fun k v e a r => by
    refine wpAny_bind (wpAny_standAt ?_)
    rw [(nd k e).1]
    exact wpAny_load_at O e (nd k e).2 a (hQ v r)
  split at h
  · rename_i e
    obtain ⟨v, a, r⟩ := hG x d h
    exact go _ v e a (r.mono O.tX fun b o _ e => O.top b o e)
  · cases h
  · rename_i k' h1 h2 e
    obtain ⟨v, a, r⟩ := O.vals x _ d e h1 h
    exact go _ v e a r
  · cases h

theorem bin_arm (S : Snd prog w hT k F) (hA : AOk k A) (O : EnvOk prog w hT env sc ρ X h₀ s.heap) {l r : Expr} {op : Operator} {p : Pos} {a b d : D} (ha : F sc ρ l = some a) (hb : F sc ρ r = some b) (h : binD op a b = some d) : Gv prog w A X (eval (.BinOp l op r p) env) d s := by
  rw [arm_eval_BinOp]
  refine Gs.gv (Gs.bind (S.snd _ _ _ _ ha _ _ _ _ _ hA O).gs fun va h₁ t₁ o₁ r₁ => Gs.bind (Gs.holding (S.snd _ _ _ _ hb _ _ _ _ _ hA (O.keeps o₁)).gs) fun vb h₂ t₂ o₂ r₂ => Gs.standAt (Gs.operate (bin_sound hA.1 ((O.keeps o₁).keeps o₂).live (r₁.old o₂) r₂ h).gs))
theorem usub_arm (S : Snd prog w hT k F) (hA : AOk k A) (O : EnvOk prog w hT env sc ρ X h₀ s.heap) {x : Expr} {p : Pos} {i : Int} (ha : F sc ρ x = some (.int i)) : Gv prog w A X (eval (.UnaryOp .USub x p) env) (.int (-i)) s := by
  rw [arm_eval_UnaryOp]
  refine Gs.gv (Gs.bind (S.snd _ _ _ _ ha _ _ _ _ _ hA O).gs fun va h₁ t₁ o₁ r₁ => Gs.standAt (Gs.holding ?_))
  obtain ⟨t, rfl⟩ := r₁.int_inv
  exact Gv.gs (Gv.tok (f := fun t => .int _ t) (fun _ _ _ => .int _ _) fun _ _ h => PySem.P.neg_int h)

theorem marked1 (S : Snd prog w hT k F) {op : CmpOp} {r : Expr} {b : D} (hb : F sc ρ r = some b) : behindInMarks op r = false := by
  cases r <;> try rfl
  rw [S.set] at hb; cases hb

theorem cmp_arm (hT' : TOk hT) (S : Snd prog w hT k F) (hA : AOk k A) (O : EnvOk prog w hT env sc ρ X h₀ s.heap) {l r : Expr} {op : CmpOp} {p : Pos} {a b : D} {c : Bool} (ha : F sc ρ l = some a) (hb : F sc ρ r = some b) (h : cmpD op a b = some c) :
    Gv prog w A X (eval (.Compare l [op] [r] p) env) (.bool c) s := fun h0 Q E hQ => by
  refine wpAny_Compare1 ?_ (marked1 S hb)
  exact S.snd _ _ _ _ ha _ _ _ _ _ hA O h0 _ _ fun va h₁ t₁ l₁ o₁ r₁ => S.snd _ _ _ _ hb _ _ _ _ { s with heap := h₁, toks := t₁ } hA (O.keeps o₁) (Nat.lt_of_lt_of_le h0 l₁) _ _ fun vb h₂ t₂ l₂ o₂ r₂ =>
    cmp_sound (s := { s with heap := h₂, toks := t₂ }) (NoneBooked.old hT'.nb fun b o e => o₂ b o (o₁ b o (O.top b o e))) (by have := hA.2.2; omega) (r₁.old o₂) r₂ h (Nat.lt_of_lt_of_le h0 (Nat.le_trans l₁ l₂)) _ _ fun v h₃ t₃ l₃ o₃ r₃ =>
      hQ v h₃ t₃ (Nat.le_trans l₁ (Nat.le_trans l₂ l₃)) (fun b o e => o₃ b o (o₂ b o (o₁ b o e))) r₃

theorem cmpG (hT' : TOk hT) (hA : AOk k A) {op : CmpOp} {va vb : Value} {a b : D} {c : Bool} (O : EnvOk prog w hT env sc ρ X h₀ s.heap) (ra : Rd prog w X s.heap va a) (rb : Rd prog w X s.heap vb b) (h : cmpD op a b = some c) :
    Gs prog w A (compareOp op va vb) (fun v _ => v = .bool c) s :=
  (cmp_sound (NoneBooked.old hT'.nb O.top) (by have := hA.2.2; omega) ra rb h).gs.mono fun _ _ r => r.bool_inv

/-- the chain of two -/
theorem chain_arm (hT' : TOk hT) (S : Snd prog w hT k F) (hA : AOk k A) (O : EnvOk prog w hT env sc ρ X h₀ s.heap) {l r r' : Expr} {op op' : CmpOp} {p : Pos} {a b b' : D} {c c' : Bool} (ha : F sc ρ l = some a) (hb : F sc ρ r = some b) (h : cmpD op a b = some c)
    (h' : c = true → F sc ρ r' = some b' ∧ cmpD op' b b' = some c') (hs : ∀ es n p, r' ≠ .Set es n p) :
    Gv prog w A X (eval (.Compare l [op, op'] [r, r'] p) env) (.bool (c && c')) s ∧ Gs prog w A (isTrue (.Compare l [op, op'] [r, r'] p) env (eval (.Compare l [op, op'] [r, r'] p) env)) (fun x _ => x = (c && c')) s := by
  have hm : behindInMarks op' r' = false := by
    cases r' <;> try rfl
    exact absurd rfl (hs _ _ _)
  have em : markedEach [op, op'] [r, r'] (evalEach [r, r'] env) = [eval r env, eval r' env] := by
    show [eval r env, markedBehindIn op' r' (eval r' env)] = _
    unfold markedBehindIn
    rw [hm]
  constructor
  · rw [arm_eval_Compare, em]
    refine Gs.gv (Gs.bind (S.snd _ _ _ _ ha _ _ _ _ _ hA O).gs fun va h₁ t₁ o₁ r₁ => Gs.bind (Gs.holding (S.snd _ _ _ _ hb _ _ _ _ _ hA (O.keeps o₁)).gs) fun vb h₂ t₂ o₂ r₂ => Gs.standAt
      (Gs.bind (Gs.holding (cmpG hT' hA ((O.keeps o₁).keeps o₂) (r₁.old o₂) r₂ h)) fun vc h₃ t₃ o₃ ec => Gs.release (Gs.bind (Gs.holding (R := fun x _ => x = c) (by subst ec; exact Gs.truthy)) fun vt h₄ t₄ o₄ et => ?_)))
    subst ec et
    have O₄ := (((O.keeps o₁).keeps o₂).keeps o₃).keeps o₄
    cases vt
    · exact Gs.pure (.bool _)
    · obtain ⟨e1, e2⟩ := h' rfl
      exact Gs.bind (Gs.holding (S.snd _ _ _ _ e1 _ _ _ _ _ hA O₄).gs) fun vb' h₅ t₅ o₅ r₅ => Gs.standAt (Gs.operate (cmp_sound (NoneBooked.old hT'.nb (O₄.keeps o₅).top) (by have := hA.2.2; omega) (((r₂.old o₃).old o₄).old o₅) r₅ e2).gs)
  · rw [arm_isTrue_Compare, em]
    refine Gs.bind (S.snd _ _ _ _ ha _ _ _ _ _ hA O).gs fun va h₁ t₁ o₁ r₁ => Gs.bind (Gs.holding (S.snd _ _ _ _ hb _ _ _ _ _ hA (O.keeps o₁)).gs) fun vb h₂ t₂ o₂ r₂ => Gs.standAt
      (Gs.bind (Gs.holding (cmpG hT' hA ((O.keeps o₁).keeps o₂) (r₁.old o₂) r₂ h)) fun vc h₃ t₃ o₃ ec => Gs.release (Gs.bind (Gs.holding (R := fun x _ => x = c) (by subst ec; exact Gs.truthy)) fun vt h₄ t₄ o₄ et => ?_))
    subst ec et
    have O₄ := (((O.keeps o₁).keeps o₂).keeps o₃).keeps o₄
    cases vt
    · exact Gs.pure rfl
    · obtain ⟨e1, e2⟩ := h' rfl
      refine Gs.bind (Gs.holding (S.snd _ _ _ _ e1 _ _ _ _ _ hA O₄).gs) fun vb' h₅ t₅ o₅ r₅ => Gs.standAt (Gs.bind (Gs.operate (cmpG hT' hA (O₄.keeps o₅) (((r₂.old o₃).old o₄).old o₅) r₅ e2)) fun vd h₆ t₆ o₆ ed => Gs.holding ?_)
      subst ed
      exact Gs.truthy.mono fun x _ e => by rw [e]; rfl

theorem cmp_test (hT' : TOk hT) (S : Snd prog w hT k F) (hA : AOk k A) (O : EnvOk prog w hT env sc ρ X h₀ s.heap) {l r : Expr} {op : CmpOp} {p : Pos} {a b : D} {c : Bool} (ha : F sc ρ l = some a) (hb : F sc ρ r = some b) (h : cmpD op a b = some c) (whole : Sem Value) :
    Gs prog w A (isTrue (.Compare l [op] [r] p) env whole) (fun x _ => x = c) s := by
  have em : markedEach [op] [r] (evalEach [r] env) = [eval r env] := by
    show [markedBehindIn op r (eval r env)] = _
    unfold markedBehindIn
    rw [marked1 S hb]
  rw [arm_isTrue_Compare, em]
  refine Gs.bind (S.snd _ _ _ _ ha _ _ _ _ _ hA O).gs fun va h₁ t₁ o₁ r₁ => Gs.bind (Gs.holding (S.snd _ _ _ _ hb _ _ _ _ _ hA (O.keeps o₁)).gs) fun vb h₂ t₂ o₂ r₂ => Gs.standAt
      (Gs.bind (Gs.operate (cmpG hT' hA ((O.keeps o₁).keeps o₂) (r₁.old o₂) r₂ h)) fun vc h₃ t₃ o₃ ec => Gs.holding ?_)
  subst ec
  exact Gs.truthy

/-- and, or, of two, as a value -/
theorem bool_arm (S : Snd prog w hT k F) (hA : AOk k A) (O : EnvOk prog w hT env sc ρ X h₀ s.heap) {x y : Expr} {op : BoolOp} {p : Pos} {a c : Bool} (ha : F sc ρ x = some (.bool a))
    (hb : (match op with | .And => if a then F sc ρ y else some (.bool false) | .Or => if a then some (.bool true) else F sc ρ y) = some (.bool c)) : Gv prog w A X (eval (.BoolOp op [x, y] p) env) (.bool c) s := by
  rw [arm_eval_BoolOp]
  show Gv prog w A X (boolOp p op [eval x env, eval y env]) _ s
  unfold boolOp
  refine Gs.gv (Gs.bind (S.snd _ _ _ _ ha _ _ _ _ _ hA O).gs fun va h₁ t₁ o₁ r₁ => Gs.standAt (Gs.bind (Gs.holding (R := fun x _ => x = a) (by obtain rfl := r₁.bool_inv; exact Gs.truthy)) fun vt h₂ t₂ o₂ et => ?_))
  subst et
  obtain rfl := r₁.bool_inv
  have O₂ := (O.keeps o₁).keeps o₂
  cases op <;> cases vt <;> simp only [if_true, Bool.false_eq_true, if_false, Option.some.injEq, D.bool.injEq] at hb <;> dsimp only
  · subst hb; exact Gs.pure (.bool _)
  · unfold boolOp; exact (S.snd _ _ _ _ hb _ _ _ _ _ hA O₂).gs
  · unfold boolOp; exact (S.snd _ _ _ _ hb _ _ _ _ _ hA O₂).gs
  · subst hb; exact Gs.pure (.bool _)

/-- the arguments, one after another -/
theorem evs_sound (S : Snd prog w hT k F) (hA : AOk k A) {pos : Pos} : ∀ {es : List Expr} {ds : List D} {s : Shared}, EnvOk prog w hT env sc ρ X h₀ s.heap → evsD (F sc ρ) es = some ds → Gs prog w A (spliced (backTo pos (starEach es env))) (fun vs h => RdL prog w X h vs ds) s
  | [], ds, s, O, h => by cases h; exact Gs.pure .nil
  | e :: es, ds, s, O, h => by
    unfold evsD at h
    split at h
    · rename_i d hd
      split at h
      · rename_i ds' hds
        cases h
        have hs : starEach (e :: es) env = (false, eval e env) :: starEach es env := by
          cases e <;> try rfl
          rw [S.star] at hd; cases hd
        rw [hs]
        show Gs prog w A (spliced ((false, eval e env) :: backTo pos (starEach es env))) _ s
        unfold spliced
        refine Gs.bind (S.snd _ _ _ _ hd _ _ _ _ _ hA O).gs fun v h₁ t₁ o₁ r₁ => ?_
        refine Gs.bind (R := fun x _ => x = [v]) (Gs.pure rfl) fun v' h₂ t₂ o₂ e₂ => ?_
        subst e₂
        refine Gs.bind (Gs.holding (evs_sound S hA ((O.keeps o₁).keeps o₂) hds)) fun vs h₃ t₃ o₃ r₃ => Gs.pure ?_
        exact .cons ((r₁.old o₂).old o₃) r₃
      · cases h
    · cases h

theorem notStar_any (S : Snd prog w hT k F) {pos : Pos} : ∀ {es : List Expr} {ds : List D}, evsD (F sc ρ) es = some ds → (backTo pos (starEach es env)).any (·.1) = false
  | [], _, _ => rfl
  | e :: es, ds, h => by
    unfold evsD at h
    split at h
    · rename_i d hd
      split at h
      · rename_i ds' hds
        have hs : starEach (e :: es) env = (false, eval e env) :: starEach es env := by
          cases e <;> try rfl
          rw [S.star] at hd; cases hd
        rw [hs]
        show (false || (backTo pos (starEach es env)).any (·.1)) = false
        rw [notStar_any S hds]; rfl
      · cases h
    · cases h

theorem tuple_arm (S : Snd prog w hT k F) (hA : AOk k A) (O : EnvOk prog w hT env sc ρ X h₀ s.heap) {es : List Expr} {n : Nat} {pos : Pos} {ds : List D} (h : evsD (F sc ρ) es = some ds) (hz : ds.length ≤ 1000) : Gv prog w A X (eval (.Tuple es n pos) env) (.tup ds) s := by
  rw [arm_eval_Tuple]
  refine Gs.gv (Gs.standAt (Gs.bind (evs_sound S hA O h) fun vs h₁ t₁ o₁ r₁ => ?_))
  have hl : vs.length ≤ sizeLine := by rw [r₁.length]; simp only [sizeLine]; omega
  exact Gv.gs (Gv.tuple r₁ (O.keeps o₁).live hl fun Q E hq => wpAny_newTuple hq hl)
theorem list_arm (S : Snd prog w hT k F) (hA : AOk k A) (O : EnvOk prog w hT env sc ρ X h₀ s.heap) {es : List Expr} {pos : Pos} {ds : List D} (h : evsD (F sc ρ) es = some ds) (hz : ds.length ≤ 1000) : Gv prog w A X (eval (.List es pos) env) (.lst ds) s := by
  rw [arm_eval_List]
  refine Gs.gv (Gs.standAt (Gs.bind (evs_sound S hA O h) fun vs h₁ t₁ o₁ r₁ => ?_))
  have hl : vs.length ≤ sizeLine := by rw [r₁.length]; simp only [sizeLine]; omega
  exact Gv.gs (Gv.list r₁ (O.keeps o₁).live hl fun Q E hq => wpAny_newList hq hl)

theorem sub_arm (S : Snd prog w hT k F) (hA : AOk k A) (O : EnvOk prog w hT env sc ρ X h₀ s.heap) {v i : Expr} {p : Pos} {a b d : D} (ha : F sc ρ v = some a) (hb : F sc ρ i = some b) (h : idxD a b = some d) : Gv prog w A X (eval (.Subscript v i p) env) d s := fun h0 Q E hQ => by
  refine wpAny_Subscript_any ?_
  exact S.snd _ _ _ _ ha _ _ _ _ _ hA O h0 _ _ fun va h₁ t₁ l₁ o₁ r₁ => S.snd _ _ _ _ hb _ _ _ _ { s with heap := h₁, toks := t₁ } hA (O.keeps o₁) (Nat.lt_of_lt_of_le h0 l₁) _ _ fun vb h₂ t₂ l₂ o₂ r₂ =>
    idx_sound (s := { s with heap := h₂, toks := t₂ }) (r₁.old o₂) r₂ h (Nat.lt_of_lt_of_le h0 (Nat.le_trans l₁ l₂)) _ _ fun v h₃ t₃ l₃ o₃ r₃ =>
      hQ v h₃ t₃ (Nat.le_trans l₁ (Nat.le_trans l₂ l₃)) (fun b o e => o₃ b o (o₂ b o (o₁ b o e))) r₃
end
end Mine
set_option Elab.async false
set_option maxRecDepth 4000
namespace Mine
open PySem PySem.Calls PyProof.Rows PySem.W PySem.Spec

def partD : Option Expr → Option (Option Nat)
  | none => some none
  | some (.Constant (.int i) _ _) => if 0 ≤ i then some (some i.toNat) else none
  | _ => none
def sliceD : D → Option Nat → Option Nat → Option D
  | .lst l, none, some n => if l.length ≤ sizeLine then some (.lst (l.take n)) else none
  | .lst l, some n, none => if l.length ≤ sizeLine then some (.lst (l.drop n)) else none
  | _, _, _ => none

section
variable {prog : Program} {w : World} {hT : Heap} {k : Nat} {A : Around} {X : Addr → Prop} {s : Shared} {env : Env} {sc : Names} {ρ : Rho} {h₀ : Heap} {F : Ev} {G : Rho} {Φ : Addr → List D → Option D}

theorem part_sound {e : Option Expr} {n : Option Nat} (h : partD e = some n) {Q E : Value → Shared → Prop} (hq : ∀ v tk, IsPart v (n.map Int.ofNat) → Q v { s with toks := tk }) : wpAny (model prog w) A (evalPart e env) Q E s := by
  unfold partD at h
  split at h
  · cases h; exact wpAny_pure (hq _ s.toks .none)
  · split at h
    · rename_i i _ _ h0
      cases h
      rw [evalPart_some, arm_eval_Constant]
      refine wpAny_mkInt (hq _ _ ?_)
      have : ((some i.toNat).map Int.ofNat) = some i := by simp; omega
      rw [this]; exact .int _ _
    · cases h
  · cases h

theorem slice_arm (S : Snd prog w hT k F) (hA : AOk k A) (O : EnvOk prog w hT env sc ρ X h₀ s.heap) {v : Expr} {lo hi : Option Expr} {sp p : Pos} {a d : D} {l u : Option Nat} (ha : F sc ρ v = some a) (hl : partD lo = some l) (hu : partD hi = some u)
    (h : sliceD a l u = some d) : Gv prog w A X (eval (.Subscript v (.Slice lo hi none sp) p) env) d s := by
  have key : ∀ (xs ys : List D), a = .lst xs → d = .lst ys → xs.length ≤ sizeLine → (∀ vs : List Value, ∃ ws, ws.length ≤ vs.length ∧ slicePick vs.toArray (l.map Int.ofNat) (u.map Int.ofNat) none = ws.toArray ∧ ∀ h, RdL prog w X h vs xs → RdL prog w X h ws ys) → Gv prog w A X (eval (.Subscript v (.Slice lo hi none sp) p) env) d s := by
    rintro xs ys rfl rfl hz hp
    refine Gv.any fun h0 Q E hQ => wpAny_Subscript_any ?_
    refine S.snd _ _ _ _ ha _ _ _ _ _ hA O h0 _ _ fun va h₁ t₁ l₁ o₁ r₁ => wpAny_Slice (part_sound hl fun lv tk₁ pl => part_sound hu fun uv tk₂ pu => ?_)
    refine wpAny_pure ?_
    obtain ⟨p, vs, rfl, nX, la, ra⟩ := r₁.lst_inv
    refine ⟨"list", _, PySem.F.slot_list_getitem.lookup, (la.isList.push _).typeIs, ?_⟩
    obtain ⟨ws, hsz, e, hr⟩ := hp vs
    have hlen := ra.length
    refine wpAny_getItem_list_slice (items := vs.toArray) (la.isList.push _) (Heap.IsSliceOf.new _ _ _ _) pl pu .none (by simp) ?_ (by rw [List.size_toArray]; omega)
    rw [e]
    refine hQ _ _ _ (fun b o q => alloc_old _ _ b o (alloc_old _ _ b o (o₁ b o q))) fun _ => ?_
    have lv := (O.keeps o₁).live
    refine .lst ((lv.keeps (fun b o q => alloc_old _ _ b o q)).fresh (fresh_size _ (Nat.le_refl _))) ⟨by omega, 0, Heap.get?_push_size _ rfl⟩ ((hr _ ra).old fun b o q => alloc_old _ _ b o (alloc_old _ _ b o q))
  unfold sliceD at h
  split at h
  · split at h
    · rename_i xs n hz
      cases h
      exact key _ _ rfl rfl hz fun vs => ⟨vs.take n, by rw [List.length_take]; omega, by simpa using slicePick_upto' vs.toArray n, fun h r => r.take n⟩
    · cases h
  · split at h
    · rename_i xs n hz
      cases h
      exact key _ _ rfl rfl hz fun vs => ⟨vs.drop n, by rw [List.length_drop]; omega, by simpa using slicePick_from' vs.toArray n, fun h r => r.drop n⟩
    · cases h
  · cases h
end
end Mine
set_option Elab.async false
set_option maxRecDepth 4000
namespace Mine
open PySem PySem.Calls PyProof.Rows PySem.W PySem.Spec

def pairsD (f : Expr → Option D) : List (Option Expr) → List Expr → Option (List (Str × D))
  | [], [] => some []
  | some (.Constant (.str x) _ _) :: ks, v :: vs => match f v with
    | some d => match pairsD f ks vs with
      | some r => some ((x, d) :: r)
      | none => none
    | none => none
  | _, _ => none
def dictD (f : Expr → Option D) (ks : List (Option Expr)) (vs : List Expr) : Option D := match pairsD f ks vs with
  | some l => if (l.map Prod.fst).Nodup ∧ l ≠ [] ∧ l.length ≤ 15 then some (.dcs l) else none
  | none => none

section
variable {prog : Program} {w : World} {hT : Heap} {k : Nat} {A : Around} {X : Addr → Prop} {s : Shared} {env : Env} {sc : Names} {ρ : Rho} {h₀ : Heap} {F : Ev} {G : Rho} {Φ : Addr → List D → Option D}

def pairTrees (env : Env) (pos : Pos) : List (Option Expr) → List Expr → List (Sem Value × Sem Value)
  | some e :: ks, v :: vs => (eval e env, do let x ← eval v env; standAt pos; pure x) :: pairTrees env pos ks vs
  | _, _ => []

theorem pairs_shape {pos : Pos} {f : Expr → Option D} : ∀ {ks : List (Option Expr)} {vs : List Expr} {l : List (Str × D)}, pairsD f ks vs = some l →
    (evalEachOpt ks env).zip ((evalEach vs env).map fun v => do let x ← v; standAt pos; pure x) = (pairTrees env pos ks vs).map (fun p => (some p.1, p.2)) ∧ (pairTrees env pos ks vs).length = l.length
  | [], [], l, h => by cases h; exact ⟨rfl, rfl⟩
  | [], _ :: _, _, h => by cases h
  | none :: _, _, _, h => by simp [pairsD] at h
  | some e :: ks, [], l, h => by simp [pairsD] at h
  | some e :: ks, v :: vs, l, h => by
    unfold pairsD at h
    split at h
    · cases ‹some e :: ks = []›
    · rename_i x n p ks' v' vs' h1 h2
      cases h1; cases h2
      split at h
      · split at h
        · rename_i r hr
          cases h
          obtain ⟨e1, e2⟩ := pairs_shape (pos := pos) hr
          refine ⟨?_, by simp [pairTrees, e2]⟩
          show (some (eval _ env), _) :: List.zip _ _ = _
          simp only [pairTrees, List.map_cons]
          exact congrArg _ e1
        · cases h
      · cases h
    · cases h

theorem pairs_sound (S : Snd prog w hT k F) (hA : AOk k A) {pos : Pos} : ∀ {ks : List (Option Expr)} {vs : List Expr} {l : List (Str × D)} {s : Shared}, EnvOk prog w hT env sc ρ X h₀ s.heap → pairsD (F sc ρ) ks vs = some l →
    Gs prog w A (evalPairs (pairTrees env pos ks vs)) (fun ps h => ∃ kvs, Carries (PySem.strKind prog w) ps kvs ∧ l.map Prod.fst = kvs.map Prod.fst ∧ RdL prog w X h (kvs.map Prod.snd) (l.map Prod.snd)) s
  | [], [], l, s, O, h => by cases h; exact Gs.pure ⟨[], trivial, rfl, .nil⟩
  | [], _ :: _, _, _, _, h => by cases h
  | none :: _, _, _, _, _, h => by simp [pairsD] at h
  | some e :: ks, [], l, _, _, h => by simp [pairsD] at h
  | some e :: ks, v :: vs, l, s, O, h => by
    unfold pairsD at h
    split at h
    · cases ‹some e :: ks = []›
    · rename_i x n p ks' v' vs' h1 h2
      cases h1; cases h2
      split at h
      · rename_i d hd
        split at h
        · rename_i r hr
          cases h
          show Gs prog w A (evalPairs ((eval (.Constant (.str x) n p) env, _) :: pairTrees env pos _ _)) _ s
          unfold evalPairs
          refine Gs.bind (R := fun v _ => ∃ t, v = .str x t) ((const_sound (prog := prog) (w := w) (X := X) (d := .str x) rfl).gs.mono fun v _ r => r.str_inv) fun kv h₁ t₁ o₁ e₁ => ?_
          obtain ⟨t, rfl⟩ := e₁
          have O₁ := O.keeps o₁
          refine Gs.bind (R := fun v h => Rd prog w X h v d) (Gs.holding (Gs.bind (S.snd _ _ _ _ hd _ _ _ _ _ hA O₁).gs fun v h₂ t₂ o₂ r₂ => Gs.standAt (Gs.pure r₂))) fun vv h₂ t₂ o₂ r₂ => ?_
          refine Gs.bind (Gs.holding (pairs_sound S hA (O₁.keeps o₂) hr)) fun ps h₃ t₃ o₃ r₃ => Gs.pure ?_
          obtain ⟨kvs, c, e, r⟩ := r₃
          exact ⟨(x, vv) :: kvs, ⟨by simp [PySem.strKind, Value.isStrOf], rfl, c⟩, by simp [e], .cons (r₂.old o₃) r⟩
        · cases h
      · cases h
    · cases h

theorem dict_arm (hT' : TOk hT) (S : Snd prog w hT k F) (hA : AOk k A) (O : EnvOk prog w hT env sc ρ X h₀ s.heap) {ks : List (Option Expr)} {vs : List Expr} {pos : Pos} {d : D} (h : dictD (F sc ρ) ks vs = some d) : Gv prog w A X (eval (.Dict ks vs pos) env) d s := by
  unfold dictD at h
  split at h
  · rename_i l hl
    split at h
    · rename_i hc
      cases h
      obtain ⟨hn, h0, hz⟩ := hc
      obtain ⟨e1, e2⟩ := pairs_shape (env := env) (pos := pos) hl
      have nS : s.heap.get? s.heap.objs.size = none := fresh_size _ (Nat.le_refl _)
      have nsys : (s.heap.objs.size == sysModules) = false := by
        obtain ⟨o, e⟩ := hT'.sysm
        have := Heap.lt_size (O.top _ _ e)
        simp only [beq_eq_false_iff_ne]; intro z; rw [z] at this; exact Nat.lt_irrefl _ this
      have nX : ¬ X s.heap.objs.size := O.live.fresh nS
      refine Gv.any fun ht Q E hQ => wpAny_Dict_pairs (knd := PySem.strKind prog w) e1 (fun z => h0 (by rw [z] at e2; exact List.eq_nil_of_length_eq_zero e2.symm)) (by omega) ?_
      have O₀ : EnvOk prog w hT env sc ρ (fun a => X a ∨ a = s.heap.objs.size) h₀ (s.heap.push { cls := .type "dict", data := .dict #[] }) :=
        O.widen (alloc_old _ _) (fun a q => .inl q) fun a q => q.imp id fun z => by subst z; exact ⟨nS, _, Heap.get?_push_size _ rfl⟩
      refine pairs_sound (s := { s with heap := s.heap.push { cls := .type "dict", data := .dict #[] } }) S hA O₀ hl ht _ _ fun ps h₁ t₁ l₁ o₁ r₁ => ?_
      obtain ⟨kvs, c, e, r⟩ := r₁
      have hn' : (kvs.map Prod.fst).Nodup := e ▸ hn
      have elen : l.length = kvs.length := by have := congrArg List.length e; simpa using this
      refine ⟨kvs, c, dict_at (Heap.DictOf.new _) (fun o e => o₁ _ o e), fun h' hd hs => ?_⟩
      rw [merged_nil_of_nodup kvs hn'] at hd
      refine hQ _ h' _ (fun b o q => ?_) fun _ => .dcs nX nsys (by simp only [sizeLine]; omega) hd e (r.mono (fun _ q => .inl q) fun b o nb q => samebut_get hs (fun z => nb (.inr z)) q)
      exact samebut_get hs (fun z => by rw [z, nS] at q; cases q) (o₁ b o (alloc_old _ _ b o q))
    · cases h
  · cases h
end
end Mine
set_option Elab.async false
set_option maxRecDepth 4000
namespace Mine
open PySem PySem.Calls PyProof.Rows PySem.W PySem.Spec

def replD : D → Str → Str → Option D
  | .str x, y, z => if y ≠ z ∧ x.length ≤ 1048576 ∧ z.length ≤ 14 then some (.str (Txt.replace x y z)) else none
  | _, _, _ => none
def plainBase : Expr → Bool
  | .Call (.Name _ _) _ _ _ => false
  | _ => true

section
variable {prog : Program} {w : World} {hT : Heap} {k : Nat} {A : Around} {X : Addr → Prop} {s : Shared} {env : Env} {sc : Names} {ρ : Rho} {h₀ : Heap} {F : Ev} {G : Rho} {Φ : Addr → List D → Option D}

theorem args_sound (S : Snd prog w hT k F) (hA : AOk k A) {f : Value} {pos : Pos} {es : List Expr} {ds : List D} (O : EnvOk prog w hT env sc ρ X h₀ s.heap) (h : evsD (F sc ρ) es = some ds) :
    Gs prog w A (evalArgs f true (backTo pos (starEach es env)) []) (fun a h => ∃ vs, a = ⟨vs, []⟩ ∧ RdL prog w X h vs ds) s := fun h0 Q E hQ => by
  have e := evs_sound S hA (pos := pos) O h
  cases es with
  | nil => cases h; exact PyProof.Rows.evalArgs_none (hQ _ s.heap s.toks (Nat.le_refl _) (fun _ _ e => e) ⟨[], rfl, .nil⟩)
  | cons x es =>
    have hs : starEach (x :: es) env = (false, eval x env) :: starEach es env := by
      unfold evsD at h
      split at h
      · rename_i d hd
        cases x <;> try rfl
        rw [S.star] at hd; cases hd
      · cases h
    rw [hs] at e ⊢
    exact Calls.evalArgs_plain (e h0 _ E fun vs h' tk l o r => hQ _ h' tk l o ⟨vs, rfl, r⟩)

theorem callWith_sound (S : Snd prog w hT k F) (hΦ : FnOk prog w hT k Φ) (hA : AOk k A) (O : EnvOk prog w hT env sc ρ X h₀ s.heap) {pos : Pos} {f : Value} {es : List Expr} {ds : List D} {d : D} (h : evsD (F sc ρ) es = some ds) (hc : callD Φ (.val f) ds = some d) :
    Gv prog w A X (callWith pos f [] (backTo pos (starEach es env)) []) d s := fun h0 Q E hQ => by
  have hp := notStar_any (env := env) (pos := pos) S h
  have fin : ∀ (g : Value) vs h₁ t₁, s.toks ≤ t₁ → Old s.heap h₁ → Gv prog w A X (call g vs) d { s with heap := h₁, toks := t₁ } → wpAny (model prog w) A (call g ([] ++ (⟨vs, []⟩ : Args).pos) (⟨vs, []⟩ : Args).kw) Q E { s with heap := h₁, toks := t₁ } := fun g vs h₁ t₁ l₁ o₁ c => by
    rw [List.nil_append]
    exact c (Nat.lt_of_lt_of_le h0 l₁) _ _ fun v h₂ t₂ l₂ o₂ r₂ => hQ v h₂ t₂ (Nat.le_trans l₁ l₂) (fun b o e => o₂ b o (o₁ b o e)) r₂
  unfold callD at hc
  split at hc
  · rename_i a hx
    cases hx
    obtain ⟨⟨o, fd, ho, hd⟩, hf⟩ := hΦ a _ d hc
    refine callWith_function_kw (o := o) (fd := fd) (args_sound S hA O h h0 _ E fun av h₁ t₁ l₁ o₁ r₁ => ?_)
    obtain ⟨vs, rfl, r⟩ := r₁
    exact ⟨⟨o₁ _ _ (O.top _ _ ho), hd⟩, fin _ _ _ _ l₁ o₁ (hf A X { s with heap := h₁, toks := t₁ } vs hA O.tX (O.keeps o₁).live (fun b o e => o₁ b o (O.top b o e)) r)⟩
  · rename_i v hv hx
    cases hx
    cases f with
    | builtin id => exact Calls.callWith_builtin hp (args_sound S hA O h h0 _ E fun av h₁ t₁ l₁ o₁ r₁ => by
        obtain ⟨vs, rfl, r⟩ := r₁
        exact fin _ _ _ _ l₁ o₁ (fn_sound (s := { s with heap := h₁, toks := t₁ }) hA.1 r hc))
    | type id => exact PySem.callWith_type hp (args_sound S hA O h h0 _ E fun av h₁ t₁ l₁ o₁ r₁ => by
        obtain ⟨vs, rfl, r⟩ := r₁
        exact fin _ _ _ _ l₁ o₁ (fn_sound (s := { s with heap := h₁, toks := t₁ }) hA.1 r hc))
    | _ => simp [fnD] at hc
  · cases hc

theorem call_arm (S : Snd prog w hT k F) (hG : GOk prog w hT G) (hΦ : FnOk prog w hT k Φ) (hA : AOk k A) (O : EnvOk prog w hT env sc ρ X h₀ s.heap) {x : Str} {np pos : Pos} {es : List Expr} {f d : D} {ds : List D} (hf : nameD G sc ρ x = some f) (h : evsD (F sc ρ) es = some ds) (hc : callD Φ f ds = some d) :
    Gv prog w A X (eval (.Call (.Name x np) es [] pos) env) d s := fun h0 Q E hQ => by
  refine wpAny_Call_Name_kw (name_sound hG O hf h0 _ E fun v r => ?_)
  have : ∃ u, f = .val u := by
    unfold callD at hc
    split at hc
    · exact ⟨_, rfl⟩
    · exact ⟨_, rfl⟩
    · cases hc
  obtain ⟨u, rfl⟩ := this
  obtain rfl := r.val_inv
  exact callWith_sound S hΦ hA O h hc h0 Q E hQ

theorem base_eq {o : Expr} {name : Str} {env : Env} (h : plainBase o = true) : attributeBase o name env (eval o env) = eval o env := by
  unfold attributeBase
  split
  · cases h
  · rfl

theorem meth_arm (S : Snd prog w hT k F) (hA : AOk k A) (O : EnvOk prog w hT env sc ρ X h₀ s.heap) {o : Expr} {name : Str} {apos pos : Pos} {es : List Expr} {ov d : D} {ds : List D} (hb : plainBase o = true) (hl : (apos.endLine == pos.line) = true) (hn : es.length < 29)
    (ho : F sc ρ o = some ov) (h : evsD (F sc ρ) es = some ds) (hm : methD name ov ds = some d) : Gv prog w A X (eval (.Call (.Attribute o name apos) es [] pos) env) d s := fun h0 Q E hQ => by
  have hp := notStar_any (env := env) (pos := pos) S h
  refine wpAny_Call_method_late (base_eq hb) ?_ hl rfl ?_
  · have : (backTo pos (starEach es env)).all (fun x => !x.1) = true := by
      rw [List.all_eq_not_any_not]
      simp only [Bool.not_not]
      rw [hp]; rfl
    rw [this]
    simp [backToKw, keywordEach]
    omega
  · refine S.snd _ _ _ _ ho _ _ _ _ _ hA O h0 _ _ fun v h₁ t₁ l₁ o₁ r₁ => ?_
    obtain ⟨T, id, p1, p2, p3, p4, p5, hc⟩ := meth_sound (s := { s with heap := h₁, toks := t₁ }) (A := A) r₁ hm
    refine ⟨T, id, p1, p2, p3, p4, p5, Calls.callWith_builtin hp (args_sound (s := { s with heap := h₁, toks := t₁ }) S hA (O.keeps o₁) h (Nat.lt_of_lt_of_le h0 l₁) _ E fun av h₂ t₂ l₂ o₂ r₂ => ?_)⟩
    obtain ⟨vs, rfl, r⟩ := r₂
    exact hc h₂ t₂ vs o₂ r (Nat.lt_of_lt_of_le h0 (Nat.le_trans l₁ l₂)) _ _ fun v h₃ t₃ l₃ o₃ r₃ => hQ v h₃ t₃ (Nat.le_trans l₁ (Nat.le_trans l₂ l₃)) (fun b o e => o₃ b o (o₂ b o (o₁ b o e))) r₃

theorem repl_arm (S : Snd prog w hT k F) (hA : AOk k A) (O : EnvOk prog w hT env sc ρ X h₀ s.heap) {o : Expr} {apos pos : Pos} {y z : Str} {n m : Nat} {p q : Pos} {ov d : D} (hb : plainBase o = true) (hl : (apos.endLine == pos.line) = true)
    (ho : F sc ρ o = some ov) (hm : replD ov y z = some d) : Gv prog w A X (eval (.Call (.Attribute o "replace" apos) [.Constant (.str y) n p, .Constant (.str z) m q] [] pos) env) d s := by
  unfold replD at hm
  split at hm
  · split at hm
    · rename_i x _ _ hc
      cases hm
      refine Gv.any fun h0 Q E hQ => wpAny_Call_method_late (base_eq hb) (by simp [backToKw, keywordEach, backTo, starEach]) hl rfl ?_
      refine S.snd _ _ _ _ ho _ _ _ _ _ hA O h0 _ _ fun v h₁ t₁ l₁ o₁ r₁ => ?_
      obtain ⟨t, rfl⟩ := r₁.str_inv
      refine ⟨"str", _, PySem.F.plainAttrs_str, PySem.F.slot_str_replace, PySem.F.type_str_replace, typeIs_str _ _ _, fun a q => (by cases q), Calls.callWith_builtin (by rfl) ?_⟩
      refine Calls.evalArgs_plain ?_
      refine Calls.spliced_cons ?_
      rw [arm_eval_Constant]
      refine wpAny_mkText (Calls.spliced_cons ?_)
      show wpAny _ _ (eval (.Constant (.str z) m q) env) _ _ _
      rw [arm_eval_Constant]
      refine wpAny_mkText (Calls.spliced_nil ?_)
      have ht : t₁ ≠ 0 := Nat.ne_of_gt (Nat.lt_of_lt_of_le h0 l₁)
      exact SC.replaceW (s := { s with heap := h₁, toks := t₁ + 1 + 1 }) ht (Nat.succ_ne_zero _) (Nat.ne_of_lt (Nat.lt_succ_self _)) (by simpa using hc.1) hc.2.1 hc.2.2 fun t' k => hQ _ h₁ k o₁ fun _ => .str _ _
    · cases hm
  · cases hm
end
end Mine
set_option Elab.async false
set_option maxRecDepth 4000
namespace Mine
open PySem PySem.Calls PyProof.Rows PySem.W PySem.Spec

def isTy : Option D → String → Bool
  | some (.val (.type t)), n => t == n
  | _, _ => false
def listD (tup : Bool) : Option D → Option (List D)
  | some (.lst l) => some l
  | some (.str x) => if tup then none else some (x.cps.toList.map fun c => .str ⟨#[c]⟩)
  | some (.dci l) => if tup then none else some (l.map fun p => .int p.1)
  | _ => none
def rangeD : List D → Option (List D)
  | [.int n] => if 0 ≤ n ∧ n ≤ 1000 then some ((List.range n.toNat).map fun i : Nat => .int i) else none
  | [.int a, .int b] => if 0 ≤ a ∧ a ≤ 1000 ∧ 0 ≤ b ∧ b ≤ 1000 then some ((List.range (b - a).toNat).map fun i : Nat => .int (a + i)) else none
  | _ => none
def zipD : List D → Option (List D)
  | [.lst x, .lst y] => some ((x.zip y).map fun p => .tup [p.1, p.2])
  | _ => none
def isTup : Expr → Bool
  | .Tuple _ _ _ => true
  | _ => false
/-- the items of what is gone through -/
def itemsD (G : Rho) (F : Ev) (sc : Names) (ρ : Rho) (tup : Bool) : Expr → Option (List D)
  | .Call (.Name f p) args [] q =>
    if isTy (nameD G sc ρ f) "range" then if tup then none else (evsD (F sc ρ) args).bind rangeD
    else if isTy (nameD G sc ρ f) "zip" then if tup then (evsD (F sc ρ) args).bind zipD else none
    else listD tup (F sc ρ (.Call (.Name f p) args [] q))
  | e => listD tup (F sc ρ e)

section
variable (prog : Program) (w : World)
def Unp (X : Addr → Prop) (h : Heap) (v : Value) (d : D) : Prop := ∃ a vals ds, v = .ref a ∧ (d = .tup ds ∨ d = .lst ds) ∧ (h.IsTuple a vals.toArray ∨ h.IsList a vals.toArray) ∧ RdL prog w X h vals ds
def ItAt (X : Addr → Prop) (h : Heap) (tup : Bool) (v : Value) (d : D) : Prop := if tup = true then Unp prog w X h v d ∨ Rd prog w X h v d else Rd prog w X h v d
/-- an iterator over these items; hb: the heap in which what is gone through stood -/
def Src (A : Around) (X : Addr → Prop) (target : Expr) (xs : List D) (hb : Heap) (it : Value) (h : Heap) : Prop :=
  ∃ (I : Addr) (fp wr : List Addr) (P Md : Nat → Value → Heap → Prop) (St : Nat → Heap → Prop), it = .ref I ∧ KTurns prog w A target I fp wr xs.length P Md St ∧
    (∀ (s : Shared) (Q : Value → Shared → Prop) (E : Value → Shared → Prop), St 0 s.heap → Q (.ref I) s → wpAny (model prog w) A (pyIter (.ref I)) Q E s) ∧ St 0 h ∧ (∀ i h, St i h → ∀ b ∈ wr, ∃ o, h.get? b = some o) ∧
    (∀ b ∈ fp, ∃ o, h.get? b = some o) ∧ (∀ b ∈ wr, hb.get? b = none) ∧ (∀ b ∈ fp, b ∈ wr ∨ ¬ X b) ∧
    ∀ i v h' d (X' : Addr → Prop), (∀ a o, hb.get? a = some o → X' a → X a) → (∀ b o, ¬ X' b → hb.get? b = some o → h'.get? b = some o) → P i v h' → xs[i]? = some d → ItAt prog w X' h' (isTup target) v d
end

section
variable {prog : Program} {w : World} {hT : Heap} {k : Nat} {A : Around} {X : Addr → Prop} {s : Shared} {env : Env} {sc : Names} {ρ : Rho} {h₀ : Heap} {F : Ev} {G : Rho} {Φ : Addr → List D → Option D}

theorem go_any {target : Expr} {I : Addr} {v : Value} {Q : Unit → Shared → Prop} {E : Value → Shared → Prop} (ht : (∃ es n p, target = .Tuple es n p) ∨ ∃ x p, target = .Name x p)
    (hl : ∀ T es n p, target = .Tuple es n p → v = .ref T → wpAny (model prog w) A (letOwnedTupleGo (.Tuple es n p) (.ref I) (.ref T)) Q E s) (h : Q () s) : wpAny (model prog w) A (letOwnedTupleGo target (.ref I) v) Q E s := by
  rcases ht with ⟨es, n, p, rfl⟩ | ⟨x, p, rfl⟩
  · cases v with
    | ref T => exact hl T es n p rfl rfl
    | _ => exact wpAny_pure h
  · exact wpAny_pure h

theorem rd_later {hb h' : Heap} {X' : Addr → Prop} {v : Value} {d : D} (r : Rd prog w X hb v d) (hX : ∀ a o, hb.get? a = some o → X' a → X a) (hk : ∀ b o, ¬ X' b → hb.get? b = some o → h'.get? b = some o) : Rd prog w X' h' v d :=
  (r.grow hX).mono (fun _ q => q) hk

theorem src_list {target : Expr} {l : Addr} {vs : List Value} {xs : List D} {E : Value → Shared → Prop} {Q : Value → Shared → Prop} (hh : A.handled = none) (ht : (∃ es n p, target = .Tuple es n p) ∨ ∃ x p, target = .Name x p) (hl : Ls s.heap l vs) (nX : ¬ X l) (r : RdL prog w X s.heap vs xs)
    (k : ∀ it h₂, Old s.heap h₂ → Src prog w A X target xs s.heap it h₂ → Q it { s with heap := h₂ }) : wpAny (model prog w) A (pyIter (.ref l)) Q E s := by
  refine wpAny_pyIter_list hl.isList (k _ _ (alloc_old _ _) ?_)
  have hlt : l < s.heap.objs.size := let ⟨_, e⟩ := hl.live; Heap.lt_size e
  have nI : s.heap.get? s.heap.objs.size = none := fresh_size _ (Nat.le_refl _)
  have W := Walks.list (prog := prog) (w := w) (A := A) hh s.heap.objs.size l (Nat.ne_of_lt hlt) vs.toArray
  have hlen : vs.toArray.size = xs.length := by simpa using r.length
  have W' := W
  rw [hlen] at W
  have hI := hl.isList
  refine ⟨_, _, _, _, _, _, rfl, KTurns.ofWalks W fun i v s Q E st hq => go_any ht (fun T es n p _ _ => wpAny_letOwnedTupleGo_listiter st.1 hq) hq, fun s Q E st hq => W'.self 0 s Q E st hq, ⟨⟨_, Heap.get?_push_size _ rfl, rfl, rfl⟩, hI.push _⟩, fun i h st b hb => (by rw [List.mem_singleton.mp hb]; obtain ⟨o, e, _⟩ := st.1; exact ⟨o, e⟩), fun b hb => ?_, fun b hb => ?_, fun b hb => ?_, fun i v h' d X' hX hk hP hd => ?_⟩
  · rcases List.mem_cons.mp hb with rfl | hb
    · exact ⟨_, Heap.get?_push_size _ rfl⟩
    · rw [List.mem_singleton.mp hb]; obtain ⟨o, e⟩ := hl.live; exact ⟨o, alloc_old _ _ _ _ e⟩
  · rw [List.mem_singleton.mp hb]; exact nI
  · rcases List.mem_cons.mp hb with rfl | hb
    · exact .inl (by simp)
    · rw [List.mem_singleton.mp hb]; exact .inr nX
  · obtain ⟨u, e, ru⟩ := r.get hd
    have e' : vs[i]? = some v := by simpa using hP
    rw [e] at e'; cases e'
    have := rd_later ru hX hk
    unfold ItAt
    split
    · exact .inr this
    · exact this

theorem src_plain {target : Expr} {I : Addr} {xs : List D} {o : Obj} {P : Nat → Value → Prop} {St : Nat → Heap → Prop} {fp : List Addr} (ht : ∃ x p, target = .Name x p) (W : Walks prog w A I fp [I] xs.length P St) (hI : I = s.heap.objs.size) (hfr : o.isFreed = false) (hst : St 0 (s.heap.push o)) (hlv : ∀ i h, St i h → ∃ o, h.get? I = some o)
    (hf : ∀ b ∈ fp, b = I ∨ (∃ o, s.heap.get? b = some o) ∧ ¬ X b) (hP : ∀ i v h d, P i v → xs[i]? = some d → ∀ X', Rd prog w X' h v d) : Src prog w A X target xs s.heap (.ref I) (s.heap.push o) := by
  subst hI
  have nI : s.heap.get? s.heap.objs.size = none := fresh_size _ (Nat.le_refl _)
  refine ⟨_, _, _, _, _, _, rfl, KTurns.ofWalks W fun i v s Q E st hq => go_any (.inr ht) (fun T es n p e _ => by obtain ⟨x, p', rfl⟩ := ht; cases e) hq, fun s Q E st hq => W.self 0 s Q E st hq, hst, fun i h st b hb => (by rw [List.mem_singleton.mp hb]; exact hlv i h st), fun b hb => ?_, fun b hb => ?_, fun b hb => ?_, fun i v h' d X' hX hk hp hd => ?_⟩
  · rcases hf b hb with rfl | ⟨⟨o, e⟩, _⟩
    · exact ⟨_, Heap.get?_push_size _ hfr⟩
    · exact ⟨o, alloc_old _ _ _ _ e⟩
  · rw [List.mem_singleton.mp hb]; exact nI
  · rcases hf b hb with rfl | ⟨_, e⟩
    · exact .inl (by simp)
    · exact .inr e
  · unfold ItAt
    have := hP i v h' d hp hd X'
    split
    · exact .inr this
    · exact this

theorem src_str {x : Str} {t : Tok} {target : Expr} {E : Value → Shared → Prop} {Q : Value → Shared → Prop} (hh : A.handled = none) (ht : ∃ x p, target = .Name x p)
    (k : ∀ it h₂, Old s.heap h₂ → Src prog w A X target (x.cps.toList.map fun c => .str ⟨#[c]⟩) s.heap it h₂ → Q it { s with heap := h₂ }) : wpAny (model prog w) A (pyIter (.str x t)) Q E s := by
  refine wpAny_pyIter_strU (k _ _ (alloc_old _ _) ?_)
  have hlen : (x.cps.toList.map fun c => D.str ⟨#[c]⟩).length = x.cps.size := by simp
  have hP : ∀ i v (h' : Heap) d, SignAt x i v → (x.cps.toList.map fun c => D.str ⟨#[c]⟩)[i]? = some d → ∀ X', Rd prog w X' h' v d := by
    rintro i v h' d ⟨c, u, hc, rfl⟩ hd X'
    rw [List.getElem?_map, Array.getElem?_toList, hc] at hd
    cases hd; exact .str _ _
  have hf : ∀ b ∈ [s.heap.objs.size], b = s.heap.objs.size ∨ (∃ o, s.heap.get? b = some o) ∧ ¬ X b := fun b hb => .inl (List.mem_singleton.mp hb)
  by_cases ha : x.cps.all (· < 128) = true
  · have e : strIterType x = "str_ascii_iterator" := by unfold strIterType; rw [if_pos ha]
    rw [e]
    have W := Walks.strAscii (prog := prog) (w := w) hh s.heap.objs.size x t
    rw [← hlen] at W
    exact src_plain ht W rfl rfl (by show (s.heap.push _).IsStrIter _ _ _ _ _; exact ⟨_, Heap.get?_push_size _ rfl, rfl, rfl⟩) (fun i h st => by obtain ⟨o, e, _⟩ := st; exact ⟨o, e⟩) hf hP
  · have e : strIterType x = "str_iterator" := by unfold strIterType; rw [if_neg ha]
    rw [e]
    have W := Walks.strWide (prog := prog) (w := w) hh s.heap.objs.size x t
    rw [← hlen] at W
    exact src_plain ht W rfl rfl (by show (s.heap.push _).IsStrIter _ _ _ _ _; exact ⟨_, Heap.get?_push_size _ rfl, rfl, rfl⟩) (fun i h st => by obtain ⟨o, e, _⟩ := st; exact ⟨o, e⟩) hf hP

theorem src_range {r : Addr} {a b : Int} {t u v : Tok} {target : Expr} {E : Value → Shared → Prop} {Q : Value → Shared → Prop} (hh : A.handled = none) (ht : ∃ x p, target = .Name x p) (hr : IsRange s.heap r a b 1 t u v) (h0 : 0 ≤ a) (ha : a ≤ 1000) (hb : 0 ≤ b) (h1 : b ≤ 1000)
    (k : ∀ it h₂, Old s.heap h₂ → Src prog w A X target ((List.range (b - a).toNat).map fun i : Nat => .int (a + i)) s.heap it h₂ → Q it { s with heap := h₂ }) : wpAny (model prog w) A (pyIter (.ref r)) Q E s := by
  have hn : Builtin.Range.rangeSize a b 1 = ((b - a).toNat : Nat) := by
    unfold Builtin.Range.rangeSize
    rw [if_pos (by decide)]
    split <;> omega
  have hsm : Builtin.Range.small a b 1 = true := by
    unfold Builtin.Range.small
    rw [hn]
    simp [Builtin.Range.rangeFitsLong]
    omega
  refine wpAny_pyIter_range hr hsm (k _ _ (alloc_old _ _) ?_)
  have hlen : ((List.range (b - a).toNat).map fun i : Nat => D.int (a + i)).length = (b - a).toNat := by simp
  have W := Walks.range (prog := prog) (w := w) hh s.heap.objs.size a 1 (b - a).toNat
  rw [← hlen] at W
  refine src_plain ht W rfl rfl ?_ (fun i h st => ⟨_, st⟩) (fun b hb => .inl (List.mem_singleton.mp hb)) ?_
  · show IsRangeIter _ _ _ _ _
    rw [hn, hlen]; simpa using Heap.get?_push_size _ rfl
  · rintro i v h' d ⟨t, rfl⟩ hd X'
    rw [List.getElem?_map] at hd
    obtain ⟨j, hj, rfl⟩ := Option.map_eq_some_iff.mp hd
    have : j = i := by
      have := List.getElem?_eq_some_iff.mp hj
      obtain ⟨_, e⟩ := this
      simpa using e.symm
    subst this
    rw [Int.mul_one]; exact .int _ _

theorem src_keys {d : Addr} {kvs : List (Int × Value)} {l : List (Int × D)} {target : Expr} {E : Value → Shared → Prop} {Q : Value → Shared → Prop} (hh : A.handled = none) (ht : ∃ x p, target = .Name x p) (hd : s.heap.DictOf (intKind prog w) d kvs) (hs : (d == sysModules) = false) (nX : ¬ X d) (e : l.map Prod.fst = kvs.map Prod.fst)
    (k : ∀ it h₂, Old s.heap h₂ → Src prog w A X target (l.map fun p => .int p.1) s.heap it h₂ → Q it { s with heap := h₂ }) : wpAny (model prog w) A (pyIter (.ref d)) Q E s := by
  obtain ⟨ep, hm⟩ := hd.dictAt
  obtain ⟨o, ho⟩ := dict_live hd
  have hlt := Heap.lt_size ho
  have elen : l.length = kvs.length := by have := congrArg List.length e; simpa using this
  refine wpAny_pyIter_dict hs hm (k _ _ (alloc_old _ _) ?_)
  have W := Walks.dictKeys (knd := intKind prog w) hh s.heap.objs.size d (Nat.ne_of_lt hlt) kvs ep
  have hlen : (l.map fun p => D.int p.1).length = kvs.length := by simp [elen]
  have W' := W
  rw [← hlen] at W
  refine src_plain ht W rfl rfl ⟨by rw [hlen]; exact ⟨_, Heap.get?_push_size _ rfl, rfl, rfl⟩, (let ⟨o, es, e, r⟩ := hm; ⟨o, es, alloc_old _ _ _ _ e, r⟩)⟩ (fun i h st => by obtain ⟨⟨o, e, _⟩, _⟩ := st; exact ⟨o, e⟩) (fun b hb => ?_) ?_
  · rcases List.mem_cons.mp hb with rfl | hb
    · exact .inl rfl
    · rw [List.mem_singleton.mp hb]; exact .inr ⟨⟨o, ho⟩, nX⟩
  · rintro i v h' dd ⟨key, x, hk, hkey⟩ hd X'
    rw [List.getElem?_map] at hd
    obtain ⟨p, hp, rfl⟩ := Option.map_eq_some_iff.mp hd
    have e1 : (l.map Prod.fst)[i]? = some p.1 := by rw [List.getElem?_map, hp]; rfl
    rw [e, List.getElem?_map, hk] at e1
    cases e1
    cases v <;> simp [intKind, Value.isInt] at hkey
    subst hkey; exact .int _ _

theorem src_zip {l1 l2 : Addr} {vs ws : List Value} {xs ys : List D} {target : Expr} {E : Value → Shared → Prop} {Q : Value → Shared → Prop} (hh : A.handled = none) (ht : ∃ es n p, target = .Tuple es n p) (h1 : Ls s.heap l1 vs) (h2 : Ls s.heap l2 ws) (n1 : ¬ X l1) (n2 : ¬ X l2) (r1 : RdL prog w X s.heap vs xs) (r2 : RdL prog w X s.heap ws ys) (lv : Live X s.heap)
    (k : ∀ it h₂, Old s.heap h₂ → Src prog w A X target ((xs.zip ys).map fun p => .tup [p.1, p.2]) s.heap it h₂ → Q it { s with heap := h₂ }) : wpAny (model prog w) A (call (.type "zip") [.ref l1, .ref l2]) (fun x s₁ => wpAny (model prog w) A (pyIter x) Q E s₁) E s := by
  obtain ⟨es, n, p, rfl⟩ := ht
  obtain ⟨o1, e1⟩ := h1.live
  obtain ⟨o2, e2⟩ := h2.live
  have hlt1 := Heap.lt_size e1
  have hlt2 := Heap.lt_size e2
  have Ap := ktu_apart s.heap.objs.size l1 l2 hlt1 hlt2
  refine call_zip_2 h1.isList h2.isList fun h' hz hTI hTO hi1 hi2 hsz hk => wpAny_pyIter_zip hz (k _ _ hk ?_)
  have W := (WalksT.zip2 (prog := prog) (w := w) hh _ _ _ _ _ _ _ Ap vs.toArray ws.toArray).toU
  have hlen : min vs.toArray.size ws.toArray.size = ((xs.zip ys).map fun p => D.tup [p.1, p.2]).length := by simp [r1.length, r2.length]
  have W' := W
  rw [hlen] at W
  have old : ∀ j, s.heap.objs.size ≤ j → s.heap.get? j = none := fun j hj => fresh_size _ hj
  have lvn : ∀ j, s.heap.objs.size ≤ j → ¬ X j := fun j hj => lv.fresh (old j hj)
  refine ⟨_, _, _, _, _, _, rfl, KTurns.ofWalksU W, fun s Q E st hq => W'.self 0 s Q E st hq, ⟨hz, hTI, ⟨_, _, hTO⟩, hi1, hi2, (h1.at fun o e => hk _ _ e).isList, (h2.at fun o e => hk _ _ e).isList⟩, fun i h st b hb => ?_, fun b hb => ?_, fun b hb => ?_, fun b hb => ?_, fun i v h₂ d X' hX hk hP hd => ?_⟩
  · obtain ⟨a1, _, ⟨x, y, a2⟩, ⟨o3, a3, _⟩, ⟨o4, a4, _⟩, _⟩ := st
    simp only [List.mem_cons, List.not_mem_nil, or_false] at hb
    rcases hb with rfl | rfl | rfl | rfl
    · exact ⟨_, a1⟩
    · exact ⟨_, a2⟩
    · exact ⟨_, a3⟩
    · exact ⟨_, a4⟩
  · simp only [List.mem_cons, List.not_mem_nil, or_false] at hb
    rcases hb with rfl | rfl | rfl | rfl | rfl | rfl | rfl
    · exact ⟨_, hz⟩
    · exact ⟨_, hTI⟩
    · exact ⟨_, hTO⟩
    · obtain ⟨o, e, _⟩ := hi1; exact ⟨o, e⟩
    · obtain ⟨o, e, _⟩ := hi2; exact ⟨o, e⟩
    · exact ⟨o1, hk _ _ e1⟩
    · exact ⟨o2, hk _ _ e2⟩
  · simp only [List.mem_cons, List.not_mem_nil, or_false] at hb
    rcases hb with rfl | rfl | rfl | rfl <;> exact old _ (by omega)
  · simp only [List.mem_cons, List.not_mem_nil, or_false] at hb
    rcases hb with rfl | rfl | rfl | rfl | rfl | rfl | rfl
    · exact .inl (by simp)
    · exact .inr (lvn _ (by omega))
    · exact .inl (by simp)
    · exact .inl (by simp)
    · exact .inl (by simp)
    · exact .inr n1
    · exact .inr n2
  · obtain ⟨T, vals, rfl, ⟨x, y, hx, hy, rfl⟩, hT⟩ := hP
    rw [List.getElem?_map] at hd
    obtain ⟨p, hp, rfl⟩ := Option.map_eq_some_iff.mp hd
    obtain ⟨hp1, hp2⟩ := List.getElem?_zip_eq_some.mp hp
    obtain ⟨u1, q1, ru1⟩ := r1.get hp1
    obtain ⟨u2, q2, ru2⟩ := r2.get hp2
    have hx' : vs[i]? = some x := by simpa using hx
    have hy' : ws[i]? = some y := by simpa using hy
    rw [q1] at hx'; cases hx'
    rw [q2] at hy'; cases hy'
    refine .inl ⟨T, [_, _], _, rfl, .inl rfl, .inl hT, .cons (rd_later ru1 hX hk) (.cons (rd_later ru2 hX hk) .nil)⟩
end
end Mine
set_option Elab.async false
set_option maxRecDepth 4000
namespace Mine
open PySem PySem.Calls PyProof.Rows PySem.W PySem.Spec

def TgOk (t : Expr) : Prop := (∃ es n p, t = .Tuple es n p) ∨ ∃ x p, t = .Name x p

section
variable {prog : Program} {w : World} {hT : Heap} {k : Nat} {A : Around} {X : Addr → Prop} {s : Shared} {env : Env} {sc : Names} {ρ : Rho} {h₀ : Heap} {F : Ev} {G : Rho} {Φ : Addr → List D → Option D}

theorem isTy_eq {o : Option D} {n : String} (h : isTy o n = true) : o = some (.val (.type n)) := by
  unfold isTy at h
  split at h
  · rw [eq_of_beq h]
  · cases h

theorem TgOk.name {t : Expr} (h : TgOk t) (e : ¬ isTup t = true) : ∃ x p, t = .Name x p := by
  rcases h with ⟨es, n, p, rfl⟩ | h
  · exact absurd rfl e
  · exact h
theorem TgOk.tup {t : Expr} (h : TgOk t) (e : isTup t = true) : ∃ es n p, t = .Tuple es n p := by
  rcases h with h | ⟨x, p, rfl⟩
  · exact h
  · cases e

/-- after the value: its iterator -/
theorem list_src {target : Expr} {v : Value} {d : D} {xs : List D} {Q E : Value → Shared → Prop} (hh : A.handled = none) (ht : TgOk target) (r : Rd prog w X s.heap v d) (h : listD (isTup target) (some d) = some xs)
    (k : ∀ it h₂, Old s.heap h₂ → Src prog w A X target xs s.heap it h₂ → Q it { s with heap := h₂ }) : wpAny (model prog w) A (pyIter v) Q E s := by
  unfold listD at h
  split at h
  · rename_i l e
    cases e; cases h
    obtain ⟨a, vs, rfl, nX, la, ra⟩ := r.lst_inv
    exact src_list hh ht la nX ra k
  · rename_i x e
    cases e
    split at h
    · cases h
    · rename_i nt
      cases h
      obtain ⟨t, rfl⟩ := r.str_inv
      exact src_str hh (ht.name nt) k
  · rename_i l e
    cases e
    split at h
    · cases h
    · rename_i nt
      cases h
      obtain ⟨a, kvs, rfl, nX, hs, _, hd, e, _⟩ := r.dci_inv
      exact src_keys hh (ht.name nt) hd hs nX e k
  · cases h

theorem RdL.inv2 {h : Heap} {vs : List Value} {d e : D} (r : RdL prog w X h vs [d, e]) : ∃ v u, vs = [v, u] ∧ Rd prog w X h v d ∧ Rd prog w X h u e := by
  cases r with | cons a b => cases b with | cons b c => cases c; exact ⟨_, _, rfl, a, b⟩

theorem items_sound (S : Snd prog w hT k F) (hG : GOk prog w hT G) (hA : AOk k A) (O : EnvOk prog w hT env sc ρ X h₀ s.heap) {target e : Expr} {xs : List D} {Q E : Value → Shared → Prop} (ht : TgOk target) (h0 : 0 < s.toks)
    (h : itemsD G F sc ρ (isTup target) e = some xs)
    (q : ∀ it h₁ h₂ tk, s.toks ≤ tk → Old s.heap h₁ → Old h₁ h₂ → Src prog w A X target xs h₁ it h₂ → Q it { s with heap := h₂, toks := tk }) :
    wpAny (model prog w) A (eval e env) (fun x s₁ => wpAny (model prog w) A (pyIter x) Q E s₁) E s := by
  have plain : listD (isTup target) (F sc ρ e) = some xs → wpAny (model prog w) A (eval e env) (fun x s₁ => wpAny (model prog w) A (pyIter x) Q E s₁) E s := fun h => by
    cases hd : F sc ρ e with
    | none => rw [hd] at h; cases h
    | some d =>
      rw [hd] at h
      exact S.snd _ _ _ _ hd _ _ _ _ _ hA O h0 _ _ fun v h₁ t₁ l₁ o₁ r₁ => list_src (s := { s with heap := h₁, toks := t₁ }) hA.1 ht r₁ h fun it h₂ o₂ src => q it h₁ h₂ t₁ l₁ o₁ o₂ src
  unfold itemsD at h
  split at h
  · rename_i f p args qq
    split at h
    · rename_i hr
      split at h
      · cases h
      · rename_i nt
        obtain ⟨ds, hds, h⟩ := Option.bind_eq_some_iff.mp h
        have hn := isTy_eq hr
        refine wpAny_Call_Name_kw (name_sound hG O hn h0 _ E fun v r => ?_)
        obtain rfl := r.val_inv
        refine PySem.callWith_type (notStar_any S hds) (args_sound S hA O hds h0 _ E fun av h₁ t₁ l₁ o₁ r₁ => ?_)
        obtain ⟨vs, rfl, r⟩ := r₁
        have tail : ∀ (r : Addr) (a b : Int) (h₂ : Heap) (t₂ : Nat) t u v, s.toks ≤ t₂ → Old h₁ h₂ → IsRange h₂ r a b 1 t u v → 0 ≤ a → a ≤ 1000 → 0 ≤ b → b ≤ 1000 → xs = ((List.range (b - a).toNat).map fun i : Nat => .int (a + i)) →
            wpAny (model prog w) A (pyIter (.ref r)) Q E { s with heap := h₂, toks := t₂ } := fun r a b h₂ t₂ t u v l₂ o₂ hr a0 a1 b0 b1 e => by
          subst e
          exact src_range (s := { s with heap := h₂, toks := t₂ }) hA.1 (ht.name nt) hr a0 a1 b0 b1 fun it h₃ o₃ src => q it h₂ h₃ t₂ l₂ (fun b o e => o₂ b o (o₁ b o e)) o₃ src
        unfold rangeD at h
        split at h
        · split at h
          · rename_i n hn
            cases h
            obtain ⟨v, rfl, r1⟩ := r.inv1
            obtain ⟨t, rfl⟩ := r1.int_inv
            refine call_range_1 (tail _ 0 n _ _ _ _ _ (Nat.le_trans l₁ (Nat.le_add_right t₁ 2)) (alloc_old _ _) (Heap.get?_push_size _ rfl) (by decide) (by decide) hn.1 hn.2 ?_)
            simp
          · cases h
        · split at h
          · rename_i a b hn
            cases h
            obtain ⟨v, u, rfl, r1, r2⟩ := r.inv2
            obtain ⟨t, rfl⟩ := r1.int_inv
            obtain ⟨u, rfl⟩ := r2.int_inv
            exact call_range_2 (tail _ a b _ _ _ _ _ (Nat.le_trans l₁ (Nat.le_add_right t₁ 1)) (alloc_old _ _) (Heap.get?_push_size _ rfl) hn.1 hn.2.1 hn.2.2.1 hn.2.2.2 rfl)
          · cases h
        · cases h
    · split at h
      · rename_i hz
        split at h
        · rename_i nt
          obtain ⟨ds, hds, h⟩ := Option.bind_eq_some_iff.mp h
          have hn := isTy_eq hz
          refine wpAny_Call_Name_kw (name_sound hG O hn h0 _ E fun v r => ?_)
          obtain rfl := r.val_inv
          refine PySem.callWith_type (notStar_any S hds) (args_sound S hA O hds h0 _ E fun av h₁ t₁ l₁ o₁ r₁ => ?_)
          obtain ⟨vs, rfl, r⟩ := r₁
          unfold zipD at h
          split at h
          · cases h
            obtain ⟨v, u, rfl, r1, r2⟩ := r.inv2
            obtain ⟨a, vs, rfl, n1, la, ra⟩ := r1.lst_inv
            obtain ⟨b, ws, rfl, n2, lb, rb⟩ := r2.lst_inv
            exact src_zip (s := { s with heap := h₁, toks := t₁ }) hA.1 (ht.tup nt) la lb n1 n2 ra rb (O.keeps o₁).live fun it h₂ o₂ src => q it h₁ h₂ t₁ l₁ o₁ o₂ src
          · cases h
        · cases h
      · exact plain h
  · exact plain h
end
end Mine
set_option Elab.async false
set_option maxRecDepth 4000
namespace Mine
open PySem PySem.Calls PyProof.Rows PySem.W PySem.Spec

def storable (sc : Names) (x : Str) : Bool := match sc.lookup x with
  | some .local => true
  | some .cell => true
  | _ => false
def bindAll (sc : Names) : List Expr → List D → Rho → Option Rho
  | [], [], ρ => some ρ
  | .Name x _ :: es, d :: ds, ρ => if storable sc x then bindAll sc es ds (upd ρ x d) else none
  | _, _, _ => none
def bindD (sc : Names) : Expr → D → Rho → Option Rho
  | .Name x _, d, ρ => if storable sc x then some (upd ρ x d) else none
  | .Tuple es _ _, .tup ds, ρ => bindAll sc es ds ρ
  | .Tuple es _ _, .lst ds, ρ => bindAll sc es ds ρ
  | _, _, _ => none
abbrev Keep (env : Env) (h h' : Heap) : Prop := ∀ b o, ¬ Own env b → h.get? b = some o → h'.get? b = some o

section
variable {prog : Program} {w : World} {hT : Heap} {k : Nat} {A : Around} {X : Addr → Prop} {s : Shared} {env : Env} {sc : Names} {ρ ρ' : Rho} {h₀ : Heap} {F : Ev} {G : Rho} {Φ : Addr → List D → Option D}

theorem storable_eq {x : Str} (h : storable sc x = true) : sc.lookup x = some .local ∨ sc.lookup x = some .cell := by
  unfold storable at h
  split at h
  · exact .inl ‹_›
  · exact .inr ‹_›
  · cases h

theorem name_assign {x : Str} {p : Pos} {v : Value} {d : D} {Q : Unit → Shared → Prop} {E : Value → Shared → Prop} (O : EnvOk prog w hT env sc ρ X h₀ s.heap) (hx : storable sc x = true) (r : Rd prog w X s.heap v d)
    (h : ∀ h' tk, EnvOk prog w hT env sc (upd ρ x d) X h₀ h' → s.toks ≤ tk → Keep env s.heap h' → Q () { s with heap := h', toks := tk }) : wpAny (model prog w) A (assign (.Name x p) env v) Q E s := by
  rw [arm_assign_Name]
  refine wpAny_bind (wpAny_standAt (wpAny_bindName (wpAny_store_at O (storable_eq hx) r fun h' tk a O' ht hk ha => h h' tk O' ht fun b o nb e => hk b o (fun z => nb (by rw [z]; exact ha)) e)))

theorem assignEach_cons {x : Str} {p : Pos} {es : List Expr} : assignEach (.Name x p :: es) env = (false, assign (.Name x p) env) :: assignEach es env := rfl

theorem each_len : ∀ {es : List Expr} {ds : List D} {ρ ρ' : Rho}, bindAll sc es ds ρ = some ρ' → (assignEach es env).length = ds.length ∧ (assignEach es env).findIdx? (·.1) = none
  | [], [], _, _, _ => ⟨rfl, rfl⟩
  | [], _ :: _, _, _, h => by cases h
  | e :: es, [], ρ, ρ', h => by cases e <;> simp [bindAll] at h
  | e :: es, d :: ds, ρ, ρ', h => by
    cases e <;> simp only [bindAll, reduceCtorEq] at h
    split at h
    · obtain ⟨h1, h2⟩ := each_len h
      rw [assignEach_cons]
      refine ⟨by simp [h1], ?_⟩
      rw [List.findIdx?_cons]
      simp [h2]
    · cases h

theorem all_assign {E : Value → Shared → Prop} : ∀ {es : List Expr} {ds : List D} {vs : List Value} {ρ ρ' : Rho} {s : Shared} {Q : Unit → Shared → Prop}, EnvOk prog w hT env sc ρ X h₀ s.heap → bindAll sc es ds ρ = some ρ' → RdL prog w X s.heap vs ds →
    (∀ h' tk, EnvOk prog w hT env sc ρ' X h₀ h' → s.toks ≤ tk → Keep env s.heap h' → Q () { s with heap := h', toks := tk }) → wpAny (model prog w) A (assignInOrder ((assignEach es env).map (·.2)) vs) Q E s
  | [], [], _, ρ, ρ', s, Q, O, h, .nil, q => by
    cases h
    exact wpAny_assignInOrder_none (q s.heap s.toks O (Nat.le_refl _) fun _ _ _ e => e)
  | [], _ :: _, _, _, _, _, _, _, h, _, _ => by cases h
  | e :: es, [], _, ρ, ρ', _, _, _, h, _, _ => by cases e <;> simp [bindAll] at h
  | e :: es, d :: ds, _, ρ, ρ', s, Q, O, h, .cons r rs, q => by
    cases e <;> simp only [bindAll, reduceCtorEq] at h
    split at h
    · rename_i x p hx
      rw [assignEach_cons]
      refine wpAny_assignInOrder_more (name_assign O hx r fun h₁ t₁ O₁ l₁ k₁ => ?_)
      refine all_assign (s := { s with heap := h₁, toks := t₁ }) O₁ h (rs.mono (fun _ q => q) fun b o nb e => k₁ b o (fun z => nb ?_) e) fun h₂ t₂ O₂ l₂ k₂ => q h₂ t₂ O₂ (Nat.le_trans l₁ l₂) fun b o nb e => k₂ b o nb (k₁ b o nb e)
      rcases z with rfl | ⟨y, z⟩
      · exact O.locX
      · exact O.ownX y _ z
    · cases h

theorem Unp.of_rd {v : Value} {d : D} {h : Heap} {ds : List D} (e : d = .tup ds ∨ d = .lst ds) (r : Rd prog w X h v d) : Unp prog w X h v d := by
  rcases e with rfl | rfl
  · obtain ⟨a, vs, rfl, _, la, ra⟩ := r.tup_inv
    exact ⟨a, vs, ds, rfl, .inl rfl, .inl la.isTuple, ra⟩
  · obtain ⟨a, vs, rfl, _, la, ra⟩ := r.lst_inv
    exact ⟨a, vs, ds, rfl, .inr rfl, .inr la.isList, ra⟩

theorem assign_sound {target : Expr} {v : Value} {d : D} {Q : Unit → Shared → Prop} {E : Value → Shared → Prop} (hh : A.handled = none) (O : EnvOk prog w hT env sc ρ X h₀ s.heap) (r : ItAt prog w X s.heap (isTup target) v d) (hb : bindD sc target d ρ = some ρ')
    (h : ∀ h' tk, EnvOk prog w hT env sc ρ' X h₀ h' → s.toks ≤ tk → Keep env s.heap h' → Q () { s with heap := h', toks := tk }) : wpAny (model prog w) A (assign target env v) Q E s := by
  have tupc : ∀ es n p ds, target = .Tuple es n p → (d = .tup ds ∨ d = .lst ds) → bindAll sc es ds ρ = some ρ' → wpAny (model prog w) A (assign target env v) Q E s := by
    rintro es n p ds rfl hd hb
    have u : Unp prog w X s.heap v d := by
      unfold ItAt at r
      rw [show isTup (.Tuple es n p) = true from rfl, if_pos rfl] at r
      rcases r with r | r
      · exact r
      · exact Unp.of_rd hd r
    obtain ⟨a, vs, ds', rfl, hd', hs, rv⟩ := u
    have ed : ds' = ds := by
      rcases hd with rfl | rfl <;> rcases hd' with e | e <;> cases e <;> rfl
    subst ed
    obtain ⟨h1, h2⟩ := each_len (env := env) hb
    have go : ∀ h', Heap.ExtBut s.heap.objs.size s.heap h' → wpAny (model prog w) A (assignInOrder ((assignEach es env).map (·.2)) vs) Q E { s with heap := h' } := fun h' hk => by
      have ho : Old s.heap h' := fun b o e => hk b o (Nat.ne_of_lt (Heap.lt_size e)) e
      exact all_assign (s := { s with heap := h' }) (O.keeps ho) hb (rv.old ho) fun h₂ t₂ O₂ l₂ k₂ => h h₂ t₂ O₂ l₂ fun b o nb e => k₂ b o nb (ho b o e)
    have hn : (assignEach es env).length = vs.toArray.size := by rw [h1, List.size_toArray, rv.length]
    rcases hs with hs | hs
    · exact wpAny_assign_Tuple hh hs hn h2 go
    · rw [arm_assign_Tuple]
      refine wpAny_bind (wpAny_standAt ?_)
      unfold unpack
      rw [hn, h2]
      exact wpAny_bind (wpAny_holding (kun_itemsOf hh hs go))
  unfold bindD at hb
  split at hb
  · split at hb
    · rename_i x p _ _ hx
      cases hb
      unfold ItAt at r
      rw [if_neg (by simp [isTup])] at r
      exact name_assign O hx r h
    · cases hb
  · exact tupc _ _ _ _ rfl (.inl rfl) hb
  · exact tupc _ _ _ _ rfl (.inr rfl) hb
  · cases hb
end
end Mine
set_option Elab.async false
set_option maxRecDepth 4000
namespace Mine
open PySem PySem.Calls PyProof.Rows PySem.W PySem.Spec

section
variable {prog : Program} {w : World} {hT : Heap} {k : Nat} {A : Around} {X : Addr → Prop} {s : Shared} {env : Env} {sc : Names} {ρ ρ' : Rho} {h₀ h h' : Heap} {F : Ev} {G : Rho} {Φ : Addr → List D → Option D}

/-- fewer marks, and what was written lay under the marks -/
theorem EnvOk.cut {Xp : Addr → Prop} {l₀ : Heap} (O : EnvOk prog w hT env sc ρ X h₀ h) (Op : EnvOk prog w hT env sc ρ' Xp h₀ l₀) (hX : ∀ a, Xp a → X a) (W : Addr → Prop) (hk : ∀ b o, ¬ W b → h.get? b = some o → h'.get? b = some o)
    (hW : ∀ a, W a → X a ∧ h₀.get? a = none ∧ ¬ Own env a) (lv : ∀ a, Xp a → W a → ∃ o, h'.get? a = some o) : EnvOk prog w hT env sc ρ Xp h₀ h' := by
  have ko : ∀ {b o}, Own env b → h.get? b = some o → h'.get? b = some o := fun hb e => hk _ _ (fun z => (hW _ z).2.2 hb) e
  exact {
    kind := O.kind, glob := O.glob, bltn := O.bltn, kinds := O.kinds
    loc := let ⟨m, x⟩ := O.loc; ⟨m, x.at' fun o e => ko (.inl rfl) e⟩
    locX := Op.locX, locF := O.locF
    cell := fun x hx => by
      obtain ⟨c, v, a, b, d⟩ := O.cell x hx
      obtain ⟨o, e, r⟩ := b
      exact ⟨c, v, a, ⟨o, ko (.inr ⟨x, a⟩) e, r⟩, Op.ownX x c a⟩
    cellF := O.cellF, ownX := Op.ownX, apart := O.apart, off := O.off
    top := fun b o e => hk b o (fun z => by have := O.tX _ (hW _ z).1; rw [e] at this; cases this) (O.top b o e)
    tX := fun a q => O.tX a (hX a q)
    old := fun b o e => hk b o (fun z => by rw [(hW _ z).2.1] at e; cases e) (O.old b o e)
    live := fun a q => by
      by_cases hw : W a
      · exact lv a q hw
      · obtain ⟨o, e⟩ := O.live a (hX a q)
        exact ⟨o, hk _ _ hw e⟩
    sane := O.sane
    vals := fun x k d hx nk e => by
      obtain ⟨v, a, r⟩ := O.vals x k d hx nk e
      refine ⟨v, ?_, r.mono hX fun b o nb e => hk b o (fun z => nb (hW _ z).1) e⟩
      cases k with
      | «local» => obtain ⟨m, a, b⟩ := a; exact ⟨m, a.at' fun o e => ko (.inl rfl) e, b⟩
      | cell => obtain ⟨c, a, o, e, r⟩ := a; exact ⟨c, a, o, ko (.inr ⟨x, a⟩) e, r⟩
      | free => obtain ⟨c, a, o, e, r⟩ := a; exact ⟨c, a, o, ko (.inr ⟨x, a⟩) e, r⟩
      | globalImplicit => exact a
      | globalExplicit => exact a }

/-- fewer names known -/
theorem EnvOk.less (O : EnvOk prog w hT env sc ρ X h₀ h) (hρ : ∀ x d, ρ' x = some d → ρ x = some d) : EnvOk prog w hT env sc ρ' X h₀ h :=
  { O with vals := fun x k d hx nk e => O.vals x k d hx nk (hρ x d e) }

def freshT (ρ : Rho) : Expr → Bool
  | .Name x _ => (ρ x).isNone
  | .Tuple es _ _ => es.all fun e => match e with | .Name x _ => (ρ x).isNone | _ => false
  | _ => false
theorem bindAll_fresh : ∀ {es : List Expr} {ds : List D} {ρ ρ₁ ρ' : Rho}, bindAll sc es ds ρ₁ = some ρ' → (es.all fun e => match e with | .Name x _ => (ρ x).isNone | _ => false) = true → (∀ x d, ρ x = some d → ρ₁ x = some d) → ∀ x d, ρ x = some d → ρ' x = some d
  | [], [], ρ, ρ₁, ρ', h, _, hl => by cases h; exact hl
  | [], _ :: _, _, _, _, h, _, _ => by cases h
  | e :: es, [], ρ, ρ₁, ρ', h, _, _ => by cases e <;> simp [bindAll] at h
  | e :: es, d :: ds, ρ, ρ₁, ρ', h, hf, hl => by
    cases e <;> simp only [bindAll, reduceCtorEq] at h
    split at h
    · rename_i x p hx
      rw [List.all_cons, Bool.and_eq_true] at hf
      refine bindAll_fresh h hf.2 fun y dd e => ?_
      have : y ≠ x := fun z => by subst z; simp [e] at hf
      simp only [upd, if_neg this]
      exact hl y dd e
    · cases h
theorem bind_fresh {t : Expr} {d : D} (h : bindD sc t d ρ = some ρ') (hf : freshT ρ t = true) : ∀ x d, ρ x = some d → ρ' x = some d := by
  unfold bindD at h
  split at h
  · split at h
    · cases h
      intro y dd e
      simp only [upd]
      split
      · rename_i z; subst z; simp [freshT, e] at hf
      · exact e
    · cases h
  · exact bindAll_fresh h hf fun _ _ e => e
  · exact bindAll_fresh h hf fun _ _ e => e
  · cases h
theorem bind_tg {t : Expr} {d : D} (h : bindD sc t d ρ = some ρ') : TgOk t := by
  unfold bindD at h
  split at h
  · exact .inr ⟨_, _, rfl⟩
  · exact .inl ⟨_, _, _, rfl⟩
  · exact .inl ⟨_, _, _, rfl⟩
  · cases h

/-- one turn of a comprehension's loop -/
def turnOf (e : Expr) (gens : List Comprehension) (emit : Sem Unit) (depth : Nat) (it acc : Value) (env : Env) : Sem Fin := do
  let some g := gens[depth]? | unsupported "internal:comprehension-depth"
  standAt (if g.is_async != 0 then e.pos else g.iter.pos)
  match ← if g.is_async != 0 then asyncNext it else pyNext it with
  | none => pure (.done .next)
  | some v =>
    letOwnedTupleGo g.target it v
    assign g.target env v
    let mut ok := true
    for c in g.ifs do
      if ok then ok ← isTrue c env (eval c env)
    if ok then
      match gens[depth + 1]? with
      | some g' =>
        let x ← eval g'.iter env
        standAt g'.iter.pos
        let x ← if g'.is_async != 0 then foldedIterable g'.iter x else foldedSetIterable g'.iter env x
        let _ ← runOwn (.compStart e (depth + 1) (← holding [x] (if g'.is_async != 0 then asyncIter x else pyIter x)) acc env) env
      | none => emit
    again (.compLoop e depth it acc env)

def emitL (elt : Expr) (acc : Value) (env : Env) : Sem Unit := do let _ ← call (.builtin "list.append") [acc, ← eval elt env]
def emitD (kx vx : Expr) (D : Addr) (env : Env) : Sem Unit := do
  let kv ← eval kx env
  let vv ← holding [kv] (eval vx env)
  standAt { kx.pos with endLine := vx.pos.endLine, endCol := vx.pos.endCol }
  holding [kv, vv] (dictSet D kv vv)

theorem turn_L (elt : Expr) (gens : List Comprehension) (scope : Scope) (pos : Pos) (depth : Nat) (it acc : Value) (env : Env) :
    compTurn (.ListComp elt gens scope pos) depth it acc env = turnOf (.ListComp elt gens scope pos) gens (emitL elt acc env) depth it acc env := by rfl
theorem turn_D (kx vx : Expr) (gens : List Comprehension) (scope : Scope) (pos : Pos) (depth : Nat) (it : Value) (D : Addr) (env : Env) :
    compTurn (.DictComp kx vx gens scope pos) depth it (.ref D) env = turnOf (.DictComp kx vx gens scope pos) gens (emitD kx vx D env) depth it (.ref D) env := by rfl

/-- what a comprehension's expression must answer to -/
structure CompE (prog : Program) (w : World) (A : Around) (e : Expr) (gens : List Comprehension) (emit : Sem Unit) (acc : Value) (env : Env) : Prop where
  loop : ∀ (d : Nat) (it : Value) (R : Result → Shared → Prop) (I : Nat → Shared → Prop)
    (_ : ∀ n s, I n s → wpAny (model prog w) A (turnOf e gens emit d it acc env) (fun fin s' => match fin with | .done f => R (.ok f) s' | .again c' => c' = .compLoop e d it acc env ∧ ∃ m, m < n ∧ I m s') (notedBy (model prog w) A env fun e s' => R (.error e) s') s)
    (n : Nat) (s : Shared) (_ : I n s), codeAny (model prog w) A (.compLoop e d it acc env) R s
  start : ∀ (d : Nat) (g : Comprehension) (it : Value) (R : Result → Shared → Prop) (s : Shared), gens[d]? = some g → g.is_async = 0 → codeAny (model prog w) A (.compLoop e d it acc env) R s →
    wpAny (model prog w) A (pyIter it) (fun it' s' => codeAny (model prog w) A (.compLoop e d it' acc env) R s') (notedBy (model prog w) A env fun x s' => R (.error x) s') s → codeAny (model prog w) A (.compStart e d it acc env) R s

theorem compE_L {elt : Expr} {gens : List Comprehension} {scope : Scope} {pos : Pos} {acc : Value} : CompE prog w A (.ListComp elt gens scope pos) gens (emitL elt acc env) acc env where
  loop := fun d it R I turn n s hI => by
    refine codeAny_loop rfl I (fun n s hI => ?_) n hI
    show wpAny _ A ((compTurn (.ListComp elt gens scope pos) d it acc env).onRaise (fun x => do noteFrame x env; theTreesLotGoes x)) _ _ s
    refine wpAny_noted ?_
    rw [turn_L]
    exact turn n s hI
  start := fun d g it R s hg ha h0 h => by
    refine codeAny_of_tree ?_
    show wpAny _ A ((compStart (.ListComp elt gens scope pos) d it acc env).onRaise (fun x => do noteFrame x env; standAt theWindowsPlace)) _ _ s
    refine wpAny_notedAt ?_
    unfold compStart
    have e1 : (clausesOf (.ListComp elt gens scope pos))[d]? = some g := hg
    rw [e1]
    simp only [Option.elim, ha]
    show wpAny _ A (ask >>= _) _ _ s
    refine wpAny_bind (wpAny_askSetting (wpAny_ite ?_))
    split
    · first
        | exact wpAny_bind (wpAny_pure (wpAny_pure (And.intro rfl h0)))
        | exact wpAny_pure (And.intro rfl h0)
    · exact wpAny_bind (wpAny_rule (wpAny_bind (wpAny_standAt (wpAny_bind (wpAny_mono h (fun it' s' h' => wpAny_pure (And.intro rfl h')) fun _ _ x => x)))))
theorem compE_D {kx vx : Expr} {gens : List Comprehension} {scope : Scope} {pos : Pos} {D : Addr} : CompE prog w A (.DictComp kx vx gens scope pos) gens (emitD kx vx D env) (.ref D) env where
  loop := fun d it R I turn n s hI => by
    refine codeAny_loop rfl I (fun n s hI => ?_) n hI
    show wpAny _ A ((compTurn (.DictComp kx vx gens scope pos) d it (.ref D) env).onRaise (fun x => do noteFrame x env; theTreesLotGoes x)) _ _ s
    refine wpAny_noted ?_
    rw [turn_D]
    exact turn n s hI
  start := fun d g it R s hg ha h0 h => by
    refine codeAny_of_tree ?_
    show wpAny _ A ((compStart (.DictComp kx vx gens scope pos) d it (.ref D) env).onRaise (fun x => do noteFrame x env; standAt theWindowsPlace)) _ _ s
    refine wpAny_notedAt ?_
    unfold compStart
    have e1 : (clausesOf (.DictComp kx vx gens scope pos))[d]? = some g := hg
    rw [e1]
    simp only [Option.elim, ha]
    show wpAny _ A (ask >>= _) _ _ s
    refine wpAny_bind (wpAny_askSetting (wpAny_ite ?_))
    split
    · first
        | exact wpAny_bind (wpAny_pure (wpAny_pure (And.intro rfl h0)))
        | exact wpAny_pure (And.intro rfl h0)
    · exact wpAny_bind (wpAny_rule (wpAny_bind (wpAny_standAt (wpAny_bind (wpAny_mono h (fun it' s' h' => wpAny_pure (And.intro rfl h')) fun _ _ x => x)))))
end
end Mine
set_option Elab.async false
set_option maxRecDepth 4000
namespace Mine
open PySem PySem.Calls PyProof.Rows PySem.W PySem.Spec

abbrev Tst := Names → Rho → Expr → Option Bool
def testsD (T : Expr → Option Bool) : List Expr → Option Bool
  | [] => some true
  | c :: r => match T c with
    | some true => testsD T r
    | some false => some false
    | none => none
def forItems {α : Type} (f : D → Option (List α)) : List D → Option (List α)
  | [] => some []
  | d :: r => match f d with
    | some a => match forItems f r with
      | some b => some (a ++ b)
      | none => none
    | none => none
def genD {α : Type} (T : Rho → Expr → Option Bool) (I : Bool → Rho → Expr → Option (List D)) (emit : Rho → Option α) (sc : Names) : List Comprehension → Rho → List D → Option (List α)
  | [], _, _ => none
  | g :: gs, ρ, xs => if freshT ρ g.target = true then
      forItems (fun d => match bindD sc g.target d ρ with
        | none => none
        | some ρ1 => match testsD (T ρ1) g.ifs with
          | none => none
          | some false => some []
          | some true => match gs with
            | [] => (emit ρ1).map fun a => [a]
            | g' :: _ => match I (isTup g'.target) ρ1 g'.iter with
              | none => none
              | some ys => genD T I emit sc gs ρ1 ys) xs
    else none

structure TSnd (prog : Program) (w : World) (hT : Heap) (k : Nat) (T : Tst) : Prop where
  snd : ∀ sc ρ e b, T sc ρ e = some b → ∀ A X env h₀ s, AOk k A → EnvOk prog w hT env sc ρ X h₀ s.heap → Gs prog w A (isTrue e env (eval e env)) (fun x _ => x = b) s

structure AccOk {α : Type} (D : Addr) (Acc : (Addr → Prop) → Heap → List α → Prop) : Prop where
  keep : ∀ X X' h h' l, Acc X h l → (∀ a o, h.get? a = some o → X' a → X a) → (∀ b o, ¬ X' b → h.get? b = some o → h'.get? b = some o) → (∀ o, h.get? D = some o → h'.get? D = some o) → Acc X' h' l
  live : ∀ X h l, Acc X h l → ∃ o, h.get? D = some o
def EmitOk {α : Type} (prog : Program) (w : World) (hT : Heap) (A : Around) (env : Env) (sc : Names) (h₀ : Heap) (D : Addr) (emit : Sem Unit) (emitF : Rho → Option α) (Acc : (Addr → Prop) → Heap → List α → Prop) : Prop :=
  ∀ (ρ : Rho) (X : Addr → Prop) (s : Shared) (l : List α) (a : α) (Q : Unit → Shared → Prop) (E : Value → Shared → Prop), EnvOk prog w hT env sc ρ X h₀ s.heap → X D → h₀.get? D = none → ¬ Own env D → 0 < s.toks → l.length < 1000000 → Acc X s.heap l → emitF ρ = some a →
    (∀ h' tk, (∀ b o, b ≠ D → s.heap.get? b = some o → h'.get? b = some o) → Acc X h' (l ++ [a]) → Q () { s with heap := h', toks := tk }) → wpAny (model prog w) A emit Q E s

section
variable {prog : Program} {w : World} {hT : Heap} {k : Nat} {A : Around} {X : Addr → Prop} {s : Shared} {env : Env} {sc : Names} {ρ ρ' : Rho} {h₀ h h' : Heap} {F : Ev} {G : Rho} {Φ : Addr → List D → Option D}

theorem freshT_tg {t : Expr} (h : freshT ρ t = true) : TgOk t := by
  cases t <;> simp only [freshT, Bool.false_eq_true] at h
  · exact .inr ⟨_, _, rfl⟩
  · exact .inl ⟨_, _, _, rfl⟩

theorem folded_pure {e : Expr} (h : ∀ es n p, e ≠ .Set es n p) (env : Env) (x : Value) : foldedSetIterable e env x = pure x := by
  cases e <;> try rfl
  exact absurd rfl (h _ _ _)
theorem items_notSet (S : Snd prog w hT k F) {tup : Bool} {e : Expr} {xs : List D} (h : itemsD G F sc ρ tup e = some xs) : ∀ es n p, e ≠ .Set es n p := by
  rintro es n p rfl
  have h : listD tup (F sc ρ (.Set es n p)) = some xs := h
  rw [S.set] at h
  cases h

theorem tests_sound {T : Tst} (ST : TSnd prog w hT k T) (hA : AOk k A) : ∀ {cs : List Expr} {b : Bool} {s : Shared}, EnvOk prog w hT env sc ρ X h₀ s.heap → testsD (T sc ρ) cs = some b →
    Gs prog w A (forIn cs true fun c r => if r = true then do let ok ← isTrue c env (eval c env); pure (ForInStep.yield ok) else pure (ForInStep.yield r)) (fun x _ => x = b) s
  | [], b, s, O, h => by cases h; exact Gs.pure rfl
  | c :: cs, b, s, O, h => by
    unfold testsD at h
    rw [List.forIn_cons]
    simp only [if_true]
    have stop : ∀ (cs : List Expr) (s : Shared), Gs prog w A (forIn cs false fun c r => if r = true then do let ok ← isTrue c env (eval c env); pure (ForInStep.yield ok) else pure (ForInStep.yield r)) (fun x _ => x = false) s := by
      intro cs
      induction cs with
      | nil => intro s; exact Gs.pure rfl
      | cons c cs ih =>
        intro s
        rw [List.forIn_cons]
        simp only [Bool.false_eq_true, if_false]
        exact Gs.bind (R := fun x _ => x = ForInStep.yield false) (Gs.pure rfl) fun a h' tk o e => by subst e; exact ih _
    split at h
    · rename_i ht
      refine Gs.bind (R := fun x _ => x = ForInStep.yield true) (Gs.bind (ST.snd _ _ _ _ ht _ _ _ _ _ hA O) fun a h' tk o e => Gs.pure (by rw [e])) fun a h' tk o e => ?_
      subst e
      exact tests_sound ST hA (O.keeps o) h
    · rename_i ht
      cases h
      refine Gs.bind (R := fun x _ => x = ForInStep.yield false) (Gs.bind (ST.snd _ _ _ _ ht _ _ _ _ _ hA O) fun a h' tk o e => Gs.pure (by rw [e])) fun a h' tk o e => ?_
      subst e
      exact stop cs _
    · cases h

/-- what an inner part does -/
def InnerOk {α : Type} (prog : Program) (w : World) (hT : Heap) (A : Around) (env : Env) (sc : Names) (h₀ : Heap) (X : Addr → Prop) (D : Addr) (inner : Sem Unit) (innerF : Rho → Option (List α)) (Acc : (Addr → Prop) → Heap → List α → Prop) : Prop :=
  ∀ (ρ : Rho) (s : Shared) (l a : List α) (Q : Unit → Shared → Prop) (E : Value → Shared → Prop), EnvOk prog w hT env sc ρ X h₀ s.heap → 0 < s.toks → (l ++ a).length ≤ 1000000 → Acc X s.heap l → innerF ρ = some a →
    (∀ h' tk, 0 < tk → EnvOk prog w hT env sc ρ X h₀ h' → Acc X h' (l ++ a) → (∀ b o, b ≠ D → ¬ Own env b → s.heap.get? b = some o → h'.get? b = some o) → Q () { s with heap := h', toks := tk }) → wpAny (model prog w) A inner Q E s

def turnF {α : Type} (T : Rho → Expr → Option Bool) (sc : Names) (g : Comprehension) (ρ : Rho) (innerF : Rho → Option (List α)) (d : D) : Option (List α) := match bindD sc g.target d ρ with
  | none => none
  | some ρ1 => match testsD (T ρ1) g.ifs with
    | none => none
    | some false => some []
    | some true => innerF ρ1

def innerOf (e : Expr) (gens : List Comprehension) (emit : Sem Unit) (depth : Nat) (acc : Value) (env : Env) : Sem Unit :=
  match gens[depth + 1]? with
  | some g' => do
    let x ← eval g'.iter env
    standAt g'.iter.pos
    let x ← foldedSetIterable g'.iter env x
    let it ← holding [x] (pyIter x)
    let _ ← runOwn (.compStart e (depth + 1) it acc env) env
    pure ()
  | none => emit

theorem turn_wp {e : Expr} {gens : List Comprehension} {emit : Sem Unit} {depth : Nat} {it acc : Value} {g : Comprehension} {Q : Fin → Shared → Prop} {E : Value → Shared → Prop} (hg : gens[depth]? = some g) (ha : g.is_async = 0) (hx : ∀ g', gens[depth + 1]? = some g' → g'.is_async = 0)
    (h : wpAny (model prog w) A (pyNext it) (fun r s₁ => match r with
      | none => Q (.done .next) s₁
      | some v => wpAny (model prog w) A (letOwnedTupleGo g.target it v) (fun _ s₂ => wpAny (model prog w) A (assign g.target env v) (fun _ s₃ =>
          wpAny (model prog w) A (forIn g.ifs true fun c r => if r = true then do let ok ← isTrue c env (eval c env); pure (ForInStep.yield ok) else pure (ForInStep.yield r)) (fun ok s₄ =>
            if ok = true then wpAny (model prog w) A (innerOf e gens emit depth acc env) (fun _ s₅ => Q (.again (.compLoop e depth it acc env)) s₅) E s₄ else Q (.again (.compLoop e depth it acc env)) s₄) E s₃) E s₂) E s₁) E s) :
    wpAny (model prog w) A (turnOf e gens emit depth it acc env) Q E s := by
  unfold turnOf
  rw [hg]
  have e0 : (0 != 0) = false := rfl
  simp only [ha, bne_self_eq_false, Bool.false_eq_true, if_false]
  refine wpAny_bind (wpAny_standAt (wpAny_bind (wpAny_mono h (fun r s₁ h₁ => ?_) fun _ _ x => x)))
  cases r with
  | none => exact wpAny_pure h₁
  | some v =>
    refine wpAny_bind (wpAny_mono h₁ (fun _ s₂ h₂ => wpAny_bind (wpAny_mono h₂ (fun _ s₃ h₃ => wpAny_bind (wpAny_mono h₃ (fun ok s₄ h₄ => ?_) fun _ _ x => x)) fun _ _ x => x)) fun _ _ x => x)
    cases ok with
    | false => exact wpAny_pure h₄
    | true =>
      simp only [if_true] at h₄ ⊢
      unfold innerOf at h₄
      cases hg' : gens[depth + 1]? with
      | none =>
        rw [hg'] at h₄
        exact wpAny_bind (wpAny_mono h₄ (fun _ s₅ h₅ => wpAny_pure h₅) fun _ _ x => x)
      | some g' =>
        rw [hg'] at h₄
        simp only [hx g' hg', bne_self_eq_false, Bool.false_eq_true, if_false]
        have : wpAny (model prog w) A ((do
          let x ← eval g'.iter env
          standAt g'.iter.pos
          let x ← foldedSetIterable g'.iter env x
          let it ← holding [x] (pyIter x)
          let _ ← runOwn (.compStart e (depth + 1) it acc env) env
          pure ()) >>= fun _ => again (.compLoop e depth it acc env)) Q E s₄ := wpAny_bind (wpAny_mono h₄ (fun _ s₅ h₅ => wpAny_pure h₅) fun _ _ x => x)
        simpa only [bind_assoc, pure_bind] using this

theorem one_loop {α : Type} {T : Tst} (ST : TSnd prog w hT k T) (hA : AOk k A) {e : Expr} {gens : List Comprehension} {emit : Sem Unit} {acc : Value} {D : Addr} {Acc : (Addr → Prop) → Heap → List α → Prop}
    (CE : CompE prog w A e gens emit acc env) (AO : AccOk D Acc) (hDo : ¬ Own env D) {d : Nat} {g : Comprehension} (hg : gens[d]? = some g) (ha : g.is_async = 0) (hx : ∀ g', gens[d + 1]? = some g' → g'.is_async = 0)
    {Xp X : Addr → Prop} {ρ : Rho} {xs : List Mine.D} {out l : List α} {hb : Heap} {I : Addr} {fp wr : List Addr} {P Md : Nat → Value → Heap → Prop} {St : Nat → Heap → Prop} {s : Shared} {R : Result → Shared → Prop} {innerF : Rho → Option (List α)}
    (W : KTurns prog w A g.target I fp wr xs.length P Md St) (st0 : St 0 s.heap) (lvSt : ∀ i h, St i h → ∀ b ∈ wr, ∃ o, h.get? b = some o)
    (hX : ∀ a, X a ↔ (Xp a ∨ a ∈ wr)) (hwr : ∀ b ∈ wr, h₀.get? b = none ∧ ¬ Own env b ∧ ¬ Xp b ∧ b ≠ D) (hfp : ∀ b ∈ fp, ¬ Own env b ∧ b ≠ D ∧ (b ∈ wr ∨ ¬ Xp b))
    (items : ∀ i v h' d, (∀ b o, ¬ X b → hb.get? b = some o → h'.get? b = some o) → P i v h' → xs[i]? = some d → ItAt prog w X h' (isTup g.target) v d)
    (hbs : ∀ b o, hb.get? b = some o → s.heap.get? b = some o) (Op : EnvOk prog w hT env sc ρ Xp h₀ s.heap) (O : EnvOk prog w hT env sc ρ X h₀ s.heap) (hXD : Xp D) (ac : Acc X s.heap l) (h0 : 0 < s.toks)
    (ht : freshT ρ g.target = true) (inner : InnerOk prog w hT A env sc h₀ X D (innerOf e gens emit d acc env) innerF Acc) (hout : forItems (turnF (T sc) sc g ρ innerF) xs = some out) (hlen : (l ++ out).length ≤ 1000000)
    (post : ∀ h' tk, 0 < tk → EnvOk prog w hT env sc ρ Xp h₀ h' → Acc Xp h' (l ++ out) → (∀ b o, b ≠ D → ¬ Own env b → b ∉ wr → s.heap.get? b = some o → h'.get? b = some o) → R (.ok .next) { s with heap := h', toks := tk }) :
    codeAny (model prog w) A (.compLoop e d (.ref I) acc env) R s := by
  have XpX : ∀ a, Xp a → X a := fun a q => (hX a).mpr (.inl q)
  have wrX : ∀ a, a ∈ wr → X a := fun a q => (hX a).mpr (.inr q)
  refine CE.loop d (.ref I) R (fun n s' => ∃ i l' out' h' tk, s' = { s with heap := h', toks := tk } ∧ n = xs.length - i ∧ i ≤ xs.length ∧ St i h' ∧ EnvOk prog w hT env sc ρ X h₀ h' ∧ Acc X h' l' ∧ 0 < tk ∧ forItems (turnF (T sc) sc g ρ innerF) (xs.drop i) = some out' ∧ l' ++ out' = l ++ out ∧
    (∀ b o, ¬ X b → hb.get? b = some o → h'.get? b = some o) ∧ (∀ b o, b ≠ D → ¬ Own env b → b ∉ wr → s.heap.get? b = some o → h'.get? b = some o)) ?_ xs.length s ⟨0, l, out, s.heap, s.toks, rfl, by simp, Nat.zero_le _, st0, O, ac, h0, by simpa using hout, rfl, fun b o _ e => hbs b o e, fun b o _ _ _ e => e⟩
  rintro n s' ⟨i, l', out', h', tk, rfl, rfl, hi, st, O', ac', h0', ho, el, kb, ks⟩
  refine turn_wp hg ha hx ?_
  by_cases hlt : i < xs.length
  case neg =>
    have : i = xs.length := by omega
    subst this
    refine wpAny_with_toks (n := 1) h0' (W.done _ _ _ st fun h₁ tk₁ hk => ?_)
    intro h1
    rw [List.drop_length] at ho
    cases ho
    rw [List.append_nil] at el
    subst el
    refine post h₁ tk₁ h1 (O'.cut Op XpX (fun a => a ∈ wr) hk (fun a q => ⟨wrX a q, (hwr a q).1, (hwr a q).2.1⟩) fun a q z => absurd q (hwr a z).2.2.1) ?_ fun b o n1 n2 n3 e => hk b o n3 (ks b o n1 n2 n3 e)
    refine AO.keep X Xp h₁ h₁ _ (AO.keep X X h' h₁ _ ac' (fun _ _ _ q => q) (fun b o nb e => hk b o (fun z => nb (wrX b z)) e) (fun o e => hk D o (fun z => (hwr D z).2.2.2 rfl) e)) (fun a o _ q => XpX a q) (fun _ _ _ e => e) (fun _ e => e)
  case pos =>
    have hdrop : xs.drop i = xs[i] :: xs.drop (i + 1) := List.drop_eq_getElem_cons hlt
    rw [hdrop] at ho
    unfold forItems at ho
    split at ho
    · rename_i ad hd
      split at ho
      · rename_i bd hbd
        cases ho
        refine wpAny_with_toks (n := 1) h0' (W.item i _ _ _ hlt st fun v h₁ tk₁ md hk1 => ?_)
        intro p1
        refine W.go i v _ _ _ md fun h₂ pi st2 hk2 => ?_
        have hk12 : ∀ b o, b ∉ wr → h'.get? b = some o → h₂.get? b = some o := fun b o nb e => hk2 b o nb (hk1 b o nb e)
        have O₂ : EnvOk prog w hT env sc ρ X h₀ h₂ := O'.cut O (fun _ q => q) (fun a => a ∈ wr) hk12 (fun a q => ⟨wrX a q, (hwr a q).1, (hwr a q).2.1⟩) fun a _ q => lvSt _ _ st2 a q
        have kb2 : ∀ b o, ¬ X b → hb.get? b = some o → h₂.get? b = some o := fun b o nb e => hk12 b o (fun z => nb (wrX b z)) (kb b o nb e)
        have it := items i v h₂ xs[i] kb2 pi (by simp [hlt])
        have ac2 : Acc X h₂ l' := AO.keep X X h' h₂ _ ac' (fun _ _ _ q => q) (fun b o nb e => hk12 b o (fun z => nb (wrX b z)) e) (fun o e => hk12 D o (fun z => (hwr D z).2.2.2 rfl) e)
        unfold turnF at hd
        split at hd
        · cases hd
        · rename_i ρ1 hbind
          refine wpAny_with_toks (n := 1) p1 (assign_sound (s := { s with heap := h₂, toks := tk₁ }) hA.1 O₂ it hbind fun h₃ tk₃ O₃ l₃ k₃ => ?_)
          intro p3
          have ownX : ∀ {b}, Own env b → X b := fun hb => by
            rcases hb with rfl | ⟨y, z⟩
            · exact O.locX
            · exact O.ownX y _ z
          have ac3 : Acc X h₃ l' := AO.keep X X h₂ h₃ _ ac2 (fun _ _ _ q => q) (fun b o nb e => k₃ b o (fun z => nb (ownX z)) e) (fun o e => k₃ D o hDo e)
          have st3 : St (i + 1) h₃ := W.frame _ _ _ st2 fun b hb o e => k₃ b o (hfp b hb).1 e
          split at hd
          · cases hd
          · rename_i hts
            cases hd
            refine tests_sound ST hA O₃ hts p3 _ _ fun ok h₄ tk₄ l₄ o₄ e₄ => ?_
            subst e₄
            refine ⟨rfl, xs.length - (i + 1), by omega, i + 1, l', bd, h₄, tk₄, rfl, rfl, hlt, W.frame _ _ _ st3 fun b _ o e => o₄ b o e, (O₃.keeps o₄).less (bind_fresh hbind ht), AO.keep X X h₃ h₄ _ ac3 (fun _ _ _ q => q) (fun b o _ e => o₄ b o e) (fun o e => o₄ D o e), Nat.lt_of_lt_of_le p3 l₄, hbd, by simpa using el, fun b o nb e => o₄ b o (k₃ b o (fun z => nb (ownX z)) (kb2 b o nb e)), fun b o n1 n2 n3 e => o₄ b o (k₃ b o n2 (hk12 b o n3 (ks b o n1 n2 n3 e)))⟩
          · rename_i hts
            refine tests_sound ST hA O₃ hts p3 _ _ fun ok h₄ tk₄ l₄ o₄ e₄ => ?_
            subst e₄
            refine inner ρ1 { s with heap := h₄, toks := tk₄ } l' ad _ _ (O₃.keeps o₄) (Nat.lt_of_lt_of_le p3 l₄) (by have := congrArg List.length el; simp only [List.length_append] at this hlen ⊢; omega) (AO.keep X X h₃ h₄ _ ac3 (fun _ _ _ q => q) (fun b o _ e => o₄ b o e) (fun o e => o₄ D o e)) hd fun h₅ tk₅ p5 O₅ ac5 k₅ => ?_
            refine ⟨rfl, xs.length - (i + 1), by omega, i + 1, l' ++ ad, bd, h₅, tk₅, rfl, rfl, hlt, W.frame _ _ _ st3 fun b hb o e => k₅ b o (hfp b hb).2.1 (hfp b hb).1 (o₄ b o e), O₅.less (bind_fresh hbind ht), ac5, p5, hbd, by rw [List.append_assoc]; exact el, fun b o nb e => k₅ b o (fun z => nb (by rw [z]; exact XpX _ hXD)) (fun z => nb (ownX z)) (o₄ b o (k₃ b o (fun z => nb (ownX z)) (kb2 b o nb e))), fun b o n1 n2 n3 e => k₅ b o n1 n2 (o₄ b o (k₃ b o n2 (hk12 b o n3 (ks b o n1 n2 n3 e))))⟩
      · cases ho
    · cases ho

theorem mark_none (A : Around) : A.mark none = A := by cases A; rfl
theorem genD_eq {α : Type} {T : Rho → Expr → Option Bool} {I : Bool → Rho → Expr → Option (List D)} {emit : Rho → Option α} {g : Comprehension} {gs : List Comprehension} {ρ : Rho} {xs : List D} {out : List α} (h : genD T I emit sc (g :: gs) ρ xs = some out) :
    freshT ρ g.target = true ∧ forItems (turnF T sc g ρ fun ρ1 => match gs with
      | [] => (emit ρ1).map fun a => [a]
      | g' :: _ => match I (isTup g'.target) ρ1 g'.iter with
        | none => none
        | some ys => genD T I emit sc gs ρ1 ys) xs = some out := by
  unfold genD at h
  split at h
  · exact ⟨‹_›, h⟩
  · cases h

def innerD {α : Type} (T : Tst) (G : Rho) (F : Ev) (sc : Names) (emitF : Rho → Option α) (gs : List Comprehension) (ρ1 : Rho) : Option (List α) := match gs with
  | [] => (emitF ρ1).map fun a => [a]
  | g' :: _ => match itemsD G F sc ρ1 (isTup g'.target) g'.iter with
    | none => none
    | some ys => genD (T sc) (fun tup ρ e => itemsD G F sc ρ tup e) emitF sc gs ρ1 ys

/-- one level of the loops, the inner part given -/
theorem level_sound {α : Type} {T : Tst} (ST : TSnd prog w hT k T) (hA : AOk k A) {e : Expr} {gens : List Comprehension} {emit : Sem Unit} {emitF : Rho → Option α} {acc : Value} {D : Addr} {Acc : (Addr → Prop) → Heap → List α → Prop}
    (CE : CompE prog w A e gens emit acc env) (AO : AccOk D Acc) (hDo : ¬ Own env D) (hall : ∀ g ∈ gens, g.is_async = 0) (gs : List Comprehension) (d : Nat) (g : Comprehension) (hdr : gens.drop d = g :: gs)
    (inner : ∀ X, X D → InnerOk prog w hT A env sc h₀ X D (innerOf e gens emit d acc env) (innerD T G F sc emitF gs) Acc)
    (Xp : Addr → Prop) (ρ : Rho) (xs : List Mine.D) (out l : List α) (hb : Heap) (it : Value) (s : Shared) (R : Result → Shared → Prop)
    (src : Src prog w A Xp g.target xs hb it s.heap) (lvp : ∀ a, Xp a → ∃ o, hb.get? a = some o) (oh : Old h₀ hb) (ohb : Old hb s.heap) (Ob : EnvOk prog w hT env sc ρ Xp h₀ hb) (hXD : Xp D) (ac : Acc Xp hb l) (h0 : 0 < s.toks)
    (hgen : genD (T sc) (fun tup ρ e => itemsD G F sc ρ tup e) emitF sc (g :: gs) ρ xs = some out) (hlen : (l ++ out).length ≤ 1000000)
    (post : ∀ h' tk, 0 < tk → EnvOk prog w hT env sc ρ Xp h₀ h' → Acc Xp h' (l ++ out) → (∀ b o, b ≠ D → ¬ Own env b → hb.get? b = some o → h'.get? b = some o) → R (.ok .next) { s with heap := h', toks := tk }) :
    codeAny (model prog w) A (.compLoop e d it acc env) R s ∧ wpAny (model prog w) A (pyIter it) (fun it' s' => codeAny (model prog w) A (.compLoop e d it' acc env) R s') (notedBy (model prog w) A env fun x s' => R (.error x) s') s := by
  obtain ⟨I, fp, wr, P, Md, St, rfl, W, self, st0, lvSt, lvfp, frw, hfp, items⟩ := src
  have hg : gens[d]? = some g := by
    have := congrArg List.head? hdr
    simpa [List.head?_drop] using this
  have hgm : ∀ (i : Nat) (g : Comprehension), gens[i]? = some g → g.is_async = 0 := fun i g h => hall g (List.mem_of_getElem? h)
  obtain ⟨ht, ho⟩ := genD_eq hgen
  have wX : ∀ b ∈ wr, ¬ Xp b := fun b hb' q => by obtain ⟨o, e⟩ := lvp b q; rw [frw b hb'] at e; cases e
  have ownX : ∀ {b}, Own env b → Xp b := fun hb => by
    rcases hb with rfl | ⟨y, z⟩
    · exact Ob.locX
    · exact Ob.ownX y _ z
  have Op := Ob.keeps ohb
  have hnew : ∀ a, (Xp a ∨ a ∈ wr) → Xp a ∨ (hb.get? a = none ∧ ∃ o, s.heap.get? a = some o) := fun a q => q.imp id fun q => ⟨frw a q, lvSt _ _ st0 a q⟩
  have O : EnvOk prog w hT env sc ρ (fun a => Xp a ∨ a ∈ wr) h₀ s.heap := Ob.widen ohb (fun a q => .inl q) hnew
  have grow : ∀ a o, hb.get? a = some o → (Xp a ∨ a ∈ wr) → Xp a := fun a o e q => q.elim id fun q => by rw [frw a q] at e; cases e
  have ac2 : Acc (fun a => Xp a ∨ a ∈ wr) s.heap l := AO.keep _ _ _ _ _ ac grow (fun b o _ e => ohb b o e) (fun o e => ohb _ o e)
  have go : codeAny (model prog w) A (.compLoop e d (.ref I) acc env) R s := by
    refine one_loop ST hA CE AO hDo hg (hgm d g hg) (fun g' h => hgm _ g' h) W st0 lvSt (fun a => Iff.rfl) (fun b hb' => ⟨?_, ?_, wX b hb', ?_⟩) (fun b hb' => ⟨?_, ?_, ?_⟩) (fun i v h' d hk hp hd => items i v h' d _ grow hk hp hd) ohb Op O hXD ac2 h0 ht (inner _ (.inl hXD)) ho hlen fun h' tk p O' ac' k' => post h' tk p O' ac' fun b o n1 n2 e => k' b o n1 n2 (fun z => by rw [frw b z] at e; cases e) (ohb b o e)
    · cases e : h₀.get? b with
      | none => rfl
      | some o => have := oh b o e; rw [frw b hb'] at this; cases this
    · exact fun q => wX b hb' (ownX q)
    · exact fun z => wX b hb' (by rw [z]; exact hXD)
    · rcases hfp b hb' with q | q
      · exact fun z => wX b q (ownX z)
      · exact fun z => q (ownX z)
    · rcases hfp b hb' with q | q
      · exact fun z => wX b q (by rw [z]; exact hXD)
      · exact fun z => q (by rw [z]; exact hXD)
    · exact hfp b hb'
  exact ⟨go, self s _ _ st0 go⟩

/-- what stands within a level -/
theorem inner_sound {α : Type} {T : Tst} (S : Snd prog w hT k F) (ST : TSnd prog w hT k T) (hG : GOk prog w hT G) (hA : AOk k A) {e : Expr} {gens : List Comprehension} {emit : Sem Unit} {emitF : Rho → Option α} {acc : Value} {D : Addr} {Acc : (Addr → Prop) → Heap → List α → Prop}
    (CE : CompE prog w A e gens emit acc env) (AO : AccOk D Acc) (EO : EmitOk prog w hT A env sc h₀ D emit emitF Acc) (hD0 : h₀.get? D = none) (hDo : ¬ Own env D) (hall : ∀ g ∈ gens, g.is_async = 0) :
    ∀ (gs : List Comprehension) (d : Nat) (g : Comprehension), gens.drop d = g :: gs → ∀ X, X D → InnerOk prog w hT A env sc h₀ X D (innerOf e gens emit d acc env) (innerD T G F sc emitF gs) Acc := by
  intro gs
  induction gs with
  | nil =>
    intro d g hdr X hXD
    intro ρ s l a Q E O h0 hlen ac hi q
    have hg1 : gens[d + 1]? = none := by
      have := congrArg List.length hdr
      simp at this
      simp; omega
    unfold innerOf
    rw [hg1]
    simp only [innerD, Option.map_eq_some_iff] at hi
    obtain ⟨a', ha', rfl⟩ := hi
    refine wpAny_with_toks (n := 1) h0 (EO ρ X s l a' _ _ O hXD hD0 hDo h0 (by simp at hlen; omega) ac ha' fun h' tk hk ac' => ?_)
    intro p
    exact q h' tk p (O.cut O (fun _ z => z) (fun a => a = D) (fun b o n e => hk b o n e) (fun a z => by subst z; exact ⟨hXD, hD0, hDo⟩) fun a _ z => by subst z; exact AO.live _ _ _ ac') ac' fun b o n1 _ e => hk b o n1 e
  | cons g' gs ih =>
    intro d g hdr X hXD
    intro ρ s l a Q E O h0 hlen ac hi q
    have hdr1 : gens.drop (d + 1) = g' :: gs := by
      have e : gens.drop (d + 1) = (gens.drop d).drop 1 := by rw [List.drop_drop]
      rw [e, hdr]; rfl
    have hg1 : gens[d + 1]? = some g' := by
      have := congrArg List.head? hdr1
      simpa [List.head?_drop] using this
    unfold innerOf
    rw [hg1]
    simp only [innerD] at hi ⊢
    split at hi
    · cases hi
    · rename_i ys hys
      have ht := (genD_eq hi).1
      suffices K : wpAny (model prog w) A (eval g'.iter env) (fun x s₁ => wpAny (model prog w) A (pyIter x) (fun it s₂ => wpAny (model prog w) A (runOwn (.compStart e (d + 1) it acc env) env) (fun _ s₃ => Q () s₃) E s₂) E s₁) E s by
        refine wpAny_bind (wpAny_mono K (fun x s₁ h₁ => wpAny_bind (wpAny_standAt ?_)) fun _ _ x => x)
        refine wpAny_bind (wpAny_of_eq (folded_pure (items_notSet S hys) env x) ?_)
        refine wpAny_bind (wpAny_holding (wpAny_mono h₁ (fun it s₂ h₂ => ?_) fun _ _ x => x))
        exact wpAny_bind (wpAny_mono h₂ (fun _ s₃ h₃ => wpAny_pure h₃) fun _ _ x => x)
      refine items_sound S hG hA O (freshT_tg ht) h0 hys fun it h₁ h₂ tk l₁ o₁ o₂ src => ?_
      refine wpAny_runOwn ?_
      rw [mark_none]
      have two := level_sound ST hA CE AO hDo hall gs (d + 1) g' hdr1 (ih (d + 1) g' hdr1) X ρ ys a l h₁ it { s with heap := h₂, toks := tk } (fun r s' => match r with | .ok f => Q () s' | .error e => cameBackBy (model prog w) A env E e s') src (fun a q => (O.keeps o₁).live a q) (fun b o e => o₁ b o (O.old b o e)) o₂ (O.keeps o₁) hXD (AO.keep _ _ _ _ _ ac (fun _ _ _ q => q) (fun b o _ e => o₁ b o e) (fun o e => o₁ _ o e)) (Nat.lt_of_lt_of_le h0 l₁) hi hlen
        fun h' tk' p O' ac' k' => q h' tk' p O' ac' fun b o n1 n2 e => k' b o n1 n2 (o₁ b o e)
      exact CE.start (d + 1) g' it _ _ hg1 (hall g' (List.mem_of_getElem? hg1)) two.1 two.2
end
end Mine
set_option Elab.async false
set_option maxRecDepth 4000
namespace Mine
open PySem PySem.Calls PyProof.Rows PySem.W PySem.Spec

def cellNames : Names → List Str
  | [] => []
  | (n, k) :: r => if k == .cell then n :: cellNames r else cellNames r
theorem cellsFrom_mem : ∀ (names : Names) (k : Nat) (acc : List (Str × Addr)) (n : Str) (c : Addr), (n, c) ∈ cellsFrom k names acc → (n, c) ∈ acc ∨ ∃ i : Nat, (c : Nat) = k + i ∧ (cellNames names)[i]? = some n
  | [], k, acc, n, c, h => .inl h
  | (x, kk) :: r, k, acc, n, c, h => by
    unfold cellsFrom at h
    unfold cellNames
    split at h
    · rename_i hk
      rw [if_pos hk]
      rcases cellsFrom_mem r (k + 1) _ n c h with h | ⟨i, e, h⟩
      · rcases List.mem_cons.mp h with h | h
        · cases h; exact .inr ⟨0, rfl, rfl⟩
        · exact .inl h
      · exact .inr ⟨i + 1, e.trans (by rw [Nat.add_assoc, Nat.add_comm 1 i]), by simpa using h⟩
    · rename_i hk
      rw [if_neg hk]
      exact cellsFrom_mem r k _ n c h
theorem cellsFrom_acc : ∀ (names : Names) (k : Nat) (acc : List (Str × Addr)) (n : Str), (∃ c, acc.lookup n = some c) → ∃ c, (cellsFrom k names acc).lookup n = some c
  | [], _, _, _, h => h
  | (x, kk) :: r, k, acc, n, h => by
    unfold cellsFrom
    split
    · refine cellsFrom_acc r (k + 1) _ n ?_
      rw [List.lookup_cons]
      split
      · exact ⟨_, rfl⟩
      · exact h
    · exact cellsFrom_acc r k acc n h
theorem cellsFrom_own : ∀ (names : Names) (k : Nat) (acc : List (Str × Addr)) (n : Str), (n, NameKind.cell) ∈ names → ∃ c, (cellsFrom k names acc).lookup n = some c
  | (x, kk) :: r, k, acc, n, h => by
    unfold cellsFrom
    rcases List.mem_cons.mp h with h | h
    · cases h
      rw [if_pos (by rfl)]
      exact cellsFrom_acc r (k + 1) _ _ ⟨k, by rw [List.lookup_cons, beq_self_eq_true]⟩
    · split
      · exact cellsFrom_own r _ _ n h
      · exact cellsFrom_own r _ _ n h
theorem pushCells_new : ∀ (names : Names) (h : Heap) (i : Nat) (n : Str), (cellNames names)[i]? = some n → (pushCells h names).get? (h.objs.size + i) = some { cls := .type "cell", data := .cell none }
  | [], h, i, n, e => by simp [cellNames] at e
  | (x, kk) :: r, h, i, n, e => by
    unfold pushCells
    unfold cellNames at e
    split
    · rename_i hk
      rw [if_pos hk] at e
      cases i with
      | zero => exact pushCells_keeps _ _ _ _ (Heap.get?_push_size _ rfl)
      | succ i =>
        have := pushCells_new r (h.push { cls := .type "cell", data := .cell none }) i n (by simpa using e)
        rw [Heap.size_push] at this
        rw [show h.objs.size + (i + 1) = h.objs.size + 1 + i by omega]; exact this
    · rename_i hk
      rw [if_neg hk] at e
      exact pushCells_new r h i n e
/-- the cells handed on -/
def closL (cells : List (Str × Addr)) : Names → List (Str × Addr) → List (Str × Addr)
  | [], acc => acc
  | (n, k) :: r, acc => if k == .free then closL cells r ((n, (cells.lookup n).getD 0) :: acc) else closL cells r acc
theorem closL_mem {cells : List (Str × Addr)} : ∀ (names : Names) (acc : List (Str × Addr)) (n : Str) (c : Addr), (n, c) ∈ closL cells names acc → (n, c) ∈ acc ∨ ((n, NameKind.free) ∈ names ∧ c = (cells.lookup n).getD 0)
  | [], acc, n, c, h => .inl h
  | (x, kk) :: r, acc, n, c, h => by
    unfold closL at h
    split at h
    · rename_i hk
      rcases closL_mem r _ n c h with h | ⟨h, e⟩
      · rcases List.mem_cons.mp h with h | h
        · cases h
          have : kk = .free := eq_of_beq hk
          subst this
          exact .inr ⟨List.mem_cons_self, rfl⟩
        · exact .inl h
      · exact .inr ⟨List.mem_cons_of_mem _ h, e⟩
    · rcases closL_mem r _ n c h with h | ⟨h, e⟩
      · exact .inl h
      · exact .inr ⟨List.mem_cons_of_mem _ h, e⟩
theorem closL_acc {cells : List (Str × Addr)} : ∀ (names : Names) (acc : List (Str × Addr)) (n : Str), (∃ c, acc.lookup n = some c) → ∃ c, (closL cells names acc).lookup n = some c
  | [], _, _, h => h
  | (x, kk) :: r, acc, n, h => by
    unfold closL
    split
    · refine closL_acc r _ n ?_
      rw [List.lookup_cons]
      split
      · exact ⟨_, rfl⟩
      · exact h
    · exact closL_acc r _ n h
theorem closL_own {cells : List (Str × Addr)} : ∀ (names : Names) (acc : List (Str × Addr)) (n : Str), (n, NameKind.free) ∈ names → ∃ c, (closL cells names acc).lookup n = some c
  | (x, kk) :: r, acc, n, h => by
    unfold closL
    rcases List.mem_cons.mp h with h | h
    · cases h
      rw [if_pos (by rfl)]
      exact closL_acc r _ _ ⟨_, by rw [List.lookup_cons, beq_self_eq_true]⟩
    · split
      · exact closL_own r _ n h
      · exact closL_own r _ n h
theorem closureFor_eq {scope : Scope} {env : Env} (h : ∀ n, (n, NameKind.free) ∈ scope.names → ∃ c, env.cells.lookup n = some c) : closureFor scope env = pure (closL env.cells scope.names []) := by
  unfold closureFor
  have key : ∀ (names : Names) (acc : List (Str × Addr)), (∀ n, (n, NameKind.free) ∈ names → ∃ c, env.cells.lookup n = some c) →
      (forIn names acc fun (x : Str × NameKind) cs => match x with | (name, kind) => if (kind == NameKind.free) = true then do let c ← cellOf env name; pure (ForInStep.yield ((name, c) :: cs)) else pure (ForInStep.yield cs) : Sem (List (Str × Addr))) = pure (closL env.cells names acc) := by
    intro names
    induction names with
    | nil => intro acc _; rfl
    | cons x r ih =>
      intro acc h
      obtain ⟨n, kk⟩ := x
      rw [List.forIn_cons]
      unfold closL
      dsimp only
      by_cases hk : (kk == NameKind.free) = true
      · rw [if_pos hk, if_pos hk]
        have : kk = .free := eq_of_beq hk
        subst this
        obtain ⟨c, hc⟩ := h n List.mem_cons_self
        have e : cellOf env n = pure c := by unfold cellOf; rw [hc]
        rw [e, hc]
        simp only [pure_bind, Option.getD_some]
        exact ih _ fun n hn => h n (List.mem_cons_of_mem _ hn)
      · rw [if_neg hk, if_neg hk]
        simp only [pure_bind]
        exact ih _ fun n hn => h n (List.mem_cons_of_mem _ hn)
  exact (bind_pure _).trans (key scope.names [] h)
end Mine
set_option Elab.async false
set_option maxRecDepth 4000
namespace Mine
open PySem PySem.Calls PyProof.Rows PySem.W PySem.Spec

def nameOk (sc : Names) (p : Str × NameKind) : Bool := decide (p.1 ≠ ("__debug__" : Str)) && decide (p.1 ≠ ("__classdict__" : Str)) && match p.2 with
  | .local => true
  | .cell => true
  | .free => match sc.lookup p.1 with
    | some .cell => true
    | some .free => true
    | _ => false
  | .globalImplicit => true
  | .globalExplicit => false
def scopeOk (sc : Names) (scope : Scope) : Bool := (scope.kind == .function) && scope.names.all (nameOk sc) && decide (scope.names.map Prod.fst).Nodup
def closRho (ρ : Rho) (names : Names) : Rho := fun x => match names.lookup x with
  | some .free => ρ x
  | _ => none
def cenvOf (env : Env) (scope : Scope) (L : Addr) : Env :=
  { scope := relabel scope env, locals := L, globals := env.globals, cells := cellsFrom (L + 1) scope.names (closL env.cells scope.names []), qual := env.qual, func := none, code := env.code, frame := env.frame, builtins := env.builtins }

section
variable {prog : Program} {w : World} {hT : Heap} {k : Nat} {A : Around} {X : Addr → Prop} {s : Shared} {env : Env} {sc : Names} {ρ ρ' : Rho} {h₀ h h' : Heap} {F : Ev} {G : Rho} {Φ : Addr → List D → Option D}

theorem lookup_of_mem : ∀ {names : Names} {n : Str} {k : NameKind}, (names.map Prod.fst).Nodup → (n, k) ∈ names → names.lookup n = some k
  | (x, kk) :: r, n, k, hn, h => by
    rw [List.map_cons, List.nodup_cons] at hn
    rw [List.lookup_cons]
    rcases List.mem_cons.mp h with h | h
    · cases h; rw [beq_self_eq_true]
    · have : n ≠ x := fun z => hn.1 (by rw [← z]; exact List.mem_map.mpr ⟨(n, k), h, rfl⟩)
      have e : (n == x) = false := by simpa using this
      rw [e]
      exact lookup_of_mem hn.2 h

theorem relabel_kinds {scope : Scope} {x : Str} {k : NameKind} (h : scope.names.lookup x = some k) (hg : k ≠ .globalExplicit) : KindOk k ((relabel scope env).names.lookup x) := by
  have key : ∀ (names : Names), names.lookup x = some k → (names.map fun (n, k) => if (k == NameKind.free && env.scope.kind == .function && env.kindOf n == some .cell) then (n, NameKind.cell) else (n, k)).lookup x = some k ∨
      (k = .free ∧ (names.map fun (n, k) => if (k == NameKind.free && env.scope.kind == .function && env.kindOf n == some .cell) then (n, NameKind.cell) else (n, k)).lookup x = some .cell) := by
    intro names
    induction names with
    | nil => intro h; cases h
    | cons p r ih =>
      intro h
      obtain ⟨n, kk⟩ := p
      rw [List.lookup_cons] at h
      rw [List.map_cons]
      dsimp only
      by_cases hx : (x == n) = true
      · rw [hx] at h
        obtain rfl := Option.some.inj h
        by_cases hc : (kk == NameKind.free && env.scope.kind == .function && env.kindOf n == some .cell) = true
        · rw [if_pos hc, List.lookup_cons, hx]
          refine .inr ⟨?_, rfl⟩
          simp only [Bool.and_eq_true] at hc
          exact eq_of_beq hc.1.1
        · rw [if_neg hc, List.lookup_cons, hx]
          exact .inl rfl
      · have hx' : (x == n) = false := by simpa using hx
        rw [hx'] at h
        have := ih h
        by_cases hc : (kk == NameKind.free && env.scope.kind == .function && env.kindOf n == some .cell) = true
        · rw [if_pos hc, List.lookup_cons, hx']; exact this
        · rw [if_neg hc, List.lookup_cons, hx']; exact this
  have : (relabel scope env).names.lookup x = some k ∨ (k = .free ∧ (relabel scope env).names.lookup x = some .cell) := key scope.names h
  rcases this with e | ⟨rfl, e⟩
  · rw [e]
    cases k
    · rfl
    · rfl
    · exact .inl rfl
    · exact absurd rfl hg
    · rfl
  · rw [e]; exact .inr rfl

/-- the marks of a new block -/
def NewX (X : Addr → Prop) (L : Addr) (names : Names) (a : Addr) : Prop := X a ∨ a = L ∨ ∃ i n, (a : Nat) = L + 1 + i ∧ (cellNames names)[i]? = some n

theorem closed (O : EnvOk prog w hT env sc ρ X h₀ h) {scope : Scope} (hs : scopeOk sc scope = true) : ∀ n, (n, NameKind.free) ∈ scope.names → ∃ c v, env.cells.lookup n = some c ∧ h.IsCell c v := by
  intro n hn
  simp only [scopeOk, Bool.and_eq_true, List.all_eq_true] at hs
  have := hs.1.2 _ hn
  simp only [nameOk, Bool.and_eq_true] at this
  have t := this.2
  split at t
  · obtain ⟨c, v, e, b, _⟩ := O.cell n (.inl ‹_›); exact ⟨c, v, e, b⟩
  · obtain ⟨c, v, e, b, _⟩ := O.cell n (.inr ‹_›); exact ⟨c, v, e, b⟩
  · cases t

/-- the block of a comprehension -/
theorem EnvOk.comp (O : EnvOk prog w hT env sc ρ X h₀ h) {scope : Scope} (hs : scopeOk sc scope = true) {hb : Heap} (ob : Old hb h) (cls : Value) :
    EnvOk prog w hT (cenvOf env scope h.objs.size) scope.names (closRho ρ scope.names) (NewX X h.objs.size scope.names) hb (pushCells (h.push { cls := cls, data := .dict #[] }) scope.names) := by
  have C := closed O hs
  have hs0 := hs
  simp only [scopeOk, Bool.and_eq_true, List.all_eq_true, decide_eq_true_eq] at hs
  obtain ⟨⟨hkind, hok⟩, hnd⟩ := hs
  have hsz : (h.push { cls := cls, data := .dict #[] }).objs.size = h.objs.size + 1 := Heap.size_push ..
  have keep : Old h (pushCells (h.push { cls := cls, data := .dict #[] }) scope.names) := fun b o e => pushCells_keeps _ _ _ _ (alloc_old _ _ _ _ e)
  have newC : ∀ i n, (cellNames scope.names)[i]? = some n → (pushCells (h.push { cls := cls, data := .dict #[] }) scope.names).get? (h.objs.size + 1 + i) = some { cls := .type "cell", data := .cell none } := fun i n e => by
    have := pushCells_new scope.names (h.push { cls := cls, data := .dict #[] }) i n e
    rw [hsz] at this; exact this
  have mem : ∀ n c, (cenvOf env scope h.objs.size).cells.lookup n = some c → (∃ i : Nat, (c : Nat) = h.objs.size + 1 + i ∧ (cellNames scope.names)[i]? = some n) ∨ ((n, NameKind.free) ∈ scope.names ∧ env.cells.lookup n = some c) := fun n c e => by
    rcases cellsFrom_mem _ _ _ _ _ (mem_of_lookup e) with hm | hm
    · rcases closL_mem _ _ _ _ hm with hm | ⟨hm, e⟩
      · cases hm
      · obtain ⟨c', v, ec, _⟩ := C n hm
        rw [ec] at e
        exact .inr ⟨hm, by rw [ec, e]; rfl⟩
    · exact .inl hm
  have fresh : ∀ j, h.objs.size ≤ j → h.get? j = none := fun j hj => fresh_size _ hj
  have ge : ∀ {c : Addr} {i : Nat}, (c : Nat) = h.objs.size + 1 + i → h.get? c = none := fun {c i} e => fresh c (by rw [e]; exact Nat.le_trans (Nat.le_succ _) (Nat.le_add_right _ _))
  have nd : ∀ {x k}, scope.names.lookup x = some k → (x, k) ∈ scope.names := fun e => mem_of_lookup e
  have kd : ∀ x k, scope.names.lookup x = some k → k ≠ .globalExplicit := fun x k e z => by
    subst z
    have := hok _ (nd e)
    simp [nameOk] at this
  have hn : ∀ {hx : Heap} {a : Addr}, Old hx h → h.get? a = none → hx.get? a = none := fun {hx a} o e => by
    cases e' : hx.get? a with
    | none => rfl
    | some ob => rw [o a ob e'] at e; cases e
  have atC : ∀ x c, env.cells.lookup x = some c → (x, NameKind.free) ∈ scope.names → (cenvOf env scope h.objs.size).cells.lookup x = some c := fun x c e hm => by
    obtain ⟨c', e'⟩ := cellsFrom_acc scope.names (h.objs.size + 1) _ x (closL_own (cells := env.cells) scope.names [] x hm)
    have e'' : (cenvOf env scope h.objs.size).cells.lookup x = some c' := e'
    rcases mem x c' e'' with ⟨i, _, hi⟩ | ⟨_, e3⟩
    · have hm2 : ∀ (names : Names) (i : Nat), (cellNames names)[i]? = some x → (x, NameKind.cell) ∈ names := by
        intro names
        induction names with
        | nil => intro i h; simp [cellNames] at h
        | cons p r ih =>
          intro i h
          obtain ⟨n, kk⟩ := p
          unfold cellNames at h
          split at h
          · rename_i hk
            cases i with
            | zero =>
              have : n = x := by simpa using h
              have hk' : kk = .cell := eq_of_beq hk
              subst this hk'
              exact List.mem_cons_self
            | succ i => exact List.mem_cons_of_mem _ (ih i (by simpa using h))
          · exact List.mem_cons_of_mem _ (ih i h)
      have a1 := lookup_of_mem hnd (hm2 _ _ hi)
      have a2 := lookup_of_mem hnd hm
      rw [a1] at a2; cases a2
    · rw [e] at e3; cases e3; exact e''
  refine
    { kind := eq_of_beq hkind, glob := O.glob, bltn := O.bltn, kinds := fun x k e => relabel_kinds e (kd x k e)
      loc := ⟨_, (Heap.Ns.new h cls).keeps (pushCells_keeps _ _)⟩
      locX := .inr (.inl rfl), locF := hn ob (fresh _ (Nat.le_refl _))
      cell := ?_, cellF := ?_, ownX := ?_, apart := ?_, off := ?_
      top := fun b o e => keep b o (O.top b o e), tX := ?_, old := fun b o e => keep b o (ob b o e), live := ?_
      sane := ?_, vals := ?_ }
  · rintro x (hx | hx)
    · obtain ⟨c, e⟩ := cellsFrom_own scope.names (h.objs.size + 1) (closL env.cells scope.names []) x (nd hx)
      have e' : (cenvOf env scope h.objs.size).cells.lookup x = some c := e
      rcases mem x c e' with ⟨i, ei, hi⟩ | ⟨hm, _⟩
      · refine ⟨c, none, e', ⟨_, by rw [show c = h.objs.size + 1 + i from ei]; exact newC i x hi, rfl⟩, .inr (.inr ⟨i, x, ei, hi⟩)⟩
      · rw [lookup_of_mem hnd hm] at hx; cases hx
    · obtain ⟨c, v, ec, hc⟩ := C x (nd hx)
      exact ⟨c, v, atC x c ec (nd hx), hc.keeps keep, .inl (O.ownX x c ec)⟩
  · intro x c hx e
    rcases mem x c e with ⟨i, ei, hi⟩ | ⟨hm, _⟩
    · exact hn ob (ge ei)
    · rw [lookup_of_mem hnd hm] at hx; cases hx
  · intro x c e
    rcases mem x c e with ⟨i, ei, hi⟩ | ⟨_, e'⟩
    · exact .inr (.inr ⟨i, x, ei, hi⟩)
    · exact .inl (O.ownX x c e')
  · intro x y c ex ey
    rcases mem x c ex with ⟨i, ei, hi⟩ | ⟨hm, e1⟩ <;> rcases mem y c ey with ⟨j, ej, hj⟩ | ⟨hm', e2⟩
    · have : i = j := by
        have := ei.symm.trans ej
        exact Nat.add_left_cancel this
      subst this
      rw [hi] at hj; cases hj; rfl
    · obtain ⟨o, e⟩ := O.live c (O.ownX y c e2)
      rw [ge ei] at e; cases e
    · obtain ⟨o, e⟩ := O.live c (O.ownX x c e1)
      rw [ge ej] at e; cases e
    · exact O.apart x y c e1 e2
  · intro x c e z
    have z : c = h.objs.size := z
    rcases mem x c e with ⟨i, ei, hi⟩ | ⟨hm, e1⟩
    · have : (h.objs.size : Nat) = h.objs.size + 1 + i := z ▸ ei
      omega
    · obtain ⟨o, e⟩ := O.live c (O.ownX x c e1)
      rw [z, fresh _ (Nat.le_refl _)] at e; cases e
  · rintro a (q | q | ⟨i, n, ei, hi⟩)
    · exact O.tX a q
    · subst q; exact hn O.top (fresh _ (Nat.le_refl _))
    · exact hn O.top (ge ei)
  · rintro a (q | q | ⟨i, n, ei, hi⟩)
    · obtain ⟨o, e⟩ := O.live a q; exact ⟨o, keep _ _ e⟩
    · subst q; exact ⟨_, pushCells_keeps _ _ _ _ (Heap.get?_push_size _ rfl)⟩
    · exact ⟨_, by rw [show a = h.objs.size + 1 + i from ei]; exact newC i n hi⟩
  · intro x k e
    have := hok _ (nd e)
    simp only [nameOk, Bool.and_eq_true, decide_eq_true_eq] at this
    exact this.1
  · intro x k d hx nk e
    unfold closRho at e
    rw [hx] at e
    cases k <;> simp only [reduceCtorEq] at e
    obtain ⟨c, v, ec, hc⟩ := C x (nd hx)
    have hm := hok _ (nd hx)
    simp only [nameOk, Bool.and_eq_true] at hm
    have outer : ∃ k, sc.lookup x = some k ∧ (k = .cell ∨ k = .free) := by
      have t := hm.2
      split at t
      · exact ⟨_, ‹_›, .inl rfl⟩
      · exact ⟨_, ‹_›, .inr rfl⟩
      · cases t
    obtain ⟨k', hk', hkk⟩ := outer
    obtain ⟨u, a, r⟩ := O.vals x k' d hk' (by rcases hkk with rfl | rfl <;> simp) e
    refine ⟨u, ?_, (r.grow (X' := NewX X h.objs.size scope.names) ?_).mono (fun _ q => q) fun b o _ e => keep b o e⟩
    · have : ∃ c, env.cells.lookup x = some c ∧ h.IsCell c (some u) := by rcases hkk with rfl | rfl <;> exact a
      obtain ⟨c, ec, hc⟩ := this
      exact ⟨c, atC x c ec (nd hx), hc.keeps keep⟩
    · rintro a o e (q | q | ⟨i, n, ei, hi⟩)
      · exact q
      · subst q; rw [fresh _ (Nat.le_refl _)] at e; cases e
      · rw [ge ei] at e; cases e

theorem wpAny_compEnv {scope : Scope} {cl : List (Str × Addr)} {Q : Env → Shared → Prop} {E : Value → Shared → Prop}
    (h : Q { scope := scope, locals := s.heap.objs.size, globals := env.globals, cells := cellsFrom (s.heap.objs.size + 1) scope.names cl, qual := env.qual, func := none, code := env.code, frame := env.frame, builtins := env.builtins } { s with heap := pushCells (s.heap.push { cls := .type "dict", data := .dict #[] }) scope.names }) :
    wpAny (model prog w) A (newFunctionEnv scope env.globals cl [] env.qual none .none (some env)) Q E s := by
  simp only [newFunctionEnv, Option.isSome_some, if_true]
  refine wpAny_bind (wpAny_alloc ?_)
  refine wpAny_bind (wpAny_layCells _ (fun name kind cells => by cases hkc : kind == NameKind.cell <;> simp [hkc]) _ _ _ _ ?_)
  rw [show ({ s with heap := s.heap.push { cls := .type "dict", data := .dict #[] } } : Shared).heap.objs.size = s.heap.objs.size + 1 from Heap.size_push ..]
  exact wpAny_pure h
end
end Mine
set_option Elab.async false
set_option maxRecDepth 4000
namespace Mine
open PySem PySem.Calls PyProof.Rows PySem.W PySem.Spec

def compD {α : Type} (G : Rho) (F : Ev) (T : Tst) (sc : Names) (ρ : Rho) (emitF : Names → Rho → Option α) (gens : List Comprehension) (scope : Scope) : Option (List α) :=
  if scopeOk sc scope = true ∧ (gens.all fun g => g.is_async == 0) = true then match gens with
    | [] => none
    | g :: gs => match itemsD G F sc ρ (isTup g.target) g.iter with
      | none => none
      | some xs => match genD (T scope.names) (fun tup ρ e => itemsD G F scope.names ρ tup e) (emitF scope.names) scope.names (g :: gs) (closRho ρ scope.names) xs with
        | none => none
        | some out => if out.length ≤ 1000000 then some out else none
  else none

section
variable {prog : Program} {w : World} {hT : Heap} {k : Nat} {A : Around} {X : Addr → Prop} {s : Shared} {env : Env} {sc : Names} {ρ ρ' : Rho} {h₀ h h' : Heap} {F : Ev} {G : Rho} {Φ : Addr → List D → Option D}

theorem newX_or {X : Addr → Prop} {L : Addr} {names : Names} {wr : List Addr} (a : Addr) : NewX (fun a => X a ∨ a ∈ wr) L names a ↔ (NewX X L names a ∨ a ∈ wr) := by
  unfold NewX
  constructor
  · rintro ((q | q) | q | q)
    · exact .inl (.inl q)
    · exact .inr q
    · exact .inl (.inr (.inl q))
    · exact .inl (.inr (.inr q))
  · rintro ((q | q | q) | q)
    · exact .inl (.inl q)
    · exact .inr (.inl q)
    · exact .inr (.inr q)
    · exact .inl (.inr q)

theorem comp_core {α : Type} {T : Tst} (S : Snd prog w hT k F) (ST : TSnd prog w hT k T) (hG : GOk prog w hT G) (hA : AOk k A) (O : EnvOk prog w hT env sc ρ X h₀ s.heap) (h0 : 0 < s.toks) {e : Expr} {gens : List Comprehension} {scope : Scope} {pos : Pos} {newAcc : Sem Value} {oacc : Obj}
    {emit : Addr → Env → Sem Unit} {emitF : Names → Rho → Option α} {Acc : Addr → (Addr → Prop) → Heap → List α → Prop} {out : List α} {Q E : Value → Shared → Prop}
    (hcl : clausesOf e = gens) (hnew : ∀ (s : Shared) (Q : Value → Shared → Prop), Q (.ref s.heap.objs.size) { s with heap := s.heap.push oacc } → wpAny (model prog w) A newAcc Q E s) (hfr : oacc.isFreed = false)
    (CE : ∀ env D, CompE prog w A e gens (emit D env) (.ref D) env) (AO : ∀ D, AccOk D (Acc D)) (acc0 : ∀ (X : Addr → Prop) (h : Heap), Acc h.objs.size X (h.push oacc) [])
    (EO : ∀ env sc h₀ D, EmitOk prog w hT A env sc h₀ D (emit D env) (emitF sc) (Acc D)) (hc : compD G F T sc ρ emitF gens scope = some out)
    {use : Option (Value → Sem Unit)}
    (post : ∀ D C h' tk, 0 < tk → ¬ X D → ¬ X C → s.heap.get? D = none → s.heap.get? C = none → D ≠ C → (∃ m, h'.Ns C m) → Old s.heap h' → Acc D (fun a => X a ∨ a = C) h' out → compPost (model prog w) A E use Q (.ref D) C (.ok .next) { s with heap := h', toks := tk }) :
    ∀ g gs, gens = g :: gs → wpAny (model prog w) A (comprehension e scope env pos newAcc false (eval g.iter env) use) Q E s := by
  rintro g gs rfl
  unfold compD at hc
  split at hc
  case isFalse => cases hc
  rename_i hok
  obtain ⟨hs, hall⟩ := hok
  split at hc
  · rename_i h; cases h
  rename_i g' gs' heq
  cases heq
  split at hc
  · cases hc
  rename_i xs hxs
  split at hc
  · cases hc
  rename_i out' hgen
  split at hc
  case isFalse => cases hc
  rename_i hlen
  cases hc
  have hall' : ∀ g' ∈ g :: gs, g'.is_async = 0 := fun g' hg' => by
    have := List.all_eq_true.mp hall g' hg'
    simpa using this
  have hsn := hs
  simp only [scopeOk, Bool.and_eq_true, List.all_eq_true, decide_eq_true_eq] at hsn
  have C := closed O hs
  have ht := (genD_eq hgen).1
  refine wpAny_comprehension_free hcl (folded_pure (items_notSet S hxs) env) (closureFor_eq fun n hn => let ⟨c, v, e, _⟩ := C n hn; ⟨c, e⟩) (eq_of_beq hsn.1.1) (fun x hx hl => lookup_of_mem hsn.2 (by rw [← hl]; exact hx)) ?_
  refine items_sound S hG hA O (freshT_tg ht) h0 hxs fun it h₁ h₂ tk l₁ o₁ o₂ src => ?_
  have p₁ : 0 < tk := Nat.lt_of_lt_of_le h0 l₁
  refine hnew _ _ (wpAny_compEnv ?_)
  obtain ⟨I, fp, wr, P, Md, St, rfl, W, self, st0, lvSt, lvfp, frw, hfp, items⟩ := src
  let D : Addr := h₂.objs.size
  let h₃ : Heap := h₂.push oacc
  have hs3 : h₃.objs.size = h₂.objs.size + 1 := Heap.size_push ..
  have o3 : Old h₂ h₃ := alloc_old _ _
  have o4 : Old h₃ (pushCells (h₃.push { cls := .type "dict", data := .dict #[] }) scope.names) := fun b o e => pushCells_keeps _ _ _ _ (alloc_old _ _ _ _ e)
  have os1 : Old s.heap h₃ := fun b o e => o3 b o (o₂ b o (o₁ b o e))
  have O1 := O.keeps o₁
  have fr2 : ∀ j, h₂.objs.size ≤ j → h₂.get? j = none := fun j hj => fresh_size _ hj
  have fr3 : ∀ j, h₃.objs.size ≤ j → h₃.get? j = none := fun j hj => fresh_size _ hj
  have hn : ∀ {hx hy : Heap} {a : Addr}, Old hx hy → hy.get? a = none → hx.get? a = none := fun {hx hy a} o e => by
    cases e' : hx.get? a with
    | none => rfl
    | some ob => rw [o a ob e'] at e; cases e
  have D1 : h₁.get? D = none := hn o₂ (fr2 _ (Nat.le_refl _))
  have D0 : s.heap.get? D = none := hn o₁ D1
  have lvD : ∃ o, h₃.get? D = some o := ⟨_, Heap.get?_push_size _ hfr⟩
  have nXD : ¬ X D := O.live.fresh D0
  have nwD : ∀ b ∈ wr, b ≠ D := fun b hb z => by
    obtain ⟨o, e⟩ := lvSt _ _ st0 b hb
    rw [z, fr2 _ (Nat.le_refl _)] at e; cases e
  have O3 : EnvOk prog w hT env sc ρ (fun a => X a ∨ a = D) h₀ h₃ := O1.widen (fun b o e => o3 b o (o₂ b o e)) (fun a q => .inl q) fun a q => q.imp id fun z => by subst z; exact ⟨D1, lvD⟩
  have O3w : EnvOk prog w hT env sc ρ (fun a => (X a ∨ a = D) ∨ a ∈ wr) h₀ h₃ := O1.widen (fun b o e => o3 b o (o₂ b o e)) (fun a q => .inl (.inl q)) fun a q => by
    rcases q with (q | z) | q
    · exact .inl q
    · subst z; exact .inr ⟨D1, lvD⟩
    · obtain ⟨o, e⟩ := lvSt _ _ st0 a q
      exact .inr ⟨frw a q, o, o3 _ _ e⟩
  have Op := O3.comp hs os1 (.type "dict")
  have Ow := O3w.comp hs os1 (.type "dict")
  have nl : ∀ a, NewX (fun a => X a ∨ a = D) h₃.objs.size scope.names a → (X a ∨ a = D) ∨ h₃.get? a = none := fun a q => by
    rcases q with q | q | ⟨i, n, ei, _⟩
    · exact .inl q
    · exact .inr (by rw [q]; exact fr3 _ (Nat.le_refl _))
    · exact .inr (fr3 a (by rw [show a = h₃.objs.size + 1 + i from ei]; exact Nat.le_trans (Nat.le_succ _) (Nat.le_add_right _ _)))
  have wX : ∀ b ∈ wr, ¬ NewX (fun a => X a ∨ a = D) h₃.objs.size scope.names b := fun b hb q => by
    rcases nl b q with (q | q) | q
    · obtain ⟨o, e⟩ := O1.live b q; rw [frw b hb] at e; cases e
    · exact nwD b hb q
    · obtain ⟨o, e⟩ := lvSt _ _ st0 b hb; rw [o3 _ _ e] at q; cases q
  have ownX : ∀ {b}, Own (cenvOf env scope h₃.objs.size) b → NewX (fun a => X a ∨ a = D) h₃.objs.size scope.names b := fun hb => by
    rcases hb with rfl | ⟨y, z⟩
    · exact Op.locX
    · exact Op.ownX y _ z
  have hDo : ¬ Own (cenvOf env scope h₃.objs.size) D := by
    intro hb
    have nD : ∀ a, Own (cenvOf env scope h₃.objs.size) a → X a ∨ h₃.get? a = none := fun a hb => by
      rcases hb with rfl | ⟨y, z⟩
      · exact .inr (fr3 _ (Nat.le_refl _))
      · rcases cellsFrom_mem _ _ _ _ _ (mem_of_lookup z) with hm | ⟨i, ei, _⟩
        · rcases closL_mem _ _ _ _ hm with hm | ⟨hm, e⟩
          · cases hm
          · obtain ⟨c', v, ec, _⟩ := C y hm
            rw [ec] at e
            have e : a = c' := e
            exact .inl (by rw [e]; exact O.ownX y c' ec)
        · exact .inr (fr3 a (by rw [show a = h₃.objs.size + 1 + i from ei]; exact Nat.le_trans (Nat.le_succ _) (Nat.le_add_right _ _)))
    rcases nD D hb with q | q
    · exact nXD q
    · obtain ⟨o, e⟩ := lvD; rw [e] at q; cases q
  have st4 : St 0 (pushCells (h₃.push { cls := .type "dict", data := .dict #[] }) scope.names) := W.frame _ _ _ st0 fun b _ o e => o4 b o (o3 b o e)
  have lpf : codeAny (model prog w) A (.compLoop e 0 (.ref I) (.ref D) (cenvOf env scope h₃.objs.size)) (compPost (model prog w) A E use Q (.ref D) h₃.objs.size) { s with heap := pushCells (h₃.push { cls := .type "dict", data := .dict #[] }) scope.names, toks := tk } := by
    refine one_loop (out := out) (l := []) (hb := h₁) (Xp := NewX (fun a => X a ∨ a = D) h₃.objs.size scope.names) (X := NewX (fun a => (X a ∨ a = D) ∨ a ∈ wr) h₃.objs.size scope.names) ST hA (CE _ D) (AO D) hDo (d := 0) (g := g) rfl (hall' g List.mem_cons_self) (fun g' h => hall' g' (List.mem_of_getElem? h)) W st4 lvSt (fun a => newX_or a) (fun b hb' => ⟨hn o₁ (frw b hb'), fun q => wX b hb' (ownX q), wX b hb', nwD b hb'⟩) (fun b hb' => ⟨?_, ?_, ?_⟩) (fun i v h' d hk hp hd => items i v h' d _ ?_ hk hp hd) (fun b o e => o4 b o (o3 b o (o₂ b o e))) Op Ow (.inl (.inr rfl)) ?_ p₁ ht (inner_sound S ST hG hA (CE _ D) (AO D) (EO _ _ _ D) D0 hDo hall' gs 0 g rfl _ (.inl (.inl (.inr rfl)))) (genD_eq hgen).2 (by simpa using hlen) fun h' tk' p O' ac' k' => ?_
    · rcases hfp b hb' with q | q
      · exact fun z => wX b q (ownX z)
      · intro z
        rcases nl b (ownX z) with (y | y) | y
        · exact q y
        · obtain ⟨o, e⟩ := lvfp b hb'; rw [y, fr2 _ (Nat.le_refl _)] at e; cases e
        · obtain ⟨o, e⟩ := lvfp b hb'; rw [o3 _ _ e] at y; cases y
    · intro z
      obtain ⟨o, e⟩ := lvfp b hb'; rw [z, fr2 _ (Nat.le_refl _)] at e; cases e
    · rcases hfp b hb' with q | q
      · exact .inl q
      · refine .inr fun z => ?_
        rcases nl b z with (y | y) | y
        · exact q y
        · obtain ⟨o, e⟩ := lvfp b hb'; rw [y, fr2 _ (Nat.le_refl _)] at e; cases e
        · obtain ⟨o, e⟩ := lvfp b hb'; rw [o3 _ _ e] at y; cases y
    · intro a o e q
      rcases (newX_or a).mp q with q | q
      · rcases nl a q with (y | y) | y
        · exact y
        · rw [y, D1] at e; cases e
        · rw [o3 _ _ (o₂ _ _ e)] at y; cases y
      · rw [frw a q] at e; cases e
    · exact (AO D).keep _ _ _ _ _ (acc0 _ h₂) (fun _ _ _ q => q) (fun b o _ e => o4 b o e) (fun o e => o4 _ o e)
    · rw [List.nil_append] at ac'
      have DC : D ≠ h₃.objs.size := fun z => by
        obtain ⟨o, e⟩ := lvD
        rw [z, fr3 _ (Nat.le_refl _)] at e; cases e
      refine post D h₃.objs.size h' tk' p nXD (O.live.fresh (hn os1 (fr3 _ (Nat.le_refl _)))) D0 (hn os1 (fr3 _ (Nat.le_refl _))) DC O'.loc O'.old ?_
      exact (AO D).keep _ _ h' h' _ ac' (fun a o _ q => q.elim (fun q => .inl (.inl q)) fun q => .inr (.inl q)) (fun _ _ _ e => e) (fun _ e => e)
  refine (CE _ D).start 0 g (.ref I) _ _ rfl (hall' g List.mem_cons_self) lpf (self _ _ _ st4 lpf)

theorem comp_sound {α : Type} {T : Tst} (S : Snd prog w hT k F) (ST : TSnd prog w hT k T) (hG : GOk prog w hT G) (hA : AOk k A) (O : EnvOk prog w hT env sc ρ X h₀ s.heap) (h0 : 0 < s.toks) {e : Expr} {gens : List Comprehension} {scope : Scope} {pos : Pos} {newAcc : Sem Value} {oacc : Obj}
    {emit : Addr → Env → Sem Unit} {emitF : Names → Rho → Option α} {Acc : Addr → (Addr → Prop) → Heap → List α → Prop} {out : List α} {Q E : Value → Shared → Prop}
    (hcl : clausesOf e = gens) (hnew : ∀ (s : Shared) (Q : Value → Shared → Prop), Q (.ref s.heap.objs.size) { s with heap := s.heap.push oacc } → wpAny (model prog w) A newAcc Q E s) (hfr : oacc.isFreed = false)
    (CE : ∀ env D, CompE prog w A e gens (emit D env) (.ref D) env) (AO : ∀ D, AccOk D (Acc D)) (acc0 : ∀ (X : Addr → Prop) (h : Heap), Acc h.objs.size X (h.push oacc) [])
    (EO : ∀ env sc h₀ D, EmitOk prog w hT A env sc h₀ D (emit D env) (emitF sc) (Acc D)) (hc : compD G F T sc ρ emitF gens scope = some out)
    (post : ∀ D h' tk, ¬ X D → s.heap.get? D = none → Old s.heap h' → Acc D X h' out → Q (.ref D) { s with heap := h', toks := tk }) :
    ∀ g gs, gens = g :: gs → wpAny (model prog w) A (comprehension e scope env pos newAcc false (eval g.iter env) none) Q E s :=
  comp_core S ST hG hA O h0 hcl hnew hfr CE AO acc0 EO hc fun D C h' tk p nD nC hD hC dc ⟨m, hm⟩ ho ac =>
    ⟨m, hm, fun h'' hs => post D h'' tk nD hD (fun b o e => samebut_get hs (fun z => by rw [z, hC] at e; cases e) (ho b o e))
      ((AO D).keep _ X h'' h'' _ ((AO D).keep _ _ h' h'' _ ac (fun _ _ _ q => q) (fun b o nb e => samebut_get hs (fun z => nb (.inr z)) e) (fun o e => samebut_get hs dc e)) (fun a o _ q => .inl q) (fun _ _ _ e => e) (fun _ e => e))⟩

/-- the list goes straight into a name -/
theorem comp_use {α : Type} {T : Tst} (S : Snd prog w hT k F) (ST : TSnd prog w hT k T) (hG : GOk prog w hT G) (hA : AOk k A) (O : EnvOk prog w hT env sc ρ X h₀ s.heap) {ρa : Rho} (Oa : EnvOk prog w hT env sc ρa X h₀ s.heap) (h0 : 0 < s.toks) {e : Expr} {gens : List Comprehension} {scope : Scope} {pos : Pos} {newAcc : Sem Value} {oacc : Obj}
    {emit : Addr → Env → Sem Unit} {emitF : Names → Rho → Option α} {Acc : Addr → (Addr → Prop) → Heap → List α → Prop} {out : List α} {Q E : Value → Shared → Prop}
    (hcl : clausesOf e = gens) (hnew : ∀ (s : Shared) (Q : Value → Shared → Prop), Q (.ref s.heap.objs.size) { s with heap := s.heap.push oacc } → wpAny (model prog w) A newAcc Q E s) (hfr : oacc.isFreed = false)
    (CE : ∀ env D, CompE prog w A e gens (emit D env) (.ref D) env) (AO : ∀ D, AccOk D (Acc D)) (acc0 : ∀ (X : Addr → Prop) (h : Heap), Acc h.objs.size X (h.push oacc) [])
    (EO : ∀ env sc h₀ D, EmitOk prog w hT A env sc h₀ D (emit D env) (emitF sc) (Acc D)) (hc : compD G F T sc ρ emitF gens scope = some out) {x : Str} {px : Pos} {d : Mine.D} (hx : storable sc x = true)
    (rd : ∀ D (X' : Addr → Prop) h, ¬ X' D → s.heap.get? D = none → Acc D X' h out → Rd prog w X' h (.ref D) d) (h₀old : Old h₀ s.heap)
    (post : ∀ h' tk, 0 < tk → EnvOk prog w hT env sc (upd ρa x d) X h₀ h' → Keep env s.heap h' → Q .none { s with heap := h', toks := tk }) :
    ∀ g gs, gens = g :: gs → wpAny (model prog w) A (comprehension e scope env pos newAcc false (eval g.iter env) (some fun v => assignAll v [assign (.Name x px) env])) Q E s :=
  comp_core S ST hG hA O h0 hcl hnew hfr CE AO acc0 EO hc fun D C h' tk p nD nC hD hC dc ⟨m, hm⟩ ho ac => by
    show wpAny _ A (assign (.Name x px) env (.ref D)) _ E _
    have lvC : ∃ o, h'.get? C = some o := by obtain ⟨o, _, _, e, _⟩ := hm; exact ⟨o, e⟩
    have O' : EnvOk prog w hT env sc ρa (fun a => X a ∨ a = C) h₀ h' := Oa.widen ho (fun a q => .inl q) fun a q => q.imp id fun z => by subst z; exact ⟨hC, lvC⟩
    have nX' : ¬ (fun a => X a ∨ a = C) D := fun q => q.elim nD dc
    have nO : ¬ Own env C := fun q => by
      rcases q with rfl | ⟨y, z⟩
      · exact nC O.locX
      · exact nC (O.ownX y C z)
    have h0C : h₀.get? C = none := by
      cases e : h₀.get? C with
      | none => rfl
      | some o => rw [h₀old C o e] at hC; cases hC
    refine wpAny_with_toks (n := 1) p (name_assign (s := { s with heap := h', toks := tk }) O' hx (rd D _ h' nX' hD ac) fun h₁ t₁ O₁ l₁ k₁ => ?_)
    intro p1
    have hmC : h₁.Ns C m := hm.at' fun o e => k₁ C o nO e
    refine ⟨m, hmC, fun h₂ hs => post h₂ t₁ p1 (O₁.cut O (fun a q => .inl q) (fun a => a = C) (fun b o n e => samebut_get hs n e) (fun a z => by subst z; exact ⟨.inr rfl, h0C, nO⟩) fun a q z => absurd q (by rw [z]; exact nC)) fun b o nb e => ?_⟩
    exact samebut_get hs (fun z => by rw [z, hC] at e; cases e) (k₁ b o nb (ho b o e))
end
end Mine
set_option Elab.async false
set_option maxRecDepth 4000
namespace Mine
open PySem PySem.Calls PyProof.Rows PySem.W PySem.Spec

def accL (prog : Program) (w : World) (D : Addr) (X : Addr → Prop) (h : Heap) (l : List Mine.D) : Prop := ∃ vs, h.PlainList D vs.toArray ∧ RdL prog w X h vs l
def accD (prog : Program) (w : World) (D : Addr) (X : Addr → Prop) (h : Heap) (l : List (Int × Mine.D)) : Prop :=
  ∃ kvs, h.DictOf (intKind prog w) D kvs ∧ kvs.length ≤ l.length ∧ ((l.map Prod.fst).Nodup → l.map Prod.fst = kvs.map Prod.fst ∧ RdL prog w X h (kvs.map Prod.snd) (l.map Prod.snd))

section
variable {prog : Program} {w : World} {hT : Heap} {k : Nat} {A : Around} {X : Addr → Prop} {s : Shared} {env : Env} {sc : Names} {ρ ρ' : Rho} {h₀ h h' : Heap} {F : Ev} {G : Rho} {Φ : Addr → List D → Option D}

theorem rdl_later {hb h' : Heap} {X' : Addr → Prop} {v : List Value} {d : List D} (r : RdL prog w X hb v d) (hX : ∀ a o, hb.get? a = some o → X' a → X a) (hk : ∀ b o, ¬ X' b → hb.get? b = some o → h'.get? b = some o) : RdL prog w X' h' v d :=
  (r.grow hX).mono (fun _ q => q) hk

theorem accL_ok (D : Addr) : AccOk D (accL prog w D) where
  keep := fun X X' h h' l ⟨vs, ⟨n, e⟩, r⟩ hX hk hD => ⟨vs, ⟨n, hD _ e⟩, rdl_later r hX hk⟩
  live := fun X h l ⟨vs, ⟨n, e⟩, r⟩ => ⟨_, e⟩
theorem accD_ok (D : Addr) : AccOk D (accD prog w D) where
  keep := fun X X' h h' l ⟨kvs, e, z, r⟩ hX hk hD => ⟨kvs, dict_at e hD, z, fun q => ⟨(r q).1, rdl_later (r q).2 hX hk⟩⟩
  live := fun X h l ⟨kvs, e, _⟩ => dict_live e

theorem emitL_ok (S : Snd prog w hT k F) (hA : AOk k A) {elt : Expr} (env : Env) (sc : Names) (h₀ : Heap) (D : Addr) : EmitOk prog w hT A env sc h₀ D (emitL elt (.ref D) env) (fun ρ => F sc ρ elt) (accL prog w D) := by
  intro ρ X s l a Q E O hXD hD0 hDo h0 hlen ac he q
  unfold emitL
  refine wpAny_bind (S.snd _ _ _ _ he _ _ _ _ _ hA O h0 _ _ fun v h₁ t₁ l₁ o₁ r₁ => wpAny_bind ?_)
  obtain ⟨vs, hp, r⟩ := (accL_ok D).keep X X s.heap h₁ l ac (fun _ _ _ q => q) (fun b o _ e => o₁ b o e) (fun o e => o₁ D o e)
  refine wpAny_list_append_plain (s := { s with heap := h₁, toks := t₁ }) hp (fun h₂ hp₂ hs => wpAny_pure ?_) (by rw [List.size_toArray, r.length]; simp only [sizeLine]; omega)
  refine q h₂ t₁ (fun b o n e => samebut_get hs n (o₁ b o e)) ⟨vs ++ [v], by simpa using hp₂, ?_⟩
  exact (r.append (.cons r₁ .nil)).mono (fun _ q => q) fun b o nb e => samebut_get hs (fun z => nb (by rw [z]; exact hXD)) e

def keyD (F : Rho → Expr → Option D) (kx vx : Expr) (ρ : Rho) : Option (Int × D) := match F ρ kx with
  | some (.int i) => match F ρ vx with
    | some d => some (i, d)
    | none => none
  | _ => none

theorem emitD_ok (S : Snd prog w hT k F) (hA : AOk k A) {kx vx : Expr} (env : Env) (sc : Names) (h₀ : Heap) (D : Addr) : EmitOk prog w hT A env sc h₀ D (emitD kx vx D env) (fun ρ => keyD (F sc) kx vx ρ) (accD prog w D) := by
  intro ρ X s l a Q E O hXD hD0 hDo h0 hlen ac he q
  unfold keyD at he
  dsimp only at he
  split at he
  · rename_i i hk
    split at he
    · rename_i d hd
      cases he
      unfold emitD
      refine wpAny_bind (S.snd _ _ _ _ hk _ _ _ _ _ hA O h0 _ _ fun kv h₁ t₁ l₁ o₁ r₁ => ?_)
      obtain ⟨t, rfl⟩ := r₁.int_inv
      refine wpAny_bind (wpAny_holding (S.snd _ _ _ _ hd _ _ _ _ { s with heap := h₁, toks := t₁ } hA (O.keeps o₁) (Nat.lt_of_lt_of_le h0 l₁) _ _ fun vv h₂ t₂ l₂ o₂ r₂ => wpAny_bind (wpAny_standAt (wpAny_holding ?_))))
      obtain ⟨kvs, hp, z, r⟩ := (accD_ok D).keep X X s.heap h₂ l ac (fun _ _ _ q => q) (fun b o _ e => o₂ b o (o₁ b o e)) (fun o e => o₂ D o (o₁ D o e))
      refine wpAny_dictSet_pairs (knd := intKind prog w) (k := i) (s := { s with heap := h₂, toks := t₂ }) (by simp [intKind, Value.isInt]) hp (fun h₃ hp₃ hs => ?_)
      refine q h₃ _ (fun b o n e => samebut_get hs n (o₂ b o (o₁ b o e))) ⟨_, hp₃, Nat.le_trans (stored_length_le _ _ _) (by simp; omega), fun hn => ?_⟩
      have hn' : (l.map Prod.fst).Nodup := by
        rw [List.map_append] at hn
        exact (List.nodup_append.mp hn).1
      obtain ⟨e1, r1⟩ := r hn'
      have hnot : i ∉ kvs.map Prod.fst := by
        rw [← e1]
        rw [List.map_append] at hn
        intro hm
        have := (List.nodup_append.mp hn).2.2 i hm i (by simp)
        exact this rfl
      have es : stored kvs i vv = kvs ++ [(i, vv)] := by
        unfold stored
        rw [if_neg]
        simp only [List.any_eq_true, decide_eq_true_eq, not_exists, not_and]
        intro p hp e
        exact hnot (List.mem_map.mpr ⟨p, hp, e⟩)
      rw [es]
      refine ⟨by simp [e1], ?_⟩
      simp only [List.map_append, List.map_cons, List.map_nil]
      exact (r1.append (.cons r₂ .nil)).mono (fun _ q => q) fun b o nb e => samebut_get hs (fun z => nb (by rw [z]; exact hXD)) e
    · cases he
  · cases he

theorem accL_new (D : Addr) (X : Addr → Prop) (h : Heap) : accL prog w h.objs.size X (h.push { cls := .type "list", data := .seq #[] }) [] := ⟨[], ⟨0, Heap.get?_push_size _ rfl⟩, .nil⟩
theorem accD_new (X : Addr → Prop) (h : Heap) : accD prog w h.objs.size X (h.push { cls := .type "dict", data := .dict #[] }) [] := ⟨[], Heap.DictOf.new _, Nat.le_refl _, fun _ => ⟨rfl, .nil⟩⟩

theorem first_async (g : Comprehension) (gs : List Comprehension) : firstAsync (g :: gs) = (g.is_async != 0) := by cases g; rfl
theorem first_iter (g : Comprehension) (gs : List Comprehension) (env : Env) : firstIter (g :: gs) env = eval g.iter env := by cases g; rfl
theorem lcomp_arm {T : Tst} (S : Snd prog w hT k F) (ST : TSnd prog w hT k T) (hG : GOk prog w hT G) (hA : AOk k A) (O : EnvOk prog w hT env sc ρ X h₀ s.heap) {elt : Expr} {gens : List Comprehension} {scope : Scope} {pos : Pos} {out : List D}
    (hc : compD G F T sc ρ (fun sc ρ => F sc ρ elt) gens scope = some out) : Gv prog w A X (eval (.ListComp elt gens scope pos) env) (.lst out) s := by
  refine Gv.any fun h0 Q E hQ => ?_
  rw [arm_eval_ListComp]
  cases hg : gens with
  | nil =>
    subst hg
    unfold compD at hc
    split at hc <;> cases hc
  | cons g gs =>
    have ha : firstAsync gens = false := by
      rw [hg]
      unfold compD at hc
      split at hc
      · rename_i hh
        have := List.all_eq_true.mp hh.2 g (by rw [hg]; exact List.mem_cons_self)
        have : g.is_async = 0 := by simpa using this
        rw [first_async, this]; rfl
      · cases hc
    rw [← hg]
    show wpAny _ _ (comprehension _ scope env _ (newList []) (firstAsync gens) (firstIter gens env)) _ _ _
    rw [ha]
    have hi : firstIter gens env = eval g.iter env := by rw [hg]; exact first_iter g gs env
    rw [hi]
    have hlen : out.length ≤ 1000000 := by
      unfold compD at hc
      split at hc
      · split at hc
        · cases hc
        · split at hc
          · cases hc
          · split at hc
            · cases hc
            · split at hc
              · cases hc; assumption
              · cases hc
      · cases hc
    exact comp_sound S ST hG hA O h0 (emit := fun D env => emitL elt (.ref D) env) (emitF := fun sc ρ => F sc ρ elt) (Acc := accL prog w) rfl (fun s Q h => wpAny_newList h (Nat.zero_le _)) rfl (fun env D => compE_L) accL_ok (fun X h => accL_new 0 X h) (fun env sc h₀ D => emitL_ok S hA env sc h₀ D) hc
      (fun D h' tk nX hD ho ⟨vs, ⟨n, e⟩, r⟩ => hQ _ h' tk ho fun _ => .lst nX ⟨by rw [r.length]; simp only [sizeLine]; omega, n, e⟩ r) g gs hg

theorem dcomp_arm {T : Tst} (hT' : TOk hT) (S : Snd prog w hT k F) (ST : TSnd prog w hT k T) (hG : GOk prog w hT G) (hA : AOk k A) (O : EnvOk prog w hT env sc ρ X h₀ s.heap) {kx vx : Expr} {gens : List Comprehension} {scope : Scope} {pos : Pos} {out : List (Int × D)}
    (hc : compD G F T sc ρ (fun sc ρ => keyD (F sc) kx vx ρ) gens scope = some out) (hn : (out.map Prod.fst).Nodup) : Gv prog w A X (eval (.DictComp kx vx gens scope pos) env) (.dci out) s := by
  refine Gv.any fun h0 Q E hQ => ?_
  rw [arm_eval_DictComp]
  cases hg : gens with
  | nil =>
    subst hg
    unfold compD at hc
    split at hc <;> cases hc
  | cons g gs =>
    have ha : firstAsync gens = false := by
      rw [hg]
      unfold compD at hc
      split at hc
      · rename_i hh
        have := List.all_eq_true.mp hh.2 g (by rw [hg]; exact List.mem_cons_self)
        have : g.is_async = 0 := by simpa using this
        rw [first_async, this]; rfl
      · cases hc
    rw [← hg]
    show wpAny _ _ (comprehension _ scope env _ newDict (firstAsync gens) (firstIter gens env)) _ _ _
    rw [ha]
    have hi : firstIter gens env = eval g.iter env := by rw [hg]; exact first_iter g gs env
    rw [hi]
    have hlen : out.length ≤ 1000000 := by
      unfold compD at hc
      split at hc
      · split at hc
        · cases hc
        · split at hc
          · cases hc
          · split at hc
            · cases hc
            · split at hc
              · cases hc; assumption
              · cases hc
      · cases hc
    refine comp_sound S ST hG hA O h0 (emit := fun D env => emitD kx vx D env) (emitF := fun sc ρ => keyD (F sc) kx vx ρ) (Acc := accD prog w) rfl (oacc := { cls := .type "dict", data := .dict #[] }) (fun s Q h => ?_) rfl (fun env D => compE_D) accD_ok (fun X h => accD_new X h) (fun env sc h₀ D => emitD_ok S hA env sc h₀ D) hc
      (fun D h' tk nX hD ho ⟨kvs, e, z, r⟩ => hQ _ h' tk ho fun _ => .dci nX ?_ (by simp only [sizeLine]; omega) e (r hn).1 (r hn).2) g gs hg
    · exact wpAny_newObj_type h (Nat.zero_le _)
    · obtain ⟨o, e⟩ := hT'.sysm
      simp only [beq_eq_false_iff_ne]
      intro z
      rw [z, O.top _ _ e] at hD; cases hD
end
end Mine
set_option Elab.async false
set_option maxRecDepth 4000
namespace Mine
open PySem PySem.Calls PyProof.Rows PySem.W PySem.Spec

def notSetE : Expr → Bool
  | .Set _ _ _ => false
  | _ => true
def cmpE (F : Ev) (sc : Names) (ρ : Rho) (l : Expr) : List CmpOp → List Expr → Option Bool
  | [op], [r] => match F sc ρ l with
    | some a => match F sc ρ r with
      | some b => cmpD op a b
      | none => none
    | none => none
  | [op, op'], [r, r'] => match F sc ρ l with
    | some a => match F sc ρ r with
      | some b => match cmpD op a b with
        | some true => match F sc ρ r' with
          | some b' => cmpD op' b b'
          | none => none
        | some false => if notSetE r' then some false else none
        | none => none
      | none => none
    | none => none
  | _, _ => none
def tst0 (F : Ev) : Tst := fun sc ρ e => match e with
  | .Compare l ops cs _ => cmpE F sc ρ l ops cs
  | .BoolOp _ _ _ => none
  | .UnaryOp _ _ _ => none
  | .IfExp _ _ _ _ => none
  | e => match F sc ρ e with
    | some (.bool b) => some b
    | _ => none
def tst1 (F : Ev) : Tst := fun sc ρ e => match e with
  | .UnaryOp .Not x _ => match tst0 F sc ρ x with
    | some b => some (!b)
    | none => none
  | e => tst0 F sc ρ e
def allD (t : Expr → Option Bool) (op : BoolOp) : List Expr → Option Bool
  | [] => some (op == .And)
  | x :: r => match t x with
    | none => none
    | some b => match op, b with
      | .And, false => some false
      | .Or, true => some true
      | _, _ => allD t op r
def tstD (F : Ev) : Tst := fun sc ρ e => match e with
  | .BoolOp op vs _ => allD (tst1 F sc ρ) op vs
  | e => tst1 F sc ρ e
def methE (F : Ev) (sc : Names) (ρ : Rho) (o : Expr) (name : Str) (apos : Pos) (es : List Expr) (pos : Pos) : Option D :=
  if plainBase o = true ∧ (apos.endLine == pos.line) = true ∧ es.length < 29 then match F sc ρ o with
    | none => none
    | some ov => if name = "replace" then match es with
        | [.Constant (.str y) _ _, .Constant (.str z) _ _] => replD ov y z
        | _ => none
      else match evsD (F sc ρ) es with
        | some ds => methD name ov ds
        | none => none
  else none
def boolE (F : Ev) (sc : Names) (ρ : Rho) (op : BoolOp) (x y : Expr) : Option D := match F sc ρ x with
  | some (.bool a) => match op with
    | .And => if a then match F sc ρ y with
        | some (.bool c) => some (.bool c)
        | _ => none
      else some (.bool false)
    | .Or => if a then some (.bool true) else match F sc ρ y with
        | some (.bool c) => some (.bool c)
        | _ => none
  | _ => none
def subE (F : Ev) (sc : Names) (ρ : Rho) (v : Expr) : Expr → Option D
  | .Slice lo hi none _ => match F sc ρ v with
    | some a => match partD lo with
      | some l => match partD hi with
        | some u => sliceD a l u
        | none => none
      | none => none
    | none => none
  | i => match F sc ρ v with
    | some a => match F sc ρ i with
      | some b => idxD a b
      | none => none
    | none => none
def seqE (o : Option (List D)) (f : List D → D) : Option D := match o with
  | some ds => if ds.length ≤ 1000 then some (f ds) else none
  | none => none
def evStep (G : Rho) (Φ : Addr → List D → Option D) (F : Ev) : Ev := fun sc ρ e => match e with
  | .Constant c _ _ => constD c
  | .Name x _ => nameD G sc ρ x
  | .BinOp l op r _ => match F sc ρ l with
    | some a => match F sc ρ r with
      | some b => binD op a b
      | none => none
    | none => none
  | .UnaryOp .USub x _ => match F sc ρ x with
    | some (.int i) => some (.int (-i))
    | _ => none
  | .Compare l ops cs _ => match cmpE F sc ρ l ops cs with
    | some b => some (.bool b)
    | none => none
  | .BoolOp op [x, y] _ => boolE F sc ρ op x y
  | .Tuple es _ _ => seqE (evsD (F sc ρ) es) .tup
  | .List es _ => seqE (evsD (F sc ρ) es) .lst
  | .Dict ks vs _ => dictD (F sc ρ) ks vs
  | .Subscript v i _ => subE F sc ρ v i
  | .Call (.Name x _) es [] _ => match nameD G sc ρ x with
    | some f => match evsD (F sc ρ) es with
      | some ds => callD Φ f ds
      | none => none
    | none => none
  | .Call (.Attribute o name apos) es [] pos => methE F sc ρ o name apos es pos
  | .ListComp elt gens scope _ => match compD G F (tstD F) sc ρ (fun sc ρ => F sc ρ elt) gens scope with
    | some out => some (.lst out)
    | none => none
  | .DictComp kx vx gens scope _ => match compD G F (tstD F) sc ρ (fun sc ρ => keyD (F sc) kx vx ρ) gens scope with
    | some out => if (out.map Prod.fst).Nodup then some (.dci out) else none
    | none => none
  | _ => none
def ev (G : Rho) (Φ : Addr → List D → Option D) : Nat → Ev
  | 0 => fun _ _ _ => none
  | n + 1 => evStep G Φ (ev G Φ n)

section
variable {prog : Program} {w : World} {hT : Heap} {k : Nat} {A : Around} {X : Addr → Prop} {s : Shared} {env : Env} {sc : Names} {ρ ρ' : Rho} {h₀ h h' : Heap} {F : Ev} {G : Rho} {Φ : Addr → List D → Option D}

theorem cmpE_sound (hT' : TOk hT) (S : Snd prog w hT k F) (hA : AOk k A) (O : EnvOk prog w hT env sc ρ X h₀ s.heap) {l : Expr} {ops : List CmpOp} {cs : List Expr} {p : Pos} {b : Bool} (h : cmpE F sc ρ l ops cs = some b) :
    Gv prog w A X (eval (.Compare l ops cs p) env) (.bool b) s ∧ Gs prog w A (isTrue (.Compare l ops cs p) env (eval (.Compare l ops cs p) env)) (fun x _ => x = b) s := by
  unfold cmpE at h
  split at h
  · split at h
    · rename_i a ha
      split at h
      · rename_i c hc
        exact ⟨cmp_arm hT' S hA O ha hc h, cmp_test hT' S hA O ha hc h _⟩
      · cases h
    · cases h
  · split at h
    · rename_i a ha
      split at h
      · rename_i c hc
        split at h
        · rename_i he
          split at h
          · rename_i b' hb'
            have := chain_arm (p := p) hT' S hA O ha hc he (fun _ => ⟨hb', h⟩) (by rintro es n p rfl; rw [S.set] at hb'; cases hb')
            rw [Bool.true_and] at this
            exact this
          · cases h
        · rename_i he
          split at h
          · rename_i hs
            cases h
            have nS : ∀ {r' : Expr}, notSetE r' = true → ∀ es n p, r' ≠ .Set es n p := fun {r'} hs es n p z => by subst z; cases hs
            exact chain_arm (p := p) (b' := .none) (c' := false) hT' S hA O ha hc he (fun z => by cases z) (nS hs)
          · cases h
        · cases h
      · cases h
    · cases h
  · cases h

theorem tst0_sound (hT' : TOk hT) (S : Snd prog w hT k F) : TSnd prog w hT k (tst0 F) where
  snd := fun sc ρ e b h A X env h₀ s hA O => by
    unfold tst0 at h
    have val : ∀ e, F sc ρ e = some (.bool b) → (isTrue e env (eval e env) = (do let v ← eval e env; standAt e.pos; holding [v] (truthy v))) → Gs prog w A (isTrue e env (eval e env)) (fun x _ => x = b) s := fun e he hv => by
      rw [hv]
      refine Gs.bind (S.snd _ _ _ _ he _ _ _ _ _ hA O).gs fun v h₁ t₁ o₁ r₁ => Gs.standAt (Gs.holding ?_)
      obtain rfl := r₁.bool_inv
      exact Gs.truthy
    have b1 : (match F sc ρ e with | some (.bool b) => some b | _ => none) = some b → F sc ρ e = some (.bool b) := fun h => by
      split at h
      · cases h; assumption
      · cases h
    cases e <;> dsimp only at h <;> try (exact val _ (b1 h) rfl)
    · cases h
    · cases h
    · cases h
    · exact (cmpE_sound hT' S hA O h).2

theorem tst1_sound (hT' : TOk hT) (S : Snd prog w hT k F) : TSnd prog w hT k (tst1 F) where
  snd := fun sc ρ e b h A X env h₀ s hA O => by
    unfold tst1 at h
    split at h
    · split at h
      · rename_i c hc
        cases h
        rw [arm_isTrue_UnaryOp]
        exact Gs.bind ((tst0_sound hT' S).snd _ _ _ _ hc _ _ _ _ _ hA O) fun v h₁ t₁ o₁ e₁ => Gs.pure (by rw [e₁])
      · cases h
    · exact (tst0_sound hT' S).snd _ _ _ _ h _ _ _ _ _ hA O

theorem all_sound {T : Tst} (ST : TSnd prog w hT k T) (hA : AOk k A) {op : BoolOp} : ∀ {vs : List Expr} {b : Bool} {s : Shared}, EnvOk prog w hT env sc ρ X h₀ s.heap → allD (T sc ρ) op vs = some b → Gs prog w A (allTrue op vs env) (fun x _ => x = b) s
  | [], b, s, O, h => by
    cases h
    show Gs prog w A (pure (op == .And)) _ s
    exact Gs.pure rfl
  | x :: r, b, s, O, h => by
    unfold allD at h
    show Gs prog w A (do
      match op, ← isTrue x env (eval x env) with
      | .And, false => pure false
      | .Or, true => pure true
      | _, _ => allTrue op r env) _ s
    split at h
    · cases h
    · rename_i c hc
      refine Gs.bind (ST.snd _ _ _ _ hc _ _ _ _ _ hA O) fun v h₁ t₁ o₁ e₁ => ?_
      subst e₁
      have O₁ := O.keeps o₁
      cases op <;> cases v <;> dsimp only at h ⊢
      · cases h; exact Gs.pure rfl
      · exact all_sound ST hA O₁ h
      · exact all_sound ST hA O₁ h
      · cases h; exact Gs.pure rfl

theorem tstD_sound (hT' : TOk hT) (S : Snd prog w hT k F) : TSnd prog w hT k (tstD F) where
  snd := fun sc ρ e b h A X env h₀ s hA O => by
    unfold tstD at h
    split at h
    · rw [arm_isTrue_BoolOp]
      exact all_sound (tst1_sound hT' S) hA O h
    · exact (tst1_sound hT' S).snd _ _ _ _ h _ _ _ _ _ hA O

theorem evStep_sound (hT' : TOk hT) (hG : GOk prog w hT G) (hΦ : FnOk prog w hT k Φ) (S : Snd prog w hT k F) : Snd prog w hT k (evStep G Φ F) where
  star := fun _ _ _ _ => rfl
  set := fun _ _ _ _ _ => rfl
  snd := fun sc ρ e d h A X env h₀ s hA O => by
    unfold evStep at h
    split at h
    · exact const_sound h
    · exact fun h0 Q E hQ => name_sound hG O h h0 Q E fun v r => hQ v s.heap s.toks (Nat.le_refl _) (fun _ _ e => e) r
    · split at h
      · rename_i a ha
        split at h
        · rename_i b hb
          exact bin_arm S hA O ha hb h
        · cases h
      · cases h
    · split at h
      · rename_i i hi
        cases h
        exact usub_arm S hA O hi
      · cases h
    · split at h
      · rename_i b hb
        cases h
        exact (cmpE_sound hT' S hA O hb).1
      · cases h
    · unfold boolE at h
      split at h
      · rename_i a ha
        split at h
        · split at h
          · rename_i hat
            split at h
            · rename_i c hc
              cases h
              exact bool_arm S hA O ha (by dsimp only; rw [if_pos hat]; exact hc)
            · cases h
          · rename_i hat
            cases h
            exact bool_arm S hA O ha (by dsimp only; rw [if_neg hat])
        · split at h
          · rename_i hat
            cases h
            exact bool_arm S hA O ha (by dsimp only; rw [if_pos hat])
          · rename_i hat
            split at h
            · rename_i c hc
              cases h
              exact bool_arm S hA O ha (by dsimp only; rw [if_neg hat]; exact hc)
            · cases h
      · cases h
    · unfold seqE at h
      split at h
      · rename_i ds hds
        split at h
        · rename_i hz; cases h; exact tuple_arm S hA O hds hz
        · cases h
      · cases h
    · unfold seqE at h
      split at h
      · rename_i ds hds
        split at h
        · rename_i hz; cases h; exact list_arm S hA O hds hz
        · cases h
      · cases h
    · exact dict_arm hT' S hA O h
    · unfold subE at h
      split at h
      · split at h
        · rename_i a ha
          split at h
          · rename_i l hl
            split at h
            · rename_i u hu
              exact slice_arm S hA O ha hl hu h
            · cases h
          · cases h
        · cases h
      · split at h
        · rename_i a ha
          split at h
          · rename_i b hb
            exact sub_arm S hA O ha hb h
          · cases h
        · cases h
    · split at h
      · rename_i f hf
        split at h
        · rename_i ds hds
          exact call_arm S hG hΦ hA O hf hds h
        · cases h
      · cases h
    · unfold methE at h
      split at h
      · rename_i hc
        split at h
        · cases h
        · rename_i ov ho
          split at h
          · rename_i hn
            subst hn
            split at h
            · exact repl_arm S hA O hc.1 hc.2.1 ho h
            · cases h
          · split at h
            · rename_i ds hds
              exact meth_arm S hA O hc.1 hc.2.1 hc.2.2 ho hds h
            · cases h
      · cases h
    · split at h
      · rename_i out ho
        cases h
        exact lcomp_arm S (tstD_sound hT' S) hG hA O ho
      · cases h
    · split at h
      · rename_i out ho
        split at h
        · rename_i hn
          cases h
          exact dcomp_arm hT' S (tstD_sound hT' S) hG hA O ho hn
        · cases h
      · cases h
    · cases h

theorem ev_sound (hT' : TOk hT) (hG : GOk prog w hT G) (hΦ : FnOk prog w hT k Φ) : ∀ n, Snd prog w hT k (ev G Φ n)
  | 0 => ⟨fun _ _ _ _ => rfl, fun _ _ _ _ _ => rfl, fun _ _ _ _ h => by cases h⟩
  | n + 1 => evStep_sound hT' hG hΦ (ev_sound hT' hG hΦ n)
end
end Mine
set_option Elab.async false
set_option maxRecDepth 4000
namespace Mine
open PySem PySem.Calls PyProof.Rows PySem.W PySem.Spec

abbrev Sg := List (Str × List D)
inductive Fl where
  | next (σ : Sg) (ρ : Rho)
  | ret (d : D)

def aug (ρ : Rho) (σ : Sg) (α : Str → Addr) : Rho := fun x => match σ.lookup x with
  | some _ => some (.val (.ref (α x)))
  | none => ρ x
def vis (σ : Sg) (ρ : Rho) : Rho := fun x => match σ.lookup x with
  | some _ => none
  | none => ρ x
def drp (x : Str) (σ : Sg) : Sg := σ.filter fun p => decide (p.1 ≠ x)
def thawR (p : Str → Bool) (σ : Sg) (ρ : Rho) : Rho := fun x => if p x = true then match σ.lookup x with
  | some l => some (.lst l)
  | none => ρ x
  else ρ x
def thawS (p : Str → Bool) (σ : Sg) : Sg := σ.filter fun q => !p q.1

theorem lookup_filter {σ : Sg} (p : Str → Bool) (x : Str) : (σ.filter fun q => p q.1).lookup x = if p x = true then σ.lookup x else none := by
  induction σ with
  | nil => simp
  | cons q r ih =>
    obtain ⟨y, l⟩ := q
    rw [List.filter_cons]
    by_cases hxy : x = y
    · subst hxy
      by_cases hp : p x = true
      · simp [hp]
      · simp only [hp]
        simp only [Bool.false_eq_true, if_false, ih]
        simp [hp]
    · have e : (x == y) = false := by simpa using hxy
      by_cases hp : p y = true
      · simp only [hp, if_true, List.lookup_cons, e]; exact ih
      · simp only [hp, Bool.false_eq_true, if_false, List.lookup_cons, e]; exact ih
theorem lookup_drp {σ : Sg} (x y : Str) : (drp x σ).lookup y = if y = x then none else σ.lookup y := by
  unfold drp
  have := lookup_filter (σ := σ) (fun z => decide (z ≠ x)) y
  rw [this]
  by_cases h : y = x <;> simp [h]
theorem lookup_thaw {σ : Sg} (p : Str → Bool) (y : Str) : (thawS p σ).lookup y = if p y = true then none else σ.lookup y := by
  unfold thawS
  have := lookup_filter (σ := σ) (fun z => !p z) y
  rw [this]
  by_cases h : p y = true <;> simp [h]

section
variable (prog : Program) (w : World) (hT : Heap)
def OwnAt (env : Env) (X Xc : Addr → Prop) (h₀ h : Heap) (a : Addr) (l : List D) : Prop :=
  X a ∧ ¬ Xc a ∧ h₀.get? a = none ∧ ¬ Own env a ∧ l.length ≤ 1000000 ∧ ∃ vs, h.PlainList a vs.toArray ∧ RdL prog w X h vs l
/-- the state behind a statement -/
structure StOk (env : Env) (sc : Names) (Xc : Addr → Prop) (h₀ : Heap) (σ : Sg) (ρ : Rho) (X : Addr → Prop) (h : Heap) : Prop where
  sup : ∀ a, Xc a → X a
  ex : ∃ α : Str → Addr, EnvOk prog w hT env sc (aug ρ σ α) X h₀ h ∧ (∀ x l, σ.lookup x = some l → OwnAt prog w env X Xc h₀ h (α x) l) ∧ ∀ x y l l', σ.lookup x = some l → σ.lookup y = some l' → α x = α y → x = y
end

section
variable {prog : Program} {w : World} {hT : Heap} {k : Nat} {A : Around} {X Xc : Addr → Prop} {s : Shared} {env : Env} {sc : Names} {σ : Sg} {ρ ρ' : Rho} {h₀ h h' : Heap} {F : Ev} {G : Rho} {Φ : Addr → List D → Option D}

theorem StOk.toEnv (O : StOk prog w hT env sc Xc h₀ σ ρ X h) : EnvOk prog w hT env sc (vis σ ρ) X h₀ h := by
  obtain ⟨α, O, _⟩ := O.ex
  refine O.less fun x d e => ?_
  unfold vis at e
  unfold aug
  split at e
  · cases e
  · exact e

theorem OwnAt.keep {a : Addr} {l : List D} (o : OwnAt prog w env X Xc h₀ h a l) (hk : Old h h') : OwnAt prog w env X Xc h₀ h' a l := by
  obtain ⟨h1, h2, h3, h4, h5, vs, ⟨n, e⟩, r⟩ := o
  exact ⟨h1, h2, h3, h4, h5, vs, ⟨n, hk _ _ e⟩, r.old hk⟩
theorem StOk.keeps (O : StOk prog w hT env sc Xc h₀ σ ρ X h) (hk : Old h h') : StOk prog w hT env sc Xc h₀ σ ρ X h' := by
  obtain ⟨α, E, o, i⟩ := O.ex
  exact ⟨O.sup, α, E.keeps hk, fun x l e => (o x l e).keep hk, i⟩

/-- owned lists become plain data -/
theorem StOk.thaw (p : Str → Bool) (O : StOk prog w hT env sc Xc h₀ σ ρ X h) : ∃ X', StOk prog w hT env sc Xc h₀ (thawS p σ) (thawR p σ ρ) X' h ∧ ∀ a, X' a → X a := by
  obtain ⟨α, E, o, i⟩ := O.ex
  let W : Addr → Prop := fun a => ∃ x l, p x = true ∧ σ.lookup x = some l ∧ a = α x
  let X' : Addr → Prop := fun a => X a ∧ ¬ W a
  have sub : ∀ a, X' a → X a := fun a q => q.1
  have nO : ∀ a, W a → ¬ Own env a := by rintro a ⟨x, l, _, e, rfl⟩; exact (o x l e).2.2.2.1
  have sup' : ∀ a, Xc a → X' a := fun a q => ⟨O.sup a q, by rintro ⟨x, l, _, e, rfl⟩; exact (o x l e).2.1 q⟩
  have ownX' : ∀ a, Own env a → X' a := fun a q => ⟨by
    rcases q with rfl | ⟨y, z⟩
    · exact E.locX
    · exact E.ownX y a z, fun z => nO a z q⟩
  have E1 : EnvOk prog w hT env sc (aug ρ σ α) X' h₀ h :=
    { E with
      locX := ownX' _ (.inl rfl)
      cell := fun x hx => let ⟨c, v, a, b, d⟩ := E.cell x hx; ⟨c, v, a, b, ownX' _ (.inr ⟨x, a⟩)⟩
      ownX := fun x c e => ownX' _ (.inr ⟨x, e⟩)
      tX := fun a q => E.tX a q.1
      live := fun a q => E.live a q.1
      vals := fun x k d hx nk e => let ⟨v, a, r⟩ := E.vals x k d hx nk e; ⟨v, a, r.mono sub fun _ _ _ e => e⟩ }
  refine ⟨X', ⟨sup', α, ?_, fun x l e => ?_, fun x y l l' e e' => ?_⟩, sub⟩
  · refine { E1 with vals := fun x k d hx nk e => ?_ }
    unfold aug thawR at e
    rw [lookup_thaw] at e
    by_cases hp : p x = true
    · simp only [hp, if_true] at e
      cases hl : σ.lookup x with
      | none =>
        rw [hl] at e
        exact E1.vals x k d hx nk (by unfold aug; rw [hl]; exact e)
      | some l =>
        rw [hl] at e
        cases e
        obtain ⟨v, a, r⟩ := E1.vals x k (.val (.ref (α x))) hx nk (by unfold aug; rw [hl])
        obtain rfl := r.val_inv
        obtain ⟨h1, h2, h3, h4, h5, vs, ⟨n, e⟩, rl⟩ := o x l hl
        refine ⟨_, a, .lst (fun q => q.2 ⟨x, l, hp, hl, rfl⟩) ⟨?_, n, e⟩ (rl.mono sub fun _ _ _ e => e)⟩
        rw [rl.length]; simp only [sizeLine]; omega
    · simp only [hp] at e
      refine E1.vals x k d hx nk ?_
      unfold aug
      simpa using e
  · rw [lookup_thaw] at e
    split at e
    · cases e
    · rename_i hp
      obtain ⟨h1, h2, h3, h4, h5, vs, hpl, rl⟩ := o x l e
      exact ⟨⟨h1, by rintro ⟨y, l', hy, el, ea⟩; rw [i x y l l' e el ea] at hp; exact hp hy⟩, h2, h3, h4, h5, vs, hpl, rl.mono sub fun _ _ _ e => e⟩
  · rw [lookup_thaw] at e e'
    split at e
    · cases e
    · split at e'
      · cases e'
      · exact i x y l l' e e'

theorem aug_upd {α : Str → Addr} {x : Str} {d : D} : aug (upd ρ x d) (drp x σ) α = upd (aug ρ σ α) x d := by
  funext y
  unfold aug upd
  rw [lookup_drp]
  by_cases h : y = x
  · simp [h]
  · simp [h]

theorem OwnAt.assign {a : Addr} {l : List D} (o : OwnAt prog w env X Xc h₀ h a l) (ownX : ∀ b, Own env b → X b) (hk : Keep env h h') : OwnAt prog w env X Xc h₀ h' a l := by
  obtain ⟨h1, h2, h3, h4, h5, vs, ⟨n, e⟩, r⟩ := o
  exact ⟨h1, h2, h3, h4, h5, vs, ⟨n, hk _ _ h4 e⟩, r.mono (fun _ q => q) fun b o nb e => hk b o (fun z => nb (ownX b z)) e⟩

def nameE : Expr → Option Str
  | .Name x _ => some x
  | _ => none
def noneOwned (σ : Sg) (es : List Expr) : Bool := es.all fun e => match nameE e with
  | some x => (σ.lookup x).isNone
  | none => false
theorem aug_upd' {α : Str → Addr} {x : Str} {d : D} (h : σ.lookup x = none) : aug (upd ρ x d) σ α = upd (aug ρ σ α) x d := by
  funext y
  unfold aug upd
  by_cases hy : y = x
  · subst hy; simp [h]
  · simp [hy]
theorem bindAll_aug {α : Str → Addr} : ∀ {es : List Expr} {ds : List D} {ρ ρ' : Rho}, bindAll sc es ds ρ = some ρ' → noneOwned σ es = true → bindAll sc es ds (aug ρ σ α) = some (aug ρ' σ α)
  | [], [], ρ, ρ', h, _ => by cases h; rfl
  | [], _ :: _, _, _, h, _ => by cases h
  | e :: es, [], ρ, ρ', h, _ => by cases e <;> simp [bindAll] at h
  | e :: es, d :: ds, ρ, ρ', h, hn => by
    cases e <;> simp only [bindAll, reduceCtorEq] at h
    split at h
    · rename_i x p hx
      unfold noneOwned at hn
      rw [List.all_cons, Bool.and_eq_true] at hn
      have hx' : σ.lookup x = none := by simpa [nameE] using hn.1
      unfold bindAll
      rw [if_pos hx, ← aug_upd' hx']
      exact bindAll_aug h hn.2
    · cases h

/-- an assignment to a target -/
def bindS (sc : Names) (t : Expr) (d : D) (σ : Sg) (ρ : Rho) : Option (Sg × Rho) := match t with
  | .Name x _ => if storable sc x = true then some (drp x σ, upd ρ x d) else none
  | .Tuple es n p => if noneOwned σ es = true then match bindD sc (.Tuple es n p) d ρ with
      | some ρ' => some (σ, ρ')
      | none => none
    else none
  | _ => none

theorem assignS {t : Expr} {v : Value} {d : D} {σ' : Sg} {Q : Unit → Shared → Prop} {E : Value → Shared → Prop} (hh : A.handled = none) (O : StOk prog w hT env sc Xc h₀ σ ρ X s.heap) (r : ItAt prog w X s.heap (isTup t) v d) (hb : bindS sc t d σ ρ = some (σ', ρ'))
    (h : ∀ h' tk, StOk prog w hT env sc Xc h₀ σ' ρ' X h' → s.toks ≤ tk → Keep env s.heap h' → Q () { s with heap := h', toks := tk }) : wpAny (model prog w) A (assign t env v) Q E s := by
  obtain ⟨α, E', o, i⟩ := O.ex
  have ownX : ∀ b, Own env b → X b := by
    rintro b (rfl | ⟨y, z⟩)
    · exact E'.locX
    · exact E'.ownX y b z
  unfold bindS at hb
  split at hb
  · split at hb
    · rename_i x p hx
      cases hb
      refine assign_sound (ρ := aug ρ σ α) (ρ' := upd (aug ρ σ α) x d) hh E' r (by simp only [bindD, hx, if_true]) fun h' tk O' l k => h h' tk ⟨O.sup, α, ?_, fun y l e => ?_, fun y z l l' e e' => ?_⟩ l k
      · rw [aug_upd]; exact O'
      · rw [lookup_drp] at e
        split at e
        · cases e
        · exact (o y l e).assign ownX k
      · rw [lookup_drp] at e e'
        split at e
        · cases e
        · split at e'
          · cases e'
          · exact i y z l l' e e'
    · cases hb
  · split at hb
    · rename_i es n p hn
      split at hb
      · rename_i ρ'' hb'
        cases hb
        have hb2 : bindD sc (.Tuple es n p) d (aug ρ σ α) = some (aug ρ' σ α) := by
          unfold bindD at hb' ⊢
          split at hb'
          · rename_i heq; cases heq
          · rename_i heq; cases heq; exact bindAll_aug hb' hn
          · rename_i heq; cases heq; exact bindAll_aug hb' hn
          · cases hb'
        exact assign_sound hh E' r hb2 fun h' tk O' l k => h h' tk ⟨O.sup, α, O', fun y l e => (o y l e).assign ownX k, i⟩ l k
      · cases hb
    · cases hb
  · cases hb
end
end Mine
set_option Elab.async false
set_option maxRecDepth 4000
namespace Mine
open PySem PySem.Calls PyProof.Rows PySem.W PySem.Spec

section
variable (prog : Program) (w : World) (hT : Heap)
structure NextOk (env : Env) (sc : Names) (Xc : Addr → Prop) (h₀ : Heap) (X : Addr → Prop) (h : Heap) (σ' : Sg) (ρ' : Rho) (X' : Addr → Prop) (h' : Heap) : Prop where
  st : StOk prog w hT env sc Xc h₀ σ' ρ' X' h'
  back : ∀ b o, h.get? b = some o → X' b → X b
  kept : ∀ b o, h.get? b = some o → ¬ Own env b → (¬ X b ∨ Xc b) → h'.get? b = some o
def Cont (env : Env) (sc : Names) (Xc : Addr → Prop) (h₀ : Heap) (X : Addr → Prop) (s : Shared) (Q : Flow → Shared → Prop) : Fl → Prop
  | .next σ' ρ' => ∀ h' tk X', 0 < tk → NextOk prog w hT env sc Xc h₀ X s.heap σ' ρ' X' h' → Q .next { s with heap := h', toks := tk }
  | .ret d => ∀ v h' tk X', 0 < tk → (∀ a, Xc a → X' a) → Old h₀ h' → Rd prog w X' h' v d → Q (.ret v) { s with heap := h', toks := tk }
def StSnd (k : Nat) (sc : Names) (f : Sg → Rho → Stmt → Option Fl) : Prop :=
  ∀ σ ρ st fl, f σ ρ st = some fl → ∀ A env X Xc h₀ s Q E, AOk k A → StOk prog w hT env sc Xc h₀ σ ρ X s.heap → 0 < s.toks → Cont prog w hT env sc Xc h₀ X s Q fl → wpAny (model prog w) A (exec st env) Q E s
def BlSnd (k : Nat) (sc : Names) (f : Sg → Rho → Option Fl) (body : List Stmt) : Prop :=
  ∀ σ ρ fl, f σ ρ = some fl → ∀ A env X Xc h₀ s Q E, AOk k A → StOk prog w hT env sc Xc h₀ σ ρ X s.heap → 0 < s.toks → Cont prog w hT env sc Xc h₀ X s Q fl → wpAny (model prog w) A (execs body env) Q E s
end

def blD (f : Sg → Rho → Stmt → Option Fl) : List Stmt → Sg → Rho → Option Fl
  | [], σ, ρ => some (.next σ ρ)
  | st :: r, σ, ρ => match f σ ρ st with
    | some (.next σ' ρ') => blD f r σ' ρ'
    | some (.ret d) => some (.ret d)
    | none => none
def whileD (T : Sg → Rho → Option Bool) (body : Sg → Rho → Option Fl) : Nat → Sg → Rho → Option Fl
  | 0, _, _ => none
  | m + 1, σ, ρ => match T σ ρ with
    | some true => match body σ ρ with
      | some (.next σ' ρ') => whileD T body m σ' ρ'
      | some (.ret d) => some (.ret d)
      | none => none
    | some false => some (.next σ ρ)
    | none => none
def forD (sc : Names) (t : Expr) (body : Sg → Rho → Option Fl) : List D → Sg → Rho → Option Fl
  | [], σ, ρ => some (.next σ ρ)
  | d :: r, σ, ρ => match bindS sc t d σ ρ with
    | none => none
    | some (σ1, ρ1) => match body σ1 ρ1 with
      | some (.next σ' ρ') => forD sc t body r σ' ρ'
      | some (.ret d) => some (.ret d)
      | none => none

section
variable {prog : Program} {w : World} {hT : Heap} {k : Nat} {A : Around} {X Xc X₁ X₂ : Addr → Prop} {s : Shared} {env : Env} {sc : Names} {σ σ' σ₁ σ₂ : Sg} {ρ ρ' ρ₁ ρ₂ : Rho} {h₀ h h' h₁ h₂ : Heap} {F : Ev} {G : Rho} {Φ : Addr → List D → Option D}

theorem NextOk.refl (O : StOk prog w hT env sc Xc h₀ σ ρ X h) : NextOk prog w hT env sc Xc h₀ X h σ ρ X h := ⟨O, fun _ _ _ q => q, fun _ _ e _ _ => e⟩
theorem NextOk.trans (a : NextOk prog w hT env sc Xc h₀ X h σ₁ ρ₁ X₁ h₁) (b : NextOk prog w hT env sc Xc h₀ X₁ h₁ σ₂ ρ₂ X₂ h₂) : NextOk prog w hT env sc Xc h₀ X h σ₂ ρ₂ X₂ h₂ where
  st := b.st
  back := fun c o e q => by
    refine Classical.byContradiction fun nX => ?_
    have no : ¬ Own env c := fun z => by
      obtain ⟨α, O, _⟩ := b.st.ex
      obtain ⟨α', O', _⟩ := a.st.ex
      rcases z with rfl | ⟨y, z⟩
      · exact nX (a.back _ o e O'.locX)
      · exact nX (a.back _ o e (O'.ownX y c z))
    exact nX (a.back c o e (b.back c o (a.kept c o e no (.inl nX)) q))
  kept := fun c o e no q => b.kept c o (a.kept c o e no q) no (q.imp (fun nX q => nX (a.back c o e q)) id)
theorem NextOk.of_old (O : StOk prog w hT env sc Xc h₀ σ ρ X h) (hk : Old h h') : NextOk prog w hT env sc Xc h₀ X h σ ρ X h' := ⟨O.keeps hk, fun _ _ _ q => q, fun _ _ e _ _ => hk _ _ e⟩

theorem Cont.trans {Q : Flow → Shared → Prop} {fl : Fl} {s : Shared} {h₁ : Heap} {t₁ : Nat} (a : NextOk prog w hT env sc Xc h₀ X s.heap σ₁ ρ₁ X₁ h₁) (c : Cont prog w hT env sc Xc h₀ X s Q fl) : Cont prog w hT env sc Xc h₀ X₁ { s with heap := h₁, toks := t₁ } Q fl := by
  cases fl with
  | next σ' ρ' => exact fun h' tk X' p n => c h' tk X' p (a.trans n)
  | ret d => exact c

theorem block_sound {f : Sg → Rho → Stmt → Option Fl} (hf : StSnd prog w hT k sc f) : ∀ (body : List Stmt), BlSnd prog w hT k sc (blD f body) body
  | [], σ, ρ, fl, h, A, env, X, Xc, h₀, s, Q, E, hA, O, h0, c => by
    cases h
    exact wpAny_execs_nil (c s.heap s.toks X h0 (.refl O))
  | st :: r, σ, ρ, fl, h, A, env, X, Xc, h₀, s, Q, E, hA, O, h0, c => by
    unfold blD at h
    refine wpAny_execs_cons ?_
    split at h
    · rename_i σ' ρ' hs
      refine hf σ ρ st _ hs A env X Xc h₀ s _ E hA O h0 fun h' tk X' p n => ?_
      exact block_sound hf r σ' ρ' fl h A env X' Xc h₀ _ Q E hA n.st p (c.trans n)
    · rename_i d hs
      cases h
      exact hf σ ρ st _ hs A env X Xc h₀ s _ E hA O h0 c
    · cases h

theorem while_sound {F : Ev} {T : Tst} (ST : TSnd prog w hT k T) {body : List Stmt} {b : Sg → Rho → Option Fl} (hb : BlSnd prog w hT k sc b body) {test : Expr} {pos : Pos} {m : Nat} {fl : Fl} {Q : Flow → Shared → Prop} {E : Value → Shared → Prop}
    (h : whileD (fun σ ρ => T sc (vis σ ρ) test) b m σ ρ = some fl) (hA : AOk k A) (O : StOk prog w hT env sc Xc h₀ σ ρ X s.heap) (h0 : 0 < s.toks) (c : Cont prog w hT env sc Xc h₀ X s Q fl) : wpAny (model prog w) A (exec (.While test body [] pos) env) Q E s := by
  refine wpAny_While (codeAny_whileLoop (fun n s' => ∃ σ' ρ' X' h' tk, s' = { s with heap := h', toks := tk } ∧ 0 < tk ∧ NextOk prog w hT env sc Xc h₀ X s.heap σ' ρ' X' h' ∧ whileD (fun σ ρ => T sc (vis σ ρ) test) b n σ' ρ' = some fl) ?_ m ⟨σ, ρ, X, s.heap, s.toks, rfl, h0, .refl O, h⟩)
  rintro n s' ⟨σ', ρ', X', h', tk, rfl, p, nx, hw⟩
  cases n with
  | zero => cases hw
  | succ n =>
    unfold whileD at hw
    split at hw
    · rename_i ht
      refine ST.snd _ _ _ _ ht _ _ _ _ _ hA nx.st.toEnv p _ _ fun v h₁ t₁ l₁ o₁ e₁ => ?_
      subst e₁
      have p1 := Nat.lt_of_lt_of_le p l₁
      have nx1 := nx.trans (.of_old nx.st o₁)
      simp only [if_true]
      split at hw
      · rename_i σ'' ρ'' hb'
        exact hb σ' ρ' _ hb' A env X' Xc h₀ _ _ _ hA nx1.st p1 fun h₂ t₂ X₂ p₂ n₂ => ⟨n, Nat.lt_succ_self _, σ'', ρ'', X₂, h₂, t₂, rfl, p₂, nx1.trans n₂, hw⟩
      · rename_i d hb'
        cases hw
        exact hb σ' ρ' _ hb' A env X' Xc h₀ _ _ _ hA nx1.st p1 c
      · cases hw
    · rename_i ht
      cases hw
      refine ST.snd _ _ _ _ ht _ _ _ _ _ hA nx.st.toEnv p _ _ fun v h₁ t₁ l₁ o₁ e₁ => ?_
      subst e₁
      have p1 := Nat.lt_of_lt_of_le p l₁
      simp only [Bool.false_eq_true, if_false]
      exact wpAny_execs_nil (c h₁ t₁ X' p1 (nx.trans (.of_old nx.st o₁)))
    · cases hw
end
end Mine
set_option Elab.async false
set_option maxRecDepth 4000
namespace Mine
open PySem PySem.Calls PyProof.Rows PySem.W PySem.Spec

section
variable {prog : Program} {w : World} {hT : Heap} {k : Nat} {A : Around} {X Xc X₁ X₂ : Addr → Prop} {s : Shared} {env : Env} {sc : Names} {σ σ' σ₁ σ₂ : Sg} {ρ ρ' ρ₁ ρ₂ : Rho} {h₀ h h' h₁ h₂ : Heap} {F : Ev} {G : Rho} {Φ : Addr → List D → Option D}

theorem ItAt.mono {X X' : Addr → Prop} {h : Heap} {tup : Bool} {v : Value} {d : D} (hX : ∀ a, X' a → X a) (r : ItAt prog w X h tup v d) : ItAt prog w X' h tup v d := by
  unfold ItAt at r ⊢
  split at r
  · rename_i ht
    rw [if_pos ht]
    rcases r with ⟨a, vs, ds, e, hd, hs, rv⟩ | r
    · exact .inl ⟨a, vs, ds, e, hd, hs, rv.mono hX fun _ _ _ e => e⟩
    · exact .inr (r.mono hX fun _ _ _ e => e)
  · rename_i ht
    rw [if_neg ht]
    exact r.mono hX fun _ _ _ e => e

theorem StOk.own (O : StOk prog w hT env sc Xc h₀ σ ρ X h) : ∀ b, Own env b → X b := by
  obtain ⟨α, E, _⟩ := O.ex
  rintro b (rfl | ⟨y, z⟩)
  · exact E.locX
  · exact E.ownX y b z

/-- iterators go under the marks -/
theorem StOk.more (O : StOk prog w hT env sc Xc h₀ σ ρ X h) (wr : List Addr) (hk : Old h h') (hw : ∀ a ∈ wr, h.get? a = none ∧ ∃ o, h'.get? a = some o) : StOk prog w hT env sc (fun a => Xc a ∨ a ∈ wr) h₀ σ ρ (fun a => X a ∨ a ∈ wr) h' := by
  obtain ⟨α, E, o, i⟩ := O.ex
  refine ⟨fun a q => q.imp (O.sup a) id, α, E.widen hk (fun a q => .inl q) fun a q => q.imp id fun q => hw a q, fun x l e => ?_, i⟩
  obtain ⟨h1, h2, h3, h4, h5, vs, ⟨n, e'⟩, r⟩ := o x l e
  refine ⟨.inl h1, fun q => q.elim h2 fun q => ?_, h3, h4, h5, vs, ⟨n, hk _ _ e'⟩, (r.grow (X' := fun a => X a ∨ a ∈ wr) fun a o e q => q.elim id fun q => ?_).old hk⟩
  · rw [(hw _ q).1] at e'; cases e'
  · rw [(hw a q).1] at e; cases e
/-- and leave them -/
theorem StOk.fewer {wr : List Addr} (O : StOk prog w hT env sc (fun a => Xc a ∨ a ∈ wr) h₀ σ ρ X h) (hk : ∀ b o, b ∉ wr → h.get? b = some o → h'.get? b = some o) (hw : ∀ a ∈ wr, h₀.get? a = none ∧ ¬ Own env a ∧ ¬ Xc a) : StOk prog w hT env sc Xc h₀ σ ρ (fun a => X a ∧ a ∉ wr) h' := by
  obtain ⟨α, E, o, i⟩ := O.ex
  have sub : ∀ a, (X a ∧ a ∉ wr) → X a := fun a q => q.1
  have wX : ∀ a, a ∈ wr → X a := fun a q => O.sup a (.inr q)
  have E1 : EnvOk prog w hT env sc (aug ρ σ α) (fun a => X a ∧ a ∉ wr) h₀ h :=
    { E with
      locX := ⟨E.locX, fun q => (hw _ q).2.1 (.inl rfl)⟩
      cell := fun x hx => let ⟨c, v, a, b, d⟩ := E.cell x hx; ⟨c, v, a, b, d, fun q => (hw _ q).2.1 (.inr ⟨x, a⟩)⟩
      ownX := fun x c e => ⟨E.ownX x c e, fun q => (hw _ q).2.1 (.inr ⟨x, e⟩)⟩
      tX := fun a q => E.tX a q.1
      live := fun a q => E.live a q.1
      vals := fun x k d hx nk e => let ⟨v, a, r⟩ := E.vals x k d hx nk e; ⟨v, a, r.mono sub fun _ _ _ e => e⟩ }
  refine ⟨fun a q => ⟨O.sup a (.inl q), fun z => (hw a z).2.2 q⟩, α, E.cut E1 sub (fun a => a ∈ wr) hk (fun a q => ⟨wX a q, (hw a q).1, (hw a q).2.1⟩) fun a q z => absurd z q.2, fun x l e => ?_, i⟩
  obtain ⟨h1, h2, h3, h4, h5, vs, ⟨n, e'⟩, r⟩ := o x l e
  have nw : α x ∉ wr := fun q => h2 (.inr q)
  exact ⟨⟨h1, nw⟩, fun q => h2 (.inl q), h3, h4, h5, vs, ⟨n, hk _ _ nw e'⟩, (r.mono (fun _ q => q) fun b o nb e => hk b o (fun z => nb (wX b z)) e).mono sub fun _ _ _ e => e⟩
/-- what is written lies under Xc -/
theorem StOk.hot {W : Addr → Prop} (O : StOk prog w hT env sc Xc h₀ σ ρ X h) (hk : ∀ b o, ¬ W b → h.get? b = some o → h'.get? b = some o) (hW : ∀ a, W a → Xc a ∧ h₀.get? a = none ∧ ¬ Own env a) (lv : ∀ a, W a → ∃ o, h'.get? a = some o) : StOk prog w hT env sc Xc h₀ σ ρ X h' := by
  obtain ⟨α, E, o, i⟩ := O.ex
  refine ⟨O.sup, α, E.cut E (fun _ q => q) W hk (fun a q => ⟨O.sup a (hW a q).1, (hW a q).2⟩) fun a _ z => lv a z, fun x l e => ?_, i⟩
  obtain ⟨h1, h2, h3, h4, h5, vs, ⟨n, e'⟩, r⟩ := o x l e
  exact ⟨h1, h2, h3, h4, h5, vs, ⟨n, hk _ _ (fun z => h2 (hW _ z).1) e'⟩, r.mono (fun _ q => q) fun b o nb e => hk b o (fun z => nb (O.sup b (hW b z).1)) e⟩

theorem bindS_tg {t : Expr} {d : D} {p : Sg × Rho} (h : bindS sc t d σ ρ = some p) : TgOk t := by
  unfold bindS at h
  split at h
  · exact .inr ⟨_, _, rfl⟩
  · exact .inl ⟨_, _, _, rfl⟩
  · cases h

theorem for_sound (S : Snd prog w hT k F) (hG : GOk prog w hT G) {body : List Stmt} {b : Sg → Rho → Option Fl} (hb : BlSnd prog w hT k sc b body) {t iter : Expr} {pos : Pos} {xs : List D} {fl : Fl} {Q : Flow → Shared → Prop} {E : Value → Shared → Prop}
    (ht : TgOk t) (hx : itemsD G F sc (vis σ ρ) (isTup t) iter = some xs) (h : forD sc t b xs σ ρ = some fl) (hA : AOk k A) (O : StOk prog w hT env sc Xc h₀ σ ρ X s.heap) (h0 : 0 < s.toks) (c : Cont prog w hT env sc Xc h₀ X s Q fl) : wpAny (model prog w) A (exec (.For t iter body [] pos) env) Q E s := by
  refine wpAny_For (items_sound S hG hA O.toEnv ht h0 hx fun it h₁ h₂ tk l₁ o₁ o₂ src => ?_) (folded_pure (items_notSet S hx) env)
  have p₁ : 0 < tk := Nat.lt_of_lt_of_le h0 l₁
  obtain ⟨I, fp, wr, P, Md, St, rfl, W, self, st0, lvSt, lvfp, frw, hfp, items⟩ := src
  have O1 := O.keeps o₁
  have O2 := O1.more wr o₂ fun a q => ⟨frw a q, lvSt _ _ st0 a q⟩
  have nXw : ∀ a ∈ wr, ¬ X a := fun a q z => by
    obtain ⟨o, e⟩ := O1.toEnv.live a z
    rw [frw a q] at e; cases e
  have h0w : ∀ a ∈ wr, h₀.get? a = none := fun a q => by
    cases e : h₀.get? a with
    | none => rfl
    | some o => have := O1.toEnv.old a o e; rw [frw a q] at this; cases this
  have nOw : ∀ a ∈ wr, ¬ Own env a := fun a q z => nXw a q (O.own a z)
  have hw : ∀ a ∈ wr, h₀.get? a = none ∧ ¬ Own env a ∧ ¬ Xc a := fun a q => ⟨h0w a q, nOw a q, fun z => nXw a q (O.sup a z)⟩
  have own2 : ∀ b, Own env b → X b := O.own
  have fin : ∀ σ' ρ' X' h' h'' tk', 0 < tk' → StOk prog w hT env sc (fun a => Xc a ∨ a ∈ wr) h₀ σ' ρ' X' h' → (∀ b o, h₂.get? b = some o → X' b → X b ∨ b ∈ wr) → (∀ b o, h₂.get? b = some o → ¬ Own env b → (¬ (X b ∨ b ∈ wr) ∨ Xc b) → h'.get? b = some o) →
      (∀ b o, b ∉ wr → h'.get? b = some o → h''.get? b = some o) → fl = .next σ' ρ' → Q .next { s with heap := h'', toks := tk' } := fun σ' ρ' X' h' h'' tk' p st back kept hk e => by
    subst e
    refine c h'' tk' (fun a => X' a ∧ a ∉ wr) p ⟨st.fewer hk hw, fun b o e q => ?_, fun b o e no q => hk b o (fun z => ?_) (kept b o (o₂ _ _ (o₁ _ _ e)) no (q.imp (fun nX z => z.elim nX fun z => ?_) id))⟩
    · exact (back b o (o₂ _ _ (o₁ _ _ e)) q.1).elim id fun z => absurd z q.2
    · have := o₁ _ _ e; rw [frw b z] at this; cases this
    · have := o₁ _ _ e; rw [frw b z] at this; cases this
  refine codeAny_forLoop_any (fun n s' => ∃ i σ' ρ' X' h' tk', s' = { s with heap := h', toks := tk' } ∧ n = xs.length - i ∧ i ≤ xs.length ∧ St i h' ∧ 0 < tk' ∧ StOk prog w hT env sc (fun a => Xc a ∨ a ∈ wr) h₀ σ' ρ' X' h' ∧ (∀ b o, h₂.get? b = some o → X' b → X b ∨ b ∈ wr) ∧
    (∀ b o, h₂.get? b = some o → ¬ Own env b → (¬ (X b ∨ b ∈ wr) ∨ Xc b) → h'.get? b = some o) ∧ forD sc t b (xs.drop i) σ' ρ' = some fl) ?_ xs.length ⟨0, σ, ρ, _, h₂, tk, rfl, by simp, Nat.zero_le _, st0, p₁, O2, fun b o e q => q, fun b o e _ _ => e, by simpa using h⟩
  rintro n s' ⟨i, σ', ρ', X', h', tk', rfl, rfl, hi, st, p, so, back, kept, hf⟩
  by_cases hlt : i < xs.length
  case neg =>
    have : i = xs.length := by omega
    subst this
    refine wpAny_with_toks (n := 1) p (W.done _ _ _ st fun h₃ tk₃ hk => ?_)
    intro p3
    rw [List.drop_length] at hf
    cases hf
    exact wpAny_execs_nil (fin σ' ρ' X' h' h₃ tk₃ p3 so back kept hk rfl)
  case pos =>
    have hdrop : xs.drop i = xs[i] :: xs.drop (i + 1) := List.drop_eq_getElem_cons hlt
    rw [hdrop] at hf
    unfold forD at hf
    split at hf
    · cases hf
    · rename_i σ1 ρ1 hbind
      refine wpAny_with_toks (n := 1) p (W.item i _ _ _ hlt st fun v h₃ tk₃ md hk1 => ?_)
      intro p3
      refine W.go i v _ _ _ md fun h₄ pi st4 hk2 => ?_
      have hk12 : ∀ b o, b ∉ wr → h'.get? b = some o → h₄.get? b = some o := fun b o nb e => hk2 b o nb (hk1 b o nb e)
      have O4 := so.hot (W := fun a => a ∈ wr) hk12 (fun a q => ⟨.inr q, h0w a q, nOw a q⟩) fun a q => lvSt _ _ st4 a q
      have nwr : ∀ b, (¬ (X b ∨ b ∈ wr) ∨ Xc b) → b ∉ wr := fun b q z => q.elim (fun q => q (.inr z)) fun q => (hw b z).2.2 q
      have kept4 : ∀ b o, h₂.get? b = some o → ¬ Own env b → (¬ (X b ∨ b ∈ wr) ∨ Xc b) → h₄.get? b = some o := fun b o e no q => hk12 b o (nwr b q) (kept b o e no q)
      have hbk : ∀ b o, ¬ (X' b ∨ (X b ∨ b ∈ wr)) → h₁.get? b = some o → h₄.get? b = some o := fun b o nb e => kept4 b o (o₂ _ _ e) (fun z => nb (.inl (so.own b z))) (.inl fun z => nb (.inr z))
      have it := items i v h₄ xs[i] (fun a => X' a ∨ (X a ∨ a ∈ wr)) (fun a o e q => by
        have q : X a ∨ a ∈ wr := q.elim (fun q => back a o (o₂ _ _ e) q) id
        exact q.elim id fun z => by rw [frw a z] at e; cases e) hbk pi (by simp [hlt])
      have it' := it.mono (X' := X') fun a q => .inl q
      refine wpAny_with_toks (n := 1) p3 (assignS (s := { s with heap := h₄, toks := tk₃ }) hA.1 O4 it' hbind fun h₅ tk₅ O5 l₅ k₅ => ?_)
      intro p5
      have st5 : St (i + 1) h₅ := W.frame _ _ _ st4 fun b hb o e => k₅ b o (fun z => by
        rcases hfp b hb with q | q
        · exact nOw b q z
        · exact q (O.own b z)) e
      have kept5 : ∀ b o, h₂.get? b = some o → ¬ Own env b → (¬ (X b ∨ b ∈ wr) ∨ Xc b) → h₅.get? b = some o := fun b o e no q => k₅ b o no (kept4 b o e no q)
      split at hf
      · rename_i σ'' ρ'' hbd
        refine hb σ1 ρ1 _ hbd A env X' _ h₀ _ _ _ hA O5 p5 fun h₆ tk₆ X₆ p6 n6 => ?_
        have nX' : ∀ b o, h₂.get? b = some o → (¬ (X b ∨ b ∈ wr) ∨ Xc b) → (¬ X' b ∨ (Xc b ∨ b ∈ wr)) := fun b o e q => q.imp (fun q z => q (back b o e z)) .inl
        refine ⟨xs.length - (i + 1), by omega, i + 1, σ'', ρ'', X₆, h₆, tk₆, rfl, rfl, hlt, W.frame _ _ _ st5 fun b hb o e => n6.kept b o e ?_ ?_, p6, n6.st, fun b o e q => ?_, fun b o e no q => n6.kept b o (kept5 b o e no q) no (nX' b o e q), hf⟩
        · intro z
          rcases hfp b hb with q | q
          · exact nOw b q z
          · exact q (O.own b z)
        · rcases hfp b hb with q | q
          · exact .inr (.inr q)
          · obtain ⟨o', e'⟩ := lvfp b hb
            by_cases hbw : b ∈ wr
            · exact .inr (.inr hbw)
            · exact .inl fun z => (back b o' e' z).elim q hbw
        · refine Classical.byContradiction fun nX => ?_
          have no : ¬ Own env b := fun z => nX (.inl (O.own b z))
          exact nX (back b o e (n6.back b o (kept5 b o e no (.inl nX)) q))
      · rename_i d hbd
        cases hf
        refine hb σ1 ρ1 _ hbd A env X' _ h₀ _ _ _ hA O5 p5 fun v h₆ tk₆ X₆ p6 sup ho r => c v h₆ tk₆ X₆ p6 (fun a q => sup a (.inl q)) ho r
      · cases hf
end
end Mine
set_option Elab.async false
set_option maxRecDepth 4000
namespace Mine
open PySem PySem.Calls PyProof.Rows PySem.W PySem.Spec

def swapB (sc : Names) (x : Str) (tline : Nat) : Expr → Bool
  | .ListComp _ _ scope pos => sc.lookup x == some .local && tline == pos.line && !(scope.names.any fun p => p.1 == x && (p.2 == .local || p.2 == .cell))
  | .DictComp _ _ _ scope pos => sc.lookup x == some .local && tline == pos.line && !(scope.names.any fun p => p.1 == x && (p.2 == .local || p.2 == .cell))
  | _ => false
def notComp : Expr → Bool
  | .SetComp _ _ _ _ => false
  | _ => true
def notTupE : Expr → Bool
  | .Tuple _ _ _ => false
  | _ => true
/-- a plain assignment, or one of a comprehension -/
def assignD (G : Rho) (F : Ev) (sc : Names) (own : Str → Bool) (σ : Sg) (ρ : Rho) (t e : Expr) : Option (Sg × Rho) :=
  match t, e with
  | .Name x tp, .List es lp => if own x = true then match evsD (F sc (vis σ ρ)) es with
      | some ds => if ds.length ≤ 1000 ∧ sc.lookup x = some .local then some ((x, ds) :: drp x σ, ρ) else none
      | none => none
    else match F sc (vis σ ρ) (.List es lp) with
      | some d => bindS sc t d σ ρ
      | none => none
  | .Name x tp, .ListComp elt gens scope pos => if swapB sc x tp.line (.ListComp elt gens scope pos) = true then match compD G F (tstD F) sc (vis σ ρ) (fun sc ρ => F sc ρ elt) gens scope with
      | some out => bindS sc t (.lst out) σ ρ
      | none => none
    else match F sc (vis σ ρ) (.ListComp elt gens scope pos) with
      | some d => bindS sc t d σ ρ
      | none => none
  | .Name x tp, e => if notComp e = true ∧ swapB sc x tp.line e = false then match F sc (vis σ ρ) e with
      | some d => bindS sc t d σ ρ
      | none => none
    else none
  | .Tuple es n p, e => if notTupE e = true then match F sc (vis σ ρ) e with
      | some d => bindS sc (.Tuple es n p) d σ ρ
      | none => none
    else none
  | _, _ => none

section
variable {prog : Program} {w : World} {hT : Heap} {k : Nat} {A : Around} {X Xc X₁ X₂ : Addr → Prop} {s : Shared} {env : Env} {sc : Names} {σ σ' σ₁ σ₂ : Sg} {ρ ρ' ρ₁ ρ₂ : Rho} {h₀ h h' h₁ h₂ : Heap} {F : Ev} {G : Rho} {Φ : Addr → List D → Option D}

theorem swaps_eq (O : EnvOk prog w hT env sc ρ X h₀ h) {x : Str} {tp : Pos} {line : Nat} {e : Expr} (hx : storable sc x = true) (hn : notComp e = true) : swapsWith e (some (.Name x tp)) line env = pure (swapB sc x tp.line e) := by
  have hb : (env.blockKind == .function) = true := by
    unfold Env.blockKind
    rw [O.kind]; rfl
  have hk : (env.kindOf x == some .local) = (sc.lookup x == some .local) := by
    rcases storable_eq hx with e | e
    · rw [show env.kindOf x = some .local from O.kinds x _ e, e]
    · rw [show env.kindOf x = some .cell from O.kinds x _ e, e]
  cases e <;> try rfl
  · show (pure _ : Sem Bool) = _
    unfold swapB
    rw [hb, hk, Bool.true_and]
    rfl
  · cases hn
  · show (pure _ : Sem Bool) = _
    unfold swapB
    rw [hb, hk, Bool.true_and]
    rfl
theorem swaps_tup {es : List Expr} {n : Nat} {p : Pos} {line : Nat} {e : Expr} : swapsWith e (some (.Tuple es n p)) line env = pure false := by
  cases e <;> rfl
theorem stores_none {t e : Expr} (h : (∃ x p, t = .Name x p) ∨ notTupE e = true) : swappedStores [t] e env = pure none := by
  rcases h with ⟨x, p, rfl⟩ | h
  · cases e <;> rfl
  · cases t <;> cases e <;> first | rfl | cases h
theorem bindS_name {x : Str} {tp : Pos} {d : D} {p : Sg × Rho} (h : bindS sc (.Name x tp) d σ ρ = some p) : storable sc x = true := by
  unfold bindS at h
  dsimp only at h
  split at h
  · assumption
  · cases h
theorem bindS_next (O : StOk prog w hT env sc Xc h₀ σ ρ X h) {h' : Heap} (O' : StOk prog w hT env sc Xc h₀ σ' ρ' X h') (hk : Keep env h h') : NextOk prog w hT env sc Xc h₀ X h σ' ρ' X h' :=
  ⟨O', fun _ _ _ q => q, fun b o e no _ => hk b o no e⟩

/-- the value, and then the target -/
theorem plain_assign (S : Snd prog w hT k F) (hA : AOk k A) (O : StOk prog w hT env sc Xc h₀ σ ρ X s.heap) (h0 : 0 < s.toks) {t e : Expr} {pos : Pos} {d : D} {Q : Flow → Shared → Prop} {E : Value → Shared → Prop} (hd : F sc (vis σ ρ) e = some d) (hb : bindS sc t d σ ρ = some (σ', ρ'))
    (hs : swapsWithSole [t] e pos.line env = pure false) (hw : swappedStores [t] e env = pure none) (c : Cont prog w hT env sc Xc h₀ X s Q (.next σ' ρ')) : wpAny (model prog w) A (exec (.Assign [t] e pos) env) Q E s := by
  refine wpAny_Assign_stores ?_ hs hw
  refine S.snd _ _ _ _ hd _ _ _ _ _ hA O.toEnv h0 _ _ fun v h₁ t₁ l₁ o₁ r₁ => ?_
  have et : (assignEach [t] env).map (·.2) = [assign t env] := by
    rcases bindS_tg hb with ⟨es, n, p, rfl⟩ | ⟨x, p, rfl⟩ <;> rfl
  rw [et]
  show wpAny _ A (assign t env v) _ E _
  have it : ItAt prog w X h₁ (isTup t) v d := by
    unfold ItAt
    split
    · exact .inr r₁
    · exact r₁
  have p₁ : 0 < t₁ := Nat.lt_of_lt_of_le h0 l₁
  refine wpAny_with_toks (n := 1) p₁ (assignS (s := { s with heap := h₁, toks := t₁ }) hA.1 (O.keeps o₁) it hb fun h₂ t₂ O₂ l₂ k₂ => ?_)
  intro p₂
  exact c h₂ t₂ X p₂ ((NextOk.of_old O o₁).trans (bindS_next (O.keeps o₁) O₂ k₂))

theorem own_assign (S : Snd prog w hT k F) (hA : AOk k A) (O : StOk prog w hT env sc Xc h₀ σ ρ X s.heap) (h0 : 0 < s.toks) {x : Str} {tp lp pos : Pos} {es : List Expr} {ds : List D} {Q : Flow → Shared → Prop} {E : Value → Shared → Prop} (hd : evsD (F sc (vis σ ρ)) es = some ds) (hz : ds.length ≤ 1000) (hx : sc.lookup x = some .local)
    (c : Cont prog w hT env sc Xc h₀ X s Q (.next ((x, ds) :: drp x σ) ρ)) : wpAny (model prog w) A (exec (.Assign [.Name x tp] (.List es lp) pos) env) Q E s := by
  refine wpAny_Assign_Name ?_ (by rfl)
  rw [arm_eval_List]
  refine wpAny_bind (wpAny_standAt (wpAny_bind (evs_sound S hA O.toEnv hd h0 _ _ fun vs h₁ t₁ l₁ o₁ r₁ => ?_)))
  have hl : vs.length ≤ sizeLine := by rw [r₁.length]; simp only [sizeLine]; omega
  refine wpAny_newList ?_ hl
  have O1 := O.keeps o₁
  have p₁ : 0 < t₁ := Nat.lt_of_lt_of_le h0 l₁
  obtain ⟨α, E', o, i⟩ := O1.ex
  let a : Addr := h₁.objs.size
  have fa : h₁.get? a = none := fresh_size _ (Nat.le_refl _)
  have la : (h₁.push { cls := .type "list", data := .seq vs.toArray }).get? a = some { cls := .type "list", data := .seq vs.toArray } := Heap.get?_push_size _ rfl
  have nXa : ¬ X a := E'.live.fresh fa
  have E2 : EnvOk prog w hT env sc (aug ρ σ α) (fun b => X b ∨ b = a) h₀ (h₁.push { cls := .type "list", data := .seq vs.toArray }) := E'.widen (alloc_old _ _) (fun b q => .inl q) fun b q => q.imp id fun z => by subst z; exact ⟨fa, _, la⟩
  refine wpAny_with_toks (n := 1) p₁ (wpAny_store_at (s := { s with heap := h₁.push { cls := .type "list", data := .seq vs.toArray }, toks := t₁ }) (d := .val (.ref a)) E2 (.inl hx) (.val _) fun h₃ t₃ b E3 l₃ k₃ ob => ?_)
  intro p₃
  have own2 : ∀ b, Own env b → (X b ∨ b = a) := fun b q => .inl (O1.own b q)
  have ka : ¬ Own env a := fun q => nXa (O1.own a q)
  have keep3 : ∀ b' o, ¬ Own env b' → (h₁.push { cls := .type "list", data := .seq vs.toArray }).get? b' = some o → h₃.get? b' = some o := fun b' o nb e => k₃ b' o (fun z => nb (by rw [z]; exact ob)) e
  have h0a : h₀.get? a = none := by
    cases e : h₀.get? a with
    | none => rfl
    | some o => rw [E'.old a o e] at fa; cases fa
  let α' : Str → Addr := fun y => if y = x then a else α y
  have ea : aug ρ ((x, ds) :: drp x σ) α' = upd (aug ρ σ α) x (.val (.ref a)) := by
    funext y
    unfold aug upd
    rw [List.lookup_cons]
    by_cases hy : y = x
    · subst hy; simp [α']
    · have : (y == x) = false := by simpa using hy
      rw [this]
      simp only [lookup_drp, if_neg hy, α']
  have grow : ∀ b o, h₁.get? b = some o → (X b ∨ b = a) → X b := fun b o e q => q.elim id fun z => by rw [z, fa] at e; cases e
  have rd3 : ∀ {vs : List Value} {l : List D}, RdL prog w X h₁ vs l → RdL prog w (fun b => X b ∨ b = a) h₃ vs l := fun r => rdl_later r grow fun b o nb e => keep3 b o (fun z => nb (own2 b z)) (alloc_old _ _ _ _ e)
  refine c h₃ t₃ (fun b => X b ∨ b = a) p₃ ⟨⟨fun b q => .inl (O1.sup b q), α', by rw [ea]; exact E3, fun y l e => ?_, fun y z l l' e e' q => ?_⟩, fun b o e q => ?_, fun b o e no q => keep3 b o no (alloc_old _ _ _ _ (o₁ _ _ e))⟩
  · rw [List.lookup_cons] at e
    by_cases hy : y = x
    · subst hy
      rw [beq_self_eq_true] at e
      cases e
      have : α' y = a := by simp [α']
      rw [this]
      exact ⟨.inr rfl, fun q => nXa (O1.sup a q), h0a, ka, by omega, vs, ⟨0, keep3 a _ ka la⟩, rd3 r₁⟩
    · have hb : (y == x) = false := by simpa using hy
      rw [hb] at e
      simp only [lookup_drp, if_neg hy] at e
      have : α' y = α y := by simp [α', hy]
      rw [this]
      obtain ⟨h1, h2, h3, h4, h5, ws, ⟨n, e'⟩, r⟩ := o y l e
      exact ⟨.inl h1, h2, h3, h4, h5, ws, ⟨n, keep3 _ _ h4 (alloc_old _ _ _ _ e')⟩, rd3 r⟩
  · have live : ∀ y l, σ.lookup y = some l → α y ≠ a := fun y l e z => by
      obtain ⟨h1, _⟩ := o y l e
      rw [z] at h1; exact nXa h1
    rw [List.lookup_cons] at e e'
    by_cases hy : y = x <;> by_cases hz' : z = x
    · rw [hy, hz']
    · have hb : (z == x) = false := by simpa using hz'
      rw [hb] at e'
      simp only [lookup_drp, if_neg hz'] at e'
      have q1 : α' y = a := by simp [α', hy]
      have q2 : α' z = α z := by simp [α', hz']
      rw [q1, q2] at q
      exact absurd q.symm (live z l' e')
    · have hb : (y == x) = false := by simpa using hy
      rw [hb] at e
      simp only [lookup_drp, if_neg hy] at e
      have q1 : α' z = a := by simp [α', hz']
      have q2 : α' y = α y := by simp [α', hy]
      rw [q1, q2] at q
      exact absurd q (live y l e)
    · have hb : (y == x) = false := by simpa using hy
      have hb' : (z == x) = false := by simpa using hz'
      rw [hb] at e
      rw [hb'] at e'
      simp only [lookup_drp, if_neg hy] at e
      simp only [lookup_drp, if_neg hz'] at e'
      have q1 : α' z = α z := by simp [α', hz']
      have q2 : α' y = α y := by simp [α', hy]
      rw [q1, q2] at q
      exact i y z l l' e e' q
  · exact grow b o (o₁ _ _ e) q

theorem swap_assign (hT' : TOk hT) (S : Snd prog w hT k F) (hG : GOk prog w hT G) (hA : AOk k A) (O : StOk prog w hT env sc Xc h₀ σ ρ X s.heap) (h0 : 0 < s.toks) {x : Str} {tp cp pos : Pos} {elt : Expr} {gens : List Comprehension} {scope : Scope} {out : List D} {Q : Flow → Shared → Prop} {E : Value → Shared → Prop}
    (hc : compD G F (tstD F) sc (vis σ ρ) (fun sc ρ => F sc ρ elt) gens scope = some out) (hb : bindS sc (.Name x tp) (.lst out) σ ρ = some (σ', ρ')) (hsw : swapB sc x tp.line (.ListComp elt gens scope cp) = true)
    (c : Cont prog w hT env sc Xc h₀ X s Q (.next σ' ρ')) : wpAny (model prog w) A (exec (.Assign [.Name x tp] (.ListComp elt gens scope cp) pos) env) Q E s := by
  unfold bindS at hb
  dsimp only at hb
  split at hb
  · rename_i hx
    cases hb
    rw [arm_exec_Assign]
    refine wpAny_bind (wpAny_standAt ?_)
    refine wpAny_bind (wpAny_of_eq (show swapsWithSole [.Name x tp] (.ListComp elt gens scope cp) pos.line env = pure _ from swaps_eq (e := .ListComp elt gens scope cp) (tp := tp) (line := pos.line) O.toEnv hx rfl) ?_)
    rw [hsw]
    simp only [if_true]
    have hlen : out.length ≤ 1000000 := by
      unfold compD at hc
      split at hc
      · split at hc
        · cases hc
        · split at hc
          · cases hc
          · split at hc
            · cases hc
            · split at hc
              · cases hc; assumption
              · cases hc
      · cases hc
    obtain ⟨α, E', o, i⟩ := O.ex
    cases hg : gens with
    | nil =>
      subst hg
      unfold compD at hc
      split at hc <;> cases hc
    | cons g gs =>
      have ha : firstAsync gens = false := by
        rw [hg]
        unfold compD at hc
        split at hc
        · rename_i hh
          have := List.all_eq_true.mp hh.2 g (by rw [hg]; exact List.mem_cons_self)
          have : g.is_async = 0 := by simpa using this
          rw [first_async, this]; rfl
        · cases hc
      rw [← hg]
      refine wpAny_bind ?_
      show wpAny _ A (comprehension (.ListComp elt gens scope cp) scope env (firstIterPos gens cp) (newList []) (firstAsync gens) (firstIter gens env) (some fun v => assignAll v [assign (.Name x tp) env]) >>= fun _ => pure ()) _ _ _
      rw [ha]
      have hi : firstIter gens env = eval g.iter env := by rw [hg]; exact first_iter g gs env
      rw [hi]
      refine wpAny_bind ?_
      refine comp_use S (tstD_sound hT' S) hG hA O.toEnv E' h0 (emit := fun D env => emitL elt (.ref D) env) (emitF := fun sc ρ => F sc ρ elt) (Acc := accL prog w) (d := .lst out) rfl (fun s Q h => wpAny_newList h (Nat.zero_le _)) rfl (fun env D => compE_L) accL_ok (fun X h => accL_new 0 X h) (fun env sc h₀ D => emitL_ok S hA env sc h₀ D) hc hx
        (fun D X' h nX hD ⟨vs, ⟨n, e⟩, r⟩ => .lst nX ⟨by rw [r.length]; simp only [sizeLine]; omega, n, e⟩ r) (fun b o e => E'.old b o e) (fun h' tk p O' k' => ?_) g gs hg
      refine wpAny_pure (wpAny_pure (c h' tk X p ⟨⟨O.sup, α, by rw [aug_upd]; exact O', fun y l e => ?_, fun y z l l' e e' => ?_⟩, fun _ _ _ q => q, fun b o e no _ => k' b o no e⟩))
      · rw [lookup_drp] at e
        split at e
        · cases e
        · exact (o y l e).assign O.own k'
      · rw [lookup_drp] at e e'
        split at e
        · cases e
        · split at e'
          · cases e'
          · exact i y z l l' e e'
  · cases hb
end
end Mine
set_option Elab.async false
set_option maxRecDepth 4000
namespace Mine
open PySem PySem.Calls PyProof.Rows PySem.W PySem.Spec

def occ (y : Str) : Nat → Expr → Bool
  | 0, _ => false
  | n + 1, e => match e with
    | .Name x _ => x == y
    | .Compare l _ cs _ => occ y n l || cs.any (occ y n)
    | .Call f args _ _ => occ y n f || args.any (occ y n)
    | .Attribute v _ _ => occ y n v
    | .Subscript v i _ => occ y n v || occ y n i
    | _ => false
def appendD (F : Ev) (sc : Names) (σ : Sg) (ρ : Rho) (x : Str) (e : Expr) : Option (Sg × Rho) :=
  match (thawS (fun y => decide (y ≠ x) && occ y 6 e) σ).lookup x with
  | some l => match F sc (vis (thawS (fun y => decide (y ≠ x) && occ y 6 e) σ) (thawR (fun y => decide (y ≠ x) && occ y 6 e) σ ρ)) e with
    | some d => if l.length < 1000000 ∧ sc.lookup x = some .local then some ((x, l ++ [d]) :: drp x (thawS (fun y => decide (y ≠ x) && occ y 6 e) σ), thawR (fun y => decide (y ≠ x) && occ y 6 e) σ ρ) else none
    | none => none
  | none => none
def tgB : Expr → Bool
  | .Name _ _ => true
  | .Tuple _ _ _ => true
  | _ => false
def stD (G : Rho) (F : Ev) (sc : Names) (own : Str → Bool) : Nat → Sg → Rho → Stmt → Option Fl
  | 0, _, _, _ => none
  | n + 1, σ, ρ, st => match st with
    | .Assign [t] e _ => match assignD G F sc own σ ρ t e with
      | some p => some (.next p.1 p.2)
      | none => none
    | .Expr (.Call (.Attribute (.Name x _) name apos) [e] [] cp) _ => if name = "append" ∧ (apos.endLine == cp.line) = true then match appendD F sc σ ρ x e with
        | some p => some (.next p.1 p.2)
        | none => none
      else none
    | .Return (some e) _ => match F sc (vis (thawS (fun _ => true) σ) (thawR (fun _ => true) σ ρ)) e with
      | some d => some (.ret d)
      | none => none
    | .If t b o _ => match tstD F sc (vis σ ρ) t with
      | some c => if c then blD (stD G F sc own n) b σ ρ else blD (stD G F sc own n) o σ ρ
      | none => none
    | .While t b [] _ => whileD (fun σ ρ => tstD F sc (vis σ ρ) t) (blD (stD G F sc own n) b) 64 σ ρ
    | .For t it b [] _ => if tgB t = true then match itemsD G F sc (vis σ ρ) (isTup t) it with
        | some xs => forD sc t (blD (stD G F sc own n) b) xs σ ρ
        | none => none
      else none
    | .Try b (_ :: _) [] [] _ => blD (stD G F sc own n) b σ ρ
    | _ => none

section
variable {prog : Program} {w : World} {hT : Heap} {k : Nat} {A : Around} {X Xc X₁ X₂ : Addr → Prop} {s : Shared} {env : Env} {sc : Names} {σ σ' σ₁ σ₂ : Sg} {ρ ρ' ρ₁ ρ₂ : Rho} {h₀ h h' h₁ h₂ : Heap} {F : Ev} {G : Rho} {Φ : Addr → List D → Option D} {own : Str → Bool}

theorem swaps_sole (O : EnvOk prog w hT env sc ρ X h₀ h) {x : Str} {tp : Pos} {line : Nat} {e : Expr} (hx : storable sc x = true) (hn : notComp e = true) : swapsWithSole [.Name x tp] e line env = pure (swapB sc x tp.line e) := swaps_eq (tp := tp) (line := line) (e := e) O hx hn
theorem swaps_soleT {es : List Expr} {n : Nat} {p : Pos} {line : Nat} {e : Expr} : swapsWithSole [.Tuple es n p] e line env = pure false := swaps_tup (env := env) (es := es) (n := n) (p := p) (line := line) (e := e)
theorem NextOk.less (n : NextOk prog w hT env sc Xc h₀ X₁ h σ' ρ' X' h') (sub : ∀ a, X₁ a → X a) (sup : ∀ a, Xc a → X₁ a) : NextOk prog w hT env sc Xc h₀ X h σ' ρ' X' h' :=
  ⟨n.st, fun b o e q => sub b (n.back b o e q), fun b o e no q => n.kept b o e no (q.imp (fun nX z => nX (sub b z)) id)⟩

theorem append_sound (S : Snd prog w hT k F) (hG : GOk prog w hT G) (hA : AOk k A) (O : StOk prog w hT env sc Xc h₀ σ ρ X s.heap) (h0 : 0 < s.toks) {x : Str} {xp apos cp p : Pos} {e : Expr} {d : D} {l : List D} {Q : Flow → Shared → Prop} {E : Value → Shared → Prop}
    (hl : σ.lookup x = some l) (hd : F sc (vis σ ρ) e = some d) (hz : l.length < 1000000) (hx : sc.lookup x = some .local) (hline : (apos.endLine == cp.line) = true)
    (c : Cont prog w hT env sc Xc h₀ X s Q (.next ((x, l ++ [d]) :: drp x σ) ρ)) : wpAny (model prog w) A (exec (.Expr (.Call (.Attribute (.Name x xp) "append" apos) [e] [] cp) p) env) Q E s := by
  obtain ⟨α, E', o, i⟩ := O.ex
  have hi : interactive env = false := by unfold interactive; rw [E'.kind]; rfl
  have hs : starEach [e] env = [(false, eval e env)] := by
    cases e <;> try rfl
    rw [S.star] at hd; cases hd
  have hp : (backTo cp (starEach [e] env)).any (·.1) = false := by rw [hs]; rfl
  refine wpAny_Expr_any ?_ hi (by rfl)
  refine wpAny_Call_method_late (base_eq rfl) ?_ hline rfl ?_
  · rw [hs]; rfl
  have hn : nameD G sc (aug ρ σ α) x = some (.val (.ref (α x))) := by
    unfold nameD
    rw [hx]
    simp only [aug, hl]
  refine name_sound hG E' hn h0 _ _ fun v r => ?_
  obtain rfl := r.val_inv
  obtain ⟨h1, h2, h3, h4, h5, vs, ⟨n, e'⟩, rl⟩ := o x l hl
  refine ⟨"list", _, PySem.F.plainAttrs_list, PySem.F.slot_list_append, PySem.F.type_list_append, ⟨_, e', rfl⟩, fun a q => (by cases q; exact ⟨_, e', rfl⟩), Calls.callWith_builtin hp ?_⟩
  have args : evsD (F sc (vis σ ρ)) [e] = some [d] := by simp only [evsD, hd]
  refine args_sound S hA O.toEnv args h0 _ _ fun av h₁ t₁ l₁ o₁ r₁ => ?_
  obtain ⟨ws, rfl, r⟩ := r₁
  obtain ⟨v, rfl, rv⟩ := r.inv1
  have p₁ : 0 < t₁ := Nat.lt_of_lt_of_le h0 l₁
  have O1 := E'.keeps o₁
  refine wpAny_list_append_plain (s := { s with heap := h₁, toks := t₁ }) ⟨n, o₁ _ _ e'⟩ (fun h₂ hp₂ hsb => ?_) (by rw [List.size_toArray, rl.length]; simp only [sizeLine]; omega)
  have rd2 : ∀ {vs : List Value} {l : List D}, RdL prog w X h₁ vs l → RdL prog w X h₂ vs l := fun r => r.mono (fun _ q => q) fun b o nb e => samebut_get hsb (fun z => nb (by rw [z]; exact h1)) e
  have lv : ∃ ob, h₂.get? (α x) = some ob := let ⟨m, e⟩ := hp₂; ⟨_, e⟩
  have E2 : EnvOk prog w hT env sc (aug ρ σ α) X h₀ h₂ := O1.cut O1 (fun _ q => q) (fun a => a = α x) (fun b o n e => samebut_get hsb n e) (fun a z => by subst z; exact ⟨h1, h3, h4⟩) fun a _ z => by subst z; exact lv
  have ea : aug ρ ((x, l ++ [d]) :: drp x σ) α = aug ρ σ α := by
    funext y
    unfold aug
    rw [List.lookup_cons]
    by_cases hy : y = x
    · subst hy; simp [hl]
    · have : (y == x) = false := by simpa using hy
      rw [this]
      simp only [lookup_drp, if_neg hy]
  have lk : ∀ y l', ((x, l ++ [d]) :: drp x σ).lookup y = some l' → (y = x ∧ l' = l ++ [d]) ∨ (y ≠ x ∧ σ.lookup y = some l') := fun y l' e => by
    rw [List.lookup_cons] at e
    by_cases hy : y = x
    · subst hy
      rw [beq_self_eq_true] at e
      cases e; exact .inl ⟨rfl, rfl⟩
    · have : (y == x) = false := by simpa using hy
      rw [this] at e
      simp only [lookup_drp, if_neg hy] at e
      exact .inr ⟨hy, e⟩
  refine c h₂ t₁ X p₁ ⟨⟨O.sup, α, by rw [ea]; exact E2, fun y l' e => ?_, fun y z l' l'' e e'' q => ?_⟩, fun _ _ _ q => q, fun b ob e no q => samebut_get hsb (fun z => ?_) (o₁ _ _ e)⟩
  · rcases lk y l' e with ⟨rfl, rfl⟩ | ⟨hy, e⟩
    · exact ⟨h1, h2, h3, h4, by simp; omega, vs ++ [v], by simpa using hp₂, rd2 ((rl.old o₁).append (.cons rv .nil))⟩
    · obtain ⟨g1, g2, g3, g4, g5, us, ⟨m, eu⟩, ru⟩ := o y l' e
      exact ⟨g1, g2, g3, g4, g5, us, ⟨m, samebut_get hsb (fun z => hy (i y x l' l e hl z)) (o₁ _ _ eu)⟩, rd2 (ru.old o₁)⟩
  · have e1 : ∃ l, σ.lookup y = some l := by
      rcases lk y l' e with ⟨rfl, _⟩ | ⟨_, e⟩
      · exact ⟨_, hl⟩
      · exact ⟨_, e⟩
    have e2 : ∃ l, σ.lookup z = some l := by
      rcases lk z l'' e'' with ⟨rfl, _⟩ | ⟨_, e⟩
      · exact ⟨_, hl⟩
      · exact ⟨_, e⟩
    obtain ⟨_, e1⟩ := e1
    obtain ⟨_, e2⟩ := e2
    exact i y z _ _ e1 e2 q
  · rcases q with q | q
    · exact q (by rw [z]; exact h1)
    · exact h2 (by rw [← z]; exact q)

theorem st_sound (hT' : TOk hT) (S : Snd prog w hT k F) (hG : GOk prog w hT G) : ∀ n, StSnd prog w hT k sc (stD G F sc own n)
  | 0, σ, ρ, st, fl, h, _, _, _, _, _, _, _, _, _, _, _, _ => by cases h
  | n + 1, σ, ρ, st, fl, h, A, env, X, Xc, h₀, s, Q, E, hA, O, h0, c => by
    have ih := st_sound hT' S hG n
    have ST := tstD_sound hT' S
    unfold stD at h
    split at h
    · rename_i t e pos
      split at h
      · rename_i pr hp
        cases h
        unfold assignD at hp
        split at hp
        · split at hp
          · split at hp
            · rename_i ds hds
              split at hp
              · rename_i hz
                cases hp
                exact own_assign S hA O h0 hds hz.1 hz.2 c
              · cases hp
            · cases hp
          · split at hp
            · rename_i d hd
              exact plain_assign S hA O h0 hd hp rfl (stores_none (.inl ⟨_, _, rfl⟩)) c
            · cases hp
        · split at hp
          · rename_i hsw
            split at hp
            · rename_i out ho
              exact swap_assign hT' S hG hA O h0 ho hp hsw c
            · cases hp
          · rename_i hsw
            split at hp
            · rename_i d hd
              have hx := bindS_name hp
              refine plain_assign S hA O h0 hd hp ?_ (stores_none (.inl ⟨_, _, rfl⟩)) c
              rw [swaps_sole O.toEnv hx rfl, Bool.not_eq_true _ |>.mp hsw]
            · cases hp
        · split at hp
          · rename_i hc
            split at hp
            · rename_i d hd
              have hx := bindS_name hp
              refine plain_assign S hA O h0 hd hp ?_ (stores_none (.inl ⟨_, _, rfl⟩)) c
              rw [swaps_sole O.toEnv hx hc.1, hc.2]
            · cases hp
          · cases hp
        · split at hp
          · rename_i hc
            split at hp
            · rename_i d hd
              exact plain_assign S hA O h0 hd hp swaps_soleT (stores_none (.inr hc)) c
            · cases hp
          · cases hp
        · cases hp
      · cases h
    · split at h
      · rename_i hc
        obtain ⟨rfl, hline⟩ := hc
        split at h
        · rename_i pr hp
          cases h
          unfold appendD at hp
          split at hp
          · rename_i l hl
            split at hp
            · rename_i d hd
              split at hp
              · rename_i hz
                cases hp
                obtain ⟨X', O', sub⟩ := O.thaw _
                exact append_sound S hG hA O' h0 hl hd hz.1 hz.2 hline fun h' tk X'' p n => c h' tk X'' p (n.less sub O'.sup)
              · cases hp
            · cases hp
          · cases hp
        · cases h
      · cases h
    · split at h
      · rename_i d hd
        cases h
        obtain ⟨X', O', sub⟩ := O.thaw _
        refine wpAny_Return_some (S.snd _ _ _ _ hd _ _ _ _ _ hA O'.toEnv h0 _ _ fun v h₁ t₁ l₁ o₁ r₁ => ?_)
        exact c v h₁ t₁ X' (Nat.lt_of_lt_of_le h0 l₁) O'.sup (fun b o e => o₁ b o (O'.toEnv.old b o e)) r₁
      · cases h
    · split at h
      · rename_i b ht
        refine wpAny_If (ST.snd _ _ _ _ ht _ _ _ _ _ hA O.toEnv h0 _ _ fun v h₁ t₁ l₁ o₁ e₁ => ?_)
        subst e₁
        have p₁ := Nat.lt_of_lt_of_le h0 l₁
        split at h
        · rename_i hv
          simp only [hv, if_true]
          exact block_sound ih _ σ ρ fl h A env X Xc h₀ _ Q E hA (O.keeps o₁) p₁ (c.trans (.of_old O o₁))
        · rename_i hv
          simp only [hv]
          exact block_sound ih _ σ ρ fl h A env X Xc h₀ _ Q E hA (O.keeps o₁) p₁ (c.trans (.of_old O o₁))
      · cases h
    · exact while_sound (F := F) ST (block_sound ih _) h hA O h0 c
    · split at h
      · rename_i htg
        split at h
        · rename_i xs hx
          refine for_sound S hG (block_sound ih _) ?_ hx h hA O h0 c
          unfold tgB at htg
          split at htg
          · exact .inr ⟨_, _, rfl⟩
          · exact .inl ⟨_, _, _, rfl⟩
          · cases htg
        · cases h
      · cases h
    · refine wpAny_Try_except ?_
      refine block_sound ih _ σ ρ fl h A env X Xc h₀ _ _ _ hA O h0 ?_
      cases fl with
      | next σ' ρ' => exact fun h' tk X' p n => wpAny_execs_nil (c h' tk X' p n)
      | ret d => exact c
    · cases h
end
end Mine
set_option Elab.async false
set_option maxRecDepth 4000
namespace Mine
open PySem PySem.Calls PyProof.Rows PySem.W PySem.Spec

theorem zip_lookup : ∀ {names : List Str} {vs : List Value}, names.Nodup → names.length = vs.length → (names.filterMap fun n => ((names.zip vs).lookup n).map (n, ·)) = names.zip vs := by
  intro names vs hn hl
  have key : ∀ (ns : List Str) (ws : List Value) (f : Str → Option Value), ns.length = ws.length → (∀ n v, (n, v) ∈ ns.zip ws → f n = some v) → (ns.filterMap fun n => (f n).map (n, ·)) = ns.zip ws := by
    intro ns
    induction ns with
    | nil => intro ws f _ _; rfl
    | cons n ns ih =>
      intro ws f hl hf
      cases ws with
      | nil => cases hl
      | cons v ws =>
        rw [List.filterMap_cons, hf n v (by simp)]
        simp only [Option.map_some, List.zip_cons_cons]
        rw [ih ws f (by simpa using hl) fun n v hm => hf n v (by simp only [List.zip_cons_cons]; exact List.mem_cons_of_mem _ hm)]
  refine key names vs _ hl fun n v hm => ?_
  have look : ∀ (ns : List Str) (ws : List Value), ns.Nodup → (n, v) ∈ ns.zip ws → (ns.zip ws).lookup n = some v := by
    intro ns
    induction ns with
    | nil => intro ws _ h; simp at h
    | cons a ns ih =>
      intro ws hn h
      cases ws with
      | nil => simp at h
      | cons b ws =>
        rw [List.zip_cons_cons] at h ⊢
        rw [List.nodup_cons] at hn
        rw [List.lookup_cons]
        rcases List.mem_cons.mp h with h | h
        · cases h; rw [beq_self_eq_true]
        · have : n ≠ a := fun z => hn.1 (by rw [← z]; exact (List.of_mem_zip h).1)
          have e : (n == a) = false := by simpa using this
          rw [e]
          exact ih ws hn.2 h
  exact look names vs hn hm

theorem bindArgs_plain {fd : FuncData} {vs : List Value} (h1 : fd.params.posonlyargs = []) (h2 : fd.params.kwonlyargs = []) (h3 : fd.params.vararg = none) (h4 : fd.params.kwarg = none) (h5 : fd.defaults = .none) {names : List Str} (h6 : fd.params.args.map (·.arg) = names)
    (hn : names.Nodup) (hl : vs.length = names.length) : bindArgs fd ⟨vs, []⟩ = pure (names.zip vs) := by
  have hs : ∀ n ∈ names, ((names.zip vs).lookup n).isNone = false := by
    intro n hm
    have := zip_lookup (vs := vs) hn hl.symm
    have h2 : ∃ v, (n, v) ∈ names.zip vs := by
      obtain ⟨i, hi, rfl⟩ := List.getElem_of_mem hm
      exact ⟨vs[i]'(by omega), by rw [List.mem_iff_getElem]; exact ⟨i, by simp; omega, by simp⟩⟩
    obtain ⟨v, hv⟩ := h2
    rw [← this] at hv
    obtain ⟨n', _, e⟩ := List.mem_filterMap.mp hv
    cases e' : (names.zip vs).lookup n' with
    | none => rw [e'] at e; cases e
    | some u => rw [e'] at e; cases e; rw [e']; rfl
  have hm : (List.filter (fun n => ((names.zip vs).lookup n).isNone) names).isEmpty = true := by
    rw [List.isEmpty_iff, List.filter_eq_nil_iff]
    intro n hm
    rw [hs n hm]; simp
  have e0 : seqItems? Value.none = pure none := rfl
  unfold bindArgs
  simp only [h1, h2, h3, h4, h5, h6, e0, List.map_nil, List.nil_append, List.append_nil, List.forIn_nil, pure_bind, Option.getD_none, List.length_nil, List.drop_nil, Nat.sub_zero, List.take_length, hl, Nat.lt_irrefl, gt_iff_lt, decide_false, Bool.false_and, Bool.false_eq_true, if_false, Option.isSome_none, Option.isNone_none]
  rw [hm]
  simp only [Bool.not_true, Bool.false_eq_true, if_false, List.drop_length, List.zip_nil_right, List.forIn_nil, pure_bind, List.isEmpty_nil, zip_lookup hn hl.symm]

/-- a plain function of the program, in the heap behind the top -/
structure FnAt (hT : Heap) (f : Addr) (names : List Str) (body : List Stmt) (scope : Scope) : Prop where
  ex : ∃ o fd, hT.get? f = some o ∧ o.data = .func fd ∧ fd.body = .stmts body ∧ fd.scope = scope ∧ fd.closure = [] ∧ fd.globals = mainGlobals ∧ fd.builtins = builtinsNs ∧ fd.defaults = .none ∧ hT.CodeRec fd.code fd.qualname ∧
    fd.params.posonlyargs = [] ∧ fd.params.kwonlyargs = [] ∧ fd.params.vararg = none ∧ fd.params.kwarg = none ∧ fd.params.args.map (·.arg) = names
def fnOkB (names : List Str) (scope : Scope) : Bool :=
  (scope.kind == .function) && !scope.isCoroutine && !scope.isGenerator && scope.names.all (nameOk []) && decide (scope.names.map Prod.fst).Nodup && decide names.Nodup && names.all (storable scope.names)
def argsR (names : List Str) (ds : List D) : Rho := fun x => (names.zip ds).lookup x
def fnD' (G : Rho) (Φ : Addr → List D → Option D) (n m : Nat) (own : Str → Bool) (names : List Str) (body : List Stmt) (scope : Scope) (ds : List D) : Option D :=
  if ds.length = names.length then match blD (stD G (ev G Φ n) scope.names own m) body [] (argsR names ds) with
    | some (.ret d) => some d
    | _ => none
  else none

section
variable {prog : Program} {w : World} {hT : Heap} {k : Nat} {A : Around} {X Xc : Addr → Prop} {s : Shared} {env : Env} {sc : Names} {ρ ρ' : Rho} {h₀ h h' : Heap} {F : Ev} {G : Rho} {Φ : Addr → List D → Option D} {own : Str → Bool}

theorem bindL_get {kindOf : Str → Option NameKind} {x : Str} (hk : kindOf x = some .local) : ∀ {names : List Str} {vs : List Value} {m : Str → Option Value}, names.Nodup → names.length = vs.length → bindL kindOf (names.zip vs) m x = match (names.zip vs).lookup x with
    | some v => some v
    | none => m x
  | [], _, m, _, _ => rfl
  | n :: ns, v :: vs, m, hn, hl => by
    rw [List.nodup_cons] at hn
    rw [List.zip_cons_cons]
    unfold bindL
    rw [bindL_get hk hn.2 (by simpa using hl), List.lookup_cons]
    by_cases hx : x = n
    · subst hx
      have : (ns.zip vs).lookup x = none := by
        cases e : (ns.zip vs).lookup x with
        | none => rfl
        | some u => exact absurd (List.of_mem_zip (mem_of_lookup e)).1 hn.1
      rw [this, beq_self_eq_true]
      simp [hk]
    · have e : (x == n) = false := by simpa using hx
      rw [e]
      cases (ns.zip vs).lookup x with
      | some u => rfl
      | none =>
        dsimp only
        split
        · simp [hx]
        · rfl
theorem bindC_get {kindOf : Str → Option NameKind} {x : Str} (hk : kindOf x = some .cell) : ∀ {names : List Str} {vs : List Value} {m : Str → Option Value}, names.Nodup → names.length = vs.length → bindC kindOf (names.zip vs) m x = match (names.zip vs).lookup x with
    | some v => some v
    | none => m x
  | [], _, m, _, _ => rfl
  | n :: ns, v :: vs, m, hn, hl => by
    rw [List.nodup_cons] at hn
    rw [List.zip_cons_cons]
    unfold bindC
    rw [bindC_get hk hn.2 (by simpa using hl), List.lookup_cons]
    by_cases hx : x = n
    · subst hx
      have : (ns.zip vs).lookup x = none := by
        cases e : (ns.zip vs).lookup x with
        | none => rfl
        | some u => exact absurd (List.of_mem_zip (mem_of_lookup e)).1 hn.1
      rw [this, beq_self_eq_true]
      simp [hk]
    · have e : (x == n) = false := by simpa using hx
      rw [e]
      cases (ns.zip vs).lookup x with
      | some u => rfl
      | none =>
        dsimp only
        split
        · rfl
        · simp [hx]

theorem zip_rd {h : Heap} {x : Str} {d : D} : ∀ {names : List Str} {vs : List Value} {ds : List D}, RdL prog w X h vs ds → (names.zip ds).lookup x = some d → ∃ v, (names.zip vs).lookup x = some v ∧ Rd prog w X h v d
  | [], _, _, _, e => by simp at e
  | n :: ns, _, _, .nil, e => by simp at e
  | n :: ns, v :: vs, d' :: ds, .cons r rs, e => by
    rw [List.zip_cons_cons, List.lookup_cons] at e ⊢
    by_cases hx : (x == n) = true
    · rw [hx] at e ⊢; cases e; exact ⟨v, rfl, r⟩
    · have hx : (x == n) = false := by simpa using hx
      rw [hx] at e ⊢; exact zip_rd rs e

theorem call_sound (hT' : TOk hT) (hG : GOk prog w hT G) (hΦ : FnOk prog w hT k Φ) {f : Addr} {names : List Str} {body : List Stmt} {scope : Scope} (hf : FnAt hT f names body scope) (hok : fnOkB names scope = true) {n m : Nat} {ds : List D} {d : D}
    (h : fnD' G Φ n m own names body scope ds = some d) (hA : AOk (k + 1) A) (tX : ∀ a, X a → hT.get? a = none) (lv : Live X s.heap) (top : Old hT s.heap) {vs : List Value} (r : RdL prog w X s.heap vs ds) : Gv prog w A X (call (.ref f) vs) d s := by
  obtain ⟨o, fd, ho, hd, hbody, rfl, hclo, hglob, hbltn, hdef, hcode, hp1, hp2, hp3, hp4, hnames⟩ := hf.ex
  unfold fnD' at h
  split at h
  case isFalse => cases h
  rename_i hlen
  simp only [fnOkB, Bool.and_eq_true, Bool.not_eq_true', List.all_eq_true, decide_eq_true_eq] at hok
  obtain ⟨⟨⟨⟨⟨⟨hkind, hco⟩, hgen⟩, hall⟩, hnd⟩, hnn⟩, hst⟩ := hok
  have hkind := eq_of_beq hkind
  have hvl : vs.length = names.length := by rw [r.length, hlen]
  refine Gv.any fun h0 Q E hQ => wpAny_call ?_
  have nd : ∀ {x k}, fd.scope.names.lookup x = some k → (x, k) ∈ fd.scope.names := fun e => mem_of_lookup e
  have kd : ∀ x k, fd.scope.names.lookup x = some k → k ≠ .globalExplicit ∧ k ≠ .free ∧ x ≠ ("__debug__" : Str) ∧ x ≠ ("__classdict__" : Str) := fun x k e => by
    have := hall _ (nd e)
    simp only [nameOk, Bool.and_eq_true, decide_eq_true_eq, List.lookup_nil] at this
    refine ⟨?_, ?_, this.1.1, this.1.2⟩
    · rintro rfl; exact absurd this.2 (by simp)
    · rintro rfl; exact absurd this.2 (by simp)
  refine codeAny_call_function (by have := hA.2.1; omega) (top _ _ ho) hd hco hgen hbody (hcode.keeps top) ?_
  rw [bindArgs_plain hp1 hp2 hp3 hp4 hdef hnames hnn hvl, hclo]
  refine wpAny_pure (wpAny_with_toks (n := 1) h0 (wpAny_newFunctionEnv_cells hkind (fun x hx => ?_) fun env he s₁ ic => ?_))
  · have hm := (List.of_mem_zip hx).1
    rcases storable_eq (hst x.1 hm) with e | e
    · exact .inl e
    · obtain ⟨c, e'⟩ := cellsFrom_own fd.scope.names (s.heap.objs.size + 1) [] x.1 (nd e)
      exact .inr ⟨e, by rw [e']; rfl⟩
  · intro p₁
    obtain ⟨⟨⟨h₁, t₁, rfl⟩, hns, keep, hLf⟩, hcell, hap, habove⟩ := ic
    refine ⟨(hT'.lim.keeps top).keeps keep, codeAny_func ?_⟩
    have eL : env.locals = s.heap.objs.size := by rw [he]; rfl
    have eC : env.cells = cellsFrom (s.heap.objs.size + 1) fd.scope.names [] := by rw [he]; rfl
    have eS : env.scope = fd.scope := by rw [he]; rfl
    have eG : env.globals = mainGlobals := by rw [he]; exact hglob
    have eB : env.builtins = builtinsNs := by rw [he]; exact hbltn
    have eK : ∀ x, env.kindOf x = fd.scope.names.lookup x := fun x => by unfold Env.kindOf; rw [eS]
    have fresh : ∀ j, s.heap.objs.size ≤ j → s.heap.get? j = none := fun j hj => fresh_size _ hj
    have cfr : ∀ x c, env.cells.lookup x = some c → s.heap.get? c = none := fun x c e => fresh c (by
      have := habove x c (mem_of_lookup e)
      rw [eL] at this; exact Nat.le_of_lt this)
    have hn : ∀ {hx hy : Heap} {a : Addr}, Old hx hy → hy.get? a = none → hx.get? a = none := fun {hx hy a} o e => by
      cases e' : hx.get? a with
      | none => rfl
      | some ob => rw [o a ob e'] at e; cases e
    have E₁ : EnvOk prog w hT env fd.scope.names (argsR names ds) (fun a => X a ∨ Own env a) s.heap h₁ := {
      kind := by rw [eS]; exact hkind
      glob := eG
      bltn := eB
      kinds := fun x k e => by
        rw [eK]
        have := kd x k e
        cases k
        · exact e
        · exact e
        · exact absurd rfl this.2.1
        · exact absurd rfl this.1
        · exact e
      loc := ⟨_, hns⟩
      locX := .inr (.inl rfl)
      locF := by rw [eL]; exact fresh _ (Nat.le_refl _)
      cell := fun x hx => by
        rcases hx with hx | hx
        · obtain ⟨c, e'⟩ := cellsFrom_own fd.scope.names (s.heap.objs.size + 1) [] x (nd hx)
          rw [← eC] at e'
          exact ⟨c, _, e', hcell x c e', .inr (.inr ⟨x, e'⟩)⟩
        · exact absurd rfl (kd x _ hx).2.1
      cellF := fun x c _ e => cfr x c e
      ownX := fun x c e => .inr (.inr ⟨x, e⟩)
      apart := fun x y c e e' => name_of_addr hap (mem_of_lookup e) (mem_of_lookup e')
      off := fun x c e z => by
        have := habove x c (mem_of_lookup e)
        rw [z] at this; exact Nat.lt_irrefl _ this
      top := fun b o e => keep b o (top b o e)
      tX := fun a q => by
        rcases q with q | q | ⟨x, q⟩
        · exact tX a q
        · rw [q, eL]; exact hn top (fresh _ (Nat.le_refl _))
        · exact hn top (cfr x a q)
      old := keep
      live := fun a q => by
        rcases q with q | q | ⟨x, q⟩
        · obtain ⟨o, e⟩ := lv a q; exact ⟨o, keep _ _ e⟩
        · obtain ⟨o, _, _, e, _⟩ := hns; exact ⟨o, q ▸ e⟩
        · obtain ⟨o, e, _⟩ := hcell x a q; exact ⟨o, e⟩
      sane := fun x k e => (kd x k e).2.2
      vals := fun x k d hx nk e => by
        obtain ⟨v, ev, rv⟩ := zip_rd r e
        have rv' : Rd prog w (fun a => X a ∨ Own env a) h₁ v d := (rv.grow fun a o e q => by
          rcases q with q | q | ⟨x, q⟩
          · exact q
          · rw [q, eL, fresh _ (Nat.le_refl _)] at e; cases e
          · rw [cfr x a q] at e; cases e).mono (fun _ q => q) fun b o _ e => keep b o e
        have hmem : x ∈ names := (List.of_mem_zip (mem_of_lookup ev)).1
        rcases storable_eq (hst x hmem) with hk | hk
        · rw [hx] at hk; cases hk
          exact ⟨v, ⟨_, hns, by rw [bindL_get (by rw [eK]; exact hx) hnn hvl.symm, ev]⟩, rv'⟩
        · rw [hx] at hk; cases hk
          obtain ⟨c, e'⟩ := cellsFrom_own fd.scope.names (s.heap.objs.size + 1) [] x (nd hx)
          rw [← eC] at e'
          have hc := hcell x c e'
          rw [bindC_get (by rw [eK]; exact hx) hnn hvl.symm, ev] at hc
          exact ⟨v, ⟨c, e', hc⟩, rv'⟩ }
    have St : StOk prog w hT env fd.scope.names X s.heap [] (argsR names ds) (fun a => X a ∨ Own env a) h₁ := ⟨fun a q => .inl q, fun _ => 0, E₁, fun x l e => (by cases e), fun x y l l' e => by cases e⟩
    have hA' : AOk k (A.deeper env) := ⟨hA.1, by have := hA.2.1; show A.depth + 1 + k < _; omega, by have := hA.2.2; show A.units + 3 + 200 + 10 * k < _; omega⟩
    split at h
    · rename_i d' hbd
      cases h
      have B := block_sound (st_sound (own := own) (sc := fd.scope.names) hT' (ev_sound hT' hG hΦ n) hG m) body
      refine B [] _ _ hbd (A.deeper env) env _ X s.heap { s with heap := h₁, toks := t₁ } _ _ hA' St p₁ ?_
      intro v h' tk X' p sup ho rv
      exact hQ v h' tk ho fun _ => rv.mono sup fun _ _ _ e => e
    · cases h

def addFn (f : Addr) (g : List D → Option D) (Φ : Addr → List D → Option D) : Addr → List D → Option D := fun a ds => if a = f then g ds else Φ a ds
theorem FnOk.nil : FnOk prog w hT 0 (fun _ _ => none) := fun _ _ _ h => by cases h
theorem FnOk.up (h : FnOk prog w hT k Φ) : FnOk prog w hT (k + 1) Φ := fun f ds d e => ⟨(h f ds d e).1, fun A X s vs hA => (h f ds d e).2 A X s vs ⟨hA.1, by have := hA.2.1; omega, by have := hA.2.2; omega⟩⟩
theorem FnOk.add (hT' : TOk hT) (hG : GOk prog w hT G) (hΦ : FnOk prog w hT k Φ) {f : Addr} {names : List Str} {body : List Stmt} {scope : Scope} (hf : FnAt hT f names body scope) (hok : fnOkB names scope = true) (n m : Nat) (own : Str → Bool) :
    FnOk prog w hT (k + 1) (addFn f (fnD' G Φ n m own names body scope) Φ) := fun a ds d e => by
  unfold addFn at e
  split at e
  · rename_i ha
    subst ha
    obtain ⟨o, fd, ho, hd, _⟩ := hf.ex
    exact ⟨⟨o, fd, ho, hd⟩, fun A X s vs hA tX lv top r => call_sound hT' hG hΦ hf hok e hA tX lv top r⟩
  · exact hΦ.up a ds d e
end
end Mine
set_option Elab.async false
set_option maxRecDepth 4000
namespace Mine
open PySem PySem.Calls PyProof.Rows PySem.W PySem.Spec

theorem halt_through {den : Code → Sem PySem.Fin} {p : Program} {w : World} {s s' : Shared} {t : Thread} {f : Flow} (h : step den p w s t = .halt (.done f) s') : through t = true := by
  obtain ⟨heap, gens, drawn, toks, os⟩ := s
  obtain ⟨cur, code, pos, stack⟩ := t
  cases cur <;> simp only [step, finish] at h <;> (repeat' split at h) <;> first | cases h | skip
  all_goals simp_all [through]

theorem to_through {den : Code → Sem PySem.Fin} {p : Program} {w : World} : ∀ {n : Nat} {s s' : Shared} {t : Thread} {f : Flow}, runN den p w n s t = .halted (.done f) s' → (∀ k s₁ t₁, runN den p w k s t = .running s₁ t₁ → t₁.calm = true) → s.asleep →
    ∃ m t₁, schedN den p w m (.single s t) = .running (.single s' t₁) ∧ through t₁ = true
  | 0, _, _, _, _, h, _, _ => by cases h
  | n + 1, s, s', t, f, h, hc, hz => by
    have e := sstep_single den p w s t (hc 0 s t rfl) hz
    simp only [runN] at h
    cases hs : step den p w s t with
    | go s₂ t₂ =>
      rw [hs] at h
      have hl := step_life den p w s s₂ t t₂ hs
      obtain ⟨m, t₁, hm, ht⟩ := to_through h (fun k s₁ t₁ hk => hc (k + 1) s₁ t₁ (by simp only [runN, hs]; exact hk)) (Shared.asleep_of_life hl hz)
      refine ⟨m + 1, t₁, ?_, ht⟩
      have e' : sstep den p w (.single s t) = .go (.single s₂ t₂) := by
        rcases e with e | e
        · rw [e, hs]; rfl
        · rw [hs] at e; cases e
      simp only [schedN, e']; exact hm
    | halt o s₂ =>
      rw [hs] at h
      cases h
      have := step_halt_same den p w s s' t _ hs
      subst this
      exact ⟨0, t, rfl, halt_through hs⟩

/-- the top, run to its end -/
theorem top_run {p : Program} {w : World} {s : Shared} {R : Result → Shared → Prop} (hz : s.asleep) (hg : s.gens = #[])
    (h : wpAny (model p w) callerA (topStub p).cur (fun fin s' => ∃ f, fin = .done f ∧ (R (.ok f) s' ∧ s'.gens = #[])) (fun e s' => False) s) :
    ∃ n t₁ f s', schedN (denote table) p w n (.single s (topStub p)) = .running (.single s' t₁) ∧ through t₁ = true ∧ s'.heap.life = s.heap.life ∧ R (.ok f) s' ∧ s'.gens = #[] := by
  have h' := wp_of_wpAny_done (R := fun r s' => ((match r with | .ok f => R (.ok f) s' | .error _ => False) ∧ s'.gens = #[]) ∧ leftWithCleanup s'.gens = false) caller_in
    (wpAny_mono h (fun _ _ ⟨f, e, a, b⟩ => ⟨f, e, ⟨a, b⟩, by rw [b]; simp [leftWithCleanup]⟩) fun _ _ x => x.elim) default
  obtain ⟨n, r, s₁, hn, hR, hg'⟩ := (wp_iff_halts (M := model p w) (R := fun r s' => (match r with | .ok f => R (.ok f) s' | .error _ => False) ∧ s'.gens = #[]) ..).mp h'
  obtain ⟨s₂, hr, hf, hc⟩ := runNI_real _ _ _ hn (outcomeOf_ends r)
  obtain rfl : s₂ = s₁ := Shared.eq_of_forget_eq hf hg'
  cases r with
  | error e => exact hR.elim
  | ok f =>
    obtain ⟨m, t₁, hm, ht⟩ := to_through hr hc hz
    exact ⟨m, t₁, f, s₂, hm, ht, runN_life _ _ _ hr, hR, hg'⟩
end Mine
set_option Elab.async false
set_option maxRecDepth 4000
namespace Mine
open PySem PySem.Calls PyProof.Rows PySem.W PySem.Spec

section
variable {prog : Program} {w : World} {A : Around} {E : Value → Shared → Prop} {s : Shared} {K : Type} [DecidableEq K] {knd : PySem.KeyKind prog w K}

/-- a tree that gives one value, and nothing else -/
def PT (t : Sem Value) (f : Tok → Value) : Prop := ∀ (M : Model) (A : Around) (s : Shared) (Q : Value → Shared → Prop) (E : Value → Shared → Prop), (∀ tk tk', Q (f tk) { s with toks := tk' }) → wpAny M A t Q E s
/-- the trees of a display, and what they give -/
inductive PTs : List (Sem Value × Sem Value) → List (Int × Str) → Prop
  | nil : PTs [] []
  | cons {k v i x ps l} : PT k (fun t => .int i t) → PT v (fun t => .str x t) → PTs ps l → PTs ((k, v) :: ps) ((i, x) :: l)
theorem PTs.length : ∀ {ps l}, PTs ps l → ps.length = l.length
  | _, _, .nil => rfl
  | _, _, .cons _ _ r => by simp [PTs.length r]
theorem PTs.append : ∀ {ps l ps' l'}, PTs ps l → PTs ps' l' → PTs (ps ++ ps') (l ++ l')
  | _, _, _, _, .nil, r => r
  | _, _, _, _, .cons a b c, r => .cons a b (PTs.append c r)
/-- pairs that hold these -/
inductive KVs : List (Int × Value) → List (Int × Str) → Prop
  | nil : KVs [] []
  | cons {i x t kvs l} : KVs kvs l → KVs ((i, .str x t) :: kvs) ((i, x) :: l)
theorem KVs.keys : ∀ {kvs l}, KVs kvs l → kvs.map Prod.fst = l.map Prod.fst
  | _, _, .nil => rfl
  | _, _, .cons r => by simp [KVs.keys r]
theorem KVs.append : ∀ {kvs l kvs' l'}, KVs kvs l → KVs kvs' l' → KVs (kvs ++ kvs') (l ++ l')
  | _, _, _, _, .nil, r => r
  | _, _, _, _, .cons a, r => .cons (KVs.append a r)
theorem KVs.length {kvs l} (h : KVs kvs l) : kvs.length = l.length := by have := congrArg List.length h.keys; simpa using this

theorem wpAny_dictPut_new {d : Addr} {kvs : List (K × Value)} {k : K} {key v : Value} {Q : Unit → Shared → Prop} (hkey : knd.is k key = true) (hm : s.heap.DictOf knd d kvs) (hnot : k ∉ kvs.map (·.1))
    (hQ : ∀ h', h'.DictOf knd d (kvs ++ [(k, v)]) → Heap.SameBut d s.heap h' → Q () { s with heap := h' }) (hsz : kvs.length ≤ sizeLine) : wpAny (model prog w) A (dictPut d (knd.hash k) key v) Q E s := by
  obtain ⟨o, es, ep, ho, hc, hd, hk, hp, hn⟩ := hm
  have hes : es.size ≤ sizeLine := by
    have e1 := hp.length; have e2 : es.toList.length = es.size := by simp
    omega
  unfold dictPut
  refine wpAny_bind (wpAny_dictFind_of hkey ho hd hk ?_)
  have hidx : (es.findIdx? fun e => knd.is k e.key) = kvs.findIdx? fun kv => decide (kv.1 = k) := by
    rw [← hp.findIdx k]; obtain ⟨l⟩ := es; simp
  have hi : (es.findIdx? fun e => knd.is k e.key) = none := by
    rw [hidx, List.findIdx?_eq_none_iff]
    intro p hp
    have : p.1 ≠ k := fun z => hnot (List.mem_map.mpr ⟨p, hp, z⟩)
    simpa using this
  rw [hi]
  refine wpAny_updateDictKeys (hz := hes) ho hd (hQ _ ⟨_, _, ep + 1, Heap.get?_update_self _ ho (Obj.isFreed_of_dict (Obj.data_mapDictKeys hd _)),
      hc.mapDictKeys _, Obj.data_mapDictKeys hd _, hk.push hkey _, ?_, ?_⟩ (Heap.SameBut.update ..))
  · have := hp.append hkey (knd.hash k) v
    obtain ⟨l⟩ := es
    simpa using this
  · rw [List.map_append, List.nodup_append]
    refine ⟨hn, by simp, ?_⟩
    intro a ha b hb
    simp only [List.map_cons, List.map_nil, List.mem_singleton] at hb
    subst hb
    exact fun e => hnot (e ▸ ha)

theorem nodup_mid {l : List (Int × Str)} {i : Int} {x : Str} {r : List (Int × Str)} (h : ((l ++ (i, x) :: r).map Prod.fst).Nodup) : i ∉ l.map Prod.fst := by
  intro hm
  rw [List.map_append] at h
  exact (List.nodup_append.mp h).2.2 i hm i (by simp) rfl
theorem stored_new {kvs : List (Int × Value)} {l : List (Int × Str)} {i : Int} {v : Value} (hk : KVs kvs l) (hn : i ∉ l.map Prod.fst) : stored kvs i v = kvs ++ [(i, v)] := by
  unfold stored
  rw [if_neg]
  simp only [List.any_eq_true, decide_eq_true_eq, not_exists, not_and]
  intro p hp e
  exact hn (hk.keys ▸ List.mem_map.mpr ⟨p, hp, e⟩)

/-- the pairs of a long run, put one by one -/
theorem puts_sound {d : Addr} {f : Sem Value × Sem Value → PUnit → Sem (ForInStep PUnit)} (hf : ∀ k v u, f (k, v) u = (do let kv ← k; let vv ← holding [kv] v; holding [kv, vv] (dictSet d kv vv); pure (.yield ⟨⟩))) :
    ∀ {run : List (Sem Value × Sem Value)} {lr : List (Int × Str)}, PTs run lr → ∀ {l : List (Int × Str)} {kvs : List (Int × Value)} {s : Shared} {Q : PUnit → Shared → Prop} {E : Value → Shared → Prop}, KVs kvs l → s.heap.DictOf (intKind prog w) d kvs → ((l ++ lr).map Prod.fst).Nodup → (l ++ lr).length ≤ sizeLine →
      (∀ h' tk kvs', h'.DictOf (intKind prog w) d kvs' → KVs kvs' (l ++ lr) → (∀ b o, b ≠ d → s.heap.get? b = some o → h'.get? b = some o) → Q ⟨⟩ { s with heap := h', toks := tk }) → wpAny (model prog w) A (forIn run PUnit.unit f) Q E s := by
  intro run lr pr
  induction pr with
  | nil =>
    intro l kvs s Q E hk hd hn hz q
    rw [List.forIn_nil]
    exact wpAny_pure (q s.heap s.toks kvs hd (by simpa using hk) fun _ _ _ e => e)
  | @cons k v i x run lr pk pv pr ih =>
    intro l kvs s Q E hk hd hn hz q
    rw [List.forIn_cons, hf]
    have hz' : kvs.length ≤ sizeLine := by rw [hk.length]; rw [List.length_append] at hz; exact Nat.le_trans (Nat.le_add_right _ _) hz
    refine wpAny_bind (wpAny_bind (pk _ _ _ _ _ fun t t' => wpAny_bind (wpAny_holding (pv _ _ _ _ _ fun u u' => wpAny_bind (wpAny_holding ?_)))))
    refine wpAny_dictSet_pairs (knd := intKind prog w) (k := i) (by simp [intKind, Value.isInt]) hd (fun h₁ hd₁ hs => wpAny_pure ?_) hz'
    rw [stored_new hk (nodup_mid hn)] at hd₁
    have el : l ++ (i, x) :: lr = (l ++ [(i, x)]) ++ lr := by rw [List.append_assoc]; rfl
    rw [el] at hn hz q
    exact ih (hk.append (.cons .nil)) hd₁ hn hz fun h₂ t₂ kvs' hd₂ hk₂ keep => q h₂ t₂ kvs' hd₂ hk₂ fun b o n e => keep b o n (samebut_get hs n e)

theorem evalPairs_PT : ∀ {run : List (Sem Value × Sem Value)} {lr : List (Int × Str)} {s : Shared} {Q : List (Value × Value) → Shared → Prop} {E : Value → Shared → Prop}, PTs run lr →
    (∀ vs tk kvs, Carries (intKind prog w) vs kvs → KVs kvs lr → Q vs { s with toks := tk }) → wpAny (model prog w) A (evalPairs run) Q E s
  | [], _, s, Q, E, .nil, q => wpAny_pure (q [] s.toks [] trivial .nil)
  | (k, v) :: run, (i, x) :: lr, s, Q, E, .cons pk pv pr, q => by
    unfold evalPairs
    refine wpAny_bind (pk _ _ _ _ _ fun t t' => wpAny_bind (wpAny_holding (pv _ _ _ _ _ fun u u' => wpAny_bind (wpAny_holding (evalPairs_PT pr fun vs tk kvs hc hk => wpAny_pure ?_)))))
    exact q _ tk ((i, .str x u) :: kvs) ⟨by simp [intKind, Value.isInt], rfl, hc⟩ (.cons hk)

theorem subDict_sound {run : List (Sem Value × Sem Value)} {lr : List (Int × Str)} {Q : Addr → Shared → Prop} (pr : PTs run lr) (hn : (lr.map Prod.fst).Nodup) (hz : lr.length ≤ sizeLine)
    (q : ∀ h' tk kvs, h'.DictOf (intKind prog w) s.heap.objs.size kvs → KVs kvs lr → Old s.heap h' → Q s.heap.objs.size { s with heap := h', toks := tk }) : wpAny (model prog w) A (subDict run) Q E s := by
  have nS : ∀ {b o}, s.heap.get? b = some o → b ≠ s.heap.objs.size := fun e => Nat.ne_of_lt (Heap.lt_size e)
  by_cases hl : run.length ≤ 15
  · refine wpAny_subDict (knd := intKind prog w) hl (evalPairs_PT pr fun vs tk kvs hc hk => ⟨kvs, hc, Heap.DictOf.new _, fun h' hd hs => ?_⟩)
    rw [merged_nil_of_nodup kvs (by rw [show kvs.map (·.1) = lr.map Prod.fst from hk.keys]; exact hn)] at hd
    exact q h' _ kvs hd hk fun b o e => samebut_get hs (nS e) (alloc_old _ _ _ _ e)
  · unfold subDict
    refine wpAny_bind (wpAny_alloc (wpAny_bind (wpAny_holding ?_)))
    rw [if_neg hl]
    refine wpAny_bind (wpAny_rule ?_)
    refine wpAny_bind ?_
    refine puts_sound (s := { s with heap := s.heap.push { cls := .type "dict", data := .dict #[] } }) (d := s.heap.objs.size) (l := []) (kvs := []) ?_ pr .nil (Heap.DictOf.new s.heap) (by simpa using hn) (by simpa using hz) fun h' tk kvs hd hk keep => ?_
    · intro k v u; rfl
    exact wpAny_pure (wpAny_pure (q h' tk kvs hd (by simpa using hk) fun b o e => keep b o (nS e) (alloc_old _ _ _ _ e)))
end
end Mine
set_option Elab.async false
set_option maxRecDepth 4000
namespace Mine
open PySem PySem.Calls PyProof.Rows PySem.W PySem.Spec

section
variable {prog : Program} {w : World} {A : Around} {s : Shared}

theorem merge_sound {d o : Addr} {kvs more : List (Int × Value)} {l m : List (Int × Str)} {Q : Unit → Shared → Prop} {E : Value → Shared → Prop} (hdo : d ≠ o) (hoS : (o == sysModules) = false) (hd : s.heap.DictOf (intKind prog w) d kvs) (ho : s.heap.DictOf (intKind prog w) o more)
    (hk : KVs kvs l) (hm : KVs more m) (hne : kvs ≠ []) (hn : ((l ++ m).map Prod.fst).Nodup) (hz : (l ++ m).length ≤ sizeLine)
    (hQ : ∀ h' kvs', h'.DictOf (intKind prog w) d kvs' → KVs kvs' (l ++ m) → Heap.SameBut d s.heap h' → Q () { s with heap := h' }) : wpAny (model prog w) A (mergeMapping d (.ref o) false) Q E s := by
  obtain ⟨od, esd, epd, hod, hcd, hdd, hkd, hpd, hnd⟩ := id hd
  obtain ⟨oo, eso, epo, hoo, hco, hdo', hko, hpo, hno⟩ := id ho
  have hlen : more.length = eso.size := by rw [← hpo.length]; simp
  have hdlen : kvs.length = esd.size := by rw [← hpd.length]; simp
  unfold mergeMapping
  refine wpAny_bind (wpAny_isInstance (T := "dict") ho.typeIs PySem.F.sub_dict_dict ?_)
  simp only [if_true]
  refine wpAny_bind (wpAny_specialOf ho.typeIs PySem.F.slot_dict_iter.lookup ?_)
  have e1 : (some (Value.builtin "dict.__iter__") == some (Value.builtin "dict.__iter__")) = true := by decide
  rw [e1]
  refine wpAny_bind (wpAny_pure ?_)
  dsimp only
  rw [if_neg (by rw [hoS]; exact Bool.false_ne_true)]
  refine wpAny_bind (wpAny_dictEntries hod hdd ?_)
  have hne' : esd.isEmpty = false := by
    cases h : esd.isEmpty with
    | false => rfl
    | true =>
      have h0 : esd.size = 0 := by simpa using h
      rw [h0] at hdlen
      exact absurd (List.eq_nil_of_length_eq_zero hdlen) hne
  rw [hne']
  simp only [Bool.false_eq_true, if_false]
  refine wpAny_bind (wpAny_dictEntries hoo hdo' ?_)
  refine wpAny_bind (wpAny_dictEpoch hoo hdo' ?_)
  refine wpAny_bind ?_
  refine wpAny_forIn_list _
      (fun rest _ s' => ∃ h' i kvs', s' = { s with heap := h' } ∧ rest = List.range' i (eso.size - i) ∧ i ≤ eso.size ∧ h'.DictOf (intKind prog w) d kvs' ∧ KVs kvs' (l ++ m.take i) ∧ h'.get? o = some oo ∧ Heap.SameBut d s.heap h')
      _ ?_ ?_ _ _ ⟨s.heap, 0, kvs, rfl, by rw [List.range_eq_range']; simp, Nat.zero_le _, hd, by simpa using hk, hoo, Heap.SameBut.refl _ _⟩
  · rintro x rest b s' ⟨h', i, kvs', rfl, hr, hi, hd', hk', hoo', hs'⟩
    have hlt : i < eso.size := by
      rcases Nat.lt_or_ge i eso.size with h | h
      · exact h
      · rw [Nat.sub_eq_zero_of_le h] at hr; simp at hr
    obtain ⟨rfl, hrest⟩ : x = i ∧ rest = List.range' (i + 1) (eso.size - (i + 1)) := by
      have e : eso.size - i = (eso.size - (i + 1)) + 1 := by omega
      rw [e, List.range'_succ] at hr
      injection hr with h1 h2
      exact ⟨h1, h2⟩
    refine wpAny_bind (wpAny_dictEntries hoo' hdo' ?_)
    rw [Array.getElem?_eq_getElem hlt]
    obtain ⟨kv, hkv⟩ : ∃ kv, more[x]? = some kv := ⟨more[x]'(by rw [hlen]; exact hlt), List.getElem?_eq_getElem _⟩
    obtain ⟨k, v⟩ := kv
    obtain ⟨hkey, hval⟩ := hpo.get? (e := eso[x]) (by simp [hlt]) hkv
    obtain ⟨k', hkey', hhash⟩ := hko eso[x] (Array.getElem_mem hlt)
    obtain rfl : k' = k := (intKind prog w).inj _ _ _ hkey' hkey
    have hmx : ∃ y t, m[x]? = some (k', y) ∧ v = .str y t := by
      have key : ∀ {kvs : List (Int × Value)} {m : List (Int × Str)}, KVs kvs m → ∀ (x : Nat) (k : Int) (v : Value), kvs[x]? = some (k, v) → ∃ y t, m[x]? = some (k, y) ∧ v = .str y t := by
        intro kvs m h
        induction h with
        | nil => intro x k v h; simp at h
        | @cons i y t kvs m r ih =>
          intro x k v h
          cases x with
          | zero => simp at h; exact ⟨y, t, by simp [h.1], h.2.symm⟩
          | succ x => simpa using ih x k v (by simpa using h)
      exact key hm x k' v hkv
    obtain ⟨y, t, hmy, rfl⟩ := hmx
    have htake : m.take (x + 1) = m.take x ++ [(k', y)] := by rw [List.take_add_one, hmy]; rfl
    have hnot : k' ∉ (l ++ m.take x).map Prod.fst := by
      have hh : l ++ m = (l ++ m.take x) ++ (k', y) :: m.drop (x + 1) := by
        rw [List.append_assoc]
        congr 1
        have := List.take_append_drop (x + 1) m
        rw [htake] at this
        simpa using this.symm
      rw [hh] at hn
      exact nodup_mid hn
    have hzk : kvs'.length ≤ sizeLine := by
      rw [hk'.length, List.length_append, List.length_take]
      rw [List.length_append] at hz
      omega
    show wpAny _ _ (holding [eso[x].key, eso[x].val] (dictPut d eso[x].hash eso[x].key eso[x].val) >>= _) _ _ _
    rw [hhash, hval]
    refine wpAny_bind (wpAny_holding (wpAny_dictPut_new hkey hd' (by rw [show kvs'.map (·.1) = (l ++ m.take x).map Prod.fst from hk'.keys]; exact hnot) (fun h'' hd'' hs'' => ?_) hzk))
    have hoo'' : h''.get? o = some oo := (hs''.2 o (Ne.symm hdo)).trans hoo'
    refine wpAny_bind (wpAny_dictEpoch hoo'' hdo' ?_)
    rw [if_neg (by simp)]
    refine wpAny_pure ⟨h'', x + 1, _, rfl, hrest, hlt, hd'', ?_, hoo'', hs'.trans hs''⟩
    rw [htake, ← List.append_assoc]
    exact hk'.append (.cons .nil)
  · rintro b s' ⟨h', i, kvs', rfl, hr, hi, hd', hk', hoo', hs'⟩
    have hin : i = eso.size := by
      rcases Nat.lt_or_ge i eso.size with h | h
      · have e : eso.size - i = (eso.size - (i + 1)) + 1 := by omega
        rw [e, List.range'_succ] at hr; simp at hr
      · omega
    subst hin
    refine wpAny_pure (hQ h' kvs' hd' ?_ hs')
    have : m.take eso.size = m := List.take_of_length_le (by rw [← hm.length, hlen]; exact Nat.le_refl _)
    rw [this] at hk'
    exact hk'
end
end Mine
set_option Elab.async false
set_option maxRecDepth 4000
namespace Mine
open PySem PySem.Calls PyProof.Rows PySem.W PySem.Spec

def flushD (run : List (Sem Value × Sem Value)) (main : Option Addr) : Sem (Option Addr) :=
  if run.isEmpty = true then pure main
  else match main with
    | none => do return some (← subDict run)
    | some d => do
      let sub ← holding [.ref d] (subDict run)
      (holding [.ref d, .ref sub] (mergeMapping d (.ref sub) false)).onRaise fun x => do let _ ← holding [.ref d, x] (runValue (.builtin "proto.let_go" {}))
      return some d

section
variable (prog : Program) (w : World)
def MainOk (h₀ : Heap) (main : Option Addr) (l : List (Int × Str)) (h : Heap) : Prop := Old h₀ h ∧ match main with
  | none => l = []
  | some d => ∃ kvs, h.DictOf (intKind prog w) d kvs ∧ KVs kvs l ∧ l ≠ [] ∧ h₀.get? d = none
end
section
variable {prog : Program} {w : World} {A : Around} {s : Shared}

theorem flush_sound {h₀ : Heap} (hsys : ∃ o, h₀.get? sysModules = some o) {run : List (Sem Value × Sem Value)} {main : Option Addr} {l lr : List (Int × Str)} {Q : Option Addr → Shared → Prop} {E : Value → Shared → Prop} (pr : PTs run lr) (M : MainOk prog w h₀ main l s.heap) (hn : ((l ++ lr).map Prod.fst).Nodup) (hz : (l ++ lr).length ≤ sizeLine)
    (q : ∀ h' tk main', MainOk prog w h₀ main' (l ++ lr) h' → Q main' { s with heap := h', toks := tk }) : wpAny (model prog w) A (flushD run main) Q E s := by
  unfold flushD
  by_cases hr : run.isEmpty = true
  · rw [if_pos hr]
    have : lr = [] := by
      have h1 : run = [] := List.isEmpty_iff.mp hr
      subst h1; cases pr; rfl
    subst this
    exact wpAny_pure (q s.heap s.toks main (by simpa using M))
  · rw [if_neg hr]
    obtain ⟨o0, M⟩ := M
    have hlr : lr ≠ [] := by
      rintro rfl
      cases pr; exact hr rfl
    have hn2 : (lr.map Prod.fst).Nodup := by rw [List.map_append] at hn; exact (List.nodup_append.mp hn).2.1
    have hz2 : lr.length ≤ sizeLine := by rw [List.length_append] at hz; exact Nat.le_trans (Nat.le_add_left _ _) hz
    have fr : ∀ {b o}, h₀.get? b = some o → b ≠ s.heap.objs.size := fun e => Nat.ne_of_lt (Heap.lt_size (o0 _ _ e))
    have nS : h₀.get? s.heap.objs.size = none := by
      cases e : h₀.get? s.heap.objs.size with
      | none => rfl
      | some o => exact absurd rfl (fr e)
    cases main with
    | none =>
      subst M
      refine wpAny_bind (subDict_sound pr hn2 hz2 fun h' tk kvs hd hk ho => wpAny_pure (q h' tk _ ⟨fun b o e => ho _ _ (o0 _ _ e), kvs, hd, by simpa using hk, by simpa using hlr, nS⟩))
    | some d =>
      obtain ⟨kvs, hd, hk, hne, hd0⟩ := M
      refine wpAny_bind (wpAny_holding (subDict_sound pr hn2 hz2 fun h' tk more hd' hk' ho => ?_))
      have hd1 := dict_at hd fun o e => ho _ _ e
      obtain ⟨od, ed⟩ := dict_live hd
      have hdo : d ≠ s.heap.objs.size := Nat.ne_of_lt (Heap.lt_size ed)
      have hsz : (s.heap.objs.size == sysModules) = false := by
        obtain ⟨o, e⟩ := hsys
        have := fr e
        simp only [beq_eq_false_iff_ne]
        exact fun z => this z.symm
      have hke : kvs ≠ [] := by
        rintro rfl
        cases hk; exact hne rfl
      refine wpAny_bind (wpAny_onRaise (wpAny_mono (E := fun _ _ => False) (wpAny_holding (merge_sound (s := { s with heap := h', toks := tk }) hdo hsz hd1 hd' hk hk' hke hn hz fun h'' kvs' hd'' hk'' hs => ?_)) (fun _ _ x => x) fun _ _ x => x.elim))
      refine wpAny_pure (q h'' tk (some d) ⟨fun b o e => samebut_get hs (fun z => by subst z; rw [hd0] at e; cases e) (ho _ _ (o0 _ _ e)), kvs', hd'', hk'', ?_, hd0⟩)
      intro z
      exact hne (List.append_eq_nil_iff.mp z).1

theorem display_loop {h₀ : Heap} (hsys : ∃ o, h₀.get? sysModules = some o) {f : Option (Sem Value) × Sem Value → Option Addr × List (Sem Value × Sem Value) → Sem (ForInStep (Option Addr × List (Sem Value × Sem Value)))}
    (hf : ∀ k v main run, f (some k, v) (main, run) = if ((run ++ [(k, v)]).length == 17) = true then (do let main ← flushD (run ++ [(k, v)]) main; pure (.yield (main, []))) else pure (.yield (main, run ++ [(k, v)]))) :
    ∀ {ps : List (Sem Value × Sem Value)} {lp : List (Int × Str)}, PTs ps lp → ∀ {main : Option Addr} {run : List (Sem Value × Sem Value)} {l lr : List (Int × Str)} {s : Shared} {Q : Option Addr × List (Sem Value × Sem Value) → Shared → Prop} {E : Value → Shared → Prop},
      PTs run lr → MainOk prog w h₀ main l s.heap → (((l ++ lr) ++ lp).map Prod.fst).Nodup → ((l ++ lr) ++ lp).length ≤ sizeLine →
      (∀ h' tk main' run' l' lr', PTs run' lr' → MainOk prog w h₀ main' l' h' → l' ++ lr' = (l ++ lr) ++ lp → Q (main', run') { s with heap := h', toks := tk }) →
      wpAny (model prog w) A (forIn (ps.map fun p => (some p.1, p.2)) (main, run) f) Q E s := by
  intro ps lp pp
  induction pp with
  | nil =>
    intro main run l lr s Q E pr M hn hz q
    rw [List.map_nil, List.forIn_nil]
    exact wpAny_pure (q s.heap s.toks main run l lr pr M (by simp))
  | @cons k v i x ps lp pk pv pp ih =>
    intro main run l lr s Q E pr M hn hz q
    rw [List.map_cons, List.forIn_cons, hf]
    have pr' : PTs (run ++ [(k, v)]) (lr ++ [(i, x)]) := pr.append (.cons pk pv .nil)
    have el : (l ++ lr) ++ (i, x) :: lp = (l ++ (lr ++ [(i, x)])) ++ lp := by simp
    rw [el] at hn hz q
    have hn1 : ((l ++ (lr ++ [(i, x)])).map Prod.fst).Nodup := by rw [List.map_append] at hn; exact (List.nodup_append.mp hn).1
    have hz1 : (l ++ (lr ++ [(i, x)])).length ≤ sizeLine := by rw [List.length_append] at hz; exact Nat.le_trans (Nat.le_add_right _ _) hz
    split
    · refine wpAny_bind (wpAny_bind (flush_sound hsys pr' M hn1 hz1 fun h' tk main' M' => wpAny_pure ?_))
      refine ih .nil M' (by simpa using hn) (by simpa using hz) fun h'' tk'' main'' run'' l'' lr'' p'' M'' e => ?_
      exact q h'' tk'' main'' run'' l'' lr'' p'' M'' (by simpa using e)
    · exact wpAny_bind (wpAny_pure (ih pr' M hn hz q))

theorem display_sound {ps : List (Sem Value × Sem Value)} {lp : List (Int × Str)} (hsys : ∃ o, s.heap.get? sysModules = some o) (pp : PTs ps lp) (hne : lp ≠ []) (hn : (lp.map Prod.fst).Nodup) (hz : lp.length ≤ sizeLine) {Q : Value → Shared → Prop} {E : Value → Shared → Prop}
    (q : ∀ d h' tk kvs, h'.DictOf (intKind prog w) d kvs → KVs kvs lp → s.heap.get? d = none → Old s.heap h' → Q (.ref d) { s with heap := h', toks := tk }) : wpAny (model prog w) A (dictDisplay (ps.map fun p => (some p.1, p.2))) Q E s := by
  unfold dictDisplay
  refine wpAny_bind ?_
  refine display_loop (h₀ := s.heap) hsys ?_ pp (l := []) (lr := []) .nil ⟨fun _ _ e => e, rfl⟩ (by simpa using hn) (by simpa using hz) fun h' tk main' run' l' lr' pr M e => ?_
  · intro k v main run; rfl
  · show wpAny _ _ (flushD run' main' >>= _) _ _ _
    refine wpAny_bind (flush_sound (s := { s with heap := h', toks := tk }) hsys pr M (by rw [e]; simpa using hn) (by rw [e]; simpa using hz) fun h'' tk'' main'' M'' => ?_)
    rw [e] at M''
    obtain ⟨o, M''⟩ := M''
    cases main'' with
    | none => exact absurd (by simpa using M'') hne
    | some d =>
      obtain ⟨kvs, hd, hk, _, h0⟩ := M''
      exact wpAny_pure (q d h'' tk'' kvs hd (by simpa using hk) h0 o)
end
end Mine
set_option Elab.async false
set_option maxRecDepth 4000
namespace Mine
open PySem PySem.Calls PyProof.Rows PySem.W PySem.Spec

/-- all but the two places of the top -/
abbrev KeepT (Pl : Addr) (h h' : Heap) : Prop := ∀ b o, b ≠ Pl → b ≠ mainGlobals → h.get? b = some o → h'.get? b = some o
def updG (mg : Str → Option Value) (x : Str) (v : Value) : Str → Option Value := fun y => if y = x then some v else mg y

section
variable {prog : Program} {w : World} {A : Around} {s : Shared} {c Pl F : Addr} {mg mb : Str → Option Value} {l : List (Pos × Addr)}

theorem main_stored {h h' : Heap} {ps : Array Value} {x : Str} {v : Value} (hm : h.Main mg c Pl ps) (hx : x ≠ "__builtins__") (hn : h'.Ns mainGlobals (updG mg x v)) (hs : Heap.SameBut mainGlobals h h') : h'.Main (updG mg x v) c Pl ps where
  g := hn
  code := by
    obtain ⟨o, vs, file, tf, flags, tg, inF, text, tt, op, a, r1, r2, r3, r4, r5, r6, b, r⟩ := hm.code
    have c1 : c ≠ mainGlobals := fun z => by have := hm.low.1; rw [z] at this; exact Nat.lt_irrefl _ this
    have c2 : Pl ≠ mainGlobals := fun z => by have := hm.low.2; rw [z] at this; exact Nat.lt_irrefl _ this
    exact ⟨o, vs, file, tf, flags, tg, inF, text, tt, op, samebut_get hs c1 a, r1, r2, r3, r4, r5, r6, samebut_get hs c2 b, r⟩
  low := hm.low
  bmod := by
    obtain ⟨bm, o, e, n1, n2, n3, g, r⟩ := hm.bmod
    refine ⟨bm, o, ?_, n1, n2, n3, samebut_get hs n2 g, r⟩
    unfold updG
    rw [if_neg (fun z => hx z.symm)]; exact e
theorem main_old {h h' : Heap} {ps : Array Value} (hm : h.Main mg c Pl ps) (hk : Old h h') : h'.Main mg c Pl ps := ⟨hm.g.keeps hk, hm.code.keeps hk, hm.low, let ⟨bm, o, e, n1, n2, n3, g, r⟩ := hm.bmod; ⟨bm, o, e, n1, n2, n3, hk _ _ g, r⟩⟩

/-- a store of the top's -/
theorem top_store {x : Str} {v : Value} {ps : Array Value} {Q : Unit → Shared → Prop} {E : Value → Shared → Prop} (hmod : prog.main.scope.kind = .module) (hl : prog.main.scope.names.lookup x = some .local) (hx : x ≠ "__builtins__") (hm : s.heap.Main mg c Pl ps)
    (q : ∀ h' tk, h'.Main (updG mg x v) c Pl ps → KeepT Pl s.heap h' → (∀ b o, b ≠ mainGlobals → s.heap.get? b = some o → h'.get? b = some o) → Q () { s with heap := h', toks := tk }) : wpAny (model prog w) A (storeName (mainEnv prog c F) x v) Q E s := by
  refine wpAny_storeName_local (env := mainEnv prog c F) (m := mg) hl hm.g (fun h' hn hs => q h' _ (main_stored hm hx hn hs) (fun b o _ n e => samebut_get hs n e) fun b o n e => samebut_get hs n e) ?_
  unfold mainEnv
  simp [hmod]

theorem step_name {x v : Str} {k : Nat} {p p2 pos : Pos} {ps : Array Value} {Q : Flow → Shared → Prop} {E : Value → Shared → Prop} (hmod : prog.main.scope.kind = .module) (hl : prog.main.scope.names.lookup x = some .local) (hx : x ≠ "__builtins__") (hm : s.heap.Main mg c Pl ps)
    (q : ∀ h' tk t, h'.Main (updG mg x (.str v t)) c Pl ps → KeepT Pl s.heap h' → Q .next { s with heap := h', toks := tk }) : wpAny (model prog w) A (exec (.Assign [.Name x p] (.Constant (.str v) k p2) pos) (mainEnv prog c F)) Q E s := by
  refine wpAny_Assign_Name ?_ (by rfl)
  rw [arm_eval_Constant]
  exact wpAny_mkText (top_store (s := { s with toks := s.toks + 1 }) hmod hl hx hm fun h' tk hm' hk _ => q h' tk _ hm' hk)

/-- a built-in's name, at the top -/
theorem top_blt {x : Str} {v : Value} {p : Pos} {ps : Array Value} {Q : Value → Shared → Prop} {E : Value → Shared → Prop} (hmod : prog.main.scope.kind = .module) (hm : s.heap.Main mg c Pl ps) (hb : s.heap.Ns builtinsNs mb) (h1 : mg x = none) (h2 : mb x = some v) (hd : (x == ("__debug__" : Str)) = false)
    (q : Q v s) : wpAny (model prog w) A (eval (.Name x p) (mainEnv prog c F)) Q E s := by
  rw [arm_eval_Name]
  refine wpAny_bind (wpAny_standAt ?_)
  rw [hd]
  simp only [Bool.false_eq_true, if_false]
  have hk : (mainEnv prog c F).blockKind = .module := by
    unfold Env.blockKind mainEnv
    rw [hmod]; rfl
  unfold loadName
  have ha : ((mainEnv prog c F).scope.kind.isAnnotationScope && (mainEnv prog c F).kindOf "__classdict__" == some .free && x != "__classdict__") = false := by
    show (prog.main.scope.kind.isAnnotationScope && _ && _) = false
    rw [hmod]; rfl
  rw [ha]
  simp only [Bool.false_eq_true, if_false]
  rw [hk]
  have hl : ((mainEnv prog c F).locals != (mainEnv prog c F).globals) = false := by simp [mainEnv]
  simp only [hl, Bool.false_and, Bool.false_eq_true, if_false]
  exact wpAny_loadGlobal_at (env := mainEnv prog c F) rfl rfl ⟨mg, hm.g, .inr ⟨h1, mb, hb, h2⟩⟩ q
end
end Mine
set_option Elab.async false
set_option maxRecDepth 4000
namespace Mine
open PySem PySem.Calls PyProof.Rows PySem.W PySem.Spec

def constPairs : List (Option Expr) → List Expr → Option (List (Int × Str))
  | [], [] => some []
  | some (.Constant (.int i) _ _) :: ks, .Constant (.str x) _ _ :: vs => match constPairs ks vs with
    | some l => some ((i, x) :: l)
    | none => none
  | _, _ => none
def constInts : List Expr → Option (List Int)
  | [] => some []
  | .Constant (.int i) _ _ :: es => match constInts es with
    | some l => some (i :: l)
    | none => none
  | _ => none

section
variable {prog : Program} {w : World} {A : Around} {s : Shared} {c Pl F : Addr} {mg mb : Str → Option Value} {l : List (Pos × Addr)}

theorem constPairs_trees (env : Env) (pos : Pos) : ∀ (ks : List (Option Expr)) (vs : List Expr) (lp : List (Int × Str)), constPairs ks vs = some lp →
    ∃ ps, (evalEachOpt ks env).zip ((evalEach vs env).map fun v => do let x ← v; standAt pos; pure x) = ps.map (fun p => (some p.1, p.2)) ∧ PTs ps lp := by
  intro ks
  induction ks with
  | nil =>
    intro vs lp h
    cases vs with
    | nil => cases h; exact ⟨[], rfl, .nil⟩
    | cons _ _ => cases h
  | cons k ks ih =>
    intro vs lp h
    unfold constPairs at h
    split at h
    · rename_i heq; cases heq
    · rename_i i n p ks' x m q vs' h1
      cases h1
      split at h
      · rename_i lp' hl
        cases h
        obtain ⟨ps, e, pt⟩ := ih _ _ hl
        refine ⟨(eval (.Constant (.int i) n p) env, do let x ← eval (.Constant (.str x) m q) env; standAt pos; pure x) :: ps, ?_, .cons ?_ ?_ pt⟩
        · show (some _, _) :: List.zip _ _ = _
          rw [List.map_cons]
          exact congrArg _ e
        · intro M A s Q E h
          rw [arm_eval_Constant]
          exact wpAny_mkInt (h _ _)
        · intro M A s Q E h
          rw [arm_eval_Constant]
          exact wpAny_bind (wpAny_mkText (wpAny_bind (wpAny_standAt (wpAny_pure (h _ _)))))
      · cases h
    · cases h

theorem step_dict {x : Str} {ks : List (Option Expr)} {vs : List Expr} {lp : List (Int × Str)} {p dp pos : Pos} {ps : Array Value} {Q : Flow → Shared → Prop} {E : Value → Shared → Prop} (hmod : prog.main.scope.kind = .module) (hl : prog.main.scope.names.lookup x = some .local) (hx : x ≠ "__builtins__") (hm : s.heap.Main mg c Pl ps)
    (hsys : ∃ o, s.heap.get? sysModules = some o) (hp : constPairs ks vs = some lp) (hne : lp ≠ []) (hn : (lp.map Prod.fst).Nodup) (hz : lp.length ≤ sizeLine)
    (q : ∀ h' tk d kvs, h'.Main (updG mg x (.ref d)) c Pl ps → KeepT Pl s.heap h' → h'.DictOf (intKind prog w) d kvs → KVs kvs lp → d ≠ Pl → d ≠ mainGlobals → s.heap.get? d = none → Q .next { s with heap := h', toks := tk }) : wpAny (model prog w) A (exec (.Assign [.Name x p] (.Dict ks vs dp) pos) (mainEnv prog c F)) Q E s := by
  refine wpAny_Assign_Name ?_ (by rfl)
  obtain ⟨pp, e, pt⟩ := constPairs_trees (mainEnv prog c F) dp ks vs lp hp
  rw [arm_eval_Dict, e]
  refine wpAny_bind (wpAny_standAt (display_sound hsys pt hne hn hz fun d h' tk kvs hd hk h0 ho => ?_))
  obtain ⟨od, ed⟩ := dict_live hd
  have g1 : ∃ o, s.heap.get? mainGlobals = some o := let ⟨o, _, _, e, _⟩ := hm.g; ⟨o, e⟩
  have g2 : ∃ o, s.heap.get? Pl = some o := by
    obtain ⟨_, _, _, _, _, _, _, _, _, op, _, _, _, _, _, _, _, b, _⟩ := hm.code
    exact ⟨op, b⟩
  have dG : d ≠ mainGlobals := fun z => by obtain ⟨o, e⟩ := g1; rw [z, e] at h0; cases h0
  have dP : d ≠ Pl := fun z => by obtain ⟨o, e⟩ := g2; rw [z, e] at h0; cases h0
  refine top_store (s := { s with heap := h', toks := tk }) hmod hl hx (main_old hm ho) fun h'' tk'' hm'' hk'' ho'' => q h'' tk'' d kvs hm'' (fun b o n1 n2 e => hk'' b o n1 n2 (ho _ _ e)) (dict_at hd fun o e => ho'' d o dG e) hk dP dG h0

theorem constInts_spliced {env : Env} {pos : Pos} : ∀ {es : List Expr} {ns : List Int} {s : Shared} {Q : List Value → Shared → Prop} {E : Value → Shared → Prop}, constInts es = some ns →
    (∀ vs tk, IntsAre vs ns → Q vs { s with toks := tk }) → wpAny (model prog w) A (spliced (backTo pos (starEach es env))) Q E s := by
  intro es
  induction es with
  | nil => intro ns s Q E h q; cases h; exact wpAny_pure (q [] s.toks .nil)
  | cons e es ih =>
    intro ns s Q E h q
    unfold constInts at h
    split at h
    · rename_i heq; cases heq
    · rename_i i n p es' heq
      cases heq
      split at h
      · rename_i l hl
        cases h
        show wpAny _ _ (spliced ((false, eval (.Constant (.int i) n p) env) :: backTo pos (starEach es env))) _ _ _
        refine Calls.spliced_cons ?_
        rw [arm_eval_Constant]
        refine wpAny_mkInt (wpAny_mono (ih (Q := fun vs s' => Q (_ :: vs) s') hl fun vs tk hi => q _ tk (.cons _ _ hi)) (fun _ _ h => h) fun _ _ e => e)
      · cases h
    · cases h

theorem step_set {x : Str} {es : List Expr} {ns : List Int} {a b : Int} {n1 n2 : Nat} {p p1 p2 p3 p4 p5 p6 p7 p8 p9 pc pos : Pos} {ps : Array Value} {Q : Flow → Shared → Prop} {E : Value → Shared → Prop} (hh : A.handled = none) (hmod : prog.main.scope.kind = .module) (hl : prog.main.scope.names.lookup x = some .local) (hx : x ≠ "__builtins__") (hm : s.heap.Main mg c Pl ps)
    (hb : s.heap.Ns builtinsNs mb) (e1 : mg "set" = none) (e2 : mb "set" = some (.type "set")) (e3 : mg "list" = none) (e4 : mb "list" = some (.type "list")) (e5 : mg "range" = none) (e6 : mb "range" = some (.type "range"))
    (hi : constInts es = some ns) (h0 : 0 ≤ a) (h1 : a ≤ b) (h2 : b ≤ 100000) (h3 : b - a ≤ 100) (h4 : ns.length ≤ 100)
    (q : ∀ h' tk d n, h'.Main (updG mg x (.ref d)) c Pl ps → KeepT Pl s.heap h' → h'.SetOf (intKind prog w) d (fun k => decide (k ∈ ns ++ (List.range (b - a).toNat).map fun i : Nat => a + i)) n → d ≠ Pl → d ≠ mainGlobals → s.heap.get? d = none → Q .next { s with heap := h', toks := tk }) :
    wpAny (model prog w) A (exec (.Assign [.Name x p] (.Call (.Name "set" p1) [.BinOp (.List es p2) .Add (.Call (.Name "list" p3) [.Call (.Name "range" p4) [.Constant (.int a) n1 p5, .Constant (.int b) n2 p6] [] p7] [] p8) p9] [] pc) pos) (mainEnv prog c F)) Q E s := by
  refine wpAny_Assign_Name ?_ (by rfl)
  refine wpAny_Call_Name_kw (top_blt hmod hm hb e1 e2 (by decide) ?_)
  refine PySem.callWith_type (by rfl) (Calls.evalArgs_plain (Calls.spliced_cons ?_))
  rw [arm_eval_BinOp]
  refine wpAny_bind ?_
  rw [arm_eval_List]
  refine wpAny_bind (wpAny_standAt (wpAny_bind (constInts_spliced hi fun vs tk iv => wpAny_newList ?_ ?_)))
  · -- the right part
    have hm1 : (s.heap.push { cls := .type "list", data := .seq vs.toArray }).Main mg c Pl ps := main_old hm (alloc_old _ _)
    have hb1 : (s.heap.push { cls := .type "list", data := .seq vs.toArray }).Ns builtinsNs mb := hb.keeps (alloc_old _ _)
    have l1 : (s.heap.push { cls := .type "list", data := .seq vs.toArray }).get? s.heap.objs.size = some { cls := .type "list", data := .seq vs.toArray } := Heap.get?_push_size _ rfl
    refine wpAny_bind (wpAny_holding ?_)
    refine wpAny_Call_Name_kw (top_blt (s := { s with heap := s.heap.push { cls := .type "list", data := .seq vs.toArray }, toks := tk }) hmod hm1 hb1 e3 e4 (by decide) ?_)
    refine PySem.callWith_type (by rfl) (Calls.evalArgs_plain (Calls.spliced_cons ?_))
    refine wpAny_Call_Name_kw (top_blt (s := { s with heap := s.heap.push { cls := .type "list", data := .seq vs.toArray }, toks := tk }) hmod hm1 hb1 e5 e6 (by decide) ?_)
    refine PySem.callWith_type (by rfl) (Calls.evalArgs_plain (Calls.spliced_cons ?_))
    rw [arm_eval_Constant]
    refine wpAny_mkInt (Calls.spliced_cons ?_)
    show wpAny _ _ (eval (.Constant (.int b) n2 p6) (mainEnv prog c F)) _ _ _
    rw [arm_eval_Constant]
    refine wpAny_mkInt (Calls.spliced_nil ?_)
    refine call_range_2 (Calls.spliced_nil ?_)
    have hn : Builtin.Range.rangeSize a b 1 = ((b - a).toNat : Nat) := by
      unfold Builtin.Range.rangeSize
      rw [if_pos (by decide)]
      split <;> omega
    have hsm : Builtin.Range.small a b 1 = true := by
      unfold Builtin.Range.small
      rw [hn]
      simp [Builtin.Range.rangeFitsLong]
      omega
    refine call_list_range hh (Heap.get?_push_size _ rfl) hsm hn (by omega) fun h2 tk2 acc' c' o2 l2 it => ?_
    refine wpAny_bind (wpAny_standAt (wpAny_operateT ?_))
    have iv2 : IntsAre acc'.toList ((List.range (b - a).toNat).map fun i : Nat => a + i) := by
      have hsz := it.1
      have hval := it.2
      have key : ∀ (k : Nat) (vs : List Value) (off : Nat), vs.length = k → (∀ j v, vs[j]? = some v → ∃ t, v = Value.int (a + ((off + j : Nat) : Int)) t) → IntsAre vs ((List.range' off k).map fun i : Nat => a + (i : Int)) := by
        intro k
        induction k with
        | zero => intro vs off h _; rw [List.eq_nil_of_length_eq_zero h]; exact .nil
        | succ k ih =>
          intro vs off h hv
          cases vs with
          | nil => cases h
          | cons v vs =>
            obtain ⟨t, rfl⟩ := hv 0 v rfl
            rw [List.range'_succ, List.map_cons]
            refine .cons _ _ (ih vs (off + 1) (by simpa using h) fun j u hu => ?_)
            have := hv (j + 1) u (by simpa using hu)
            rw [show off + 1 + j = off + (j + 1) by omega]; exact this
      rw [List.range_eq_range']
      refine key _ _ 0 (by rw [Array.length_toList, hsz]) fun j v hv => ?_
      obtain ⟨t, e⟩ := hval j v (by simpa using hv)
      exact ⟨t, by rw [e]; simp⟩
    refine P.add_list (o2 _ _ (alloc_old _ _ _ _ l1)) l2 ?_ ?_
    · refine Calls.spliced_nil ?_
      have lsz : (vs.toArray ++ acc').size = vs.length + (b - a).toNat := by simp [it.1]
      refine call_set_list hh (items := vs.toArray ++ acc') (ns := ns ++ (List.range (b - a).toNat).map fun i : Nat => a + i) ⟨_, Heap.get?_push_size _ rfl, rfl, 0, rfl⟩ ?_ ?_ fun h3 tk3 hset ho3 => ?_
      · rw [Array.toList_append]
        exact iv.append iv2
      · rw [lsz, iv.length]; simp only [scanBound]; omega
      · have hns : (vs.toArray ++ acc').size = (ns ++ (List.range (b - a).toNat).map fun i : Nat => a + i).length := by simp [lsz, iv.length]
        generalize hL : (ns ++ (List.range (b - a).toNat).map fun i : Nat => a + i) = L at hset hns ⊢
        have hany : ∀ k, (PyProof.Rows.firstMet (fun i => L.getD i 0) (vs.toArray ++ acc').size).any (· == k) = decide (k ∈ L) := fun k => by
          rw [hns, PyProof.Rows.firstMet_any]
          have : (List.range L.length).map (fun i => L.getD i 0) = L := by
            apply List.ext_getElem
            · simp
            · intro i h1 h2
              have h2' : i < L.length := h2
              simp [List.getD_eq_getElem?_getD, List.getElem?_eq_getElem h2']
          rw [this, List.any_beq']
          simp
        have hset' := SetOf_congr hset hany rfl
        have o3 : Old s.heap h3 := fun b o e => by
          have e1 := o2 _ _ (alloc_old _ _ _ _ (alloc_old _ _ _ _ e))
          exact ho3 b o (by rw [Heap.size_push]; exact Nat.lt_succ_of_lt (Heap.lt_size e1)) (alloc_old _ _ _ _ e1)
        have nD : ∀ {b o}, s.heap.get? b = some o → b ≠ (h2.push { cls := .type "list", data := .seq (vs.toArray ++ acc') }).objs.size := fun {b o} e => by
          have e1 := o2 _ _ (alloc_old _ _ _ _ (alloc_old _ _ _ _ e))
          rw [Heap.size_push]
          exact Nat.ne_of_lt (Nat.lt_succ_of_lt (Heap.lt_size e1))
        have g1 : ∃ o, s.heap.get? mainGlobals = some o := let ⟨o, _, _, e, _⟩ := hm.g; ⟨o, e⟩
        have g2 : ∃ o, s.heap.get? Pl = some o := by
          obtain ⟨_, _, _, _, _, _, _, _, _, op, _, _, _, _, _, _, _, b, _⟩ := hm.code
          exact ⟨op, b⟩
        have dG := Ne.symm (nD g1.choose_spec)
        have dP := Ne.symm (nD g2.choose_spec)
        have d0 : s.heap.get? (h2.push { cls := .type "list", data := .seq (vs.toArray ++ acc') }).objs.size = none := by
          cases e : s.heap.get? (h2.push { cls := .type "list", data := .seq (vs.toArray ++ acc') }).objs.size with
          | none => rfl
          | some o => exact absurd rfl (nD e)
        refine top_store (s := { s with heap := h3, toks := tk3 }) hmod hl hx (main_old hm o3) fun h'' tk'' hm'' hk'' ho'' => ?_
        subst hL
        exact q h'' tk'' _ _ hm'' (fun b o n1 n2 e => hk'' b o n1 n2 (o3 _ _ e)) (set_at hset' fun o e => ho'' _ o dG e) dP dG d0
    · simp only [List.size_toArray, it.1, sizeLine]; rw [iv.length]; omega
  · rw [iv.length]; simp only [sizeLine]; omega
end
end Mine
set_option Elab.async false
set_option maxRecDepth 4000
namespace Mine
open PySem PySem.Calls PyProof.Rows PySem.W PySem.Spec

/-- one statement of the top: what it binds, and what then holds of it -/
structure TSt where
  st : Stmt
  name : Str
  at? : Option (Nat × Nat)
  pred : Addr → Heap → Value → Prop

section
variable (prog : Program) (w : World)
def StepOk (c Pl F : Addr) (mb : Str → Option Value) (t : TSt) : Prop :=
  ∀ (A : Around) (s : Shared) (mg : Str → Option Value) (l : List (Pos × Addr)) (Q : Flow → Shared → Prop) (E : Value → Shared → Prop), A.handled = none → s.heap.Main mg c Pl (triples l).toArray → (∃ o, s.heap.get? sysModules = some o) → s.heap.Ns builtinsNs mb →
    mg "set" = none → mg "list" = none → mg "range" = none → (∀ k, t.at? = some k → ∀ q ∈ l, (q.1.line, q.1.col) ≠ k) →
    (∀ h' tk v l', h'.Main (updG mg t.name v) c Pl (triples l').toArray → KeepT Pl s.heap h' → t.pred Pl h' v → (∀ q ∈ l', q ∈ l ∨ some (q.1.line, q.1.col) = t.at?) → Q .next { s with heap := h', toks := tk }) → wpAny (model prog w) A (exec t.st (mainEnv prog c F)) Q E s
def Stable (t : TSt) : Prop := ∀ Pl h h' v, mainGlobals < Pl → t.pred Pl h v → KeepT Pl h h' → t.pred Pl h' v
end

def fnP (d : DefRec) (Pl : Addr) (h : Heap) (v : Value) : Prop := ∃ a o pm code doc, v = .ref a ∧ h.get? a = some o ∧ o.data = .func (d.data pm (.ref code) doc) ∧ h.CodeRec (.ref code) d.name ∧ Pl < a ∧ Pl < code
def fnT (d : DefRec) : TSt := ⟨d.stmt, d.name, some (d.pos.line, d.pos.col), fnP d⟩

section
variable {prog : Program} {w : World} {c Pl F : Addr} {mb : Str → Option Value}

theorem fn_stable (d : DefRec) : Stable (fnT d) := by
  rintro Pl h h' v hP ⟨a, o, pm, code, doc, rfl, ho, hd, hc, la, lc⟩ hk
  have n : ∀ {a}, Pl < a → a ≠ Pl ∧ a ≠ mainGlobals := fun la => ⟨Nat.ne_of_gt la, Nat.ne_of_gt (Nat.lt_trans hP la)⟩
  exact ⟨a, o, pm, code, doc, rfl, hk _ _ (n la).1 (n la).2 ho, hd, hc.at fun o e => hk _ _ (n lc).1 (n lc).2 e, la, lc⟩
theorem fn_step {d : DefRec} (hd : d.Plain prog) (hmod : prog.main.scope.kind = .module) : StepOk prog w c Pl F mb (fnT d) := by
  intro A s mg l Q E hh hm _ _ _ _ _ hp q
  have hPl : Pl < s.heap.objs.size := hm.code.lt.2
  refine wpAny_def hd hmod hm ?_ fun a c' doc h' tk ha hm' hf hc keep => ?_
  · rw [List.toList_toArray]
    exact codeAmong_triples _ _ fun q hq z => hp _ rfl q hq (by rw [z.1, z.2])
  · refine q h' tk (.ref a) (l ++ [(d.pos, c')]) ?_ (fun b o n1 n2 e => keep b o n1 n2 e) ⟨a, _, _, c', doc, rfl, hf, rfl, hc.2, Nat.lt_of_lt_of_le hPl ha, Nat.lt_of_lt_of_le hPl hc.1⟩ fun q hq => ?_
    · rw [triples_append]
      have e : (triples l ++ [rawInt d.pos.line, rawInt d.pos.col, .ref c']).toArray = (triples l).toArray ++ #[rawInt d.pos.line, rawInt d.pos.col, .ref c'] := by simp
      rw [e]; exact hm'
    · rcases List.mem_append.mp hq with h | h
      · exact .inl h
      · obtain rfl : q = (d.pos, c') := by simpa using h
        exact .inr rfl

/-- the whole top -/
theorem tops_sound (Lt : List TSt) (hs : ∀ t ∈ Lt, StepOk prog w c Pl F mb t) (hst : ∀ t ∈ Lt, Stable t) (hnm : ∀ t ∈ Lt, t.name ≠ "set" ∧ t.name ≠ "list" ∧ t.name ≠ "range") (hpw : Lt.Pairwise fun t t' => t.name ≠ t'.name ∨ ∀ Pl h v, t.pred Pl h v) (hps : Lt.Pairwise fun t t' => t.at? = none ∨ t.at? ≠ t'.at?) :
    ∀ (rest done : List TSt), done ++ rest = Lt → ∀ (A : Around) (s : Shared) (mg : Str → Option Value) (l : List (Pos × Addr)) (Q : Flow → Shared → Prop) (E : Value → Shared → Prop), A.handled = none → s.heap.Main mg c Pl (triples l).toArray → (∃ o, s.heap.get? sysModules = some o) → s.heap.Ns builtinsNs mb → builtinsNs ≠ Pl → sysModules ≠ Pl → builtinsNs ≠ mainGlobals → sysModules ≠ mainGlobals →
      mg "set" = none → mg "list" = none → mg "range" = none → (∀ q ∈ l, ∃ t ∈ done, t.at? = some (q.1.line, q.1.col)) → (∀ t ∈ done, ∃ v, mg t.name = some v ∧ t.pred Pl s.heap v) →
      (∀ h' tk mg' l', h'.Main mg' c Pl (triples l').toArray → KeepT Pl s.heap h' → (∀ t ∈ Lt, ∃ v, mg' t.name = some v ∧ t.pred Pl h' v) → (∀ x, (∀ t ∈ Lt, x ≠ t.name) → mg' x = mg x) → Q .next { s with heap := h', toks := tk }) →
      wpAny (model prog w) A (execs (rest.map (·.st)) (mainEnv prog c F)) Q E s := by
  intro rest
  induction rest with
  | nil =>
    intro done hL A s mg l Q E hh hm hsys hb _ _ _ _ _ _ _ _ hd q
    rw [List.append_nil] at hL
    subst hL
    exact wpAny_execs_nil (q s.heap s.toks mg l hm (fun _ _ _ _ e => e) hd fun _ _ => rfl)
  | cons t rest ih =>
    intro done hL A s mg l Q E hh hm hsys hb n1 n2 n3 n4 e1 e2 e3 hl hd q
    have ht : t ∈ Lt := by rw [← hL]; simp
    have hPw := hpw
    rw [← hL, List.pairwise_append] at hPw
    have hPs := hps
    rw [← hL, List.pairwise_append] at hPs
    refine wpAny_execs_cons (hs t ht A s mg l _ E hh hm hsys hb e1 e2 e3 (fun k hk r hr z => ?_) fun h' tk v l' hm' keep hp hl' => ?_)
    · obtain ⟨t', ht', e⟩ := hl r hr
      rcases hPs.2.2 t' ht' t (by simp) with h | h
      · rw [e] at h; cases h
      · exact h (by rw [e, hk, z])
    · have low : mainGlobals < Pl := hm.low.2
      have nm := hnm t ht
      refine ih (done ++ [t]) (by rw [← hL]; simp) A { s with heap := h', toks := tk } (updG mg t.name v) l' Q E hh hm' (let ⟨o, e⟩ := hsys; ⟨o, keep _ _ n2 n4 e⟩) (hb.at fun o e => keep _ _ n1 n3 e) n1 n2 n3 n4 (by unfold updG; rw [if_neg (fun z => nm.1 z.symm)]; exact e1) (by unfold updG; rw [if_neg (fun z => nm.2.1 z.symm)]; exact e2) (by unfold updG; rw [if_neg (fun z => nm.2.2 z.symm)]; exact e3) (fun r hr => ?_) (fun t' ht' => ?_) fun h'' tk'' mg'' l'' hm'' keep'' hall hother => ?_
      · rcases hl' r hr with h | h
        · obtain ⟨t', ht', e⟩ := hl r h
          exact ⟨t', List.mem_append_left _ ht', e⟩
        · exact ⟨t, by simp, h.symm⟩
      · rcases List.mem_append.mp ht' with h | h
        · obtain ⟨u, eu, pu⟩ := hd t' h
          have hin : t' ∈ Lt := by rw [← hL]; exact List.mem_append_left _ h
          rcases hPw.2.2 t' h t (by simp) with hne | htr
          · exact ⟨u, by unfold updG; rw [if_neg hne]; exact eu, hst t' hin Pl s.heap h' u low pu keep⟩
          · by_cases hne : t'.name = t.name
            · exact ⟨v, by unfold updG; rw [if_pos hne], htr _ _ _⟩
            · exact ⟨u, by unfold updG; rw [if_neg hne]; exact eu, htr _ _ _⟩
        · obtain rfl : t' = t := by simpa using h
          exact ⟨v, by unfold updG; rw [if_pos rfl], hp⟩
      · refine q h'' tk'' mg'' l'' hm'' (fun b o a1 a2 e => keep'' b o a1 a2 (keep b o a1 a2 e)) hall fun x hx => ?_
        rw [hother x hx]
        unfold updG
        rw [if_neg (hx t ht)]
end
end Mine
set_option Elab.async false
set_option maxRecDepth 4000
namespace Mine
open PySem PySem.Calls PyProof.Rows PySem.W PySem.Spec

/-- what the top leaves -/
def TopOut (mg0 : Str → Option Value) (h0 : Heap) (Lt : List TSt) (h' : Heap) : Prop :=
  ∃ mg' c Pl l, h'.Main mg' c Pl (triples l).toArray ∧ h0.objs.size ≤ c ∧ h0.objs.size ≤ Pl ∧ (∀ b o, b ≠ mainGlobals → h0.get? b = some o → h'.get? b = some o) ∧ (∀ t ∈ Lt, ∃ v, mg' t.name = some v ∧ t.pred Pl h' v) ∧ (∀ x, (∀ t ∈ Lt, x ≠ t.name) → mg' x = mg0 x)

theorem top_wp {p : Program} {w : World} {s : Shared} {mg0 mb : Str → Option Value} {Lt : List TSt} (hbody : behindTheImports p = Lt.map (·.st)) (hann : hasAnns (behindTheImports p) = false) (hdoc : docOf (behindTheImports p) = none)
    (hs : ∀ c Pl F, ∀ t ∈ Lt, StepOk p w c Pl F mb t) (hst : ∀ t ∈ Lt, Stable t) (hnm : ∀ t ∈ Lt, t.name ≠ "set" ∧ t.name ≠ "list" ∧ t.name ≠ "range")
    (hpw : Lt.Pairwise fun t t' => t.name ≠ t'.name ∨ ∀ Pl h v, t.pred Pl h v) (hps : Lt.Pairwise fun t t' => t.at? = none ∨ t.at? ≠ t'.at?)
    (hg : s.heap.Ns mainGlobals mg0) (hb : s.heap.Ns builtinsNs mb) (hsys : ∃ o, s.heap.get? sysModules = some o) (hsz : 5 < s.heap.objs.size)
    (hbm : ∃ bm o, mg0 "__builtins__" = some (.ref bm) ∧ bm ≠ builtinsNs ∧ bm ≠ mainGlobals ∧ s.heap.get? bm = some o ∧ o.cls = .type "module" ∧ o.dict = some builtinsNs ∧ o.data = .plain)
    (e1 : mg0 "set" = none) (e2 : mg0 "list" = none) (e3 : mg0 "range" = none) (hgens : s.gens = #[]) (ht : 0 < s.toks) :
    wpAny (model p w) callerA (topStub p).cur (fun fin s' => ∃ f, fin = .done f ∧ ((TopOut mg0 s.heap Lt s'.heap ∧ s'.os = s.os ∧ 0 < s'.toks) ∧ s'.gens = #[])) (fun _ _ => False) s := by
  refine wpAny_with_toks (Nat.le_refl s.toks) ?_
  unfold topStub
  refine wpAny_bind (wpAny_moduleCode fun c Pl h₁ tk₁ hk hc hP hcode => ?_)
  unfold newBodyFrame
  refine wpAny_bind (wpAny_bind (wpAny_nsGet (hg.keeps hk) (wpAny_alloc ?_)))
  refine wpAny_bind (wpAny_run (h := none) (codeAny_body hann hdoc ?_))
  have low : mainGlobals < s.heap.objs.size := hg.lt
  have b5 : builtinsNs < Pl := Nat.lt_of_lt_of_le hb.lt hP
  have s5 : sysModules < Pl := by obtain ⟨o, e⟩ := hsys; exact Nat.lt_of_lt_of_le (Heap.lt_size e) hP
  rw [hbody]
  generalize hH : h₁.push _ = H
  have keep : ∀ b o, s.heap.get? b = some o → H.get? b = some o := fun b o e => hH ▸ Heap.get?_push_of_some _ (hk b o e)
  have hm : H.Main mg0 c Pl (triples []).toArray := by
    refine ⟨hg.keeps keep, hH ▸ hcode.push _, ⟨Nat.lt_of_lt_of_le low hc, Nat.lt_of_lt_of_le low hP⟩, ?_⟩
    obtain ⟨bm, o, a1, a2, a3, a4, a5⟩ := hbm
    exact ⟨bm, o, a1, a2, a3, fun z => by subst z; exact absurd (Heap.lt_size a4) (Nat.not_lt.mpr hP), keep _ _ a4, a5⟩
  refine wpAny_mono (E := fun _ _ => False) (tops_sound (F := h₁.objs.size) Lt (hs c Pl _) hst hnm hpw hps Lt [] rfl _ _ mg0 [] _ _ rfl hm (let ⟨o, e⟩ := hsys; ⟨o, keep _ _ e⟩) (hb.keeps keep) (Nat.ne_of_lt b5) (Nat.ne_of_lt s5) (by decide) (by decide) e1 e2 e3 (by simp) (by simp)
    fun h' tk mg' l' hm' hkeep hall hoth => ?_) (fun _ _ x => x) fun _ _ x => x.elim
  refine wpAny_pure fun le => ⟨_, rfl, ⟨⟨mg', c, Pl, l', hm', hc, hP, fun b o n e => hkeep b o (fun z => ?_) n (keep b o e), hall, hoth⟩, rfl, Nat.lt_of_lt_of_le ht le⟩, hgens⟩
  subst z
  exact absurd (Heap.lt_size e) (Nat.not_lt.mpr hP)
end Mine
set_option Elab.async false
set_option maxRecDepth 100000
namespace Mine
open PySem PySem.Calls PyProof.Rows PySem.W PySem.Spec
theorem boot_mainNs (P : Params) : (boot_heap P).isNs mainGlobals = true := by kernel_rfl
theorem boot_bltNs (P : Params) : (boot_heap P).isNs builtinsNs = true := by kernel_rfl
theorem boot_statNs (P : Params) : (boot_heap P).isNs cStatics = true := by kernel_rfl
theorem boot_view (P : Params) : (boot_heap P).bltView = bltViewBooted := by kernel_rfl
theorem boot_acc (P : Params) : (boot_heap P).accountedOkI [] = true := by kernel_rfl
theorem boot_keys (P : Params) : ((boot_heap P).nsKeys mainGlobals).all startupNames.contains = true := by kernel_rfl
theorem boot_sys (P : Params) : ((boot_heap P).get? sysModules).isSome = true := by kernel_rfl
theorem boot_bm (P : Params) : (boot_heap P).bmainOk = true := by kernel_rfl
theorem boot_size (P : Params) : decide (5 < (boot_heap P).objs.size) = true := by kernel_rfl
theorem boot_statKeys (P : Params) : (boot_heap P).nsKeys cStatics = [] := by kernel_rfl
end Mine
set_option Elab.async false
set_option maxRecDepth 4000
namespace Mine
open PySem PySem.Calls PyProof.Rows PySem.W PySem.Spec

theorem opened {p : Program} (e : opening p = plainProg p.main.scope.names) (f : ∀ s, fenceModules? p s = some s) (w : World) :
    ∃ s, AfterRun (opening p) w s ∧ (∀ s', AfterRun (opening p) w s' → s' = s) ∧ s.heap = boot_heap w.params ∧ s.gens = #[] ∧ 0 < s.toks ∧ s.asleep := by
  have h := boot_open (N := 600) e (by decide) f w
  rw [← table_eq_tree] at h
  obtain ⟨s₀, h2, h3⟩ := Option.map_eq_some_iff.mp h
  obtain ⟨s, h4, h5⟩ := Option.bind_eq_some_iff.mp h2
  have A := AfterImport.of_importEnds h4
  rw [f s] at h5
  cases h5
  refine ⟨_, A, fun s' hs' => AfterImport.unique hs' A, congrArg Prod.fst h3, congrArg (fun x => x.2.1) h3, ?_, A.life⟩
  have ht : s₀.toks = boot_toks := congrArg (fun x => x.2.2.2) h3
  rw [ht]
  decide

theorem Ns.stat {h h' : Heap} {m : Str → Option Value} (hn : h.Ns cStatics m) (k : ∀ o, h.get? cStatics = some o → h'.get? cStatics = some o) (key : Str) : staticOf h' key = staticOf h key := by
  obtain ⟨o, es, ep, e, _⟩ := hn
  unfold staticOf
  rw [e, k _ e]

theorem top_ran {p : Program} {w : World} {s : Shared} {Lt : List TSt} (hbody : behindTheImports p = Lt.map (·.st)) (hann : hasAnns (behindTheImports p) = false) (hdoc : docOf (behindTheImports p) = none)
    (hs : ∀ c Pl F, ∀ t ∈ Lt, StepOk p w c Pl F ((boot_heap w.params).nsMap builtinsNs) t) (hst : ∀ t ∈ Lt, Stable t) (hnm : ∀ t ∈ Lt, t.name ≠ "set" ∧ t.name ≠ "list" ∧ t.name ≠ "range") (hnl : ∀ t ∈ Lt, t.name ∉ laidNames) (hbn : ∀ t ∈ Lt, t.name ∈ p.boundNames)
    (hpw : Lt.Pairwise fun t t' => t.name ≠ t'.name ∨ ∀ Pl h v, t.pred Pl h v) (hps : Lt.Pairwise fun t t' => t.at? = none ∨ t.at? ≠ t'.at?) (hmods : importedModules p.main.body = [])
    (hh : s.heap = boot_heap w.params) (hgens : s.gens = #[]) (htk : 0 < s.toks) (hz : s.asleep) :
    ∃ s₁, TopRan p w s s₁ ∧ s₁.asleep ∧ s₁.gens = #[] ∧ 0 < s₁.toks ∧ TopOut (s.heap.nsMap mainGlobals) s.heap Lt s₁.heap := by
  have g0 : s.heap.isNs mainGlobals = true := hh ▸ boot_mainNs _
  have b0 : s.heap.isNs builtinsNs = true := hh ▸ boot_bltNs _
  have c0 : s.heap.isNs cStatics = true := hh ▸ boot_statNs _
  have keys : ∀ x v, s.heap.nsMap mainGlobals x = some v → x ∈ startupNames := fun x v hv => by
    by_cases hk : x ∈ s.heap.nsKeys mainGlobals
    · rw [hh] at hk
      have := List.all_eq_true.mp (boot_keys w.params) x hk
      simpa only [List.contains_iff_mem] using this
    · rw [Heap.nsMap_none hk] at hv; cases hv
  have nk : ∀ x, x ∉ startupNames → s.heap.nsMap mainGlobals x = none := fun x hx => by
    cases e : s.heap.nsMap mainGlobals x with
    | none => rfl
    | some v => exact absurd (keys x v e) hx
  obtain ⟨bm, ob, q1, q2, q3, q4, q5, q6⟩ := Heap.bmainOk_spec (boot_bm w.params)
  rw [← hh] at q1 q3
  have bmg : bm ≠ mainGlobals := fun z => by
    subst z
    obtain ⟨o, es, ep, x, d, _⟩ := Heap.Ns.of_isNs g0
    rw [q3] at x; cases x
    rw [q6] at d; cases d
  have H := top_wp (p := p) (w := w) (s := s) (mg0 := s.heap.nsMap mainGlobals) (mb := s.heap.nsMap builtinsNs) hbody hann hdoc (by rw [hh]; exact hs) hst hnm hpw hps (.of_isNs g0) (.of_isNs b0) (Option.isSome_iff_exists.mp (hh ▸ boot_sys w.params))
    (hh ▸ of_decide_eq_true (boot_size w.params)) ⟨bm, ob, q1, q2, bmg, q3, q4, q5, q6⟩ (nk _ (by decide)) (nk _ (by decide)) (nk _ (by decide)) hgens htk
  obtain ⟨n, t₁, f, s₁, hr, ht, hl, ⟨hout, hos, htk1⟩, hg1⟩ := top_run (R := fun _ s' => TopOut (s.heap.nsMap mainGlobals) s.heap Lt s'.heap ∧ s'.os = s.os ∧ 0 < s'.toks) hz hgens H
  refine ⟨s₁, ?_, Shared.asleep_of_life hl hz, hg1, htk1, hout⟩
  obtain ⟨mg', c, Pl, l, hm, hc, hP, keep, hall, hoth⟩ := hout
  have st : ∀ key, staticOf s₁.heap key = staticOf s.heap key := Ns.stat (.of_isNs c0) fun o e => keep _ o (by decide) e
  have gl : ∀ x, globalOf s₁.heap x = mg' x := Claim2Try.globalOf_of_ns hm.g
  have gl0 : ∀ x, globalOf s.heap x = s.heap.nsMap mainGlobals x := Pin.globalOf_eq g0
  refine ⟨⟨n, t₁, hr, ht⟩, hl, Shared.rest_eq hos, fun b o e hn => keep b o (fun z => hn (.inl z)) e, ?_, fun key => .inl (st key), Pin.keysAreStrs_of_ns hm.g, ?_, ?_, ?_, ?_, ?_⟩
  · rw [hmods]
    have := Heap.accountedI_of_ok (boot_acc w.params)
    rw [← hh] at this
    intro key v hv
    rw [st] at hv
    simpa only [st] using this key v hv
  · intro name hx
    have e := Heap.of_bltView (boot_bltNs w.params) (boot_view w.params) name hx
    rw [← hh] at e
    rw [Pin.builtinOf_of_ns ((Heap.Ns.of_isNs b0).at fun o e => keep _ o (by decide) e) name, e]
    rfl
  · obtain ⟨bm, o, a1, a2, a3, a4, a5, a6, a7, a8⟩ := hm.bmod
    exact ⟨bm, o, (gl _).trans a1, a5, a6, a7⟩
  · rw [hg1]; intro g hg; simp at hg
  · intro x v hv
    rw [gl] at hv
    by_cases hx : ∃ t ∈ Lt, x = t.name
    · obtain ⟨t, ht, rfl⟩ := hx
      exact .inr (hbn t ht)
    · rw [hoth x fun t ht z => hx ⟨t, ht, z⟩] at hv
      exact .inl (keys x v hv)
  · intro x hx
    rw [gl, gl0]
    exact hoth x fun t ht z => hnl t ht (z ▸ hx)
end Mine
set_option Elab.async false
set_option maxRecDepth 4000
namespace Mine
open PySem PySem.Calls PyProof.Rows PySem.W PySem.Spec

/-- a call of the law, in any later heap -/
def CallOk (p : Program) (w : World) (hT : Heap) (a : Addr) : Prop := ∀ (ns : List Int), ns.length ≤ 63 → ∀ s vs, Old hT s.heap → 0 < s.toks → RdL p w (fun _ => False) s.heap vs [.lst (ns.map .int)] →
  wpAny (model p w) callerA (call (.ref a) vs) (fun v s' => v = .bool true ∧ ∃ h' tk, Old s.heap h' ∧ s' = { s with heap := h', toks := tk }) (fun _ _ => False) s

theorem lay_ints {p : Program} {w : World} {X : Addr → Prop} {h : Heap} {R : WRecords} {cl : Str → Option Addr} {P : Params} {ord : List DictEntry → List DictEntry} : ∀ {ns : List Int} {s : Shared} {r : List Value × Shared}, layAllW R cl P ord (ns.map .int) s = some r →
    RdL p w X h r.1 (ns.map .int) ∧ r.2.heap = s.heap ∧ s.toks ≤ r.2.toks ∧ r.1.length = ns.length := by
  intro ns
  induction ns with
  | nil => intro s r e; simp only [List.map_nil, layAllW, Option.some.injEq] at e; subst e; exact ⟨.nil, rfl, Nat.le_refl _, rfl⟩
  | cons n ns ih =>
    intro s r e
    rw [List.map_cons] at e
    obtain ⟨a, q, ha, hq, rfl⟩ := layAllW_cons e
    simp only [layW, Option.some.injEq] at ha
    subst ha
    obtain ⟨r1, r2, r3, r4⟩ := ih hq
    exact ⟨.cons (.int _ _) r1, r2, Nat.le_trans (Nat.le_succ _) r3, by simp [r4]⟩

theorem lay_list {p : Program} {w : World} {R : WRecords} {cl : Str → Option Addr} {P : Params} {ord : List DictEntry → List DictEntry} {ns : List Int} {s : Shared} {r : List Value × Shared} (hn : ns.length ≤ 63) (e : layAllW R cl P ord [.list (ns.map .int)] s = some r) :
    RdL p w (fun _ => False) r.2.heap r.1 [.lst (ns.map .int)] ∧ s.toks ≤ r.2.toks := by
  obtain ⟨a, q, ha, hq, rfl⟩ := layAllW_cons e
  simp only [layAllW, Option.some.injEq] at hq
  subst hq
  simp only [layW] at ha
  split at ha
  · rename_i r' hr'
    cases ha
    obtain ⟨r1, r2, r3, r4⟩ := lay_ints (p := p) (w := w) (X := fun _ => False) (h := r'.2.heap.push { cls := .type "list", data := .seq r'.1.toArray }) hr'
    refine ⟨.cons (.lst (fun x => x) ⟨?_, 0, Heap.get?_push_size _ rfl⟩ r1) .nil, r3⟩
    have : r'.1.length ≤ 63 := by omega
    exact Nat.le_trans this (by decide)
  · cases ha


theorem pre_ints {l : OpenLaw} (hm : l.most = some 63) (hb : l.bound = none) {args : List WData} (h : l.row.toRowW.claim.pre args = true) : ∃ ns : List Int, args = [.list (ns.map .int)] ∧ ns.length ≤ 63 := by
  obtain ⟨h1, h2⟩ := pre_splitW h
  have h1 : WShape.hasAll [] args [.list .int] = true := h1
  obtain ⟨d, r, rfl, hd, hr⟩ := hasAllW_cons h1
  obtain ⟨xs, rfl, hx⟩ := hasW_list hd
  obtain ⟨ns, rfl⟩ := items_int hx
  have : r = [] := by
    cases r with
    | nil => rfl
    | cons a r => simp [WShape.hasAll] at hr
  subst this
  refine ⟨ns, rfl, ?_⟩
  have h2 : l.pre.holds [] { args := [.list (ns.map .int)] } = true := h2
  unfold OpenLaw.pre at h2
  rw [hm, hb] at h2
  by_cases hl : (63 : Int) < (ns.length : Int)
  · simp [WTm.holds, WTm.value, W.less?, Num.less?, hl] at h2
    try omega
  · omega

theorem post_true {l : OpenLaw} (args ds : List WData) : l.row.toRowW.claim.post args (.bool true) ds = true := by
  show (WShape.has [] (.bool true) .bool && WTm.holds [] (.eq .res (.lit (.bool true))) { args := args, res := some (.bool true), after := ds }) = true
  simp [WTm.holds, WTm.value, WShape.has, WShape.arms, W.same]

theorem law_row {l : OpenLaw} {Lt : World → List TSt} {d : DefRec} (ok : l.wellSaid = true) (hm : l.most = some 63) (hb : l.bound = none) (hwr : l.writes = false) (hw : l.row.toRowW.promised) (bare : l.prog.bare) (ow : opensWell l.prog = true)
    (hop : opening l.prog = plainProg l.prog.main.scope.names) (hf : ∀ s, fenceModules? l.prog s = some s)
    (hbody : ∀ w, behindTheImports l.prog = (Lt w).map (·.st)) (hann : hasAnns (behindTheImports l.prog) = false) (hdoc : docOf (behindTheImports l.prog) = none)
    (hs : ∀ w c Pl F, ∀ t ∈ Lt w, StepOk l.prog w c Pl F ((boot_heap w.params).nsMap builtinsNs) t) (hst : ∀ w, ∀ t ∈ Lt w, Stable t) (hnm : ∀ w, ∀ t ∈ Lt w, t.name ≠ "set" ∧ t.name ≠ "list" ∧ t.name ≠ "range") (hnl : ∀ w, ∀ t ∈ Lt w, t.name ∉ laidNames) (hbn : ∀ w, ∀ t ∈ Lt w, t.name ∈ l.prog.boundNames)
    (hpw : ∀ w, (Lt w).Pairwise fun t t' => t.name ≠ t'.name ∨ ∀ Pl h v, t.pred Pl h v) (hps : ∀ w, (Lt w).Pairwise fun t t' => t.at? = none ∨ t.at? ≠ t'.at?) (hmods : importedModules l.prog.main.body = [])
    (hd : ∀ w, fnT d ∈ Lt w) (hdn : d.name = l.name) (hdp : l.prog.theDef l.name = some (d.params, d.body, d.scope)) (hd0 : d.params.defaults = []) (hd1 : kwWritten? d.params.kwonlyargs d.params.kw_defaults = some [])
    (call : ∀ (w : World) (hT : Heap) a, TopOut ((boot_heap w.params).nsMap mainGlobals) (boot_heap w.params) (Lt w) hT → globalOf hT l.name = some (.ref a) → CallOk l.prog w hT a) : l.Holds := by
  refine holds_law ok fun said => ⟨said, hw, ⟨bare, ow, rfl⟩, hw.witness, fun w => ?_⟩
  obtain ⟨s₀, hA, hU, hh, hg, htk, hz⟩ := opened hop hf w
  refine ⟨⟨s₀, hA⟩, fun s' hs' => ?_⟩
  obtain rfl := hU s' hs'
  obtain ⟨s₁, hT, hz₁, hg₁, htk₁, hout⟩ := top_ran (hbody w) hann hdoc (hs w) (hst w) (hnm w) (hnl w) (hbn w) (hpw w) (hps w) hmods hh hg htk hz
  refine ⟨s', hf s', hg, s₁, hT, ?_, fun x hx => (nomatch hx), fun x hx => (nomatch hx), ?_⟩
  · intro n hn
    have : n = l.name := by
      have : n ∈ [l.name] := hn
      simpa using this
    subst this
    obtain ⟨mg', c, Pl, li, hM, hc, hP, keep, hall, hoth⟩ := hout
    obtain ⟨v, hv, a, o, pm, code, doc, rfl, ho, hd', hcr, l1, l2⟩ := hall _ (hd w)
    exact ⟨a, o, _, d.params, d.body, d.scope, (Claim2Try.globalOf_of_ns hM.g _).trans (hdn ▸ hv), ho, hd', hdp, hdn, hdn, rfl, rfl, rfl, rfl, rfl, rfl, .inl ⟨hd0, rfl⟩, [], hd1, .inl ⟨rfl, rfl⟩⟩
  · rw [hh] at hout
    have hcall := call w s₁.heap
    obtain ⟨a, ha, hgl⟩ : ∃ a, globalOf s₁.heap l.name = some (.ref a) ∧ ∃ mg', s₁.heap.Ns mainGlobals mg' ∧ mg' l.name = some (.ref a) := by
      obtain ⟨mg', c, Pl, li, hM, hc, hP, keep, hall, hoth⟩ := hout
      obtain ⟨v, hv, a, o, pm, code, doc, rfl, ho, hd', hcr, l1, l2⟩ := hall _ (hd w)
      exact ⟨a, (Claim2Try.globalOf_of_ns hM.g _).trans (hdn ▸ hv), mg', hM.g, hdn ▸ hv⟩
    obtain ⟨mg', hns, hmg⟩ := hgl
    have hcall := hcall a hout ha
    refine ClaimW.callFrom_of_specG (c := l.row.toRowW.claim) (tree := fun vs => do match ← nsGet mainNs l.name with
      | some f => do ret (← PySem.call f vs)
      | none => unsupported "claim.caller:no-such-global") hz₁ hg₁ fun args hpre hlay ord hord => ?_
    obtain ⟨ns, rfl, hn⟩ := pre_ints hm hb hpre
    obtain ⟨⟨vs, s₂⟩, hlaid⟩ := Option.isSome_iff_exists.mp (layAllW_isSome (R := []) (cl := classAt s₁.heap) (P := w.params) (ord := ord) (fun c h => by simp [WRecords.fields?] at h) [.list (ns.map .int)] [.list .int] s₁ (pre_splitW hpre).1)
    have keeps := layAllW_keeps _ _ _ hlaid
    have hal := layAllW_rest _ _ _ hlaid
    obtain ⟨as, hrd, hin, hold⟩ := reads_layAllW hord _ _ _ hlaid hlay s₂.heap (fun _ _ e => e)
    have L : Laid [] w s₁ s₂ [.list (ns.map .int)] vs as := ⟨⟨ord, hord, hlaid⟩, hrd, hin, hold, keeps, hal.1.trans hg₁, hal.2.2.1⟩
    obtain ⟨rd, tk⟩ := lay_list (p := l.prog) (w := w) hn hlaid
    refine ⟨vs, s₂, hlaid, wpAny_bind (wpAny_nsGet (hns.keeps keeps) ?_)⟩
    rw [hmg]
    refine wpAny_bind (wpAny_mono (hcall ns hn s₂ vs keeps (Nat.lt_of_lt_of_le htk₁ tk) rd) (fun v s' x => ?_) fun _ _ x => x.elim)
    obtain ⟨rfl, h', tk', old, rfl⟩ := x
    refine wpAny_pure ⟨_, rfl, ?_⟩
    have g : GoodWG l.row.toRowW.claim (classAt s₁.heap) (ExcName.means s₁.heap) [.list (ns.map .int)] s₂ (.ok (.ret (.bool true))) { s₂ with heap := h', toks := tk' } :=
      ⟨.inl ⟨.bool true, .bool true, [], rfl, fun _ => rfl, .bool true, post_true _ _, fun _ => ⟨.nil, fun _ h => (nomatch h)⟩⟩, .of_keep old, rfl, by rw [show ({ s₂ with heap := h', toks := tk' } : Shared).gens = #[] from hal.1.trans hg₁]; exact .of_eq rfl⟩
    have z := g.laid (c := l.row.toRowW.claim) rfl rfl (ident_freeW rfl rfl rfl) L
    exact ⟨z.1, z.2.1, z.2.2, fun q => by rw [show l.row.writes = l.writes from rfl, hwr] at q; cases q⟩
end Mine
set_option Elab.async false
set_option maxRecDepth 4000
namespace Mine
open PySem PySem.Calls PyProof.Rows PySem.W PySem.Spec

def plainArgs : List Arg → Bool
  | [] => true
  | ⟨_, none, _⟩ :: r => plainArgs r
  | _ => false
theorem ann_nil : ∀ {l : List Arg} {env : Env}, plainArgs l = true → annotationsOf l env = []
  | [], _, _ => by rw [annotationsOf]
  | ⟨n, none, p⟩ :: r, env, h => by
    rw [annotationsOf]
    exact ann_nil (l := r) h
  | ⟨n, some e, p⟩ :: r, env, h => by cases h

theorem plain_tree {name : Str} {as : List Arg} {body : List Stmt} {scope : Scope} {pos : Pos} (h : plainArgs as = true) : PlainDefTree name ⟨[], as, none, [], [], none, []⟩ body scope pos := by
  intro env
  rw [arm_exec_FunctionDef]
  have e : (fun e : Env => annotationsOf (as ++ [] ++ [] ++ [] ++ []) e ++ ((evalOpt none e).map ((("return" : Str), ·))).toList) = fun _ => ([] : List (Str × Sem Value)) := by
    funext e
    rw [show as ++ [] ++ [] ++ [] ++ [] = as by simp, ann_nil h]
    rfl
  show defStmt name name _ body scope pos env [] none (evalEach [] env) _ _ (fun e : Env => annotationsOf (as ++ [] ++ [] ++ [] ++ []) e ++ ((evalOpt none e).map ((("return" : Str), ·))).toList) _ = _
  rw [e]
  rfl

section
variable (prog : Program) (w : World)
def dicP (lp : List (Int × Str)) (Pl : Addr) (h : Heap) (v : Value) : Prop := ∃ d kvs, v = .ref d ∧ h.DictOf (intKind prog w) d kvs ∧ KVs kvs lp ∧ d ≠ Pl ∧ d ≠ mainGlobals ∧ (d == sysModules) = false
def setP (l : List Int) (Pl : Addr) (h : Heap) (v : Value) : Prop := ∃ d n, v = .ref d ∧ h.SetOf (intKind prog w) d (fun k => decide (k ∈ l)) n ∧ d ≠ Pl ∧ d ≠ mainGlobals
def topPred : Stmt → Addr → Heap → Value → Prop
  | .FunctionDef name params body _ _ _ scope _ _ pos => fnP ⟨name, params, body, scope, pos⟩
  | .Assign _ (.Dict ks vs _) _ => match constPairs ks vs with
    | some lp => dicP prog w lp
    | none => fun _ _ _ => True
  | .Assign _ (.Call _ [.BinOp (.List es _) _ (.Call _ [.Call _ [.Constant (.int a) _ _, .Constant (.int b) _ _] _ _] _ _) _] _ _) _ => match constInts es with
    | some ns => setP prog w (ns ++ (List.range (b - a).toNat).map fun i : Nat => a + i)
    | none => fun _ _ _ => True
  | _ => fun _ _ _ => True
end
def topName : Stmt → Str
  | .FunctionDef name _ _ _ _ _ _ _ _ _ => name
  | .Assign (.Name x _ :: _) _ _ => x
  | _ => ""
def topAt : Stmt → Option (Nat × Nat)
  | .FunctionDef _ _ _ _ _ _ _ _ _ pos => some (pos.line, pos.col)
  | _ => none
def topTriv : Stmt → Bool
  | .Assign _ (.Constant _ _ _) _ => true
  | _ => false
def tst (prog : Program) (w : World) (st : Stmt) : TSt := ⟨st, topName st, topAt st, topPred prog w st⟩

/-- a strictly rising list bears each key once -/
def rising : List Int → Bool
  | a :: b :: r => decide (a < b) && rising (b :: r)
  | _ => true
theorem rising_lt : ∀ {l : List Int} {a : Int}, rising (a :: l) = true → ∀ b ∈ l, a < b
  | b :: r, a, h, c, hc => by
    simp only [rising, Bool.and_eq_true, decide_eq_true_eq] at h
    rcases List.mem_cons.mp hc with rfl | hc
    · exact h.1
    · exact Int.lt_trans h.1 (rising_lt h.2 c hc)
theorem rising_tail : ∀ {l : List Int} {a : Int}, rising (a :: l) = true → rising l = true
  | [], _, _ => rfl
  | b :: r, a, h => by
    simp only [rising, Bool.and_eq_true] at h
    exact h.2
theorem rising_nodup : ∀ {l : List Int}, rising l = true → l.Nodup
  | [], _ => .nil
  | a :: l, h => List.nodup_cons.mpr ⟨fun m => Int.lt_irrefl _ (rising_lt h a m), rising_nodup (rising_tail h)⟩

def bindOkB (prog : Program) (x : Str) : Bool := prog.main.scope.names.lookup x == some .local && x != "__builtins__"
def topOkB (prog : Program) : Stmt → Bool
  | .FunctionDef name ⟨[], as, none, [], [], none, []⟩ _ [] none [] scope none q _ => q == name && plainArgs as && scope.names.all (fun x => x.2 != .free) && bindOkB prog name && (qualnameIn { scope := prog.main.scope, locals := mainGlobals, globals := mainGlobals, cells := [] } name name == name)
  | .Assign [.Name x _] (.Constant (.str _) _ _) _ => bindOkB prog x
  | .Assign [.Name x _] (.Dict ks vs _) _ => bindOkB prog x && match constPairs ks vs with
    | some lp => !lp.isEmpty && rising (lp.map Prod.fst) && decide (lp.length ≤ sizeLine)
    | none => false
  | .Assign [.Name x _] (.Call (.Name s _) [.BinOp (.List es _) .Add (.Call (.Name l _) [.Call (.Name r _) [.Constant (.int a) _ _, .Constant (.int b) _ _] [] _] [] _) _] [] _) _ => bindOkB prog x && s == "set" && l == "list" && r == "range" && match constInts es with
    | some ns => decide (0 ≤ a) && decide (a ≤ b) && decide (b ≤ 100000) && decide (b - a ≤ 100) && decide (ns.length ≤ 100)
    | none => false
  | _ => false

section
variable {prog : Program} {w : World} {c Pl F : Addr} {mb : Str → Option Value}
theorem bind_ok {x : Str} (h : bindOkB prog x = true) : prog.main.scope.names.lookup x = some .local ∧ x ≠ "__builtins__" := by
  unfold bindOkB at h
  simpa using h

theorem topPred_dict {ts : List Expr} {ks : List (Option Expr)} {vs : List Expr} {dp pos : Pos} {lp : List (Int × Str)} (h : constPairs ks vs = some lp) : (tst prog w (.Assign ts (.Dict ks vs dp) pos)).pred = dicP prog w lp := by
  show (match constPairs ks vs with
    | some lp => dicP prog w lp
    | none => fun _ _ _ => True) = _
  rw [h]
theorem topPred_set {ts : List Expr} {f g h : Expr} {es : List Expr} {op : Operator} {a b : Int} {n1 n2 : Nat} {p1 p2 p3 p4 p5 p6 p7 p8 : Pos} {k1 k2 k3 : List Keyword} {ns : List Int} (hn : constInts es = some ns) :
    (tst prog w (.Assign ts (.Call f [.BinOp (.List es p1) op (.Call g [.Call h [.Constant (.int a) n1 p2, .Constant (.int b) n2 p3] k1 p4] k2 p5) p6] k3 p7) p8)).pred = setP prog w (ns ++ (List.range (b - a).toNat).map fun i : Nat => a + i) := by
  show (match constInts es with
    | some ns => setP prog w (ns ++ (List.range (b - a).toNat).map fun i : Nat => a + i)
    | none => fun _ _ _ => True) = _
  rw [hn]
theorem pred_tst {st : Stmt} : (tst prog w st).pred = topPred prog w st := rfl
theorem top_step (hmod : prog.main.scope.kind = .module) (e2 : mb "set" = some (.type "set")) (e4 : mb "list" = some (.type "list")) (e6 : mb "range" = some (.type "range")) {st : Stmt} (h : topOkB prog st = true) : StepOk prog w c Pl F mb (tst prog w st) := by
  unfold topOkB at h
  split at h
  · rename_i name as body scope q pos
    simp only [Bool.and_eq_true] at h
    obtain ⟨⟨⟨⟨h1, h2⟩, h3⟩, h4⟩, h5⟩ := h
    obtain rfl : q = name := eq_of_beq h1
    exact fn_step (d := ⟨q, _, body, scope, pos⟩) ⟨plain_tree h2, fun x hx => by have := List.all_eq_true.mp h3 x hx; simpa using this, (bind_ok h4).1, eq_of_beq h5, (bind_ok h4).2⟩ hmod
  · rename_i x p v k p2 pos
    intro A s mg l Q E hh hm _ _ _ _ _ _ q
    exact step_name hmod (bind_ok h).1 (bind_ok h).2 hm fun h' tk t hm' hk => q h' tk _ l hm' hk trivial fun _ h => .inl h
  · rename_i x p ks vs dp pos
    simp only [Bool.and_eq_true] at h
    obtain ⟨h1, h2⟩ := h
    split at h2
    · rename_i lp hlp
      simp only [Bool.and_eq_true, decide_eq_true_eq, Bool.not_eq_true', List.isEmpty_eq_false_iff] at h2
      obtain ⟨⟨a1, a2⟩, a3⟩ := h2
      intro A s mg l Q E hh hm hsys _ _ _ _ _ q
      refine step_dict hmod (bind_ok h1).1 (bind_ok h1).2 hm hsys hlp a1 (rising_nodup a2) a3 fun h' tk d kvs hm' hk hd kv n1 n2 n3 => q h' tk _ l hm' hk ?_ fun _ h => .inl h
      rw [topPred_dict hlp]
      refine ⟨d, kvs, rfl, hd, kv, n1, n2, ?_⟩
      rw [beq_eq_false_iff_ne]
      rintro rfl
      obtain ⟨o, e⟩ := hsys
      rw [n3] at e; cases e
    · cases h2
  · rename_i x p s p1 es p2 l p3 r p4 a n1 p5 b n2 p6 p7 p8 p9 pc pos
    simp only [Bool.and_eq_true] at h
    obtain ⟨⟨⟨⟨h1, h2⟩, h3⟩, h4⟩, h5⟩ := h
    obtain rfl : s = "set" := eq_of_beq h2
    obtain rfl : l = "list" := eq_of_beq h3
    obtain rfl : r = "range" := eq_of_beq h4
    split at h5
    · rename_i ns hns
      simp only [Bool.and_eq_true, decide_eq_true_eq] at h5
      obtain ⟨⟨⟨⟨a1, a2⟩, a3⟩, a4⟩, a5⟩ := h5
      intro A s mg l Q E hh hm hsys hb m1 m2 m3 _ q
      refine step_set hh hmod (bind_ok h1).1 (bind_ok h1).2 hm hb m1 e2 m2 e4 m3 e6 hns a1 a2 a3 a4 a5 fun h' tk d n hm' hk hd n1 n2 n3 => q h' tk _ l hm' hk ?_ fun _ h => .inl h
      rw [topPred_set hns]
      exact ⟨d, n, rfl, hd, n1, n2⟩
    · cases h5
  · cases h
theorem top_stable {st : Stmt} : Stable (tst prog w st) := by
  intro Pl h h' v hP hp hk
  revert hp
  show topPred prog w st Pl h v → topPred prog w st Pl h' v
  unfold topPred
  split
  · rename_i name params body _ _ _ scope _ _ pos
    exact fun hp => fn_stable ⟨name, params, body, scope, pos⟩ Pl h h' v hP hp hk
  · generalize constPairs _ _ = o
    cases o with
    | some lp =>
      rintro ⟨d, kvs, rfl, a, b, c, e, f⟩
      exact ⟨d, kvs, rfl, dict_at a fun o x => hk _ o c e x, b, c, e, f⟩
    | none => exact fun _ => trivial
  · generalize constInts _ = o
    cases o with
    | some ns =>
      rintro ⟨d, n, rfl, a, b, c⟩
      exact ⟨d, n, rfl, set_at a fun o x => hk _ o b c x, b, c⟩
    | none => exact fun _ => trivial
  · exact fun _ => trivial
theorem top_triv {st : Stmt} (h : topTriv st = true) (Pl : Addr) (hp : Heap) (v : Value) : topPred prog w st Pl hp v := by
  unfold topTriv at h
  split at h
  · exact trivial
  · cases h
end
end Mine
set_option Elab.async false
set_option maxRecDepth 4000
namespace Mine
open PySem PySem.Calls PyProof.Rows PySem.W PySem.Spec

def recOf : Stmt → Option DefRec
  | .FunctionDef name params body [] none [] scope none q pos => if q = name then some ⟨name, params, body, scope, pos⟩ else none
  | _ => none
def dictOf? : Stmt → Option (List (Int × Str))
  | .Assign _ (.Dict ks vs _) _ => constPairs ks vs
  | _ => none
def setOf? : Stmt → Option (List Int)
  | .Assign _ (.Call _ [.BinOp (.List es _) _ (.Call _ [.Call _ [.Constant (.int a) _ _, .Constant (.int b) _ _] _ _] _ _) _] _ _) _ => (constInts es).map fun ns => ns ++ (List.range (b - a).toNat).map fun i : Nat => a + i
  | _ => none

section
variable {prog : Program} {w : World}
theorem recOf_tst {st : Stmt} {d : DefRec} (h : recOf st = some d) : tst prog w st = fnT d ∧ st = d.stmt := by
  unfold recOf at h
  split at h
  · split at h
    · rename_i hq
      subst hq
      cases h
      exact ⟨rfl, rfl⟩
    · cases h
  · cases h
theorem dictOf_tst {st : Stmt} {lp : List (Int × Str)} (h : dictOf? st = some lp) : (tst prog w st).pred = dicP prog w lp := by
  unfold dictOf? at h
  split at h
  · exact topPred_dict h
  · cases h
theorem setOf_tst {st : Stmt} {l : List Int} (h : setOf? st = some l) : (tst prog w st).pred = setP prog w l := by
  unfold setOf? at h
  split at h
  · obtain ⟨ns, e, rfl⟩ := Option.map_eq_some_iff.mp h
    exact topPred_set e
  · cases h
end

/-- the names of the built-ins that are read -/
def bltD : Str → Option Value := fun x => if x = "range" then some (.type "range") else if x = "zip" then some (.type "zip") else if x = "int" then some (.type "int")
  else if x = "len" then some (.builtin "len") else if x = "sum" then some (.builtin "sum") else if x = "abs" then some (.builtin "abs")
  else if x = "min" then some (.builtin "min") else if x = "max" then some (.builtin "max") else if x = "ord" then some (.builtin "ord") else if x = "chr" then some (.builtin "chr") else none
theorem bltD_in {x : Str} {v : Value} (h : bltD x = some v) : x ∈ (["range", "zip", "int", "len", "sum", "abs", "min", "max", "ord", "chr"] : List Str) := by
  unfold bltD at h
  repeat' split at h
  all_goals first | (subst_vars; simp; done) | (cases h)
def bltNames : List Str := ["range", "zip", "int", "len", "sum", "abs", "min", "max", "ord", "chr"]
theorem boot_blt (P : Params) : bltNames.all (fun x => match (boot_heap P).nsMap builtinsNs x, bltD x with
  | some (.builtin a), some (.builtin b) => a == b
  | some (.type a), some (.type b) => a == b
  | _, _ => false) = true := by kernel_rfl
theorem boot_blt_eq (P : Params) {x : Str} {v : Value} (h : bltD x = some v) : (boot_heap P).nsMap builtinsNs x = some v := by
  have := List.all_eq_true.mp (boot_blt P) x (bltD_in h)
  rw [h] at this
  split at this
  · rename_i a b e1 e2
    rw [e1]; cases e2; rw [eq_of_beq this]
  · rename_i a b e1 e2
    rw [e1]; cases e2; rw [eq_of_beq this]
  · cases this

theorem boot_blt_set (P : Params) : (boot_heap P).nsMap builtinsNs "set" = some (.type "set") := by kernel_rfl
theorem boot_blt_list (P : Params) : (boot_heap P).nsMap builtinsNs "list" = some (.type "list") := by kernel_rfl
theorem boot_blt_more (P : Params) : (boot_heap P).nsMap builtinsNs "set" = some (.type "set") ∧ (boot_heap P).nsMap builtinsNs "list" = some (.type "list") := ⟨boot_blt_set P, boot_blt_list P⟩

/-- the globals, as plain data -/
def gOf (ad : Str → Addr) (b1 : List Int) (b3 : List (Int × Str)) (names : List Str) : Rho := fun x =>
  if x = "b1_set" then some (.iset b1) else if x = "b3_exceptions" then some (.dci (b3.map fun p => (p.1, .str p.2)))
  else if names.contains x then some (.val (.ref (ad x))) else (bltD x).map .val
def fnNamesOf (d : DefRec) : List Str := d.params.args.map (·.arg)
def phiL (G : Rho) (ad : Str → Addr) (own : Str → Str → Bool) (N : Nat) : List DefRec → Addr → List D → Option D
  | [] => fun _ _ => none
  | d :: ds => addFn (ad d.name) (fnD' G (phiL G ad own N ds) N N (own d.name) (fnNamesOf d) d.body d.scope) (phiL G ad own N ds)

theorem phiL_ok {prog : Program} {w : World} {hT : Heap} {G : Rho} {ad : Str → Addr} {own : Str → Str → Bool} {N : Nat} (hT' : TOk hT) (hG : GOk prog w hT G) : ∀ {ds : List DefRec}, (∀ d ∈ ds, FnAt hT (ad d.name) (fnNamesOf d) d.body d.scope ∧ fnOkB (fnNamesOf d) d.scope = true) → FnOk prog w hT ds.length (phiL G ad own N ds)
  | [], _ => .nil
  | d :: ds, h => by
    have := phiL_ok (own := own) (N := N) hT' hG (ds := ds) fun e he => h e (List.mem_cons_of_mem _ he)
    exact .add hT' hG this (h d (List.mem_cons_self ..)).1 (h d (List.mem_cons_self ..)).2 N N (own d.name)

theorem KVs.rd {prog : Program} {w : World} {X : Addr → Prop} {h : Heap} : ∀ {kvs : List (Int × Value)} {lp : List (Int × Str)}, KVs kvs lp → (lp.map fun p => (p.1, D.str p.2)).map Prod.fst = kvs.map Prod.fst ∧ RdL prog w X h (kvs.map Prod.snd) ((lp.map fun p => (p.1, D.str p.2)).map Prod.snd) ∧ kvs.length = lp.length := by
  intro kvs lp k
  induction k with
  | nil => exact ⟨rfl, .nil, rfl⟩
  | cons _ ih => exact ⟨by simp [ih.1], .cons (.str _ _) ih.2.1, by simp [ih.2.2]⟩
end Mine
set_option Elab.async false
set_option maxRecDepth 4000
namespace Mine
open PySem PySem.Calls PyProof.Rows PySem.W PySem.Spec

def pairB : List Stmt → Bool
  | [] => true
  | st :: r => r.all (fun st' => (topName st != topName st' || topTriv st) && ((topAt st).isNone || topAt st != topAt st')) && pairB r
theorem pair_of {prog : Program} {w : World} : ∀ {l : List Stmt}, pairB l = true → (l.map (tst prog w)).Pairwise (fun t t' => t.name ≠ t'.name ∨ ∀ Pl h v, t.pred Pl h v) ∧ (l.map (tst prog w)).Pairwise (fun t t' => t.at? = none ∨ t.at? ≠ t'.at?)
  | [], _ => ⟨.nil, .nil⟩
  | st :: r, h => by
    simp only [pairB, Bool.and_eq_true, List.all_eq_true, Bool.or_eq_true, bne_iff_ne, Option.isNone_iff_eq_none] at h
    obtain ⟨h1, h2⟩ := h
    have ih := pair_of (prog := prog) (w := w) h2
    refine ⟨List.pairwise_cons.mpr ⟨fun t' ht' => ?_, ih.1⟩, List.pairwise_cons.mpr ⟨fun t' ht' => ?_, ih.2⟩⟩
    · obtain ⟨st', hst', rfl⟩ := List.mem_map.mp ht'
      rcases (h1 st' hst').1 with h | h
      · exact .inl h
      · exact .inr fun Pl hp v => top_triv h Pl hp v
    · obtain ⟨st', hst', rfl⟩ := List.mem_map.mp ht'
      exact (h1 st' hst').2

def lawOkB (p : Program) : Bool :=
  p.main.scope.kind == .module && (behindTheImports p).all (topOkB p) && pairB (behindTheImports p) &&
  (behindTheImports p).all (fun st => !(["set", "list", "range"] : List Str).contains (topName st) && !laidNames.contains (topName st) && p.boundNames.contains (topName st)) &&
  bltNames.all (fun x => !startupNames.contains x && (behindTheImports p).all fun st => topName st != x)
def recOkB (d : DefRec) : Bool := d.params.posonlyargs.isEmpty && d.params.kwonlyargs.isEmpty && d.params.vararg.isNone && d.params.kwarg.isNone && d.params.defaults.isEmpty && d.params.kw_defaults.isEmpty && fnOkB (fnNamesOf d) d.scope

section
variable {p : Program} {w : World} {hT : Heap} {d : DefRec} {ds : List DefRec} {b1 : List Int} {b3 : List (Int × Str)}
abbrev Out (p : Program) (w : World) (hT : Heap) : Prop := TopOut ((boot_heap w.params).nsMap mainGlobals) (boot_heap w.params) ((behindTheImports p).map (tst p w)) hT

theorem Out.tok (h : Out p w hT) : TOk hT := by
  obtain ⟨mg', c, Pl, l, hM, hc, hP, keep, hall, hoth⟩ := h
  have hst : hT.Ns cStatics ((boot_heap w.params).nsMap cStatics) := (Heap.Ns.of_isNs (boot_statNs w.params)).at fun o e => keep _ o (by decide) e
  have no : ∀ k, (boot_heap w.params).nsMap cStatics k = none := fun k => Heap.nsMap_none (by rw [boot_statKeys]; simp)
  exact ⟨⟨_, hst, no _⟩, (by obtain ⟨o, e⟩ := Option.isSome_iff_exists.mp (boot_sys w.params); exact ⟨o, keep _ o (by decide) e⟩), ⟨_, hst, no _⟩⟩

theorem Out.glob (h : Out p w hT) {st : Stmt} (hs : st ∈ behindTheImports p) : ∃ v mg' Pl, hT.Ns mainGlobals mg' ∧ mg' (topName st) = some v ∧ (tst p w st).pred Pl hT v ∧ mainGlobals < Pl := by
  obtain ⟨mg', c, Pl, l, hM, hc, hP, keep, hall, hoth⟩ := h
  obtain ⟨v, hv, hp⟩ := hall _ (List.mem_map_of_mem hs)
  exact ⟨v, mg', Pl, hM.g, hv, hp, hM.low.2⟩
theorem Out.blt (h : Out p w hT) (ok : lawOkB p = true) {x : Str} {v : Value} (hx : bltD x = some v) : GlobAt hT x v := by
  obtain ⟨mg', c, Pl, l, hM, hc, hP, keep, hall, hoth⟩ := h
  simp only [lawOkB, Bool.and_eq_true, List.all_eq_true] at ok
  have := ok.2 x (bltD_in hx)
  simp only [Bool.not_eq_true', bne_iff_ne, ne_eq] at this
  refine ⟨mg', hM.g, .inr ⟨?_, _, (Heap.Ns.of_isNs (boot_bltNs w.params)).at fun o e => keep _ o (by decide) e, boot_blt_eq _ hx⟩⟩
  rw [hoth x fun t ht z => ?_]
  · refine Heap.nsMap_none fun hk => ?_
    have h2 := List.all_eq_true.mp (boot_keys w.params) x hk
    rw [this.1] at h2; cases h2
  · obtain ⟨st, hst, rfl⟩ := List.mem_map.mp ht
    exact this.2 st hst z.symm

def adOf (h : Heap) (x : Str) : Addr := match globalOf h x with
  | some (.ref a) => a
  | _ => 0
theorem Out.fn (h : Out p w hT) (hd : d.stmt ∈ behindTheImports p) (hr : recOf d.stmt = some d) : ∃ o pm code doc, globalOf hT d.name = some (.ref (adOf hT d.name)) ∧ GlobAt hT d.name (.ref (adOf hT d.name)) ∧ hT.get? (adOf hT d.name) = some o ∧ o.data = .func (d.data pm (.ref code) doc) ∧ hT.CodeRec (.ref code) d.name := by
  obtain ⟨v, mg', Pl, hn, hv, hp, _⟩ := h.glob hd
  rw [(recOf_tst hr).1] at hp
  obtain ⟨a, o, pm, code, doc, rfl, ho, hdt, hc, _, _⟩ := hp
  have hv : mg' d.name = some (.ref a) := hv
  have e : globalOf hT d.name = some (.ref a) := (Claim2Try.globalOf_of_ns hn _).trans hv
  have e2 : adOf hT d.name = a := by unfold adOf; rw [e]
  rw [e2]
  exact ⟨o, pm, code, doc, e, ⟨mg', hn, .inl hv⟩, ho, hdt, hc⟩
theorem Out.fnAt (h : Out p w hT) (hd : d.stmt ∈ behindTheImports p) (hr : recOf d.stmt = some d) (hk : recOkB d = true) : FnAt hT (adOf hT d.name) (fnNamesOf d) d.body d.scope := by
  obtain ⟨o, pm, code, doc, _, _, ho, hdt, hc⟩ := h.fn hd hr
  simp only [recOkB, Bool.and_eq_true, List.isEmpty_iff, Option.isNone_iff_eq_none] at hk
  obtain ⟨⟨⟨⟨⟨⟨k1, k2⟩, k3⟩, k4⟩, k5⟩, k6⟩, k7⟩ := hk
  exact ⟨o, _, ho, hdt, rfl, rfl, rfl, rfl, rfl, rfl, hc, k1, k2, k3, k4, rfl⟩
theorem Out.inj (h : Out p w hT) {e : DefRec} (hd : d.stmt ∈ behindTheImports p) (hr : recOf d.stmt = some d) (he : e.stmt ∈ behindTheImports p) (hr' : recOf e.stmt = some e) (x : adOf hT d.name = adOf hT e.name) : d.name = e.name := by
  obtain ⟨o, pm, code, doc, _, _, ho, hdt, hc⟩ := h.fn hd hr
  obtain ⟨o', pm', code', doc', _, _, ho', hdt', hc'⟩ := h.fn he hr'
  rw [x, ho'] at ho
  cases ho
  rw [hdt'] at hdt
  exact (congrArg FuncData.name (Data.func.inj hdt)).symm
end
end Mine
set_option Elab.async false
set_option maxRecDepth 4000
namespace Mine
open PySem PySem.Calls PyProof.Rows PySem.W PySem.Spec

section
variable {p : Program} {w : World} {hT : Heap} {d : DefRec} {ds : List DefRec} {b1 : List Int} {b3 : List (Int × Str)}

theorem Out.gok (h : Out p w hT) (ok : lawOkB p = true) (hds : ∀ e ∈ ds, e.stmt ∈ behindTheImports p ∧ recOf e.stmt = some e) (h1 : ∃ st ∈ behindTheImports p, topName st = "b1_set" ∧ setOf? st = some b1) (h3 : ∃ st ∈ behindTheImports p, topName st = "b3_exceptions" ∧ dictOf? st = some b3) (hl : b3.length ≤ sizeLine) :
    GOk p w hT (gOf (adOf hT) b1 b3 (ds.map (·.name))) := by
  intro x d hx
  unfold gOf at hx
  have gone : ∀ {a : Addr}, (∃ o, hT.get? a = some o) → ¬ (fun a => hT.get? a = none) a := fun ⟨o, e⟩ z => by have z : hT.get? _ = none := z; rw [e] at z; cases z
  split at hx
  · rename_i hxx; subst hxx
    cases hx
    obtain ⟨st, hst, hn, hs⟩ := h1
    obtain ⟨v, mg', Pl, hns, hv, hp, _⟩ := h.glob hst
    rw [setOf_tst hs] at hp
    obtain ⟨a, n, rfl, hd, _, _⟩ := hp
    exact ⟨.ref a, ⟨mg', hns, .inl (hn ▸ hv)⟩, .iset (gone (set_live hd)) hd⟩
  · split at hx
    · rename_i hxx; subst hxx
      cases hx
      obtain ⟨st, hst, hn, hs⟩ := h3
      obtain ⟨v, mg', Pl, hns, hv, hp, _⟩ := h.glob hst
      rw [dictOf_tst hs] at hp
      obtain ⟨a, kvs, rfl, hd, kv, _, _, hsys⟩ := hp
      obtain ⟨k1, k2, k3⟩ := KVs.rd (prog := p) (w := w) (X := fun a => hT.get? a = none) (h := hT) kv
      exact ⟨.ref a, ⟨mg', hns, .inl (hn ▸ hv)⟩, .dci (gone (dict_live hd)) hsys (by omega) hd k1 k2⟩
    · split at hx
      · rename_i hxx
        cases hx
        obtain ⟨e, he, rfl⟩ := List.mem_map.mp (List.contains_iff_mem.mp hxx)
        obtain ⟨o, pm, code, doc, _, hg, _⟩ := h.fn (hds e he).1 (hds e he).2
        exact ⟨_, hg, .val _⟩
      · obtain ⟨v, hv, rfl⟩ := Option.map_eq_some_iff.mp hx
        exact ⟨v, h.blt ok hv, .val v⟩

/-- the whole statement, from the plain law -/
theorem law_final {l : OpenLaw} {own : Str → Str → Bool} {N : Nat} (said : l.wellSaid = true) (hm : l.most = some 63) (hb : l.bound = none) (hwr : l.writes = false) (hw : l.row.toRowW.promised) (bare : l.prog.bare) (ow : opensWell l.prog = true)
    (hop : opening l.prog = plainProg l.prog.main.scope.names) (hf : ∀ s, fenceModules? l.prog s = some s) (hann : hasAnns (behindTheImports l.prog) = false) (hdoc : docOf (behindTheImports l.prog) = none) (hmods : importedModules l.prog.main.body = [])
    (ok : lawOkB l.prog = true) (hds : ∀ e ∈ d :: ds, (e.stmt ∈ behindTheImports l.prog ∧ recOf e.stmt = some e) ∧ recOkB e = true) (hlen : ds.length ≤ 40)
    (hdn : d.name = l.name) (hdp : l.prog.theDef l.name = some (d.params, d.body, d.scope))
    (h1 : ∃ st ∈ behindTheImports l.prog, topName st = "b1_set" ∧ setOf? st = some b1) (h3 : ∃ st ∈ behindTheImports l.prog, topName st = "b3_exceptions" ∧ dictOf? st = some b3) (hl : b3.length ≤ sizeLine)
    (plain : ∀ ad : Str → Addr, (∀ x ∈ ds.map (·.name), ∀ y ∈ ds.map (·.name), ad x = ad y → x = y) → ∀ ns : List Int, ns.length ≤ 63 →
      fnD' (gOf ad b1 b3 (ds.map (·.name))) (phiL (gOf ad b1 b3 (ds.map (·.name))) ad own N ds) N N (own d.name) (fnNamesOf d) d.body d.scope [.lst (ns.map .int)] = some (.bool true)) : l.Holds := by
  have ok' := ok
  simp only [lawOkB, Bool.and_eq_true, List.all_eq_true] at ok'
  obtain ⟨⟨⟨⟨hmod, hall⟩, hpair⟩, hnames⟩, hblt⟩ := ok'
  have hmod : l.prog.main.scope.kind = .module := eq_of_beq hmod
  have hdm := hds d (List.mem_cons_self ..)
  have hdk := hdm.2
  simp only [recOkB, Bool.and_eq_true, List.isEmpty_iff, Option.isNone_iff_eq_none] at hdk
  obtain ⟨⟨⟨⟨⟨⟨k1, k2⟩, k3⟩, k4⟩, k5⟩, k6⟩, k7⟩ := hdk
  refine law_row (Lt := fun w => (behindTheImports l.prog).map (tst l.prog w)) (d := d) said hm hb hwr hw bare ow hop hf (fun w => ?_) hann hdoc (fun w c Pl F t ht => ?_) (fun w t ht => ?_) (fun w t ht => ?_) (fun w t ht => ?_) (fun w t ht => ?_)
    (fun w => (pair_of hpair).1) (fun w => (pair_of hpair).2) hmods (fun w => ?_) hdn hdp k5 (by rw [k2, k6]; rfl) fun w hT a hout hgl => ?_
  · rw [List.map_map]
    exact (List.map_id _).symm
  · obtain ⟨st, hst, rfl⟩ := List.mem_map.mp ht
    exact top_step hmod (boot_blt_more w.params).1 (boot_blt_more w.params).2 (boot_blt_eq _ (by rfl)) (hall st hst)
  · obtain ⟨st, hst, rfl⟩ := List.mem_map.mp ht
    exact top_stable
  · obtain ⟨st, hst, rfl⟩ := List.mem_map.mp ht
    have := (hnames st hst).1.1
    show topName st ≠ "set" ∧ topName st ≠ "list" ∧ topName st ≠ "range"
    simpa using this
  · obtain ⟨st, hst, rfl⟩ := List.mem_map.mp ht
    have := (hnames st hst).1.2
    rw [Bool.not_eq_true', ← Bool.not_eq_true, List.contains_iff_mem] at this
    exact this
  · obtain ⟨st, hst, rfl⟩ := List.mem_map.mp ht
    have := (hnames st hst).2
    rw [List.contains_iff_mem] at this
    exact this
  · rw [← (recOf_tst (prog := l.prog) (w := w) hdm.1.2).1]
    exact List.mem_map_of_mem hdm.1.1
  · have hout : Out l.prog w hT := hout
    have hG := hout.gok ok (ds := ds) (b1 := b1) (b3 := b3) (fun e he => (hds e (List.mem_cons_of_mem _ he)).1) h1 h3 hl
    have hΦ := phiL_ok (own := own) (N := N) hout.tok hG (ds := ds) fun e he => have x := hds e (List.mem_cons_of_mem _ he); ⟨hout.fnAt x.1.1 x.1.2 x.2, by
      have := x.2
      simp only [recOkB, Bool.and_eq_true] at this
      exact this.2⟩
    have hfn := hout.fnAt hdm.1.1 hdm.1.2 hdm.2
    have ha : adOf hT d.name = a := by unfold adOf; rw [hdn, hgl]
    rw [ha] at hfn
    intro ns hn s vs old h0 rd
    have pl := plain (adOf hT) (fun x hx y hy e => by
      obtain ⟨e1, m1, rfl⟩ := List.mem_map.mp hx
      obtain ⟨e2, m2, rfl⟩ := List.mem_map.mp hy
      have x1 := hds e1 (List.mem_cons_of_mem _ m1)
      have x2 := hds e2 (List.mem_cons_of_mem _ m2)
      exact hout.inj x1.1.1 x1.1.2 x2.1.1 x2.1.2 e) ns hn
    have hA : AOk (ds.length + 1) callerA := ⟨rfl, by show 1 + claimMargin + (ds.length + 1) < recursionLimit; have : claimMargin + 60 < recursionLimit := by decide
                                                      omega, by show 4 + 200 + 10 * (ds.length + 1) < cLine; have : 800 < cLine := by decide
                                                                omega⟩
    have g := call_sound (X := fun _ => False) hout.tok hG hΦ hfn k7 pl hA (fun _ x => x.elim) (fun _ x => x.elim) old rd
    refine g h0 _ _ fun v h' tk _ ho r => ?_
    cases r
    exact ⟨rfl, h', tk, ho, rfl⟩
end
end Mine
set_option Elab.async false
set_option maxRecDepth 4000
namespace Mine
open PySem PySem.Float64

/-- a / 2 ^ j as a float -/
def X (a j : Nat) : UInt64 := ofFrac false a (2 ^ j)

theorem dyad {a j : Nat} (ha : a < 2 ^ 53) (hj : j ≤ 1000) : ∃ t, t < infMag ∧ V t * 2 ^ j = a * 2 ^ 1074 := by
  by_cases h0 : a = 0
  · subst h0; exact ⟨0, by decide, by rw [V_zero]; simp⟩
  have hL : a.log2 < 53 := (Nat.log2_lt h0).mpr ha
  have h1 : 2 ^ a.log2 ≤ a := Nat.log2_self_le h0
  have h2 : a < 2 ^ (a.log2 + 1) := Nat.lt_log2_self
  generalize a.log2 = L at *
  have q1 : 2 ^ 52 ≤ a * 2 ^ (52 - L) := by
    calc (2 : Nat) ^ 52 = 2 ^ L * 2 ^ (52 - L) := by rw [← Nat.pow_add]; congr 1; omega
      _ ≤ a * 2 ^ (52 - L) := Nat.mul_le_mul_right _ h1
  have q2 : a * 2 ^ (52 - L) ≤ 2 ^ 53 := by
    calc a * 2 ^ (52 - L) ≤ 2 ^ (L + 1) * 2 ^ (52 - L) := Nat.mul_le_mul_right _ (Nat.le_of_lt h2)
      _ = 2 ^ 53 := by rw [← Nat.pow_add]; congr 1; omega
  refine ⟨(1022 + L - j) * 2 ^ 52 + a * 2 ^ (52 - L), ?_, ?_⟩
  · have : (1022 + L - j) * 2 ^ 52 ≤ 1074 * 2 ^ 52 := Nat.mul_le_mul_right _ (by omega)
    have e : infMag = 2047 * 2 ^ 52 := rfl
    have : (2 : Nat) ^ 53 = 2 * 2 ^ 52 := by decide
    omega
  · rw [V_at q2 (.inl q1), Nat.mul_assoc, Nat.mul_assoc, ← Nat.pow_add, ← Nat.pow_add]
    congr 2
    omega

theorem V_inj {t t' : Nat} (h : V t = V t') : t = t' := by
  rcases Nat.lt_trichotomy t t' with h1 | h1 | h1
  · have := V_lt h1; omega
  · exact h1
  · have := V_lt h1; omega
theorem right_at {r : UInt64} {neg : Bool} {W D t0 : Nat} (h : Right r neg W D) (h0 : t0 < infMag) (hW : W = D * V t0) (hD : 0 < D) : r = pack neg t0 := by
  obtain ⟨t, rfl, hle, hinf, hn⟩ := h
  have hlt : t < infMag := by
    rcases Nat.lt_or_ge t infMag with h | h
    · exact h
    · exfalso
      have e : t = infMag := Nat.le_antisymm hle h
      have h1 := hinf.mp e
      rw [hW] at h1
      have h2 : (2 ^ 54 - 1) * 2 ^ 2045 ≤ 2 * V t0 := by
        have : D * ((2 ^ 54 - 1) * 2 ^ 2045) ≤ D * (2 * V t0) := by
          refine Nat.le_trans h1 (Nat.le_of_eq ?_)
          ac_rfl
        exact Nat.le_of_mul_le_mul_left this hD
      have h3 : V t0 ≤ V (infMag - 1) := V_mono (by omega)
      have h4 : V (infMag - 1) = (2 ^ 53 - 1) * 2 ^ 2045 := by
        have : infMag - 1 = 2045 * 2 ^ 52 + (2 ^ 53 - 1) := by decide
        rw [this]
        exact V_at (by decide) (.inl (by decide))
      rw [h4] at h3
      have h5 : (2 ^ 54 - 1) * 2 ^ 2045 ≤ (2 * (2 ^ 53 - 1)) * 2 ^ 2045 := by
        refine Nat.le_trans h2 ?_
        rw [Nat.mul_assoc]
        exact Nat.mul_le_mul_left _ h3
      have h6 := Nat.le_of_mul_le_mul_right h5 (Nat.two_pow_pos 2045)
      revert h6
      decide
  have h1 := (hn hlt t0).1
  have h2 : dist W (D * V t0) = 0 := by rw [hW]; unfold dist; omega
  rw [h2] at h1
  have h3 : D * V t = D * V t0 := by
    rw [← hW]
    unfold dist at h1
    omega
  rw [V_inj (Nat.eq_of_mul_eq_mul_left hD h3)]
theorem right_X {r : UInt64} {neg : Bool} {W D a j : Nat} (h : Right r neg W D) (hW : W * 2 ^ j = a * D * 2 ^ 1074) (ha : a < 2 ^ 53) (hj : j ≤ 1000) (hD : 0 < D) : r = ofFrac neg a (2 ^ j) := by
  obtain ⟨t0, h0, hV⟩ := dyad ha hj
  have e : W = D * V t0 := by
    refine Nat.eq_of_mul_eq_mul_right (Nat.two_pow_pos j) ?_
    rw [hW, Nat.mul_assoc D, hV]
    ac_rfl
  rw [right_at h h0 e hD]
  have h' : Right (ofFrac neg a (2 ^ j)) neg (a * 2 ^ 1074) (2 ^ j) := ofFrac_right (Nat.two_pow_pos j) (by rfl) (Nat.two_pow_pos j)
  rw [right_at h' h0 (by rw [← hV]; exact Nat.mul_comm ..) (Nat.two_pow_pos j)]

/-- what a float is -/
theorem X_dec {neg : Bool} {a j : Nat} (ha : a < 2 ^ 53) (hj : j ≤ 1000) : ∃ m e, decode (ofFrac neg a (2 ^ j)) = .fin neg m e ∧ (m = 0 ↔ a = 0) ∧ (val (ofFrac neg a (2 ^ j))) * 2 ^ j = sgn neg a * 2 ^ 1074 := by
  obtain ⟨t0, h0, hV⟩ := dyad ha hj
  have h' : Right (ofFrac neg a (2 ^ j)) neg (a * 2 ^ 1074) (2 ^ j) := ofFrac_right (Nat.two_pow_pos j) (by rfl) (Nat.two_pow_pos j)
  rw [right_at h' h0 (by rw [← hV]; exact Nat.mul_comm ..) (Nat.two_pow_pos j)]
  obtain ⟨m, e, hd, hm⟩ := decode_pack neg h0
  have hp : ∀ n : Nat, ((2 ^ n : Nat) : Int) = (2 : Int) ^ n := fun n => by simp
  refine ⟨m, e, hd, ?_, ?_⟩
  · constructor
    · rintro rfl
      rw [Nat.zero_mul] at hm
      rw [← hm, Nat.zero_mul] at hV
      have : 0 < (2 : Nat) ^ 1074 := Nat.two_pow_pos _
      rcases Nat.mul_eq_zero.mp hV.symm with h | h
      · exact h
      · omega
    · rintro rfl
      rw [Nat.zero_mul] at hV
      have : 0 < (2 : Nat) ^ j := Nat.two_pow_pos _
      rcases Nat.mul_eq_zero.mp hV with h | h
      · rw [h] at hm
        rcases Nat.mul_eq_zero.mp hm with h | h
        · exact h
        · have := Nat.two_pow_pos (e + 1074).toNat; omega
      · omega
  · rw [val_pack neg h0]
    unfold sgn
    rw [← hp, ← hp]
    cases neg
    · simp only [Bool.false_eq_true, if_false]
      rw [← Int.natCast_mul, ← Int.natCast_mul, hV]
    · simp only [if_true]
      rw [Int.neg_mul, Int.neg_mul, ← Int.natCast_mul, ← Int.natCast_mul, hV]

theorem X_fin {a j : Nat} (ha : a < 2 ^ 53) (hj : j ≤ 1000) : ∃ m e v, decode (X a j) = .fin false m e ∧ (m = 0 ↔ a = 0) ∧ val (X a j) = ((v : Nat) : Int) ∧ v * 2 ^ j = a * 2 ^ 1074 := by
  obtain ⟨t0, h0, hV⟩ := dyad ha hj
  obtain ⟨m, e, hd, hm, _⟩ := X_dec (neg := false) ha hj
  have h' : Right (ofFrac false a (2 ^ j)) false (a * 2 ^ 1074) (2 ^ j) := ofFrac_right (Nat.two_pow_pos j) (by rfl) (Nat.two_pow_pos j)
  have hr := right_at h' h0 (by rw [← hV]; exact Nat.mul_comm ..) (Nat.two_pow_pos j)
  refine ⟨m, e, V t0, hd, hm, ?_, hV⟩
  show val (ofFrac false a (2 ^ j)) = _
  rw [hr, val_pack false h0]
  rfl
theorem X_zero {j : Nat} : X 0 j = zero false := by
  unfold X ofFrac roundMag zero
  simp
theorem X_add {a b j : Nat} (h : a + b < 2 ^ 53) (hj : j ≤ 1000) : add (X a j) (X b j) = X (a + b) j := by
  obtain ⟨m, e, v, d1, z1, v1, w1⟩ := X_fin (a := a) (j := j) (by omega) hj
  obtain ⟨k, f, u, d2, z2, v2, w2⟩ := X_fin (a := b) (j := j) (by omega) hj
  have R := add_right d1 d2
  rw [v1, v2] at R
  have hs : (v + u) * 2 ^ j = (a + b) * 2 ^ 1074 := by rw [Nat.add_mul, Nat.add_mul, w1, w2]
  by_cases hz : v + u = 0
  · rw [R.1 (by omega)]
    rw [hz, Nat.zero_mul] at hs
    have : a + b = 0 := by
      rcases Nat.mul_eq_zero.mp hs.symm with h | h
      · exact h
      · have := Nat.two_pow_pos 1074; omega
    rw [this, X_zero]; rfl
  · have := R.2 (by omega)
    rw [decide_eq_false (by omega)] at this
    have e : ((v : Int) + (u : Int)).natAbs = v + u := by omega
    rw [e] at this
    exact right_X this (by rw [Nat.mul_one]; exact hs) h hj (by decide)
theorem X_sub {a b j : Nat} (h : a < 2 ^ 53) (hb : b ≤ a) (hj : j ≤ 1000) : sub (X a j) (X b j) = X (a - b) j := by
  obtain ⟨m, e, v, d1, z1, v1, w1⟩ := X_fin (a := a) (j := j) (by omega) hj
  obtain ⟨k, f, u, d2, z2, v2, w2⟩ := X_fin (a := b) (j := j) (by omega) hj
  have R := sub_right d1 d2
  rw [v1, v2] at R
  have hvu : u ≤ v := by
    refine Nat.le_of_mul_le_mul_right ?_ (Nat.two_pow_pos j)
    rw [w1, w2]
    exact Nat.mul_le_mul_right _ hb
  have hs : (v - u) * 2 ^ j = (a - b) * 2 ^ 1074 := by rw [Nat.sub_mul, Nat.sub_mul, w1, w2]
  by_cases hz : v - u = 0
  · rw [R.1 (by omega)]
    rw [hz, Nat.zero_mul] at hs
    have : a - b = 0 := by
      rcases Nat.mul_eq_zero.mp hs.symm with h | h
      · exact h
      · have := Nat.two_pow_pos 1074; omega
    rw [this, X_zero]; rfl
  · have := R.2 (by omega)
    rw [decide_eq_false (by omega)] at this
    have e : ((v : Int) - (u : Int)).natAbs = v - u := by omega
    rw [e] at this
    exact right_X this (by rw [Nat.mul_one]; exact hs) (by omega) hj (by decide)
theorem X_mul {a b c i j k : Nat} (h1 : a < 2 ^ 53) (h2 : b < 2 ^ 53) (hc : c < 2 ^ 53) (hi : i ≤ 1000) (hj : j ≤ 1000) (hk : k ≤ 1000) (hq : a * b * 2 ^ k = c * 2 ^ (i + j)) : mul (X a i) (X b j) = X c k := by
  obtain ⟨m, e, v, d1, z1, v1, w1⟩ := X_fin h1 hi
  obtain ⟨m', f, u, d2, z2, v2, w2⟩ := X_fin h2 hj
  have R := mul_right d1 d2
  rw [v1, v2] at R
  refine right_X (a := c) (j := k) R ?_ hc hk (Nat.two_pow_pos _)
  refine Nat.eq_of_mul_eq_mul_right (Nat.two_pow_pos (i + j)) ?_
  have e1 : ((v : Int)).natAbs = v := by omega
  have e2 : ((u : Int)).natAbs = u := by omega
  rw [e1, e2]
  calc v * u * 2 ^ k * 2 ^ (i + j) = (v * 2 ^ i) * (u * 2 ^ j) * 2 ^ k := by rw [Nat.pow_add]; ac_rfl
    _ = (a * b * 2 ^ k) * (2 ^ 1074 * 2 ^ 1074) := by rw [w1, w2]; ac_rfl
    _ = c * 2 ^ 1074 * 2 ^ 1074 * 2 ^ (i + j) := by rw [hq]; ac_rfl
theorem X_div {a b c i j k : Nat} (h1 : a < 2 ^ 53) (h2 : b < 2 ^ 53) (hc : c < 2 ^ 53) (hi : i ≤ 1000) (hj : j ≤ 1000) (hk : k ≤ 1000) (hb : b ≠ 0) (hq : a * 2 ^ (j + k) = c * b * 2 ^ i) : div (X a i) (X b j) = X c k := by
  obtain ⟨m, e, v, d1, z1, v1, w1⟩ := X_fin h1 hi
  obtain ⟨m', f, u, d2, z2, v2, w2⟩ := X_fin h2 hj
  have R := div_right d1 d2 (fun z => hb (z2.mp z))
  rw [v1, v2] at R
  have hu : 0 < u := by
    rcases Nat.eq_zero_or_pos u with z | z
    · subst z
      rw [Nat.zero_mul] at w2
      rcases Nat.mul_eq_zero.mp w2.symm with h | h
      · exact absurd h hb
      · have := Nat.two_pow_pos 1074; omega
    · exact z
  have e1 : ((v : Int)).natAbs = v := by omega
  have e2 : ((u : Int)).natAbs = u := by omega
  rw [e1, e2] at R
  refine right_X (a := c) (j := k) R ?_ hc hk hu
  refine Nat.eq_of_mul_eq_mul_right (Nat.two_pow_pos (i + j)) ?_
  calc v * 2 ^ 1074 * 2 ^ k * 2 ^ (i + j) = (v * 2 ^ i) * 2 ^ 1074 * 2 ^ (j + k) := by rw [Nat.pow_add, Nat.pow_add]; ac_rfl
    _ = (a * 2 ^ (j + k)) * (2 ^ 1074 * 2 ^ 1074) := by rw [w1]; ac_rfl
    _ = c * (b * 2 ^ 1074) * 2 ^ 1074 * 2 ^ i := by rw [hq]; ac_rfl
    _ = c * u * 2 ^ 1074 * 2 ^ (i + j) := by rw [← w2, Nat.pow_add]; ac_rfl
theorem X_frac {a d b j : Nat} (hd : 0 < d) (hb : b < 2 ^ 53) (hj : j ≤ 1000) (h : a * 2 ^ j = b * d) : ofFrac false a d = X b j := by
  have R : Right (ofFrac false a d) false (a * 2 ^ 1074) d := ofFrac_right hd (by rfl) hd
  refine right_X R ?_ hb hj hd
  calc a * 2 ^ 1074 * 2 ^ j = (a * 2 ^ j) * 2 ^ 1074 := by ac_rfl
    _ = b * d * 2 ^ 1074 := by rw [h]
theorem X_cmp {a b j : Nat} (h1 : a < 2 ^ 53) (h2 : b < 2 ^ 53) (hj : j ≤ 1000) : cmp (X a j) (X b j) = some (compare a b) := by
  obtain ⟨m, e, v, d1, z1, v1, w1⟩ := X_fin h1 hj
  obtain ⟨m', f, u, d2, z2, v2, w2⟩ := X_fin h2 hj
  rw [cmp_right d1 d2, v1, v2]
  have hp := Nat.two_pow_pos j
  have hp' := Nat.two_pow_pos 1074
  congr 1
  rcases Nat.lt_trichotomy a b with h | h | h
  · rw [Nat.compare_eq_lt.mpr h, Int.compare_eq_lt.mpr]
    have : v * 2 ^ j < u * 2 ^ j := by rw [w1, w2]; exact Nat.mul_lt_mul_of_pos_right h hp'
    exact Int.ofNat_lt.mpr (Nat.lt_of_mul_lt_mul_right this)
  · subst h
    have : v = u := Nat.eq_of_mul_eq_mul_right hp (by rw [w1, w2])
    subst this
    simp
  · rw [Nat.compare_eq_gt.mpr h, Int.compare_eq_gt.mpr]
    have : u * 2 ^ j < v * 2 ^ j := by rw [w1, w2]; exact Nat.mul_lt_mul_of_pos_right h hp'
    exact Int.ofNat_lt.mpr (Nat.lt_of_mul_lt_mul_right this)
theorem X_isZero {a j : Nat} (h1 : a < 2 ^ 53) (hj : j ≤ 1000) (ha : a ≠ 0) : isZero (X a j) = false := by
  obtain ⟨m, e, v, d1, z1, v1, w1⟩ := X_fin h1 hj
  unfold isZero
  rw [d1]
  cases m with
  | zero => exact absurd (z1.mp rfl) ha
  | succ m => rfl
theorem X_nan {a j : Nat} (h1 : a < 2 ^ 53) (hj : j ≤ 1000) : isNaN (X a j) = false := by
  obtain ⟨m, e, v, d1, z1, v1, w1⟩ := X_fin h1 hj
  unfold isNaN
  rw [d1]
theorem X_up {a i : Nat} (j : Nat) (h1 : a * 2 ^ j < 2 ^ 53) (hj : i + j ≤ 1000) : X a i = X (a * 2 ^ j) (i + j) := by
  unfold X
  exact X_frac (Nat.two_pow_pos _) h1 hj (by rw [Nat.pow_add]; ac_rfl)
end Mine
set_option Elab.async false
set_option maxRecDepth 4000
namespace Mine
open PySem PyProof.Rows

theorem map_toNat_inj : ∀ {x y : List Char}, x.map Char.toNat = y.map Char.toNat → x = y
  | [], [], _ => rfl
  | [], _ :: _, h => by simp at h
  | _ :: _, [], h => by simp at h
  | c :: r, d :: q, h => by
    simp only [List.map_cons, List.cons.injEq] at h
    rw [map_toNat_inj h.2, Char.ext (UInt32.toNat_inj.mp h.1)]
theorem ofs_inj (a b : String) : (Str.ofString a = Str.ofString b) ↔ (a = b) := by
  constructor
  · intro h
    rw [Str.ofString_eq_toList, Str.ofString_eq_toList] at h
    have h2 : (a.toList.map Char.toNat).toArray = (b.toList.map Char.toNat).toArray := by injection h
    have h3 : a.toList.map Char.toNat = b.toList.map Char.toNat := by simpa using congrArg Array.toList h2
    exact String.toList_inj.mp (map_toNat_inj h3)
  · rintro rfl; rfl
theorem ofs_beq (a b : String) : (Str.ofString a == Str.ofString b) = (a == b) := by
  rw [Bool.eq_iff_iff]; simp only [beq_iff_eq]; exact ofs_inj a b

section
variable {G : Rho} {Φ : Addr → List D → Option D} {n m : Nat} {sc : Names} {ρ : Rho} {σ : Sg} {own : Str → Bool} {F : Ev}

/-- names -/
theorem upd_at (ρ : Rho) (a b : String) (d : D) : upd ρ (Str.ofString a) d (Str.ofString b) = if b = a then some d else ρ (Str.ofString b) := by
  unfold upd; simp only [ofs_inj]
theorem argsR_cons (x : Str) (xs : List Str) (d : D) (ds : List D) : argsR (x :: xs) (d :: ds) = upd (argsR xs ds) x d := by
  funext y
  unfold argsR upd
  rw [List.zip_cons_cons, List.lookup_cons]
  by_cases h : y = x
  · subst h; simp
  · rw [if_neg h]
    have : (y == x) = false := by simpa using h
    rw [this]
theorem argsR_nil : argsR [] [] = fun _ => none := rfl
def kindD (G ρ : Rho) (x : Str) : NameKind → Option D
  | .globalImplicit => G x
  | .globalExplicit => none
  | _ => ρ x
theorem nameD_cons (G ρ : Rho) (a b : String) (k : NameKind) (sc : Names) : nameD G ((Str.ofString a, k) :: sc) ρ (Str.ofString b) = if b = a then kindD G ρ (Str.ofString b) k else nameD G sc ρ (Str.ofString b) := by
  unfold nameD
  rw [List.lookup_cons, ofs_beq]
  by_cases h : b = a
  · subst h; simp only [BEq.rfl, if_true]; cases k <;> rfl
  · have : (b == a) = false := by simpa using h
    rw [this, if_neg h]
theorem storable_cons (a b : String) (k : NameKind) (sc : Names) : storable ((Str.ofString a, k) :: sc) (Str.ofString b) = if b = a then (match k with | .local => true | .cell => true | _ => false) else storable sc (Str.ofString b) := by
  unfold storable
  rw [List.lookup_cons, ofs_beq]
  by_cases h : b = a
  · subst h; simp only [BEq.rfl, if_true]; cases k <;> rfl
  · have : (b == a) = false := by simpa using h
    rw [this, if_neg h]
theorem vis_nil (ρ : Rho) : vis [] ρ = ρ := rfl
theorem thawR_nil (p : Str → Bool) (ρ : Rho) : thawR p [] ρ = ρ := by funext x; unfold thawR; simp
theorem thawS_nil (p : Str → Bool) : thawS p [] = [] := rfl
theorem drp_nil (x : Str) : drp x [] = [] := rfl
theorem noneOwned_nil : noneOwned [] [] = true := rfl
theorem noneOwned_cons (x : Str) (p : Pos) (es : List Expr) : noneOwned [] (.Name x p :: es) = noneOwned [] es := by
  unfold noneOwned
  rw [List.all_cons]
  rfl

/-- expressions -/
theorem ev_Name (x : Str) (p : Pos) : ev G Φ (n + 1) sc ρ (.Name x p) = nameD G sc ρ x := rfl
theorem ev_Const (c : Const) (k : Nat) (p : Pos) : ev G Φ (n + 1) sc ρ (.Constant c k p) = constD c := rfl
theorem ev_BinOp (l r : Expr) (op : Operator) (p : Pos) : ev G Φ (n + 1) sc ρ (.BinOp l op r p) = (ev G Φ n sc ρ l).bind fun a => (ev G Φ n sc ρ r).bind fun b => binD op a b := by
  show (match ev G Φ n sc ρ l with | some a => (match ev G Φ n sc ρ r with | some b => binD op a b | none => none) | none => none) = _
  cases ev G Φ n sc ρ l <;> try rfl
  cases ev G Φ n sc ρ r <;> rfl
def negD : D → Option D
  | .int i => some (.int (-i))
  | _ => none
theorem ev_USub (x : Expr) (p : Pos) : ev G Φ (n + 1) sc ρ (.UnaryOp .USub x p) = (ev G Φ n sc ρ x).bind negD := by
  show (match ev G Φ n sc ρ x with | some (D.int i) => some (D.int (-i)) | _ => none) = _
  cases ev G Φ n sc ρ x with
  | none => rfl
  | some d => cases d <;> rfl
def plainS : Expr → Bool
  | .Constant _ _ _ => true
  | .Name _ _ => true
  | _ => false
theorem cmpE_1 (l r : Expr) (op : CmpOp) : cmpE F sc ρ l [op] [r] = (F sc ρ l).bind fun a => (F sc ρ r).bind fun b => cmpD op a b := by
  show (match F sc ρ l with | some a => (match F sc ρ r with | some b => cmpD op a b | none => none) | none => none) = _
  cases F sc ρ l <;> try rfl
  cases F sc ρ r <;> rfl
theorem cmpE_2 (l r r' : Expr) (op op' : CmpOp) (hr' : plainS r' = true) : cmpE F sc ρ l [op, op'] [r, r'] = (F sc ρ l).bind fun a => (F sc ρ r).bind fun b => (cmpD op a b).bind fun c => if c = true then (F sc ρ r').bind fun b' => cmpD op' b b' else some false := by
  have hr : notSetE r' = true := by cases r' <;> first | rfl | cases hr'
  show (match F sc ρ l with
    | some a => match F sc ρ r with
      | some b => match cmpD op a b with
        | some true => match F sc ρ r' with
          | some b' => cmpD op' b b'
          | none => none
        | some false => if notSetE r' then some false else none
        | none => none
      | none => none
    | none => none) = _
  cases F sc ρ l with
  | none => rfl
  | some a =>
    cases F sc ρ r with
    | none => rfl
    | some b =>
      simp only [Option.bind_some]
      cases cmpD op a b with
      | none => rfl
      | some c =>
        cases c
        · simp [hr]
        · simp only [Option.bind_some, if_true]
          cases F sc ρ r' <;> rfl
theorem ev_Compare (l : Expr) (ops : List CmpOp) (cs : List Expr) (p : Pos) : ev G Φ (n + 1) sc ρ (.Compare l ops cs p) = (cmpE (ev G Φ n) sc ρ l ops cs).bind fun b => some (.bool b) := by
  show (match cmpE (ev G Φ n) sc ρ l ops cs with | some b => some (D.bool b) | none => none) = _
  cases cmpE (ev G Φ n) sc ρ l ops cs <;> rfl
theorem ev_BoolOp (op : BoolOp) (x y : Expr) (p : Pos) : ev G Φ (n + 1) sc ρ (.BoolOp op [x, y] p) = boolE (ev G Φ n) sc ρ op x y := rfl
def boolV : D → Option Bool
  | .bool b => some b
  | _ => none
theorem boolV_bool (b : Bool) : boolV (.bool b) = some b := rfl
theorem boolE_or (x y : Expr) : boolE F sc ρ .Or x y = (F sc ρ x).bind fun d => (boolV d).bind fun a => if a = true then some (.bool true) else (F sc ρ y).bind fun e => (boolV e).bind fun c => some (.bool c) := by
  unfold boolE
  cases F sc ρ x with
  | none => rfl
  | some d =>
    cases d <;> try rfl
    rename_i b
    cases b <;> try rfl
    simp only [Option.bind_some, boolV, Bool.false_eq_true, if_false]
    cases F sc ρ y with
    | none => rfl
    | some d => cases d <;> rfl
theorem boolE_and (x y : Expr) : boolE F sc ρ .And x y = (F sc ρ x).bind fun d => (boolV d).bind fun a => if a = true then (F sc ρ y).bind fun e => (boolV e).bind fun c => some (.bool c) else some (.bool false) := by
  unfold boolE
  cases F sc ρ x with
  | none => rfl
  | some d =>
    cases d <;> try rfl
    rename_i b
    cases b <;> try rfl
    simp only [Option.bind_some, boolV, if_true]
    cases F sc ρ y with
    | none => rfl
    | some d => cases d <;> rfl
theorem evsD_nil (f : Expr → Option D) : evsD f [] = some [] := rfl
theorem evsD_cons (f : Expr → Option D) (e : Expr) (r : List Expr) : evsD f (e :: r) = (f e).bind fun d => (evsD f r).bind fun ds => some (d :: ds) := by
  show (match f e with | some d => (match evsD f r with | some ds => some (d :: ds) | none => none) | none => none) = _
  cases f e <;> try rfl
  cases evsD f r <;> rfl
theorem ev_Tuple (es : List Expr) (k : Nat) (p : Pos) : ev G Φ (n + 1) sc ρ (.Tuple es k p) = (evsD (ev G Φ n sc ρ) es).bind fun ds => if ds.length ≤ 1000 then some (.tup ds) else none := by
  show seqE (evsD (ev G Φ n sc ρ) es) .tup = _
  unfold seqE
  cases evsD (ev G Φ n sc ρ) es <;> rfl
theorem ev_List (es : List Expr) (p : Pos) : ev G Φ (n + 1) sc ρ (.List es p) = (evsD (ev G Φ n sc ρ) es).bind fun ds => if ds.length ≤ 1000 then some (.lst ds) else none := by
  show seqE (evsD (ev G Φ n sc ρ) es) .lst = _
  unfold seqE
  cases evsD (ev G Φ n sc ρ) es <;> rfl
theorem ev_Dict (ks : List (Option Expr)) (vs : List Expr) (p : Pos) : ev G Φ (n + 1) sc ρ (.Dict ks vs p) = dictD (ev G Φ n sc ρ) ks vs := rfl
def plainI : Expr → Bool
  | .Constant _ _ _ => true
  | .Name _ _ => true
  | .BinOp _ _ _ _ => true
  | .UnaryOp _ _ _ => true
  | .Subscript _ _ _ => true
  | .Call _ _ _ _ => true
  | _ => false
theorem pb_name (x : Str) (p : Pos) : plainBase (.Name x p) = true := rfl
theorem pb_const (c : Const) (k : Nat) (p : Pos) : plainBase (.Constant c k p) = true := rfl
theorem pb_sub (a b : Expr) (p : Pos) : plainBase (.Subscript a b p) = true := rfl
theorem pb_meth (a : Expr) (x : Str) (p q : Pos) (es : List Expr) (ks : List Keyword) : plainBase (.Call (.Attribute a x p) es ks q) = true := rfl
theorem ev_Sub (v i : Expr) (p : Pos) (hi : plainI i = true) : ev G Φ (n + 1) sc ρ (.Subscript v i p) = (ev G Φ n sc ρ v).bind fun a => (ev G Φ n sc ρ i).bind fun b => idxD a b := by
  have : ∀ (f : Expr → Option D), (match f v with | some a => (match f i with | some b => idxD a b | none => none) | none => none) = (f v).bind fun a => (f i).bind fun b => idxD a b := fun f => by
    cases f v <;> try rfl
    cases f i <;> rfl
  rw [← this]
  cases i <;> first | rfl | cases hi
theorem ev_Slice (v : Expr) (lo hi : Option Expr) (q p : Pos) : ev G Φ (n + 1) sc ρ (.Subscript v (.Slice lo hi none q) p) = (ev G Φ n sc ρ v).bind fun a => (partD lo).bind fun l => (partD hi).bind fun u => sliceD a l u := by
  show (match ev G Φ n sc ρ v with | some a => (match partD lo with | some l => (match partD hi with | some u => sliceD a l u | none => none) | none => none) | none => none) = _
  cases ev G Φ n sc ρ v <;> try rfl
  cases partD lo <;> try rfl
  cases partD hi <;> rfl
theorem ev_Call (x : Str) (q p : Pos) (es : List Expr) : ev G Φ (n + 1) sc ρ (.Call (.Name x q) es [] p) = (nameD G sc ρ x).bind fun f => (evsD (ev G Φ n sc ρ) es).bind fun ds => callD Φ f ds := by
  show (match nameD G sc ρ x with | some f => (match evsD (ev G Φ n sc ρ) es with | some ds => callD Φ f ds | none => none) | none => none) = _
  cases nameD G sc ρ x <;> try rfl
  cases evsD (ev G Φ n sc ρ) es <;> rfl
theorem callD_ref (a : Addr) (ds : List D) : callD Φ (.val (.ref a)) ds = Φ a ds := rfl
theorem callD_blt (a : String) (ds : List D) : callD Φ (.val (.builtin a)) ds = fnD (.builtin a) ds := rfl
theorem callD_type (a : String) (ds : List D) : callD Φ (.val (.type a)) ds = fnD (.type a) ds := rfl
theorem ev_Meth (o : Expr) (name : Str) (apos p : Pos) (es : List Expr) : ev G Φ (n + 1) sc ρ (.Call (.Attribute o name apos) es [] p) = methE (ev G Φ n) sc ρ o name apos es p := rfl
theorem meth_replace (o : Expr) (y z : Str) (a : Nat) (apos p q q' : Pos) (b : Nat) : methE F sc ρ o (Str.ofString "replace") apos [.Constant (.str y) a q, .Constant (.str z) b q'] p = if plainBase o = true ∧ (apos.endLine == p.line) = true then (F sc ρ o).bind fun ov => replD ov y z else none := by
  unfold methE
  by_cases h : plainBase o = true ∧ (apos.endLine == p.line) = true
  · rw [if_pos h, if_pos ⟨h.1, h.2, by simp⟩]
    cases F sc ρ o <;> simp
  · rw [if_neg h, if_neg fun z => h ⟨z.1, z.2.1⟩]
theorem meth_plain (o : Expr) (name : String) (es : List Expr) (apos p : Pos) (hn : name ≠ "replace") : methE F sc ρ o (Str.ofString name) apos es p = if plainBase o = true ∧ (apos.endLine == p.line) = true ∧ es.length < 29 then (F sc ρ o).bind fun ov => (evsD (F sc ρ) es).bind fun ds => methD (Str.ofString name) ov ds else none := by
  unfold methE
  split
  · cases F sc ρ o with
    | none => rfl
    | some ov =>
      simp only [Option.bind_some]
      rw [if_neg (fun h => hn ((ofs_inj _ _).mp h))]
      cases evsD (F sc ρ) es <;> rfl
  · rfl
theorem ev_ListComp (elt : Expr) (gens : List Comprehension) (scope : Scope) (p : Pos) : ev G Φ (n + 1) sc ρ (.ListComp elt gens scope p) = (compD G (ev G Φ n) (tstD (ev G Φ n)) sc ρ (fun sc ρ => ev G Φ n sc ρ elt) gens scope).bind fun out => some (.lst out) := by
  show (match compD G (ev G Φ n) (tstD (ev G Φ n)) sc ρ (fun sc ρ => ev G Φ n sc ρ elt) gens scope with | some out => some (D.lst out) | none => none) = _
  cases compD G (ev G Φ n) (tstD (ev G Φ n)) sc ρ (fun sc ρ => ev G Φ n sc ρ elt) gens scope <;> rfl
theorem ev_DictComp (kx vx : Expr) (gens : List Comprehension) (scope : Scope) (p : Pos) : ev G Φ (n + 1) sc ρ (.DictComp kx vx gens scope p) = (compD G (ev G Φ n) (tstD (ev G Φ n)) sc ρ (fun sc ρ => keyD (ev G Φ n sc) kx vx ρ) gens scope).bind fun out => if (out.map Prod.fst).Nodup then some (.dci out) else none := by
  show (match compD G (ev G Φ n) (tstD (ev G Φ n)) sc ρ (fun sc ρ => keyD (ev G Φ n sc) kx vx ρ) gens scope with | some out => if (out.map Prod.fst).Nodup then some (D.dci out) else none | none => none) = _
  cases compD G (ev G Φ n) (tstD (ev G Φ n)) sc ρ (fun sc ρ => keyD (ev G Φ n sc) kx vx ρ) gens scope <;> rfl
def intV : D → Option Int
  | .int i => some i
  | _ => none
theorem intV_int (i : Int) : intV (.int i) = some i := rfl
theorem negD_int (i : Int) : negD (.int i) = some (.int (-i)) := rfl
theorem keyD_eq (f : Rho → Expr → Option D) (kx vx : Expr) : keyD f kx vx ρ = (f ρ kx).bind fun a => (intV a).bind fun i => (f ρ vx).bind fun d => some (i, d) := by
  unfold keyD
  cases f ρ kx with
  | none => rfl
  | some d =>
    cases d <;> try rfl
    simp only [Option.bind_some, intV]
    cases f ρ vx <;> rfl

/-- tests -/
theorem tst_Compare (l : Expr) (ops : List CmpOp) (cs : List Expr) (p : Pos) : tstD F sc ρ (.Compare l ops cs p) = cmpE F sc ρ l ops cs := rfl
theorem tst_BoolOp (op : BoolOp) (vs : List Expr) (p : Pos) : tstD F sc ρ (.BoolOp op vs p) = allD (tst1 F sc ρ) op vs := rfl
theorem tst_Not (x : Expr) (p : Pos) : tstD F sc ρ (.UnaryOp .Not x p) = (tst0 F sc ρ x).bind fun b => some (!b) := by
  show (match tst0 F sc ρ x with | some b => some (!b) | none => none) = _
  cases tst0 F sc ρ x <;> rfl
theorem tst_val (e : Expr) (o : Option D) (h : F sc ρ e = o) : (match F sc ρ e with | some (D.bool b) => some b | _ => none) = o.bind boolV := by
  rw [h]
  cases o with
  | none => rfl
  | some d => cases d <;> rfl
theorem tst_Call (f : Expr) (es : List Expr) (ks : List Keyword) (p : Pos) : tstD F sc ρ (.Call f es ks p) = (F sc ρ (.Call f es ks p)).bind boolV := tst_val _ _ rfl
theorem tst_Sub (f i : Expr) (p : Pos) : tstD F sc ρ (.Subscript f i p) = (F sc ρ (.Subscript f i p)).bind boolV := tst_val _ _ rfl
theorem tst1_Compare (l : Expr) (ops : List CmpOp) (cs : List Expr) (p : Pos) : tst1 F sc ρ (.Compare l ops cs p) = cmpE F sc ρ l ops cs := rfl
theorem tst0_Compare (l : Expr) (ops : List CmpOp) (cs : List Expr) (p : Pos) : tst0 F sc ρ (.Compare l ops cs p) = cmpE F sc ρ l ops cs := rfl
theorem tst1_Call (f : Expr) (es : List Expr) (ks : List Keyword) (p : Pos) : tst1 F sc ρ (.Call f es ks p) = (F sc ρ (.Call f es ks p)).bind boolV := tst_val _ _ rfl
theorem tst0_Call (f : Expr) (es : List Expr) (ks : List Keyword) (p : Pos) : tst0 F sc ρ (.Call f es ks p) = (F sc ρ (.Call f es ks p)).bind boolV := tst_val _ _ rfl
theorem tst1_Sub (f i : Expr) (p : Pos) : tst1 F sc ρ (.Subscript f i p) = (F sc ρ (.Subscript f i p)).bind boolV := tst_val _ _ rfl
theorem allD_and (t : Expr → Option Bool) (x : Expr) (r : List Expr) : allD t .And (x :: r) = (t x).bind fun b => if b = true then allD t .And r else some false := by
  conv => lhs; unfold allD
  cases t x with
  | none => rfl
  | some b => cases b <;> rfl
theorem allD_or (t : Expr → Option Bool) (x : Expr) (r : List Expr) : allD t .Or (x :: r) = (t x).bind fun b => if b = true then some true else allD t .Or r := by
  conv => lhs; unfold allD
  cases t x with
  | none => rfl
  | some b => cases b <;> rfl
theorem allD_and0 (t : Expr → Option Bool) : allD t .And [] = some true := rfl
theorem allD_or0 (t : Expr → Option Bool) : allD t .Or [] = some false := rfl

theorem ifb {α β : Type} (c : Prop) [Decidable c] (x y : Option α) (f : α → Option β) : (if c then x else y).bind f = if c then x.bind f else y.bind f := by
  split <;> rfl

/-- statements -/
def contD (f : Sg → Rho → Stmt → Option Fl) (r : List Stmt) : Fl → Option Fl
  | .next σ ρ => blD f r σ ρ
  | .ret d => some (.ret d)
theorem blD_cons (f : Sg → Rho → Stmt → Option Fl) (st : Stmt) (r : List Stmt) (σ : Sg) (ρ : Rho) : blD f (st :: r) σ ρ = (f σ ρ st).bind (contD f r) := by
  show (match f σ ρ st with | some (.next σ' ρ') => blD f r σ' ρ' | some (.ret d) => some (.ret d) | none => none) = _
  cases f σ ρ st with
  | none => rfl
  | some x => cases x <;> rfl
theorem blD_nil (f : Sg → Rho → Stmt → Option Fl) (σ : Sg) (ρ : Rho) : blD f [] σ ρ = some (.next σ ρ) := rfl
theorem contD_next (f : Sg → Rho → Stmt → Option Fl) (r : List Stmt) (σ : Sg) (ρ : Rho) : contD f r (.next σ ρ) = blD f r σ ρ := rfl
theorem contD_ret (f : Sg → Rho → Stmt → Option Fl) (r : List Stmt) (d : D) : contD f r (.ret d) = some (.ret d) := rfl
def retV : Fl → Option D
  | .ret d => some d
  | _ => none
theorem fnD_eq (N : Nat) (names : List Str) (body : List Stmt) (scope : Scope) (ds : List D) : fnD' G Φ N m own names body scope ds = if ds.length = names.length then (blD (stD G (ev G Φ N) scope.names own m) body [] (argsR names ds)).bind retV else none := by
  unfold fnD'
  split
  · cases blD (stD G (ev G Φ N) scope.names own m) body [] (argsR names ds) with
    | none => rfl
    | some x => cases x <;> rfl
  · rfl
theorem st_Assign (t e : Expr) (p : Pos) : stD G F sc own (m + 1) σ ρ (.Assign [t] e p) = (assignD G F sc own σ ρ t e).bind fun q => some (.next q.1 q.2) := by
  show (match assignD G F sc own σ ρ t e with | some p => some (Fl.next p.1 p.2) | none => none) = _
  cases assignD G F sc own σ ρ t e <;> rfl
theorem st_Return (e : Expr) (p : Pos) : stD G F sc own (m + 1) σ ρ (.Return (some e) p) = (F sc (vis (thawS (fun _ => true) σ) (thawR (fun _ => true) σ ρ)) e).bind fun d => some (.ret d) := by
  show (match F sc (vis (thawS (fun _ => true) σ) (thawR (fun _ => true) σ ρ)) e with | some d => some (Fl.ret d) | none => none) = _
  cases F sc (vis (thawS (fun _ => true) σ) (thawR (fun _ => true) σ ρ)) e <;> rfl
theorem st_If (t : Expr) (b o : List Stmt) (p : Pos) : stD G F sc own (m + 1) σ ρ (.If t b o p) = (tstD F sc (vis σ ρ) t).bind fun c => if c = true then blD (stD G F sc own m) b σ ρ else blD (stD G F sc own m) o σ ρ := by
  show (match tstD F sc (vis σ ρ) t with | some c => if c then blD (stD G F sc own m) b σ ρ else blD (stD G F sc own m) o σ ρ | none => none) = _
  cases tstD F sc (vis σ ρ) t <;> rfl
theorem st_For (t it : Expr) (b : List Stmt) (k : Option String) (p : Pos) (h : tgB t = true) : stD G F sc own (m + 1) σ ρ (.For t it b [] p) = (itemsD G F sc (vis σ ρ) (isTup t) it).bind fun xs => forD sc t (blD (stD G F sc own m) b) xs σ ρ := by
  show (if tgB t = true then match itemsD G F sc (vis σ ρ) (isTup t) it with | some xs => forD sc t (blD (stD G F sc own m) b) xs σ ρ | none => none else none) = _
  rw [if_pos h]
  cases itemsD G F sc (vis σ ρ) (isTup t) it <;> rfl
def plainA : Expr → Bool
  | .Constant _ _ _ => true
  | .Name _ _ => true
  | .BinOp _ _ _ _ => true
  | .UnaryOp _ _ _ => true
  | .Compare _ _ _ _ => true
  | .BoolOp _ _ _ => true
  | .Tuple _ _ _ => true
  | .Dict _ _ _ => true
  | .Subscript _ _ _ => true
  | .Call _ _ _ _ => true
  | _ => false
def plainT : Expr → Bool
  | .Call _ _ _ _ => true
  | .ListComp _ _ _ _ => true
  | .Name _ _ => true
  | _ => false
theorem plA1 (a : Const) (b : Nat) (c : Pos) : plainA (.Constant a b c) = true := rfl
theorem plA2 (a : Str) (b : Pos) : plainA (.Name a b) = true := rfl
theorem plA3 (a c : Expr) (b : Operator) (d : Pos) : plainA (.BinOp a b c d) = true := rfl
theorem plA4 (a : UnaryOp) (b : Expr) (d : Pos) : plainA (.UnaryOp a b d) = true := rfl
theorem plA5 (a : Expr) (b : List CmpOp) (c : List Expr) (d : Pos) : plainA (.Compare a b c d) = true := rfl
theorem plA6 (b : BoolOp) (c : List Expr) (d : Pos) : plainA (.BoolOp b c d) = true := rfl
theorem plA7 (b : List Expr) (c : Nat) (d : Pos) : plainA (.Tuple b c d) = true := rfl
theorem plA8 (b : List (Option Expr)) (c : List Expr) (d : Pos) : plainA (.Dict b c d) = true := rfl
theorem plA9 (b c : Expr) (d : Pos) : plainA (.Subscript b c d) = true := rfl
theorem plA10 (a : Expr) (b : List Expr) (c : List Keyword) (d : Pos) : plainA (.Call a b c d) = true := rfl
theorem plT1 (a : Expr) (b : List Expr) (c : List Keyword) (d : Pos) : plainT (.Call a b c d) = true := rfl
theorem plT2 (a : Expr) (b : List Comprehension) (c : Scope) (d : Pos) : plainT (.ListComp a b c d) = true := rfl
theorem plT3 (a : Str) (b : Pos) : plainT (.Name a b) = true := rfl
theorem plI1 (a : Const) (b : Nat) (c : Pos) : plainI (.Constant a b c) = true := rfl
theorem plI2 (a : Str) (b : Pos) : plainI (.Name a b) = true := rfl
theorem plI3 (a c : Expr) (b : Operator) (d : Pos) : plainI (.BinOp a b c d) = true := rfl
theorem plI4 (a : UnaryOp) (b : Expr) (d : Pos) : plainI (.UnaryOp a b d) = true := rfl
theorem plI5 (b c : Expr) (d : Pos) : plainI (.Subscript b c d) = true := rfl
theorem plI6 (a : Expr) (b : List Expr) (c : List Keyword) (d : Pos) : plainI (.Call a b c d) = true := rfl
theorem plS1 (a : Const) (b : Nat) (c : Pos) : plainS (.Constant a b c) = true := rfl
theorem plS2 (a : Str) (b : Pos) : plainS (.Name a b) = true := rfl
theorem assign_plain (x : Str) (tp : Pos) (e : Expr) (h : plainA e = true) : assignD G F sc own σ ρ (.Name x tp) e = (F sc (vis σ ρ) e).bind fun d => bindS sc (.Name x tp) d σ ρ := by
  have e2 : (match F sc (vis σ ρ) e with | some d => bindS sc (.Name x tp) d σ ρ | none => none) = (F sc (vis σ ρ) e).bind fun d => bindS sc (.Name x tp) d σ ρ := by cases F sc (vis σ ρ) e <;> rfl
  rw [← e2]
  cases e <;> first | rfl | cases h
theorem assign_dict (x : Str) (tp : Pos) (kx vx : Expr) (gens : List Comprehension) (scope : Scope) (pos : Pos) (h : swapB sc x tp.line (.DictComp kx vx gens scope pos) = false) : assignD G F sc own σ ρ (.Name x tp) (.DictComp kx vx gens scope pos) = (F sc (vis σ ρ) (.DictComp kx vx gens scope pos)).bind fun d => bindS sc (.Name x tp) d σ ρ := by
  show (if notComp (.DictComp kx vx gens scope pos) = true ∧ swapB sc x tp.line (.DictComp kx vx gens scope pos) = false then _ else none) = _
  rw [if_pos ⟨rfl, h⟩]
  cases F sc (vis σ ρ) (.DictComp kx vx gens scope pos) <;> rfl
theorem assign_list (x : Str) (tp : Pos) (es : List Expr) (lp : Pos) : assignD G F sc own σ ρ (.Name x tp) (.List es lp) = if own x = true then (evsD (F sc (vis σ ρ)) es).bind fun ds => if ds.length ≤ 1000 ∧ sc.lookup x = some .local then some ((x, ds) :: drp x σ, ρ) else none
    else (F sc (vis σ ρ) (.List es lp)).bind fun d => bindS sc (.Name x tp) d σ ρ := by
  show (if own x = true then match evsD (F sc (vis σ ρ)) es with
      | some ds => if ds.length ≤ 1000 ∧ sc.lookup x = some .local then some ((x, ds) :: drp x σ, ρ) else none
      | none => none
    else match F sc (vis σ ρ) (.List es lp) with
      | some d => bindS sc (.Name x tp) d σ ρ
      | none => none) = _
  split
  · cases evsD (F sc (vis σ ρ)) es <;> rfl
  · cases F sc (vis σ ρ) (.List es lp) <;> rfl
theorem assign_comp {N : Nat} (x : Str) (tp : Pos) (elt : Expr) (gens : List Comprehension) (scope : Scope) (pos : Pos) : assignD G (ev G Φ (N + 1)) sc own σ ρ (.Name x tp) (.ListComp elt gens scope pos) = 
    if swapB sc x tp.line (.ListComp elt gens scope pos) = true then (compD G (ev G Φ (N + 1)) (tstD (ev G Φ (N + 1))) sc (vis σ ρ) (fun sc ρ => ev G Φ (N + 1) sc ρ elt) gens scope).bind fun out => bindS sc (.Name x tp) (.lst out) σ ρ
    else (compD G (ev G Φ N) (tstD (ev G Φ N)) sc (vis σ ρ) (fun sc ρ => ev G Φ N sc ρ elt) gens scope).bind fun out => bindS sc (.Name x tp) (.lst out) σ ρ := by
  show (if swapB sc x tp.line (.ListComp elt gens scope pos) = true then match compD G (ev G Φ (N + 1)) (tstD (ev G Φ (N + 1))) sc (vis σ ρ) (fun sc ρ => ev G Φ (N + 1) sc ρ elt) gens scope with
      | some out => bindS sc (.Name x tp) (.lst out) σ ρ
      | none => none
    else match ev G Φ (N + 1) sc (vis σ ρ) (.ListComp elt gens scope pos) with
      | some d => bindS sc (.Name x tp) d σ ρ
      | none => none) = _
  rw [ev_ListComp]
  split
  · cases compD G (ev G Φ (N + 1)) (tstD (ev G Φ (N + 1))) sc (vis σ ρ) (fun sc ρ => ev G Φ (N + 1) sc ρ elt) gens scope <;> rfl
  · cases compD G (ev G Φ N) (tstD (ev G Φ N)) sc (vis σ ρ) (fun sc ρ => ev G Φ N sc ρ elt) gens scope <;> rfl
theorem assign_tuple (es : List Expr) (k : Nat) (p : Pos) (e : Expr) (h' : plainT e = true) : assignD G F sc own σ ρ (.Tuple es k p) e = (F sc (vis σ ρ) e).bind fun d => bindS sc (.Tuple es k p) d σ ρ := by
  have h : notTupE e = true := by cases e <;> first | rfl | cases h'
  have e1 : assignD G F sc own σ ρ (.Tuple es k p) e = if notTupE e = true then match F sc (vis σ ρ) e with | some d => bindS sc (.Tuple es k p) d σ ρ | none => none else none := by
    cases e <;> rfl
  rw [e1, if_pos h]
  cases F sc (vis σ ρ) e <;> rfl
theorem bindS_nm (x : Str) (p : Pos) (d : D) : bindS sc (.Name x p) d σ ρ = if storable sc x = true then some (drp x σ, upd ρ x d) else none := rfl
theorem bindS_tuple (es : List Expr) (k : Nat) (p : Pos) (d : D) : bindS sc (.Tuple es k p) d σ ρ = if noneOwned σ es = true then (bindD sc (.Tuple es k p) d ρ).bind fun ρ' => some (σ, ρ') else none := by
  show (if noneOwned σ es = true then match bindD sc (.Tuple es k p) d ρ with | some ρ' => some (σ, ρ') | none => none else none) = _
  cases bindD sc (.Tuple es k p) d ρ <;> rfl
theorem bindD_name (x : Str) (p : Pos) (d : D) : bindD sc (.Name x p) d ρ = if storable sc x = true then some (upd ρ x d) else none := rfl
theorem bindD_tup (es : List Expr) (k : Nat) (p : Pos) (ds : List D) : bindD sc (.Tuple es k p) (.tup ds) ρ = bindAll sc es ds ρ := rfl
theorem bindD_lst (es : List Expr) (k : Nat) (p : Pos) (ds : List D) : bindD sc (.Tuple es k p) (.lst ds) ρ = bindAll sc es ds ρ := rfl
theorem bindAll_nil : bindAll sc [] [] ρ = some ρ := rfl
theorem bindAll_cons (x : Str) (p : Pos) (es : List Expr) (d : D) (ds : List D) : bindAll sc (.Name x p :: es) (d :: ds) ρ = if storable sc x = true then bindAll sc es ds (upd ρ x d) else none := rfl

/-- comprehensions -/
theorem forItems_nil {α : Type} (f : D → Option (List α)) : forItems f [] = some [] := rfl
theorem forItems_cons {α : Type} (f : D → Option (List α)) (d : D) (r : List D) : forItems f (d :: r) = (f d).bind fun a => (forItems f r).bind fun b => some (a ++ b) := by
  show (match f d with | some a => (match forItems f r with | some b => some (a ++ b) | none => none) | none => none) = _
  cases f d <;> try rfl
  cases forItems f r <;> rfl
theorem forItems_flat {α : Type} (f : D → Option (List α)) (g : D → List α) : ∀ (xs : List D), (∀ d ∈ xs, f d = some (g d)) → forItems f xs = some (xs.flatMap g)
  | [], _ => rfl
  | d :: r, h => by
    rw [forItems_cons, h d (List.mem_cons_self ..), forItems_flat f g r fun e he => h e (List.mem_cons_of_mem _ he)]
    rfl
theorem testsD_nil (T : Expr → Option Bool) : testsD T [] = some true := rfl
theorem testsD_cons (T : Expr → Option Bool) (c : Expr) (r : List Expr) : testsD T (c :: r) = (T c).bind fun b => if b = true then testsD T r else some false := by
  show (match T c with | some true => testsD T r | some false => some false | none => none) = _
  cases T c with
  | none => rfl
  | some b => cases b <;> rfl
/-- a comprehension, all checks apart -/
def compOk (sc : Names) (gens : List Comprehension) (scope : Scope) : Bool := scopeOk sc scope && gens.all fun g => g.is_async == 0
def capL {α : Type} (out : List α) : Option (List α) := if out.length ≤ 1000000 then some out else none
theorem capL_ok {α : Type} {out : List α} (h : out.length ≤ 1000000) : capL out = some out := if_pos h
theorem comp_eq {α : Type} {T : Tst} {emitF : Names → Rho → Option α} {g : Comprehension} {gs : List Comprehension} {scope : Scope} (h : compOk sc (g :: gs) scope = true) :
    compD G F T sc ρ emitF (g :: gs) scope = (itemsD G F sc ρ (isTup g.target) g.iter).bind fun xs => (genD (T scope.names) (fun tup ρ e => itemsD G F scope.names ρ tup e) (emitF scope.names) scope.names (g :: gs) (closRho ρ scope.names) xs).bind capL := by
  unfold compOk at h
  rw [Bool.and_eq_true] at h
  unfold compD
  rw [if_pos h]
  simp only
  cases itemsD G F sc ρ (isTup g.target) g.iter with
  | none => rfl
  | some xs =>
    simp only [Option.bind_some]
    cases genD (T scope.names) (fun tup ρ e => itemsD G F scope.names ρ tup e) (emitF scope.names) scope.names (g :: gs) (closRho ρ scope.names) xs <;> rfl
theorem gen_one {α : Type} {T : Rho → Expr → Option Bool} {I : Bool → Rho → Expr → Option (List D)} {emit : Rho → Option α} {t it : Expr} {ifs : List Expr} {k : Int} {xs : List D} (h : freshT ρ t = true) :
    genD T I emit sc [⟨t, it, ifs, k⟩] ρ xs = forItems (fun d => (bindD sc t d ρ).bind fun ρ1 => (testsD (T ρ1) ifs).bind fun b => if b = true then (emit ρ1).bind fun a => some [a] else some []) xs := by
  unfold genD
  rw [if_pos h]
  congr 1
  funext d
  simp only
  cases bindD sc t d ρ with
  | none => rfl
  | some ρ1 =>
    simp only [Option.bind_some]
    cases testsD (T ρ1) ifs with
    | none => rfl
    | some b =>
      cases b <;> try rfl
      simp only [Option.bind_some, if_true]
      cases emit ρ1 <;> rfl
theorem gen_two {α : Type} {T : Rho → Expr → Option Bool} {I : Bool → Rho → Expr → Option (List D)} {emit : Rho → Option α} {t it : Expr} {ifs : List Expr} {k : Int} {g : Comprehension} {gs : List Comprehension} {xs : List D} (h : freshT ρ t = true) :
    genD T I emit sc (⟨t, it, ifs, k⟩ :: g :: gs) ρ xs = forItems (fun d => (bindD sc t d ρ).bind fun ρ1 => (testsD (T ρ1) ifs).bind fun b => if b = true then (I (isTup g.target) ρ1 g.iter).bind fun ys => genD T I emit sc (g :: gs) ρ1 ys else some []) xs := by
  conv => lhs; unfold genD
  rw [if_pos h]
  congr 1
  funext d
  simp only
  cases bindD sc t d ρ with
  | none => rfl
  | some ρ1 =>
    simp only [Option.bind_some]
    cases testsD (T ρ1) ifs with
    | none => rfl
    | some b =>
      cases b <;> try rfl
      simp only [Option.bind_some, if_true]
      cases I (isTup g.target) ρ1 g.iter <;> rfl
theorem closRho_cons (a b : String) (k : NameKind) (names : Names) : closRho ρ ((Str.ofString a, k) :: names) (Str.ofString b) = if b = a then (match k with | .free => ρ (Str.ofString b) | _ => none) else closRho ρ names (Str.ofString b) := by
  unfold closRho
  rw [List.lookup_cons, ofs_beq]
  by_cases h : b = a
  · subst h; simp only [BEq.rfl, if_true]; cases k <;> rfl
  · have : (b == a) = false := by simpa using h
    rw [this, if_neg h]
end
end Mine
set_option Elab.async false
set_option maxRecDepth 4000
namespace Mine
open PySem PySem.Float64

theorem X_abs {a j : Nat} (h1 : a < 2 ^ 53) (hj : j ≤ 1000) : Float64.abs (X a j) = X a j := by
  have hn := X_nan h1 hj
  obtain ⟨t0, h0, hV⟩ := dyad h1 hj
  have h' : Right (ofFrac false a (2 ^ j)) false (a * 2 ^ 1074) (2 ^ j) := ofFrac_right (Nat.two_pow_pos j) (by rfl) (Nat.two_pow_pos j)
  have hr : X a j = pack false t0 := right_at h' h0 (by rw [← hV]; exact Nat.mul_comm ..) (Nat.two_pow_pos j)
  have hi : infMag = 2047 * 2 ^ 52 := rfl
  unfold Float64.abs
  rw [hn, hr, pack_toNat false (by omega)]
  simp only [Bool.false_eq_true, if_false, Nat.zero_add]
  rw [Nat.mod_eq_of_lt (by omega)]
theorem X_trunc {a j : Nat} (h1 : a < 2 ^ 53) (hj : j ≤ 1000) : ∃ m e, decode (X a j) = .fin false m e ∧ truncOf false m e = ((a / 2 ^ j : Nat) : Int) := by
  obtain ⟨m, e, v, d1, z1, v1, w1⟩ := X_fin h1 hj
  refine ⟨m, e, d1, ?_⟩
  have he := decode_ge d1
  have hv := val_eq d1
  rw [v1] at hv
  have hv : v = m * 2 ^ (e + 1074).toNat := by
    unfold sgn at hv
    simp only [Bool.false_eq_true, if_false] at hv
    exact Int.ofNat.inj hv
  rw [hv] at w1
  have hp : ∀ n : Nat, ((2 ^ n : Nat) : Int) = (2 : Int) ^ n := fun n => by simp
  show floorOf false m e = _
  unfold floorOf sgn
  simp only [Bool.false_eq_true, if_false]
  have p0 := Nat.two_pow_pos j
  split
  · rename_i h
    have e1 : (e + 1074).toNat = e.toNat + 1074 := by omega
    rw [e1, Nat.pow_add] at w1
    have w2 : m * 2 ^ e.toNat * 2 ^ j = a := by
      refine Nat.eq_of_mul_eq_mul_right (Nat.two_pow_pos 1074) ?_
      rw [← w1]; ac_rfl
    rw [← w2, Nat.mul_div_cancel _ p0]
    simp
  · rename_i h
    have e1 : 1074 = (e + 1074).toNat + (-e).toNat := by omega
    rw [← hp]
    have w2 : m * 2 ^ j = a * 2 ^ (-e).toNat := by
      refine Nat.eq_of_mul_eq_mul_right (Nat.two_pow_pos (e + 1074).toNat) ?_
      calc m * 2 ^ j * 2 ^ (e + 1074).toNat = m * 2 ^ (e + 1074).toNat * 2 ^ j := by ac_rfl
        _ = a * 2 ^ 1074 := w1
        _ = a * (2 ^ (e + 1074).toNat * 2 ^ (-e).toNat) := by rw [← Nat.pow_add, ← e1]
        _ = _ := by ac_rfl
    have w3 : m / 2 ^ (-e).toNat = a / 2 ^ j := by
      have p1 := Nat.two_pow_pos (-e).toNat
      rw [← Nat.mul_div_mul_right m _ p0, w2, Nat.mul_comm (2 ^ (-e).toNat) (2 ^ j), Nat.mul_div_mul_right _ _ p1]
    rw [← w3]
    exact Int.fdiv_eq_ediv_of_nonneg _ (Int.natCast_nonneg _) |>.trans (by rw [Int.natCast_ediv])
theorem X_sum {a b c j : Nat} (h : a + b + c < 2 ^ 53) (hj : j ≤ 1000) : Flt.sumOf [X a j, X b j, X c j] = X (a + b + c) j := by
  have z : (0 : UInt64) = X 0 j := by rw [X_zero]; decide +kernel
  have z' : ofInt 0 = X 0 j := by rw [X_zero]; decide +kernel
  have step : ∀ (t x : Nat) , t + x < 2 ^ 53 → Float64.add (X 0 j) (if Float64.cmp (Float64.abs (X t j)) (Float64.abs (X x j)) == some .lt || Float64.isNaN (X t j) || Float64.isNaN (X x j) then Float64.add (Float64.sub (X x j) (Float64.add (X t j) (X x j))) (X t j) else Float64.add (Float64.sub (X t j) (Float64.add (X t j) (X x j))) (X x j)) = X 0 j := by
    intro t x htx
    have neg : ∀ (p q : Nat), p + q < 2 ^ 53 → Float64.add (Float64.sub (X p j) (X (p + q) j)) (X q j) = X 0 j := by
      intro p q hpq
      obtain ⟨m, e, v, d1, z1, v1, w1⟩ := X_fin (a := p) (j := j) (by omega) hj
      obtain ⟨m', e', v', d2, z2, v2, w2⟩ := X_fin (a := p + q) (j := j) (by omega) hj
      obtain ⟨m3, e3, v3, d3, z3, v3', w3⟩ := X_fin (a := q) (j := j) (by omega) hj
      have hp := Nat.two_pow_pos j
      have hsum : v' = v + v3 := by
        refine Nat.eq_of_mul_eq_mul_right hp ?_
        rw [w2, Nat.add_mul, Nat.add_mul, w1, w3]
      by_cases hq : q = 0
      · subst hq
        rw [Nat.add_zero, X_sub (by omega) (Nat.le_refl _) hj, Nat.sub_self, X_add (by omega) hj]
      · have hv3 : v3 ≠ 0 := by
          rintro rfl
          rw [Nat.zero_mul] at w3
          rcases Nat.mul_eq_zero.mp w3.symm with h | h
          · exact hq h
          · have := Nat.two_pow_pos 1074; omega
        have R := (sub_right d1 d2).2 (by rw [v1, v2]; omega)
        rw [v1, v2, decide_eq_true (by omega)] at R
        have e1 : ((v : Int) - (v' : Int)).natAbs = v3 := by omega
        rw [e1] at R
        have hs := right_X (a := q) (j := j) R (by rw [Nat.mul_one]; exact w3) (by omega) hj (by decide)
        rw [hs]
        obtain ⟨m4, e4, d4, z4, w4⟩ := X_dec (neg := true) (a := q) (j := j) (by omega) hj
        have A := (add_right d4 d3).1
        have hv4 : val (ofFrac true q (2 ^ j)) = -(v3 : Int) := by
          have hpi : (0 : Int) < 2 ^ j := by
            have : ((2 ^ j : Nat) : Int) = (2 : Int) ^ j := by simp
            rw [← this]; exact Int.ofNat_lt.mpr hp
          refine Int.eq_of_mul_eq_mul_right (Int.ne_of_gt hpi) ?_
          rw [w4]
          have w3' : ((v3 * 2 ^ j : Nat) : Int) = ((q * 2 ^ 1074 : Nat) : Int) := by rw [w3]
          rw [Int.natCast_mul, Int.natCast_mul] at w3'
          have hpn : ∀ n : Nat, ((2 ^ n : Nat) : Int) = (2 : Int) ^ n := fun n => by simp
          rw [hpn, hpn] at w3'
          unfold sgn
          simp only [if_true]
          rw [Int.neg_mul, Int.neg_mul, w3']
        rw [A (by rw [hv4, v3']; omega), X_zero]; rfl
    have core : ∀ b : Bool, (if b = true then Float64.add (Float64.sub (X x j) (Float64.add (X t j) (X x j))) (X t j) else Float64.add (Float64.sub (X t j) (Float64.add (X t j) (X x j))) (X x j)) = X 0 j := by
      intro b
      rw [X_add htx hj]
      cases b
      · simp only [Bool.false_eq_true, if_false]; exact neg t x htx
      · simp only [if_true]; rw [Nat.add_comm t x]; exact neg x t (by omega)
    rw [core, X_add (by omega) hj]
  show Flt.sumBits [X b j, X c j] (Float64.add (ofInt 0) (X a j)) 0 = _
  rw [z', z, X_add (by omega) hj, Nat.zero_add, Flt.sumBits, step a b (by omega), X_add (by omega) hj, Flt.sumBits, step (a + b) c (by omega), X_add (by omega) hj, Flt.sumBits, X_zero]
  unfold PySem.W.Num.settled
  rw [if_neg (by decide +kernel)]
end Mine
set_option Elab.async false
set_option maxRecDepth 4000
namespace Mine
open PySem PySem.Float64

theorem lit0 : (0 : UInt64) = X 0 0 := by decide +kernel
theorem lit1 : (4607182418800017408 : UInt64) = X 1 0 := by decide +kernel
theorem lit2 : (4611686018427387904 : UInt64) = X 2 0 := by decide +kernel
theorem lit4 : (4616189618054758400 : UInt64) = X 4 0 := by decide +kernel
theorem lit6 : (4618441417868443648 : UInt64) = X 6 0 := by decide +kernel
theorem lith : (4602678819172646912 : UInt64) = X 1 1 := by decide +kernel

theorem bD_mul {a b c i j k : Nat} (h1 : a < 2 ^ 53) (h2 : b < 2 ^ 53) (hc : c < 2 ^ 53) (hi : i ≤ 1000) (hj : j ≤ 1000) (hk : k ≤ 1000) (hq : a * b * 2 ^ k = c * 2 ^ (i + j)) : binD .Mult (.flt (X a i)) (.flt (X b j)) = some (.flt (X c k)) := by
  rw [← X_mul h1 h2 hc hi hj hk hq]; rfl
theorem bD_sub {a b j : Nat} (h : a < 2 ^ 53) (hb : b ≤ a) (hj : j ≤ 1000) : binD .Sub (.flt (X a j)) (.flt (X b j)) = some (.flt (X (a - b) j)) := by
  rw [← X_sub h hb hj]; rfl
theorem bD_add {a b j : Nat} (h : a + b < 2 ^ 53) (hj : j ≤ 1000) : binD .Add (.flt (X a j)) (.flt (X b j)) = some (.flt (X (a + b) j)) := by
  rw [← X_add h hj]; rfl
theorem bD_div {a b c i j k : Nat} (h1 : a < 2 ^ 53) (h2 : b < 2 ^ 53) (hc : c < 2 ^ 53) (hi : i ≤ 1000) (hj : j ≤ 1000) (hk : k ≤ 1000) (hb : b ≠ 0) (hq : a * 2 ^ (j + k) = c * b * 2 ^ i) : binD .Div (.flt (X a i)) (.flt (X b j)) = some (.flt (X c k)) := by
  show (if isZero (X b j) = true then none else some (D.flt (div (X a i) (X b j)))) = _
  rw [X_isZero h2 hj hb, if_neg (by decide), X_div h1 h2 hc hi hj hk hb hq]
theorem bD_div' {a : UInt64} {b j : Nat} (h2 : b < 2 ^ 53) (hj : j ≤ 1000) (hb : b ≠ 0) : ∃ s, binD .Div (.flt a) (.flt (X b j)) = some (.flt s) := by
  refine ⟨div a (X b j), ?_⟩
  show (if isZero (X b j) = true then none else some (D.flt (div a (X b j)))) = _
  rw [X_isZero h2 hj hb, if_neg (by decide)]
theorem sm_nat {n : Nat} (h : n < 2 ^ 60) : sm (n : Int) = true := by
  unfold sm
  exact decide_eq_true (by simpa using h)
theorem X_int (n : Nat) : ofInt (n : Int) = X n 0 := by
  unfold ofInt X
  have : decide ((n : Int) < 0) = false := decide_eq_false (by omega)
  rw [this]
  rfl
theorem bD_idiv {a b c k : Nat} (hsm : a < 2 ^ 60) (hb : b ≠ 0) (hc : c < 2 ^ 53) (hk : k ≤ 1000) (hq : a * 2 ^ k = c * b) : binD .Div (.int (a : Int)) (.int (b : Int)) = some (.flt (X c k)) := by
  show (if ((b : Int) = 0) then none else if sm (a : Int) = true then some (D.flt (ofFrac (decide ((a : Int) < 0) != decide ((b : Int) < 0)) (a : Int).natAbs (b : Int).natAbs)) else none) = _
  rw [if_neg (by omega), if_pos (sm_nat hsm), decide_eq_false (by omega), decide_eq_false (by omega)]
  show some (D.flt (ofFrac false a b)) = _
  rw [X_frac (by omega) hc hk hq]
theorem fD_int {a j : Nat} (h1 : a < 2 ^ 53) (hj : j ≤ 1000) : fnD (.type "int") [.flt (X a j)] = some (.int ((a / 2 ^ j : Nat) : Int)) := by
  obtain ⟨m, e, hd, ht⟩ := X_trunc h1 hj
  show (match decode (X a j) with
      | .fin sg m e => some (D.int (truncOf sg m e))
      | _ => none) = _
  rw [hd, ← ht]
theorem bD_subi {a n j : Nat} (h : a < 2 ^ 53) (hb : n * 2 ^ j ≤ a) (hj : j ≤ 1000) : binD .Sub (.flt (X a j)) (.int (n : Int)) = some (.flt (X (a - n * 2 ^ j) j)) := by
  have hn : n < 2 ^ 53 := by
    have : n * 1 ≤ n * 2 ^ j := Nat.mul_le_mul_left _ (Nat.two_pow_pos j)
    omega
  show (if sm (n : Int) = true then some (D.flt (sub (X a j) (ofInt (n : Int)))) else none) = _
  rw [if_pos (sm_nat (by omega)), X_int, X_up (a := n) (i := 0) j (by omega) (by omega), Nat.zero_add, X_sub h hb hj]
theorem cD_eq {a b j : Nat} (h1 : a < 2 ^ 53) (h2 : b < 2 ^ 53) (hj : j ≤ 1000) : cmpD .Eq (.flt (X a j)) (.flt (X b j)) = some (decide (a = b)) := by
  show some (cmp (X a j) (X b j) == some .eq) = _
  rw [X_cmp h1 h2 hj]
  congr 1
  rw [Bool.eq_iff_iff]
  simp
theorem cD_le {a b j : Nat} (h1 : a < 2 ^ 53) (h2 : b < 2 ^ 53) (hj : j ≤ 1000) : cmpD .LtE (.flt (X a j)) (.flt (X b j)) = some (decide (a ≤ b)) := by
  show some (cmp (X a j) (X b j) == some .lt || cmp (X a j) (X b j) == some .eq) = _
  rw [X_cmp h1 h2 hj]
  congr 1
  rw [Bool.eq_iff_iff]
  rcases Nat.lt_trichotomy a b with h | h | h
  · rw [Nat.compare_eq_lt.mpr h]; simp; omega
  · subst h; simp
  · rw [Nat.compare_eq_gt.mpr h]; simp; omega
theorem lt_X {a b j : Nat} (h1 : a < 2 ^ 53) (h2 : b < 2 ^ 53) (hj : j ≤ 1000) : (cmp (X a j) (X b j) == some Ordering.lt) = decide (a < b) := by
  rw [X_cmp h1 h2 hj]
  rw [Bool.eq_iff_iff]
  rcases Nat.lt_trichotomy a b with h | h | h
  · rw [Nat.compare_eq_lt.mpr h]; simp; omega
  · subst h; simp
  · rw [Nat.compare_eq_gt.mpr h]; simp; omega
theorem fD_max {a b c m j : Nat} (h1 : a < 2 ^ 53) (h2 : b < 2 ^ 53) (h3 : c < 2 ^ 53) (hj : j ≤ 1000) (hm : m = max a (max b c)) : fnD (.builtin "max") [.flt (X a j), .flt (X b j), .flt (X c j)] = some (.flt (X m j)) := by
  subst hm
  show some (D.flt (if gtF (X b j) (X a j) then (if gtF (X c j) (X b j) then X c j else X b j) else (if gtF (X c j) (X a j) then X c j else X a j))) = _
  unfold gtF
  rw [lt_X h1 h2 hj, lt_X h2 h3 hj, lt_X h1 h3 hj]
  congr 2
  by_cases q1 : a < b <;> by_cases q2 : b < c <;> by_cases q3 : a < c <;> simp [q1, q2, q3] <;> congr 1 <;> omega
theorem fD_min {a b c m j : Nat} (h1 : a < 2 ^ 53) (h2 : b < 2 ^ 53) (h3 : c < 2 ^ 53) (hj : j ≤ 1000) (hm : m = min a (min b c)) : fnD (.builtin "min") [.flt (X a j), .flt (X b j), .flt (X c j)] = some (.flt (X m j)) := by
  subst hm
  show some (D.flt (if ltF (X b j) (X a j) then (if ltF (X c j) (X b j) then X c j else X b j) else (if ltF (X c j) (X a j) then X c j else X a j))) = _
  unfold ltF
  rw [lt_X h2 h1 hj, lt_X h3 h2 hj, lt_X h3 h1 hj]
  congr 2
  by_cases q1 : b < a <;> by_cases q2 : c < b <;> by_cases q3 : c < a <;> simp [q1, q2, q3] <;> congr 1 <;> omega

/-- how far the three parts lie below the most, in 32nds of the range, for the hue of k 64ths -/
def us (k : Nat) : Nat × Nat × Nat := match (3 * k / 32) % 6 with
  | 0 => (0, 32 - 3 * k % 32, 32)
  | 1 => (3 * k % 32, 0, 32)
  | 2 => (32, 0, 32 - 3 * k % 32)
  | 3 => (32, 3 * k % 32, 0)
  | 4 => (32 - 3 * k % 32, 32, 0)
  | _ => (0, 32, 3 * k % 32)
def col (V S u : Nat) : UInt64 := X (V * (128 - S * u)) 11
def hueF (u : Nat × Nat × Nat) : UInt64 :=
  (divmod (div (if u.1 = 0 then sub (X u.2.2 5) (X u.2.1 5) else if u.2.1 = 0 then sub (add (X 2 0) (X u.1 5)) (X u.2.2 5) else sub (add (X 4 0) (X u.2.1 5)) (X u.1 5)) (X 6 0)) (X 1 0)).2
theorem hue_all : (List.range 64).all (fun k => hueF (us k) == X k 6) = true := by decide +kernel
theorem us_all : (List.range 64).all (fun k => (us k).1 ≤ 32 && (us k).2.1 ≤ 32 && (us k).2.2 ≤ 32 && ((us k).1 == 0 || (us k).2.1 == 0 || (us k).2.2 == 0) && ((us k).1 == 32 || (us k).2.1 == 32 || (us k).2.2 == 32)
  && us ((k + 32) % 64) == (32 - (us k).1, 32 - (us k).2.1, 32 - (us k).2.2)) = true := by decide +kernel
theorem us_mod (k : Nat) : us (k % 64) = us k := by
  unfold us
  have e0 : 3 * k / 32 = 6 * (k / 64) + 3 * (k % 64) / 32 := by omega
  have e1 : (3 * (k % 64) / 32) % 6 = (3 * k / 32) % 6 := by omega
  have e2 : 3 * (k % 64) % 32 = 3 * k % 32 := by omega
  rw [e1, e2]
theorem us_ok (k : Nat) : ((us k).1 ≤ 32 ∧ (us k).2.1 ≤ 32 ∧ (us k).2.2 ≤ 32) ∧ ((us k).1 = 0 ∨ (us k).2.1 = 0 ∨ (us k).2.2 = 0) ∧ ((us k).1 = 32 ∨ (us k).2.1 = 32 ∨ (us k).2.2 = 32) := by
  have := List.all_eq_true.mp us_all (k % 64) (List.mem_range.mpr (Nat.mod_lt _ (by decide)))
  rw [us_mod] at this
  simp only [Bool.and_eq_true, Bool.or_eq_true, decide_eq_true_eq, beq_iff_eq] at this
  obtain ⟨⟨⟨⟨⟨a, b⟩, c⟩, d⟩, e⟩, _⟩ := this
  exact ⟨⟨a, b, c⟩, by rcases d with (d | d) | d <;> simp [d], by rcases e with (d | d) | d <;> simp [d]⟩
theorem us_opp (k : Nat) : us (k + 32) = (32 - (us k).1, 32 - (us k).2.1, 32 - (us k).2.2) := by
  have := List.all_eq_true.mp us_all (k % 64) (List.mem_range.mpr (Nat.mod_lt _ (by decide)))
  rw [us_mod] at this
  simp only [Bool.and_eq_true, beq_iff_eq] at this
  rw [← this.2]
  rw [us_mod, ← us_mod (k % 64 + 32), ← us_mod (k + 32)]
  congr 1
  omega
theorem hue_ok (k : Nat) : hueF (us k) = X (k % 64) 6 := by
  have := List.all_eq_true.mp hue_all (k % 64) (List.mem_range.mpr (Nat.mod_lt _ (by decide)))
  rw [us_mod] at this
  exact eq_of_beq this
end Mine
set_option Elab.async false
set_option maxRecDepth 4000
namespace Mine
open PySem PyProof.Rows

/-- a text by its signs -/
def ofL (l : List Nat) : Str := ⟨l.toArray⟩
theorem ofL_toList (l : List Nat) : (ofL l).cps.toList = l := by simp [ofL]
theorem ofL_eq (s : Str) : s = ofL s.cps.toList := by cases s; simp [ofL]
theorem ofL_inj {a b : List Nat} (h : ofL a = ofL b) : a = b := by rw [← ofL_toList a, h, ofL_toList]
theorem ofL_beq (a b : List Nat) : (ofL a == ofL b) = (a == b) := by
  rw [Bool.eq_iff_iff, beq_iff_eq, beq_iff_eq]
  exact ⟨ofL_inj, fun h => by rw [h]⟩
theorem ofL_length (l : List Nat) : (ofL l).length = l.length := by simp [ofL, Str.length]
theorem str_eq {s t : Str} (h : s.cps.toList = t.cps.toList) : s = t := by rw [ofL_eq s, ofL_eq t, h]
theorem ofL_append (a b : List Nat) : ofL a ++ ofL b = ofL (a ++ b) := by
  refine str_eq ?_
  rw [Str.cps_append, Array.toList_append, ofL_toList, ofL_toList, ofL_toList]
theorem join_ofL' : ∀ (ls : List (List Nat)), Str.join (ofL []) (ls.map ofL) = ofL ls.flatten
  | [] => rfl
  | [x] => by simp [Str.join]
  | x :: y :: q => by
    show ofL x ++ ofL [] ++ Str.join (ofL []) ((y :: q).map ofL) = _
    rw [join_ofL' (y :: q), ofL_append, ofL_append]
    simp
theorem join_ofL (ls : List (List Nat)) : Txt.join (ofL []) (ls.map ofL) = ofL ls.flatten := by
  unfold Txt.join
  rw [StrLaws.glued_eq_join, join_ofL']

/-- one sign replaced -/
def rep (c : Nat) (z : List Nat) (l : List Nat) : List Nat := l.flatMap fun k => if k = c then z else [k]
theorem rep_append (c : Nat) (z a b : List Nat) : rep c z (a ++ b) = rep c z a ++ rep c z b := by simp [rep]
theorem rep_free (c : Nat) (z : List Nat) : ∀ l : List Nat, c ∉ l → rep c z l = l
  | [], _ => rfl
  | k :: r, h => by
    have h1 : ¬ k = c := fun e => h (e ▸ List.mem_cons_self ..)
    have h2 : c ∉ r := fun m => h (List.mem_cons_of_mem _ m)
    have ih := rep_free c z r h2
    unfold rep at ih ⊢
    rw [List.flatMap_cons, if_neg h1, ih]; rfl
theorem rep_join (c : Nat) (z : Str) : ∀ parts : List Str, (∀ p ∈ parts, c ∉ p.cps.toList) → rep c z.cps.toList (Str.join ⟨#[c]⟩ parts).cps.toList = (Str.join z parts).cps.toList
  | [], _ => rfl
  | [p], h => rep_free c _ _ (h p (List.mem_singleton.mpr rfl))
  | p :: q :: r, h => by
    have ih := rep_join c z (q :: r) fun a ha => h a (List.mem_cons_of_mem _ ha)
    show rep c _ (p ++ ⟨#[c]⟩ ++ Str.join ⟨#[c]⟩ (q :: r)).cps.toList = (p ++ z ++ Str.join z (q :: r)).cps.toList
    simp only [Str.cps_append, Array.toList_append]
    rw [rep_append, rep_append, ih, rep_free c _ _ (h p (List.mem_cons_self ..))]
    congr 2
    simp [rep]
theorem replace_rep (c : Nat) (z l : List Nat) : Txt.replace (ofL l) (ofL [c]) (ofL z) = ofL (rep c z l) := by
  refine str_eq ?_
  have e : ofL [c] = ⟨#[c]⟩ := rfl
  rw [e, StrLaws.replace_one, ← rep_join c _ _ (StrLaws.split_free _ c), StrLaws.join_split, ofL_toList, ofL_toList, ofL_toList]
theorem rep_len (c : Nat) (z l : List Nat) (hz : 1 ≤ z.length) : (rep c z l).length ≤ z.length * l.length := by
  induction l with
  | nil => simp [rep]
  | cons k r ih =>
    unfold rep at ih ⊢
    rw [List.flatMap_cons, List.length_append, List.length_cons, Nat.mul_succ]
    split
    · omega
    · rw [List.length_singleton]; omega
theorem contains_ofL (c : Nat) (l : List Nat) : Txt.contains (ofL l) (ofL [c]) = decide (c ∈ l) := by
  have := StrLaws.found_one (ofL l) c
  rw [ofL_toList] at this
  exact this
theorem in_at (s : Str) (c : Nat) (hs : s = ofL [c]) (l : List Nat) : cmpD .In (.str s) (.str (ofL l)) = some (decide (c ∈ l)) := by
  rw [hs, ← contains_ofL]; rfl
theorem repl_at (s t : Str) (c : Nat) (z : List Nat) (hs : s = ofL [c]) (ht : t = ofL z) (hne : [c] ≠ z) (hz : z.length ≤ 14) (l : List Nat) (hl : l.length ≤ 1048576) : replD (.str (ofL l)) s t = some (.str (ofL (rep c z l))) := by
  show (if s ≠ t ∧ (ofL l).length ≤ 1048576 ∧ t.length ≤ 14 then some (D.str (Txt.replace (ofL l) s t)) else none) = _
  rw [if_pos, hs, ht, replace_rep]
  rw [hs, ht]
  refine ⟨fun h => hne (ofL_inj h), ?_, ?_⟩
  · rw [ofL_length]; exact hl
  · rw [ofL_length]; exact hz
theorem upd_upd (ρ : Rho) (x : Str) (a b : D) : upd (upd ρ x a) x b = upd ρ x b := by
  funext y
  unfold upd
  split <;> rfl
/-- one step of an escape -/
theorem esc_step (ρ : Rho) (x : Str) (c : Nat) (z l : List Nat) : (if decide (c ∈ l) = true then some (Fl.next [] (upd (upd ρ x (.str (ofL l))) x (.str (ofL (rep c z l))))) else some (Fl.next [] (upd ρ x (.str (ofL l))))) = some (Fl.next [] (upd ρ x (.str (ofL (rep c z l))))) := by
  split
  · rw [upd_upd]
  · rename_i h
    rw [rep_free c z l (fun h' => h (decide_eq_true h'))]

/-- the five escapes -/
def escS : Nat → List (Nat × List Nat)
  | 0 => [(38, [38, 97, 109, 112, 59]), (60, [38, 108, 116, 59]), (62, [38, 103, 116, 59])]
  | 1 => [(38, [38, 97, 109, 112, 59]), (60, [38, 108, 116, 59]), (62, [38, 103, 116, 59]), (34, [38, 113, 117, 111, 116, 59]), (13, [38, 35, 49, 51, 59]), (10, [38, 35, 49, 48, 59]), (9, [38, 35, 48, 57, 59])]
  | 2 => [(38, [38, 97, 109, 112, 59]), (62, [38, 103, 116, 59]), (34, [38, 113, 117, 111, 116, 59])]
  | 3 => [(38, [38, 97, 109, 112, 59]), (60, [38, 108, 116, 59]), (62, [38, 103, 116, 59]), (13, [38, 35, 120, 68, 59])]
  | _ => [(38, [38, 97, 109, 112, 59]), (60, [38, 108, 116, 59]), (34, [38, 113, 117, 111, 116, 59]), (9, [38, 35, 120, 57, 59]), (10, [38, 35, 120, 65, 59]), (13, [38, 35, 120, 68, 59])]
def escN (ps : List (Nat × List Nat)) (l : List Nat) : List Nat := ps.foldl (fun l p => rep p.1 p.2 l) l
theorem escN_append : ∀ (ps : List (Nat × List Nat)) (a b : List Nat), escN ps (a ++ b) = escN ps a ++ escN ps b
  | [], _, _ => rfl
  | p :: ps, a, b => by
    show escN ps (rep p.1 p.2 (a ++ b)) = escN ps (rep p.1 p.2 a) ++ escN ps (rep p.1 p.2 b)
    rw [rep_append]
    exact escN_append ps _ _
theorem escN_nil : ∀ (ps : List (Nat × List Nat)), escN ps [] = []
  | [] => rfl
  | p :: ps => escN_nil ps
theorem escN_flat (ps : List (Nat × List Nat)) : ∀ l : List Nat, escN ps l = l.flatMap fun c => escN ps [c]
  | [] => escN_nil ps
  | c :: r => by
    rw [List.flatMap_cons, ← escN_flat ps r, ← escN_append]; rfl

/- more of the symbolic run -/
section
variable {G : Rho} {Φ : Addr → List D → Option D} {n m : Nat} {sc : Names} {ρ : Rho} {σ : Sg} {own : Str → Bool} {F : Ev}
theorem st_Try (b : List Stmt) (h : ExceptHandler) (hs : List ExceptHandler) (p : Pos) : stD G F sc own (m + 1) σ ρ (.Try b (h :: hs) [] [] p) = blD (stD G F sc own m) b σ ρ := rfl
theorem forD_nil (t : Expr) (body : Sg → Rho → Option Fl) : forD sc t body [] σ ρ = some (.next σ ρ) := rfl
def contF (sc : Names) (t : Expr) (body : Sg → Rho → Option Fl) (r : List D) : Fl → Option Fl
  | .next σ ρ => forD sc t body r σ ρ
  | .ret d => some (.ret d)
theorem contF_next (t : Expr) (body : Sg → Rho → Option Fl) (r : List D) : contF sc t body r (.next σ ρ) = forD sc t body r σ ρ := rfl
theorem contF_ret (t : Expr) (body : Sg → Rho → Option Fl) (r : List D) (d : D) : contF sc t body r (.ret d) = some (.ret d) := rfl
theorem forD_cons (t : Expr) (body : Sg → Rho → Option Fl) (d : D) (r : List D) : forD sc t body (d :: r) σ ρ = (bindS sc t d σ ρ).bind fun q => (body q.1 q.2).bind (contF sc t body r) := by
  show (match bindS sc t d σ ρ with
    | none => none
    | some (σ1, ρ1) => match body σ1 ρ1 with
      | some (.next σ' ρ') => forD sc t body r σ' ρ'
      | some (.ret d) => some (.ret d)
      | none => none) = _
  cases bindS sc t d σ ρ with
  | none => rfl
  | some q =>
    simp only [Option.bind_some]
    cases body q.1 q.2 with
    | none => rfl
    | some x => cases x <;> rfl
def contW (T : Sg → Rho → Option Bool) (body : Sg → Rho → Option Fl) (k : Nat) : Fl → Option Fl
  | .next σ ρ => whileD T body k σ ρ
  | .ret d => some (.ret d)
theorem whileD_step (T : Sg → Rho → Option Bool) (body : Sg → Rho → Option Fl) (k : Nat) : whileD T body (k + 1) σ ρ = (T σ ρ).bind fun b => if b = true then (body σ ρ).bind (contW T body k) else some (.next σ ρ) := by
  show (match T σ ρ with
    | some true => match body σ ρ with
      | some (.next σ' ρ') => whileD T body k σ' ρ'
      | some (.ret d) => some (.ret d)
      | none => none
    | some false => some (.next σ ρ)
    | none => none) = _
  cases T σ ρ with
  | none => rfl
  | some b =>
    cases b
    · rfl
    · simp only [Option.bind_some, if_true]
      cases body σ ρ with
      | none => rfl
      | some x => cases x <;> rfl
theorem st_While (t : Expr) (b : List Stmt) (p : Pos) : stD G F sc own (m + 1) σ ρ (.While t b [] p) = whileD (fun σ ρ => tstD F sc (vis σ ρ) t) (blD (stD G F sc own m) b) 64 σ ρ := rfl
end
end Mine
set_option Elab.async false
set_option maxRecDepth 4000
namespace Mine
open PySem PyProof.Rows PySem.W PySem.Spec

section
variable {G : Rho} {Φ : Addr → List D → Option D} {n m : Nat} {sc : Names} {ρ : Rho} {σ : Sg} {own : Str → Bool} {F : Ev}

theorem kindF : (ScopeKind.function == ScopeKind.function) = true := rfl
def freeB : Option NameKind → Bool
  | some .cell => true
  | some .free => true
  | _ => false
def dbgB (x : String) : Bool := !(x == "__debug__") && !(x == "__classdict__")
theorem dbg_eq (x : String) : (decide (Str.ofString x ≠ ("__debug__" : Str)) && decide (Str.ofString x ≠ ("__classdict__" : Str))) = dbgB x := by
  unfold dbgB
  congr 1 <;> rw [Bool.eq_iff_iff] <;> simp [ofs_inj]
theorem nameOk_local (x : String) : nameOk sc (Str.ofString x, .local) = dbgB x := by
  rw [← dbg_eq]; unfold nameOk; simp
theorem nameOk_cell (x : String) : nameOk sc (Str.ofString x, .cell) = dbgB x := by
  rw [← dbg_eq]; unfold nameOk; simp
theorem nameOk_glob (x : String) : nameOk sc (Str.ofString x, .globalImplicit) = dbgB x := by
  rw [← dbg_eq]; unfold nameOk; simp
theorem nameOk_free (x : String) : nameOk sc (Str.ofString x, .free) = (dbgB x && freeB (sc.lookup (Str.ofString x))) := by
  rw [← dbg_eq]
  unfold nameOk freeB
  simp only
  all_goals
    cases List.lookup (Str.ofString x) sc with
    | none => rfl
    | some k => cases k <;> rfl
theorem lookup_at {β : Type} (a b : String) (k : β) (r : List (Str × β)) : List.lookup (Str.ofString b) ((Str.ofString a, k) :: r) = if b = a then some k else List.lookup (Str.ofString b) r := by
  rw [List.lookup_cons, ofs_beq]
  by_cases h : b = a
  · subst h; simp
  · have : (b == a) = false := by simpa using h
    rw [this, if_neg h]
theorem freeB1 : freeB (some .cell) = true := rfl
theorem freeB2 : freeB (some .free) = true := rfl
def nodB : List Str → Bool
  | [] => true
  | x :: r => !(r.any fun y => y == x) && nodB r
theorem nod_eq : ∀ l : List Str, decide l.Nodup = nodB l
  | [] => by simp [nodB]
  | x :: r => by
    rw [nodB, ← nod_eq r, Bool.eq_iff_iff]
    simp only [List.nodup_cons, decide_eq_true_eq, Bool.and_eq_true, Bool.not_eq_true', List.any_eq_false, beq_iff_eq]
    constructor
    · rintro ⟨h, h'⟩; exact ⟨fun y hy e => h (e ▸ hy), h'⟩
    · rintro ⟨h, h'⟩; exact ⟨fun hx => h x hx rfl, h'⟩
theorem compOk_eq (sc : Names) (gens : List Comprehension) (scope : Scope) : compOk sc gens scope = (((scope.kind == .function) && scope.names.all (nameOk sc) && nodB (scope.names.map Prod.fst)) && gens.all fun g => g.is_async == 0) := by
  unfold compOk scopeOk
  rw [nod_eq]
theorem closRho_nil (x : Str) : closRho ρ [] x = none := rfl
theorem freshT_name (x : Str) (p : Pos) : freshT ρ (.Name x p) = (ρ x).isNone := rfl
theorem freshT_tup (x y : Str) (p q r : Pos) (k : Nat) : freshT ρ (.Tuple [.Name x p, .Name y q] k r) = ((ρ x).isNone && ((ρ y).isNone && true)) := rfl
theorem isTup_name (x : Str) (p : Pos) : isTup (.Name x p) = false := rfl
theorem isTup_tup (es : List Expr) (k : Nat) (p : Pos) : isTup (.Tuple es k p) = true := rfl
theorem tgB_name (x : Str) (p : Pos) : tgB (.Name x p) = true := rfl
theorem tgB_tup (es : List Expr) (k : Nat) (p : Pos) : tgB (.Tuple es k p) = true := rfl
theorem items_Name (tup : Bool) (x : Str) (p : Pos) : itemsD G F sc ρ tup (.Name x p) = listD tup (F sc ρ (.Name x p)) := rfl
theorem items_List (tup : Bool) (x : List Expr) (p : Pos) : itemsD G F sc ρ tup (.List x p) = listD tup (F sc ρ (.List x p)) := rfl
theorem items_Sub (tup : Bool) (x y : Expr) (p : Pos) : itemsD G F sc ρ tup (.Subscript x y p) = listD tup (F sc ρ (.Subscript x y p)) := rfl
theorem items_Call (tup : Bool) (f : Str) (p q : Pos) (args : List Expr) : itemsD G F sc ρ tup (.Call (.Name f p) args [] q) = if isTy (nameD G sc ρ f) "range" = true then (if tup = true then none else (evsD (F sc ρ) args).bind rangeD)
    else if isTy (nameD G sc ρ f) "zip" = true then (if tup = true then (evsD (F sc ρ) args).bind zipD else none)
    else listD tup (F sc ρ (.Call (.Name f p) args [] q)) := rfl
theorem isTy_type (t n : String) : isTy (some (.val (.type t))) n = (t == n) := rfl
theorem isTy_blt (t n : String) : isTy (some (.val (.builtin t))) n = false := rfl
theorem isTy_ref (a : Addr) (n : String) : isTy (some (.val (.ref a))) n = false := rfl
theorem listD_lst (l : List D) : listD false (some (.lst l)) = some l := rfl
theorem listD_lst' (l : List D) : listD true (some (.lst l)) = some l := rfl
theorem listD_dci (l : List (Int × D)) : listD false (some (.dci l)) = some (l.map fun p => .int p.1) := rfl
theorem listD_str (l : List Nat) : listD false (some (.str (ofL l))) = some (l.map fun c => .str (ofL [c])) := by
  show some ((ofL l).cps.toList.map fun c => D.str ⟨#[c]⟩) = _
  rw [ofL_toList]; rfl
theorem range1 : rangeD [.int 1] = some [.int 0] := rfl
theorem range2 : rangeD [.int 2] = some [.int 0, .int 1] := rfl
theorem range3 : rangeD [.int 3] = some [.int 0, .int 1, .int 2] := rfl
theorem range4 : rangeD [.int 4] = some [.int 0, .int 1, .int 2, .int 3] := rfl
theorem range5 : rangeD [.int 5] = some [.int 0, .int 1, .int 2, .int 3, .int 4] := rfl
theorem range25 : rangeD [.int 2, .int 5] = some [.int 2, .int 3, .int 4] := rfl
theorem zipD_eq (x y : List D) : zipD [.lst x, .lst y] = some ((x.zip y).map fun p => .tup [p.1, p.2]) := rfl
theorem forItems_map {α β : Type} (f : D → Option (List α)) (h : β → D) (g : β → List α) : ∀ (l : List β), (∀ c ∈ l, f (h c) = some (g c)) → forItems f (l.map h) = some (l.flatMap g)
  | [], _ => rfl
  | c :: r, q => by
    rw [List.map_cons, forItems_cons, q c (List.mem_cons_self ..), forItems_map f h g r fun e he => q e (List.mem_cons_of_mem _ he)]
    rfl
end

/-- texts -/
theorem strsD_map : ∀ ls : List (List Nat), strsD (ls.map fun x => .str (ofL x)) = some (ls.map ofL)
  | [] => rfl
  | x :: r => by
    show (strsD (r.map fun x => D.str (ofL x))).map (ofL x :: ·) = _
    rw [strsD_map r]; rfl
theorem join_D (s : Str) (hs : s = ofL []) (ls : List (List Nat)) (h : (ls.map List.length).sum + ls.length ≤ 1048576) : methD (Str.ofString "join") (.str s) [.lst (ls.map fun x => .str (ofL x))] = some (.str (ofL ls.flatten)) := by
  have e : methD (Str.ofString "join") (.str s) [.lst (ls.map fun x => .str (ofL x))] = match strsD (ls.map fun x => .str (ofL x)) with
        | some ys => if s.length ≤ 16 ∧ (ys.map (·.length)).sum + ys.length ≤ 1048576 then some (.str (Txt.join s ys)) else none
        | none => none := by
    unfold methD
    simp only [if_pos]
    all_goals (cases strsD (ls.map fun x => D.str (ofL x)) <;> rfl)
  rw [e, strsD_map]
  simp only
  rw [if_pos, hs, join_ofL]
  subst hs
  refine ⟨by decide, ?_⟩
  rw [List.map_map, List.length_map]
  have : ((fun x : Str => x.length) ∘ ofL) = List.length := by funext l; exact ofL_length l
  rw [this]; exact h
theorem iff_nat {a b : Nat} : (((a : Nat) : Int) == ((b : Nat) : Int)) = decide (a = b) := by
  rw [Bool.eq_iff_iff]; simp; omega
/-- whole numbers -/
theorem bI_add (a b : Nat) : binD .Add (.int (a : Int)) (.int (b : Int)) = some (.int ((a + b : Nat) : Int)) := by
  show some (D.int ((a : Int) + b)) = _; congr 2
theorem bI_mul (a b : Nat) (h : a < 2 ^ 60) : binD .Mult (.int (a : Int)) (.int (b : Int)) = some (.int ((a * b : Nat) : Int)) := by
  show (if sm (a : Int) = true then some (D.int ((a : Int) * b)) else none) = _
  rw [if_pos (sm_nat h)]; congr 2
theorem bI_mod (a b : Nat) (h : b ≠ 0) : binD .Mod (.int (a : Int)) (.int (b : Int)) = some (.int ((a % b : Nat) : Int)) := by
  show (if (b : Int) = 0 then none else some (D.int ((a : Int).fmod b))) = _
  rw [if_neg (by omega), Int.fmod_eq_emod_of_nonneg _ (by omega)]; congr 2
theorem bI_fdiv (a b : Nat) (h : b ≠ 0) (hb : b < 2 ^ 60) : binD .FloorDiv (.int (a : Int)) (.int (b : Int)) = some (.int ((a / b : Nat) : Int)) := by
  show (if (b : Int) = 0 then none else if sm (b : Int) = true then some (D.int ((a : Int).fdiv b)) else none) = _
  rw [if_neg (by omega), if_pos (sm_nat hb), Int.fdiv_eq_ediv_of_nonneg _ (by omega)]; congr 2
theorem cI_eq (a b : Nat) : cmpD .Eq (.int (a : Int)) (.int (b : Int)) = some (decide (a = b)) := by
  show some (((a : Nat) : Int) == ((b : Nat) : Int)) = _
  rw [iff_nat]
theorem cI_gt (a b : Nat) : cmpD .Gt (.int (a : Int)) (.int (b : Int)) = some (decide (a > b)) := by
  show some (decide ((a : Int) > b)) = _
  congr 1
  rw [Bool.eq_iff_iff]; simp
theorem seq_nat {i n : Nat} (h : i < n) : seqIndex? (i : Int) n = some i := by
  unfold seqIndex?
  simp
  omega
theorem idx_lst (l : List D) (i : Nat) (h : i < l.length) (hl : l.length < 2 ^ 60) : idxD (.lst l) (.int (i : Int)) = some l[i] := by
  show (if sm (i : Int) = true then (seqIndex? (i : Int) l.length).bind (l[·]?) else none) = _
  rw [if_pos (sm_nat (by omega)), seq_nat h]
  simp [h]
theorem idx_tup (l : List D) (i : Nat) (h : i < l.length) (hl : l.length < 2 ^ 60) : idxD (.tup l) (.int (i : Int)) = some l[i] := by
  show (if sm (i : Int) = true then (seqIndex? (i : Int) l.length).bind (l[·]?) else none) = _
  rw [if_pos (sm_nat (by omega)), seq_nat h]
  simp [h]
theorem idx_str (s : Str) (l : List Nat) (hs : s = ofL l) (i : Nat) (h : i < l.length) (hl : l.length < 2 ^ 60) : idxD (.str s) (.int (i : Int)) = some (.str (ofL [l[i]])) := by
  subst hs
  show (if sm (i : Int) = true then (Txt.charAt (ofL l) (i : Int)).map (fun c => D.str ⟨#[c]⟩) else none) = _
  rw [if_pos (sm_nat (by omega))]
  unfold Txt.charAt
  rw [ofL_length, seq_nat h]
  have : (ofL l).cps[i]? = some l[i] := by simp [ofL, h]
  simp only [Option.bind_some, this]
  rfl
theorem fD_chr (c : Nat) (h : c ≤ 0x10FFFF) : fnD (.builtin "chr") [.int (c : Int)] = some (.str (ofL [c])) := by
  show (if 0 ≤ (c : Int) ∧ (c : Int) ≤ 0x10FFFF then some (D.str ⟨#[(c : Int).toNat]⟩) else none) = _
  rw [if_pos ⟨by omega, by omega⟩]
  rfl
theorem fD_ord (c : Nat) : fnD (.builtin "ord") [.str (ofL [c])] = some (.int (c : Int)) := rfl
end Mine
set_option Elab.async false
set_option maxRecDepth 4000
namespace Mine
open PySem PyProof.Rows PySem.W PySem.Spec

def pmapN (b3 : List (Int × Str)) (c : Nat) : List Nat := match b3.find? (fun p => p.1 = (c : Int)) with
  | some p => p.2.cps.toList
  | none => (Txt.lower (ofL [c])).cps.toList
def pchN (b1 : List Int) (b3 : List (Int × Str)) (c : Nat) : List Nat := if (c : Int) ∈ b1 then [] else pmapN b3 c
def prepOk (b1 : List Int) (b3 : List (Int × Str)) (c : Nat) : Bool := decide ((c : Int) ∈ b1) || decide ((pmapN b3 c).length ≤ 18)
def prepN (b1 : List Int) (b3 : List (Int × Str)) (l : List Nat) : List Nat := l.flatMap (pchN b1 b3)
theorem dget_b3 (b3 : List (Int × Str)) (k : Int) : dget (b3.map fun p => (p.1, D.str p.2)) k = (b3.find? (fun p => p.1 = k)).map fun p => .str p.2 := by
  unfold dget
  induction b3 with
  | nil => rfl
  | cons p r ih =>
    rw [List.map_cons, List.find?_cons, List.find?_cons]
    by_cases h : p.1 = k
    · simp [h]
    · simp only [h, decide_false]; exact ih
theorem get_some {b3 : List (Int × Str)} {c : Nat} {p : Int × Str} (h : b3.find? (fun p => p.1 = (c : Int)) = some p) : methD (Str.ofString "get") (.dci (b3.map fun p => (p.1, D.str p.2))) [.int (c : Int)] = some (.str p.2) := by
  have e : methD (Str.ofString "get") (.dci (b3.map fun p => (p.1, D.str p.2))) [.int (c : Int)] = some ((dget (b3.map fun p => (p.1, D.str p.2)) (c : Int)).getD .none) := by
    unfold methD
    simp only [if_pos]
  rw [e, dget_b3, h]; rfl
theorem get_none {b3 : List (Int × Str)} {c : Nat} (h : b3.find? (fun p => p.1 = (c : Int)) = none) : methD (Str.ofString "get") (.dci (b3.map fun p => (p.1, D.str p.2))) [.int (c : Int)] = some .none := by
  have e : methD (Str.ofString "get") (.dci (b3.map fun p => (p.1, D.str p.2))) [.int (c : Int)] = some ((dget (b3.map fun p => (p.1, D.str p.2)) (c : Int)).getD .none) := by
    unfold methD
    simp only [if_pos]
  rw [e, dget_b3, h]; rfl
theorem lower_D (x : Str) (h : (Txt.lower x).length ≤ 1000) : methD (Str.ofString "lower") (.str x) [] = some (.str (Txt.lower x)) := by
  have e : methD (Str.ofString "lower") (.str x) [] = if (Txt.lower x).length ≤ 1000 then some (.str (Txt.lower x)) else none := by
    have hne : Str.ofString "lower" ≠ Str.ofString "join" := fun h => by rw [ofs_inj] at h; exact absurd h (by decide)
    unfold methD
    simp only [if_neg hne, if_pos]
  rw [e, if_pos h]
theorem isnot_str (s : Str) : cmpD .IsNot (.str s) .none = some true := rfl
theorem isnot_none : cmpD .IsNot .none .none = some false := rfl
theorem in_set (c : Nat) (b1 : List Int) : cmpD .In (.int (c : Int)) (.iset b1) = some (decide ((c : Int) ∈ b1)) := rfl
end Mine
set_option Elab.async false
set_option maxRecDepth 8000
namespace Mine
open PySem PyProof.Rows PySem.W PySem.Spec

theorem getD_lt {α : Type} {l : List α} {i : Nat} {d : α} (h : i < l.length) : l.getD i d = l[i] := by simp [List.getD, h]
theorem getD_ge {α : Type} {l : List α} {i : Nat} {d : α} (h : l.length ≤ i) : l.getD i d = d := by simp [List.getD, h]
def spL : List Nat := [38, 60, 62, 34, 13, 10, 9]
def grL : List Nat := [65, 119808, 119860, 119912, 120016, 120172, 120224, 120276, 120328, 120380, 120432]
def b1S : List Nat := [173, 847, 6150, 6155, 6156, 6157, 8203, 8204, 8205, 8288, 65279]
def svC : List Nat := [223, 64256, 64257, 64258, 64259, 64260, 64262, 8481, 13202, 13255]
def svM : List (List Nat) := [[115, 115], [102, 102], [102, 105], [102, 108], [102, 102, 105], [102, 102, 108], [115, 116], [116, 101, 108], [109, 104, 122], [99, 111, 46]]
/-- a sign and what it means -/
def signN (n : Nat) : Nat × List Nat := match n % 5 with
  | 0 => (spL.getD (n / 5 % 7) 0, [spL.getD (n / 5 % 7) 0])
  | 1 => (grL.getD (n / 5 / 26 % 11) 0 + n / 5 % 26, [97 + n / 5 % 26])
  | 2 => (svC.getD (n / 5 % 10) 0, svM.getD (n / 5 % 10) [])
  | 3 => if n / 5 % 27 > 10 then (65013 + n / 5 % 27, []) else (b1S.getD (n / 5 % 27) 0, [])
  | _ => (97 + n / 5 % 26, [97 + n / 5 % 26])
/-- all of them -/
def kinds : List (Nat × List Nat) := (List.range 7).map (fun i => (spL.getD i 0, [spL.getD i 0])) ++ ((List.range 11).flatMap fun a => (List.range 26).map fun b => (grL.getD a 0 + b, [97 + b])) ++ (List.range 10).map (fun i => (svC.getD i 0, svM.getD i [])) ++
  (List.range 27).map (fun i => if i > 10 then (65013 + i, []) else (b1S.getD i 0, [])) ++ (List.range 26).map fun b => (97 + b, [97 + b])
theorem sign_kind (n : Nat) : signN n ∈ kinds := by
  have h5 : n % 5 = 0 ∨ n % 5 = 1 ∨ n % 5 = 2 ∨ n % 5 = 3 ∨ n % 5 = 4 := by omega
  unfold kinds signN
  simp only [List.mem_append]
  rcases h5 with h | h | h | h | h <;> rw [h] <;> simp only
  · exact .inl (.inl (.inl (.inl (List.mem_map.mpr ⟨n / 5 % 7, List.mem_range.mpr (Nat.mod_lt _ (by decide)), rfl⟩))))
  · exact .inl (.inl (.inl (.inr (List.mem_flatMap.mpr ⟨n / 5 / 26 % 11, List.mem_range.mpr (Nat.mod_lt _ (by decide)), List.mem_map.mpr ⟨n / 5 % 26, List.mem_range.mpr (Nat.mod_lt _ (by decide)), rfl⟩⟩))))
  · exact .inl (.inl (.inr (List.mem_map.mpr ⟨n / 5 % 10, List.mem_range.mpr (Nat.mod_lt _ (by decide)), rfl⟩)))
  · exact .inl (.inr (List.mem_map.mpr ⟨n / 5 % 27, List.mem_range.mpr (Nat.mod_lt _ (by decide)), rfl⟩))
  · exact .inr (List.mem_map.mpr ⟨n / 5 % 26, List.mem_range.mpr (Nat.mod_lt _ (by decide)), rfl⟩)
theorem idx_strN (s : Str) (l : List Nat) (hs : s = ofL l) (i : Nat) (h : i < l.length) (hl : l.length < 2 ^ 60) : idxD (.str s) (.int (i : Int)) = some (.str (ofL [l.getD i 0])) := by
  rw [idx_str s l hs i h hl, getD_lt h]
theorem idx_lstN (l : List Nat) (i : Nat) (h : i < l.length) (hl : l.length < 2 ^ 60) : idxD (.lst (l.map fun n : Nat => .int (n : Int))) (.int (i : Int)) = some (.int (l.getD i 0 : Nat)) := by
  rw [idx_lst _ i (by rw [List.length_map]; exact h) (by rw [List.length_map]; exact hl), List.getElem_map, getD_lt h]
theorem idx_lstS (l : List (List Nat)) (i : Nat) (h : i < l.length) (hl : l.length < 2 ^ 60) : idxD (.lst (l.map fun n => .str (ofL n))) (.int (i : Int)) = some (.str (ofL (l.getD i []))) := by
  rw [idx_lst _ i (by rw [List.length_map]; exact h) (by rw [List.length_map]; exact hl), List.getElem_map, getD_lt h]
theorem grB (i : Nat) : grL.getD i 0 ≤ 120432 := by
  rcases Nat.lt_or_ge i 11 with h | h
  · have : ∀ i < 11, grL.getD i 0 ≤ 120432 := by decide
    exact this i h
  · rw [getD_ge (by show 11 ≤ i; exact h)]; decide
theorem b1B (i : Nat) : b1S.getD i 0 ≤ 65279 := by
  rcases Nat.lt_or_ge i 11 with h | h
  · have : ∀ i < 11, b1S.getD i 0 ≤ 65279 := by decide
    exact this i h
  · rw [getD_ge (by show 11 ≤ i; exact h)]; decide
theorem grD : ([65, 119808, 119860, 119912, 120016, 120172, 120224, 120276, 120328, 120380, 120432].map fun i : Int => D.int i) = grL.map fun n : Nat => .int (n : Int) := rfl
theorem b1D : ([173, 847, 6150, 6155, 6156, 6157, 8203, 8204, 8205, 8288, 65279].map fun i : Int => D.int i) = b1S.map fun n : Nat => .int (n : Int) := rfl
end Mine
set_option Elab.async false
set_option maxRecDepth 8000
namespace Mine
open PySem PyProof.Rows PySem.W PySem.Spec

section
variable {G : Rho} {Φ : Addr → List D → Option D} {n m : Nat} {sc : Names} {ρ : Rho} {σ : Sg} {own : Str → Bool} {F : Ev}
theorem vis_one (a b : String) (l : List D) : vis [(Str.ofString a, l)] ρ (Str.ofString b) = if b = a then none else ρ (Str.ofString b) := by
  unfold vis
  rw [lookup_at]
  by_cases h : b = a
  · rw [if_pos h, if_pos h]
  · rw [if_neg h, if_neg h]; rfl
theorem drp_one (a b : String) (l : List D) : drp (Str.ofString a) [(Str.ofString b, l)] = if b = a then [] else [(Str.ofString b, l)] := by
  unfold drp
  by_cases h : b = a
  · subst h; simp
  · rw [if_neg h]
    have : Str.ofString b ≠ Str.ofString a := fun e => h ((ofs_inj _ _).mp e)
    simp [this]
theorem thawR_one (a : String) (l : List D) : thawR (fun _ => true) [(Str.ofString a, l)] ρ = upd ρ (Str.ofString a) (.lst l) := by
  funext y
  unfold thawR upd
  by_cases h : y = Str.ofString a
  · subst h; simp [List.lookup]
  · have : (y == Str.ofString a) = false := by simpa using h
    simp [List.lookup, h, this]
theorem thawS_one (p : Str × List D) : thawS (fun _ => true) [p] = [] := rfl
theorem noneOwned_one (a x : String) (l : List D) (p : Pos) (es : List Expr) : noneOwned [(Str.ofString a, l)] (.Name (Str.ofString x) p :: es) = (!(x == a) && noneOwned [(Str.ofString a, l)] es) := by
  unfold noneOwned
  rw [List.all_cons]
  congr 1
  show (match nameE (.Name (Str.ofString x) p) with | some x => (List.lookup x [(Str.ofString a, l)]).isNone | none => false) = _
  simp only [nameE]
  rw [lookup_at]
  by_cases h : x = a
  · subst h; simp
  · simp [h]
theorem noneOwned_one0 (a : Str) (l : List D) : noneOwned [(a, l)] [] = true := rfl
theorem append_one (a : String) (l : List D) (e : Expr) : appendD F sc [(Str.ofString a, l)] ρ (Str.ofString a) e = (F sc (vis [(Str.ofString a, l)] ρ) e).bind fun d => if l.length < 1000000 ∧ sc.lookup (Str.ofString a) = some .local then some ([(Str.ofString a, l ++ [d])], ρ) else none := by
  have e1 : thawS (fun y => decide (y ≠ Str.ofString a) && occ y 6 e) [(Str.ofString a, l)] = [(Str.ofString a, l)] := by
    unfold thawS; simp
  have e2 : thawR (fun y => decide (y ≠ Str.ofString a) && occ y 6 e) [(Str.ofString a, l)] ρ = ρ := by
    funext y
    unfold thawR
    by_cases h : y = Str.ofString a
    · subst h; simp
    · have : (y == Str.ofString a) = false := by simpa using h
      simp [List.lookup, this]
  unfold appendD
  rw [e1, e2, lookup_at, if_pos rfl]
  have e3 : drp (Str.ofString a) [(Str.ofString a, l)] = [] := by rw [drp_one, if_pos rfl]
  simp only
  rw [e3]
  cases F sc (vis [(Str.ofString a, l)] ρ) e <;> rfl
theorem st_Append (x name : Str) (xp apos cp p : Pos) (e : Expr) : stD G F sc own (m + 1) σ ρ (.Expr (.Call (.Attribute (.Name x xp) name apos) [e] [] cp) p) = if name = Str.ofString "append" ∧ (apos.endLine == cp.line) = true then (appendD F sc σ ρ x e).bind fun q => some (.next q.1 q.2) else none := by
  show (if name = "append" ∧ (apos.endLine == cp.line) = true then match appendD F sc σ ρ x e with
        | some p => some (Fl.next p.1 p.2)
        | none => none
      else none) = _
  split
  · cases appendD F sc σ ρ x e <;> rfl
  · rfl
/-- a filter -/
theorem forItems_filter {β : Type} (f : D → Option (List D)) (h : β → D) (p : β → Bool) : ∀ (l : List β), (∀ c ∈ l, f (h c) = some (if p c = true then [h c] else [])) → forItems f (l.map h) = some ((l.filter p).map h)
  | [], _ => rfl
  | c :: r, q => by
    rw [List.map_cons, forItems_cons, q c (List.mem_cons_self ..), forItems_filter f h p r fun e he => q e (List.mem_cons_of_mem _ he)]
    rw [List.filter_cons]
    cases p c <;> rfl
theorem intsD_map : ∀ l : List Int, intsD (l.map .int) = some l
  | [] => rfl
  | x :: r => by
    show (intsD (r.map D.int)).map (x :: ·) = _
    rw [intsD_map r]; rfl
end
end Mine
set_option Elab.async false
set_option maxRecDepth 8000
namespace Mine
open PySem PyProof.Rows PySem.W PySem.Spec

/-- how a loop ends -/
def Ends (o : Option Fl) (P : Sg → Rho → Prop) : Prop := ∃ σ ρ, o = some (.next σ ρ) ∧ P σ ρ
theorem Ends_next (σ : Sg) (ρ : Rho) (P : Sg → Rho → Prop) : Ends (some (.next σ ρ)) P = P σ ρ := by
  apply propext
  constructor
  · rintro ⟨σ', ρ', e, h⟩; cases e; exact h
  · intro h; exact ⟨σ, ρ, rfl, h⟩
def iterN {α : Type} (step : α → Option (Option α)) : Nat → α → Option α
  | 0, _ => none
  | k + 1, a => match step a with
    | none => none
    | some none => some a
    | some (some a') => iterN step k a'
theorem while_ind {α : Type} {T : Sg → Rho → Option Bool} {B : Sg → Rho → Option Fl} (Inv : α → Sg → Rho → Prop) (step : α → Option (Option α))
    (stop : ∀ a σ ρ, Inv a σ ρ → step a = some none → T σ ρ = some false) (go : ∀ a a' σ ρ, Inv a σ ρ → step a = some (some a') → T σ ρ = some true ∧ Ends (B σ ρ) (Inv a')) :
    ∀ (k : Nat) (a a' : α) (σ : Sg) (ρ : Rho), Inv a σ ρ → iterN step k a = some a' → Ends (whileD T B k σ ρ) (Inv a')
  | 0, _, _, _, _, _, h => by cases h
  | k + 1, a, a', σ, ρ, hI, h => by
    unfold iterN at h
    split at h
    · cases h
    · rename_i hs
      cases h
      rw [whileD_step, stop a σ ρ hI hs]
      exact ⟨σ, ρ, rfl, hI⟩
    · rename_i b hs
      obtain ⟨ht, σ1, ρ1, hb, hI1⟩ := go a b σ ρ hI hs
      rw [whileD_step, ht, Option.bind_some, if_pos rfl, hb, Option.bind_some]
      exact while_ind Inv step stop go k b a' σ1 ρ1 hI1 h
theorem Ends.bind {o : Option Fl} {f : Fl → Option Fl} {P Q : Sg → Rho → Prop} (h : Ends o P) (hf : ∀ σ ρ, P σ ρ → Ends (f (.next σ ρ)) Q) : Ends (o.bind f) Q := by
  obtain ⟨σ, ρ, rfl, hp⟩ := h
  exact hf σ ρ hp
theorem Ends.bindD {α : Type} {o : Option Fl} {f : Fl → Option α} {P : Sg → Rho → Prop} {x : Option α} (h : Ends o P) (hf : ∀ σ ρ, P σ ρ → f (.next σ ρ) = x) : o.bind f = x := by
  obtain ⟨σ, ρ, rfl, hp⟩ := h
  exact hf σ ρ hp

/-- the game of Y, by spots and their stones -/
abbrev Cells := List (Nat × Nat)
def adjN (a b : Nat) : Bool := let d := (a - b) + (b - a); d == 1 || d == 8 || d == 9
def nearN (g0 gd : Nat × Nat) (free : Cells) : Cells := free.filter fun q => q.2 == g0.2 && adjN q.1 gd.1
def restN (near free : Cells) : Cells := free.filter fun q => !(near.any fun t => t.1 == q.1)
def innerStep (s : Cells × Cells × Nat) : Option (Option (Cells × Cells × Nat)) :=
  if s.1.length + s.2.1.length ≤ 100 then match s.1[s.2.2]?, s.1 with
    | some gd, g0 :: _ => some (some (s.1 ++ nearN g0 gd s.2.1, restN (nearN g0 gd s.2.1) s.2.1, s.2.2 + 1))
    | _, _ => some none
  else none
def leftN (p : Nat) (q : Nat × Nat) : Bool := q.1 % 8 == p
def rightN (r p : Nat) (q : Nat × Nat) : Bool := q.1 / 8 + p == r + q.1 % 8
def belowN (r s : Nat) (q : Nat × Nat) : Bool := q.1 / 8 + 1 == r + s
def outerStep (r p s : Nat) (a : Cells × List Nat) : Option (Option (Cells × List Nat)) := match a.1 with
  | [] => some none
  | g0 :: free => match iterN innerStep 64 ([g0], free, 0) with
    | none => none
    | some (grp, free', _) => if a.2.length ≤ 100 then some (some (free', if grp.any (leftN p) && grp.any (rightN r p) && grp.any (belowN r s) then a.2 ++ [g0.2] else a.2)) else none
def playN (r p s : Nat) (free : Cells) : Option (List Nat) := (iterN (outerStep r p s) 64 (free, [])).map (·.2)
def spotsN (r p s : Nat) : List Nat := (List.range s).flatMap fun down => (List.range (down + 1)).map fun along => 8 * (r + down) + p + along
def maj (a b c : Nat) : Nat := if a + b + c ≥ 2 then 1 else 0
def bits (n : Nat) : List (List Nat) := match n with
  | 0 => [[]]
  | n + 1 => (bits n).flatMap fun l => [0 :: l, 1 :: l]
theorem mem_bits : ∀ (l : List Nat), (∀ b ∈ l, b < 2) → l ∈ bits l.length
  | [], _ => List.mem_singleton.mpr rfl
  | b :: r, h => by
    have ih := mem_bits r fun x hx => h x (List.mem_cons_of_mem _ hx)
    have hb := h b (List.mem_cons_self ..)
    show b :: r ∈ (bits r.length).flatMap fun l => [0 :: l, 1 :: l]
    rw [List.mem_flatMap]
    refine ⟨r, ih, ?_⟩
    have : b = 0 ∨ b = 1 := by omega
    rcases this with rfl | rfl <;> simp
def y2 : List Nat → Nat
  | [a, b, c] => maj a b c
  | _ => 0
def y3 : List Nat → Nat
  | [a, b, c, d, e, f] => maj (maj a b c) (maj b d e) (maj c e f)
  | _ => 0
def y4 : List Nat → Nat
  | [a, b, c, d, e, f, g, h, i, j] => maj (y3 [a, b, c, d, e, f]) (y3 [b, d, e, g, h, i]) (y3 [c, e, f, h, i, j])
  | _ => 0
theorem play2 : ((bits 3).all fun b => ([(0, 0), (1, 0), (1, 1), (2, 0), (2, 1), (2, 2)] : List (Nat × Nat)).all fun q => playN q.1 q.2 2 ((spotsN q.1 q.2 2).zip b) == some [y2 b]) = true := by decide +kernel
theorem play3 : ((bits 6).all fun b => ([(0, 0), (1, 0), (1, 1)] : List (Nat × Nat)).all fun q => playN q.1 q.2 3 ((spotsN q.1 q.2 3).zip b) == some [y3 b]) = true := by decide +kernel
theorem play4 : ((bits 10).all fun b => playN 0 0 4 ((spotsN 0 0 4).zip b) == some [y4 b]) = true := by decide +kernel
end Mine
set_option Elab.async false
set_option maxRecDepth 8000
namespace Mine
open PySem PyProof.Rows PySem.W PySem.Spec

def cD (l : Cells) : List D := l.map fun q : Nat × Nat => .int (q.1 : Int)
theorem filt_ends {β : Type} {f : D → Option (List D)} {h : β → D} {l : List β} {K : List D → Option Fl} {P : Sg → Rho → Prop} (p : β → Bool) (hf : ∀ c ∈ l, f (h c) = some (if p c = true then [h c] else [])) (hk : Ends (K ((l.filter p).map h)) P) : Ends ((forItems f (l.map h)).bind K) P := by
  rw [forItems_filter f h p l hf]; exact hk
theorem filt_eq {β α : Type} {f : D → Option (List D)} {h : β → D} {l : List β} {K : List D → Option α} {x : Option α} (p : β → Bool) (hf : ∀ c ∈ l, f (h c) = some (if p c = true then [h c] else [])) (hk : K ((l.filter p).map h) = x) : (forItems f (l.map h)).bind K = x := by
  rw [forItems_filter f h p l hf]; exact hk
theorem cD_cat (x y : Cells) (h : x.length + y.length ≤ 1000) : binD .Add (.lst (cD x)) (.lst (cD y)) = some (.lst (cD (x ++ y))) := by
  show (if (cD x).length + (cD y).length ≤ 1048576 then some (D.lst (cD x ++ cD y)) else none) = _
  unfold cD
  rw [List.length_map, List.length_map, if_pos (by omega), List.map_append]
theorem cD_idx (x : Cells) (i : Nat) (q : Nat × Nat) (h : x[i]? = some q) (hx : x.length ≤ 1000) : idxD (.lst (cD x)) (.int (i : Int)) = some (.int (q.1 : Int)) := by
  obtain ⟨hi, he⟩ := List.getElem?_eq_some_iff.mp h
  unfold cD
  rw [idx_lst _ i (by rw [List.length_map]; exact hi) (by rw [List.length_map]; omega), List.getElem_map, he]
theorem cD_ints : ∀ x : Cells, intsD (cD x) = some (x.map fun q => (q.1 : Int))
  | [] => rfl
  | q :: r => by
    show (intsD (cD r)).map ((q.1 : Int) :: ·) = _
    rw [cD_ints r]; rfl
theorem cD_notin (x : Cells) (c : Nat) : cmpD .NotIn (.int (c : Int)) (.lst (cD x)) = some (!(x.any fun t => t.1 == c)) := by
  show ((intsD (cD x)).map fun l => decide ((c : Int) ∈ l)).map (! ·) = _
  rw [cD_ints]
  show some (!(decide ((c : Int) ∈ x.map fun q => (q.1 : Int)))) = _
  congr 2
  rw [Bool.eq_iff_iff]
  simp only [decide_eq_true_eq, List.mem_map, List.any_eq_true, beq_iff_eq]
  constructor
  · rintro ⟨q, hq, e⟩; exact ⟨q, hq, by omega⟩
  · rintro ⟨q, hq, e⟩; exact ⟨q, hq, by omega⟩
theorem cD_ne (x : Cells) : cmpD .NotEq (.lst (cD x)) (.lst []) = some (!x.isEmpty) := by
  show (match intsD (cD x), intsD [] with | some a, some b => some (!decide (a = b)) | _, _ => none) = _
  rw [cD_ints]
  cases x <;> rfl
theorem cD_len (x : Cells) (h : x.length ≤ 1000) : fnD (.builtin "len") [.lst (cD x)] = some (.int (x.length : Nat)) := by
  show (if (cD x).length ≤ sizeLine then some (D.int ((cD x).length : Nat)) else none) = _
  unfold cD
  rw [List.length_map, if_pos]
  have : sizeLine = 2 ^ 24 := rfl
  omega
theorem cI_lt (a b : Nat) : cmpD .Lt (.int (a : Int)) (.int (b : Int)) = some (decide (a < b)) := by
  show some (decide ((a : Int) < b)) = _
  congr 1
  rw [Bool.eq_iff_iff]; simp
theorem adj_D (a b : Nat) : ((binD .Sub (.int (a : Int)) (.int (b : Int))).bind fun y => (fnD (.builtin "abs") [y]).bind fun y => cmpD .In y (.tup [.int 1, .int 8, .int 9])) = some (adjN a b) := by
  show some (decide ((if (a : Int) - b < 0 then -((a : Int) - b) else (a : Int) - b) ∈ [(1 : Int), 8, 9])) = _
  congr 1
  unfold adjN
  rw [Bool.eq_iff_iff]
  simp only [decide_eq_true_eq, List.mem_cons, List.not_mem_nil, or_false, Bool.or_eq_true, beq_iff_eq]
  split <;> omega
theorem left_D (a p : Nat) : ((binD .Mod (.int (a : Int)) (.int 8)).bind fun y => cmpD .Eq y (.int (p : Int))) = some (a % 8 == p) := by
  have : binD .Mod (.int (a : Int)) (.int 8) = some (.int ((a % 8 : Nat) : Int)) := bI_mod a 8 (by decide)
  rw [this, Option.bind_some, cI_eq]
  congr 1
theorem right_D (a r p : Nat) : ((binD .FloorDiv (.int (a : Int)) (.int 8)).bind fun y => (binD .Mod (.int (a : Int)) (.int 8)).bind fun z => (binD .Sub y z).bind fun x => (binD .Sub (.int (r : Int)) (.int (p : Int))).bind fun w => cmpD .Eq x w) = some (a / 8 + p == r + a % 8) := by
  have e1 : binD .Mod (.int (a : Int)) (.int 8) = some (.int ((a % 8 : Nat) : Int)) := bI_mod a 8 (by decide)
  have e2 : binD .FloorDiv (.int (a : Int)) (.int 8) = some (.int ((a / 8 : Nat) : Int)) := bI_fdiv a 8 (by decide) (by decide)
  rw [e2, Option.bind_some, e1, Option.bind_some]
  show some ((((a / 8 : Nat) : Int) - ((a % 8 : Nat) : Int)) == ((r : Int) - p)) = _
  congr 1
  rw [Bool.eq_iff_iff, beq_iff_eq, beq_iff_eq]
  omega
theorem below_D (a r s : Nat) : ((binD .FloorDiv (.int (a : Int)) (.int 8)).bind fun y => (binD .Add (.int (r : Int)) (.int (s : Int))).bind fun x => (binD .Sub x (.int 1)).bind fun w => cmpD .Eq y w) = some (a / 8 + 1 == r + s) := by
  have e2 : binD .FloorDiv (.int (a : Int)) (.int 8) = some (.int ((a / 8 : Nat) : Int)) := bI_fdiv a 8 (by decide) (by decide)
  rw [e2, Option.bind_some]
  show some (((a / 8 : Nat) : Int) == ((r : Int) + s - 1)) = _
  congr 1
  rw [Bool.eq_iff_iff, beq_iff_eq, beq_iff_eq]
  omega
end Mine
set_option Elab.async false
set_option maxRecDepth 8000
namespace Mine
open PySem PyProof.Rows PySem.W PySem.Spec

theorem fD_sum3 {a b c j : Nat} (h : a + b + c < 2 ^ 53) (hj : j ≤ 1000) : fnD (.builtin "sum") [.lst [.flt (X a j), .flt (X b j), .flt (X c j)]] = some (.fw (X (a + b + c) j)) := by
  rw [← X_sum h hj]; rfl
theorem bD_fdiv4 {a j : Nat} (h : a < 2 ^ 53) (hj : j ≤ 900) : binD .Div (.fw (X a j)) (.int 4) = some (.flt (X a (j + 2))) := by
  show (if (4 : Int) = 0 then none else if sm 4 = true then some (D.flt (Float64.div (X a j) (Float64.ofInt ((4 : Nat) : Int)))) else none) = _
  rw [if_neg (by decide), if_pos (by decide), X_int]
  rw [X_div (c := a) (k := j + 2) h (by decide) h (by omega) (by decide) (by omega) (by decide)]
  rw [Nat.zero_add, Nat.pow_add]
  have : (2 : Nat) ^ 2 = 4 := by decide
  rw [this]; ac_rfl
theorem sumI0 : fnD (.builtin "sum") [.lst []] = some (.int 0) := rfl
theorem sumI1 (a : Nat) : fnD (.builtin "sum") [.lst [.int (a : Int)]] = some (.int (a : Int)) := by
  show some (D.int ([(a : Int)].sum)) = _
  congr 2
theorem sumI2 (a b : Nat) : fnD (.builtin "sum") [.lst [.int (a : Int), .int (b : Int)]] = some (.int ((a + b : Nat) : Int)) := by
  show some (D.int ([(a : Int), (b : Int)].sum)) = _
  congr 2
theorem sumI3 (a b c : Nat) : fnD (.builtin "sum") [.lst [.int (a : Int), .int (b : Int), .int (c : Int)]] = some (.int ((a + b + c : Nat) : Int)) := by
  show some (D.int ([(a : Int), (b : Int), (c : Int)].sum)) = _
  congr 2; simp; omega
theorem sumT2 (a b : Nat) : fnD (.builtin "sum") [.tup [.int (a : Int), .int (b : Int)]] = some (.int ((a + b : Nat) : Int)) := by
  show some (D.int ([(a : Int), (b : Int)].sum)) = _
  congr 2
theorem eq_one (a b : Nat) : cmpD .Eq (.lst [.int (a : Int)]) (.lst [.int (b : Int)]) = some (decide (a = b)) := by
  show some ((((a : Nat) : Int) == ((b : Nat) : Int)) && true) = _
  rw [iff_nat, Bool.and_true]
theorem ne_one (a b : Nat) : cmpD .NotEq (.lst [.int (a : Int)]) (.lst [.int (b : Int)]) = some (!decide (a = b)) := by
  show some (!decide ([(a : Int)] = [(b : Int)])) = _
  congr 2
  rw [Bool.eq_iff_iff]; simp; omega
/-- what belongs to the kind -/
def partN (m b l : Nat) : Nat := if b = m then l else 0
def rest' (m b l : Nat) : Nat := if b = m then 0 else l
theorem dget_map {β : Type} (v : β → D) (k : β → Nat) (q : β) : ∀ (l : List β), q ∈ l → (∀ x ∈ l, k x = k q → v x = v q) → dget (l.map fun x => ((k x : Int), v x)) (k q : Int) = some (v q)
  | [], h, _ => by cases h
  | x :: r, h, hv => by
    by_cases e : k x = k q
    · unfold dget
      rw [List.map_cons, List.find?_cons]
      simp only [e, decide_true]
      rw [← hv x (List.mem_cons_self ..) e]; rfl
    · have hq : q ∈ r := by
        rcases List.mem_cons.mp h with h | h
        · exact absurd (by rw [h]) e
        · exact h
      have ih := dget_map v k q r hq fun y hy => hv y (List.mem_cons_of_mem _ hy)
      unfold dget at ih ⊢
      rw [List.map_cons, List.find?_cons]
      have : decide ((k x : Int) = (k q : Int)) = false := decide_eq_false (by omega)
      rw [this]; exact ih
end Mine
set_option Elab.async false
set_option maxRecDepth 8000
namespace Mine
open PySem PyProof.Rows PySem.W PySem.Spec

def SN (l1 : Nat) : Nat := if l1 = 0 then 4 else 2
theorem chan (l0 l1 u : Nat) (h : l1 = 0 ∨ l1 = l0) : 2 * (l0 + l1) * (128 - SN l1 * u) = 256 * (l0 + l1) - 8 * (l0 * u) := by
  unfold SN
  by_cases h0 : l1 = 0
  · subst h0
    rw [if_pos rfl, Nat.add_zero, Nat.mul_sub, Nat.mul_mul_mul_comm]
    omega
  · have e : l1 = l0 := by omega
    subst e
    rw [if_neg h0, Nat.mul_sub]
    have e1 : 2 * (l1 + l1) = 4 * l1 := by omega
    rw [e1, Nat.mul_mul_mul_comm 4 l1 2 u]
    omega
/-- the part of a hue's opposite -/
def uo (b v : Nat) : Nat := if b = 0 then v else 32 - v
theorem maj_lt (a b c : Nat) : maj a b c < 2 := by unfold maj; split <;> omega
theorem mixsum (v b0 b1 b2 l0 l1 l2 k0 k1 k2 : Nat) (hv : v ≤ 32) (h0 : b0 < 2) (h1 : b1 < 2) (h2 : b2 < 2) (r0 : 3 ≤ l0 ∧ l0 ≤ 5) (r1 : 3 ≤ l1 ∧ l1 ≤ 5) (r2 : 3 ≤ l2 ∧ l2 ≤ 5) (A B : Nat)
    (hA : A = partN (maj b0 b1 b2) b0 l0 + partN (maj b0 b1 b2) b1 l1 + partN (maj b0 b1 b2) b2 l2) (hB : B = rest' (maj b0 b1 b2) b0 l0 + rest' (maj b0 b1 b2) b1 l1 + rest' (maj b0 b1 b2) b2 l2) :
    (256 * (l0 + k0) - 8 * (l0 * uo b0 v)) + (256 * (l1 + k1) - 8 * (l1 * uo b1 v)) + (256 * (l2 + k2) - 8 * (l2 * uo b2 v)) = 256 * (k0 + k1 + k2 + A) - 8 * (A - B) * uo (maj b0 b1 b2) v ∧ B < A ∧ A ≤ 15 ∧ A + B = l0 + l1 + l2 := by
  have t0 : l0 * v ≤ l0 * 32 := Nat.mul_le_mul_left _ hv
  have t1 : l1 * v ≤ l1 * 32 := Nat.mul_le_mul_left _ hv
  have t2 : l2 * v ≤ l2 * 32 := Nat.mul_le_mul_left _ hv
  have c0 : b0 = 0 ∨ b0 = 1 := by omega
  have c1 : b1 = 0 ∨ b1 = 1 := by omega
  have c2 : b2 = 0 ∨ b2 = 1 := by omega
  have m000 : maj 0 0 0 = 0 := rfl
  have m001 : maj 0 0 1 = 0 := rfl
  have m010 : maj 0 1 0 = 0 := rfl
  have m011 : maj 0 1 1 = 1 := rfl
  have m100 : maj 1 0 0 = 0 := rfl
  have m101 : maj 1 0 1 = 1 := rfl
  have m110 : maj 1 1 0 = 1 := rfl
  have m111 : maj 1 1 1 = 1 := rfl
  have s01 : l2 * v ≤ (l0 + l1) * v := Nat.mul_le_mul_right _ (by omega)
  have s02 : l1 * v ≤ (l0 + l2) * v := Nat.mul_le_mul_right _ (by omega)
  have s12 : l0 * v ≤ (l1 + l2) * v := Nat.mul_le_mul_right _ (by omega)
  have w01 : (l0 + l1 - l2) * v ≤ (l0 + l1 - l2) * 32 := Nat.mul_le_mul_left _ hv
  have w02 : (l0 + l2 - l1) * v ≤ (l0 + l2 - l1) * 32 := Nat.mul_le_mul_left _ hv
  have w12 : (l1 + l2 - l0) * v ≤ (l1 + l2 - l0) * 32 := Nat.mul_le_mul_left _ hv
  simp only [Nat.sub_mul, Nat.add_mul] at s01 s02 s12 w01 w02 w12
  subst hA hB
  rcases c0 with rfl | rfl <;> rcases c1 with rfl | rfl <;> rcases c2 with rfl | rfl
  all_goals
    simp only [m000, m001, m010, m011, m100, m101, m110, m111, uo, partN, rest', Nat.one_ne_zero, Nat.zero_ne_one, if_true, if_false, reduceIte, Nat.zero_add, Nat.add_zero]
    refine ⟨?_, by omega, by omega, by first | trivial | omega⟩
    simp only [Nat.mul_sub, Nat.sub_mul, Nat.mul_add, Nat.add_mul, Nat.mul_assoc]
    omega
theorem us_uo (base b : Nat) (hb : b < 2) : us (base + 32 * b) = (uo b (us base).1, uo b (us base).2.1, uo b (us base).2.2) := by
  have : b = 0 ∨ b = 1 := by omega
  rcases this with rfl | rfl
  · rfl
  · rw [us_opp]; rfl
def paintD (k l0 l1 : Nat) : D := .tup [.flt (col (2 * (l0 + l1)) (SN l1) (us k).1), .flt (col (2 * (l0 + l1)) (SN l1) (us k).2.1), .flt (col (2 * (l0 + l1)) (SN l1) (us k).2.2)]
def dueV (base m b0 b1 b2 l0 l1 l2 k0 k1 k2 : Nat) : D := .lst [.lst [.flt (X ((base + 32 * m) % 64) 6)], .lst [.flt (X ((base + 32 * m) % 64) 6)], .flt (X (k0 + k1 + k2 + (partN m b0 l0 + partN m b1 l1 + partN m b2 l2)) 5), .flt (X (2 * (k0 + k1 + k2) + (partN m b0 l0 + partN m b1 l1 + partN m b2 l2) + (rest' m b0 l0 + rest' m b1 l1 + rest' m b2 l2)) 6)]
theorem flt_same {a j : Nat} (h : a < 2 ^ 53) (hj : j ≤ 1000) (n : Nat) : eqD n (.flt (X a j)) (.flt (X a j)) = some true := by
  have e : ∀ n, eqD n (.flt (X a j)) (.flt (X a j)) = if X a j = X a j ∧ Float64.isNaN (X a j) = false then some true else none := fun n => by cases n <;> rfl
  rw [e, if_pos ⟨rfl, X_nan h hj⟩]
theorem due_same (base m b0 b1 b2 l0 l1 l2 k0 k1 k2 : Nat) (hl : l0 + l1 + l2 ≤ 1000) (hk : k0 + k1 + k2 ≤ 1000) : eqD 8 (dueV base m b0 b1 b2 l0 l1 l2 k0 k1 k2) (dueV base m b0 b1 b2 l0 l1 l2 k0 k1 k2) = some true := by
  have pl : ∀ (m b l : Nat), partN m b l ≤ l ∧ rest' m b l ≤ l := fun m b l => by unfold partN rest'; split <;> omega
  have p0 := pl m b0 l0
  have p1 := pl m b1 l1
  have p2 := pl m b2 l2
  have one : ∀ x : D, eqD 6 x x = some true → eqD 7 (.lst [x]) (.lst [x]) = some true := fun x h => by
    show (if 1 = 1 then all2 (eqD 6) [x] [x] else some false) = _
    rw [if_pos rfl]
    simp only [all2, h, Bool.and_self]
  unfold dueV
  have f1 := flt_same (a := (base + 32 * m) % 64) (j := 6) (by omega) (by decide)
  have f2 := flt_same (a := k0 + k1 + k2 + (partN m b0 l0 + partN m b1 l1 + partN m b2 l2)) (j := 5) (by omega) (by decide)
  have f3 := flt_same (a := 2 * (k0 + k1 + k2) + (partN m b0 l0 + partN m b1 l1 + partN m b2 l2) + (rest' m b0 l0 + rest' m b1 l1 + rest' m b2 l2)) (j := 6) (by omega) (by decide)
  generalize D.flt (X ((base + 32 * m) % 64) 6) = x at *
  generalize D.flt (X (k0 + k1 + k2 + (partN m b0 l0 + partN m b1 l1 + partN m b2 l2)) 5) = y at *
  generalize D.flt (X (2 * (k0 + k1 + k2) + (partN m b0 l0 + partN m b1 l1 + partN m b2 l2) + (rest' m b0 l0 + rest' m b1 l1 + rest' m b2 l2)) 6) = z at *
  have o := one x (f1 6)
  show (if 4 = 4 then all2 (eqD 7) [.lst [x], .lst [x], y, z] [.lst [x], .lst [x], y, z] else some false) = _
  rw [if_pos rfl]
  simp only [all2, o, f2 7, f3 7, Bool.and_self]
end Mine
set_option Elab.async false
set_option maxRecDepth 100000
namespace Mine
open PySem PySem.Calls PyProof.Rows PySem.W PySem.Spec
def defsR (p : Program) : List DefRec := ((behindTheImports p).filterMap recOf).reverse
def recAt (p : Program) (nm : Str) : Option DefRec := (defsR p).find? fun d => d.name = nm
end Mine
set_option Elab.async false
set_option maxRecDepth 100000
set_option maxHeartbeats 400000
namespace Mine
open PySem PySem.Calls PyProof.Rows PySem.W PySem.Spec PySem.Challenge
def runR (r : Option DefRec) (G : Rho) (Φ : Addr → List D → Option D) (own : Str → Bool) (ds : List D) : Option D := r.bind fun t => fnD' G Φ 30 30 own (fnNamesOf t) t.body t.scope ds
def after (nm : Str) : List DefRec → List DefRec
  | [] => []
  | d :: r => if d.name = nm then r else after nm r
theorem after_sub (nm : Str) : ∀ (l : List DefRec), ∀ d ∈ after nm l, d ∈ l
  | [], _, h => h
  | d :: r, e, h => by
    unfold after at h
    split at h
    · exact List.mem_cons_of_mem _ h
    · exact List.mem_cons_of_mem _ (after_sub nm r e h)
theorem phiL_head {G : Rho} {ad : Str → Addr} {own : Str → Str → Bool} {N : Nat} (d : DefRec) (l : List DefRec) (args : List D) : phiL G ad own N (d :: l) (ad d.name) args = fnD' G (phiL G ad own N l) N N (own d.name) (fnNamesOf d) d.body d.scope args := if_pos rfl
theorem phiL_tail {G : Rho} {ad : Str → Addr} {own : Str → Str → Bool} {N : Nat} (d : DefRec) (l : List DefRec) (a : Addr) (args : List D) (h : a ≠ ad d.name) : phiL G ad own N (d :: l) a args = phiL G ad own N l a args := if_neg h
theorem after_head {nm : Str} {d : DefRec} {l : List DefRec} (h : d.name = nm) : after nm (d :: l) = l := if_pos h
theorem after_tail {nm : Str} {d : DefRec} {l : List DefRec} (h : ¬ d.name = nm) : after nm (d :: l) = after nm l := if_neg h
theorem recOf_stmt {st : Stmt} {d : DefRec} (h : recOf st = some d) : st = d.stmt := by
  unfold recOf at h
  split at h
  · split at h
    · rename_i hq
      subst hq
      cases h
      rfl
    · cases h
  · cases h
theorem phi_find {G : Rho} {ad : Str → Addr} {own : Str → Str → Bool} {nm : Str} : ∀ {l : List DefRec} {r : Option DefRec}, (∀ x ∈ l.map (·.name), ∀ y ∈ l.map (·.name), ad x = ad y → x = y) → (l.find? fun d => d.name = nm) = r → r.isSome = true → ∀ args, phiL G ad own 30 l (ad nm) args = runR r G (phiL G ad own 30 (after nm l)) (own nm) args
  | [], r, _, h, hs, _ => by subst h; cases hs
  | d :: l, r, inj, h, hs, args => by
    rw [List.find?_cons] at h
    by_cases e : d.name = nm
    · simp only [e, decide_true] at h
      subst h
      subst e
      rw [after_head rfl]
      exact phiL_head d l args
    · simp only [e, decide_false] at h
      have hin : nm ∈ l.map (·.name) := by
        subst h
        obtain ⟨x, hx⟩ := Option.isSome_iff_exists.mp hs
        have h1 := List.mem_of_find?_eq_some hx
        have h2 : x.name = nm := of_decide_eq_true (List.find?_some (p := fun d : DefRec => decide (d.name = nm)) hx)
        exact List.mem_map.mpr ⟨x, h1, h2⟩
      have ne : ad nm ≠ ad d.name := fun z => e (inj nm (List.mem_cons_of_mem _ hin) d.name (List.mem_cons_self ..) z).symm
      have ih := phi_find (G := G) (own := own) (nm := nm) (l := l) (r := r) (fun x hx y hy => inj x (List.mem_cons_of_mem _ hx) y (List.mem_cons_of_mem _ hy)) h hs args
      rw [phiL_tail d l (ad nm) args ne, after_tail e]
      exact ih
theorem inj_after {ad : Str → Addr} {l : List DefRec} (nm : Str) (inj : ∀ x ∈ l.map (·.name), ∀ y ∈ l.map (·.name), ad x = ad y → x = y) : ∀ x ∈ (after nm l).map (·.name), ∀ y ∈ (after nm l).map (·.name), ad x = ad y → x = y := fun x hx y hy => by
  obtain ⟨d, hd, rfl⟩ := List.mem_map.mp hx
  obtain ⟨e, he, rfl⟩ := List.mem_map.mp hy
  exact inj _ (List.mem_map.mpr ⟨d, after_sub nm l d hd, rfl⟩) _ (List.mem_map.mpr ⟨e, after_sub nm l e he, rfl⟩)
theorem defs_mem {p : Program} (hall : (defsR p).all recOkB = true) : ∀ e ∈ defsR p, (e.stmt ∈ behindTheImports p ∧ recOf e.stmt = some e) ∧ recOkB e := fun e he => by
  refine ⟨?_, List.all_eq_true.mp hall e he⟩
  unfold defsR at he
  rw [List.mem_reverse, List.mem_filterMap] at he
  obtain ⟨st, hst, hr⟩ := he
  have := recOf_stmt hr
  rw [← this]
  exact ⟨hst, hr⟩
end Mine
set_option Elab.async false
set_option maxRecDepth 100000
set_option maxHeartbeats 4000000
namespace Mine
open PySem PySem.Calls PyProof.Rows PySem.W PySem.Spec PySem.Challenge
def r_rgb_to_hls : { t : Option DefRec // recAt pw_ty0061_01 "rgb_to_hls" = t } := by
  refine ⟨?t, ?h⟩
  case h =>
    conv => lhs; whnf
def r_rgb_to_hsv : { t : Option DefRec // recAt pw_ty0061_01 "rgb_to_hsv" = t } := by
  refine ⟨?t, ?h⟩
  case h =>
    conv => lhs; whnf
def r_hsv_to_rgb : { t : Option DefRec // recAt pw_ty0061_01 "hsv_to_rgb" = t } := by
  refine ⟨?t, ?h⟩
  case h =>
    conv => lhs; whnf
def r_in_table_b1 : { t : Option DefRec // recAt pw_ty0061_01 "in_table_b1" = t } := by
  refine ⟨?t, ?h⟩
  case h =>
    conv => lhs; whnf
def r_map_table_b3 : { t : Option DefRec // recAt pw_ty0061_01 "map_table_b3" = t } := by
  refine ⟨?t, ?h⟩
  case h =>
    conv => lhs; whnf
def r_escape_cdata : { t : Option DefRec // recAt pw_ty0061_01 "_escape_cdata" = t } := by
  refine ⟨?t, ?h⟩
  case h =>
    conv => lhs; whnf
def r_escape_attrib : { t : Option DefRec // recAt pw_ty0061_01 "_escape_attrib" = t } := by
  refine ⟨?t, ?h⟩
  case h =>
    conv => lhs; whnf
def r_escape_attrib_html : { t : Option DefRec // recAt pw_ty0061_01 "_escape_attrib_html" = t } := by
  refine ⟨?t, ?h⟩
  case h =>
    conv => lhs; whnf
def r_escape_cdata_c14n : { t : Option DefRec // recAt pw_ty0061_01 "_escape_cdata_c14n" = t } := by
  refine ⟨?t, ?h⟩
  case h =>
    conv => lhs; whnf
def r_escape_attrib_c14n : { t : Option DefRec // recAt pw_ty0061_01 "_escape_attrib_c14n" = t } := by
  refine ⟨?t, ?h⟩
  case h =>
    conv => lhs; whnf
def r_law_sign : { t : Option DefRec // recAt pw_ty0061_01 "_law_sign" = t } := by
  refine ⟨?t, ?h⟩
  case h =>
    conv => lhs; whnf
def r_law_reference : { t : Option DefRec // recAt pw_ty0061_01 "_law_reference" = t } := by
  refine ⟨?t, ?h⟩
  case h =>
    conv => lhs; whnf
def r_law_prepared : { t : Option DefRec // recAt pw_ty0061_01 "_law_prepared" = t } := by
  refine ⟨?t, ?h⟩
  case h =>
    conv => lhs; whnf
def r_law_length : { t : Option DefRec // recAt pw_ty0061_01 "_law_length" = t } := by
  refine ⟨?t, ?h⟩
  case h =>
    conv => lhs; whnf
def r_law_joined : { t : Option DefRec // recAt pw_ty0061_01 "_law_joined" = t } := by
  refine ⟨?t, ?h⟩
  case h =>
    conv => lhs; whnf
def r_law_mixed : { t : Option DefRec // recAt pw_ty0061_01 "_law_mixed" = t } := by
  refine ⟨?t, ?h⟩
  case h =>
    conv => lhs; whnf
def r_law_due : { t : Option DefRec // recAt pw_ty0061_01 "_law_due" = t } := by
  refine ⟨?t, ?h⟩
  case h =>
    conv => lhs; whnf
def r_law : { t : Option DefRec // recAt pw_ty0061_01 "law" = t } := by
  refine ⟨?t, ?h⟩
  case h =>
    conv => lhs; whnf
end Mine
set_option Elab.async false
set_option maxRecDepth 100000
set_option maxHeartbeats 4000000
namespace Mine
open PySem PySem.Calls PyProof.Rows PySem.W PySem.Spec PySem.Challenge

theorem hsv_ok (G : Rho) (Φ : Addr → List D → Option D) (own : Str → Bool) (hint : G (Str.ofString "int") = some (.val (.type "int"))) (k S V : Nat) (hk : k < 2 ^ 20) (hS : 1 ≤ S ∧ S ≤ 4) (hV : V ≤ 16) :
   runR r_hsv_to_rgb.1 G Φ own [.flt (X k 6), .flt (X S 2), .flt (X V 4)] = some (.tup [.flt (col V S (us k).1), .flt (col V S (us k).2.1), .flt (col V S (us k).2.2)]) := by
  obtain ⟨F, hF⟩ : ∃ F, F = 3 * k % 32 := ⟨_, rfl⟩
  obtain ⟨I, hI⟩ : ∃ I, I = 3 * k / 32 := ⟨_, rfl⟩
  have hF32 : F < 32 := by omega
  have hSF : ∀ u, u ≤ 32 → S * u ≤ 128 := fun u hu => Nat.le_trans (Nat.mul_le_mul hS.2 hu) (by decide)
  have hVS : ∀ u, V * (128 - S * u) ≤ 2048 := fun u => Nat.le_trans (Nat.mul_le_mul hV (Nat.sub_le _ _)) (by decide)
  have mulF : ∀ u, u ≤ 32 → binD .Mult (.flt (X S 2)) (.flt (X u 5)) = some (.flt (X (S * u) 7)) := fun u hu => bD_mul (by omega) (by omega) (by have := hSF u hu; omega) (by omega) (by omega) (by omega) (by rw [Nat.mul_assoc])
  have subF : ∀ u, u ≤ 32 → binD .Sub (.flt 4607182418800017408) (.flt (X (S * u) 7)) = some (.flt (X (128 - S * u) 7)) := fun u hu => by
    rw [lit1, X_up (a := 1) (i := 0) 7 (by decide) (by decide)]
    exact bD_sub (by decide) (by have := hSF u hu; omega) (by decide)
  have mulV : ∀ u, u ≤ 32 → binD .Mult (.flt (X V 4)) (.flt (X (128 - S * u) 7)) = some (.flt (col V S u)) := fun u hu => bD_mul (by omega) (by omega) (by have := hVS u; omega) (by omega) (by omega) (by omega) (by rfl)
  have v0 : X V 4 = col V S 0 := by
    rw [X_up (a := V) (i := 4) 7 (by omega) (by decide)]; rfl
  have e1 : binD .Mult (.flt (X k 6)) (.flt 4618441417868443648) = some (.flt (X (3 * k) 5)) := by
    rw [lit6]; exact bD_mul (by omega) (by omega) (by omega) (by omega) (by omega) (by omega) (by omega)
  have e2 : fnD (.type "int") [.flt (X (3 * k) 5)] = some (.int (I : Int)) := by rw [fD_int (by omega) (by omega), hI]
  have e3 : binD .Sub (.flt (X (3 * k) 5)) (.int (I : Int)) = some (.flt (X F 5)) := by
    rw [bD_subi (by omega) (by omega) (by omega)]
    congr 3
    omega
  have e4 : binD .Sub (.flt 4607182418800017408) (.flt (X S 2)) = some (.flt (X (4 - S) 2)) := by
    rw [lit1, X_up (a := 1) (i := 0) 2 (by decide) (by decide)]
    exact bD_sub (by decide) (by omega) (by decide)
  have e5 : binD .Mult (.flt (X V 4)) (.flt (X (4 - S) 2)) = some (.flt (col V S 32)) :=
    bD_mul (by omega) (by omega) (by have := hVS 32; omega) (by omega) (by omega) (by omega) (by
      have : 128 - S * 32 = (4 - S) * 32 := by omega
      rw [this]; simp only [Nat.mul_assoc])
  have e9 : binD .Sub (.flt 4607182418800017408) (.flt (X F 5)) = some (.flt (X (32 - F) 5)) := by
    rw [lit1, X_up (a := 1) (i := 0) 5 (by decide) (by decide)]
    exact bD_sub (by decide) (by omega) (by decide)
  have e13 : binD .Mod (.int (I : Int)) (.int 6) = some (.int ((I % 6 : Nat) : Int)) := by
    show (if (6 : Int) = 0 then none else some (D.int ((I : Int).fmod 6))) = _
    rw [if_neg (by decide), Int.fmod_eq_emod_of_nonneg _ (by decide)]
    rfl
  have e0 : cmpD .Eq (.flt (X S 2)) (.flt 0) = some false := by
    rw [lit0, X_up (a := 0) (i := 0) 2 (by decide) (by decide)]
    rw [cD_eq (by omega) (by decide) (by decide), decide_eq_false (by omega)]
  have eI : ∀ c : Nat, cmpD .Eq (.int ((I % 6 : Nat) : Int)) (.int (c : Int)) = some (decide (I % 6 = c)) := fun c => by
    show some (((I % 6 : Nat) : Int) == (c : Int)) = _
    congr 1
    rw [Bool.eq_iff_iff]; simp
    omega
  have c0 : cmpD .Eq (.int ((I % 6 : Nat) : Int)) (.int 0) = some (decide (I % 6 = 0)) := eI 0
  have c1 : cmpD .Eq (.int ((I % 6 : Nat) : Int)) (.int 1) = some (decide (I % 6 = 1)) := eI 1
  have c2 : cmpD .Eq (.int ((I % 6 : Nat) : Int)) (.int 2) = some (decide (I % 6 = 2)) := eI 2
  have c3 : cmpD .Eq (.int ((I % 6 : Nat) : Int)) (.int 3) = some (decide (I % 6 = 3)) := eI 3
  have c4 : cmpD .Eq (.int ((I % 6 : Nat) : Int)) (.int 4) = some (decide (I % 6 = 4)) := eI 4
  have c5 : cmpD .Eq (.int ((I % 6 : Nat) : Int)) (.int 5) = some (decide (I % 6 = 5)) := eI 5
  have m1 := mulF F (by omega)
  have m2 := mulF (32 - F) (by omega)
  have s1 := subF F (by omega)
  have s2 := subF (32 - F) (by omega)
  have w1 := mulV F (by omega)
  have w2 := mulV (32 - F) (by omega)
  have hus : us k = match I % 6 with
    | 0 => (0, 32 - F, 32)
    | 1 => (F, 0, 32)
    | 2 => (32, 0, 32 - F)
    | 3 => (32, F, 0)
    | 4 => (32 - F, 32, 0)
    | _ => (0, 32, F) := by rw [hF, hI]; rfl
  clear hF hI mulF subF mulV hSF hVS eI
  have h6 : I % 6 < 6 := Nat.mod_lt _ (by decide)
  unfold runR
  generalize hJ : I % 6 = J at *
  simp -implicitDefEqProofs only [r_hsv_to_rgb, Option.bind_some, fnNamesOf, hint, ifb, e0, e1, e2, e3, e4, e5, e9, e13, m1, m2, s1, s2, w1, w2, c0, c1, c2, c3, c4, c5, fnD_eq, st_Try, st_While, st_Append, blD_cons, blD_nil, contD_next, contD_ret, retV, st_Assign, st_Return, st_If, assign_plain, assign_list, assign_comp, assign_tuple, plA1, plA2, plA3, plA4, plA5, plA6, plA7, plA8, plA9, plA10, bindS_nm, bindS_tuple, bindD_name, bindD_tup, bindD_lst, bindAll_nil, bindAll_cons, noneOwned_nil, noneOwned_cons, ev_Name, ev_Const, ev_BinOp, ev_USub, negD_int, cmpE_1, cmpE_2, ev_Compare, ev_BoolOp, boolE_or, boolE_and, boolV_bool, evsD_nil, evsD_cons, ev_Tuple, ev_List, ev_Sub, ev_Slice, plI1, plI2, plI3, plI4, plI5, plI6, plS1, plS2, plT1, plT2, plT3, pb_name, pb_const, pb_sub, pb_meth, ev_Call, callD_ref, callD_blt, callD_type, ev_Meth, meth_replace, meth_plain, tst_Compare, tst_BoolOp, tst_Not, tst_Call, tst_Sub, tst1_Compare, tst0_Compare, tst1_Call, tst0_Call, tst1_Sub, allD_and, allD_or, allD_and0, allD_or0, nameD_cons, kindD, storable_cons, upd_at, argsR_cons, argsR_nil, vis_nil, thawR_nil, thawS_nil, drp_nil, constD, vis_one, drp_one, thawR_one, thawS_one, noneOwned_one, noneOwned_one0, append_one, Ends_next, Option.bind_some, Option.bind_none, Option.bind_assoc, String.reduceEq, String.reduceNe, ne_eq, not_false_eq_true, not_true_eq_false, List.length_cons, List.length_nil, List.map_cons, List.map_nil, Nat.reduceAdd, Nat.reduceLeDiff, Nat.reduceLT, Nat.reduceBEq, if_true, if_false, reduceIte, Bool.false_eq_true, BEq.rfl, beq_self_eq_true, reduceCtorEq, and_self, and_true, true_and, ite_self]
  rw [hus, v0]
  have hJ' : J = 0 ∨ J = 1 ∨ J = 2 ∨ J = 3 ∨ J = 4 ∨ J = 5 := by omega
  rcases hJ' with rfl | rfl | rfl | rfl | rfl | rfl <;> rfl
end Mine
set_option Elab.async false
set_option maxRecDepth 100000
set_option maxHeartbeats 4000000
namespace Mine
open PySem PySem.Calls PyProof.Rows PySem.W PySem.Spec PySem.Challenge
theorem tohsv_ok (G : Rho) (Φ : Addr → List D → Option D) (own : Str → Bool) (hmax : G (Str.ofString "max") = some (.val (.builtin "max"))) (hmin : G (Str.ofString "min") = some (.val (.builtin "min"))) (k M Dd j : Nat) (hD : 1 ≤ Dd) (hM : 32 * Dd ≤ M) (hMj : M ≤ 2 ^ j) (hj : j ≤ 20) :
   ∃ s, runR r_rgb_to_hsv.1 G Φ own [.flt (X (M - Dd * (us k).1) j), .flt (X (M - Dd * (us k).2.1) j), .flt (X (M - Dd * (us k).2.2) j)] = some (.tup [.flt (X (k % 64) 6), .flt s, .flt (X M j)]) := by
  have hu := us_ok k
  have hk := hue_ok k
  have hj3 : j ≤ 1000 := by omega
  have hP : 2 ^ j ≤ 2 ^ 20 := Nat.pow_le_pow_right (by decide) hj
  rw [← hk]
  generalize us k = u at *
  obtain ⟨u1, u2, u3⟩ := u
  simp only at hu ⊢
  obtain ⟨⟨l1, l2, l3⟩, z, t⟩ := hu
  have hle : ∀ u, u ≤ 32 → Dd * u ≤ 32 * Dd := fun u hu => by rw [Nat.mul_comm 32]; exact Nat.mul_le_mul_left _ hu
  have b1 := hle u1 l1
  have b2 := hle u2 l2
  have b3 := hle u3 l3
  have hz : Dd * u1 = 0 ∨ Dd * u2 = 0 ∨ Dd * u3 = 0 := by rcases z with rfl | rfl | rfl <;> simp
  have ht : Dd * u1 = 32 * Dd ∨ Dd * u2 = 32 * Dd ∨ Dd * u3 = 32 * Dd := by rcases t with rfl | rfl | rfl <;> simp [Nat.mul_comm]
  have hze : ∀ u, u ≤ 32 → (M - Dd * u = M ↔ u = 0) := fun u hu => by
    have := hle u hu
    constructor
    · intro h
      have h0 : Dd * u = 0 := by omega
      rcases Nat.mul_eq_zero.mp h0 with h | h <;> omega
    · rintro rfl; simp
  have e1 : fnD (.builtin "max") [.flt (X (M - Dd * u1) j), .flt (X (M - Dd * u2) j), .flt (X (M - Dd * u3) j)] = some (.flt (X M j)) := fD_max (by omega) (by omega) (by omega) hj3 (by omega)
  have e2 : fnD (.builtin "min") [.flt (X (M - Dd * u1) j), .flt (X (M - Dd * u2) j), .flt (X (M - Dd * u3) j)] = some (.flt (X (M - 32 * Dd) j)) := fD_min (by omega) (by omega) (by omega) hj3 (by omega)
  have e3 : binD .Sub (.flt (X M j)) (.flt (X (M - 32 * Dd) j)) = some (.flt (X (32 * Dd) j)) := by
    rw [bD_sub (by omega) (by omega) hj3]; congr 3; omega
  have e4 : cmpD .Eq (.flt (X (M - 32 * Dd) j)) (.flt (X M j)) = some false := by
    rw [cD_eq (by omega) (by omega) hj3, decide_eq_false (by omega)]
  obtain ⟨s, e5⟩ := bD_div' (a := X (32 * Dd) j) (b := M) (j := j) (by omega) hj3 (by omega)
  have sub : ∀ u, u ≤ 32 → binD .Sub (.flt (X M j)) (.flt (X (M - Dd * u) j)) = some (.flt (X (Dd * u) j)) := fun u hu => by
    have := hle u hu
    rw [bD_sub (by omega) (by omega) hj3]; congr 3; omega
  have div : ∀ u, u ≤ 32 → binD .Div (.flt (X (Dd * u) j)) (.flt (X (32 * Dd) j)) = some (.flt (X u 5)) := fun u hu =>
    bD_div (by have := hle u hu; omega) (by omega) (by omega) hj3 hj3 (by decide) (by omega) (by
      have : (2 : Nat) ^ 5 = 32 := by decide
      rw [Nat.pow_add, this]; ac_rfl)
  have eqm : ∀ u, u ≤ 32 → cmpD .Eq (.flt (X (M - Dd * u) j)) (.flt (X M j)) = some (decide (u = 0)) := fun u hu => by
    rw [cD_eq (by omega) (by omega) hj3]
    congr 1
    rw [decide_eq_decide]
    exact hze u hu
  have a1 := sub u1 l1
  have a2 := sub u2 l2
  have a3 := sub u3 l3
  have d1 := div u1 l1
  have d2 := div u2 l2
  have d3 := div u3 l3
  have q1 := eqm u1 l1
  have q2 := eqm u2 l2
  have i6 : Float64.isZero (X 6 0) = false := X_isZero (by decide) (by decide) (by decide)
  have i1 : Float64.isZero (X 1 0) = false := X_isZero (by decide) (by decide) (by decide)
  have g6 : ∀ z, binD .Div (.flt z) (.flt 4618441417868443648) = some (.flt (Float64.div z (X 6 0))) := fun z => by
    rw [lit6]
    show (if Float64.isZero (X 6 0) = true then none else some (D.flt (Float64.div z (X 6 0)))) = _
    rw [i6, if_neg (by decide)]
  have g1 : ∀ z, binD .Mod (.flt z) (.flt 4607182418800017408) = some (.flt (Float64.divmod z (X 1 0)).2) := fun z => by
    rw [lit1]
    show (if Float64.isZero (X 1 0) = true then none else some (D.flt (Float64.divmod z (X 1 0)).2)) = _
    rw [i1, if_neg (by decide)]
  have p1 : binD .Sub (.flt (X u3 5)) (.flt (X u2 5)) = some (.flt (Float64.sub (X u3 5) (X u2 5))) := rfl
  have p2 : binD .Add (.flt 4611686018427387904) (.flt (X u1 5)) = some (.flt (Float64.add (X 2 0) (X u1 5))) := by rw [lit2]; rfl
  have p3 : binD .Sub (.flt (Float64.add (X 2 0) (X u1 5))) (.flt (X u3 5)) = some (.flt (Float64.sub (Float64.add (X 2 0) (X u1 5)) (X u3 5))) := rfl
  have p4 : binD .Add (.flt 4616189618054758400) (.flt (X u2 5)) = some (.flt (Float64.add (X 4 0) (X u2 5))) := by rw [lit4]; rfl
  have p5 : binD .Sub (.flt (Float64.add (X 4 0) (X u2 5))) (.flt (X u1 5)) = some (.flt (Float64.sub (Float64.add (X 4 0) (X u2 5)) (X u1 5))) := rfl
  clear hz ht hze sub div eqm hle
  refine ⟨s, ?_⟩
  unfold runR hueF
  simp only
  simp -implicitDefEqProofs only [r_rgb_to_hsv, Option.bind_some, fnNamesOf, hmax, hmin, ifb, e1, e2, e3, e4, e5, a1, a2, a3, d1, d2, d3, q1, q2, g6, g1, p1, p2, p3, p4, p5, decide_eq_true_eq, fnD_eq, st_Try, st_While, st_Append, blD_cons, blD_nil, contD_next, contD_ret, retV, st_Assign, st_Return, st_If, assign_plain, assign_list, assign_comp, assign_tuple, plA1, plA2, plA3, plA4, plA5, plA6, plA7, plA8, plA9, plA10, bindS_nm, bindS_tuple, bindD_name, bindD_tup, bindD_lst, bindAll_nil, bindAll_cons, noneOwned_nil, noneOwned_cons, ev_Name, ev_Const, ev_BinOp, ev_USub, negD_int, cmpE_1, cmpE_2, ev_Compare, ev_BoolOp, boolE_or, boolE_and, boolV_bool, evsD_nil, evsD_cons, ev_Tuple, ev_List, ev_Sub, ev_Slice, plI1, plI2, plI3, plI4, plI5, plI6, plS1, plS2, plT1, plT2, plT3, pb_name, pb_const, pb_sub, pb_meth, ev_Call, callD_ref, callD_blt, callD_type, ev_Meth, meth_replace, meth_plain, tst_Compare, tst_BoolOp, tst_Not, tst_Call, tst_Sub, tst1_Compare, tst0_Compare, tst1_Call, tst0_Call, tst1_Sub, allD_and, allD_or, allD_and0, allD_or0, nameD_cons, kindD, storable_cons, upd_at, argsR_cons, argsR_nil, vis_nil, thawR_nil, thawS_nil, drp_nil, constD, vis_one, drp_one, thawR_one, thawS_one, noneOwned_one, noneOwned_one0, append_one, Ends_next, Option.bind_some, Option.bind_none, Option.bind_assoc, String.reduceEq, String.reduceNe, ne_eq, not_false_eq_true, not_true_eq_false, List.length_cons, List.length_nil, List.map_cons, List.map_nil, Nat.reduceAdd, Nat.reduceLeDiff, Nat.reduceLT, Nat.reduceBEq, if_true, if_false, reduceIte, Bool.false_eq_true, BEq.rfl, beq_self_eq_true, reduceCtorEq, and_self, and_true, true_and, ite_self]
  by_cases z1 : u1 = 0
  · simp only [if_pos z1]
  · by_cases z2 : u2 = 0
    · simp only [if_neg z1, if_pos z2]
    · simp only [if_neg z1, if_neg z2]
theorem tohls_ok (G : Rho) (Φ : Addr → List D → Option D) (own : Str → Bool) (hmax : G (Str.ofString "max") = some (.val (.builtin "max"))) (hmin : G (Str.ofString "min") = some (.val (.builtin "min"))) (k M Dd j : Nat) (hD : 1 ≤ Dd) (hM : 32 * Dd ≤ M) (hMj : M ≤ 2 ^ j) (hj : j ≤ 20) :
   ∃ s, runR r_rgb_to_hls.1 G Φ own [.flt (X (M - Dd * (us k).1) j), .flt (X (M - Dd * (us k).2.1) j), .flt (X (M - Dd * (us k).2.2) j)] = some (.tup [.flt (X (k % 64) 6), .flt (X (M + (M - 32 * Dd)) (j + 1)), .flt s]) := by
  have hu := us_ok k
  have hk := hue_ok k
  have hj3 : j ≤ 1000 := by omega
  have hP : 2 ^ j ≤ 2 ^ 20 := Nat.pow_le_pow_right (by decide) hj
  rw [← hk]
  generalize us k = u at *
  obtain ⟨u1, u2, u3⟩ := u
  simp only at hu ⊢
  obtain ⟨⟨l1, l2, l3⟩, z, t⟩ := hu
  have hle : ∀ u, u ≤ 32 → Dd * u ≤ 32 * Dd := fun u hu => by rw [Nat.mul_comm 32]; exact Nat.mul_le_mul_left _ hu
  have b1 := hle u1 l1
  have b2 := hle u2 l2
  have b3 := hle u3 l3
  have hz : Dd * u1 = 0 ∨ Dd * u2 = 0 ∨ Dd * u3 = 0 := by rcases z with rfl | rfl | rfl <;> simp
  have ht : Dd * u1 = 32 * Dd ∨ Dd * u2 = 32 * Dd ∨ Dd * u3 = 32 * Dd := by rcases t with rfl | rfl | rfl <;> simp [Nat.mul_comm]
  have hze : ∀ u, u ≤ 32 → (M - Dd * u = M ↔ u = 0) := fun u hu => by
    have := hle u hu
    constructor
    · intro h
      have h0 : Dd * u = 0 := by omega
      rcases Nat.mul_eq_zero.mp h0 with h | h <;> omega
    · rintro rfl; simp
  have e1 : fnD (.builtin "max") [.flt (X (M - Dd * u1) j), .flt (X (M - Dd * u2) j), .flt (X (M - Dd * u3) j)] = some (.flt (X M j)) := fD_max (by omega) (by omega) (by omega) hj3 (by omega)
  have e2 : fnD (.builtin "min") [.flt (X (M - Dd * u1) j), .flt (X (M - Dd * u2) j), .flt (X (M - Dd * u3) j)] = some (.flt (X (M - 32 * Dd) j)) := fD_min (by omega) (by omega) (by omega) hj3 (by omega)
  have e3 : binD .Sub (.flt (X M j)) (.flt (X (M - 32 * Dd) j)) = some (.flt (X (32 * Dd) j)) := by
    rw [bD_sub (by omega) (by omega) hj3]; congr 3; omega
  have e4 : cmpD .Eq (.flt (X (M - 32 * Dd) j)) (.flt (X M j)) = some false := by
    rw [cD_eq (by omega) (by omega) hj3, decide_eq_false (by omega)]
  have f1 : binD .Add (.flt (X M j)) (.flt (X (M - 32 * Dd) j)) = some (.flt (X (M + (M - 32 * Dd)) j)) := bD_add (by omega) hj3
  have f2 : binD .Div (.flt (X (M + (M - 32 * Dd)) j)) (.flt 4611686018427387904) = some (.flt (X (M + (M - 32 * Dd)) (j + 1))) := by
    rw [lit2]
    exact bD_div (by omega) (by decide) (by omega) hj3 (by decide) (by omega) (by decide) (by rw [Nat.zero_add, Nat.pow_succ]; ac_rfl)
  have f3 : ∃ b, cmpD .LtE (.flt (X (M + (M - 32 * Dd)) (j + 1))) (.flt 4602678819172646912) = some b := ⟨_, rfl⟩
  obtain ⟨b, f3⟩ := f3
  obtain ⟨s, e5⟩ := bD_div' (a := X (32 * Dd) j) (b := M + (M - 32 * Dd)) (j := j) (by omega) hj3 (by omega)
  have f4 : binD .Sub (.flt 4611686018427387904) (.flt (X M j)) = some (.flt (X (2 * 2 ^ j - M) j)) := by
    rw [lit2, X_up (a := 2) (i := 0) j (by omega) (by omega), Nat.zero_add]
    exact bD_sub (by omega) (by omega) hj3
  have f5 : binD .Sub (.flt (X (2 * 2 ^ j - M) j)) (.flt (X (M - 32 * Dd) j)) = some (.flt (X (2 * 2 ^ j - M - (M - 32 * Dd)) j)) := bD_sub (by omega) (by omega) hj3
  obtain ⟨s', e6⟩ := bD_div' (a := X (32 * Dd) j) (b := 2 * 2 ^ j - M - (M - 32 * Dd)) (j := j) (by omega) hj3 (by omega)
  have sub : ∀ u, u ≤ 32 → binD .Sub (.flt (X M j)) (.flt (X (M - Dd * u) j)) = some (.flt (X (Dd * u) j)) := fun u hu => by
    have := hle u hu
    rw [bD_sub (by omega) (by omega) hj3]; congr 3; omega
  have div : ∀ u, u ≤ 32 → binD .Div (.flt (X (Dd * u) j)) (.flt (X (32 * Dd) j)) = some (.flt (X u 5)) := fun u hu =>
    bD_div (by have := hle u hu; omega) (by omega) (by omega) hj3 hj3 (by decide) (by omega) (by
      have : (2 : Nat) ^ 5 = 32 := by decide
      rw [Nat.pow_add, this]; ac_rfl)
  have eqm : ∀ u, u ≤ 32 → cmpD .Eq (.flt (X (M - Dd * u) j)) (.flt (X M j)) = some (decide (u = 0)) := fun u hu => by
    rw [cD_eq (by omega) (by omega) hj3]
    congr 1
    rw [decide_eq_decide]
    exact hze u hu
  have a1 := sub u1 l1
  have a2 := sub u2 l2
  have a3 := sub u3 l3
  have d1 := div u1 l1
  have d2 := div u2 l2
  have d3 := div u3 l3
  have q1 := eqm u1 l1
  have q2 := eqm u2 l2
  have i6 : Float64.isZero (X 6 0) = false := X_isZero (by decide) (by decide) (by decide)
  have i1 : Float64.isZero (X 1 0) = false := X_isZero (by decide) (by decide) (by decide)
  have g6 : ∀ z, binD .Div (.flt z) (.flt 4618441417868443648) = some (.flt (Float64.div z (X 6 0))) := fun z => by
    rw [lit6]
    show (if Float64.isZero (X 6 0) = true then none else some (D.flt (Float64.div z (X 6 0)))) = _
    rw [i6, if_neg (by decide)]
  have g1 : ∀ z, binD .Mod (.flt z) (.flt 4607182418800017408) = some (.flt (Float64.divmod z (X 1 0)).2) := fun z => by
    rw [lit1]
    show (if Float64.isZero (X 1 0) = true then none else some (D.flt (Float64.divmod z (X 1 0)).2)) = _
    rw [i1, if_neg (by decide)]
  have p1 : binD .Sub (.flt (X u3 5)) (.flt (X u2 5)) = some (.flt (Float64.sub (X u3 5) (X u2 5))) := rfl
  have p2 : binD .Add (.flt 4611686018427387904) (.flt (X u1 5)) = some (.flt (Float64.add (X 2 0) (X u1 5))) := by rw [lit2]; rfl
  have p3 : binD .Sub (.flt (Float64.add (X 2 0) (X u1 5))) (.flt (X u3 5)) = some (.flt (Float64.sub (Float64.add (X 2 0) (X u1 5)) (X u3 5))) := rfl
  have p4 : binD .Add (.flt 4616189618054758400) (.flt (X u2 5)) = some (.flt (Float64.add (X 4 0) (X u2 5))) := by rw [lit4]; rfl
  have p5 : binD .Sub (.flt (Float64.add (X 4 0) (X u2 5))) (.flt (X u1 5)) = some (.flt (Float64.sub (Float64.add (X 4 0) (X u2 5)) (X u1 5))) := rfl
  clear hz ht hze sub div eqm hle
  refine ⟨if b = true then s else s', ?_⟩
  unfold runR hueF
  simp only
  simp -implicitDefEqProofs only [r_rgb_to_hls, Option.bind_some, fnNamesOf, hmax, hmin, ifb, e1, e2, e3, e4, e5, e6, f1, f2, f3, f4, f5, a1, a2, a3, d1, d2, d3, q1, q2, g6, g1, p1, p2, p3, p4, p5, decide_eq_true_eq, fnD_eq, st_Try, st_While, st_Append, blD_cons, blD_nil, contD_next, contD_ret, retV, st_Assign, st_Return, st_If, assign_plain, assign_list, assign_comp, assign_tuple, plA1, plA2, plA3, plA4, plA5, plA6, plA7, plA8, plA9, plA10, bindS_nm, bindS_tuple, bindD_name, bindD_tup, bindD_lst, bindAll_nil, bindAll_cons, noneOwned_nil, noneOwned_cons, ev_Name, ev_Const, ev_BinOp, ev_USub, negD_int, cmpE_1, cmpE_2, ev_Compare, ev_BoolOp, boolE_or, boolE_and, boolV_bool, evsD_nil, evsD_cons, ev_Tuple, ev_List, ev_Sub, ev_Slice, plI1, plI2, plI3, plI4, plI5, plI6, plS1, plS2, plT1, plT2, plT3, pb_name, pb_const, pb_sub, pb_meth, ev_Call, callD_ref, callD_blt, callD_type, ev_Meth, meth_replace, meth_plain, tst_Compare, tst_BoolOp, tst_Not, tst_Call, tst_Sub, tst1_Compare, tst0_Compare, tst1_Call, tst0_Call, tst1_Sub, allD_and, allD_or, allD_and0, allD_or0, nameD_cons, kindD, storable_cons, upd_at, argsR_cons, argsR_nil, vis_nil, thawR_nil, thawS_nil, drp_nil, constD, vis_one, drp_one, thawR_one, thawS_one, noneOwned_one, noneOwned_one0, append_one, Ends_next, Option.bind_some, Option.bind_none, Option.bind_assoc, String.reduceEq, String.reduceNe, ne_eq, not_false_eq_true, not_true_eq_false, List.length_cons, List.length_nil, List.map_cons, List.map_nil, Nat.reduceAdd, Nat.reduceLeDiff, Nat.reduceLT, Nat.reduceBEq, if_true, if_false, reduceIte, Bool.false_eq_true, BEq.rfl, beq_self_eq_true, reduceCtorEq, and_self, and_true, true_and, ite_self]
  cases b
  all_goals
    simp only [Bool.false_eq_true, if_false, if_true]
    by_cases z1 : u1 = 0
    · simp only [if_pos z1]
    · by_cases z2 : u2 = 0
      · simp only [if_neg z1, if_pos z2]
      · simp only [if_neg z1, if_neg z2]
end Mine
set_option Elab.async false
set_option maxRecDepth 100000
set_option maxHeartbeats 4000000
namespace Mine
open PySem PySem.Calls PyProof.Rows PySem.W PySem.Spec PySem.Challenge
theorem esc0_ok (G : Rho) (Φ : Addr → List D → Option D) (own : Str → Bool) (l : List Nat) (hl : l.length ≤ 12) : runR r_escape_cdata.1 G Φ own [.str (ofL l)] = some (.str (ofL (escN (escS 0) l))) := by
  unfold escN escS
  simp only [List.foldl_cons, List.foldl_nil]
  have i0 := in_at (Str.ofString "&") 38 (by decide +kernel)
  have r0 := repl_at (Str.ofString "&") (Str.ofString "&amp;") 38 [38, 97, 109, 112, 59] (by decide +kernel) (by decide +kernel) (by decide) (by decide) l (by omega)
  have n0 := rep_len 38 [38, 97, 109, 112, 59] l (by decide)
  have e0 := fun ρ : Rho => esc_step ρ (Str.ofString "text") 38 [38, 97, 109, 112, 59] l
  simp only [List.length_cons, List.length_nil, Nat.reduceAdd] at n0
  obtain ⟨l0, q0⟩ : ∃ x, x = rep 38 [38, 97, 109, 112, 59] l := ⟨_, rfl⟩
  rw [← q0] at r0 n0 ⊢
  simp only [← q0] at e0
  have i1 := in_at (Str.ofString "<") 60 (by decide +kernel)
  have r1 := repl_at (Str.ofString "<") (Str.ofString "&lt;") 60 [38, 108, 116, 59] (by decide +kernel) (by decide +kernel) (by decide) (by decide) l0 (by omega)
  have n1 := rep_len 60 [38, 108, 116, 59] l0 (by decide)
  have e1 := fun ρ : Rho => esc_step ρ (Str.ofString "text") 60 [38, 108, 116, 59] l0
  simp only [List.length_cons, List.length_nil, Nat.reduceAdd] at n1
  obtain ⟨l1, q1⟩ : ∃ x, x = rep 60 [38, 108, 116, 59] l0 := ⟨_, rfl⟩
  rw [← q1] at r1 n1 ⊢
  simp only [← q1] at e1
  have i2 := in_at (Str.ofString ">") 62 (by decide +kernel)
  have r2 := repl_at (Str.ofString ">") (Str.ofString "&gt;") 62 [38, 103, 116, 59] (by decide +kernel) (by decide +kernel) (by decide) (by decide) l1 (by omega)
  have n2 := rep_len 62 [38, 103, 116, 59] l1 (by decide)
  have e2 := fun ρ : Rho => esc_step ρ (Str.ofString "text") 62 [38, 103, 116, 59] l1
  simp only [List.length_cons, List.length_nil, Nat.reduceAdd] at n2
  obtain ⟨l2, q2⟩ : ∃ x, x = rep 62 [38, 103, 116, 59] l1 := ⟨_, rfl⟩
  rw [← q2] at r2 n2 ⊢
  simp only [← q2] at e2
  unfold runR
  simp -implicitDefEqProofs only [r_escape_cdata, Option.bind_some, fnNamesOf, i0, r0, e0, i1, r1, e1, i2, r2, e2, fnD_eq, st_Try, st_While, st_Append, blD_cons, blD_nil, contD_next, contD_ret, retV, st_Assign, st_Return, st_If, assign_plain, assign_list, assign_comp, assign_tuple, plA1, plA2, plA3, plA4, plA5, plA6, plA7, plA8, plA9, plA10, bindS_nm, bindS_tuple, bindD_name, bindD_tup, bindD_lst, bindAll_nil, bindAll_cons, noneOwned_nil, noneOwned_cons, ev_Name, ev_Const, ev_BinOp, ev_USub, negD_int, cmpE_1, cmpE_2, ev_Compare, ev_BoolOp, boolE_or, boolE_and, boolV_bool, evsD_nil, evsD_cons, ev_Tuple, ev_List, ev_Sub, ev_Slice, plI1, plI2, plI3, plI4, plI5, plI6, plS1, plS2, plT1, plT2, plT3, pb_name, pb_const, pb_sub, pb_meth, ev_Call, callD_ref, callD_blt, callD_type, ev_Meth, meth_replace, meth_plain, tst_Compare, tst_BoolOp, tst_Not, tst_Call, tst_Sub, tst1_Compare, tst0_Compare, tst1_Call, tst0_Call, tst1_Sub, allD_and, allD_or, allD_and0, allD_or0, nameD_cons, kindD, storable_cons, upd_at, argsR_cons, argsR_nil, vis_nil, thawR_nil, thawS_nil, drp_nil, constD, vis_one, drp_one, thawR_one, thawS_one, noneOwned_one, noneOwned_one0, append_one, Ends_next, Option.bind_some, Option.bind_none, Option.bind_assoc, String.reduceEq, String.reduceNe, ne_eq, not_false_eq_true, not_true_eq_false, List.length_cons, List.length_nil, List.map_cons, List.map_nil, Nat.reduceAdd, Nat.reduceLeDiff, Nat.reduceLT, Nat.reduceBEq, if_true, if_false, reduceIte, Bool.false_eq_true, BEq.rfl, beq_self_eq_true, reduceCtorEq, and_self, and_true, true_and, ite_self]
theorem esc1_ok (G : Rho) (Φ : Addr → List D → Option D) (own : Str → Bool) (l : List Nat) (hl : l.length ≤ 12) : runR r_escape_attrib.1 G Φ own [.str (ofL l)] = some (.str (ofL (escN (escS 1) l))) := by
  unfold escN escS
  simp only [List.foldl_cons, List.foldl_nil]
  have i0 := in_at (Str.ofString "&") 38 (by decide +kernel)
  have r0 := repl_at (Str.ofString "&") (Str.ofString "&amp;") 38 [38, 97, 109, 112, 59] (by decide +kernel) (by decide +kernel) (by decide) (by decide) l (by omega)
  have n0 := rep_len 38 [38, 97, 109, 112, 59] l (by decide)
  have e0 := fun ρ : Rho => esc_step ρ (Str.ofString "text") 38 [38, 97, 109, 112, 59] l
  simp only [List.length_cons, List.length_nil, Nat.reduceAdd] at n0
  obtain ⟨l0, q0⟩ : ∃ x, x = rep 38 [38, 97, 109, 112, 59] l := ⟨_, rfl⟩
  rw [← q0] at r0 n0 ⊢
  simp only [← q0] at e0
  have i1 := in_at (Str.ofString "<") 60 (by decide +kernel)
  have r1 := repl_at (Str.ofString "<") (Str.ofString "&lt;") 60 [38, 108, 116, 59] (by decide +kernel) (by decide +kernel) (by decide) (by decide) l0 (by omega)
  have n1 := rep_len 60 [38, 108, 116, 59] l0 (by decide)
  have e1 := fun ρ : Rho => esc_step ρ (Str.ofString "text") 60 [38, 108, 116, 59] l0
  simp only [List.length_cons, List.length_nil, Nat.reduceAdd] at n1
  obtain ⟨l1, q1⟩ : ∃ x, x = rep 60 [38, 108, 116, 59] l0 := ⟨_, rfl⟩
  rw [← q1] at r1 n1 ⊢
  simp only [← q1] at e1
  have i2 := in_at (Str.ofString ">") 62 (by decide +kernel)
  have r2 := repl_at (Str.ofString ">") (Str.ofString "&gt;") 62 [38, 103, 116, 59] (by decide +kernel) (by decide +kernel) (by decide) (by decide) l1 (by omega)
  have n2 := rep_len 62 [38, 103, 116, 59] l1 (by decide)
  have e2 := fun ρ : Rho => esc_step ρ (Str.ofString "text") 62 [38, 103, 116, 59] l1
  simp only [List.length_cons, List.length_nil, Nat.reduceAdd] at n2
  obtain ⟨l2, q2⟩ : ∃ x, x = rep 62 [38, 103, 116, 59] l1 := ⟨_, rfl⟩
  rw [← q2] at r2 n2 ⊢
  simp only [← q2] at e2
  have i3 := in_at (Str.ofString "\"") 34 (by decide +kernel)
  have r3 := repl_at (Str.ofString "\"") (Str.ofString "&quot;") 34 [38, 113, 117, 111, 116, 59] (by decide +kernel) (by decide +kernel) (by decide) (by decide) l2 (by omega)
  have n3 := rep_len 34 [38, 113, 117, 111, 116, 59] l2 (by decide)
  have e3 := fun ρ : Rho => esc_step ρ (Str.ofString "text") 34 [38, 113, 117, 111, 116, 59] l2
  simp only [List.length_cons, List.length_nil, Nat.reduceAdd] at n3
  obtain ⟨l3, q3⟩ : ∃ x, x = rep 34 [38, 113, 117, 111, 116, 59] l2 := ⟨_, rfl⟩
  rw [← q3] at r3 n3 ⊢
  simp only [← q3] at e3
  have i4 := in_at (Str.ofString "\r") 13 (by decide +kernel)
  have r4 := repl_at (Str.ofString "\r") (Str.ofString "&#13;") 13 [38, 35, 49, 51, 59] (by decide +kernel) (by decide +kernel) (by decide) (by decide) l3 (by omega)
  have n4 := rep_len 13 [38, 35, 49, 51, 59] l3 (by decide)
  have e4 := fun ρ : Rho => esc_step ρ (Str.ofString "text") 13 [38, 35, 49, 51, 59] l3
  simp only [List.length_cons, List.length_nil, Nat.reduceAdd] at n4
  obtain ⟨l4, q4⟩ : ∃ x, x = rep 13 [38, 35, 49, 51, 59] l3 := ⟨_, rfl⟩
  rw [← q4] at r4 n4 ⊢
  simp only [← q4] at e4
  have i5 := in_at (Str.ofString "\n") 10 (by decide +kernel)
  have r5 := repl_at (Str.ofString "\n") (Str.ofString "&#10;") 10 [38, 35, 49, 48, 59] (by decide +kernel) (by decide +kernel) (by decide) (by decide) l4 (by omega)
  have n5 := rep_len 10 [38, 35, 49, 48, 59] l4 (by decide)
  have e5 := fun ρ : Rho => esc_step ρ (Str.ofString "text") 10 [38, 35, 49, 48, 59] l4
  simp only [List.length_cons, List.length_nil, Nat.reduceAdd] at n5
  obtain ⟨l5, q5⟩ : ∃ x, x = rep 10 [38, 35, 49, 48, 59] l4 := ⟨_, rfl⟩
  rw [← q5] at r5 n5 ⊢
  simp only [← q5] at e5
  have i6 := in_at (Str.ofString "\t") 9 (by decide +kernel)
  have r6 := repl_at (Str.ofString "\t") (Str.ofString "&#09;") 9 [38, 35, 48, 57, 59] (by decide +kernel) (by decide +kernel) (by decide) (by decide) l5 (by omega)
  have n6 := rep_len 9 [38, 35, 48, 57, 59] l5 (by decide)
  have e6 := fun ρ : Rho => esc_step ρ (Str.ofString "text") 9 [38, 35, 48, 57, 59] l5
  simp only [List.length_cons, List.length_nil, Nat.reduceAdd] at n6
  obtain ⟨l6, q6⟩ : ∃ x, x = rep 9 [38, 35, 48, 57, 59] l5 := ⟨_, rfl⟩
  rw [← q6] at r6 n6 ⊢
  simp only [← q6] at e6
  unfold runR
  simp -implicitDefEqProofs only [r_escape_attrib, Option.bind_some, fnNamesOf, i0, r0, e0, i1, r1, e1, i2, r2, e2, i3, r3, e3, i4, r4, e4, i5, r5, e5, i6, r6, e6, fnD_eq, st_Try, st_While, st_Append, blD_cons, blD_nil, contD_next, contD_ret, retV, st_Assign, st_Return, st_If, assign_plain, assign_list, assign_comp, assign_tuple, plA1, plA2, plA3, plA4, plA5, plA6, plA7, plA8, plA9, plA10, bindS_nm, bindS_tuple, bindD_name, bindD_tup, bindD_lst, bindAll_nil, bindAll_cons, noneOwned_nil, noneOwned_cons, ev_Name, ev_Const, ev_BinOp, ev_USub, negD_int, cmpE_1, cmpE_2, ev_Compare, ev_BoolOp, boolE_or, boolE_and, boolV_bool, evsD_nil, evsD_cons, ev_Tuple, ev_List, ev_Sub, ev_Slice, plI1, plI2, plI3, plI4, plI5, plI6, plS1, plS2, plT1, plT2, plT3, pb_name, pb_const, pb_sub, pb_meth, ev_Call, callD_ref, callD_blt, callD_type, ev_Meth, meth_replace, meth_plain, tst_Compare, tst_BoolOp, tst_Not, tst_Call, tst_Sub, tst1_Compare, tst0_Compare, tst1_Call, tst0_Call, tst1_Sub, allD_and, allD_or, allD_and0, allD_or0, nameD_cons, kindD, storable_cons, upd_at, argsR_cons, argsR_nil, vis_nil, thawR_nil, thawS_nil, drp_nil, constD, vis_one, drp_one, thawR_one, thawS_one, noneOwned_one, noneOwned_one0, append_one, Ends_next, Option.bind_some, Option.bind_none, Option.bind_assoc, String.reduceEq, String.reduceNe, ne_eq, not_false_eq_true, not_true_eq_false, List.length_cons, List.length_nil, List.map_cons, List.map_nil, Nat.reduceAdd, Nat.reduceLeDiff, Nat.reduceLT, Nat.reduceBEq, if_true, if_false, reduceIte, Bool.false_eq_true, BEq.rfl, beq_self_eq_true, reduceCtorEq, and_self, and_true, true_and, ite_self]
theorem esc2_ok (G : Rho) (Φ : Addr → List D → Option D) (own : Str → Bool) (l : List Nat) (hl : l.length ≤ 12) : runR r_escape_attrib_html.1 G Φ own [.str (ofL l)] = some (.str (ofL (escN (escS 2) l))) := by
  unfold escN escS
  simp only [List.foldl_cons, List.foldl_nil]
  have i0 := in_at (Str.ofString "&") 38 (by decide +kernel)
  have r0 := repl_at (Str.ofString "&") (Str.ofString "&amp;") 38 [38, 97, 109, 112, 59] (by decide +kernel) (by decide +kernel) (by decide) (by decide) l (by omega)
  have n0 := rep_len 38 [38, 97, 109, 112, 59] l (by decide)
  have e0 := fun ρ : Rho => esc_step ρ (Str.ofString "text") 38 [38, 97, 109, 112, 59] l
  simp only [List.length_cons, List.length_nil, Nat.reduceAdd] at n0
  obtain ⟨l0, q0⟩ : ∃ x, x = rep 38 [38, 97, 109, 112, 59] l := ⟨_, rfl⟩
  rw [← q0] at r0 n0 ⊢
  simp only [← q0] at e0
  have i1 := in_at (Str.ofString ">") 62 (by decide +kernel)
  have r1 := repl_at (Str.ofString ">") (Str.ofString "&gt;") 62 [38, 103, 116, 59] (by decide +kernel) (by decide +kernel) (by decide) (by decide) l0 (by omega)
  have n1 := rep_len 62 [38, 103, 116, 59] l0 (by decide)
  have e1 := fun ρ : Rho => esc_step ρ (Str.ofString "text") 62 [38, 103, 116, 59] l0
  simp only [List.length_cons, List.length_nil, Nat.reduceAdd] at n1
  obtain ⟨l1, q1⟩ : ∃ x, x = rep 62 [38, 103, 116, 59] l0 := ⟨_, rfl⟩
  rw [← q1] at r1 n1 ⊢
  simp only [← q1] at e1
  have i2 := in_at (Str.ofString "\"") 34 (by decide +kernel)
  have r2 := repl_at (Str.ofString "\"") (Str.ofString "&quot;") 34 [38, 113, 117, 111, 116, 59] (by decide +kernel) (by decide +kernel) (by decide) (by decide) l1 (by omega)
  have n2 := rep_len 34 [38, 113, 117, 111, 116, 59] l1 (by decide)
  have e2 := fun ρ : Rho => esc_step ρ (Str.ofString "text") 34 [38, 113, 117, 111, 116, 59] l1
  simp only [List.length_cons, List.length_nil, Nat.reduceAdd] at n2
  obtain ⟨l2, q2⟩ : ∃ x, x = rep 34 [38, 113, 117, 111, 116, 59] l1 := ⟨_, rfl⟩
  rw [← q2] at r2 n2 ⊢
  simp only [← q2] at e2
  unfold runR
  simp -implicitDefEqProofs only [r_escape_attrib_html, Option.bind_some, fnNamesOf, i0, r0, e0, i1, r1, e1, i2, r2, e2, fnD_eq, st_Try, st_While, st_Append, blD_cons, blD_nil, contD_next, contD_ret, retV, st_Assign, st_Return, st_If, assign_plain, assign_list, assign_comp, assign_tuple, plA1, plA2, plA3, plA4, plA5, plA6, plA7, plA8, plA9, plA10, bindS_nm, bindS_tuple, bindD_name, bindD_tup, bindD_lst, bindAll_nil, bindAll_cons, noneOwned_nil, noneOwned_cons, ev_Name, ev_Const, ev_BinOp, ev_USub, negD_int, cmpE_1, cmpE_2, ev_Compare, ev_BoolOp, boolE_or, boolE_and, boolV_bool, evsD_nil, evsD_cons, ev_Tuple, ev_List, ev_Sub, ev_Slice, plI1, plI2, plI3, plI4, plI5, plI6, plS1, plS2, plT1, plT2, plT3, pb_name, pb_const, pb_sub, pb_meth, ev_Call, callD_ref, callD_blt, callD_type, ev_Meth, meth_replace, meth_plain, tst_Compare, tst_BoolOp, tst_Not, tst_Call, tst_Sub, tst1_Compare, tst0_Compare, tst1_Call, tst0_Call, tst1_Sub, allD_and, allD_or, allD_and0, allD_or0, nameD_cons, kindD, storable_cons, upd_at, argsR_cons, argsR_nil, vis_nil, thawR_nil, thawS_nil, drp_nil, constD, vis_one, drp_one, thawR_one, thawS_one, noneOwned_one, noneOwned_one0, append_one, Ends_next, Option.bind_some, Option.bind_none, Option.bind_assoc, String.reduceEq, String.reduceNe, ne_eq, not_false_eq_true, not_true_eq_false, List.length_cons, List.length_nil, List.map_cons, List.map_nil, Nat.reduceAdd, Nat.reduceLeDiff, Nat.reduceLT, Nat.reduceBEq, if_true, if_false, reduceIte, Bool.false_eq_true, BEq.rfl, beq_self_eq_true, reduceCtorEq, and_self, and_true, true_and, ite_self]
theorem esc3_ok (G : Rho) (Φ : Addr → List D → Option D) (own : Str → Bool) (l : List Nat) (hl : l.length ≤ 12) : runR r_escape_cdata_c14n.1 G Φ own [.str (ofL l)] = some (.str (ofL (escN (escS 3) l))) := by
  unfold escN escS
  simp only [List.foldl_cons, List.foldl_nil]
  have i0 := in_at (Str.ofString "&") 38 (by decide +kernel)
  have r0 := repl_at (Str.ofString "&") (Str.ofString "&amp;") 38 [38, 97, 109, 112, 59] (by decide +kernel) (by decide +kernel) (by decide) (by decide) l (by omega)
  have n0 := rep_len 38 [38, 97, 109, 112, 59] l (by decide)
  have e0 := fun ρ : Rho => esc_step ρ (Str.ofString "text") 38 [38, 97, 109, 112, 59] l
  simp only [List.length_cons, List.length_nil, Nat.reduceAdd] at n0
  obtain ⟨l0, q0⟩ : ∃ x, x = rep 38 [38, 97, 109, 112, 59] l := ⟨_, rfl⟩
  rw [← q0] at r0 n0 ⊢
  simp only [← q0] at e0
  have i1 := in_at (Str.ofString "<") 60 (by decide +kernel)
  have r1 := repl_at (Str.ofString "<") (Str.ofString "&lt;") 60 [38, 108, 116, 59] (by decide +kernel) (by decide +kernel) (by decide) (by decide) l0 (by omega)
  have n1 := rep_len 60 [38, 108, 116, 59] l0 (by decide)
  have e1 := fun ρ : Rho => esc_step ρ (Str.ofString "text") 60 [38, 108, 116, 59] l0
  simp only [List.length_cons, List.length_nil, Nat.reduceAdd] at n1
  obtain ⟨l1, q1⟩ : ∃ x, x = rep 60 [38, 108, 116, 59] l0 := ⟨_, rfl⟩
  rw [← q1] at r1 n1 ⊢
  simp only [← q1] at e1
  have i2 := in_at (Str.ofString ">") 62 (by decide +kernel)
  have r2 := repl_at (Str.ofString ">") (Str.ofString "&gt;") 62 [38, 103, 116, 59] (by decide +kernel) (by decide +kernel) (by decide) (by decide) l1 (by omega)
  have n2 := rep_len 62 [38, 103, 116, 59] l1 (by decide)
  have e2 := fun ρ : Rho => esc_step ρ (Str.ofString "text") 62 [38, 103, 116, 59] l1
  simp only [List.length_cons, List.length_nil, Nat.reduceAdd] at n2
  obtain ⟨l2, q2⟩ : ∃ x, x = rep 62 [38, 103, 116, 59] l1 := ⟨_, rfl⟩
  rw [← q2] at r2 n2 ⊢
  simp only [← q2] at e2
  have i3 := in_at (Str.ofString "\r") 13 (by decide +kernel)
  have r3 := repl_at (Str.ofString "\r") (Str.ofString "&#xD;") 13 [38, 35, 120, 68, 59] (by decide +kernel) (by decide +kernel) (by decide) (by decide) l2 (by omega)
  have n3 := rep_len 13 [38, 35, 120, 68, 59] l2 (by decide)
  have e3 := fun ρ : Rho => esc_step ρ (Str.ofString "text") 13 [38, 35, 120, 68, 59] l2
  simp only [List.length_cons, List.length_nil, Nat.reduceAdd] at n3
  obtain ⟨l3, q3⟩ : ∃ x, x = rep 13 [38, 35, 120, 68, 59] l2 := ⟨_, rfl⟩
  rw [← q3] at r3 n3 ⊢
  simp only [← q3] at e3
  unfold runR
  simp -implicitDefEqProofs only [r_escape_cdata_c14n, Option.bind_some, fnNamesOf, i0, r0, e0, i1, r1, e1, i2, r2, e2, i3, r3, e3, fnD_eq, st_Try, st_While, st_Append, blD_cons, blD_nil, contD_next, contD_ret, retV, st_Assign, st_Return, st_If, assign_plain, assign_list, assign_comp, assign_tuple, plA1, plA2, plA3, plA4, plA5, plA6, plA7, plA8, plA9, plA10, bindS_nm, bindS_tuple, bindD_name, bindD_tup, bindD_lst, bindAll_nil, bindAll_cons, noneOwned_nil, noneOwned_cons, ev_Name, ev_Const, ev_BinOp, ev_USub, negD_int, cmpE_1, cmpE_2, ev_Compare, ev_BoolOp, boolE_or, boolE_and, boolV_bool, evsD_nil, evsD_cons, ev_Tuple, ev_List, ev_Sub, ev_Slice, plI1, plI2, plI3, plI4, plI5, plI6, plS1, plS2, plT1, plT2, plT3, pb_name, pb_const, pb_sub, pb_meth, ev_Call, callD_ref, callD_blt, callD_type, ev_Meth, meth_replace, meth_plain, tst_Compare, tst_BoolOp, tst_Not, tst_Call, tst_Sub, tst1_Compare, tst0_Compare, tst1_Call, tst0_Call, tst1_Sub, allD_and, allD_or, allD_and0, allD_or0, nameD_cons, kindD, storable_cons, upd_at, argsR_cons, argsR_nil, vis_nil, thawR_nil, thawS_nil, drp_nil, constD, vis_one, drp_one, thawR_one, thawS_one, noneOwned_one, noneOwned_one0, append_one, Ends_next, Option.bind_some, Option.bind_none, Option.bind_assoc, String.reduceEq, String.reduceNe, ne_eq, not_false_eq_true, not_true_eq_false, List.length_cons, List.length_nil, List.map_cons, List.map_nil, Nat.reduceAdd, Nat.reduceLeDiff, Nat.reduceLT, Nat.reduceBEq, if_true, if_false, reduceIte, Bool.false_eq_true, BEq.rfl, beq_self_eq_true, reduceCtorEq, and_self, and_true, true_and, ite_self]
theorem esc4_ok (G : Rho) (Φ : Addr → List D → Option D) (own : Str → Bool) (l : List Nat) (hl : l.length ≤ 12) : runR r_escape_attrib_c14n.1 G Φ own [.str (ofL l)] = some (.str (ofL (escN (escS 4) l))) := by
  unfold escN escS
  simp only [List.foldl_cons, List.foldl_nil]
  have i0 := in_at (Str.ofString "&") 38 (by decide +kernel)
  have r0 := repl_at (Str.ofString "&") (Str.ofString "&amp;") 38 [38, 97, 109, 112, 59] (by decide +kernel) (by decide +kernel) (by decide) (by decide) l (by omega)
  have n0 := rep_len 38 [38, 97, 109, 112, 59] l (by decide)
  have e0 := fun ρ : Rho => esc_step ρ (Str.ofString "text") 38 [38, 97, 109, 112, 59] l
  simp only [List.length_cons, List.length_nil, Nat.reduceAdd] at n0
  obtain ⟨l0, q0⟩ : ∃ x, x = rep 38 [38, 97, 109, 112, 59] l := ⟨_, rfl⟩
  rw [← q0] at r0 n0 ⊢
  simp only [← q0] at e0
  have i1 := in_at (Str.ofString "<") 60 (by decide +kernel)
  have r1 := repl_at (Str.ofString "<") (Str.ofString "&lt;") 60 [38, 108, 116, 59] (by decide +kernel) (by decide +kernel) (by decide) (by decide) l0 (by omega)
  have n1 := rep_len 60 [38, 108, 116, 59] l0 (by decide)
  have e1 := fun ρ : Rho => esc_step ρ (Str.ofString "text") 60 [38, 108, 116, 59] l0
  simp only [List.length_cons, List.length_nil, Nat.reduceAdd] at n1
  obtain ⟨l1, q1⟩ : ∃ x, x = rep 60 [38, 108, 116, 59] l0 := ⟨_, rfl⟩
  rw [← q1] at r1 n1 ⊢
  simp only [← q1] at e1
  have i2 := in_at (Str.ofString "\"") 34 (by decide +kernel)
  have r2 := repl_at (Str.ofString "\"") (Str.ofString "&quot;") 34 [38, 113, 117, 111, 116, 59] (by decide +kernel) (by decide +kernel) (by decide) (by decide) l1 (by omega)
  have n2 := rep_len 34 [38, 113, 117, 111, 116, 59] l1 (by decide)
  have e2 := fun ρ : Rho => esc_step ρ (Str.ofString "text") 34 [38, 113, 117, 111, 116, 59] l1
  simp only [List.length_cons, List.length_nil, Nat.reduceAdd] at n2
  obtain ⟨l2, q2⟩ : ∃ x, x = rep 34 [38, 113, 117, 111, 116, 59] l1 := ⟨_, rfl⟩
  rw [← q2] at r2 n2 ⊢
  simp only [← q2] at e2
  have i3 := in_at (Str.ofString "\t") 9 (by decide +kernel)
  have r3 := repl_at (Str.ofString "\t") (Str.ofString "&#x9;") 9 [38, 35, 120, 57, 59] (by decide +kernel) (by decide +kernel) (by decide) (by decide) l2 (by omega)
  have n3 := rep_len 9 [38, 35, 120, 57, 59] l2 (by decide)
  have e3 := fun ρ : Rho => esc_step ρ (Str.ofString "text") 9 [38, 35, 120, 57, 59] l2
  simp only [List.length_cons, List.length_nil, Nat.reduceAdd] at n3
  obtain ⟨l3, q3⟩ : ∃ x, x = rep 9 [38, 35, 120, 57, 59] l2 := ⟨_, rfl⟩
  rw [← q3] at r3 n3 ⊢
  simp only [← q3] at e3
  have i4 := in_at (Str.ofString "\n") 10 (by decide +kernel)
  have r4 := repl_at (Str.ofString "\n") (Str.ofString "&#xA;") 10 [38, 35, 120, 65, 59] (by decide +kernel) (by decide +kernel) (by decide) (by decide) l3 (by omega)
  have n4 := rep_len 10 [38, 35, 120, 65, 59] l3 (by decide)
  have e4 := fun ρ : Rho => esc_step ρ (Str.ofString "text") 10 [38, 35, 120, 65, 59] l3
  simp only [List.length_cons, List.length_nil, Nat.reduceAdd] at n4
  obtain ⟨l4, q4⟩ : ∃ x, x = rep 10 [38, 35, 120, 65, 59] l3 := ⟨_, rfl⟩
  rw [← q4] at r4 n4 ⊢
  simp only [← q4] at e4
  have i5 := in_at (Str.ofString "\r") 13 (by decide +kernel)
  have r5 := repl_at (Str.ofString "\r") (Str.ofString "&#xD;") 13 [38, 35, 120, 68, 59] (by decide +kernel) (by decide +kernel) (by decide) (by decide) l4 (by omega)
  have n5 := rep_len 13 [38, 35, 120, 68, 59] l4 (by decide)
  have e5 := fun ρ : Rho => esc_step ρ (Str.ofString "text") 13 [38, 35, 120, 68, 59] l4
  simp only [List.length_cons, List.length_nil, Nat.reduceAdd] at n5
  obtain ⟨l5, q5⟩ : ∃ x, x = rep 13 [38, 35, 120, 68, 59] l4 := ⟨_, rfl⟩
  rw [← q5] at r5 n5 ⊢
  simp only [← q5] at e5
  unfold runR
  simp -implicitDefEqProofs only [r_escape_attrib_c14n, Option.bind_some, fnNamesOf, i0, r0, e0, i1, r1, e1, i2, r2, e2, i3, r3, e3, i4, r4, e4, i5, r5, e5, fnD_eq, st_Try, st_While, st_Append, blD_cons, blD_nil, contD_next, contD_ret, retV, st_Assign, st_Return, st_If, assign_plain, assign_list, assign_comp, assign_tuple, plA1, plA2, plA3, plA4, plA5, plA6, plA7, plA8, plA9, plA10, bindS_nm, bindS_tuple, bindD_name, bindD_tup, bindD_lst, bindAll_nil, bindAll_cons, noneOwned_nil, noneOwned_cons, ev_Name, ev_Const, ev_BinOp, ev_USub, negD_int, cmpE_1, cmpE_2, ev_Compare, ev_BoolOp, boolE_or, boolE_and, boolV_bool, evsD_nil, evsD_cons, ev_Tuple, ev_List, ev_Sub, ev_Slice, plI1, plI2, plI3, plI4, plI5, plI6, plS1, plS2, plT1, plT2, plT3, pb_name, pb_const, pb_sub, pb_meth, ev_Call, callD_ref, callD_blt, callD_type, ev_Meth, meth_replace, meth_plain, tst_Compare, tst_BoolOp, tst_Not, tst_Call, tst_Sub, tst1_Compare, tst0_Compare, tst1_Call, tst0_Call, tst1_Sub, allD_and, allD_or, allD_and0, allD_or0, nameD_cons, kindD, storable_cons, upd_at, argsR_cons, argsR_nil, vis_nil, thawR_nil, thawS_nil, drp_nil, constD, vis_one, drp_one, thawR_one, thawS_one, noneOwned_one, noneOwned_one0, append_one, Ends_next, Option.bind_some, Option.bind_none, Option.bind_assoc, String.reduceEq, String.reduceNe, ne_eq, not_false_eq_true, not_true_eq_false, List.length_cons, List.length_nil, List.map_cons, List.map_nil, Nat.reduceAdd, Nat.reduceLeDiff, Nat.reduceLT, Nat.reduceBEq, if_true, if_false, reduceIte, Bool.false_eq_true, BEq.rfl, beq_self_eq_true, reduceCtorEq, and_self, and_true, true_and, ite_self]
end Mine
set_option Elab.async false
set_option maxRecDepth 100000
set_option maxHeartbeats 4000000
namespace Mine
open PySem PySem.Calls PyProof.Rows PySem.W PySem.Spec PySem.Challenge
section
variable (G : Rho) (Φ : Addr → List D → Option D) (own : Str → Bool) (b1 : List Int) (b3 : List (Int × Str))
theorem inb1_ok (hb1 : G (Str.ofString "b1_set") = some (.iset b1)) (hord : G (Str.ofString "ord") = some (.val (.builtin "ord"))) (c : Nat) : runR r_in_table_b1.1 G Φ own [.str (ofL [c])] = some (.bool (decide ((c : Int) ∈ b1))) := by
  unfold runR
  simp -implicitDefEqProofs only [r_in_table_b1, Option.bind_some, fnNamesOf, hb1, hord, fD_ord, in_set, fnD_eq, st_Try, st_While, st_Append, blD_cons, blD_nil, contD_next, contD_ret, retV, st_Assign, st_Return, st_If, assign_plain, assign_list, assign_comp, assign_tuple, plA1, plA2, plA3, plA4, plA5, plA6, plA7, plA8, plA9, plA10, bindS_nm, bindS_tuple, bindD_name, bindD_tup, bindD_lst, bindAll_nil, bindAll_cons, noneOwned_nil, noneOwned_cons, ev_Name, ev_Const, ev_BinOp, ev_USub, negD_int, cmpE_1, cmpE_2, ev_Compare, ev_BoolOp, boolE_or, boolE_and, boolV_bool, evsD_nil, evsD_cons, ev_Tuple, ev_List, ev_Sub, ev_Slice, plI1, plI2, plI3, plI4, plI5, plI6, plS1, plS2, plT1, plT2, plT3, pb_name, pb_const, pb_sub, pb_meth, ev_Call, callD_ref, callD_blt, callD_type, ev_Meth, meth_replace, meth_plain, tst_Compare, tst_BoolOp, tst_Not, tst_Call, tst_Sub, tst1_Compare, tst0_Compare, tst1_Call, tst0_Call, tst1_Sub, allD_and, allD_or, allD_and0, allD_or0, nameD_cons, kindD, storable_cons, upd_at, argsR_cons, argsR_nil, vis_nil, thawR_nil, thawS_nil, drp_nil, constD, vis_one, drp_one, thawR_one, thawS_one, noneOwned_one, noneOwned_one0, append_one, Ends_next, Option.bind_some, Option.bind_none, Option.bind_assoc, String.reduceEq, String.reduceNe, ne_eq, not_false_eq_true, not_true_eq_false, List.length_cons, List.length_nil, List.map_cons, List.map_nil, Nat.reduceAdd, Nat.reduceLeDiff, Nat.reduceLT, Nat.reduceBEq, if_true, if_false, reduceIte, Bool.false_eq_true, BEq.rfl, beq_self_eq_true, reduceCtorEq, and_self, and_true, true_and, ite_self]
theorem mapb3_ok (hb3 : G (Str.ofString "b3_exceptions") = some (.dci (b3.map fun p => (p.1, .str p.2)))) (hord : G (Str.ofString "ord") = some (.val (.builtin "ord"))) (c : Nat) (hc : (pmapN b3 c).length ≤ 18) : runR r_map_table_b3.1 G Φ own [.str (ofL [c])] = some (.str (ofL (pmapN b3 c))) := by
  unfold runR
  unfold pmapN at hc ⊢
  cases h : b3.find? (fun p => p.1 = (c : Int)) with
  | some p =>
    have hg := get_some h
    simp only
    rw [← ofL_eq]
    simp -implicitDefEqProofs only [r_map_table_b3, Option.bind_some, fnNamesOf, hb3, hord, fD_ord, hg, isnot_str, fnD_eq, st_Try, st_While, st_Append, blD_cons, blD_nil, contD_next, contD_ret, retV, st_Assign, st_Return, st_If, assign_plain, assign_list, assign_comp, assign_tuple, plA1, plA2, plA3, plA4, plA5, plA6, plA7, plA8, plA9, plA10, bindS_nm, bindS_tuple, bindD_name, bindD_tup, bindD_lst, bindAll_nil, bindAll_cons, noneOwned_nil, noneOwned_cons, ev_Name, ev_Const, ev_BinOp, ev_USub, negD_int, cmpE_1, cmpE_2, ev_Compare, ev_BoolOp, boolE_or, boolE_and, boolV_bool, evsD_nil, evsD_cons, ev_Tuple, ev_List, ev_Sub, ev_Slice, plI1, plI2, plI3, plI4, plI5, plI6, plS1, plS2, plT1, plT2, plT3, pb_name, pb_const, pb_sub, pb_meth, ev_Call, callD_ref, callD_blt, callD_type, ev_Meth, meth_replace, meth_plain, tst_Compare, tst_BoolOp, tst_Not, tst_Call, tst_Sub, tst1_Compare, tst0_Compare, tst1_Call, tst0_Call, tst1_Sub, allD_and, allD_or, allD_and0, allD_or0, nameD_cons, kindD, storable_cons, upd_at, argsR_cons, argsR_nil, vis_nil, thawR_nil, thawS_nil, drp_nil, constD, vis_one, drp_one, thawR_one, thawS_one, noneOwned_one, noneOwned_one0, append_one, Ends_next, Option.bind_some, Option.bind_none, Option.bind_assoc, String.reduceEq, String.reduceNe, ne_eq, not_false_eq_true, not_true_eq_false, List.length_cons, List.length_nil, List.map_cons, List.map_nil, Nat.reduceAdd, Nat.reduceLeDiff, Nat.reduceLT, Nat.reduceBEq, if_true, if_false, reduceIte, Bool.false_eq_true, BEq.rfl, beq_self_eq_true, reduceCtorEq, and_self, and_true, true_and, ite_self]
  | none =>
    have hg := get_none h
    rw [h] at hc
    simp only at hc ⊢
    rw [← ofL_eq]
    have hl := lower_D (ofL [c]) (by rw [ofL_eq (Txt.lower (ofL [c])), ofL_length]; omega)
    simp -implicitDefEqProofs only [r_map_table_b3, Option.bind_some, fnNamesOf, hb3, hord, fD_ord, hg, isnot_none, hl, fnD_eq, st_Try, st_While, st_Append, blD_cons, blD_nil, contD_next, contD_ret, retV, st_Assign, st_Return, st_If, assign_plain, assign_list, assign_comp, assign_tuple, plA1, plA2, plA3, plA4, plA5, plA6, plA7, plA8, plA9, plA10, bindS_nm, bindS_tuple, bindD_name, bindD_tup, bindD_lst, bindAll_nil, bindAll_cons, noneOwned_nil, noneOwned_cons, ev_Name, ev_Const, ev_BinOp, ev_USub, negD_int, cmpE_1, cmpE_2, ev_Compare, ev_BoolOp, boolE_or, boolE_and, boolV_bool, evsD_nil, evsD_cons, ev_Tuple, ev_List, ev_Sub, ev_Slice, plI1, plI2, plI3, plI4, plI5, plI6, plS1, plS2, plT1, plT2, plT3, pb_name, pb_const, pb_sub, pb_meth, ev_Call, callD_ref, callD_blt, callD_type, ev_Meth, meth_replace, meth_plain, tst_Compare, tst_BoolOp, tst_Not, tst_Call, tst_Sub, tst1_Compare, tst0_Compare, tst1_Call, tst0_Call, tst1_Sub, allD_and, allD_or, allD_and0, allD_or0, nameD_cons, kindD, storable_cons, upd_at, argsR_cons, argsR_nil, vis_nil, thawR_nil, thawS_nil, drp_nil, constD, vis_one, drp_one, thawR_one, thawS_one, noneOwned_one, noneOwned_one0, append_one, Ends_next, Option.bind_some, Option.bind_none, Option.bind_assoc, String.reduceEq, String.reduceNe, ne_eq, not_false_eq_true, not_true_eq_false, List.length_cons, List.length_nil, List.map_cons, List.map_nil, Nat.reduceAdd, Nat.reduceLeDiff, Nat.reduceLT, Nat.reduceBEq, if_true, if_false, reduceIte, Bool.false_eq_true, BEq.rfl, beq_self_eq_true, reduceCtorEq, and_self, and_true, true_and, ite_self]
theorem prep_ok (a1 a2 : Addr) (h1 : G (Str.ofString "in_table_b1") = some (.val (.ref a1))) (h2 : G (Str.ofString "map_table_b3") = some (.val (.ref a2)))
    (f1 : ∀ c : Nat, Φ a1 [.str (ofL [c])] = some (.bool (decide ((c : Int) ∈ b1)))) (f2 : ∀ c : Nat, (pmapN b3 c).length ≤ 18 → Φ a2 [.str (ofL [c])] = some (.str (ofL (pmapN b3 c))))
    (l : List Nat) (hl : l.length ≤ 100) (hok : l.all (prepOk b1 b3) = true) : runR r_law_prepared.1 G Φ own [.str (ofL l)] = some (.str (ofL (prepN b1 b3 l))) := by
  unfold runR
  simp -implicitDefEqProofs only [r_law_prepared, Option.bind_some, fnNamesOf, h1, h2, f1, comp_eq, compOk_eq, kindF, List.all_cons, List.all_nil, List.any_cons, List.any_nil, nodB, nameOk_local, nameOk_cell, nameOk_glob, nameOk_free, lookup_at, dbgB, freeB1, freeB2, closRho_cons, closRho_nil, freshT_name, freshT_tup, isTup_name, isTup_tup, tgB_name, tgB_tup, items_Name, items_List, items_Sub, items_Call, isTy_type, isTy_blt, isTy_ref, listD_lst, listD_lst', listD_dci, listD_str, gen_one, gen_two, testsD_nil, testsD_cons, ev_ListComp, ev_DictComp, keyD_eq, intV_int, ofs_beq, String.reduceBEq, Bool.not_false, Bool.not_true, Bool.and_true, Bool.true_and, Bool.and_self, Bool.or_false, Bool.false_or, Option.isNone_none, Option.isNone_some, fnD_eq, st_Try, st_While, st_Append, blD_cons, blD_nil, contD_next, contD_ret, retV, st_Assign, st_Return, st_If, assign_plain, assign_list, assign_comp, assign_tuple, plA1, plA2, plA3, plA4, plA5, plA6, plA7, plA8, plA9, plA10, bindS_nm, bindS_tuple, bindD_name, bindD_tup, bindD_lst, bindAll_nil, bindAll_cons, noneOwned_nil, noneOwned_cons, ev_Name, ev_Const, ev_BinOp, ev_USub, negD_int, cmpE_1, cmpE_2, ev_Compare, ev_BoolOp, boolE_or, boolE_and, boolV_bool, evsD_nil, evsD_cons, ev_Tuple, ev_List, ev_Sub, ev_Slice, plI1, plI2, plI3, plI4, plI5, plI6, plS1, plS2, plT1, plT2, plT3, pb_name, pb_const, pb_sub, pb_meth, ev_Call, callD_ref, callD_blt, callD_type, ev_Meth, meth_replace, meth_plain, tst_Compare, tst_BoolOp, tst_Not, tst_Call, tst_Sub, tst1_Compare, tst0_Compare, tst1_Call, tst0_Call, tst1_Sub, allD_and, allD_or, allD_and0, allD_or0, nameD_cons, kindD, storable_cons, upd_at, argsR_cons, argsR_nil, vis_nil, thawR_nil, thawS_nil, drp_nil, constD, vis_one, drp_one, thawR_one, thawS_one, noneOwned_one, noneOwned_one0, append_one, Ends_next, Option.bind_some, Option.bind_none, Option.bind_assoc, String.reduceEq, String.reduceNe, ne_eq, not_false_eq_true, not_true_eq_false, List.length_cons, List.length_nil, List.map_cons, List.map_nil, Nat.reduceAdd, Nat.reduceLeDiff, Nat.reduceLT, Nat.reduceBEq, if_true, if_false, reduceIte, Bool.false_eq_true, BEq.rfl, beq_self_eq_true, reduceCtorEq, and_self, and_true, true_and, ite_self]
  have item : ∀ c ∈ l, (fun d => (Φ a1 [d]).bind fun y => (boolV y).bind fun y => (if (!y) = true then some true else some false).bind fun b => if b = true then (Φ a2 [d]).bind fun d => some [d] else some []) (D.str (ofL [c])) = some (if (c : Int) ∈ b1 then [] else [D.str (ofL (pmapN b3 c))]) := by
    intro c hc
    have hp := List.all_eq_true.mp hok c hc
    simp only [f1, Option.bind_some, boolV]
    by_cases hb : (c : Int) ∈ b1
    · simp [hb]
    · have : (pmapN b3 c).length ≤ 18 := by simpa [prepOk, hb] using hp
      simp [hb, f2 c this]
  have e := forItems_map (fun d => (Φ a1 [d]).bind fun y => (boolV y).bind fun y => (if (!y) = true then some true else some false).bind fun b => if b = true then (Φ a2 [d]).bind fun d => some [d] else some []) (fun c => D.str (ofL [c])) (fun c : Nat => if (c : Int) ∈ b1 then [] else [D.str (ofL (pmapN b3 c))]) l item
  rw [show (forItems _ (l.map fun c => D.str (ofL [c]))) = _ from e]
  have conv : (l.flatMap fun c : Nat => if (c : Int) ∈ b1 then [] else [D.str (ofL (pmapN b3 c))]) = (l.flatMap fun c : Nat => if (c : Int) ∈ b1 then [] else [pmapN b3 c]).map fun x => D.str (ofL x) := by
    rw [List.map_flatMap]
    congr 1
    funext c
    split <;> rfl
  have key : ∀ l : List Nat, l.all (prepOk b1 b3) = true → ((l.flatMap fun c : Nat => if (c : Int) ∈ b1 then [] else [pmapN b3 c]).map List.length).sum ≤ 18 * l.length ∧ (l.flatMap fun c : Nat => if (c : Int) ∈ b1 then [] else [pmapN b3 c]).length ≤ l.length ∧ (l.flatMap fun c : Nat => if (c : Int) ∈ b1 then [] else [pmapN b3 c]).flatten = prepN b1 b3 l := by
    intro l
    induction l with
    | nil => intro _; exact ⟨Nat.le_refl _, Nat.le_refl _, rfl⟩
    | cons c r ih =>
      intro h
      rw [List.all_cons, Bool.and_eq_true] at h
      obtain ⟨i1, i2, i3⟩ := ih h.2
      have e2 : prepN b1 b3 (c :: r) = pchN b1 b3 c ++ prepN b1 b3 r := List.flatMap_cons ..
      rw [List.flatMap_cons, e2, ← i3]
      unfold pchN
      by_cases hb : (c : Int) ∈ b1
      · rw [if_pos hb, if_pos hb, List.nil_append, List.length_cons]
        exact ⟨by omega, by omega, rfl⟩
      · have hp : (pmapN b3 c).length ≤ 18 := by simpa [prepOk, hb] using h.1
        rw [if_neg hb, if_neg hb, List.length_cons]
        refine ⟨?_, ?_, by simp⟩
        · simp only [List.map_append, List.map_cons, List.map_nil, List.sum_append, List.sum_cons, List.sum_nil]; omega
        · simp only [List.length_append, List.length_cons, List.length_nil]; omega
  obtain ⟨k1, k2, k3⟩ := key l hok
  rw [conv, Option.bind_some, capL_ok (by rw [List.length_map]; omega), Option.bind_some, join_D _ (by decide +kernel) _ (by omega), k3]
  rfl
end
end Mine
set_option Elab.async false
set_option maxRecDepth 100000
set_option maxHeartbeats 4000000
namespace Mine
open PySem PySem.Calls PyProof.Rows PySem.W PySem.Spec PySem.Challenge
section
variable (G : Rho) (Φ : Addr → List D → Option D) (own : Str → Bool)
theorem sign_ok (hchr : G (Str.ofString "chr") = some (.val (.builtin "chr"))) (hown : own (Str.ofString "great") = false ∧ own (Str.ofString "several") = false) (n : Nat) : runR r_law_sign.1 G Φ own [.int (n : Int)] = some (.tup [.str (ofL [(signN n).1]), .str (ofL (signN n).2)]) := by
  have h5 : n % 5 = 0 ∨ n % 5 = 1 ∨ n % 5 = 2 ∨ n % 5 = 3 ∨ n % 5 = 4 := by omega
  obtain ⟨w, hw⟩ : ∃ w, w = n / 5 := ⟨_, rfl⟩
  have m0 : binD .FloorDiv (.int (n : Int)) (.int 5) = some (.int (w : Int)) := by rw [hw]; exact bI_fdiv n 5 (by decide) (by decide)
  have m1 : binD .Mod (.int (n : Int)) (.int 5) = some (.int ((n % 5 : Nat) : Int)) := bI_mod n 5 (by decide)
  have c : ∀ a b : Int, cmpD .Eq (.int a) (.int b) = some (a == b) := fun _ _ => rfl
  have ad : ∀ a b : Nat, binD .Add (.int (a : Int)) (.int (b : Int)) = some (.int ((a + b : Nat) : Int)) := bI_add
  unfold signN
  rw [← hw]
  have hL1 : grL.length = 11 := rfl
  have hL2 : b1S.length = 11 := rfl
  have hL3 : svM.length = 10 := rfl
  unfold runR
  rcases h5 with h | h | h | h | h <;> rw [h] at m1 ⊢ <;> simp only
  · have m2 : binD .Mod (.int (w : Int)) (.int 7) = some (.int ((w % 7 : Nat) : Int)) := bI_mod w 7 (by decide)
    have i := idx_strN (Str.ofString "&<>\"\r\n\t") spL (by decide +kernel) (w % 7) (Nat.mod_lt _ (by decide)) (by decide)
    simp -implicitDefEqProofs only [r_law_sign, Option.bind_some, fnNamesOf, m0, m1, m2, i, c, Int.reduceBEq, Int.cast_ofNat_Int, List.length_map, hL1, hL2, hL3, fnD_eq, st_Try, st_While, st_Append, blD_cons, blD_nil, contD_next, contD_ret, retV, st_Assign, st_Return, st_If, assign_plain, assign_list, assign_comp, assign_tuple, plA1, plA2, plA3, plA4, plA5, plA6, plA7, plA8, plA9, plA10, bindS_nm, bindS_tuple, bindD_name, bindD_tup, bindD_lst, bindAll_nil, bindAll_cons, noneOwned_nil, noneOwned_cons, ev_Name, ev_Const, ev_BinOp, ev_USub, negD_int, cmpE_1, cmpE_2, ev_Compare, ev_BoolOp, boolE_or, boolE_and, boolV_bool, evsD_nil, evsD_cons, ev_Tuple, ev_List, ev_Sub, ev_Slice, plI1, plI2, plI3, plI4, plI5, plI6, plS1, plS2, plT1, plT2, plT3, pb_name, pb_const, pb_sub, pb_meth, ev_Call, callD_ref, callD_blt, callD_type, ev_Meth, meth_replace, meth_plain, tst_Compare, tst_BoolOp, tst_Not, tst_Call, tst_Sub, tst1_Compare, tst0_Compare, tst1_Call, tst0_Call, tst1_Sub, allD_and, allD_or, allD_and0, allD_or0, nameD_cons, kindD, storable_cons, upd_at, argsR_cons, argsR_nil, vis_nil, thawR_nil, thawS_nil, drp_nil, constD, vis_one, drp_one, thawR_one, thawS_one, noneOwned_one, noneOwned_one0, append_one, Ends_next, Option.bind_some, Option.bind_none, Option.bind_assoc, String.reduceEq, String.reduceNe, ne_eq, not_false_eq_true, not_true_eq_false, List.length_cons, List.length_nil, List.map_cons, List.map_nil, Nat.reduceAdd, Nat.reduceLeDiff, Nat.reduceLT, Nat.reduceBEq, if_true, if_false, reduceIte, Bool.false_eq_true, BEq.rfl, beq_self_eq_true, reduceCtorEq, and_self, and_true, true_and, ite_self]
  · have m2 : binD .Mod (.int (w : Int)) (.int 26) = some (.int ((w % 26 : Nat) : Int)) := bI_mod w 26 (by decide)
    have m3 : binD .FloorDiv (.int (w : Int)) (.int 26) = some (.int ((w / 26 : Nat) : Int)) := bI_fdiv w 26 (by decide) (by decide)
    have m4 : binD .Mod (.int ((w / 26 : Nat) : Int)) (.int 11) = some (.int ((w / 26 % 11 : Nat) : Int)) := bI_mod (w / 26) 11 (by decide)
    have i := idx_lstN grL (w / 26 % 11) (Nat.mod_lt _ (by decide)) (by decide)
    have g := grB (w / 26 % 11)
    have k := fD_chr (grL.getD (w / 26 % 11) 0 + w % 26) (by have := Nat.mod_lt w (show 26 > 0 by decide); omega)
    have k2 := fD_chr (97 + w % 26) (by have := Nat.mod_lt w (show 26 > 0 by decide); omega)
    have a2 : binD .Add (.int 97) (.int ((w % 26 : Nat) : Int)) = some (.int ((97 + w % 26 : Nat) : Int)) := bI_add 97 (w % 26)
    have lg : [D.int 65, .int 119808, .int 119860, .int 119912, .int 120016, .int 120172, .int 120224, .int 120276, .int 120328, .int 120380, .int 120432] = grL.map fun n : Nat => .int (n : Int) := rfl
    simp -implicitDefEqProofs only [r_law_sign, Option.bind_some, fnNamesOf, hown, hchr, m0, m1, m2, m3, m4, lg, i, k, k2, a2, ad, c, Int.reduceBEq, Int.cast_ofNat_Int, List.length_map, hL1, hL2, hL3, fnD_eq, st_Try, st_While, st_Append, blD_cons, blD_nil, contD_next, contD_ret, retV, st_Assign, st_Return, st_If, assign_plain, assign_list, assign_comp, assign_tuple, plA1, plA2, plA3, plA4, plA5, plA6, plA7, plA8, plA9, plA10, bindS_nm, bindS_tuple, bindD_name, bindD_tup, bindD_lst, bindAll_nil, bindAll_cons, noneOwned_nil, noneOwned_cons, ev_Name, ev_Const, ev_BinOp, ev_USub, negD_int, cmpE_1, cmpE_2, ev_Compare, ev_BoolOp, boolE_or, boolE_and, boolV_bool, evsD_nil, evsD_cons, ev_Tuple, ev_List, ev_Sub, ev_Slice, plI1, plI2, plI3, plI4, plI5, plI6, plS1, plS2, plT1, plT2, plT3, pb_name, pb_const, pb_sub, pb_meth, ev_Call, callD_ref, callD_blt, callD_type, ev_Meth, meth_replace, meth_plain, tst_Compare, tst_BoolOp, tst_Not, tst_Call, tst_Sub, tst1_Compare, tst0_Compare, tst1_Call, tst0_Call, tst1_Sub, allD_and, allD_or, allD_and0, allD_or0, nameD_cons, kindD, storable_cons, upd_at, argsR_cons, argsR_nil, vis_nil, thawR_nil, thawS_nil, drp_nil, constD, vis_one, drp_one, thawR_one, thawS_one, noneOwned_one, noneOwned_one0, append_one, Ends_next, Option.bind_some, Option.bind_none, Option.bind_assoc, String.reduceEq, String.reduceNe, ne_eq, not_false_eq_true, not_true_eq_false, List.length_cons, List.length_nil, List.map_cons, List.map_nil, Nat.reduceAdd, Nat.reduceLeDiff, Nat.reduceLT, Nat.reduceBEq, if_true, if_false, reduceIte, Bool.false_eq_true, BEq.rfl, beq_self_eq_true, reduceCtorEq, and_self, and_true, true_and, ite_self]
  · have m2 : binD .Mod (.int (w : Int)) (.int 10) = some (.int ((w % 10 : Nat) : Int)) := bI_mod w 10 (by decide)
    have i := idx_strN (Str.ofString "ßﬀﬁﬂﬃﬄﬆ℡㎒㏇") svC (by decide +kernel) (w % 10) (Nat.mod_lt _ (by decide)) (by decide)
    have i2 := idx_lstS svM (w % 10) (Nat.mod_lt _ (by decide)) (by decide)
    have e1 : Str.ofString "ss" = ofL [115, 115] := by decide +kernel
    have e2 : Str.ofString "ff" = ofL [102, 102] := by decide +kernel
    have e3 : Str.ofString "fi" = ofL [102, 105] := by decide +kernel
    have e4 : Str.ofString "fl" = ofL [102, 108] := by decide +kernel
    have e5 : Str.ofString "ffi" = ofL [102, 102, 105] := by decide +kernel
    have e6 : Str.ofString "ffl" = ofL [102, 102, 108] := by decide +kernel
    have e7 : Str.ofString "st" = ofL [115, 116] := by decide +kernel
    have e8 : Str.ofString "tel" = ofL [116, 101, 108] := by decide +kernel
    have e9 : Str.ofString "mhz" = ofL [109, 104, 122] := by decide +kernel
    have e10 : Str.ofString "co." = ofL [99, 111, 46] := by decide +kernel
    have lg : [D.str (Str.ofString "ss"), .str (Str.ofString "ff"), .str (Str.ofString "fi"), .str (Str.ofString "fl"), .str (Str.ofString "ffi"), .str (Str.ofString "ffl"), .str (Str.ofString "st"), .str (Str.ofString "tel"), .str (Str.ofString "mhz"), .str (Str.ofString "co.")] = svM.map fun n => .str (ofL n) := by
      rw [e1, e2, e3, e4, e5, e6, e7, e8, e9, e10]; rfl
    clear e1 e2 e3 e4 e5 e6 e7 e8 e9 e10
    simp -implicitDefEqProofs only [r_law_sign, Option.bind_some, fnNamesOf, hown, hchr, m0, m1, m2, lg, i, i2, c, Int.reduceBEq, Int.cast_ofNat_Int, List.length_map, hL1, hL2, hL3, fnD_eq, st_Try, st_While, st_Append, blD_cons, blD_nil, contD_next, contD_ret, retV, st_Assign, st_Return, st_If, assign_plain, assign_list, assign_comp, assign_tuple, plA1, plA2, plA3, plA4, plA5, plA6, plA7, plA8, plA9, plA10, bindS_nm, bindS_tuple, bindD_name, bindD_tup, bindD_lst, bindAll_nil, bindAll_cons, noneOwned_nil, noneOwned_cons, ev_Name, ev_Const, ev_BinOp, ev_USub, negD_int, cmpE_1, cmpE_2, ev_Compare, ev_BoolOp, boolE_or, boolE_and, boolV_bool, evsD_nil, evsD_cons, ev_Tuple, ev_List, ev_Sub, ev_Slice, plI1, plI2, plI3, plI4, plI5, plI6, plS1, plS2, plT1, plT2, plT3, pb_name, pb_const, pb_sub, pb_meth, ev_Call, callD_ref, callD_blt, callD_type, ev_Meth, meth_replace, meth_plain, tst_Compare, tst_BoolOp, tst_Not, tst_Call, tst_Sub, tst1_Compare, tst0_Compare, tst1_Call, tst0_Call, tst1_Sub, allD_and, allD_or, allD_and0, allD_or0, nameD_cons, kindD, storable_cons, upd_at, argsR_cons, argsR_nil, vis_nil, thawR_nil, thawS_nil, drp_nil, constD, vis_one, drp_one, thawR_one, thawS_one, noneOwned_one, noneOwned_one0, append_one, Ends_next, Option.bind_some, Option.bind_none, Option.bind_assoc, String.reduceEq, String.reduceNe, ne_eq, not_false_eq_true, not_true_eq_false, List.length_cons, List.length_nil, List.map_cons, List.map_nil, Nat.reduceAdd, Nat.reduceLeDiff, Nat.reduceLT, Nat.reduceBEq, if_true, if_false, reduceIte, Bool.false_eq_true, BEq.rfl, beq_self_eq_true, reduceCtorEq, and_self, and_true, true_and, ite_self]
  · have m2 : binD .Mod (.int (w : Int)) (.int 27) = some (.int ((w % 27 : Nat) : Int)) := bI_mod w 27 (by decide)
    have h27 : w % 27 < 27 := Nat.mod_lt _ (by decide)
    have g1 : cmpD .Gt (.int ((w % 27 : Nat) : Int)) (.int 10) = some (decide (w % 27 > 10)) := cI_gt (w % 27) 10
    have a2 : binD .Add (.int 65013) (.int ((w % 27 : Nat) : Int)) = some (.int ((65013 + w % 27 : Nat) : Int)) := bI_add 65013 (w % 27)
    have k := fD_chr (65013 + w % 27) (by omega)
    have lg : [D.int 173, .int 847, .int 6150, .int 6155, .int 6156, .int 6157, .int 8203, .int 8204, .int 8205, .int 8288, .int 65279] = b1S.map fun n : Nat => .int (n : Int) := rfl
    have em : Str.ofString "" = ofL [] := by decide +kernel
    by_cases hg : w % 27 > 10
    · rw [decide_eq_true hg] at g1
      rw [if_pos hg]
      simp -implicitDefEqProofs only [r_law_sign, Option.bind_some, fnNamesOf, hown, hchr, m0, m1, m2, g1, a2, k, em, c, Int.reduceBEq, Int.cast_ofNat_Int, List.length_map, hL1, hL2, hL3, fnD_eq, st_Try, st_While, st_Append, blD_cons, blD_nil, contD_next, contD_ret, retV, st_Assign, st_Return, st_If, assign_plain, assign_list, assign_comp, assign_tuple, plA1, plA2, plA3, plA4, plA5, plA6, plA7, plA8, plA9, plA10, bindS_nm, bindS_tuple, bindD_name, bindD_tup, bindD_lst, bindAll_nil, bindAll_cons, noneOwned_nil, noneOwned_cons, ev_Name, ev_Const, ev_BinOp, ev_USub, negD_int, cmpE_1, cmpE_2, ev_Compare, ev_BoolOp, boolE_or, boolE_and, boolV_bool, evsD_nil, evsD_cons, ev_Tuple, ev_List, ev_Sub, ev_Slice, plI1, plI2, plI3, plI4, plI5, plI6, plS1, plS2, plT1, plT2, plT3, pb_name, pb_const, pb_sub, pb_meth, ev_Call, callD_ref, callD_blt, callD_type, ev_Meth, meth_replace, meth_plain, tst_Compare, tst_BoolOp, tst_Not, tst_Call, tst_Sub, tst1_Compare, tst0_Compare, tst1_Call, tst0_Call, tst1_Sub, allD_and, allD_or, allD_and0, allD_or0, nameD_cons, kindD, storable_cons, upd_at, argsR_cons, argsR_nil, vis_nil, thawR_nil, thawS_nil, drp_nil, constD, vis_one, drp_one, thawR_one, thawS_one, noneOwned_one, noneOwned_one0, append_one, Ends_next, Option.bind_some, Option.bind_none, Option.bind_assoc, String.reduceEq, String.reduceNe, ne_eq, not_false_eq_true, not_true_eq_false, List.length_cons, List.length_nil, List.map_cons, List.map_nil, Nat.reduceAdd, Nat.reduceLeDiff, Nat.reduceLT, Nat.reduceBEq, if_true, if_false, reduceIte, Bool.false_eq_true, BEq.rfl, beq_self_eq_true, reduceCtorEq, and_self, and_true, true_and, ite_self]
    · rw [decide_eq_false hg] at g1
      rw [if_neg hg]
      have i := idx_lstN b1S (w % 27) (show w % 27 < 11 by omega) (by decide)
      have k3 := fD_chr (b1S.getD (w % 27) 0) (by have := b1B (w % 27); omega)
      simp -implicitDefEqProofs only [r_law_sign, Option.bind_some, fnNamesOf, hown, hchr, m0, m1, m2, g1, lg, i, k3, em, c, Int.reduceBEq, Int.cast_ofNat_Int, List.length_map, hL1, hL2, hL3, fnD_eq, st_Try, st_While, st_Append, blD_cons, blD_nil, contD_next, contD_ret, retV, st_Assign, st_Return, st_If, assign_plain, assign_list, assign_comp, assign_tuple, plA1, plA2, plA3, plA4, plA5, plA6, plA7, plA8, plA9, plA10, bindS_nm, bindS_tuple, bindD_name, bindD_tup, bindD_lst, bindAll_nil, bindAll_cons, noneOwned_nil, noneOwned_cons, ev_Name, ev_Const, ev_BinOp, ev_USub, negD_int, cmpE_1, cmpE_2, ev_Compare, ev_BoolOp, boolE_or, boolE_and, boolV_bool, evsD_nil, evsD_cons, ev_Tuple, ev_List, ev_Sub, ev_Slice, plI1, plI2, plI3, plI4, plI5, plI6, plS1, plS2, plT1, plT2, plT3, pb_name, pb_const, pb_sub, pb_meth, ev_Call, callD_ref, callD_blt, callD_type, ev_Meth, meth_replace, meth_plain, tst_Compare, tst_BoolOp, tst_Not, tst_Call, tst_Sub, tst1_Compare, tst0_Compare, tst1_Call, tst0_Call, tst1_Sub, allD_and, allD_or, allD_and0, allD_or0, nameD_cons, kindD, storable_cons, upd_at, argsR_cons, argsR_nil, vis_nil, thawR_nil, thawS_nil, drp_nil, constD, vis_one, drp_one, thawR_one, thawS_one, noneOwned_one, noneOwned_one0, append_one, Ends_next, Option.bind_some, Option.bind_none, Option.bind_assoc, String.reduceEq, String.reduceNe, ne_eq, not_false_eq_true, not_true_eq_false, List.length_cons, List.length_nil, List.map_cons, List.map_nil, Nat.reduceAdd, Nat.reduceLeDiff, Nat.reduceLT, Nat.reduceBEq, if_true, if_false, reduceIte, Bool.false_eq_true, BEq.rfl, beq_self_eq_true, reduceCtorEq, and_self, and_true, true_and, ite_self]
  · have m2 : binD .Mod (.int (w : Int)) (.int 26) = some (.int ((w % 26 : Nat) : Int)) := bI_mod w 26 (by decide)
    have k2 := fD_chr (97 + w % 26) (by have := Nat.mod_lt w (show 26 > 0 by decide); omega)
    have a2 : binD .Add (.int 97) (.int ((w % 26 : Nat) : Int)) = some (.int ((97 + w % 26 : Nat) : Int)) := bI_add 97 (w % 26)
    simp -implicitDefEqProofs only [r_law_sign, Option.bind_some, fnNamesOf, hown, hchr, m0, m1, m2, k2, a2, ad, c, Int.reduceBEq, Int.cast_ofNat_Int, List.length_map, hL1, hL2, hL3, fnD_eq, st_Try, st_While, st_Append, blD_cons, blD_nil, contD_next, contD_ret, retV, st_Assign, st_Return, st_If, assign_plain, assign_list, assign_comp, assign_tuple, plA1, plA2, plA3, plA4, plA5, plA6, plA7, plA8, plA9, plA10, bindS_nm, bindS_tuple, bindD_name, bindD_tup, bindD_lst, bindAll_nil, bindAll_cons, noneOwned_nil, noneOwned_cons, ev_Name, ev_Const, ev_BinOp, ev_USub, negD_int, cmpE_1, cmpE_2, ev_Compare, ev_BoolOp, boolE_or, boolE_and, boolV_bool, evsD_nil, evsD_cons, ev_Tuple, ev_List, ev_Sub, ev_Slice, plI1, plI2, plI3, plI4, plI5, plI6, plS1, plS2, plT1, plT2, plT3, pb_name, pb_const, pb_sub, pb_meth, ev_Call, callD_ref, callD_blt, callD_type, ev_Meth, meth_replace, meth_plain, tst_Compare, tst_BoolOp, tst_Not, tst_Call, tst_Sub, tst1_Compare, tst0_Compare, tst1_Call, tst0_Call, tst1_Sub, allD_and, allD_or, allD_and0, allD_or0, nameD_cons, kindD, storable_cons, upd_at, argsR_cons, argsR_nil, vis_nil, thawR_nil, thawS_nil, drp_nil, constD, vis_one, drp_one, thawR_one, thawS_one, noneOwned_one, noneOwned_one0, append_one, Ends_next, Option.bind_some, Option.bind_none, Option.bind_assoc, String.reduceEq, String.reduceNe, ne_eq, not_false_eq_true, not_true_eq_false, List.length_cons, List.length_nil, List.map_cons, List.map_nil, Nat.reduceAdd, Nat.reduceLeDiff, Nat.reduceLT, Nat.reduceBEq, if_true, if_false, reduceIte, Bool.false_eq_true, BEq.rfl, beq_self_eq_true, reduceCtorEq, and_self, and_true, true_and, ite_self]
/-- a Bool for a text -/
def isStr (o : Option D) (l : List Nat) : Bool := match o with
  | some (.str s) => s == ofL l
  | _ => false
theorem isStr_eq {o : Option D} {l : List Nat} (h : isStr o l = true) : o = some (.str (ofL l)) := by
  unfold isStr at h
  split at h
  · rw [eq_of_beq h]
  · cases h
theorem ref_sp (hown : True) : ((List.range 5).all fun w => spL.all fun c => isStr (runR r_law_reference.1 G Φ (fun _ => false) [.int (w : Int), .str (ofL [c])]) (escN (escS w) [c])) = true := by kernel_rfl
theorem ref_ok (w c : Nat) (hw : w < 5) : runR r_law_reference.1 G Φ (fun _ => false) [.int (w : Int), .str (ofL [c])] = some (.str (ofL (escN (escS w) [c]))) := by
  by_cases hc : c ∈ spL
  · exact isStr_eq (List.all_eq_true.mp (List.all_eq_true.mp (ref_sp G Φ trivial) w (List.mem_range.mpr hw)) c hc)
  have hn : c ≠ 38 ∧ c ≠ 60 ∧ c ≠ 62 ∧ c ≠ 34 ∧ c ≠ 13 ∧ c ≠ 10 ∧ c ≠ 9 := by simpa [spL] using hc
  have hw' : w = 0 ∨ w = 1 ∨ w = 2 ∨ w = 3 ∨ w = 4 := by omega
  have nin : ∀ (s : Str) (l : List Nat), s = ofL l → l.all (fun k => spL.contains k) = true → cmpD .NotIn (.str (ofL [c])) (.str s) = some true := fun s l hs hl => by
    have h1 : c ∉ l := fun hm => hc (List.contains_iff_mem.mp (List.all_eq_true.mp hl c hm))
    show (inD (.str (ofL [c])) (.str s)).map (! ·) = _
    rw [hs]
    show (some (Txt.contains (ofL l) (ofL [c]))).map (! ·) = _
    rw [contains_ofL, decide_eq_false h1]; rfl
  have n0 := nin (Str.ofString "&<>") [38, 60, 62] (by decide +kernel) (by decide)
  have n1 := nin (Str.ofString "&<>\"\r\n\t") [38, 60, 62, 34, 13, 10, 9] (by decide +kernel) (by decide)
  have n2 := nin (Str.ofString "&>\"") [38, 62, 34] (by decide +kernel) (by decide)
  have n3 := nin (Str.ofString "&<>\r") [38, 60, 62, 13] (by decide +kernel) (by decide)
  have n4 := nin (Str.ofString "&<\"\r\n\t") [38, 60, 34, 13, 10, 9] (by decide +kernel) (by decide)
  have e : escN (escS w) [c] = [c] := by
    obtain ⟨a1, a2, a3, a4, a5, a6, a7⟩ := hn
    rcases hw' with rfl | rfl | rfl | rfl | rfl <;> simp [escN, escS, rep, a1, a2, a3, a4, a5, a6, a7]
  rw [e]
  have ix0 : ∀ (a b c' d e' : D), idxD (.lst [a, b, c', d, e']) (.int 0) = some a := fun _ _ _ _ _ => rfl
  have ix1 : ∀ (a b c' d e' : D), idxD (.lst [a, b, c', d, e']) (.int 1) = some b := fun _ _ _ _ _ => rfl
  have ix2 : ∀ (a b c' d e' : D), idxD (.lst [a, b, c', d, e']) (.int 2) = some c' := fun _ _ _ _ _ => rfl
  have ix3 : ∀ (a b c' d e' : D), idxD (.lst [a, b, c', d, e']) (.int 3) = some d := fun _ _ _ _ _ => rfl
  have ix4 : ∀ (a b c' d e' : D), idxD (.lst [a, b, c', d, e']) (.int 4) = some e' := fun _ _ _ _ _ => rfl
  unfold runR
  clear nin hc hn e
  rcases hw' with rfl | rfl | rfl | rfl | rfl
  all_goals simp -implicitDefEqProofs only [r_law_reference, Option.bind_some, fnNamesOf, ix0, ix1, ix2, ix3, ix4, n0, n1, n2, n3, n4, Int.cast_ofNat_Int, fnD_eq, st_Try, st_While, st_Append, blD_cons, blD_nil, contD_next, contD_ret, retV, st_Assign, st_Return, st_If, assign_plain, assign_list, assign_comp, assign_tuple, plA1, plA2, plA3, plA4, plA5, plA6, plA7, plA8, plA9, plA10, bindS_nm, bindS_tuple, bindD_name, bindD_tup, bindD_lst, bindAll_nil, bindAll_cons, noneOwned_nil, noneOwned_cons, ev_Name, ev_Const, ev_BinOp, ev_USub, negD_int, cmpE_1, cmpE_2, ev_Compare, ev_BoolOp, boolE_or, boolE_and, boolV_bool, evsD_nil, evsD_cons, ev_Tuple, ev_List, ev_Sub, ev_Slice, plI1, plI2, plI3, plI4, plI5, plI6, plS1, plS2, plT1, plT2, plT3, pb_name, pb_const, pb_sub, pb_meth, ev_Call, callD_ref, callD_blt, callD_type, ev_Meth, meth_replace, meth_plain, tst_Compare, tst_BoolOp, tst_Not, tst_Call, tst_Sub, tst1_Compare, tst0_Compare, tst1_Call, tst0_Call, tst1_Sub, allD_and, allD_or, allD_and0, allD_or0, nameD_cons, kindD, storable_cons, upd_at, argsR_cons, argsR_nil, vis_nil, thawR_nil, thawS_nil, drp_nil, constD, vis_one, drp_one, thawR_one, thawS_one, noneOwned_one, noneOwned_one0, append_one, Ends_next, Option.bind_some, Option.bind_none, Option.bind_assoc, String.reduceEq, String.reduceNe, ne_eq, not_false_eq_true, not_true_eq_false, List.length_cons, List.length_nil, List.map_cons, List.map_nil, Nat.reduceAdd, Nat.reduceLeDiff, Nat.reduceLT, Nat.reduceBEq, if_true, if_false, reduceIte, Bool.false_eq_true, BEq.rfl, beq_self_eq_true, reduceCtorEq, and_self, and_true, true_and, ite_self]
end
end Mine
set_option Elab.async false
set_option maxRecDepth 100000
namespace Mine
open PySem PySem.Calls PyProof.Rows PySem.W PySem.Spec
open PySem.Challenge
theorem c_ok : lawOkB pw_ty0061_01 = true := by kernel_rfl
theorem c_ow : opensWell pw_ty0061_01 = true := by kernel_rfl
theorem c_ann : hasAnns (behindTheImports pw_ty0061_01) = false := by kernel_rfl
theorem c_doc : docOf (behindTheImports pw_ty0061_01) = none := by kernel_rfl
theorem c_mods : importedModules pw_ty0061_01.main.body = [] := by kernel_rfl
theorem c_hop : opening pw_ty0061_01 = plainProg pw_ty0061_01.main.scope.names := by rfl
theorem c_recs : (defsR pw_ty0061_01).all recOkB = true := by kernel_rfl
theorem c_len : decide ((defsR pw_ty0061_01).length ≤ 40) = true := by kernel_rfl
theorem c_b3 : ((behindTheImports pw_ty0061_01).findSome? fun st => if topName st = "b3_exceptions" then dictOf? st else none).isSome = true := by kernel_rfl
theorem c_b1 : ((behindTheImports pw_ty0061_01).findSome? fun st => if topName st = "b1_set" then setOf? st else none).isSome = true := by kernel_rfl
end Mine
set_option Elab.async false
set_option maxRecDepth 100000
set_option maxHeartbeats 4000000
namespace Mine
open PySem PySem.Calls PyProof.Rows PySem.W PySem.Spec PySem.Challenge
def b3P : List (Int × Str) := ((behindTheImports pw_ty0061_01).findSome? fun st => if topName st = "b3_exceptions" then dictOf? st else none).get c_b3
def b1P : List Int := ((behindTheImports pw_ty0061_01).findSome? fun st => if topName st = "b1_set" then setOf? st else none).get c_b1
def DAl (l : List Nat) : List Nat := rep 65 [97] (rep 68 [100] l)
theorem chk_signs : (kinds.all fun p => prepOk b1P b3P p.1 && pchN b1P b3P p.1 == p.2) = true := by kernel_rfl
theorem chk_mean : (kinds.all fun p => (spL.contains p.1 && p.2 == [p.1]) || p.2.all (fun c => !spL.contains c && c != 65 && c != 68)) = true := by decide +kernel
theorem chk_refs : ((List.range 5).all fun w => spL.all fun c => (escN (escS w) [c]).all (prepOk b1P b3P) && prepN b1P b3P (escN (escS w) [c]) == DAl (escN (escS w) [c])) = true := by kernel_rfl
theorem chk_len : (kinds.all fun p => decide (p.2.length ≤ 3) && (List.range 5).all fun w => decide ((escN (escS w) p.2).length ≤ 6)) = true := by decide +kernel
theorem prepN_append (b1 : List Int) (b3 : List (Int × Str)) (a b : List Nat) : prepN b1 b3 (a ++ b) = prepN b1 b3 a ++ prepN b1 b3 b := by simp [prepN]
theorem DAl_append (a b : List Nat) : DAl (a ++ b) = DAl a ++ DAl b := by simp [DAl, rep_append]
theorem esc_free (w : Nat) (hw : w < 5) : ∀ l : List Nat, l.all (fun c => !spL.contains c) = true → escN (escS w) l = l := by
  have one : ∀ c : Nat, spL.contains c = false → escN (escS w) [c] = [c] := by
    intro c hc
    have hc : c ∉ spL := fun h => by rw [List.contains_iff_mem.mpr h] at hc; cases hc
    obtain ⟨a1, a2, a3, a4, a5, a6, a7⟩ : c ≠ 38 ∧ c ≠ 60 ∧ c ≠ 62 ∧ c ≠ 34 ∧ c ≠ 13 ∧ c ≠ 10 ∧ c ≠ 9 := by simpa [spL] using hc
    have hw' : w = 0 ∨ w = 1 ∨ w = 2 ∨ w = 3 ∨ w = 4 := by omega
    rcases hw' with rfl | rfl | rfl | rfl | rfl <;> simp [escN, escS, rep, a1, a2, a3, a4, a5, a6, a7]
  intro l
  induction l with
  | nil => intro _; exact escN_nil _
  | cons c r ih =>
    intro h
    rw [List.all_cons, Bool.and_eq_true, Bool.not_eq_true'] at h
    have e : c :: r = [c] ++ r := rfl
    rw [e, escN_append, one c h.1, ih h.2]
theorem DAl_free : ∀ l : List Nat, l.all (fun c => c != 65 && c != 68) = true → DAl l = l := by
  intro l h
  have h1 : 68 ∉ l := fun hm => by have := List.all_eq_true.mp h 68 hm; simp at this
  have h2 : 65 ∉ l := fun hm => by have := List.all_eq_true.mp h 65 hm; simp at this
  unfold DAl
  rw [rep_free _ _ _ h1, rep_free _ _ _ h2]
/-- all that is asked of a sign -/
theorem sign_facts (n w : Nat) (hw : w < 5) : prepOk b1P b3P (signN n).1 = true ∧ prepN b1P b3P [(signN n).1] = (signN n).2 ∧ (escN (escS w) [(signN n).1]).all (prepOk b1P b3P) = true ∧
    prepN b1P b3P (escN (escS w) [(signN n).1]) = DAl (escN (escS w) (signN n).2) ∧ (escN (escS w) (signN n).2).length ≤ 6 ∧ (signN n).2.length ≤ 3 ∧ (escN (escS w) [(signN n).1]).length ≤ 6 := by
  have hk := sign_kind n
  generalize signN n = p at *
  have c1 := List.all_eq_true.mp chk_signs p hk
  have c2 := List.all_eq_true.mp chk_mean p hk
  have c3 := List.all_eq_true.mp chk_len p hk
  simp only [Bool.and_eq_true, beq_iff_eq, decide_eq_true_eq] at c1
  rw [Bool.and_eq_true, decide_eq_true_eq] at c3
  have c4 := of_decide_eq_true (List.all_eq_true.mp c3.2 w (List.mem_range.mpr hw))
  have one : prepN b1P b3P [p.1] = pchN b1P b3P p.1 := by simp [prepN]
  refine ⟨c1.1, by rw [one]; exact c1.2, ?_⟩
  rw [Bool.or_eq_true] at c2
  rcases c2 with h | h
  · rw [Bool.and_eq_true, beq_iff_eq] at h
    have hm := List.contains_iff_mem.mp h.1
    have r := List.all_eq_true.mp (List.all_eq_true.mp chk_refs w (List.mem_range.mpr hw)) p.1 hm
    rw [Bool.and_eq_true, beq_iff_eq] at r
    rw [h.2] at c4 ⊢
    exact ⟨r.1, r.2, c4, by simp, c4⟩
  · have h1 : p.2.all (fun c => !spL.contains c) = true := List.all_eq_true.mpr fun c hc => by
      have := List.all_eq_true.mp h c hc
      simp only [Bool.and_eq_true] at this
      exact this.1.1
    have h2 : p.2.all (fun c => c != 65 && c != 68) = true := List.all_eq_true.mpr fun c hc => by
      have := List.all_eq_true.mp h c hc
      simp only [Bool.and_eq_true] at this ⊢
      exact ⟨this.1.2, this.2⟩
    rw [esc_free w hw p.2 h1, DAl_free p.2 h2]
    by_cases hs : spL.contains p.1 = true
    · have hm := List.contains_iff_mem.mp hs
      have r := List.all_eq_true.mp (List.all_eq_true.mp chk_refs w (List.mem_range.mpr hw)) p.1 hm
      rw [Bool.and_eq_true, beq_iff_eq] at r
      exfalso
      have : spL.all (fun c => pchN b1P b3P c == [c]) = true := by kernel_rfl
      have h3 := eq_of_beq (List.all_eq_true.mp this p.1 hm)
      rw [h3] at c1
      rw [← c1.2] at h1
      rw [List.all_cons, hs] at h1
      cases h1
    · have hs : spL.contains p.1 = false := by simpa using hs
      have e := esc_free w hw [p.1] (by rw [List.all_cons, hs]; rfl)
      rw [e]
      refine ⟨by rw [List.all_cons, c1.1]; rfl, by rw [one]; exact c1.2, ?_, c3.1, by simp⟩
      exact Nat.le_trans c3.1 (by decide)
end Mine
set_option Elab.async false
set_option maxRecDepth 100000
namespace Mine
open PySem PySem.Calls PyProof.Rows PySem.W PySem.Spec
open PySem.Challenge
theorem c_fence (s : Shared) : fenceModules? pw_ty0061_01 s = some s := by
  unfold fenceModules?
  rw [c_mods]
  rfl
theorem c_bare : pw_ty0061_01.bare := ⟨rfl, rfl, rfl, rfl, rfl, by kernel_rfl⟩
theorem c_promised : rw_ty0061_01.row.toRowW.promised := RowW.promised_of_found (by kernel_rfl)
theorem c_said : rw_ty0061_01.wellSaid = true := by kernel_rfl
end Mine
set_option Elab.async false
set_option maxRecDepth 100000
set_option maxHeartbeats 4000000
namespace Mine
open PySem PySem.Calls PyProof.Rows PySem.W PySem.Spec PySem.Challenge
/-- how long a page is -/
def lenN (w n : Nat) : Nat := (escN (escS w) ((signN (n % 10000)).2 ++ (signN (n / 10000 % 10000)).2)).length
theorem lenN_le (w n : Nat) (hw : w < 5) : lenN w n ≤ 12 := by
  unfold lenN
  rw [escN_append, List.length_append]
  have h1 := (sign_facts (n % 10000) w hw).2.2.2.2.1
  have h2 := (sign_facts (n / 10000 % 10000) w hw).2.2.2.2.1
  omega
section
variable (G : Rho) (Φ : Addr → List D → Option D) (own : Str → Bool)
theorem len_ok (aS aR aP aE : Addr) (w n : Nat) (hw : w < 5) (hown : own (Str.ofString "pairs") = false)
    (g1 : G (Str.ofString "_law_sign") = some (.val (.ref aS))) (g2 : G (Str.ofString "_law_reference") = some (.val (.ref aR))) (g3 : G (Str.ofString "_law_prepared") = some (.val (.ref aP))) (glen : G (Str.ofString "len") = some (.val (.builtin "len")))
    (fS : ∀ n : Nat, Φ aS [.int (n : Int)] = some (.tup [.str (ofL [(signN n).1]), .str (ofL (signN n).2)])) (fR : ∀ c : Nat, Φ aR [.int (w : Int), .str (ofL [c])] = some (.str (ofL (escN (escS w) [c]))))
    (fE : ∀ l : List Nat, l.length ≤ 12 → Φ aE [.str (ofL l)] = some (.str (ofL (escN (escS w) l))))
    (fP : ∀ l : List Nat, l.length ≤ 100 → l.all (prepOk b1P b3P) = true → Φ aP [.str (ofL l)] = some (.str (ofL (prepN b1P b3P l)))) :
    runR r_law_length.1 G Φ own [.int (n : Int), .int (w : Int), .val (.ref aE)] = some (.int (lenN w n : Nat)) := by
  have p4 : binD .Pow (.int 10) (.int 4) = some (.int 10000) := rfl
  have m1 : binD .Mod (.int (n : Int)) (.int 10000) = some (.int ((n % 10000 : Nat) : Int)) := bI_mod n 10000 (by decide)
  have m2 : binD .FloorDiv (.int (n : Int)) (.int 10000) = some (.int ((n / 10000 : Nat) : Int)) := bI_fdiv n 10000 (by decide) (by decide)
  have m3 : binD .Mod (.int ((n / 10000 : Nat) : Int)) (.int 10000) = some (.int ((n / 10000 % 10000 : Nat) : Int)) := bI_mod _ 10000 (by decide)
  obtain ⟨o1, q1, k1, d1, z1, y1, x1⟩ := sign_facts (n % 10000) w hw
  obtain ⟨o2, q2, k2, d2, z2, y2, x2⟩ := sign_facts (n / 10000 % 10000) w hw
  unfold lenN
  have f1 := fS (n % 10000)
  have f2 := fS (n / 10000 % 10000)
  generalize signN (n % 10000) = s at *
  generalize signN (n / 10000 % 10000) = t at *
  obtain ⟨c, m⟩ := s
  obtain ⟨c', m'⟩ := t
  simp only at *
  have em : Str.ofString "" = ofL [] := by decide +kernel
  have hfor : ∀ l : List Nat, forItems (fun d => (Φ aR [.int (w : Int), d]).bind fun d => some [d]) (l.map fun c => D.str (ofL [c])) = some (l.map fun c => D.str (ofL (escN (escS w) [c]))) := fun l => by
    rw [forItems_map _ _ (fun c => [D.str (ofL (escN (escS w) [c]))]) l fun c _ => by rw [fR]; rfl]
    congr 1
    induction l with
    | nil => rfl
    | cons x r ih => rw [List.flatMap_cons, ih]; rfl
  have a1 : capL [D.str (ofL [c]), D.str (ofL [c'])] = some [D.str (ofL [c]), D.str (ofL [c'])] := capL_ok (by simp)
  have j1 : methD (Str.ofString "join") (.str (Str.ofString "")) [.lst [.str (ofL [c]), .str (ofL [c'])]] = some (.str (ofL ([c] ++ [c']))) := join_D _ em [[c], [c']] (by simp)
  have lm : ∀ l : List Nat, (l.map fun c => D.str (ofL (escN (escS w) [c]))) = (l.map fun c => escN (escS w) [c]).map fun x => .str (ofL x) := fun l => by rw [List.map_map]; rfl
  have fl : ∀ l : List Nat, (l.map fun c => escN (escS w) [c]).flatten = escN (escS w) l := fun l => by rw [escN_flat (escS w) l]; rfl
  have sl : ((m ++ m').map fun c => escN (escS w) [c]).map List.length = (m ++ m').map fun c => (escN (escS w) [c]).length := by rw [List.map_map]; rfl
  have lsum : (((m ++ m').map fun c => escN (escS w) [c]).map List.length).sum = (escN (escS w) (m ++ m')).length := by
    rw [← fl, List.length_flatten]
  have le : (escN (escS w) (m ++ m')).length ≤ 12 := by rw [escN_append, List.length_append]; omega
  have a2 : capL ((m.map fun c => D.str (ofL (escN (escS w) [c]))) ++ (m'.map fun c => D.str (ofL (escN (escS w) [c])))) = some (((m ++ m').map fun c => escN (escS w) [c]).map fun x => .str (ofL x)) := by
    rw [← List.map_append, lm]
    exact capL_ok (by simp only [List.length_map, List.length_append]; omega)
  have j2 : methD (Str.ofString "join") (.str (Str.ofString "")) [.lst (((m ++ m').map fun c => escN (escS w) [c]).map fun x => .str (ofL x))] = some (.str (ofL (escN (escS w) (m ++ m')))) := by
    rw [join_D _ em _ (by rw [lsum]; simp only [List.length_map, List.length_append]; omega), fl]
  have P1 : Φ aP [.str (ofL ([c] ++ [c']))] = some (.str (ofL (m ++ m'))) := by
    rw [fP _ (by simp) (by rw [List.all_append, List.all_cons, List.all_cons, o1, o2]; rfl), prepN_append, q1, q2]
  have E1 := fE (m ++ m') (by rw [List.length_append]; omega)
  have E2 := fE ([c] ++ [c']) (by simp)
  have P2 : Φ aP [.str (ofL (escN (escS w) ([c] ++ [c'])))] = some (.str (ofL (DAl (escN (escS w) (m ++ m'))))) := by
    rw [fP _ (by rw [escN_append, List.length_append]; omega) (by rw [escN_append, List.all_append, k1, k2]; rfl), escN_append, prepN_append, d1, d2, ← DAl_append, ← escN_append]
  have N : ∀ s : Str, cmpD .NotEq (.str s) (.str s) = some false := fun s => by
    show some (s != s) = _
    rw [bne_self_eq_false]
  have R1 := repl_at (Str.ofString "D") (Str.ofString "d") 68 [100] (by decide +kernel) (by decide +kernel) (by decide) (by decide) (escN (escS w) (m ++ m')) (by omega)
  have n1 := rep_len 68 [100] (escN (escS w) (m ++ m')) (by decide)
  simp only [List.length_cons, List.length_nil, Nat.reduceAdd] at n1
  have R2 := repl_at (Str.ofString "A") (Str.ofString "a") 65 [97] (by decide +kernel) (by decide +kernel) (by decide) (by decide) (rep 68 [100] (escN (escS w) (m ++ m'))) (by omega)
  have R2 : replD (.str (ofL (rep 68 [100] (escN (escS w) (m ++ m'))))) (Str.ofString "A") (Str.ofString "a") = some (.str (ofL (DAl (escN (escS w) (m ++ m'))))) := R2
  have L : fnD (.builtin "len") [.str (ofL (escN (escS w) (m ++ m')))] = some (.int ((escN (escS w) (m ++ m')).length : Nat)) := by
    show (if (ofL (escN (escS w) (m ++ m'))).length ≤ sizeLine then some (D.int ((ofL (escN (escS w) (m ++ m'))).length : Nat)) else none) = _
    rw [ofL_length, if_pos (by have : sizeLine = 2 ^ 24 := rfl
                               omega)]
  simp only [List.singleton_append] at P1 E2 P2
  clear o1 q1 k1 d1 z1 y1 x1 o2 q2 k2 d2 z2 y2 x2 fl sl lsum lm n1
  generalize escN (escS w) (m ++ m') = page at *
  unfold runR
  simp -implicitDefEqProofs only [r_law_length, Option.bind_some, fnNamesOf, g1, g2, g3, glen, f1, f2, hown, p4, m1, m2, m3, forItems_cons, forItems_nil, List.append_nil, List.singleton_append, List.cons_append, List.nil_append, hfor, a1, j1, a2, j2, P1, E1, E2, P2, R1, R2, L, N, comp_eq, compOk_eq, kindF, List.all_cons, List.all_nil, List.any_cons, List.any_nil, nodB, nameOk_local, nameOk_cell, nameOk_glob, nameOk_free, lookup_at, dbgB, freeB1, freeB2, closRho_cons, closRho_nil, freshT_name, freshT_tup, isTup_name, isTup_tup, tgB_name, tgB_tup, items_Name, items_List, items_Sub, items_Call, isTy_type, isTy_blt, isTy_ref, listD_lst, listD_lst', listD_dci, listD_str, gen_one, gen_two, testsD_nil, testsD_cons, ev_ListComp, ev_DictComp, keyD_eq, intV_int, ofs_beq, String.reduceBEq, Bool.not_false, Bool.not_true, Bool.and_true, Bool.true_and, Bool.and_self, Bool.or_false, Bool.false_or, Option.isNone_none, Option.isNone_some, fnD_eq, st_Try, st_While, st_Append, blD_cons, blD_nil, contD_next, contD_ret, retV, st_Assign, st_Return, st_If, assign_plain, assign_list, assign_comp, assign_tuple, plA1, plA2, plA3, plA4, plA5, plA6, plA7, plA8, plA9, plA10, bindS_nm, bindS_tuple, bindD_name, bindD_tup, bindD_lst, bindAll_nil, bindAll_cons, noneOwned_nil, noneOwned_cons, ev_Name, ev_Const, ev_BinOp, ev_USub, negD_int, cmpE_1, cmpE_2, ev_Compare, ev_BoolOp, boolE_or, boolE_and, boolV_bool, evsD_nil, evsD_cons, ev_Tuple, ev_List, ev_Sub, ev_Slice, plI1, plI2, plI3, plI4, plI5, plI6, plS1, plS2, plT1, plT2, plT3, pb_name, pb_const, pb_sub, pb_meth, ev_Call, callD_ref, callD_blt, callD_type, ev_Meth, meth_replace, meth_plain, tst_Compare, tst_BoolOp, tst_Not, tst_Call, tst_Sub, tst1_Compare, tst0_Compare, tst1_Call, tst0_Call, tst1_Sub, allD_and, allD_or, allD_and0, allD_or0, nameD_cons, kindD, storable_cons, upd_at, argsR_cons, argsR_nil, vis_nil, thawR_nil, thawS_nil, drp_nil, constD, vis_one, drp_one, thawR_one, thawS_one, noneOwned_one, noneOwned_one0, append_one, Ends_next, Option.bind_some, Option.bind_none, Option.bind_assoc, String.reduceEq, String.reduceNe, ne_eq, not_false_eq_true, not_true_eq_false, List.length_cons, List.length_nil, List.map_cons, List.map_nil, Nat.reduceAdd, Nat.reduceLeDiff, Nat.reduceLT, Nat.reduceBEq, if_true, if_false, reduceIte, Bool.false_eq_true, BEq.rfl, beq_self_eq_true, reduceCtorEq, and_self, and_true, true_and, ite_self]
end
end Mine
set_option Elab.async false
set_option maxRecDepth 100000
set_option maxHeartbeats 4000000
namespace Mine
open PySem PySem.Calls PyProof.Rows PySem.W PySem.Spec PySem.Challenge
theorem range_nat (n : Nat) (h : n ≤ 1000) : rangeD [.int (n : Int)] = some ((List.range n).map fun i : Nat => .int (i : Int)) := by
  show (if 0 ≤ (n : Int) ∧ (n : Int) ≤ 1000 then some ((List.range (n : Int).toNat).map fun i : Nat => D.int (i : Int)) else none) = _
  rw [if_pos ⟨by omega, by omega⟩]
  rfl
theorem flatMap_single {α β : Type} (f : α → β) : ∀ l : List α, (l.flatMap fun x => [f x]) = l.map f
  | [] => rfl
  | x :: r => by rw [List.flatMap_cons, flatMap_single f r]; rfl
theorem partD_none : partD none = some none := rfl
theorem partD_int (i : Int) (k : Nat) (p : Pos) : partD (some (.Constant (.int i) k p)) = if 0 ≤ i then some (some i.toNat) else none := rfl
def InInv (st : D) (r p s : Nat) (kn : List D) (g0 : Nat × Nat) (a : Cells × Cells × Nat) (σ : Sg) (ρ : Rho) : Prop :=
  σ = [(Str.ofString "kinds", kn)] ∧ ρ (Str.ofString "stones") = some st ∧ ρ (Str.ofString "row") = some (.int (r : Int)) ∧ ρ (Str.ofString "place") = some (.int (p : Int)) ∧ ρ (Str.ofString "size") = some (.int (s : Int)) ∧
  ρ (Str.ofString "group") = some (.lst (cD a.1)) ∧ ρ (Str.ofString "free") = some (.lst (cD a.2.1)) ∧ ρ (Str.ofString "done") = some (.int (a.2.2 : Int)) ∧ a.1[0]? = some g0 ∧ ∀ q ∈ a.1 ++ a.2.1, idxD st (.int (q.1 : Int)) = some (.int (q.2 : Int))
def OutInv (st : D) (r p s : Nat) (a : Cells × List Nat) (σ : Sg) (ρ : Rho) : Prop :=
  σ = [(Str.ofString "kinds", a.2.map fun k : Nat => .int (k : Int))] ∧ ρ (Str.ofString "stones") = some st ∧ ρ (Str.ofString "row") = some (.int (r : Int)) ∧ ρ (Str.ofString "place") = some (.int (p : Int)) ∧ ρ (Str.ofString "size") = some (.int (s : Int)) ∧
  ρ (Str.ofString "free") = some (.lst (cD a.1)) ∧ ∀ q ∈ a.1, idxD st (.int (q.1 : Int)) = some (.int (q.2 : Int))
theorem iter_len {a b : Cells × Cells × Nat} {k : Nat} (h : iterN innerStep k a = some b) : b.1.length ≤ 100 := by
  induction k generalizing a with
  | zero => cases h
  | succ k ih =>
    unfold iterN at h
    split at h
    · cases h
    · rename_i hs
      cases h
      unfold innerStep at hs
      split at hs
      · omega
      · cases hs
    · exact ih h
theorem iter_len0 {a b : Cells × Cells × Nat} {k : Nat} (h : iterN innerStep k a = some b) : a.1.length + a.2.1.length ≤ 100 := by
  cases k with
  | zero => cases h
  | succ k =>
    unfold iterN at h
    split at h
    · cases h
    all_goals
      rename_i hs
      unfold innerStep at hs
      split at hs
      · assumption
      · cases hs
theorem filtC_ends {f : D → Option (List D)} {l : Cells} {K : List D → Option Fl} {P : Sg → Rho → Prop} (p : Nat × Nat → Bool) (hf : ∀ q ∈ l, f (.int (q.1 : Int)) = some (if p q = true then [.int (q.1 : Int)] else [])) (hk : Ends (K (cD (l.filter p))) P) : Ends ((forItems f (cD l)).bind K) P :=
  filt_ends (h := fun q : Nat × Nat => D.int (q.1 : Int)) p hf hk
theorem adj_K {α : Type} (a b : Nat) (K : Bool → Option α) : ((binD .Sub (.int (a : Int)) (.int (b : Int))).bind fun y => (fnD (.builtin "abs") [y]).bind fun y => (cmpD .In y (.tup [.int 1, .int 8, .int 9])).bind K) = K (adjN a b) :=
  congrArg K (Option.some.inj (adj_D a b))
theorem left_K {α : Type} (a p : Nat) (K : Bool → Option α) : ((binD .Mod (.int (a : Int)) (.int 8)).bind fun y => (cmpD .Eq y (.int (p : Int))).bind K) = K (a % 8 == p) := by
  have := congrArg (fun o => o.bind K) (left_D a p)
  simpa only [Option.bind_assoc, Option.bind_some] using this
theorem right_K {α : Type} (a r p : Nat) (K : Bool → Option α) : ((binD .FloorDiv (.int (a : Int)) (.int 8)).bind fun y => (binD .Mod (.int (a : Int)) (.int 8)).bind fun z => (binD .Sub y z).bind fun x => (binD .Sub (.int (r : Int)) (.int (p : Int))).bind fun w => (cmpD .Eq x w).bind K) = K (a / 8 + p == r + a % 8) := by
  have := congrArg (fun o => o.bind K) (right_D a r p)
  simpa only [Option.bind_assoc, Option.bind_some] using this
theorem below_K {α : Type} (a r s : Nat) (K : Bool → Option α) : ((binD .FloorDiv (.int (a : Int)) (.int 8)).bind fun y => (binD .Add (.int (r : Int)) (.int (s : Int))).bind fun x => (binD .Sub x (.int 1)).bind fun w => (cmpD .Eq y w).bind K) = K (a / 8 + 1 == r + s) := by
  have := congrArg (fun o => o.bind K) (below_D a r s)
  simpa only [Option.bind_assoc, Option.bind_some] using this
theorem pick (b : Bool) (d : D) : ((if b = true then some true else some false).bind fun b => if b = true then some [d] else some []) = some (if b = true then [d] else []) := by cases b <;> rfl
theorem ne_filter (l : Cells) (q : Nat × Nat → Bool) : (!(l.filter q).isEmpty) = l.any q := by
  induction l with
  | nil => rfl
  | cons x r ih =>
    rw [List.filter_cons, List.any_cons]
    cases h : q x
    · simpa using ih
    · simp
section
variable (G : Rho) (Φ : Addr → List D → Option D) (own : Str → Bool)
theorem join_ok (r p s : Nat) (hs : s ≤ 100) (st : D) (gr : G (Str.ofString "range") = some (.val (.type "range"))) (glen : G (Str.ofString "len") = some (.val (.builtin "len"))) (gabs : G (Str.ofString "abs") = some (.val (.builtin "abs")))
    (own1 : own (Str.ofString "kinds") = true) (own2 : own (Str.ofString "group") = false) (free : Cells) (hl : free.length ≤ 100) (hfree : free.map Prod.fst = spotsN r p s) (look : ∀ q ∈ free, idxD st (.int (q.1 : Int)) = some (.int (q.2 : Int)))
    (ks : List Nat) (hplay : playN r p s free = some ks) :
    runR r_law_joined.1 G Φ own [st, .int (r : Int), .int (p : Int), .int (s : Int)] = some (.lst (ks.map fun k : Nat => .int (k : Int))) := by
  obtain ⟨⟨fr, ks'⟩, hit, rfl⟩ := Option.map_eq_some_iff.mp hplay
  simp only
  have rs := range_nat s (by omega)
  have add : ∀ a b : Nat, binD .Add (.int (a : Int)) (.int (b : Int)) = some (.int ((a + b : Nat) : Int)) := bI_add
  have add1 : ∀ a : Nat, binD .Add (.int (a : Int)) (.int 1) = some (.int ((a + 1 : Nat) : Int)) := fun a => bI_add a 1
  have mul8 : ∀ b : Nat, binD .Mult (.int 8) (.int (b : Int)) = some (.int ((8 * b : Nat) : Int)) := fun b => bI_mul 8 b (by decide)
  have inner : ∀ down : Nat, forItems (fun d_1 => (binD .Add (.int (r : Int)) (.int (down : Int))).bind fun y => (binD .Mult (.int 8) y).bind fun y => (binD .Add y (.int (p : Int))).bind fun y => (binD .Add y d_1).bind fun d => some [d]) ((List.range (down + 1)).map fun i : Nat => D.int (i : Int))
      = some ((List.range (down + 1)).flatMap fun along => [D.int ((8 * (r + down) + p + along : Nat) : Int)]) := fun down => forItems_map _ _ _ _ fun along _ => by
    simp only [add, mul8, Option.bind_some]
  have outer : forItems (fun d => (binD .Add d (.int 1)).bind fun y => (rangeD [y]).bind fun ys => forItems (fun d_1 => (binD .Add (.int (r : Int)) d).bind fun y => (binD .Mult (.int 8) y).bind fun y => (binD .Add y (.int (p : Int))).bind fun y => (binD .Add y d_1).bind fun d => some [d]) ys) ((List.range s).map fun i : Nat => D.int (i : Int)) = some (cD free) := by
    rw [forItems_map _ _ (fun down => (List.range (down + 1)).flatMap fun along => [D.int ((8 * (r + down) + p + along : Nat) : Int)]) _ fun down hd => by
      have : down < s := List.mem_range.mp hd
      rw [add1, Option.bind_some, range_nat (down + 1) (by omega), Option.bind_some, inner]]
    congr 1
    have e : cD free = (free.map Prod.fst).map fun n : Nat => D.int (n : Int) := by unfold cD; rw [List.map_map]; rfl
    rw [e, hfree]
    unfold spotsN
    rw [List.map_flatMap]
    congr 1
    funext down
    rw [List.map_map, flatMap_single]
    rfl
  have cap : capL (cD free) = some (cD free) := capL_ok (by unfold cD; rw [List.length_map]; omega)
  unfold runR
  simp -implicitDefEqProofs only [r_law_joined, Option.bind_some, fnNamesOf, gr, rs, outer, cap, own1, comp_eq, compOk_eq, kindF, List.all_cons, List.all_nil, List.any_cons, List.any_nil, nodB, nameOk_local, nameOk_cell, nameOk_glob, nameOk_free, lookup_at, dbgB, freeB1, freeB2, closRho_cons, closRho_nil, freshT_name, freshT_tup, isTup_name, isTup_tup, tgB_name, tgB_tup, items_Name, items_List, items_Sub, items_Call, isTy_type, isTy_blt, isTy_ref, listD_lst, listD_lst', listD_dci, listD_str, gen_one, gen_two, testsD_nil, testsD_cons, ev_ListComp, ev_DictComp, keyD_eq, intV_int, ofs_beq, String.reduceBEq, Bool.not_false, Bool.not_true, Bool.and_true, Bool.true_and, Bool.and_self, Bool.or_false, Bool.false_or, Option.isNone_none, Option.isNone_some, fnD_eq, st_Try, st_While, st_Append, blD_cons, blD_nil, contD_next, contD_ret, retV, st_Assign, st_Return, st_If, assign_plain, assign_list, assign_comp, assign_tuple, plA1, plA2, plA3, plA4, plA5, plA6, plA7, plA8, plA9, plA10, bindS_nm, bindS_tuple, bindD_name, bindD_tup, bindD_lst, bindAll_nil, bindAll_cons, noneOwned_nil, noneOwned_cons, ev_Name, ev_Const, ev_BinOp, ev_USub, negD_int, cmpE_1, cmpE_2, ev_Compare, ev_BoolOp, boolE_or, boolE_and, boolV_bool, evsD_nil, evsD_cons, ev_Tuple, ev_List, ev_Sub, ev_Slice, plI1, plI2, plI3, plI4, plI5, plI6, plS1, plS2, plT1, plT2, plT3, pb_name, pb_const, pb_sub, pb_meth, ev_Call, callD_ref, callD_blt, callD_type, ev_Meth, meth_replace, meth_plain, tst_Compare, tst_BoolOp, tst_Not, tst_Call, tst_Sub, tst1_Compare, tst0_Compare, tst1_Call, tst0_Call, tst1_Sub, allD_and, allD_or, allD_and0, allD_or0, nameD_cons, kindD, storable_cons, upd_at, argsR_cons, argsR_nil, vis_nil, thawR_nil, thawS_nil, drp_nil, constD, vis_one, drp_one, thawR_one, thawS_one, noneOwned_one, noneOwned_one0, append_one, Ends_next, Option.bind_some, Option.bind_none, Option.bind_assoc, String.reduceEq, String.reduceNe, ne_eq, not_false_eq_true, not_true_eq_false, List.length_cons, List.length_nil, List.map_cons, List.map_nil, Nat.reduceAdd, Nat.reduceLeDiff, Nat.reduceLT, Nat.reduceBEq, if_true, if_false, reduceIte, Bool.false_eq_true, BEq.rfl, beq_self_eq_true, reduceCtorEq, and_self, and_true, true_and, ite_self]
  refine Ends.bindD (while_ind (OutInv st r p s) (outerStep r p s) ?stop ?go 64 (free, []) (fr, ks') _ _ ?inv hit) ?fin
  case inv =>
    refine ⟨rfl, ?_, ?_, ?_, ?_, ?_, look⟩
    all_goals simp only [fnD_eq, st_Try, st_While, st_Append, blD_cons, blD_nil, contD_next, contD_ret, retV, st_Assign, st_Return, st_If, assign_plain, assign_list, assign_comp, assign_tuple, plA1, plA2, plA3, plA4, plA5, plA6, plA7, plA8, plA9, plA10, bindS_nm, bindS_tuple, bindD_name, bindD_tup, bindD_lst, bindAll_nil, bindAll_cons, noneOwned_nil, noneOwned_cons, ev_Name, ev_Const, ev_BinOp, ev_USub, negD_int, cmpE_1, cmpE_2, ev_Compare, ev_BoolOp, boolE_or, boolE_and, boolV_bool, evsD_nil, evsD_cons, ev_Tuple, ev_List, ev_Sub, ev_Slice, plI1, plI2, plI3, plI4, plI5, plI6, plS1, plS2, plT1, plT2, plT3, pb_name, pb_const, pb_sub, pb_meth, ev_Call, callD_ref, callD_blt, callD_type, ev_Meth, meth_replace, meth_plain, tst_Compare, tst_BoolOp, tst_Not, tst_Call, tst_Sub, tst1_Compare, tst0_Compare, tst1_Call, tst0_Call, tst1_Sub, allD_and, allD_or, allD_and0, allD_or0, nameD_cons, kindD, storable_cons, upd_at, argsR_cons, argsR_nil, vis_nil, thawR_nil, thawS_nil, drp_nil, constD, vis_one, drp_one, thawR_one, thawS_one, noneOwned_one, noneOwned_one0, append_one, Ends_next, Option.bind_some, Option.bind_none, Option.bind_assoc, String.reduceEq, String.reduceNe, ne_eq, not_false_eq_true, not_true_eq_false, List.length_cons, List.length_nil, List.map_cons, List.map_nil, Nat.reduceAdd, Nat.reduceLeDiff, Nat.reduceLT, Nat.reduceBEq, if_true, if_false, reduceIte, Bool.false_eq_true, BEq.rfl, beq_self_eq_true, reduceCtorEq, and_self, and_true, true_and, ite_self]
  case stop =>
    rintro ⟨a, kn⟩ σ ρ ⟨rfl, i1, i2, i3, i4, i5, i6⟩ hst
    have ha : a = [] := by
      unfold outerStep at hst
      split at hst
      · assumption
      · simp only at hst
        split at hst
        · cases hst
        · split at hst <;> cases hst
    subst ha
    have := cD_ne []
    simp only [i5, this, fnD_eq, st_Try, st_While, st_Append, blD_cons, blD_nil, contD_next, contD_ret, retV, st_Assign, st_Return, st_If, assign_plain, assign_list, assign_comp, assign_tuple, plA1, plA2, plA3, plA4, plA5, plA6, plA7, plA8, plA9, plA10, bindS_nm, bindS_tuple, bindD_name, bindD_tup, bindD_lst, bindAll_nil, bindAll_cons, noneOwned_nil, noneOwned_cons, ev_Name, ev_Const, ev_BinOp, ev_USub, negD_int, cmpE_1, cmpE_2, ev_Compare, ev_BoolOp, boolE_or, boolE_and, boolV_bool, evsD_nil, evsD_cons, ev_Tuple, ev_List, ev_Sub, ev_Slice, plI1, plI2, plI3, plI4, plI5, plI6, plS1, plS2, plT1, plT2, plT3, pb_name, pb_const, pb_sub, pb_meth, ev_Call, callD_ref, callD_blt, callD_type, ev_Meth, meth_replace, meth_plain, tst_Compare, tst_BoolOp, tst_Not, tst_Call, tst_Sub, tst1_Compare, tst0_Compare, tst1_Call, tst0_Call, tst1_Sub, allD_and, allD_or, allD_and0, allD_or0, nameD_cons, kindD, storable_cons, upd_at, argsR_cons, argsR_nil, vis_nil, thawR_nil, thawS_nil, drp_nil, constD, vis_one, drp_one, thawR_one, thawS_one, noneOwned_one, noneOwned_one0, append_one, Ends_next, Option.bind_some, Option.bind_none, Option.bind_assoc, String.reduceEq, String.reduceNe, ne_eq, not_false_eq_true, not_true_eq_false, List.length_cons, List.length_nil, List.map_cons, List.map_nil, Nat.reduceAdd, Nat.reduceLeDiff, Nat.reduceLT, Nat.reduceBEq, if_true, if_false, reduceIte, Bool.false_eq_true, BEq.rfl, beq_self_eq_true, reduceCtorEq, and_self, and_true, true_and, ite_self, List.isEmpty_nil, Bool.not_true]
  case fin =>
    rintro σ ρ ⟨rfl, i1, i2, i3, i4, i5, i6⟩
    simp only [fnD_eq, st_Try, st_While, st_Append, blD_cons, blD_nil, contD_next, contD_ret, retV, st_Assign, st_Return, st_If, assign_plain, assign_list, assign_comp, assign_tuple, plA1, plA2, plA3, plA4, plA5, plA6, plA7, plA8, plA9, plA10, bindS_nm, bindS_tuple, bindD_name, bindD_tup, bindD_lst, bindAll_nil, bindAll_cons, noneOwned_nil, noneOwned_cons, ev_Name, ev_Const, ev_BinOp, ev_USub, negD_int, cmpE_1, cmpE_2, ev_Compare, ev_BoolOp, boolE_or, boolE_and, boolV_bool, evsD_nil, evsD_cons, ev_Tuple, ev_List, ev_Sub, ev_Slice, plI1, plI2, plI3, plI4, plI5, plI6, plS1, plS2, plT1, plT2, plT3, pb_name, pb_const, pb_sub, pb_meth, ev_Call, callD_ref, callD_blt, callD_type, ev_Meth, meth_replace, meth_plain, tst_Compare, tst_BoolOp, tst_Not, tst_Call, tst_Sub, tst1_Compare, tst0_Compare, tst1_Call, tst0_Call, tst1_Sub, allD_and, allD_or, allD_and0, allD_or0, nameD_cons, kindD, storable_cons, upd_at, argsR_cons, argsR_nil, vis_nil, thawR_nil, thawS_nil, drp_nil, constD, vis_one, drp_one, thawR_one, thawS_one, noneOwned_one, noneOwned_one0, append_one, Ends_next, Option.bind_some, Option.bind_none, Option.bind_assoc, String.reduceEq, String.reduceNe, ne_eq, not_false_eq_true, not_true_eq_false, List.length_cons, List.length_nil, List.map_cons, List.map_nil, Nat.reduceAdd, Nat.reduceLeDiff, Nat.reduceLT, Nat.reduceBEq, if_true, if_false, reduceIte, Bool.false_eq_true, BEq.rfl, beq_self_eq_true, reduceCtorEq, and_self, and_true, true_and, ite_self]
  case go =>
    rintro ⟨a, kn⟩ ⟨a', kn'⟩ σ ρ ⟨rfl, i1, i2, i3, i4, i5, i6⟩ hst
    simp only at i5 i6
    unfold outerStep at hst
    simp only at hst
    split at hst
    · cases hst
    rename_i g0 fr0
    split at hst
    · cases hst
    rename_i grp free' dn hin
    split at hst
    case isFalse => cases hst
    rename_i hkl
    clear outer inner add add1 mul8 rs hit hplay look hfree
    have hT : ((vis [(Str.ofString "kinds", kn.map fun k : Nat => D.int (k : Int))] ρ (Str.ofString "free")).bind fun a => cmpD .NotEq a (.lst [])) = some true := by
      have := cD_ne (g0 :: fr0)
      simp only [i5, this, fnD_eq, st_Try, st_While, st_Append, blD_cons, blD_nil, contD_next, contD_ret, retV, st_Assign, st_Return, st_If, assign_plain, assign_list, assign_comp, assign_tuple, plA1, plA2, plA3, plA4, plA5, plA6, plA7, plA8, plA9, plA10, bindS_nm, bindS_tuple, bindD_name, bindD_tup, bindD_lst, bindAll_nil, bindAll_cons, noneOwned_nil, noneOwned_cons, ev_Name, ev_Const, ev_BinOp, ev_USub, negD_int, cmpE_1, cmpE_2, ev_Compare, ev_BoolOp, boolE_or, boolE_and, boolV_bool, evsD_nil, evsD_cons, ev_Tuple, ev_List, ev_Sub, ev_Slice, plI1, plI2, plI3, plI4, plI5, plI6, plS1, plS2, plT1, plT2, plT3, pb_name, pb_const, pb_sub, pb_meth, ev_Call, callD_ref, callD_blt, callD_type, ev_Meth, meth_replace, meth_plain, tst_Compare, tst_BoolOp, tst_Not, tst_Call, tst_Sub, tst1_Compare, tst0_Compare, tst1_Call, tst0_Call, tst1_Sub, allD_and, allD_or, allD_and0, allD_or0, nameD_cons, kindD, storable_cons, upd_at, argsR_cons, argsR_nil, vis_nil, thawR_nil, thawS_nil, drp_nil, constD, vis_one, drp_one, thawR_one, thawS_one, noneOwned_one, noneOwned_one0, append_one, Ends_next, Option.bind_some, Option.bind_none, Option.bind_assoc, String.reduceEq, String.reduceNe, ne_eq, not_false_eq_true, not_true_eq_false, List.length_cons, List.length_nil, List.map_cons, List.map_nil, Nat.reduceAdd, Nat.reduceLeDiff, Nat.reduceLT, Nat.reduceBEq, if_true, if_false, reduceIte, Bool.false_eq_true, BEq.rfl, beq_self_eq_true, reduceCtorEq, and_self, and_true, true_and, ite_self, List.isEmpty_cons, Bool.not_false]
    refine ⟨hT, ?_⟩
    have hgl : grp.length ≤ 100 := iter_len hin
    have hg0 : 1 + fr0.length ≤ 100 := iter_len0 hin
    have e0 : idxD (.lst (cD (g0 :: fr0))) (.int 0) = some (.int (g0.1 : Int)) := cD_idx _ 0 g0 rfl (by rw [List.length_cons]; omega)
    have e1 : sliceD (.lst (cD (g0 :: fr0))) (some 1) none = some (.lst (cD fr0)) := by
      show (if (cD (g0 :: fr0)).length ≤ sizeLine then some (D.lst ((cD (g0 :: fr0)).drop 1)) else none) = _
      rw [if_pos]
      · rfl
      · have : sizeLine = 2 ^ 24 := rfl
        unfold cD
        rw [List.length_map, List.length_cons]; omega
    have z1 : (0 : Int) ≤ 1 := by decide
    have z2 : (1 : Int).toNat = 1 := rfl
    simp -implicitDefEqProofs only [i5, e0, e1, own2, partD_none, partD_int, z1, z2, glen, comp_eq, compOk_eq, kindF, List.all_cons, List.all_nil, List.any_cons, List.any_nil, nodB, nameOk_local, nameOk_cell, nameOk_glob, nameOk_free, lookup_at, dbgB, freeB1, freeB2, closRho_cons, closRho_nil, freshT_name, freshT_tup, isTup_name, isTup_tup, tgB_name, tgB_tup, items_Name, items_List, items_Sub, items_Call, isTy_type, isTy_blt, isTy_ref, listD_lst, listD_lst', listD_dci, listD_str, gen_one, gen_two, testsD_nil, testsD_cons, ev_ListComp, ev_DictComp, keyD_eq, intV_int, ofs_beq, String.reduceBEq, Bool.not_false, Bool.not_true, Bool.and_true, Bool.true_and, Bool.and_self, Bool.or_false, Bool.false_or, Option.isNone_none, Option.isNone_some, fnD_eq, st_Try, st_While, st_Append, blD_cons, blD_nil, contD_next, contD_ret, retV, st_Assign, st_Return, st_If, assign_plain, assign_list, assign_comp, assign_tuple, plA1, plA2, plA3, plA4, plA5, plA6, plA7, plA8, plA9, plA10, bindS_nm, bindS_tuple, bindD_name, bindD_tup, bindD_lst, bindAll_nil, bindAll_cons, noneOwned_nil, noneOwned_cons, ev_Name, ev_Const, ev_BinOp, ev_USub, negD_int, cmpE_1, cmpE_2, ev_Compare, ev_BoolOp, boolE_or, boolE_and, boolV_bool, evsD_nil, evsD_cons, ev_Tuple, ev_List, ev_Sub, ev_Slice, plI1, plI2, plI3, plI4, plI5, plI6, plS1, plS2, plT1, plT2, plT3, pb_name, pb_const, pb_sub, pb_meth, ev_Call, callD_ref, callD_blt, callD_type, ev_Meth, meth_replace, meth_plain, tst_Compare, tst_BoolOp, tst_Not, tst_Call, tst_Sub, tst1_Compare, tst0_Compare, tst1_Call, tst0_Call, tst1_Sub, allD_and, allD_or, allD_and0, allD_or0, nameD_cons, kindD, storable_cons, upd_at, argsR_cons, argsR_nil, vis_nil, thawR_nil, thawS_nil, drp_nil, constD, vis_one, drp_one, thawR_one, thawS_one, noneOwned_one, noneOwned_one0, append_one, Ends_next, Option.bind_some, Option.bind_none, Option.bind_assoc, String.reduceEq, String.reduceNe, ne_eq, not_false_eq_true, not_true_eq_false, List.length_cons, List.length_nil, List.map_cons, List.map_nil, Nat.reduceAdd, Nat.reduceLeDiff, Nat.reduceLT, Nat.reduceBEq, if_true, if_false, reduceIte, Bool.false_eq_true, BEq.rfl, beq_self_eq_true, reduceCtorEq, and_self, and_true, true_and, ite_self]
    refine Ends.bind (while_ind (InInv st r p s (kn.map fun k : Nat => D.int (k : Int)) g0) innerStep ?stop2 ?go2 64 ([g0], fr0, 0) (grp, free', dn) _ _ ?inv2 hin) ?rest
    case inv2 =>
      refine ⟨rfl, ?_, ?_, ?_, ?_, ?_, ?_, ?_, rfl, ?_⟩
      case refine_8 => simpa using i6
      all_goals simp only [i1, i2, i3, i4, fnD_eq, st_Try, st_While, st_Append, blD_cons, blD_nil, contD_next, contD_ret, retV, st_Assign, st_Return, st_If, assign_plain, assign_list, assign_comp, assign_tuple, plA1, plA2, plA3, plA4, plA5, plA6, plA7, plA8, plA9, plA10, bindS_nm, bindS_tuple, bindD_name, bindD_tup, bindD_lst, bindAll_nil, bindAll_cons, noneOwned_nil, noneOwned_cons, ev_Name, ev_Const, ev_BinOp, ev_USub, negD_int, cmpE_1, cmpE_2, ev_Compare, ev_BoolOp, boolE_or, boolE_and, boolV_bool, evsD_nil, evsD_cons, ev_Tuple, ev_List, ev_Sub, ev_Slice, plI1, plI2, plI3, plI4, plI5, plI6, plS1, plS2, plT1, plT2, plT3, pb_name, pb_const, pb_sub, pb_meth, ev_Call, callD_ref, callD_blt, callD_type, ev_Meth, meth_replace, meth_plain, tst_Compare, tst_BoolOp, tst_Not, tst_Call, tst_Sub, tst1_Compare, tst0_Compare, tst1_Call, tst0_Call, tst1_Sub, allD_and, allD_or, allD_and0, allD_or0, nameD_cons, kindD, storable_cons, upd_at, argsR_cons, argsR_nil, vis_nil, thawR_nil, thawS_nil, drp_nil, constD, vis_one, drp_one, thawR_one, thawS_one, noneOwned_one, noneOwned_one0, append_one, Ends_next, Option.bind_some, Option.bind_none, Option.bind_assoc, String.reduceEq, String.reduceNe, ne_eq, not_false_eq_true, not_true_eq_false, List.length_cons, List.length_nil, List.map_cons, List.map_nil, Nat.reduceAdd, Nat.reduceLeDiff, Nat.reduceLT, Nat.reduceBEq, if_true, if_false, reduceIte, Bool.false_eq_true, BEq.rfl, beq_self_eq_true, reduceCtorEq, and_self, and_true, true_and, ite_self]
      all_goals rfl
    case stop2 =>
      rintro ⟨ga, fa, da⟩ σ ρ ⟨rfl, j1, j2, j3, j4, j5, j6, j7, j8, j9⟩ hst
      simp only at j5 j6 j7 j8
      unfold innerStep at hst
      split at hst
      case isFalse => cases hst
      rename_i hlen
      simp only at hst hlen
      have hd : ga.length ≤ da := by
        rcases Nat.lt_or_ge da ga.length with h | h
        · exfalso
          cases ga with
          | nil => cases j8
          | cons x y =>
            rw [List.getElem?_eq_getElem h] at hst
            simp at hst
        · exact h
      have k1 := cD_len ga (by omega)
      have k2 := cI_lt da ga.length
      rw [decide_eq_false (by omega)] at k2
      simp only [j5, j7, k1, k2, fnD_eq, st_Try, st_While, st_Append, blD_cons, blD_nil, contD_next, contD_ret, retV, st_Assign, st_Return, st_If, assign_plain, assign_list, assign_comp, assign_tuple, plA1, plA2, plA3, plA4, plA5, plA6, plA7, plA8, plA9, plA10, bindS_nm, bindS_tuple, bindD_name, bindD_tup, bindD_lst, bindAll_nil, bindAll_cons, noneOwned_nil, noneOwned_cons, ev_Name, ev_Const, ev_BinOp, ev_USub, negD_int, cmpE_1, cmpE_2, ev_Compare, ev_BoolOp, boolE_or, boolE_and, boolV_bool, evsD_nil, evsD_cons, ev_Tuple, ev_List, ev_Sub, ev_Slice, plI1, plI2, plI3, plI4, plI5, plI6, plS1, plS2, plT1, plT2, plT3, pb_name, pb_const, pb_sub, pb_meth, ev_Call, callD_ref, callD_blt, callD_type, ev_Meth, meth_replace, meth_plain, tst_Compare, tst_BoolOp, tst_Not, tst_Call, tst_Sub, tst1_Compare, tst0_Compare, tst1_Call, tst0_Call, tst1_Sub, allD_and, allD_or, allD_and0, allD_or0, nameD_cons, kindD, storable_cons, upd_at, argsR_cons, argsR_nil, vis_nil, thawR_nil, thawS_nil, drp_nil, constD, vis_one, drp_one, thawR_one, thawS_one, noneOwned_one, noneOwned_one0, append_one, Ends_next, Option.bind_some, Option.bind_none, Option.bind_assoc, String.reduceEq, String.reduceNe, ne_eq, not_false_eq_true, not_true_eq_false, List.length_cons, List.length_nil, List.map_cons, List.map_nil, Nat.reduceAdd, Nat.reduceLeDiff, Nat.reduceLT, Nat.reduceBEq, if_true, if_false, reduceIte, Bool.false_eq_true, BEq.rfl, beq_self_eq_true, reduceCtorEq, and_self, and_true, true_and, ite_self]
    case go2 =>
      rintro ⟨ga, fa, da⟩ ⟨ga', fa', da'⟩ σ ρ ⟨rfl, j1, j2, j3, j4, j5, j6, j7, j8, j9⟩ hst
      simp only at j5 j6 j7 j8 j9
      unfold innerStep at hst
      split at hst
      case isFalse => cases hst
      rename_i hlen
      simp only at hst hlen
      split at hst
      case h_2 => cases hst
      rename_i gd g1 gr1 hgd
      cases hst
      have hg1 : g1 = g0 := by simpa using j8
      subst hg1
      have hd : da < (g1 :: gr1).length := (List.getElem?_eq_some_iff.mp hgd).1
      have k1 := cD_len (g1 :: gr1) (by omega)
      have k2 := cI_lt da (g1 :: gr1).length
      rw [decide_eq_true hd] at k2
      rw [List.length_cons] at k1 k2
      refine ⟨by simp only [j5, j7, k1, k2, fnD_eq, st_Try, st_While, st_Append, blD_cons, blD_nil, contD_next, contD_ret, retV, st_Assign, st_Return, st_If, assign_plain, assign_list, assign_comp, assign_tuple, plA1, plA2, plA3, plA4, plA5, plA6, plA7, plA8, plA9, plA10, bindS_nm, bindS_tuple, bindD_name, bindD_tup, bindD_lst, bindAll_nil, bindAll_cons, noneOwned_nil, noneOwned_cons, ev_Name, ev_Const, ev_BinOp, ev_USub, negD_int, cmpE_1, cmpE_2, ev_Compare, ev_BoolOp, boolE_or, boolE_and, boolV_bool, evsD_nil, evsD_cons, ev_Tuple, ev_List, ev_Sub, ev_Slice, plI1, plI2, plI3, plI4, plI5, plI6, plS1, plS2, plT1, plT2, plT3, pb_name, pb_const, pb_sub, pb_meth, ev_Call, callD_ref, callD_blt, callD_type, ev_Meth, meth_replace, meth_plain, tst_Compare, tst_BoolOp, tst_Not, tst_Call, tst_Sub, tst1_Compare, tst0_Compare, tst1_Call, tst0_Call, tst1_Sub, allD_and, allD_or, allD_and0, allD_or0, nameD_cons, kindD, storable_cons, upd_at, argsR_cons, argsR_nil, vis_nil, thawR_nil, thawS_nil, drp_nil, constD, vis_one, drp_one, thawR_one, thawS_one, noneOwned_one, noneOwned_one0, append_one, Ends_next, Option.bind_some, Option.bind_none, Option.bind_assoc, String.reduceEq, String.reduceNe, ne_eq, not_false_eq_true, not_true_eq_false, List.length_cons, List.length_nil, List.map_cons, List.map_nil, Nat.reduceAdd, Nat.reduceLeDiff, Nat.reduceLT, Nat.reduceBEq, if_true, if_false, reduceIte, Bool.false_eq_true, BEq.rfl, beq_self_eq_true, reduceCtorEq, and_self, and_true, true_and, ite_self], ?_⟩
      have k3 : idxD (.lst (cD (g1 :: gr1))) (.int 0) = some (.int (g1.1 : Int)) := cD_idx _ 0 g1 rfl (by omega)
      have k4 := cD_idx (g1 :: gr1) da gd hgd (by omega)
      have k5 := j9 g1 (by simp)
      simp -implicitDefEqProofs only [j1, j2, j3, j4, j5, j6, j7, k3, k4, k5, gabs, comp_eq, compOk_eq, kindF, List.all_cons, List.all_nil, List.any_cons, List.any_nil, nodB, nameOk_local, nameOk_cell, nameOk_glob, nameOk_free, lookup_at, dbgB, freeB1, freeB2, closRho_cons, closRho_nil, freshT_name, freshT_tup, isTup_name, isTup_tup, tgB_name, tgB_tup, items_Name, items_List, items_Sub, items_Call, isTy_type, isTy_blt, isTy_ref, listD_lst, listD_lst', listD_dci, listD_str, gen_one, gen_two, testsD_nil, testsD_cons, ev_ListComp, ev_DictComp, keyD_eq, intV_int, ofs_beq, String.reduceBEq, Bool.not_false, Bool.not_true, Bool.and_true, Bool.true_and, Bool.and_self, Bool.or_false, Bool.false_or, Option.isNone_none, Option.isNone_some, fnD_eq, st_Try, st_While, st_Append, blD_cons, blD_nil, contD_next, contD_ret, retV, st_Assign, st_Return, st_If, assign_plain, assign_list, assign_comp, assign_tuple, plA1, plA2, plA3, plA4, plA5, plA6, plA7, plA8, plA9, plA10, bindS_nm, bindS_tuple, bindD_name, bindD_tup, bindD_lst, bindAll_nil, bindAll_cons, noneOwned_nil, noneOwned_cons, ev_Name, ev_Const, ev_BinOp, ev_USub, negD_int, cmpE_1, cmpE_2, ev_Compare, ev_BoolOp, boolE_or, boolE_and, boolV_bool, evsD_nil, evsD_cons, ev_Tuple, ev_List, ev_Sub, ev_Slice, plI1, plI2, plI3, plI4, plI5, plI6, plS1, plS2, plT1, plT2, plT3, pb_name, pb_const, pb_sub, pb_meth, ev_Call, callD_ref, callD_blt, callD_type, ev_Meth, meth_replace, meth_plain, tst_Compare, tst_BoolOp, tst_Not, tst_Call, tst_Sub, tst1_Compare, tst0_Compare, tst1_Call, tst0_Call, tst1_Sub, allD_and, allD_or, allD_and0, allD_or0, nameD_cons, kindD, storable_cons, upd_at, argsR_cons, argsR_nil, vis_nil, thawR_nil, thawS_nil, drp_nil, constD, vis_one, drp_one, thawR_one, thawS_one, noneOwned_one, noneOwned_one0, append_one, Ends_next, Option.bind_some, Option.bind_none, Option.bind_assoc, String.reduceEq, String.reduceNe, ne_eq, not_false_eq_true, not_true_eq_false, List.length_cons, List.length_nil, List.map_cons, List.map_nil, Nat.reduceAdd, Nat.reduceLeDiff, Nat.reduceLT, Nat.reduceBEq, if_true, if_false, reduceIte, Bool.false_eq_true, BEq.rfl, beq_self_eq_true, reduceCtorEq, and_self, and_true, true_and, ite_self]
      refine filtC_ends (fun q => q.2 == g1.2 && adjN q.1 gd.1) (fun q hq => ?_) ?_
      · have k6 := j9 q (List.mem_append_right _ hq)
        simp only [k6, cI_eq, Option.bind_some]
        by_cases hqq : q.2 = g1.2
        · have : (q.2 == g1.2) = true := by simpa using hqq
          simp only [hqq, this, decide_true, if_true, Bool.true_and, adj_K, BEq.rfl]
          cases adjN q.1 gd.1 <;> rfl
        · have : (q.2 == g1.2) = false := by simpa using hqq
          simp only [hqq, this, decide_false, Bool.false_eq_true, if_false, Bool.false_and, Option.bind_some]
      · change Ends ((capL (cD (nearN g1 gd fa))).bind _) _
        have hnl : (nearN g1 gd fa).length ≤ fa.length := List.length_filter_le _ _
        have c1 : capL (cD (nearN g1 gd fa)) = some (cD (nearN g1 gd fa)) := capL_ok (by unfold cD; rw [List.length_map]; omega)
        have c2 := cD_cat (g1 :: gr1) (nearN g1 gd fa) (by omega)
        rw [c1, Option.bind_some, c2, Option.bind_some]
        refine filtC_ends (fun q => !((nearN g1 gd fa).any fun t => t.1 == q.1)) (fun q hq => ?_) ?_
        · rw [cD_notin, Option.bind_some, pick]
        · change Ends ((capL (cD (restN (nearN g1 gd fa) fa))).bind _) _
          have hrl : (restN (nearN g1 gd fa) fa).length ≤ fa.length := List.length_filter_le _ _
          have c3 : capL (cD (restN (nearN g1 gd fa) fa)) = some (cD (restN (nearN g1 gd fa) fa)) := capL_ok (by unfold cD; rw [List.length_map]; omega)
          have c4 : binD .Add (.int (da : Int)) (.int 1) = some (.int ((da + 1 : Nat) : Int)) := bI_add da 1
          rw [c3, Option.bind_some, c4, Option.bind_some, Ends_next]
          refine ⟨rfl, ?_, ?_, ?_, ?_, ?_, ?_, ?_, rfl, ?_⟩
          case refine_8 =>
            intro q hq
            simp only at hq
            rcases List.mem_append.mp hq with hq | hq
            · rcases List.mem_append.mp hq with hq | hq
              · exact j9 q (List.mem_append_left _ hq)
              · exact j9 q (List.mem_append_right _ ((List.mem_filter.mp hq).1))
            · exact j9 q (List.mem_append_right _ ((List.mem_filter.mp hq).1))
          all_goals simp only [j1, j2, j3, j4, fnD_eq, st_Try, st_While, st_Append, blD_cons, blD_nil, contD_next, contD_ret, retV, st_Assign, st_Return, st_If, assign_plain, assign_list, assign_comp, assign_tuple, plA1, plA2, plA3, plA4, plA5, plA6, plA7, plA8, plA9, plA10, bindS_nm, bindS_tuple, bindD_name, bindD_tup, bindD_lst, bindAll_nil, bindAll_cons, noneOwned_nil, noneOwned_cons, ev_Name, ev_Const, ev_BinOp, ev_USub, negD_int, cmpE_1, cmpE_2, ev_Compare, ev_BoolOp, boolE_or, boolE_and, boolV_bool, evsD_nil, evsD_cons, ev_Tuple, ev_List, ev_Sub, ev_Slice, plI1, plI2, plI3, plI4, plI5, plI6, plS1, plS2, plT1, plT2, plT3, pb_name, pb_const, pb_sub, pb_meth, ev_Call, callD_ref, callD_blt, callD_type, ev_Meth, meth_replace, meth_plain, tst_Compare, tst_BoolOp, tst_Not, tst_Call, tst_Sub, tst1_Compare, tst0_Compare, tst1_Call, tst0_Call, tst1_Sub, allD_and, allD_or, allD_and0, allD_or0, nameD_cons, kindD, storable_cons, upd_at, argsR_cons, argsR_nil, vis_nil, thawR_nil, thawS_nil, drp_nil, constD, vis_one, drp_one, thawR_one, thawS_one, noneOwned_one, noneOwned_one0, append_one, Ends_next, Option.bind_some, Option.bind_none, Option.bind_assoc, String.reduceEq, String.reduceNe, ne_eq, not_false_eq_true, not_true_eq_false, List.length_cons, List.length_nil, List.map_cons, List.map_nil, Nat.reduceAdd, Nat.reduceLeDiff, Nat.reduceLT, Nat.reduceBEq, if_true, if_false, reduceIte, Bool.false_eq_true, BEq.rfl, beq_self_eq_true, reduceCtorEq, and_self, and_true, true_and, ite_self]
    case rest =>
      rintro σ ρ ⟨rfl, j1, j2, j3, j4, j5, j6, j7, j8, j9⟩
      simp only at j5 j6 j7 j8 j9
      simp -implicitDefEqProofs only [j1, j2, j3, j4, j5, j6, j7, comp_eq, compOk_eq, kindF, List.all_cons, List.all_nil, List.any_cons, List.any_nil, nodB, nameOk_local, nameOk_cell, nameOk_glob, nameOk_free, lookup_at, dbgB, freeB1, freeB2, closRho_cons, closRho_nil, freshT_name, freshT_tup, isTup_name, isTup_tup, tgB_name, tgB_tup, items_Name, items_List, items_Sub, items_Call, isTy_type, isTy_blt, isTy_ref, listD_lst, listD_lst', listD_dci, listD_str, gen_one, gen_two, testsD_nil, testsD_cons, ev_ListComp, ev_DictComp, keyD_eq, intV_int, ofs_beq, String.reduceBEq, Bool.not_false, Bool.not_true, Bool.and_true, Bool.true_and, Bool.and_self, Bool.or_false, Bool.false_or, Option.isNone_none, Option.isNone_some, fnD_eq, st_Try, st_While, st_Append, blD_cons, blD_nil, contD_next, contD_ret, retV, st_Assign, st_Return, st_If, assign_plain, assign_list, assign_comp, assign_tuple, plA1, plA2, plA3, plA4, plA5, plA6, plA7, plA8, plA9, plA10, bindS_nm, bindS_tuple, bindD_name, bindD_tup, bindD_lst, bindAll_nil, bindAll_cons, noneOwned_nil, noneOwned_cons, ev_Name, ev_Const, ev_BinOp, ev_USub, negD_int, cmpE_1, cmpE_2, ev_Compare, ev_BoolOp, boolE_or, boolE_and, boolV_bool, evsD_nil, evsD_cons, ev_Tuple, ev_List, ev_Sub, ev_Slice, plI1, plI2, plI3, plI4, plI5, plI6, plS1, plS2, plT1, plT2, plT3, pb_name, pb_const, pb_sub, pb_meth, ev_Call, callD_ref, callD_blt, callD_type, ev_Meth, meth_replace, meth_plain, tst_Compare, tst_BoolOp, tst_Not, tst_Call, tst_Sub, tst1_Compare, tst0_Compare, tst1_Call, tst0_Call, tst1_Sub, allD_and, allD_or, allD_and0, allD_or0, nameD_cons, kindD, storable_cons, upd_at, argsR_cons, argsR_nil, vis_nil, thawR_nil, thawS_nil, drp_nil, constD, vis_one, drp_one, thawR_one, thawS_one, noneOwned_one, noneOwned_one0, append_one, Ends_next, Option.bind_some, Option.bind_none, Option.bind_assoc, String.reduceEq, String.reduceNe, ne_eq, not_false_eq_true, not_true_eq_false, List.length_cons, List.length_nil, List.map_cons, List.map_nil, Nat.reduceAdd, Nat.reduceLeDiff, Nat.reduceLT, Nat.reduceBEq, if_true, if_false, reduceIte, Bool.false_eq_true, BEq.rfl, beq_self_eq_true, reduceCtorEq, and_self, and_true, true_and, ite_self]
      refine filtC_ends (leftN p) (fun q hq => ?_) ?_
      · simp only [left_K]; rw [pick]; rfl
      have lf : ∀ q : Nat × Nat → Bool, capL (cD (grp.filter q)) = some (cD (grp.filter q)) := fun q => capL_ok (by have := List.length_filter_le q grp; unfold cD; rw [List.length_map]; omega)
      simp -implicitDefEqProofs only [lf, j1, j2, j3, j4, j5, j6, j7, comp_eq, compOk_eq, kindF, List.all_cons, List.all_nil, List.any_cons, List.any_nil, nodB, nameOk_local, nameOk_cell, nameOk_glob, nameOk_free, lookup_at, dbgB, freeB1, freeB2, closRho_cons, closRho_nil, freshT_name, freshT_tup, isTup_name, isTup_tup, tgB_name, tgB_tup, items_Name, items_List, items_Sub, items_Call, isTy_type, isTy_blt, isTy_ref, listD_lst, listD_lst', listD_dci, listD_str, gen_one, gen_two, testsD_nil, testsD_cons, ev_ListComp, ev_DictComp, keyD_eq, intV_int, ofs_beq, String.reduceBEq, Bool.not_false, Bool.not_true, Bool.and_true, Bool.true_and, Bool.and_self, Bool.or_false, Bool.false_or, Option.isNone_none, Option.isNone_some, fnD_eq, st_Try, st_While, st_Append, blD_cons, blD_nil, contD_next, contD_ret, retV, st_Assign, st_Return, st_If, assign_plain, assign_list, assign_comp, assign_tuple, plA1, plA2, plA3, plA4, plA5, plA6, plA7, plA8, plA9, plA10, bindS_nm, bindS_tuple, bindD_name, bindD_tup, bindD_lst, bindAll_nil, bindAll_cons, noneOwned_nil, noneOwned_cons, ev_Name, ev_Const, ev_BinOp, ev_USub, negD_int, cmpE_1, cmpE_2, ev_Compare, ev_BoolOp, boolE_or, boolE_and, boolV_bool, evsD_nil, evsD_cons, ev_Tuple, ev_List, ev_Sub, ev_Slice, plI1, plI2, plI3, plI4, plI5, plI6, plS1, plS2, plT1, plT2, plT3, pb_name, pb_const, pb_sub, pb_meth, ev_Call, callD_ref, callD_blt, callD_type, ev_Meth, meth_replace, meth_plain, tst_Compare, tst_BoolOp, tst_Not, tst_Call, tst_Sub, tst1_Compare, tst0_Compare, tst1_Call, tst0_Call, tst1_Sub, allD_and, allD_or, allD_and0, allD_or0, nameD_cons, kindD, storable_cons, upd_at, argsR_cons, argsR_nil, vis_nil, thawR_nil, thawS_nil, drp_nil, constD, vis_one, drp_one, thawR_one, thawS_one, noneOwned_one, noneOwned_one0, append_one, Ends_next, Option.bind_some, Option.bind_none, Option.bind_assoc, String.reduceEq, String.reduceNe, ne_eq, not_false_eq_true, not_true_eq_false, List.length_cons, List.length_nil, List.map_cons, List.map_nil, Nat.reduceAdd, Nat.reduceLeDiff, Nat.reduceLT, Nat.reduceBEq, if_true, if_false, reduceIte, Bool.false_eq_true, BEq.rfl, beq_self_eq_true, reduceCtorEq, and_self, and_true, true_and, ite_self]
      refine filtC_ends (rightN r p) (fun q hq => ?_) ?_
      · simp only [right_K]; rw [pick]; rfl
      change Ends ((capL (cD (grp.filter (rightN r p)))).bind _) _
      rw [lf, Option.bind_some]
      refine filtC_ends (belowN r s) (fun q hq => ?_) ?_
      · simp only [below_K]; rw [pick]; rfl
      change Ends ((capL (cD (grp.filter (belowN r s)))).bind _) _
      rw [lf, Option.bind_some]
      have nf : ∀ q : Nat × Nat → Bool, cmpD .NotEq (.lst (cD (grp.filter q))) (.lst []) = some (grp.any q) := fun q => by rw [cD_ne, ne_filter]
      have m0 : idxD (.lst (cD grp)) (.int 0) = some (.int (g0.1 : Int)) := cD_idx grp 0 g0 j8 (by omega)
      have hgm : g0 ∈ grp := List.mem_of_getElem? j8
      have m1 := j9 g0 (List.mem_append_left _ hgm)
      have hk : (kn.map fun k : Nat => D.int (k : Int)).length < 1000000 := by rw [List.length_map]; omega
      have look' : ∀ q ∈ free', idxD st (.int (q.1 : Int)) = some (.int (q.2 : Int)) := fun q hq => j9 q (List.mem_append_right _ hq)
      simp -implicitDefEqProofs only [nf, m0, m1, hk, Option.bind_some, Option.bind_none, Option.bind_assoc, String.reduceEq, String.reduceNe, ne_eq, not_false_eq_true, not_true_eq_false, List.length_cons, List.length_nil, List.map_cons, List.map_nil, Nat.reduceAdd, Nat.reduceLeDiff, Nat.reduceLT, Nat.reduceBEq, if_true, if_false, reduceIte, Bool.false_eq_true, BEq.rfl, beq_self_eq_true, reduceCtorEq, and_self, and_true, true_and, ite_self]
      generalize grp.any (leftN p) = bl at *
      generalize grp.any (rightN r p) = br at *
      generalize grp.any (belowN r s) = bb at *
      have e2 : (kn ++ [g0.2]).map (fun k : Nat => D.int (k : Int)) = (kn.map fun k : Nat => D.int (k : Int)) ++ [D.int (g0.2 : Int)] := by rw [List.map_append]; rfl
      cases bl <;> cases br <;> cases bb
      all_goals
        simp only [Bool.and_true, Bool.and_false, Bool.false_eq_true, if_false, if_true, Bool.and_self] at hst
        cases hst
        simp -implicitDefEqProofs only [fnD_eq, st_Try, st_While, st_Append, blD_cons, blD_nil, contD_next, contD_ret, retV, st_Assign, st_Return, st_If, assign_plain, assign_list, assign_comp, assign_tuple, plA1, plA2, plA3, plA4, plA5, plA6, plA7, plA8, plA9, plA10, bindS_nm, bindS_tuple, bindD_name, bindD_tup, bindD_lst, bindAll_nil, bindAll_cons, noneOwned_nil, noneOwned_cons, ev_Name, ev_Const, ev_BinOp, ev_USub, negD_int, cmpE_1, cmpE_2, ev_Compare, ev_BoolOp, boolE_or, boolE_and, boolV_bool, evsD_nil, evsD_cons, ev_Tuple, ev_List, ev_Sub, ev_Slice, plI1, plI2, plI3, plI4, plI5, plI6, plS1, plS2, plT1, plT2, plT3, pb_name, pb_const, pb_sub, pb_meth, ev_Call, callD_ref, callD_blt, callD_type, ev_Meth, meth_replace, meth_plain, tst_Compare, tst_BoolOp, tst_Not, tst_Call, tst_Sub, tst1_Compare, tst0_Compare, tst1_Call, tst0_Call, tst1_Sub, allD_and, allD_or, allD_and0, allD_or0, nameD_cons, kindD, storable_cons, upd_at, argsR_cons, argsR_nil, vis_nil, thawR_nil, thawS_nil, drp_nil, constD, vis_one, drp_one, thawR_one, thawS_one, noneOwned_one, noneOwned_one0, append_one, Ends_next, Option.bind_some, Option.bind_none, Option.bind_assoc, String.reduceEq, String.reduceNe, ne_eq, not_false_eq_true, not_true_eq_false, List.length_cons, List.length_nil, List.map_cons, List.map_nil, Nat.reduceAdd, Nat.reduceLeDiff, Nat.reduceLT, Nat.reduceBEq, if_true, if_false, reduceIte, Bool.false_eq_true, BEq.rfl, beq_self_eq_true, reduceCtorEq, and_self, and_true, true_and, ite_self]
        refine ⟨?_, ?_, ?_, ?_, ?_, ?_, look'⟩
      all_goals first | rfl | (rw [e2]; done) | (simp only [j1, j2, j3, j4, j6, fnD_eq, st_Try, st_While, st_Append, blD_cons, blD_nil, contD_next, contD_ret, retV, st_Assign, st_Return, st_If, assign_plain, assign_list, assign_comp, assign_tuple, plA1, plA2, plA3, plA4, plA5, plA6, plA7, plA8, plA9, plA10, bindS_nm, bindS_tuple, bindD_name, bindD_tup, bindD_lst, bindAll_nil, bindAll_cons, noneOwned_nil, noneOwned_cons, ev_Name, ev_Const, ev_BinOp, ev_USub, negD_int, cmpE_1, cmpE_2, ev_Compare, ev_BoolOp, boolE_or, boolE_and, boolV_bool, evsD_nil, evsD_cons, ev_Tuple, ev_List, ev_Sub, ev_Slice, plI1, plI2, plI3, plI4, plI5, plI6, plS1, plS2, plT1, plT2, plT3, pb_name, pb_const, pb_sub, pb_meth, ev_Call, callD_ref, callD_blt, callD_type, ev_Meth, meth_replace, meth_plain, tst_Compare, tst_BoolOp, tst_Not, tst_Call, tst_Sub, tst1_Compare, tst0_Compare, tst1_Call, tst0_Call, tst1_Sub, allD_and, allD_or, allD_and0, allD_or0, nameD_cons, kindD, storable_cons, upd_at, argsR_cons, argsR_nil, vis_nil, thawR_nil, thawS_nil, drp_nil, constD, vis_one, drp_one, thawR_one, thawS_one, noneOwned_one, noneOwned_one0, append_one, Ends_next, Option.bind_some, Option.bind_none, Option.bind_assoc, String.reduceEq, String.reduceNe, ne_eq, not_false_eq_true, not_true_eq_false, List.length_cons, List.length_nil, List.map_cons, List.map_nil, Nat.reduceAdd, Nat.reduceLeDiff, Nat.reduceLT, Nat.reduceBEq, if_true, if_false, reduceIte, Bool.false_eq_true, BEq.rfl, beq_self_eq_true, reduceCtorEq, and_self, and_true, true_and, ite_self]; done) | skip
end
end Mine
set_option Elab.async false
set_option maxRecDepth 100000
set_option maxHeartbeats 4000000
namespace Mine
open PySem PySem.Calls PyProof.Rows PySem.W PySem.Spec PySem.Challenge
section
variable (G : Rho) (Φ : Addr → List D → Option D) (own : Str → Bool)
theorem mixed_ok (a1 a2 : Addr) (gr : G (Str.ofString "range") = some (.val (.type "range"))) (gsum : G (Str.ofString "sum") = some (.val (.builtin "sum"))) (g1 : G (Str.ofString "rgb_to_hsv") = some (.val (.ref a1))) (g2 : G (Str.ofString "rgb_to_hls") = some (.val (.ref a2)))
    (x0 x1 x2 y0 y1 y2 z0 z1 z2 : Nat) (hx : x0 + x1 + x2 < 2 ^ 20) (hy : y0 + y1 + y2 < 2 ^ 20) (hz : z0 + z1 + z2 < 2 ^ 20) (h h' v l s s' : UInt64)
    (f1 : Φ a1 [.flt (X (x0 + x1 + x2) 13), .flt (X (y0 + y1 + y2) 13), .flt (X (z0 + z1 + z2) 13)] = some (.tup [.flt h, .flt s, .flt v])) (f2 : Φ a2 [.flt (X (x0 + x1 + x2) 13), .flt (X (y0 + y1 + y2) 13), .flt (X (z0 + z1 + z2) 13)] = some (.tup [.flt h', .flt l, .flt s'])) :
    runR r_law_mixed.1 G Φ own [.lst [.tup [.flt (X x0 11), .flt (X y0 11), .flt (X z0 11)], .tup [.flt (X x1 11), .flt (X y1 11), .flt (X z1 11)], .tup [.flt (X x2 11), .flt (X y2 11), .flt (X z2 11)]]] = some (.lst [.lst [.flt h], .lst [.flt h'], .flt v, .flt l]) := by
  have i0 : ∀ a b c : D, idxD (.tup [a, b, c]) (.int 0) = some a := fun _ _ _ => rfl
  have i1 : ∀ a b c : D, idxD (.tup [a, b, c]) (.int 1) = some b := fun _ _ _ => rfl
  have i2 : ∀ a b c : D, idxD (.tup [a, b, c]) (.int 2) = some c := fun _ _ _ => rfl
  have sx := fD_sum3 (a := x0) (b := x1) (c := x2) (j := 11) (by omega) (by decide)
  have sy := fD_sum3 (a := y0) (b := y1) (c := y2) (j := 11) (by omega) (by decide)
  have sz := fD_sum3 (a := z0) (b := z1) (c := z2) (j := 11) (by omega) (by decide)
  have dx := bD_fdiv4 (a := x0 + x1 + x2) (j := 11) (by omega) (by decide)
  have dy := bD_fdiv4 (a := y0 + y1 + y2) (j := 11) (by omega) (by decide)
  have dz := bD_fdiv4 (a := z0 + z1 + z2) (j := 11) (by omega) (by decide)
  have cap : ∀ a b c : D, capL [a, b, c] = some [a, b, c] := fun _ _ _ => capL_ok (by simp)
  unfold runR
  simp -implicitDefEqProofs only [r_law_mixed, Option.bind_some, fnNamesOf, gr, gsum, g1, g2, range3, forItems_cons, forItems_nil, i0, i1, i2, sx, sy, sz, dx, dy, dz, f1, f2, cap, List.append_nil, List.singleton_append, List.cons_append, List.nil_append, comp_eq, compOk_eq, kindF, List.all_cons, List.all_nil, List.any_cons, List.any_nil, nodB, nameOk_local, nameOk_cell, nameOk_glob, nameOk_free, lookup_at, dbgB, freeB1, freeB2, closRho_cons, closRho_nil, freshT_name, freshT_tup, isTup_name, isTup_tup, tgB_name, tgB_tup, items_Name, items_List, items_Sub, items_Call, isTy_type, isTy_blt, isTy_ref, listD_lst, listD_lst', listD_dci, listD_str, gen_one, gen_two, testsD_nil, testsD_cons, ev_ListComp, ev_DictComp, keyD_eq, intV_int, ofs_beq, String.reduceBEq, Bool.not_false, Bool.not_true, Bool.and_true, Bool.true_and, Bool.and_self, Bool.or_false, Bool.false_or, Option.isNone_none, Option.isNone_some, fnD_eq, st_Try, st_While, st_Append, blD_cons, blD_nil, contD_next, contD_ret, retV, st_Assign, st_Return, st_If, assign_plain, assign_list, assign_comp, assign_tuple, plA1, plA2, plA3, plA4, plA5, plA6, plA7, plA8, plA9, plA10, bindS_nm, bindS_tuple, bindD_name, bindD_tup, bindD_lst, bindAll_nil, bindAll_cons, noneOwned_nil, noneOwned_cons, ev_Name, ev_Const, ev_BinOp, ev_USub, negD_int, cmpE_1, cmpE_2, ev_Compare, ev_BoolOp, boolE_or, boolE_and, boolV_bool, evsD_nil, evsD_cons, ev_Tuple, ev_List, ev_Sub, ev_Slice, plI1, plI2, plI3, plI4, plI5, plI6, plS1, plS2, plT1, plT2, plT3, pb_name, pb_const, pb_sub, pb_meth, ev_Call, callD_ref, callD_blt, callD_type, ev_Meth, meth_replace, meth_plain, tst_Compare, tst_BoolOp, tst_Not, tst_Call, tst_Sub, tst1_Compare, tst0_Compare, tst1_Call, tst0_Call, tst1_Sub, allD_and, allD_or, allD_and0, allD_or0, nameD_cons, kindD, storable_cons, upd_at, argsR_cons, argsR_nil, vis_nil, thawR_nil, thawS_nil, drp_nil, constD, vis_one, drp_one, thawR_one, thawS_one, noneOwned_one, noneOwned_one0, append_one, Ends_next, Option.bind_some, Option.bind_none, Option.bind_assoc, String.reduceEq, String.reduceNe, ne_eq, not_false_eq_true, not_true_eq_false, List.length_cons, List.length_nil, List.map_cons, List.map_nil, Nat.reduceAdd, Nat.reduceLeDiff, Nat.reduceLT, Nat.reduceBEq, if_true, if_false, reduceIte, Bool.false_eq_true, BEq.rfl, beq_self_eq_true, reduceCtorEq, and_self, and_true, true_and, ite_self]
theorem due_ok (hown : own (Str.ofString "three") = false) (gsum : G (Str.ofString "sum") = some (.val (.builtin "sum"))) (q m b0 b1 b2 l0 l1 l2 k0 k1 k2 base : Nat) (hl : l0 + l1 + l2 ≤ 1000) (hk : k0 + k1 + k2 ≤ 1000) (hb : base + 32 * m ≤ 1000) (held looks : D)
    (e0 : idxD held (.int (q : Int)) = some (.lst [.int (b0 : Int)])) (e1 : idxD held (.int ((q + 8 : Nat) : Int)) = some (.lst [.int (b1 : Int)])) (e2 : idxD held (.int ((q + 9 : Nat) : Int)) = some (.lst [.int (b2 : Int)]))
    (t0 : idxD looks (.int (q : Int)) = some (.tup [.int (l0 : Int), .int (k0 : Int)])) (t1 : idxD looks (.int ((q + 8 : Nat) : Int)) = some (.tup [.int (l1 : Int), .int (k1 : Int)])) (t2 : idxD looks (.int ((q + 9 : Nat) : Int)) = some (.tup [.int (l2 : Int), .int (k2 : Int)])) :
    runR r_law_due.1 G Φ own [.int (q : Int), .lst [.int (m : Int)], held, looks, .int (base : Int)] = some (.lst [.lst [.flt (X ((base + 32 * m) % 64) 6)], .lst [.flt (X ((base + 32 * m) % 64) 6)], .flt (X (k0 + k1 + k2 + (partN m b0 l0 + partN m b1 l1 + partN m b2 l2)) 5), .flt (X (2 * (k0 + k1 + k2) + (partN m b0 l0 + partN m b1 l1 + partN m b2 l2) + (rest' m b0 l0 + rest' m b1 l1 + rest' m b2 l2)) 6)]) := by
  have p8 : binD .Add (.int (q : Int)) (.int 8) = some (.int ((q + 8 : Nat) : Int)) := bI_add q 8
  have p9 : binD .Add (.int (q : Int)) (.int 9) = some (.int ((q + 9 : Nat) : Int)) := bI_add q 9
  have i0 : ∀ a b : D, idxD (.tup [a, b]) (.int 0) = some a := fun _ _ => rfl
  have i1 : ∀ a b : D, idxD (.tup [a, b]) (.int 1) = some b := fun _ _ => rfl
  have c3 : ∀ a b c : D, capL [a, b, c] = some [a, b, c] := fun _ _ _ => capL_ok (by simp)
  have c2 : ∀ a b : D, capL [a, b] = some [a, b] := fun _ _ => capL_ok (by simp)
  have c1 : ∀ a : D, capL [a] = some [a] := fun _ => capL_ok (by simp)
  have c0 : capL ([] : List D) = some [] := capL_ok (by simp)
  have a1 : binD .Mult (.int 32) (.int (m : Int)) = some (.int ((32 * m : Nat) : Int)) := bI_mul 32 m (by decide)
  have a2 : binD .Add (.int (base : Int)) (.int ((32 * m : Nat) : Int)) = some (.int ((base + 32 * m : Nat) : Int)) := bI_add base (32 * m)
  have a3 : binD .Mod (.int ((base + 32 * m : Nat) : Int)) (.int 64) = some (.int (((base + 32 * m) % 64 : Nat) : Int)) := bI_mod _ 64 (by decide)
  have a4 : binD .Div (.int (((base + 32 * m) % 64 : Nat) : Int)) (.int 64) = some (.flt (X ((base + 32 * m) % 64) 6)) := bD_idiv (b := 64) (by omega) (by decide) (by omega) (by decide) (by rfl)
  have addN : ∀ a b : Nat, binD .Add (.int (a : Int)) (.int (b : Int)) = some (.int ((a + b : Nat) : Int)) := bI_add
  have mul2 : ∀ b : Nat, binD .Mult (.int 2) (.int (b : Int)) = some (.int ((2 * b : Nat) : Int)) := fun b => bI_mul 2 b (by decide)
  have d32 : ∀ a : Nat, a ≤ 10000 → binD .Div (.int (a : Int)) (.int 32) = some (.flt (X a 5)) := fun a ha => bD_idiv (b := 32) (by omega) (by decide) (by omega) (by decide) (by rfl)
  have d64 : ∀ a : Nat, a ≤ 10000 → binD .Div (.int (a : Int)) (.int 64) = some (.flt (X a 6)) := fun a ha => bD_idiv (b := 64) (by omega) (by decide) (by omega) (by decide) (by rfl)
  have z0 : ((0 : Nat) : Int) = 0 := rfl
  have s0 : fnD (.builtin "sum") [.lst []] = some (.int ((0 : Nat) : Int)) := rfl
  have pl : ∀ (m b l : Nat), partN m b l ≤ l ∧ rest' m b l ≤ l := fun m b l => by unfold partN rest'; split <;> omega
  have key : ∀ A B : Nat, A ≤ 3000 → B ≤ 3000 → ((binD .Add (.int ((k0 + k1 + k2 : Nat) : Int)) (.int (A : Int))).bind fun x => binD .Div x (.int 32)) = some (.flt (X (k0 + k1 + k2 + A) 5)) := fun A B hA hB => by
    rw [addN, Option.bind_some, d32 _ (by omega)]
  have pos : ∀ (b l : Nat), b = m → partN m b l = l ∧ rest' m b l = 0 := fun b l h => by unfold partN rest'; rw [if_pos h, if_pos h]; exact ⟨rfl, rfl⟩
  have neg : ∀ (b l : Nat), ¬ b = m → partN m b l = 0 ∧ rest' m b l = l := fun b l h => by unfold partN rest'; rw [if_neg h, if_neg h]; exact ⟨rfl, rfl⟩
  have tt : ∀ (d : D) , ((if true = true then some true else some false).bind fun b => if b = true then some [d] else some []) = some [d] := fun _ => rfl
  unfold runR
  by_cases h0 : b0 = m <;> by_cases h1 : b1 = m <;> by_cases h2 : b2 = m
  all_goals
    first | rw [(pos b0 l0 h0).1, (pos b0 l0 h0).2] | rw [(neg b0 l0 h0).1, (neg b0 l0 h0).2]
    first | rw [(pos b1 l1 h1).1, (pos b1 l1 h1).2] | rw [(neg b1 l1 h1).1, (neg b1 l1 h1).2]
    first | rw [(pos b2 l2 h2).1, (pos b2 l2 h2).2] | rw [(neg b2 l2 h2).1, (neg b2 l2 h2).2]
    simp -implicitDefEqProofs only [r_law_due, Option.bind_some, fnNamesOf, gsum, hown, p8, p9, e0, e1, e2, t0, t1, t2, i0, i1, c0, c1, c2, c3, a1, a2, a3, a4, addN, mul2, eq_one, ne_one, h0, h1, h2, decide_true, decide_false, sumI1, sumI2, sumI3, s0, forItems_cons, forItems_nil, List.append_nil, List.singleton_append, List.cons_append, List.nil_append, comp_eq, compOk_eq, kindF, List.all_cons, List.all_nil, List.any_cons, List.any_nil, nodB, nameOk_local, nameOk_cell, nameOk_glob, nameOk_free, lookup_at, dbgB, freeB1, freeB2, closRho_cons, closRho_nil, freshT_name, freshT_tup, isTup_name, isTup_tup, tgB_name, tgB_tup, items_Name, items_List, items_Sub, items_Call, isTy_type, isTy_blt, isTy_ref, listD_lst, listD_lst', listD_dci, listD_str, gen_one, gen_two, testsD_nil, testsD_cons, ev_ListComp, ev_DictComp, keyD_eq, intV_int, ofs_beq, String.reduceBEq, Bool.not_false, Bool.not_true, Bool.and_true, Bool.true_and, Bool.and_self, Bool.or_false, Bool.false_or, Option.isNone_none, Option.isNone_some, fnD_eq, st_Try, st_While, st_Append, blD_cons, blD_nil, contD_next, contD_ret, retV, st_Assign, st_Return, st_If, assign_plain, assign_list, assign_comp, assign_tuple, plA1, plA2, plA3, plA4, plA5, plA6, plA7, plA8, plA9, plA10, bindS_nm, bindS_tuple, bindD_name, bindD_tup, bindD_lst, bindAll_nil, bindAll_cons, noneOwned_nil, noneOwned_cons, ev_Name, ev_Const, ev_BinOp, ev_USub, negD_int, cmpE_1, cmpE_2, ev_Compare, ev_BoolOp, boolE_or, boolE_and, boolV_bool, evsD_nil, evsD_cons, ev_Tuple, ev_List, ev_Sub, ev_Slice, plI1, plI2, plI3, plI4, plI5, plI6, plS1, plS2, plT1, plT2, plT3, pb_name, pb_const, pb_sub, pb_meth, ev_Call, callD_ref, callD_blt, callD_type, ev_Meth, meth_replace, meth_plain, tst_Compare, tst_BoolOp, tst_Not, tst_Call, tst_Sub, tst1_Compare, tst0_Compare, tst1_Call, tst0_Call, tst1_Sub, allD_and, allD_or, allD_and0, allD_or0, nameD_cons, kindD, storable_cons, upd_at, argsR_cons, argsR_nil, vis_nil, thawR_nil, thawS_nil, drp_nil, constD, vis_one, drp_one, thawR_one, thawS_one, noneOwned_one, noneOwned_one0, append_one, Ends_next, Option.bind_some, Option.bind_none, Option.bind_assoc, String.reduceEq, String.reduceNe, ne_eq, not_false_eq_true, not_true_eq_false, List.length_cons, List.length_nil, List.map_cons, List.map_nil, Nat.reduceAdd, Nat.reduceLeDiff, Nat.reduceLT, Nat.reduceBEq, if_true, if_false, reduceIte, Bool.false_eq_true, BEq.rfl, beq_self_eq_true, reduceCtorEq, and_self, and_true, true_and, ite_self]
    rw [d32 _ (by omega), Option.bind_some, d64 _ (by omega)]
    simp only [Option.bind_some, List.length_cons, List.length_nil, Nat.reduceAdd, Nat.reduceLeDiff, if_true, Nat.zero_add, Nat.add_zero, List.cons_append, List.nil_append]
end
end Mine
set_option Elab.async false
set_option maxRecDepth 100000
set_option maxHeartbeats 4000000
namespace Mine
open PySem PySem.Calls PyProof.Rows PySem.W PySem.Spec PySem.Challenge
def forBody : Option DefRec → Option (List Stmt)
  | some d => d.body.findSome? fun st => match st with | .For _ _ b _ _ => some b | _ => none
  | none => none
def lawFor : { t : Option (List Stmt) // forBody r_law.1 = t } := by
  refine ⟨?t, ?h⟩
  case h =>
    conv => lhs; whnf
def lawNames : { t : Option Names // r_law.1.map (fun d => d.scope.names) = t } := by
  refine ⟨?t, ?h⟩
  case h =>
    conv => lhs; whnf
def kI (l : List Nat) : List D := l.map fun q : Nat => .int (q : Int)
def kD (l : List Nat) (v : Nat → D) : D := .dci (l.map fun q : Nat => ((q : Int), v q))
theorem mapE {f : D → Option (List (Int × D))} {l : List Nat} {K : List (Int × D) → Option Fl} {P : Sg → Rho → Prop} (v : Nat → D) (hf : ∀ q ∈ l, f (.int (q : Int)) = some [((q : Int), v q)]) (hk : Ends (K (l.map fun q : Nat => ((q : Int), v q))) P) : Ends ((forItems f (kI l)).bind K) P := by
  have e : forItems f (kI l) = some (l.map fun q : Nat => ((q : Int), v q)) := by
    unfold kI
    rw [forItems_map f _ (fun q : Nat => [((q : Int), v q)]) l hf, flatMap_single]
  rw [e]; exact hk
theorem filtI {f : D → Option (List D)} {l : List Nat} {K : List D → Option Fl} {P : Sg → Rho → Prop} (p : Nat → Bool) (hf : ∀ q ∈ l, f (.int (q : Int)) = some (if p q = true then [.int (q : Int)] else [])) (hk : Ends (K (kI (l.filter p))) P) : Ends ((forItems f (kI l)).bind K) P :=
  filt_ends (h := fun q : Nat => D.int (q : Int)) p hf hk
theorem kD_get {l : List Nat} (v : Nat → D) {q : Nat} (h : q ∈ l) : idxD (kD l v) (.int (q : Int)) = some (v q) :=
  dget_map v (fun q => q) q l h fun x _ e => by rw [show x = q from e]
theorem kD_list (l : List Nat) (v : Nat → D) : listD false (some (kD l v)) = some (kI l) := by
  show some ((l.map fun q : Nat => ((q : Int), v q)).map fun p => D.int p.1) = _
  rw [List.map_map]; rfl
theorem kD_in (l : List Nat) (v : Nat → D) (q : Nat) : cmpD .In (.int (q : Int)) (kD l v) = some (l.contains q) := by
  show some (dget (l.map fun q : Nat => ((q : Int), v q)) (q : Int)).isSome = _
  congr 1
  rw [Bool.eq_iff_iff, List.contains_iff_mem]
  constructor
  · intro h
    unfold dget at h
    rw [Option.isSome_map, List.find?_isSome] at h
    obtain ⟨x, hx, e⟩ := h
    obtain ⟨y, hy, rfl⟩ := List.mem_map.mp hx
    have : y = q := by have := of_decide_eq_true e; simp only at this; omega
    rw [← this]; exact hy
  · intro h
    have := dget_map v (fun q => q) q l h fun x _ e => by rw [show x = q from e]
    rw [this]; rfl
theorem kD_nodup {l : List Nat} (h : l.Nodup) (v : Nat → D) : ((l.map fun q : Nat => ((q : Int), v q)).map Prod.fst).Nodup := by
  rw [List.map_map]
  induction l with
  | nil => simp
  | cons q r ih =>
    rw [List.nodup_cons] at h
    rw [List.map_cons, List.nodup_cons]
    refine ⟨fun hm => ?_, ih h.2⟩
    obtain ⟨y, hy, e⟩ := List.mem_map.mp hm
    have e : (y : Int) = q := e
    have : y = q := by omega
    exact h.1 (this ▸ hy)
theorem kD_same {l : List Nat} (v : Nat → D) (hv : ∀ q ∈ l, eqD 8 (v q) (v q) = some true) : cmpD .NotEq (kD l v) (kD l v) = some false := by
  have hits : ∀ r : List Nat, (∀ q ∈ r, q ∈ l) → hitsD (l.map fun q : Nat => ((q : Int), v q)) (r.map fun q : Nat => ((q : Int), v q)) = some true := by
    intro r
    induction r with
    | nil => intro _; rfl
    | cons q r ih =>
      intro h
      have hq := h q (List.mem_cons_self ..)
      have := dget_map v (fun q => q) q l hq fun x _ e => by rw [show x = q from e]
      rw [List.map_cons]
      unfold hitsD
      simp only [this, hv q hq, ih fun x hx => h x (List.mem_cons_of_mem _ hx)]
      rfl
  show (if (l.map fun q : Nat => ((q : Int), v q)).length = (l.map fun q : Nat => ((q : Int), v q)).length then (hitsD (l.map fun q : Nat => ((q : Int), v q)) (l.map fun q : Nat => ((q : Int), v q))).map (! ·) else some true) = _
  rw [if_pos rfl, hits l fun _ h => h]
  rfl
def localB : Option NameKind → Bool
  | some .local => true
  | _ => false
theorem localB_cell : localB (some .cell) = false := rfl
theorem assign_dictC {G : Rho} {F : Ev} {sc : Names} {own : Str → Bool} {σ : Sg} {ρ : Rho} (x : Str) (tp : Pos) (kx vx : Expr) (gens : List Comprehension) (scope : Scope) (pos : Pos) (h : localB (sc.lookup x) = false) : assignD G F sc own σ ρ (.Name x tp) (.DictComp kx vx gens scope pos) = (F sc (vis σ ρ) (.DictComp kx vx gens scope pos)).bind fun d => bindS sc (.Name x tp) d σ ρ := by
  refine assign_dict x tp kx vx gens scope pos ?_
  show (sc.lookup x == some .local && tp.line == pos.line && !(scope.names.any fun p => p.1 == x && (p.2 == .local || p.2 == .cell))) = false
  cases hl : sc.lookup x with
  | none => rfl
  | some k =>
    rw [hl] at h
    cases k
    all_goals first | (cases h; done) | rfl
def RInv (K K0 : List Nat) (bit hk l0 l1 : Nat → Nat) (base : Nat) (st : D) (σ : Sg) (ρ : Rho) : Prop :=
  σ = [] ∧ ρ (Str.ofString "spots") = some (.lst (kI K)) ∧ ρ (Str.ofString "hues") = some (kD K fun q => .flt (X (hk q) 6)) ∧ ρ (Str.ofString "held") = some (kD K fun q => .lst [.int (bit q : Nat)]) ∧
  ρ (Str.ofString "stones") = some st ∧ ρ (Str.ofString "looks") = some (kD K0 fun q => .tup [.int (l0 q : Nat), .int (l1 q : Nat)]) ∧ ρ (Str.ofString "base") = some (.int (base : Int))
section
variable (G : Rho) (Φ : Addr → List D → Option D) (own : Str → Bool)
theorem mixarith (A B E : Nat) (hBA : B < A) (hA : A ≤ 15) (hE : E ≤ 15) : 1 ≤ 8 * (A - B) ∧ 32 * (8 * (A - B)) ≤ 256 * (E + A) ∧ 256 * (E + A) ≤ 2 ^ 13 ∧ 256 * (E + A) + (256 * (E + A) - 32 * (8 * (A - B))) = (2 * E + A + B) * 256 ∧ (E + A) * 2 ^ 8 < 2 ^ 53 ∧ (2 * E + A + B) * 2 ^ 8 < 2 ^ 53 := by
  have e1 : (2 : Nat) ^ 13 = 8192 := by decide
  have e2 : (2 : Nat) ^ 8 = 256 := by decide
  rw [e1, e2]
  omega
theorem mix_ok (a1 a2 : Addr) (gr : G (Str.ofString "range") = some (.val (.type "range"))) (gsum : G (Str.ofString "sum") = some (.val (.builtin "sum"))) (g1 : G (Str.ofString "rgb_to_hsv") = some (.val (.ref a1))) (g2 : G (Str.ofString "rgb_to_hls") = some (.val (.ref a2)))
    (f1 : ∀ k M Dd j : Nat, 1 ≤ Dd → 32 * Dd ≤ M → M ≤ 2 ^ j → j ≤ 20 → ∃ s, Φ a1 [.flt (X (M - Dd * (us k).1) j), .flt (X (M - Dd * (us k).2.1) j), .flt (X (M - Dd * (us k).2.2) j)] = some (.tup [.flt (X (k % 64) 6), .flt s, .flt (X M j)]))
    (f2 : ∀ k M Dd j : Nat, 1 ≤ Dd → 32 * Dd ≤ M → M ≤ 2 ^ j → j ≤ 20 → ∃ s, Φ a2 [.flt (X (M - Dd * (us k).1) j), .flt (X (M - Dd * (us k).2.1) j), .flt (X (M - Dd * (us k).2.2) j)] = some (.tup [.flt (X (k % 64) 6), .flt (X (M + (M - 32 * Dd)) (j + 1)), .flt s]))
    (base b0 b1 b2 l0 l1 l2 e0 e1 e2 k0 k1 k2 : Nat) (h0 : b0 < 2) (h1 : b1 < 2) (h2 : b2 < 2) (r0 : 3 ≤ l0 ∧ l0 ≤ 5) (r1 : 3 ≤ l1 ∧ l1 ≤ 5) (r2 : 3 ≤ l2 ∧ l2 ≤ 5) (t0 : e0 = 0 ∨ e0 = l0) (t1 : e1 = 0 ∨ e1 = l1) (t2 : e2 = 0 ∨ e2 = l2)
    (u0 : us k0 = us (base + 32 * b0)) (u1 : us k1 = us (base + 32 * b1)) (u2 : us k2 = us (base + 32 * b2)) :
    runR r_law_mixed.1 G Φ own [.lst [paintD k0 l0 e0, paintD k1 l1 e1, paintD k2 l2 e2]] = some (dueV base (maj b0 b1 b2) b0 b1 b2 l0 l1 l2 e0 e1 e2) := by
  obtain ⟨m, hm⟩ : ∃ m, m = maj b0 b1 b2 := ⟨_, rfl⟩
  have hm2 : m < 2 := by rw [hm]; exact maj_lt _ _ _
  obtain ⟨A, hA⟩ : ∃ A, A = partN m b0 l0 + partN m b1 l1 + partN m b2 l2 := ⟨_, rfl⟩
  obtain ⟨B, hB⟩ : ∃ B, B = rest' m b0 l0 + rest' m b1 l1 + rest' m b2 l2 := ⟨_, rfl⟩
  have hu := us_ok base
  have hA' := hA
  have hB' := hB
  rw [hm] at hA' hB'
  have hE : e0 + e1 + e2 ≤ 15 := by omega
  obtain ⟨s1, hBA, hA15, _⟩ := mixsum (us base).1 b0 b1 b2 l0 l1 l2 e0 e1 e2 hu.1.1 h0 h1 h2 r0 r1 r2 A B hA' hB'
  obtain ⟨s2, _⟩ := mixsum (us base).2.1 b0 b1 b2 l0 l1 l2 e0 e1 e2 hu.1.2.1 h0 h1 h2 r0 r1 r2 A B hA' hB'
  obtain ⟨s3, _⟩ := mixsum (us base).2.2 b0 b1 b2 l0 l1 l2 e0 e1 e2 hu.1.2.2 h0 h1 h2 r0 r1 r2 A B hA' hB'
  obtain ⟨j1, j2, j3, j4, j5, j6⟩ := mixarith A B (e0 + e1 + e2) hBA hA15 hE
  rw [← hm] at s1 s2 s3
  have hc : ∀ V S u n : Nat, V * (128 - S * u) = n → col V S u = X n 11 := fun V S u n h => by unfold col; rw [h]
  unfold paintD dueV
  rw [← hm, ← hA, ← hB, u0, u1, u2, us_uo base b0 h0, us_uo base b1 h1, us_uo base b2 h2]
  simp only
  rw [hc _ _ _ _ (chan l0 e0 (uo b0 (us base).1) t0), hc _ _ _ _ (chan l0 e0 (uo b0 (us base).2.1) t0), hc _ _ _ _ (chan l0 e0 (uo b0 (us base).2.2) t0),
    hc _ _ _ _ (chan l1 e1 (uo b1 (us base).1) t1), hc _ _ _ _ (chan l1 e1 (uo b1 (us base).2.1) t1), hc _ _ _ _ (chan l1 e1 (uo b1 (us base).2.2) t1),
    hc _ _ _ _ (chan l2 e2 (uo b2 (us base).1) t2), hc _ _ _ _ (chan l2 e2 (uo b2 (us base).2.1) t2), hc _ _ _ _ (chan l2 e2 (uo b2 (us base).2.2) t2)]
  obtain ⟨w, q1⟩ := f1 (base + 32 * m) (256 * (e0 + e1 + e2 + A)) (8 * (A - B)) 13 j1 j2 j3 (by decide)
  obtain ⟨w', q2⟩ := f2 (base + 32 * m) (256 * (e0 + e1 + e2 + A)) (8 * (A - B)) 13 j1 j2 j3 (by decide)
  rw [us_uo base m hm2] at q1 q2
  simp only at q1 q2
  have e8 : (2 : Nat) ^ 8 = 256 := by decide
  have z1 : X (256 * (e0 + e1 + e2 + A)) 13 = X (e0 + e1 + e2 + A) 5 := by
    rw [X_up (a := e0 + e1 + e2 + A) (i := 5) 8 j5 (by decide), e8, Nat.mul_comm]
  have z2 : X (256 * (e0 + e1 + e2 + A) + (256 * (e0 + e1 + e2 + A) - 32 * (8 * (A - B)))) (13 + 1) = X (2 * (e0 + e1 + e2) + A + B) 6 := by
    rw [X_up (a := 2 * (e0 + e1 + e2) + A + B) (i := 6) 8 j6 (by decide), e8, j4]
  rw [z1] at q1
  rw [z2] at q2
  have lt : ∀ d : Nat, 256 * (e0 + e1 + e2 + A) - d < 2 ^ 20 := fun d => Nat.lt_of_le_of_lt (Nat.sub_le _ _) (Nat.lt_of_le_of_lt j3 (by decide))
  have x1 := lt (8 * (A - B) * uo m (us base).1)
  have x2 := lt (8 * (A - B) * uo m (us base).2.1)
  have x3 := lt (8 * (A - B) * uo m (us base).2.2)
  rw [← s1] at q1 q2 x1
  rw [← s2] at q1 q2 x2
  rw [← s3] at q1 q2 x3
  exact mixed_ok G Φ own a1 a2 gr gsum g1 g2 _ _ _ _ _ _ _ _ _ x1 x2 x3 _ _ _ _ _ _ q1 q2
end
end Mine
set_option Elab.async false
set_option maxRecDepth 100000
set_option maxHeartbeats 4000000
namespace Mine
open PySem PySem.Calls PyProof.Rows PySem.W PySem.Spec PySem.Challenge
section
variable (G : Rho) (Φ : Addr → List D → Option D) (own : Str → Bool)
theorem round_ok (aH aJ aM aD : Addr) (gH : G (Str.ofString "hsv_to_rgb") = some (.val (.ref aH))) (gJ : G (Str.ofString "_law_joined") = some (.val (.ref aJ))) (gM : G (Str.ofString "_law_mixed") = some (.val (.ref aM))) (gD : G (Str.ofString "_law_due") = some (.val (.ref aD))) (gsum : G (Str.ofString "sum") = some (.val (.builtin "sum")))
    (K K0 : List Nat) (bit hk l0 l1 J : Nat → Nat) (base s : Nat) (st : D) (σ : Sg) (ρ : Rho) (I : RInv K K0 bit hk l0 l1 base st σ ρ)
    (hnd : K.Nodup) (hlen : K.length ≤ 100) (hK0 : ∀ q ∈ K, q ∈ K0) (h9 : ∀ q ∈ K, q + 8 ∈ K → q + 9 ∈ K) (hb : base < 64) (hbit : ∀ q ∈ K, bit q < 2)
    (hh : ∀ q ∈ K, hk q < 2 ^ 20 ∧ us (hk q) = us (base + 32 * bit q)) (hl : ∀ q ∈ K0, (3 ≤ l0 q ∧ l0 q ≤ 5) ∧ (l1 q = 0 ∨ l1 q = l0 q)) (hl8 : ∀ q ∈ K0, l0 q + l1 q ≤ 8)
    (fH : ∀ k S V : Nat, k < 2 ^ 20 → (1 ≤ S ∧ S ≤ 4) → V ≤ 16 → Φ aH [.flt (X k 6), .flt (X S 2), .flt (X V 4)] = some (.tup [.flt (col V S (us k).1), .flt (col V S (us k).2.1), .flt (col V S (us k).2.2)]))
    (fJ : ∀ q ∈ K, q + 8 ∈ K → Φ aJ [st, .int ((q / 8 : Nat) : Int), .int ((q % 8 : Nat) : Int), .int (s : Int)] = some (.lst [.int (J q : Nat)])) (hJ : ∀ q ∈ K, q + 8 ∈ K → J q = maj (bit q) (bit (q + 8)) (bit (q + 9)))
    (fM : ∀ base b0 b1 b2 l0 l1 l2 e0 e1 e2 k0 k1 k2 : Nat, b0 < 2 → b1 < 2 → b2 < 2 → (3 ≤ l0 ∧ l0 ≤ 5) → (3 ≤ l1 ∧ l1 ≤ 5) → (3 ≤ l2 ∧ l2 ≤ 5) → (e0 = 0 ∨ e0 = l0) → (e1 = 0 ∨ e1 = l1) → (e2 = 0 ∨ e2 = l2) →
      us k0 = us (base + 32 * b0) → us k1 = us (base + 32 * b1) → us k2 = us (base + 32 * b2) → Φ aM [.lst [paintD k0 l0 e0, paintD k1 l1 e1, paintD k2 l2 e2]] = some (dueV base (maj b0 b1 b2) b0 b1 b2 l0 l1 l2 e0 e1 e2))
    (fD : ∀ (q m b0 b1 b2 l0 l1 l2 k0 k1 k2 base : Nat), l0 + l1 + l2 ≤ 1000 → k0 + k1 + k2 ≤ 1000 → base + 32 * m ≤ 1000 → ∀ held looks : D,
      idxD held (.int (q : Int)) = some (.lst [.int (b0 : Int)]) → idxD held (.int ((q + 8 : Nat) : Int)) = some (.lst [.int (b1 : Int)]) → idxD held (.int ((q + 9 : Nat) : Int)) = some (.lst [.int (b2 : Int)]) →
      idxD looks (.int (q : Int)) = some (.tup [.int (l0 : Int), .int (k0 : Int)]) → idxD looks (.int ((q + 8 : Nat) : Int)) = some (.tup [.int (l1 : Int), .int (k1 : Int)]) → idxD looks (.int ((q + 9 : Nat) : Int)) = some (.tup [.int (l2 : Int), .int (k2 : Int)]) →
      Φ aD [.int (q : Int), .lst [.int (m : Int)], held, looks, .int (base : Int)] = some (dueV base m b0 b1 b2 l0 l1 l2 k0 k1 k2)) :
    Ends ((blD (stD G (ev G Φ 30) (lawNames.1.getD []) own 29) (lawFor.1.getD [])) [] (upd ρ (Str.ofString "size") (.int (s : Int)))) (RInv (K.filter fun q => K.contains (q + 8)) K0 J (fun q => (base + 32 * J q) % 64) l0 l1 base st) := by
  obtain ⟨rfl, i1, i2, i3, i4, i5, i6⟩ := I
  obtain ⟨K', hK'⟩ : ∃ K', K' = K.filter fun q => K.contains (q + 8) := ⟨_, rfl⟩
  have mK : ∀ q ∈ K', q ∈ K ∧ q + 8 ∈ K ∧ q + 9 ∈ K := fun q hq => by
    rw [hK', List.mem_filter, List.contains_iff_mem] at hq
    exact ⟨hq.1, hq.2, h9 q hq.1 hq.2⟩
  have nd' : K'.Nodup := by rw [hK']; exact hnd.filter _
  have len' : K'.length ≤ 100 := by rw [hK']; exact Nat.le_trans (List.length_filter_le _ _) hlen
  have capD : ∀ (l : List Nat) (v : Nat → D), l.length ≤ 100 → capL (l.map fun q : Nat => ((q : Int), v q)) = some (l.map fun q : Nat => ((q : Int), v q)) := fun l v h => capL_ok (by rw [List.length_map]; omega)
  have dci : ∀ (l : List Nat) (v : Nat → D), l.Nodup → (if ((l.map fun q : Nat => ((q : Int), v q)).map Prod.fst).Nodup then some (D.dci (l.map fun q : Nat => ((q : Int), v q))) else none) = some (kD l v) := fun l v h => if_pos (kD_nodup h v)
  have iv : ∀ i : Int, intV (.int i) = some i := fun _ => rfl
  have j0 : ∀ a b : D, idxD (.tup [a, b]) (.int 0) = some a := fun _ _ => rfl
  rw [← hK']
  simp -implicitDefEqProofs only [lawNames, lawFor, Option.getD_some, gH, gJ, gM, gD, gsum, i1, i2, i3, i4, i5, i6, kD_list, assign_dictC, localB_cell, comp_eq, compOk_eq, kindF, List.all_cons, List.all_nil, List.any_cons, List.any_nil, nodB, nameOk_local, nameOk_cell, nameOk_glob, nameOk_free, lookup_at, dbgB, freeB1, freeB2, closRho_cons, closRho_nil, freshT_name, freshT_tup, isTup_name, isTup_tup, tgB_name, tgB_tup, items_Name, items_List, items_Sub, items_Call, isTy_type, isTy_blt, isTy_ref, listD_lst, listD_lst', listD_dci, listD_str, gen_one, gen_two, testsD_nil, testsD_cons, ev_ListComp, ev_DictComp, keyD_eq, intV_int, ofs_beq, String.reduceBEq, Bool.not_false, Bool.not_true, Bool.and_true, Bool.true_and, Bool.and_self, Bool.or_false, Bool.false_or, Option.isNone_none, Option.isNone_some, fnD_eq, st_Try, st_While, st_Append, blD_cons, blD_nil, contD_next, contD_ret, retV, st_Assign, st_Return, st_If, assign_plain, assign_list, assign_comp, assign_tuple, plA1, plA2, plA3, plA4, plA5, plA6, plA7, plA8, plA9, plA10, bindS_nm, bindS_tuple, bindD_name, bindD_tup, bindD_lst, bindAll_nil, bindAll_cons, noneOwned_nil, noneOwned_cons, ev_Name, ev_Const, ev_BinOp, ev_USub, negD_int, cmpE_1, cmpE_2, ev_Compare, ev_BoolOp, boolE_or, boolE_and, boolV_bool, evsD_nil, evsD_cons, ev_Tuple, ev_List, ev_Sub, ev_Slice, plI1, plI2, plI3, plI4, plI5, plI6, plS1, plS2, plT1, plT2, plT3, pb_name, pb_const, pb_sub, pb_meth, ev_Call, callD_ref, callD_blt, callD_type, ev_Meth, meth_replace, meth_plain, tst_Compare, tst_BoolOp, tst_Not, tst_Call, tst_Sub, tst1_Compare, tst0_Compare, tst1_Call, tst0_Call, tst1_Sub, allD_and, allD_or, allD_and0, allD_or0, nameD_cons, kindD, storable_cons, upd_at, argsR_cons, argsR_nil, vis_nil, thawR_nil, thawS_nil, drp_nil, constD, vis_one, drp_one, thawR_one, thawS_one, noneOwned_one, noneOwned_one0, append_one, Ends_next, Option.bind_some, Option.bind_none, Option.bind_assoc, String.reduceEq, String.reduceNe, ne_eq, not_false_eq_true, not_true_eq_false, List.length_cons, List.length_nil, List.map_cons, List.map_nil, Nat.reduceAdd, Nat.reduceLeDiff, Nat.reduceLT, Nat.reduceBEq, if_true, if_false, reduceIte, Bool.false_eq_true, BEq.rfl, beq_self_eq_true, reduceCtorEq, and_self, and_true, true_and, ite_self]
  refine mapE (fun q => paintD (hk q) (l0 q) (l1 q)) (fun q hq => ?_) ?_
  · have h := hl q (hK0 q hq)
    have h8 := hl8 q (hK0 q hq)
    have a1 := kD_get (fun q => D.flt (X (hk q) 6)) hq
    have a2 := kD_get (fun q => D.tup [.int (l0 q : Nat), .int (l1 q : Nat)]) (hK0 q hq)
    have a3 := sumT2 (l0 q) (l1 q)
    have a4 : binD .Div (.int (l0 q : Nat)) (.int ((l0 q + l1 q : Nat) : Int)) = some (.flt (X (SN (l1 q)) 2)) := by
      refine bD_idiv (by omega) (by omega) (by unfold SN; split <;> decide) (by decide) ?_
      unfold SN
      rcases h.2 with e | e
      · rw [e, if_pos rfl]; omega
      · rw [e, if_neg (by omega)]; omega
    have a5 : binD .Div (.int ((l0 q + l1 q : Nat) : Int)) (.int 8) = some (.flt (X (2 * (l0 q + l1 q)) 4)) := bD_idiv (b := 8) (by omega) (by decide) (by omega) (by decide) (by omega)
    have a6 := fH (hk q) (SN (l1 q)) (2 * (l0 q + l1 q)) (hh q hq).1 (by unfold SN; split <;> decide) (by omega)
    simp only [iv, a1, a2, j0, a3, a4, a5, a6, Option.bind_some]
    rfl
  rw [capD K _ hlen, Option.bind_some, dci K _ hnd, Option.bind_some]
  refine filtI (fun q => K.contains (q + 8)) (fun q hq => ?_) ?_
  · have a1 : binD .Add (.int (q : Int)) (.int 8) = some (.int ((q + 8 : Nat) : Int)) := bI_add q 8
    rw [a1, Option.bind_some, kD_in, Option.bind_some, pick]
  rw [← hK']
  have capI : capL (kI K') = some (kI K') := capL_ok (by unfold kI; rw [List.length_map]; omega)
  rw [capI, Option.bind_some]
  refine mapE (fun q => .lst [.int (J q : Nat)]) (fun q hq => ?_) ?_
  · have a1 : binD .FloorDiv (.int (q : Int)) (.int 8) = some (.int ((q / 8 : Nat) : Int)) := bI_fdiv q 8 (by decide) (by decide)
    have a2 : binD .Mod (.int (q : Int)) (.int 8) = some (.int ((q % 8 : Nat) : Int)) := bI_mod q 8 (by decide)
    have a3 := fJ q (mK q hq).1 (mK q hq).2.1
    simp only [iv, a1, a2, a3, Option.bind_some]
  rw [capD K' _ len', Option.bind_some, dci K' _ nd', Option.bind_some]
  refine mapE (fun q => dueV base (J q) (bit q) (bit (q + 8)) (bit (q + 9)) (l0 q) (l0 (q + 8)) (l0 (q + 9)) (l1 q) (l1 (q + 8)) (l1 (q + 9))) (fun q hq => ?_) ?_
  · obtain ⟨m1, m2, m3⟩ := mK q hq
    have b1 := kD_get (fun q => paintD (hk q) (l0 q) (l1 q)) m1
    have b2 := kD_get (fun q => paintD (hk q) (l0 q) (l1 q)) m2
    have b3 := kD_get (fun q => paintD (hk q) (l0 q) (l1 q)) m3
    have a1 : binD .Add (.int (q : Int)) (.int 8) = some (.int ((q + 8 : Nat) : Int)) := bI_add q 8
    have a2 : binD .Add (.int (q : Int)) (.int 9) = some (.int ((q + 9 : Nat) : Int)) := bI_add q 9
    have f := fM base (bit q) (bit (q + 8)) (bit (q + 9)) (l0 q) (l0 (q + 8)) (l0 (q + 9)) (l1 q) (l1 (q + 8)) (l1 (q + 9)) (hk q) (hk (q + 8)) (hk (q + 9)) (hbit _ m1) (hbit _ m2) (hbit _ m3) (hl _ (hK0 _ m1)).1 (hl _ (hK0 _ m2)).1 (hl _ (hK0 _ m3)).1
      (hl _ (hK0 _ m1)).2 (hl _ (hK0 _ m2)).2 (hl _ (hK0 _ m3)).2 (hh _ m1).2 (hh _ m2).2 (hh _ m3).2
    rw [← hJ q m1 m2] at f
    simp only [iv, a1, a2, b1, b2, b3, f, Option.bind_some]
  rw [capD K' _ len', Option.bind_some, dci K' _ nd', Option.bind_some]
  refine mapE (fun q => dueV base (J q) (bit q) (bit (q + 8)) (bit (q + 9)) (l0 q) (l0 (q + 8)) (l0 (q + 9)) (l1 q) (l1 (q + 8)) (l1 (q + 9))) (fun q hq => ?_) ?_
  · obtain ⟨m1, m2, m3⟩ := mK q hq
    have z1 := (hl _ (hK0 _ m1))
    have z2 := (hl _ (hK0 _ m2))
    have z3 := (hl _ (hK0 _ m3))
    have zj : J q < 2 := by rw [hJ q m1 m2]; exact maj_lt _ _ _
    have b1 := kD_get (fun q => D.lst [.int (J q : Nat)]) hq
    have f := fD q (J q) (bit q) (bit (q + 8)) (bit (q + 9)) (l0 q) (l0 (q + 8)) (l0 (q + 9)) (l1 q) (l1 (q + 8)) (l1 (q + 9)) base (by omega) (by omega) (by omega) (kD K fun q => D.lst [.int (bit q : Nat)]) (kD K0 fun q => D.tup [.int (l0 q : Nat), .int (l1 q : Nat)])
      (kD_get (fun q => D.lst [.int (bit q : Nat)]) m1) (kD_get (fun q => D.lst [.int (bit q : Nat)]) m2) (kD_get (fun q => D.lst [.int (bit q : Nat)]) m3)
      (kD_get (fun q => D.tup [.int (l0 q : Nat), .int (l1 q : Nat)]) (hK0 _ m1)) (kD_get (fun q => D.tup [.int (l0 q : Nat), .int (l1 q : Nat)]) (hK0 _ m2)) (kD_get (fun q => D.tup [.int (l0 q : Nat), .int (l1 q : Nat)]) (hK0 _ m3))
    simp only [iv, b1, f, Option.bind_some]
  rw [capD K' _ len', Option.bind_some, dci K' _ nd', Option.bind_some]
  have same := kD_same (l := K') (fun q => dueV base (J q) (bit q) (bit (q + 8)) (bit (q + 9)) (l0 q) (l0 (q + 8)) (l0 (q + 9)) (l1 q) (l1 (q + 8)) (l1 (q + 9))) fun q hq => by
    obtain ⟨m1, m2, m3⟩ := mK q hq
    have z1 := (hl _ (hK0 _ m1))
    have z2 := (hl _ (hK0 _ m2))
    have z3 := (hl _ (hK0 _ m3))
    exact due_same _ _ _ _ _ _ _ _ _ _ _ (by omega) (by omega)
  rw [same, Option.bind_some]
  simp -implicitDefEqProofs only [i1, i2, i3, i4, i5, i6, kD_list, listD_lst, assign_dictC, localB_cell, comp_eq, compOk_eq, kindF, List.all_cons, List.all_nil, List.any_cons, List.any_nil, nodB, nameOk_local, nameOk_cell, nameOk_glob, nameOk_free, lookup_at, dbgB, freeB1, freeB2, closRho_cons, closRho_nil, freshT_name, freshT_tup, isTup_name, isTup_tup, tgB_name, tgB_tup, items_Name, items_List, items_Sub, items_Call, isTy_type, isTy_blt, isTy_ref, listD_lst, listD_lst', listD_dci, listD_str, gen_one, gen_two, testsD_nil, testsD_cons, ev_ListComp, ev_DictComp, keyD_eq, intV_int, ofs_beq, String.reduceBEq, Bool.not_false, Bool.not_true, Bool.and_true, Bool.true_and, Bool.and_self, Bool.or_false, Bool.false_or, Option.isNone_none, Option.isNone_some, fnD_eq, st_Try, st_While, st_Append, blD_cons, blD_nil, contD_next, contD_ret, retV, st_Assign, st_Return, st_If, assign_plain, assign_list, assign_comp, assign_tuple, plA1, plA2, plA3, plA4, plA5, plA6, plA7, plA8, plA9, plA10, bindS_nm, bindS_tuple, bindD_name, bindD_tup, bindD_lst, bindAll_nil, bindAll_cons, noneOwned_nil, noneOwned_cons, ev_Name, ev_Const, ev_BinOp, ev_USub, negD_int, cmpE_1, cmpE_2, ev_Compare, ev_BoolOp, boolE_or, boolE_and, boolV_bool, evsD_nil, evsD_cons, ev_Tuple, ev_List, ev_Sub, ev_Slice, plI1, plI2, plI3, plI4, plI5, plI6, plS1, plS2, plT1, plT2, plT3, pb_name, pb_const, pb_sub, pb_meth, ev_Call, callD_ref, callD_blt, callD_type, ev_Meth, meth_replace, meth_plain, tst_Compare, tst_BoolOp, tst_Not, tst_Call, tst_Sub, tst1_Compare, tst0_Compare, tst1_Call, tst0_Call, tst1_Sub, allD_and, allD_or, allD_and0, allD_or0, nameD_cons, kindD, storable_cons, upd_at, argsR_cons, argsR_nil, vis_nil, thawR_nil, thawS_nil, drp_nil, constD, vis_one, drp_one, thawR_one, thawS_one, noneOwned_one, noneOwned_one0, append_one, Ends_next, Option.bind_some, Option.bind_none, Option.bind_assoc, String.reduceEq, String.reduceNe, ne_eq, not_false_eq_true, not_true_eq_false, List.length_cons, List.length_nil, List.map_cons, List.map_nil, Nat.reduceAdd, Nat.reduceLeDiff, Nat.reduceLT, Nat.reduceBEq, if_true, if_false, reduceIte, Bool.false_eq_true, BEq.rfl, beq_self_eq_true, reduceCtorEq, and_self, and_true, true_and, ite_self]
  refine mapE (fun q => .flt (X ((base + 32 * J q) % 64) 6)) (fun q hq => ?_) ?_
  · have b1 := kD_get (fun q => dueV base (J q) (bit q) (bit (q + 8)) (bit (q + 9)) (l0 q) (l0 (q + 8)) (l0 (q + 9)) (l1 q) (l1 (q + 8)) (l1 (q + 9))) hq
    have b2 : ∀ base m b0 b1 b2 l0 l1 l2 k0 k1 k2 : Nat, idxD (dueV base m b0 b1 b2 l0 l1 l2 k0 k1 k2) (.int 0) = some (.lst [.flt (X ((base + 32 * m) % 64) 6)]) := fun _ _ _ _ _ _ _ _ _ _ _ => rfl
    have b3 : ∀ a : D, idxD (.lst [a]) (.int 0) = some a := fun _ => rfl
    simp only [iv, b1, b2, b3, Option.bind_some]
  rw [capD K' _ len', Option.bind_some, dci K' _ nd', Option.bind_some]
  simp -implicitDefEqProofs only [i1, i2, i3, i4, i5, i6, fnD_eq, st_Try, st_While, st_Append, blD_cons, blD_nil, contD_next, contD_ret, retV, st_Assign, st_Return, st_If, assign_plain, assign_list, assign_comp, assign_tuple, plA1, plA2, plA3, plA4, plA5, plA6, plA7, plA8, plA9, plA10, bindS_nm, bindS_tuple, bindD_name, bindD_tup, bindD_lst, bindAll_nil, bindAll_cons, noneOwned_nil, noneOwned_cons, ev_Name, ev_Const, ev_BinOp, ev_USub, negD_int, cmpE_1, cmpE_2, ev_Compare, ev_BoolOp, boolE_or, boolE_and, boolV_bool, evsD_nil, evsD_cons, ev_Tuple, ev_List, ev_Sub, ev_Slice, plI1, plI2, plI3, plI4, plI5, plI6, plS1, plS2, plT1, plT2, plT3, pb_name, pb_const, pb_sub, pb_meth, ev_Call, callD_ref, callD_blt, callD_type, ev_Meth, meth_replace, meth_plain, tst_Compare, tst_BoolOp, tst_Not, tst_Call, tst_Sub, tst1_Compare, tst0_Compare, tst1_Call, tst0_Call, tst1_Sub, allD_and, allD_or, allD_and0, allD_or0, nameD_cons, kindD, storable_cons, upd_at, argsR_cons, argsR_nil, vis_nil, thawR_nil, thawS_nil, drp_nil, constD, vis_one, drp_one, thawR_one, thawS_one, noneOwned_one, noneOwned_one0, append_one, Ends_next, Option.bind_some, Option.bind_none, Option.bind_assoc, String.reduceEq, String.reduceNe, ne_eq, not_false_eq_true, not_true_eq_false, List.length_cons, List.length_nil, List.map_cons, List.map_nil, Nat.reduceAdd, Nat.reduceLeDiff, Nat.reduceLT, Nat.reduceBEq, if_true, if_false, reduceIte, Bool.false_eq_true, BEq.rfl, beq_self_eq_true, reduceCtorEq, and_self, and_true, true_and, ite_self]
  refine ⟨rfl, ?_, ?_, ?_, ?_, ?_, ?_⟩
  all_goals simp -implicitDefEqProofs only [i1, i2, i3, i4, i5, i6, fnD_eq, st_Try, st_While, st_Append, blD_cons, blD_nil, contD_next, contD_ret, retV, st_Assign, st_Return, st_If, assign_plain, assign_list, assign_comp, assign_tuple, plA1, plA2, plA3, plA4, plA5, plA6, plA7, plA8, plA9, plA10, bindS_nm, bindS_tuple, bindD_name, bindD_tup, bindD_lst, bindAll_nil, bindAll_cons, noneOwned_nil, noneOwned_cons, ev_Name, ev_Const, ev_BinOp, ev_USub, negD_int, cmpE_1, cmpE_2, ev_Compare, ev_BoolOp, boolE_or, boolE_and, boolV_bool, evsD_nil, evsD_cons, ev_Tuple, ev_List, ev_Sub, ev_Slice, plI1, plI2, plI3, plI4, plI5, plI6, plS1, plS2, plT1, plT2, plT3, pb_name, pb_const, pb_sub, pb_meth, ev_Call, callD_ref, callD_blt, callD_type, ev_Meth, meth_replace, meth_plain, tst_Compare, tst_BoolOp, tst_Not, tst_Call, tst_Sub, tst1_Compare, tst0_Compare, tst1_Call, tst0_Call, tst1_Sub, allD_and, allD_or, allD_and0, allD_or0, nameD_cons, kindD, storable_cons, upd_at, argsR_cons, argsR_nil, vis_nil, thawR_nil, thawS_nil, drp_nil, constD, vis_one, drp_one, thawR_one, thawS_one, noneOwned_one, noneOwned_one0, append_one, Ends_next, Option.bind_some, Option.bind_none, Option.bind_assoc, String.reduceEq, String.reduceNe, ne_eq, not_false_eq_true, not_true_eq_false, List.length_cons, List.length_nil, List.map_cons, List.map_nil, Nat.reduceAdd, Nat.reduceLeDiff, Nat.reduceLT, Nat.reduceBEq, if_true, if_false, reduceIte, Bool.false_eq_true, BEq.rfl, beq_self_eq_true, reduceCtorEq, and_self, and_true, true_and, ite_self]
end
end Mine
set_option Elab.async false
set_option maxRecDepth 100000
set_option maxHeartbeats 4000000
namespace Mine
open PySem PySem.Calls PyProof.Rows PySem.W PySem.Spec PySem.Challenge
def K0 : List Nat := [0, 8, 9, 16, 17, 18, 24, 25, 26, 27]
def K1 : List Nat := [0, 8, 9, 16, 17, 18]
def K2 : List Nat := [0, 8, 9]
def lk0 (c : Nat) : Nat := [3, 4, 5, 3, 4].getD (c / 100000000 % 5) 0
def lk1 (c : Nat) : Nat := [0, 0, 0, 3, 4].getD (c / 100000000 % 5) 0
def ixQ (q : Nat) : Nat := q / 8 * (q / 8 + 1) / 2 + q % 8
theorem lk_ok (c : Nat) : (3 ≤ lk0 c ∧ lk0 c ≤ 5) ∧ (lk1 c = 0 ∨ lk1 c = lk0 c) ∧ lk0 c + lk1 c ≤ 8 := by
  unfold lk0 lk1
  have h : c / 100000000 % 5 < 5 := Nat.mod_lt _ (by decide)
  generalize c / 100000000 % 5 = i at *
  have : i = 0 ∨ i = 1 ∨ i = 2 ∨ i = 3 ∨ i = 4 := by omega
  rcases this with rfl | rfl | rfl | rfl | rfl <;> decide
theorem lk_idx (c : Nat) : idxD (.lst [.tup [.int 3, .int 0], .tup [.int 4, .int 0], .tup [.int 5, .int 0], .tup [.int 3, .int 3], .tup [.int 4, .int 4]]) (.int ((c / 100000000 % 5 : Nat) : Int)) = some (.tup [.int (lk0 c : Nat), .int (lk1 c : Nat)]) := by
  unfold lk0 lk1
  have h : c / 100000000 % 5 < 5 := Nat.mod_lt _ (by decide)
  generalize c / 100000000 % 5 = i at *
  have : i = 0 ∨ i = 1 ∨ i = 2 ∨ i = 3 ∨ i = 4 := by omega
  rcases this with rfl | rfl | rfl | rfl | rfl <;> rfl
theorem st_For2 {G : Rho} {F : Ev} {sc : Names} {own : Str → Bool} {m : Nat} {σ : Sg} {ρ : Rho} (t it : Expr) (b : List Stmt) (p : Pos) (h : tgB t = true) : stD G F sc own (m + 1) σ ρ (.For t it b [] p) = (itemsD G F sc (vis σ ρ) (isTup t) it).bind fun xs => forD sc t (blD (stD G F sc own m) b) xs σ ρ := st_For t it b none p h
theorem for_ends {sc : Names} {x : Str} {p : Pos} {body : Sg → Rho → Option Fl} {d : D} {r : List D} {ρ : Rho} {Q P : Sg → Rho → Prop} (hs : storable sc x = true) (hb : Ends (body [] (upd ρ x d)) Q) (hr : ∀ σ' ρ', Q σ' ρ' → Ends (forD sc (.Name x p) body r σ' ρ') P) : Ends (forD sc (.Name x p) body (d :: r) [] ρ) P := by
  rw [forD_cons, bindS_nm, if_pos hs, Option.bind_some]
  exact Ends.bind hb fun σ ρ h => hr σ ρ h
theorem dci_at (k i : Int) (v : D) (r : List (Int × D)) : idxD (.dci ((k, v) :: r)) (.int i) = if k = i then some v else idxD (.dci r) (.int i) := by
  show dget ((k, v) :: r) i = if k = i then some v else dget r i
  unfold dget
  rw [List.find?_cons]
  by_cases h : k = i
  · simp [h]
  · simp [h]
theorem ten (L : List Int) (h : 10 ≤ L.length) : ∃ e0 e1 e2 e3 e4 e5 e6 e7 e8 e9 : Int, ∃ rest, L = e0 :: e1 :: e2 :: e3 :: e4 :: e5 :: e6 :: e7 :: e8 :: e9 :: rest := by
  obtain ⟨n, rfl⟩ | h' : (∃ n : Nat, n = L.length) ∨ False := .inl ⟨_, rfl⟩
  · match L, h with
    | e0 :: e1 :: e2 :: e3 :: e4 :: e5 :: e6 :: e7 :: e8 :: e9 :: rest, _ => exact ⟨e0, e1, e2, e3, e4, e5, e6, e7, e8, e9, rest, rfl⟩
  · exact h'.elim
def script10 (ns : List Int) : List Int := ns.take 10 ++ List.replicate 10 0
section
variable (G : Rho) (Φ : Addr → List D → Option D) (own : Str → Bool)
theorem law_plain (aH aJ aM aD aL x0 x1 x2 x3 x4 : Addr) (own1 : own (Str.ofString "starts") = false)
    (gzip : G (Str.ofString "zip") = some (.val (.type "zip"))) (gr : G (Str.ofString "range") = some (.val (.type "range"))) (gsum : G (Str.ofString "sum") = some (.val (.builtin "sum")))
    (gL : G (Str.ofString "_law_length") = some (.val (.ref aL))) (gx0 : G (Str.ofString "_escape_cdata") = some (.val (.ref x0))) (gx1 : G (Str.ofString "_escape_attrib") = some (.val (.ref x1))) (gx2 : G (Str.ofString "_escape_attrib_html") = some (.val (.ref x2))) (gx3 : G (Str.ofString "_escape_cdata_c14n") = some (.val (.ref x3))) (gx4 : G (Str.ofString "_escape_attrib_c14n") = some (.val (.ref x4)))
    (gH : G (Str.ofString "hsv_to_rgb") = some (.val (.ref aH))) (gJ : G (Str.ofString "_law_joined") = some (.val (.ref aJ))) (gM : G (Str.ofString "_law_mixed") = some (.val (.ref aM))) (gD : G (Str.ofString "_law_due") = some (.val (.ref aD)))
    (fL : ∀ (w n : Nat), w < 5 → ∀ aE, (w = 0 ∧ aE = x0 ∨ w = 1 ∧ aE = x1 ∨ w = 2 ∧ aE = x2 ∨ w = 3 ∧ aE = x3 ∨ w = 4 ∧ aE = x4) → Φ aL [.int (n : Int), .int (w : Int), .val (.ref aE)] = some (.int (lenN w n : Nat)))
    (fH : ∀ k S V : Nat, k < 2 ^ 20 → (1 ≤ S ∧ S ≤ 4) → V ≤ 16 → Φ aH [.flt (X k 6), .flt (X S 2), .flt (X V 4)] = some (.tup [.flt (col V S (us k).1), .flt (col V S (us k).2.1), .flt (col V S (us k).2.2)]))
    (fJ : ∀ (r p s : Nat), s ≤ 100 → ∀ (st : D) (free : Cells), free.length ≤ 100 → free.map Prod.fst = spotsN r p s → (∀ q ∈ free, idxD st (.int (q.1 : Int)) = some (.int (q.2 : Int))) → ∀ ks, playN r p s free = some ks → Φ aJ [st, .int (r : Int), .int (p : Int), .int (s : Int)] = some (.lst (ks.map fun k : Nat => .int (k : Int))))
    (fM : ∀ base b0 b1 b2 l0 l1 l2 e0 e1 e2 k0 k1 k2 : Nat, b0 < 2 → b1 < 2 → b2 < 2 → (3 ≤ l0 ∧ l0 ≤ 5) → (3 ≤ l1 ∧ l1 ≤ 5) → (3 ≤ l2 ∧ l2 ≤ 5) → (e0 = 0 ∨ e0 = l0) → (e1 = 0 ∨ e1 = l1) → (e2 = 0 ∨ e2 = l2) →
      us k0 = us (base + 32 * b0) → us k1 = us (base + 32 * b1) → us k2 = us (base + 32 * b2) → Φ aM [.lst [paintD k0 l0 e0, paintD k1 l1 e1, paintD k2 l2 e2]] = some (dueV base (maj b0 b1 b2) b0 b1 b2 l0 l1 l2 e0 e1 e2))
    (fD : ∀ (q m b0 b1 b2 l0 l1 l2 k0 k1 k2 base : Nat), l0 + l1 + l2 ≤ 1000 → k0 + k1 + k2 ≤ 1000 → base + 32 * m ≤ 1000 → ∀ held looks : D,
      idxD held (.int (q : Int)) = some (.lst [.int (b0 : Int)]) → idxD held (.int ((q + 8 : Nat) : Int)) = some (.lst [.int (b1 : Int)]) → idxD held (.int ((q + 9 : Nat) : Int)) = some (.lst [.int (b2 : Int)]) →
      idxD looks (.int (q : Int)) = some (.tup [.int (l0 : Int), .int (k0 : Int)]) → idxD looks (.int ((q + 8 : Nat) : Int)) = some (.tup [.int (l1 : Int), .int (k1 : Int)]) → idxD looks (.int ((q + 9 : Nat) : Int)) = some (.tup [.int (l2 : Int), .int (k2 : Int)]) →
      Φ aD [.int (q : Int), .lst [.int (m : Int)], held, looks, .int (base : Int)] = some (dueV base m b0 b1 b2 l0 l1 l2 k0 k1 k2))
    (ns : List Int) (hn : ns.length ≤ 63) : runR r_law.1 G Φ own [.lst (ns.map .int)] = some (.bool true) := by
  obtain ⟨e0, e1, e2, e3, e4, e5, e6, e7, e8, e9, rest, hL⟩ := ten (script10 ns) (by unfold script10; rw [List.length_append, List.length_replicate]; omega)
  have sl : sliceD (.lst (ns.map .int)) none (some 10) = some (.lst ((ns.take 10).map .int)) := by
    show (if (ns.map D.int).length ≤ sizeLine then some (D.lst ((ns.map D.int).take 10)) else none) = _
    rw [List.length_map, if_pos, List.map_take]
    have : sizeLine = 2 ^ 24 := rfl
    omega
  have rp : binD .Mult (.lst [.int 0]) (.int 10) = some (.lst ((List.replicate 10 (0 : Int)).map .int)) := rfl
  have ad : binD .Add (.lst ((ns.take 10).map .int)) (.lst ((List.replicate 10 (0 : Int)).map .int)) = some (.lst (.int e0 :: .int e1 :: .int e2 :: .int e3 :: .int e4 :: .int e5 :: .int e6 :: .int e7 :: .int e8 :: .int e9 :: rest.map .int)) := by
    show (if ((ns.take 10).map D.int).length + ((List.replicate 10 (0 : Int)).map D.int).length ≤ 1048576 then some (D.lst (((ns.take 10).map D.int) ++ ((List.replicate 10 (0 : Int)).map D.int))) else none) = _
    rw [if_pos (by simp only [List.length_map, List.length_replicate, List.length_take]; omega), ← List.map_append]
    have e : ns.take 10 ++ List.replicate 10 0 = script10 ns := rfl
    rw [e, hL]; rfl
  clear hL
  have zp : zipD [.lst [.int 30005, .int 300830000, .int 400120002, .int 100170020, .int 200320022, .int 250081, .int 300240035, .int 400780133, .int 100100776, .int 201280042], .lst (.int e0 :: .int e1 :: .int e2 :: .int e3 :: .int e4 :: .int e5 :: .int e6 :: .int e7 :: .int e8 :: .int e9 :: rest.map .int)] = some [.tup [.int 30005, .int e0], .tup [.int 300830000, .int e1], .tup [.int 400120002, .int e2], .tup [.int 100170020, .int e3], .tup [.int 200320022, .int e4], .tup [.int 250081, .int e5], .tup [.int 300240035, .int e6], .tup [.int 400780133, .int e7], .tup [.int 100100776, .int e8], .tup [.int 201280042, .int e9]] := rfl
  have p9 : binD .Pow (.int 10) (.int 9) = some (.int 1000000000) := rfl
  have p8 : binD .Pow (.int 10) (.int 8) = some (.int 100000000) := rfl
  have z1 : (0 : Int) ≤ 10 := by decide
  have z2 : (10 : Int).toNat = 10 := rfl
  have addZ : ∀ a b : Int, binD .Add (.int a) (.int b) = some (.int (a + b)) := fun _ _ => rfl
  have mul8 : ∀ b : Int, binD .Mult (.int 8) (.int b) = some (.int (8 * b)) := fun _ => rfl
  have md : ∀ x : Int, ∃ c : Nat, binD .Mod (.int x) (.int 1000000000) = some (.int (c : Int)) := fun x => ⟨(x.fmod 1000000000).toNat, by
    show (if (1000000000 : Int) = 0 then none else some (D.int (x.fmod 1000000000))) = _
    rw [if_neg (by decide), Int.toNat_of_nonneg (Int.fmod_nonneg_of_pos _ (by decide))]⟩
  obtain ⟨c0, md0⟩ := md (30005 + e0)
  obtain ⟨c1, md1⟩ := md (300830000 + e1)
  obtain ⟨c2, md2⟩ := md (400120002 + e2)
  obtain ⟨c3, md3⟩ := md (100170020 + e3)
  obtain ⟨c4, md4⟩ := md (200320022 + e4)
  obtain ⟨c5, md5⟩ := md (250081 + e5)
  obtain ⟨c6, md6⟩ := md (300240035 + e6)
  obtain ⟨c7, md7⟩ := md (400780133 + e7)
  obtain ⟨c8, md8⟩ := md (100100776 + e8)
  obtain ⟨c9, md9⟩ := md (201280042 + e9)
  clear md
  obtain ⟨T, sT⟩ : ∃ T : Nat, fnD (.builtin "sum") [.lst [.int (c0 : Int), .int (c1 : Int), .int (c2 : Int), .int (c3 : Int), .int (c4 : Int), .int (c5 : Int), .int (c6 : Int), .int (c7 : Int), .int (c8 : Int), .int (c9 : Int)]] = some (.int (T : Int)) := ⟨c0 + c1 + c2 + c3 + c4 + c5 + c6 + c7 + c8 + c9, by
    show some (D.int ([(c0 : Int), (c1 : Int), (c2 : Int), (c3 : Int), (c4 : Int), (c5 : Int), (c6 : Int), (c7 : Int), (c8 : Int), (c9 : Int)].sum)) = _
    congr 2
    simp only [List.sum_cons, List.sum_nil]
    omega⟩
  obtain ⟨w, hw⟩ : ∃ w, w = T % 35 / 7 := ⟨_, rfl⟩
  have hw5 : w < 5 := by omega
  obtain ⟨base, hb⟩ : ∃ b, b = T / 35 % 64 := ⟨_, rfl⟩
  have hb64 : base < 64 := by omega
  have t1 : binD .Mod (.int (T : Int)) (.int 35) = some (.int ((T % 35 : Nat) : Int)) := bI_mod T 35 (by decide)
  have t2 : binD .FloorDiv (.int ((T % 35 : Nat) : Int)) (.int 7) = some (.int (w : Int)) := by rw [hw]; exact bI_fdiv (T % 35) 7 (by decide) (by decide)
  have t3 : binD .FloorDiv (.int (T : Int)) (.int 35) = some (.int ((T / 35 : Nat) : Int)) := bI_fdiv T 35 (by decide) (by decide)
  have t4 : binD .Mod (.int ((T / 35 : Nat) : Int)) (.int 64) = some (.int (base : Int)) := by rw [hb]; exact bI_mod (T / 35) 64 (by decide)
  obtain ⟨aE, hE, hEw⟩ : ∃ aE, idxD (.lst [.val (.ref x0), .val (.ref x1), .val (.ref x2), .val (.ref x3), .val (.ref x4)]) (.int (w : Int)) = some (.val (.ref aE)) ∧ (w = 0 ∧ aE = x0 ∨ w = 1 ∧ aE = x1 ∨ w = 2 ∧ aE = x2 ∨ w = 3 ∧ aE = x3 ∨ w = 4 ∧ aE = x4) := by
    have : w = 0 ∨ w = 1 ∨ w = 2 ∨ w = 3 ∨ w = 4 := by omega
    rcases this with rfl | rfl | rfl | rfl | rfl
    · exact ⟨x0, rfl, .inl ⟨rfl, rfl⟩⟩
    · exact ⟨x1, rfl, .inr (.inl ⟨rfl, rfl⟩)⟩
    · exact ⟨x2, rfl, .inr (.inr (.inl ⟨rfl, rfl⟩))⟩
    · exact ⟨x3, rfl, .inr (.inr (.inr (.inl ⟨rfl, rfl⟩)))⟩
    · exact ⟨x4, rfl, .inr (.inr (.inr (.inr ⟨rfl, rfl⟩)))⟩
  have len : ∀ n : Nat, Φ aL [.int (n : Int), .int (w : Int), .val (.ref aE)] = some (.int (lenN w n : Nat)) := fun n => fL w n hw5 aE hEw
  have hle := fun n => lenN_le w n hw5
  clear fL hEw hw hb
  generalize hlf : lenN w = lf at *
  have neg1 : cmpD .In (.int (-1)) (.lst [.int (lf c0 : Nat), .int (lf c1 : Nat), .int (lf c2 : Nat), .int (lf c3 : Nat), .int (lf c4 : Nat), .int (lf c5 : Nat), .int (lf c6 : Nat), .int (lf c7 : Nat), .int (lf c8 : Nat), .int (lf c9 : Nat)]) = some false := by
    show some (decide ((-1 : Int) ∈ [((lf c0 : Nat) : Int), ((lf c1 : Nat) : Int), ((lf c2 : Nat) : Int), ((lf c3 : Nat) : Int), ((lf c4 : Nat) : Int), ((lf c5 : Nat) : Int), ((lf c6 : Nat) : Int), ((lf c7 : Nat) : Int), ((lf c8 : Nat) : Int), ((lf c9 : Nat) : Int)])) = _
    rfl
  have m2 : ∀ n : Nat, binD .Mod (.int (n : Int)) (.int 2) = some (.int ((n % 2 : Nat) : Int)) := fun n => bI_mod n 2 (by decide)
  have k1 : ∀ n : Nat, binD .FloorDiv (.int (n : Int)) (.int 100000000) = some (.int ((n / 100000000 : Nat) : Int)) := fun n => bI_fdiv n 100000000 (by decide) (by decide)
  have k2 : ∀ n : Nat, binD .Mod (.int ((n / 100000000 : Nat) : Int)) (.int 5) = some (.int ((n / 100000000 % 5 : Nat) : Int)) := fun n => bI_mod _ 5 (by decide)
  have mul32 : ∀ b : Int, binD .Mult (.int 32) (.int b) = some (.int (32 * b)) := fun _ => rfl
  have hue : ∀ n : Nat, binD .Div (.int ((base : Int) + 32 * ((lf n : Nat) : Int))) (.int 64) = some (.flt (X (base + 32 * lf n) 6)) := fun n => by
    have := hle n
    exact bD_idiv (a := base + 32 * lf n) (b := 64) (by omega) (by decide) (by omega) (by decide) rfl
  have cap10 : ∀ {α : Type} (a0 a1 a2 a3 a4 a5 a6 a7 a8 a9 : α), capL [a0, a1, a2, a3, a4, a5, a6, a7, a8, a9] = some [a0, a1, a2, a3, a4, a5, a6, a7, a8, a9] := fun _ _ _ _ _ _ _ _ _ _ => capL_ok (by simp)
  have nd : ([0, 8, 9, 16, 17, 18, 24, 25, 26, 27] : List Int).Nodup ↔ True := by simp
  have zip2 : ∀ a0 a1 a2 a3 a4 a5 a6 a7 a8 a9 b0 b1 b2 b3 b4 b5 b6 b7 b8 b9 : D, zipD [.lst [a0, a1, a2, a3, a4, a5, a6, a7, a8, a9], .lst [b0, b1, b2, b3, b4, b5, b6, b7, b8, b9]] = some [.tup [a0, b0], .tup [a1, b1], .tup [a2, b2], .tup [a3, b3], .tup [a4, b4], .tup [a5, b5], .tup [a6, b6], .tup [a7, b7], .tup [a8, b8], .tup [a9, b9]] := fun _ _ _ _ _ _ _ _ _ _ _ _ _ _ _ _ _ _ _ _ => rfl
  unfold runR
  simp -implicitDefEqProofs only [r_law, Option.bind_some, fnNamesOf, own1, gzip, gr, gsum, gL, gx0, gx1, gx2, gx3, gx4, sl, rp, ad, zp, p9, p8, z1, z2, partD_none, partD_int, addZ, mul8, md0, md1, md2, md3, md4, md5, md6, md7, md8, md9, sT, t1, t2, t3, t4, hE, len, neg1, range1, range2, range3, range4, Int.reduceMul, Int.reduceAdd, m2, k1, k2, mul32, hue, cap10, nd, zip2, lk_idx, dci_at, Int.reduceEq, range25, assign_dictC, localB_cell, forItems_cons, forItems_nil, List.append_nil, List.singleton_append, List.cons_append, List.nil_append, st_For2, comp_eq, compOk_eq, kindF, List.all_cons, List.all_nil, List.any_cons, List.any_nil, nodB, nameOk_local, nameOk_cell, nameOk_glob, nameOk_free, lookup_at, dbgB, freeB1, freeB2, closRho_cons, closRho_nil, freshT_name, freshT_tup, isTup_name, isTup_tup, tgB_name, tgB_tup, items_Name, items_List, items_Sub, items_Call, isTy_type, isTy_blt, isTy_ref, listD_lst, listD_lst', listD_dci, listD_str, gen_one, gen_two, testsD_nil, testsD_cons, ev_ListComp, ev_DictComp, keyD_eq, intV_int, ofs_beq, String.reduceBEq, Bool.not_false, Bool.not_true, Bool.and_true, Bool.true_and, Bool.and_self, Bool.or_false, Bool.false_or, Option.isNone_none, Option.isNone_some, fnD_eq, st_Try, st_While, st_Append, blD_cons, blD_nil, contD_next, contD_ret, retV, st_Assign, st_Return, st_If, assign_plain, assign_list, assign_comp, assign_tuple, plA1, plA2, plA3, plA4, plA5, plA6, plA7, plA8, plA9, plA10, bindS_nm, bindS_tuple, bindD_name, bindD_tup, bindD_lst, bindAll_nil, bindAll_cons, noneOwned_nil, noneOwned_cons, ev_Name, ev_Const, ev_BinOp, ev_USub, negD_int, cmpE_1, cmpE_2, ev_Compare, ev_BoolOp, boolE_or, boolE_and, boolV_bool, evsD_nil, evsD_cons, ev_Tuple, ev_List, ev_Sub, ev_Slice, plI1, plI2, plI3, plI4, plI5, plI6, plS1, plS2, plT1, plT2, plT3, pb_name, pb_const, pb_sub, pb_meth, ev_Call, callD_ref, callD_blt, callD_type, ev_Meth, meth_replace, meth_plain, tst_Compare, tst_BoolOp, tst_Not, tst_Call, tst_Sub, tst1_Compare, tst0_Compare, tst1_Call, tst0_Call, tst1_Sub, allD_and, allD_or, allD_and0, allD_or0, nameD_cons, kindD, storable_cons, upd_at, argsR_cons, argsR_nil, vis_nil, thawR_nil, thawS_nil, drp_nil, constD, vis_one, drp_one, thawR_one, thawS_one, noneOwned_one, noneOwned_one0, append_one, Ends_next, Option.bind_some, Option.bind_none, Option.bind_assoc, String.reduceEq, String.reduceNe, ne_eq, not_false_eq_true, not_true_eq_false, List.length_cons, List.length_nil, List.map_cons, List.map_nil, Nat.reduceAdd, Nat.reduceLeDiff, Nat.reduceLT, Nat.reduceBEq, if_true, if_false, reduceIte, Bool.false_eq_true, BEq.rfl, beq_self_eq_true, reduceCtorEq, and_self, and_true, true_and, ite_self]
  obtain ⟨cc, hcc⟩ : ∃ cc : Nat → Nat, cc = fun q => [c0, c1, c2, c3, c4, c5, c6, c7, c8, c9].getD (ixQ q) 0 := ⟨_, rfl⟩
  obtain ⟨bit0, hbit⟩ : ∃ b : Nat → Nat, b = fun q => lf (cc q) % 2 := ⟨_, rfl⟩
  have bit2 : ∀ q, bit0 q < 2 := fun q => by rw [hbit]; exact Nat.mod_lt _ (by decide)
  have st0g : ∀ q ∈ K0, idxD (kD K0 fun q => .int (bit0 q : Nat)) (.int (q : Int)) = some (.int (bit0 q : Nat)) := fun q hq => kD_get (fun q => D.int (bit0 q : Nat)) hq
  have lks : ∀ q ∈ K0, (3 ≤ lk0 (cc q) ∧ lk0 (cc q) ≤ 5) ∧ (lk1 (cc q) = 0 ∨ lk1 (cc q) = lk0 (cc q)) := fun q _ => ⟨(lk_ok _).1, (lk_ok _).2.1⟩
  have lks8 : ∀ q ∈ K0, lk0 (cc q) + lk1 (cc q) ≤ 8 := fun q _ => (lk_ok _).2.2
  have p2 : ∀ r p a b c : Nat, (r, p) ∈ ([(0, 0), (1, 0), (1, 1), (2, 0), (2, 1), (2, 2)] : List (Nat × Nat)) → a < 2 → b < 2 → c < 2 → playN r p 2 ((spotsN r p 2).zip [a, b, c]) = some [maj a b c] := fun r p a b c hm ha hb hc =>
    eq_of_beq (List.all_eq_true.mp (List.all_eq_true.mp play2 [a, b, c] (mem_bits [a, b, c] (by simp only [List.mem_cons, List.not_mem_nil, or_false]; rintro x (rfl | rfl | rfl) <;> assumption))) (r, p) hm)
  have p3 : ∀ r p a b c d e f : Nat, (r, p) ∈ ([(0, 0), (1, 0), (1, 1)] : List (Nat × Nat)) → a < 2 → b < 2 → c < 2 → d < 2 → e < 2 → f < 2 → playN r p 3 ((spotsN r p 3).zip [a, b, c, d, e, f]) = some [maj (maj a b c) (maj b d e) (maj c e f)] := fun r p a b c d e f hm ha hb hc hd he hf =>
    eq_of_beq (List.all_eq_true.mp (List.all_eq_true.mp play3 [a, b, c, d, e, f] (mem_bits [a, b, c, d, e, f] (by simp only [List.mem_cons, List.not_mem_nil, or_false]; rintro x (rfl | rfl | rfl | rfl | rfl | rfl) <;> assumption))) (r, p) hm)
  have p4 : ∀ a b c d e f g h i j : Nat, a < 2 → b < 2 → c < 2 → d < 2 → e < 2 → f < 2 → g < 2 → h < 2 → i < 2 → j < 2 → playN 0 0 4 ((spotsN 0 0 4).zip [a, b, c, d, e, f, g, h, i, j]) = some [y4 [a, b, c, d, e, f, g, h, i, j]] := fun a b c d e f g h i j ha hb hc hd he hf hg hh hi hj =>
    eq_of_beq (List.all_eq_true.mp play4 [a, b, c, d, e, f, g, h, i, j] (mem_bits [a, b, c, d, e, f, g, h, i, j] (by simp only [List.mem_cons, List.not_mem_nil, or_false]; rintro x (rfl | rfl | rfl | rfl | rfl | rfl | rfl | rfl | rfl | rfl) <;> assumption)))
  have fJ1 : ∀ q ∈ K0, q + 8 ∈ K0 → Φ aJ [kD K0 fun q => .int (bit0 q : Nat), .int ((q / 8 : Nat) : Int), .int ((q % 8 : Nat) : Int), .int ((2 : Nat) : Int)] = some (.lst [.int (maj (bit0 q) (bit0 (q + 8)) (bit0 (q + 9)) : Nat)]) := fun q hq hq8 => by
    have hm : ∀ q ∈ K0, q + 8 ∈ K0 → (q / 8, q % 8) ∈ ([(0, 0), (1, 0), (1, 1), (2, 0), (2, 1), (2, 2)] : List (Nat × Nat)) ∧ spotsN (q / 8) (q % 8) 2 = [q, q + 8, q + 9] ∧ q + 9 ∈ K0 := by decide
    obtain ⟨h1, h2, h3⟩ := hm q hq hq8
    have hp := p2 (q / 8) (q % 8) (bit0 q) (bit0 (q + 8)) (bit0 (q + 9)) h1 (bit2 _) (bit2 _) (bit2 _)
    exact fJ (q / 8) (q % 8) 2 (by decide) _ ((spotsN (q / 8) (q % 8) 2).zip [bit0 q, bit0 (q + 8), bit0 (q + 9)]) (by rw [h2]; simp) (by rw [h2]; rfl) (by
      rw [h2]
      show ∀ x ∈ [(q, bit0 q), (q + 8, bit0 (q + 8)), (q + 9, bit0 (q + 9))], _
      simp only [List.mem_cons, List.not_mem_nil, or_false]
      rintro x (rfl | rfl | rfl)
      · exact st0g _ hq
      · exact st0g _ hq8
      · exact st0g _ h3) _ hp
  obtain ⟨J1, hJ1⟩ : ∃ J : Nat → Nat, J = fun q => maj (bit0 q) (bit0 (q + 8)) (bit0 (q + 9)) := ⟨_, rfl⟩
  obtain ⟨J2, hJ2⟩ : ∃ J : Nat → Nat, J = fun q => maj (J1 q) (J1 (q + 8)) (J1 (q + 9)) := ⟨_, rfl⟩
  obtain ⟨J3, hJ3⟩ : ∃ J : Nat → Nat, J = fun q => maj (J2 q) (J2 (q + 8)) (J2 (q + 9)) := ⟨_, rfl⟩
  have fJ2 : ∀ q ∈ K1, q + 8 ∈ K1 → Φ aJ [kD K0 fun q => .int (bit0 q : Nat), .int ((q / 8 : Nat) : Int), .int ((q % 8 : Nat) : Int), .int ((3 : Nat) : Int)] = some (.lst [.int (J2 q : Nat)]) := fun q hq hq8 => by
    have hm : ∀ q ∈ K1, q + 8 ∈ K1 → (q / 8, q % 8) ∈ ([(0, 0), (1, 0), (1, 1)] : List (Nat × Nat)) ∧ spotsN (q / 8) (q % 8) 3 = [q, q + 8, q + 9, q + 16, q + 17, q + 18] ∧ q ∈ K0 ∧ q + 8 ∈ K0 ∧ q + 9 ∈ K0 ∧ q + 16 ∈ K0 ∧ q + 17 ∈ K0 ∧ q + 18 ∈ K0 := by decide
    obtain ⟨h1, h2, g1, g2, g3, g4, g5, g6⟩ := hm q hq hq8
    have hp := p3 (q / 8) (q % 8) (bit0 q) (bit0 (q + 8)) (bit0 (q + 9)) (bit0 (q + 16)) (bit0 (q + 17)) (bit0 (q + 18)) h1 (bit2 _) (bit2 _) (bit2 _) (bit2 _) (bit2 _) (bit2 _)
    have e : J2 q = maj (maj (bit0 q) (bit0 (q + 8)) (bit0 (q + 9))) (maj (bit0 (q + 8)) (bit0 (q + 16)) (bit0 (q + 17))) (maj (bit0 (q + 9)) (bit0 (q + 17)) (bit0 (q + 18))) := by rw [hJ2, hJ1]
    rw [e]
    exact fJ (q / 8) (q % 8) 3 (by decide) _ ((spotsN (q / 8) (q % 8) 3).zip [bit0 q, bit0 (q + 8), bit0 (q + 9), bit0 (q + 16), bit0 (q + 17), bit0 (q + 18)]) (by rw [h2]; simp) (by rw [h2]; rfl) (by
      rw [h2]
      show ∀ x ∈ [(q, bit0 q), (q + 8, bit0 (q + 8)), (q + 9, bit0 (q + 9)), (q + 16, bit0 (q + 16)), (q + 17, bit0 (q + 17)), (q + 18, bit0 (q + 18))], _
      simp only [List.mem_cons, List.not_mem_nil, or_false]
      rintro x (rfl | rfl | rfl | rfl | rfl | rfl)
      · exact st0g _ g1
      · exact st0g _ g2
      · exact st0g _ g3
      · exact st0g _ g4
      · exact st0g _ g5
      · exact st0g _ g6) _ hp
  have fJ3 : ∀ q ∈ K2, q + 8 ∈ K2 → Φ aJ [kD K0 fun q => .int (bit0 q : Nat), .int ((q / 8 : Nat) : Int), .int ((q % 8 : Nat) : Int), .int ((4 : Nat) : Int)] = some (.lst [.int (J3 q : Nat)]) := fun q hq hq8 => by
    have hm : ∀ q ∈ K2, q + 8 ∈ K2 → q = 0 := by decide
    have h0 := hm q hq hq8
    subst h0
    have hp := p4 (bit0 0) (bit0 8) (bit0 9) (bit0 16) (bit0 17) (bit0 18) (bit0 24) (bit0 25) (bit0 26) (bit0 27) (bit2 _) (bit2 _) (bit2 _) (bit2 _) (bit2 _) (bit2 _) (bit2 _) (bit2 _) (bit2 _) (bit2 _)
    have e : J3 0 = y4 [bit0 0, bit0 8, bit0 9, bit0 16, bit0 17, bit0 18, bit0 24, bit0 25, bit0 26, bit0 27] := by rw [hJ3, hJ2, hJ1]; rfl
    rw [e]
    exact fJ 0 0 4 (by decide) _ ((spotsN 0 0 4).zip [bit0 0, bit0 8, bit0 9, bit0 16, bit0 17, bit0 18, bit0 24, bit0 25, bit0 26, bit0 27]) (show 10 ≤ 100 by decide) (by rfl) (by
      show ∀ x ∈ [(0, bit0 0), (8, bit0 8), (9, bit0 9), (16, bit0 16), (17, bit0 17), (18, bit0 18), (24, bit0 24), (25, bit0 25), (26, bit0 26), (27, bit0 27)], _
      simp only [List.mem_cons, List.not_mem_nil, or_false]
      rintro x (rfl | rfl | rfl | rfl | rfl | rfl | rfl | rfl | rfl | rfl)
      · exact st0g 0 (by decide)
      · exact st0g 8 (by decide)
      · exact st0g 9 (by decide)
      · exact st0g 16 (by decide)
      · exact st0g 17 (by decide)
      · exact st0g 18 (by decide)
      · exact st0g 24 (by decide)
      · exact st0g 25 (by decide)
      · exact st0g 26 (by decide)
      · exact st0g 27 (by decide)
      ) _ hp
  have J1l : ∀ q, J1 q < 2 := fun q => by rw [hJ1]; exact maj_lt _ _ _
  have J2l : ∀ q, J2 q < 2 := fun q => by rw [hJ2]; exact maj_lt _ _ _
  have h9 : (∀ q ∈ K0, q + 8 ∈ K0 → q + 9 ∈ K0) ∧ (∀ q ∈ K1, q + 8 ∈ K1 → q + 9 ∈ K1) ∧ (∀ q ∈ K2, q + 8 ∈ K2 → q + 9 ∈ K2) := by decide
  have sub : (∀ q ∈ K1, q ∈ K0) ∧ (∀ q ∈ K2, q ∈ K0) ∧ K0.Nodup ∧ K1.Nodup ∧ K2.Nodup := by decide
  have fl : (K0.filter fun q => K0.contains (q + 8)) = K1 ∧ (K1.filter fun q => K1.contains (q + 8)) = K2 := by decide
  have hus : ∀ q, us (base + 32 * lf (cc q)) = us (base + 32 * bit0 q) := fun q => by
    rw [hbit, ← us_mod (base + 32 * lf (cc q)), ← us_mod (base + 32 * (lf (cc q) % 2))]
    congr 1
    omega
  have hstep : ∀ (J : Nat → Nat), (∀ q, J q < 2) → ∀ q, (base + 32 * J q) % 64 < 2 ^ 20 ∧ us ((base + 32 * J q) % 64) = us (base + 32 * J q) := fun J _ q => ⟨by omega, us_mod _⟩
  refine Ends.bindD (P := fun σ ρ => σ = []) ?loop ?fin
  case fin =>
    rintro σ ρ rfl
    simp -implicitDefEqProofs only [fnD_eq, st_Try, st_While, st_Append, blD_cons, blD_nil, contD_next, contD_ret, retV, st_Assign, st_Return, st_If, assign_plain, assign_list, assign_comp, assign_tuple, plA1, plA2, plA3, plA4, plA5, plA6, plA7, plA8, plA9, plA10, bindS_nm, bindS_tuple, bindD_name, bindD_tup, bindD_lst, bindAll_nil, bindAll_cons, noneOwned_nil, noneOwned_cons, ev_Name, ev_Const, ev_BinOp, ev_USub, negD_int, cmpE_1, cmpE_2, ev_Compare, ev_BoolOp, boolE_or, boolE_and, boolV_bool, evsD_nil, evsD_cons, ev_Tuple, ev_List, ev_Sub, ev_Slice, plI1, plI2, plI3, plI4, plI5, plI6, plS1, plS2, plT1, plT2, plT3, pb_name, pb_const, pb_sub, pb_meth, ev_Call, callD_ref, callD_blt, callD_type, ev_Meth, meth_replace, meth_plain, tst_Compare, tst_BoolOp, tst_Not, tst_Call, tst_Sub, tst1_Compare, tst0_Compare, tst1_Call, tst0_Call, tst1_Sub, allD_and, allD_or, allD_and0, allD_or0, nameD_cons, kindD, storable_cons, upd_at, argsR_cons, argsR_nil, vis_nil, thawR_nil, thawS_nil, drp_nil, constD, vis_one, drp_one, thawR_one, thawS_one, noneOwned_one, noneOwned_one0, append_one, Ends_next, Option.bind_some, Option.bind_none, Option.bind_assoc, String.reduceEq, String.reduceNe, ne_eq, not_false_eq_true, not_true_eq_false, List.length_cons, List.length_nil, List.map_cons, List.map_nil, Nat.reduceAdd, Nat.reduceLeDiff, Nat.reduceLT, Nat.reduceBEq, if_true, if_false, reduceIte, Bool.false_eq_true, BEq.rfl, beq_self_eq_true, reduceCtorEq, and_self, and_true, true_and, ite_self]
  refine for_ends (Q := RInv K1 K0 J1 (fun q => (base + 32 * J1 q) % 64) (fun q => lk0 (cc q)) (fun q => lk1 (cc q)) base (kD K0 fun q => .int (bit0 q : Nat))) ?s1 ?r1 ?n1
  case s1 => simp only [storable_cons, String.reduceEq, reduceIte, if_true, if_false]
  case r1 =>
    rw [← fl.1]
    refine round_ok G Φ own aH aJ aM aD gH gJ gM gD gsum K0 K0 bit0 (fun q => base + 32 * lf (cc q)) (fun q => lk0 (cc q)) (fun q => lk1 (cc q)) J1 base 2 (kD K0 fun q => .int (bit0 q : Nat)) [] _ ?inv sub.2.2.1 (by decide) (fun _ h => h) h9.1 hb64 (fun q _ => bit2 q) (fun q _ => ⟨by have := hle (cc q); omega, hus q⟩) lks lks8 fH (by rw [hJ1]; exact fJ1) (fun q _ _ => by rw [hJ1]) fM fD
    refine ⟨rfl, ?_, ?_, ?_, ?_, ?_, ?_⟩
    all_goals first | (simp -implicitDefEqProofs only [upd_at, String.reduceEq, if_true, if_false, reduceIte, reduceCtorEq]; done) | (simp -implicitDefEqProofs only [upd_at, String.reduceEq, if_true, if_false, reduceIte, reduceCtorEq]; subst hbit hcc; rfl)
  case n1 =>
    intro σ ρ I1
    obtain ⟨hσ, I1'⟩ := I1
    subst hσ
    refine for_ends (Q := RInv K2 K0 J2 (fun q => (base + 32 * J2 q) % 64) (fun q => lk0 (cc q)) (fun q => lk1 (cc q)) base (kD K0 fun q => .int (bit0 q : Nat))) ?s2 ?r2 ?n2
    case s2 => simp only [storable_cons, String.reduceEq, reduceIte, if_true, if_false]
    case r2 =>
      rw [← fl.2]
      exact round_ok G Φ own aH aJ aM aD gH gJ gM gD gsum K1 K0 J1 (fun q => (base + 32 * J1 q) % 64) (fun q => lk0 (cc q)) (fun q => lk1 (cc q)) J2 base 3 (kD K0 fun q => .int (bit0 q : Nat)) [] _ ⟨rfl, I1'⟩ sub.2.2.2.1 (by decide) sub.1 h9.2.1 hb64 (fun q _ => J1l q) (fun q _ => hstep J1 J1l q) lks lks8 fH fJ2 (fun q _ _ => by rw [hJ2]) fM fD
    case n2 =>
      intro σ ρ I2
      obtain ⟨hσ, I2'⟩ := I2
      subst hσ
      refine for_ends (Q := RInv (K2.filter fun q => K2.contains (q + 8)) K0 J3 (fun q => (base + 32 * J3 q) % 64) (fun q => lk0 (cc q)) (fun q => lk1 (cc q)) base (kD K0 fun q => .int (bit0 q : Nat))) ?s3 ?r3 ?n3
      case s3 => simp only [storable_cons, String.reduceEq, reduceIte, if_true, if_false]
      case r3 =>
        exact round_ok G Φ own aH aJ aM aD gH gJ gM gD gsum K2 K0 J2 (fun q => (base + 32 * J2 q) % 64) (fun q => lk0 (cc q)) (fun q => lk1 (cc q)) J3 base 4 (kD K0 fun q => .int (bit0 q : Nat)) [] _ ⟨rfl, I2'⟩ sub.2.2.2.2 (by decide) sub.2.1 h9.2.2 hb64 (fun q _ => J2l q) (fun q _ => hstep J2 J2l q) lks lks8 fH fJ3 (fun q _ _ => by rw [hJ3]) fM fD
      case n3 =>
        intro σ ρ I3
        exact ⟨σ, ρ, rfl, I3.1⟩
end
end Mine
set_option Elab.async false
set_option maxRecDepth 100000
set_option maxHeartbeats 1000000
namespace Mine
open PySem PySem.Calls PyProof.Rows PySem.W PySem.Spec PySem.Challenge
def ownP (nm x : Str) : Bool := if nm = "_law_joined" then decide (x = "kinds") else false
def dLaw : DefRec := r_law.1.get (by rfl)
def dsP : List DefRec := (defsR pw_ty0061_01).tail
def GP (ad : Str → Addr) : Rho := gOf ad b1P b3P (dsP.map (·.name))
theorem d_eq : defsR pw_ty0061_01 = dLaw :: dsP := by kernel_rfl
theorem ownP_no (nm : Str) (h : nm ≠ "_law_joined") : ownP nm = fun _ => false := by funext x; exact if_neg h
section
variable (ad : Str → Addr)
theorem g_b1 : GP ad (Str.ofString "b1_set") = some (.iset b1P) := by kernel_rfl
theorem g_b3 : GP ad (Str.ofString "b3_exceptions") = some (.dci (b3P.map fun p => (p.1, .str p.2))) := by kernel_rfl
theorem g_range : GP ad (Str.ofString "range") = some (.val (.type "range")) := by kernel_rfl
theorem g_zip : GP ad (Str.ofString "zip") = some (.val (.type "zip")) := by kernel_rfl
theorem g_int : GP ad (Str.ofString "int") = some (.val (.type "int")) := by kernel_rfl
theorem g_len : GP ad (Str.ofString "len") = some (.val (.builtin "len")) := by kernel_rfl
theorem g_sum : GP ad (Str.ofString "sum") = some (.val (.builtin "sum")) := by kernel_rfl
theorem g_abs : GP ad (Str.ofString "abs") = some (.val (.builtin "abs")) := by kernel_rfl
theorem g_max : GP ad (Str.ofString "max") = some (.val (.builtin "max")) := by kernel_rfl
theorem g_min : GP ad (Str.ofString "min") = some (.val (.builtin "min")) := by kernel_rfl
theorem g_ord : GP ad (Str.ofString "ord") = some (.val (.builtin "ord")) := by kernel_rfl
theorem g_chr : GP ad (Str.ofString "chr") = some (.val (.builtin "chr")) := by kernel_rfl
theorem g_fn (x : Str) (h : ((dsP.map (·.name)).contains x && x != "b1_set" && x != "b3_exceptions") = true) : GP ad x = some (.val (.ref (ad x))) := by
  simp only [Bool.and_eq_true, bne_iff_ne] at h
  unfold GP gOf
  rw [if_neg h.1.2, if_neg h.2, if_pos h.1.1]
end
def dLen : List DefRec := after "_law_length" dsP
def dPrep : List DefRec := after "_law_prepared" dLen
def dMix : List DefRec := after "_law_mixed" dsP
theorem q_len : dsP.find? (fun d => d.name = Str.ofString "_law_length") = r_law_length.1 := by kernel_rfl
theorem q_hsv : dsP.find? (fun d => d.name = Str.ofString "hsv_to_rgb") = r_hsv_to_rgb.1 := by kernel_rfl
theorem q_join : dsP.find? (fun d => d.name = Str.ofString "_law_joined") = r_law_joined.1 := by kernel_rfl
theorem q_mix : dsP.find? (fun d => d.name = Str.ofString "_law_mixed") = r_law_mixed.1 := by kernel_rfl
theorem q_due : dsP.find? (fun d => d.name = Str.ofString "_law_due") = r_law_due.1 := by kernel_rfl
theorem q_sign : dLen.find? (fun d => d.name = Str.ofString "_law_sign") = r_law_sign.1 := by kernel_rfl
theorem q_ref : dLen.find? (fun d => d.name = Str.ofString "_law_reference") = r_law_reference.1 := by kernel_rfl
theorem q_prep : dLen.find? (fun d => d.name = Str.ofString "_law_prepared") = r_law_prepared.1 := by kernel_rfl
theorem q_e0 : dLen.find? (fun d => d.name = Str.ofString "_escape_cdata") = r_escape_cdata.1 := by kernel_rfl
theorem q_e1 : dLen.find? (fun d => d.name = Str.ofString "_escape_attrib") = r_escape_attrib.1 := by kernel_rfl
theorem q_e2 : dLen.find? (fun d => d.name = Str.ofString "_escape_attrib_html") = r_escape_attrib_html.1 := by kernel_rfl
theorem q_e3 : dLen.find? (fun d => d.name = Str.ofString "_escape_cdata_c14n") = r_escape_cdata_c14n.1 := by kernel_rfl
theorem q_e4 : dLen.find? (fun d => d.name = Str.ofString "_escape_attrib_c14n") = r_escape_attrib_c14n.1 := by kernel_rfl
theorem q_in : dPrep.find? (fun d => d.name = Str.ofString "in_table_b1") = r_in_table_b1.1 := by kernel_rfl
theorem q_map : dPrep.find? (fun d => d.name = Str.ofString "map_table_b3") = r_map_table_b3.1 := by kernel_rfl
theorem q_tohsv : dMix.find? (fun d => d.name = Str.ofString "rgb_to_hsv") = r_rgb_to_hsv.1 := by kernel_rfl
theorem q_tohls : dMix.find? (fun d => d.name = Str.ofString "rgb_to_hls") = r_rgb_to_hls.1 := by kernel_rfl
theorem names_all : (["hsv_to_rgb", "_law_joined", "_law_mixed", "_law_due", "_law_length", "_escape_cdata", "_escape_attrib", "_escape_attrib_html", "_escape_cdata_c14n", "_escape_attrib_c14n", "_law_sign", "_law_reference", "_law_prepared", "in_table_b1", "map_table_b3", "rgb_to_hsv", "rgb_to_hls"] : List String).all (fun x => (dsP.map (·.name)).contains (Str.ofString x) && Str.ofString x != "b1_set" && Str.ofString x != "b3_exceptions") = true := by kernel_rfl
theorem g_f (ad : Str → Addr) (x : String) (h : x ∈ (["hsv_to_rgb", "_law_joined", "_law_mixed", "_law_due", "_law_length", "_escape_cdata", "_escape_attrib", "_escape_attrib_html", "_escape_cdata_c14n", "_escape_attrib_c14n", "_law_sign", "_law_reference", "_law_prepared", "in_table_b1", "map_table_b3", "rgb_to_hsv", "rgb_to_hls"] : List String)) : GP ad (Str.ofString x) = some (.val (.ref (ad (Str.ofString x)))) := g_fn ad _ (List.all_eq_true.mp names_all x h)
theorem plain_P (ad : Str → Addr) (inj : ∀ x ∈ dsP.map (·.name), ∀ y ∈ dsP.map (·.name), ad x = ad y → x = y) (ns : List Int) (hn : ns.length ≤ 63) :
    fnD' (GP ad) (phiL (GP ad) ad ownP 30 dsP) 30 30 (ownP dLaw.name) (fnNamesOf dLaw) dLaw.body dLaw.scope [.lst (ns.map .int)] = some (.bool true) := by
  have injL : ∀ x ∈ dLen.map (·.name), ∀ y ∈ dLen.map (·.name), ad x = ad y → x = y := inj_after (l := dsP) "_law_length" inj
  have injP : ∀ x ∈ dPrep.map (·.name), ∀ y ∈ dPrep.map (·.name), ad x = ad y → x = y := inj_after (l := dLen) "_law_prepared" injL
  have injM : ∀ x ∈ dMix.map (·.name), ∀ y ∈ dMix.map (·.name), ad x = ad y → x = y := inj_after (l := dsP) "_law_mixed" inj
  have o1 := ownP_no "_law_length" (by rw [ne_eq, ofs_inj]; decide)
  have o2 := ownP_no "_law_sign" (by rw [ne_eq, ofs_inj]; decide)
  have o3 := ownP_no "_law_reference" (by rw [ne_eq, ofs_inj]; decide)
  have o4 := ownP_no "_law_due" (by rw [ne_eq, ofs_inj]; decide)
  have o5 := ownP_no "law" (by rw [ne_eq, ofs_inj]; decide)
  have oj1 : ownP "_law_joined" (Str.ofString "kinds") = true := by unfold ownP; rw [if_pos rfl]; exact decide_eq_true rfl
  have oj2 : ownP "_law_joined" (Str.ofString "group") = false := by unfold ownP; rw [if_pos rfl]; exact decide_eq_false (by rw [ofs_inj]; decide)
  have m : ∀ x ∈ (["hsv_to_rgb", "_law_joined", "_law_mixed", "_law_due", "_law_length", "_escape_cdata", "_escape_attrib", "_escape_attrib_html", "_escape_cdata_c14n", "_escape_attrib_c14n", "_law_sign", "_law_reference", "_law_prepared", "in_table_b1", "map_table_b3", "rgb_to_hsv", "rgb_to_hls"] : List String), GP ad (Str.ofString x) = some (.val (.ref (ad (Str.ofString x)))) := g_f ad
  -- the functions behind prepared
  have fI : ∀ c : Nat, phiL (GP ad) ad ownP 30 dPrep (ad "in_table_b1") [.str (ofL [c])] = some (.bool (decide ((c : Int) ∈ b1P))) := fun c => by
    rw [phi_find injP q_in rfl]
    exact inb1_ok _ _ _ b1P (g_b1 ad) (g_ord ad) c
  have fMp : ∀ c : Nat, (pmapN b3P c).length ≤ 18 → phiL (GP ad) ad ownP 30 dPrep (ad "map_table_b3") [.str (ofL [c])] = some (.str (ofL (pmapN b3P c))) := fun c hc => by
    rw [phi_find injP q_map rfl]
    exact mapb3_ok _ _ _ b3P (g_b3 ad) (g_ord ad) c hc
  -- behind length
  have fS : ∀ n : Nat, phiL (GP ad) ad ownP 30 dLen (ad "_law_sign") [.int (n : Int)] = some (.tup [.str (ofL [(signN n).1]), .str (ofL (signN n).2)]) := fun n => by
    rw [phi_find injL q_sign rfl]
    exact sign_ok _ _ _ (g_chr ad) (by rw [o2]; exact ⟨rfl, rfl⟩) n
  have fR : ∀ w c : Nat, w < 5 → phiL (GP ad) ad ownP 30 dLen (ad "_law_reference") [.int (w : Int), .str (ofL [c])] = some (.str (ofL (escN (escS w) [c]))) := fun w c hw => by
    rw [phi_find injL q_ref rfl, o3]
    exact ref_ok _ _ w c hw
  have fP : ∀ l : List Nat, l.length ≤ 100 → l.all (prepOk b1P b3P) = true → phiL (GP ad) ad ownP 30 dLen (ad "_law_prepared") [.str (ofL l)] = some (.str (ofL (prepN b1P b3P l))) := fun l hl ho => by
    rw [phi_find injL q_prep rfl]
    exact prep_ok _ _ _ b1P b3P _ _ (m "in_table_b1" (by decide)) (m "map_table_b3" (by decide)) fI fMp l hl ho
  have fE0 : ∀ l : List Nat, l.length ≤ 12 → phiL (GP ad) ad ownP 30 dLen (ad "_escape_cdata") [.str (ofL l)] = some (.str (ofL (escN (escS 0) l))) := fun l hl => by
    rw [phi_find injL q_e0 rfl]; exact esc0_ok _ _ _ l hl
  have fE1 : ∀ l : List Nat, l.length ≤ 12 → phiL (GP ad) ad ownP 30 dLen (ad "_escape_attrib") [.str (ofL l)] = some (.str (ofL (escN (escS 1) l))) := fun l hl => by
    rw [phi_find injL q_e1 rfl]; exact esc1_ok _ _ _ l hl
  have fE2 : ∀ l : List Nat, l.length ≤ 12 → phiL (GP ad) ad ownP 30 dLen (ad "_escape_attrib_html") [.str (ofL l)] = some (.str (ofL (escN (escS 2) l))) := fun l hl => by
    rw [phi_find injL q_e2 rfl]; exact esc2_ok _ _ _ l hl
  have fE3 : ∀ l : List Nat, l.length ≤ 12 → phiL (GP ad) ad ownP 30 dLen (ad "_escape_cdata_c14n") [.str (ofL l)] = some (.str (ofL (escN (escS 3) l))) := fun l hl => by
    rw [phi_find injL q_e3 rfl]; exact esc3_ok _ _ _ l hl
  have fE4 : ∀ l : List Nat, l.length ≤ 12 → phiL (GP ad) ad ownP 30 dLen (ad "_escape_attrib_c14n") [.str (ofL l)] = some (.str (ofL (escN (escS 4) l))) := fun l hl => by
    rw [phi_find injL q_e4 rfl]; exact esc4_ok _ _ _ l hl
  -- behind mixed
  have f1 : ∀ k M Dd j : Nat, 1 ≤ Dd → 32 * Dd ≤ M → M ≤ 2 ^ j → j ≤ 20 → ∃ s, phiL (GP ad) ad ownP 30 dMix (ad "rgb_to_hsv") [.flt (X (M - Dd * (us k).1) j), .flt (X (M - Dd * (us k).2.1) j), .flt (X (M - Dd * (us k).2.2) j)] = some (.tup [.flt (X (k % 64) 6), .flt s, .flt (X M j)]) := fun k M Dd j h1 h2 h3 h4 => by
    rw [phi_find injM q_tohsv rfl]
    exact tohsv_ok _ _ _ (g_max ad) (g_min ad) k M Dd j h1 h2 h3 h4
  have f2 : ∀ k M Dd j : Nat, 1 ≤ Dd → 32 * Dd ≤ M → M ≤ 2 ^ j → j ≤ 20 → ∃ s, phiL (GP ad) ad ownP 30 dMix (ad "rgb_to_hls") [.flt (X (M - Dd * (us k).1) j), .flt (X (M - Dd * (us k).2.1) j), .flt (X (M - Dd * (us k).2.2) j)] = some (.tup [.flt (X (k % 64) 6), .flt (X (M + (M - 32 * Dd)) (j + 1)), .flt s]) := fun k M Dd j h1 h2 h3 h4 => by
    rw [phi_find injM q_tohls rfl]
    exact tohls_ok _ _ _ (g_max ad) (g_min ad) k M Dd j h1 h2 h3 h4
  -- behind the law
  have run : fnD' (GP ad) (phiL (GP ad) ad ownP 30 dsP) 30 30 (ownP dLaw.name) (fnNamesOf dLaw) dLaw.body dLaw.scope [.lst (ns.map .int)] = runR r_law.1 (GP ad) (phiL (GP ad) ad ownP 30 dsP) (ownP dLaw.name) [.lst (ns.map .int)] := rfl
  rw [run]
  have hname : dLaw.name = Str.ofString "law" := rfl
  rw [hname, o5]
  refine law_plain _ _ _ (ad "hsv_to_rgb") (ad "_law_joined") (ad "_law_mixed") (ad "_law_due") (ad "_law_length") (ad "_escape_cdata") (ad "_escape_attrib") (ad "_escape_attrib_html") (ad "_escape_cdata_c14n") (ad "_escape_attrib_c14n") rfl (g_zip ad) (g_range ad) (g_sum ad)
    (m "_law_length" (by decide)) (m "_escape_cdata" (by decide)) (m "_escape_attrib" (by decide)) (m "_escape_attrib_html" (by decide)) (m "_escape_cdata_c14n" (by decide)) (m "_escape_attrib_c14n" (by decide)) (m "hsv_to_rgb" (by decide)) (m "_law_joined" (by decide)) (m "_law_mixed" (by decide)) (m "_law_due" (by decide))
    ?fL ?fH ?fJ ?fM ?fD ns hn
  case fL =>
    intro w n hw aE hE
    rw [phi_find inj q_len rfl, o1]
    refine len_ok _ _ _ (ad "_law_sign") (ad "_law_reference") (ad "_law_prepared") aE w n hw rfl (m "_law_sign" (by decide)) (m "_law_reference" (by decide)) (m "_law_prepared" (by decide)) (g_len ad) fS (fun c => fR w c hw) ?_ fP
    rcases hE with ⟨rfl, rfl⟩ | ⟨rfl, rfl⟩ | ⟨rfl, rfl⟩ | ⟨rfl, rfl⟩ | ⟨rfl, rfl⟩
    · exact fE0
    · exact fE1
    · exact fE2
    · exact fE3
    · exact fE4
  case fH =>
    intro k S V hk hS hV
    rw [phi_find inj q_hsv rfl]
    exact hsv_ok _ _ _ (g_int ad) k S V hk hS hV
  case fJ =>
    intro r p s hs st free hl hf look ks hp
    rw [phi_find inj q_join rfl]
    exact join_ok _ _ _ r p s hs st (g_range ad) (g_len ad) (g_abs ad) oj1 oj2 free hl hf look ks hp
  case fM =>
    intro base b0 b1 b2 l0 l1 l2 e0 e1 e2 k0 k1 k2 h0 h1 h2 r0 r1 r2 t0 t1 t2 u0 u1 u2
    rw [phi_find inj q_mix rfl]
    exact mix_ok _ _ _ (ad "rgb_to_hsv") (ad "rgb_to_hls") (g_range ad) (g_sum ad) (m "rgb_to_hsv" (by decide)) (m "rgb_to_hls" (by decide)) f1 f2 base b0 b1 b2 l0 l1 l2 e0 e1 e2 k0 k1 k2 h0 h1 h2 r0 r1 r2 t0 t1 t2 u0 u1 u2
  case fD =>
    intro q mm b0 b1 b2 l0 l1 l2 k0 k1 k2 base h1 h2 h3 held looks e0 e1 e2 t0 t1 t2
    rw [phi_find inj q_due rfl, o4]
    exact due_ok _ _ _ rfl (g_sum ad) q mm b0 b1 b2 l0 l1 l2 k0 k1 k2 base h1 h2 h3 held looks e0 e1 e2 t0 t1 t2
theorem b1_at : ∃ st ∈ behindTheImports pw_ty0061_01, topName st = "b1_set" ∧ setOf? st = some b1P := by
  have h : ((behindTheImports pw_ty0061_01).findSome? fun st => if topName st = "b1_set" then setOf? st else none) = some b1P := by unfold b1P; simp
  obtain ⟨l, st, r, e, hs, _⟩ := List.findSome?_eq_some_iff.mp h
  by_cases hn : topName st = "b1_set"
  · rw [if_pos hn] at hs
    exact ⟨st, by rw [e]; simp, hn, hs⟩
  · rw [if_neg hn] at hs; cases hs
theorem b3_at : ∃ st ∈ behindTheImports pw_ty0061_01, topName st = "b3_exceptions" ∧ dictOf? st = some b3P := by
  have h : ((behindTheImports pw_ty0061_01).findSome? fun st => if topName st = "b3_exceptions" then dictOf? st else none) = some b3P := by unfold b3P; simp
  obtain ⟨l, st, r, e, hs, _⟩ := List.findSome?_eq_some_iff.mp h
  by_cases hn : topName st = "b3_exceptions"
  · rw [if_pos hn] at hs
    exact ⟨st, by rw [e]; simp, hn, hs⟩
  · rw [if_neg hn] at hs; cases hs
theorem b3_len : decide (b3P.length ≤ sizeLine) = true := by kernel_rfl
theorem the_def : pw_ty0061_01.theDef "law" = some (dLaw.params, dLaw.body, dLaw.scope) := by kernel_rfl
theorem ds_len : decide (dsP.length ≤ 40) = true := by kernel_rfl
end Mine
theorem PySem.Challenge.cw_ty0061_01_holds : PySem.Challenge.rw_ty0061_01.Holds :=
  Mine.law_final (l := PySem.Challenge.rw_ty0061_01) (d := Mine.dLaw) (ds := Mine.dsP) (b1 := Mine.b1P) (b3 := Mine.b3P) (own := Mine.ownP) (N := 30) Mine.c_said rfl rfl rfl Mine.c_promised Mine.c_bare Mine.c_ow Mine.c_hop Mine.c_fence Mine.c_ann Mine.c_doc Mine.c_mods Mine.c_ok
    (fun e he => Mine.defs_mem Mine.c_recs e (by rw [Mine.d_eq]; exact he)) (of_decide_eq_true Mine.ds_len) rfl Mine.the_def Mine.b1_at Mine.b3_at (of_decide_eq_true Mine.b3_len) Mine.plain_P
